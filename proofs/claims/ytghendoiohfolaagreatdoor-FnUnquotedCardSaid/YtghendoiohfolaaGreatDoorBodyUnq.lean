/- The package's unquote of a literal's text. -/
import Derived.Test.YtghendoiohfolaaGreatDoorCallSmall
import Derived.Test.YtghendoiohfolaaGreatDoorWRune
import Derived.Test.YtghendoiohfolaaGreatDoorUnqTab
import Derived.Test.YtghendoiohfolaaGreatDoorScanLit
import Derived.Deep.DeepCutAuto
import Derived.Deep.CutBlock
namespace Go.Proofs.YtghendoiohfolaaGreatDoor
set_option linter.unusedSimpArgs false
set_option linter.unusedVariables false
set_option linter.unnecessarySimpa false
open Go.RowKit
theorem results_tmp4 {fn : Func} {t u v x : Tmp} (h : fn.results = #[.tmp t, .tmp u, .tmp v, .tmp x]) (tmps : Array Value) (P : Program) (w : World) :
    (results fn tmps).run P w = .ok (.tuple #[tmps.getD t undef, tmps.getD u undef, tmps.getD v undef, tmps.getD x undef]) w := by simp [results, h]
/-- What unquote answers. -/
def UqPost (raw by_ : Bool) (B : List UInt8) (w : World) (e : Ending) (w' : World) : Prop :=
  Below w.heap.size w w' ∧ ((∃ T tr, den raw by_ B = some T ∧ e = .returned (.tuple #[.string ⟨T.toArray⟩, .bool tr, .bool by_, .nilIface])) ∨ (den raw by_ B = none ∧ ∃ S tr tt p, e = .returned (.tuple #[.string S, .bool tr, .bool by_, .iface tt (.pointer (some p))])))
theorem litL_head (a B : List UInt8) (wd : Nat) (q : UInt8) (hwd : wd = 1 ∨ wd = 3) : pk (litL a wd q B) 0 = if a = [] then q else pk a 0 := by
  have h := pk_open (a := a) (B := B) (wd := wd) (q := q) (i := a.length) (j := 0) [] (by rcases hwd with rfl | rfl <;> omega) rfl
  have h2 := fun hl => pk_ahead (a := a) (B := B) (wd := wd) (q := q) (i := 0) [] hl
  rw [List.append_nil] at h h2
  by_cases ha : a = []
  · rw [if_pos ha]
    subst ha
    exact h
  · rw [if_neg ha]
    exact h2 (List.length_pos_iff.2 ha)
theorem litL_tail (c : UInt8) (a B : List UInt8) (wd : Nat) (q : UInt8) : (litL (c :: a) wd q B).drop 1 = litL a wd q B := rfl
theorem sb_below {w w' : World} {B b : Nat} {l : List UInt8} (h : SB w B b l) (hb : Below w.heap.size w w') : SB w' B b l := h.only (S := fun _ => False) (Only.of_below hb) (fun h => h) (fun _ hg => hg.elim)
def strLen : Value → Nat | .string s => s.size | _ => 0
theorem ten_of {c x : UInt8} (h : one? c = some x) : c = 97 ∨ c = 98 ∨ c = 102 ∨ c = 110 ∨ c = 114 ∨ c = 116 ∨ c = 118 ∨ c = 92 ∨ c = 39 ∨ c = 34 := by
  have key : ∀ k : Fin 256, (one? (UInt8.ofNat k.1)).isSome = true → (UInt8.ofNat k.1 = 97 ∨ UInt8.ofNat k.1 = 98 ∨ UInt8.ofNat k.1 = 102 ∨ UInt8.ofNat k.1 = 110 ∨ UInt8.ofNat k.1 = 114 ∨ UInt8.ofNat k.1 = 116 ∨ UInt8.ofNat k.1 = 118 ∨ UInt8.ofNat k.1 = 92 ∨ UInt8.ofNat k.1 = 39 ∨ UInt8.ofNat k.1 = 34) := by decide +kernel
  have := key ⟨c.toNat, c.toNat_lt⟩
  simp only [UInt8.ofNat_toNat] at this
  exact this (by rw [h]; rfl)
theorem not_ten {c : UInt8} (h : one? c = none) : c.toNat ≠ 97 ∧ c.toNat ≠ 98 ∧ c.toNat ≠ 102 ∧ c.toNat ≠ 110 ∧ c.toNat ≠ 114 ∧ c.toNat ≠ 116 ∧ c.toNat ≠ 118 ∧ c.toNat ≠ 92 ∧ c.toNat ≠ 39 ∧ c.toNat ≠ 34 := by
  have key : ∀ k : Fin 256, one? (UInt8.ofNat k.1) = none → ((UInt8.ofNat k.1).toNat ≠ 97 ∧ (UInt8.ofNat k.1).toNat ≠ 98 ∧ (UInt8.ofNat k.1).toNat ≠ 102 ∧ (UInt8.ofNat k.1).toNat ≠ 110 ∧ (UInt8.ofNat k.1).toNat ≠ 114 ∧ (UInt8.ofNat k.1).toNat ≠ 116 ∧ (UInt8.ofNat k.1).toNat ≠ 118 ∧ (UInt8.ofNat k.1).toNat ≠ 92 ∧ (UInt8.ofNat k.1).toNat ≠ 39 ∧ (UInt8.ofNat k.1).toNat ≠ 34) := by decide +kernel
  have := key ⟨c.toNat, c.toNat_lt⟩
  simp only [UInt8.ofNat_toNat] at this
  exact this h
theorem oct_of {c : UInt8} (h : 48 ≤ c.toNat ∧ c.toNat ≤ 55) : c = 48 ∨ c = 49 ∨ c = 50 ∨ c = 51 ∨ c = 52 ∨ c = 53 ∨ c = 54 ∨ c = 55 := by
  have key : ∀ k : Fin 256, 48 ≤ k.1 ∧ k.1 ≤ 55 → (UInt8.ofNat k.1 = 48 ∨ UInt8.ofNat k.1 = 49 ∨ UInt8.ofNat k.1 = 50 ∨ UInt8.ofNat k.1 = 51 ∨ UInt8.ofNat k.1 = 52 ∨ UInt8.ofNat k.1 = 53 ∨ UInt8.ofNat k.1 = 54 ∨ UInt8.ofNat k.1 = 55) := by decide +kernel
  have := key ⟨c.toNat, c.toNat_lt⟩
  simp only [UInt8.ofNat_toNat] at this
  exact this h
theorem esc_none_cls (by_ : Bool) (c : UInt8) (t : List UInt8) (h : one? c = none) (h1 : c ≠ 120) (h2 : c ≠ 117) (h3 : c ≠ 85) : esc by_ (92 :: c :: t) = octA by_ (92 :: c :: t) := by
  rw [esc_split by_ 92 c t h, if_neg h1, if_neg h2, if_neg h3]
theorem octA_of (by_ : Bool) (b c : UInt8) (t : List UInt8) (n m : Nat) (h : octV 3 0 (c :: t) = (n, m)) (hm : 1 ≤ m) : octA by_ (b :: c :: t) = codedP n true by_ (1 + m) := by
  unfold octA
  rw [List.drop_one, List.tail_cons, h]
  exact if_neg (by omega)
theorem octA_no (by_ : Bool) (b c : UInt8) (t : List UInt8) (h : ¬ (48 ≤ c.toNat ∧ c.toNat ≤ 55)) : octA by_ (b :: c :: t) = none := by
  unfold octA
  rw [List.drop_one, List.tail_cons, octV_stop h]
  rfl
theorem dig_of (by_ : Bool) (b c : UInt8) (t : List UInt8) : one? 120 = none ∧ one? 117 = none ∧ one? 85 = none := by decide
theorem esc_x (by_ : Bool) (b : UInt8) (t : List UInt8) : esc by_ (b :: 120 :: t) = digA by_ true 2 t := by rw [esc_split by_ b 120 t (by decide), if_pos rfl]
theorem esc_u (by_ : Bool) (b : UInt8) (t : List UInt8) : esc by_ (b :: 117 :: t) = digA by_ false 4 t := by rw [esc_split by_ b 117 t (by decide), if_neg (by decide), if_pos rfl]
theorem esc_U (by_ : Bool) (b : UInt8) (t : List UInt8) : esc by_ (b :: 85 :: t) = digA by_ false 8 t := by rw [esc_split by_ b 85 t (by decide), if_neg (by decide), if_neg (by decide), if_pos rfl]
theorem digA_short {by_ one : Bool} {D : Nat} {t : List UInt8} (h : t.length < D) : digA by_ one D t = none := by unfold digA; rw [if_pos h]
theorem digA_bad {by_ one : Bool} {D : Nat} {t : List UInt8} (h : hexV 0 (t.take D) = none) : digA by_ one D t = none := by
  unfold digA
  split
  · rfl
  · rw [h]
theorem digA_ok {by_ one : Bool} {D n : Nat} {t : List UInt8} (hl : ¬ t.length < D) (h : hexV 0 (t.take D) = some n) : digA by_ one D t = codedP n one by_ (2 + D) := by
  unfold digA
  rw [if_neg hl, h]
/-- The loop's state: what is left of the body, what was written. -/
def UqI (by_ : Bool) (B : List UInt8) (V : Nat) (w4 : World) (s0 s5 : Value) (wr : World) : Prop :=
  ∃ (x : ByteArray) (out : List UInt8), s0 = .string x ∧ s5 = .nilIface ∧ out.length + 4 * x.size ≤ 4000 ∧ Hid (PlainL x.data.toList) ∧ Hid ((10 : UInt8) ∉ x.data.toList) ∧ Hid (SB wr V V out) ∧ Hid (Below V w4 wr) ∧ Hid (unq by_ B = (unq by_ x.data.toList).map (out ++ ·))
theorem HexPost2Def (t : ByteArray) (w : World) : HexPost2 t w = fun e w' => Below w.heap.size w w' ∧ ((∃ n : Nat, hexV 0 t.data.toList = some n ∧ n < 4294967296 ∧ e = .returned (.tuple #[.int .u64 n, .nilIface])) ∨ (hexV 0 t.data.toList = none ∧ ∃ (n : Int) (tt : TypeId) (p : Addr), e = .returned (.tuple #[.int .u64 n, .iface tt (.pointer (some p))]))) := rfl
set_option maxRecDepth 20000 in
set_option maxHeartbeats 16000000 in
theorem unquote_any (t : ByteArray) (a B : List UInt8) (wd : Nat) (q : UInt8) (w : World) (hform : a = [] ∨ a = [114] ∨ a = [98] ∨ a = [114, 98]) (hwd : wd = 1 ∨ wd = 3) (hq : q = 34 ∨ q = 39) (hB : Body q B) (hp : PlainL B) (ht : t.data.toList = litL a wd q B)
    (hE : ErrOk w) (hU : UnescT w) :
    Calls Tryz.prog 17 #[.string t] w (UqPost (a.contains 114) (a.contains 98) B w) := by
  have hbl := hB.len
  have hal : a.length ≤ 2 := by rcases hform with rfl | rfl | rfl | rfl <;> simp
  have htl : t.data.toList.length = t.size := by simp
  have hN : t.size = a.length + wd + B.length + wd := by rw [← htl, ht, litL_len]
  have ht2 : 2 ≤ t.size := by rcases hwd with rfl | rfl <;> omega
  have ht3 : t.size ≤ 2000 := by rcases hwd with rfl | rfl <;> omega
  obtain ⟨raw, hraw⟩ : ∃ raw, raw = a.contains 114 := ⟨_, rfl⟩
  obtain ⟨by_, hby⟩ : ∃ by_, by_ = a.contains 98 := ⟨_, rfl⟩
  rw [← hraw, ← hby]
  have HR : Hid ((pk t.data.toList 0 == 114) = raw) := by
    unfold Hid
    rw [hraw, ht, litL_head a B wd q hwd]
    rcases hform with rfl | rfl | rfl | rfl <;> rcases hq with rfl | rfl <;> rfl
  have HT1 : Hid (∃ t1 : ByteArray, (raw = true → t.extract 1 t.size = t1) ∧ (raw = false → t = t1) ∧ 2 ≤ t1.size ∧ t1.size ≤ 2000 ∧ (pk t1.data.toList 0 == 98) = by_ ∧ ∃ t2 : ByteArray, (by_ = true → t1.extract 1 t1.size = t2) ∧ (by_ = false → t1 = t2) ∧ t2.data.toList = litL [] wd q B) := by
    have hx : ∀ (x : ByteArray) (c : UInt8) (b : List UInt8), x.data.toList = litL (c :: b) wd q B → (x.extract 1 x.size).data.toList = litL b wd q B := by
      intro x c b hx
      rw [ext_data, hx, litL_tail]
    have hz : ∀ (x : ByteArray) (b : List UInt8), x.data.toList = litL b wd q B → b.length ≤ 2 → 2 ≤ x.size ∧ x.size ≤ 2000 := by
      intro x b hx hb
      have h1 : x.data.toList.length = x.size := by simp
      rw [hx, litL_len] at h1
      rcases hwd with rfl | rfl <;> omega
    have hh : ∀ (x : ByteArray) (b : List UInt8), x.data.toList = litL b wd q B → pk x.data.toList 0 = if b = [] then q else pk b 0 := by
      intro x b hx
      rw [hx, litL_head b B wd q hwd]
    rcases hform with rfl | rfl | rfl | rfl
    · refine ⟨t, fun h => by rw [hraw] at h; simp at h, fun _ => rfl, (hz t [] ht (by simp)).1, (hz t [] ht (by simp)).2, ?_, t, fun h => by rw [hby] at h; simp at h, fun _ => rfl, ht⟩
      rw [hh t [] ht, hby]
      rcases hq with rfl | rfl <;> rfl
    · have h1 := hx t 114 [] ht
      refine ⟨_, fun _ => rfl, fun h => by rw [hraw] at h; simp at h, (hz _ [] h1 (by simp)).1, (hz _ [] h1 (by simp)).2, ?_, _, fun h => by rw [hby] at h; simp at h, fun _ => rfl, h1⟩
      rw [hh _ [] h1, hby]
      rcases hq with rfl | rfl <;> rfl
    · have h1 := hx t 98 [] ht
      refine ⟨t, fun h => by rw [hraw] at h; simp at h, fun _ => rfl, (hz t [98] ht (by simp)).1, (hz t [98] ht (by simp)).2, ?_, _, fun _ => rfl, fun h => by rw [hby] at h; simp at h, h1⟩
      rw [hh t [98] ht, hby]
      rfl
    · have h1 := hx t 114 [98] ht
      have h2 := hx _ 98 [] h1
      refine ⟨_, fun _ => rfl, fun h => by rw [hraw] at h; simp at h, (hz _ [98] h1 (by simp)).1, (hz _ [98] h1 (by simp)).2, ?_, _, fun _ => rfl, fun h => by rw [hby] at h; simp at h, h2⟩
      rw [hh _ [98] h1, hby]
      rfl
  obtain ⟨t1, ht1a, ht1b, hz1, hz1', hp1, t2, ht2a, ht2b, ht2d⟩ := HT1.out
  have HP1 := Lib.hid hp1
  have HT2 := Lib.hid ht2d
  have H1a := Lib.hid ht1a
  have H1b := Lib.hid ht1b
  have H2a := Lib.hid ht2a
  have H2b := Lib.hid ht2b
  have HB := Lib.hid hB
  have HP := Lib.hid hp
  have HWD := Lib.hid hwd
  have HQ := Lib.hid hq
  have g1 : (1 : Int) ≤ (t.size : Int) := by omega
  have g2 : (1 : Int) ≤ (t1.size : Int) := by omega
  clear hform hal htl hN ht hraw hby ht1a ht1b hp1 ht2a ht2b ht2d hB hp hwd hq HT1
  go_enter Tryz.func17, Tryz.ntmps17
  go_upto_if 19 with (go_at_call 30; refine (has_prefix t 114 _ (by omega) (by omega)).mono ?_; rw [HR.out]; rintro e w' ⟨rfl, rfl⟩)
  go_cut [0, 6] from 18 to 22 (fun s0 s6 wx => s0 = .string t1 ∧ s6 = .bool raw ∧ Hid (Below w.heap.size w wx))
  case first =>
    cases raw with
    | false =>
      have e := H1b.out rfl
      go_wp2
      go_meet
      exact ⟨rfl, rfl, Below.refl _ _⟩
    | true =>
      have e := H1a.out rfl
      go_wp2
      go_meet
      exact ⟨rfl, rfl, Below.refl _ _⟩
  case rest =>
    obtain ⟨rfl, rfl, hb1⟩ := hcut
    go_upto_if 23 with (go_at_call 30; refine (has_prefix t1 98 _ (by omega) (by omega)).mono ?_; rw [HP1.out]; rintro e w' ⟨rfl, rfl⟩)
    go_cut [0, 4] from 22 to 26 (fun s0 s4 wx => s0 = .string t2 ∧ s4 = .bool by_ ∧ Hid (Below w.heap.size w wx))
    case first =>
      cases by_ with
      | false =>
        have e := H2b.out rfl
        go_wp2
        go_meet
        exact ⟨rfl, rfl, hb1⟩
      | true =>
        have e := H2a.out rfl
        go_wp2
        go_meet
        exact ⟨rfl, rfl, hb1⟩
    case rest =>
      obtain ⟨rfl, rfl, hb2⟩ := hcut
      clear hb1
      obtain ⟨u, hu⟩ : ∃ u, u = t2 := ⟨_, rfl⟩
      subst hu
      have hul : u.data.toList.length = u.size := by simp
      have hu1 : u.size = wd + B.length + wd := by rw [← hul, HT2.out, litL_len]; simp
      have hu2 : 2 ≤ u.size := by rcases HWD.out with e | e <;> omega
      have hu3 : u.size ≤ 2000 := by rcases HWD.out with e | e <;> omega
      obtain ⟨n1, hn1⟩ : ∃ n1 : Nat, (u.size : Int) - 1 = (n1 : Int) := ⟨u.size - 1, by omega⟩
      have hn1l : n1 < u.size := by omega
      have h0l : 0 < u.size := by omega
      have pku : ∀ j (h : j < u.size), u[j] = pk (litL [] wd q B) j := fun j h => by
        rw [← HT2.out, pk_at (by rw [hul]; exact h)]; rfl
      have e0 : ((u[0]'h0l).toNat : Int) = (q.toNat : Int) := by
        rw [pku 0 h0l]
        have h := pk_open (a := []) (B := B) (wd := wd) (q := q) (i := 0) (j := 0) [] (by rcases HWD.out with e | e <;> omega) rfl
        rw [List.append_nil] at h
        rw [h]
      have e1 : ((u[n1]'hn1l).toNat : Int) = (q.toNat : Int) := by
        rw [pku n1 hn1l]
        have h := pk_close (a := []) (B := B) (wd := wd) (q := q) (i := n1) (j := wd - 1) [] (by rcases HWD.out with e | e <;> omega) (by simp; rcases HWD.out with e | e <;> omega)
        rw [List.append_nil] at h
        rw [h]
      have gn1 : (n1 : Int) < (u.size : Int) := by omega
      have gn0 : (0 : Int) ≤ (n1 : Int) := by omega
      have gu0 : (0 : Int) < (u.size : Int) := by omega
      have hlen2 : decide ((u.size : Int) < 2) = false := by simp; omega
      have qd : ((q.toNat : Int) != 34) = false ∨ (((q.toNat : Int) != 34) = true ∧ ((q.toNat : Int) != 39) = false) := by
        rcases HQ.out with rfl | rfl
        · exact .inl rfl
        · exact .inr ⟨rfl, rfl⟩
      have hq2 : ((q.toNat : Int) != (q.toNat : Int)) = false := by simp
      have HPKU := Lib.hid pku
      have HUL := Lib.hid hul
      have HU1 := Lib.hid hu1
      clear pku hul hu1
      go_upto_region 10 with fail
      go_cut [47] from 30 to 48 (fun v wx => v = .bool false ∧ Hid (Below w.heap.size w wx))
      case first =>
        rcases qd with qd | ⟨qd, qd2⟩
        all_goals
          go_quiet (fail)
          go_wp2_with fail
          go_meet
          exact ⟨rfl, below_dn hb2.out _⟩
      case rest =>
        obtain ⟨rfl, hb3⟩ := hcut
        clear hb2 qd hq2 e1
        go_upto_region 13 with fail
        have hwd3 : Hid (∃ tr : Bool, (tr = true ↔ wd = 3)) := ⟨decide (wd = 3), by simp⟩
        obtain ⟨tr, htr⟩ := hwd3.out
        have HTR := Lib.hid htr
        clear htr hwd3
        go_cut [75] from 51 to 76 (fun v wx => v = .bool tr ∧ Hid (Below w.heap.size w wx))
        case first =>
          by_cases h3 : wd = 3
          · have htt : tr = true := HTR.out.2 h3
            subst htt
            have hu6 : 6 ≤ u.size := by have := HU1.out; omega
            have h1l : 1 < u.size := by omega
            have h2l : 2 < u.size := by omega
            have f1 : ((u[1]'h1l).toNat : Int) = (q.toNat : Int) := by
              rw [HPKU.out 1 h1l]
              have h := pk_open (a := []) (B := B) (wd := wd) (q := q) (i := 1) (j := 1) [] (by omega) rfl
              rw [List.append_nil] at h
              rw [h]
            have f2 : ((u[2]'h2l).toNat : Int) = (q.toNat : Int) := by
              rw [HPKU.out 2 h2l]
              have h := pk_open (a := []) (B := B) (wd := wd) (q := q) (i := 2) (j := 2) [] (by omega) rfl
              rw [List.append_nil] at h
              rw [h]
            obtain ⟨n3, hn3⟩ : ∃ n3 : Nat, (u.size : Int) - 3 = (n3 : Int) := ⟨u.size - 3, by omega⟩
            have fe : (u.extract 0 3).toList = (u.extract n3 u.size).toList := by
              have h1 : (u.extract 0 3).data.toList = List.replicate 3 q := by
                rw [extract_list, HT2.out, h3]
                show ((litL [] 3 q B).take 3).drop 0 = _
                unfold litL
                rw [List.nil_append, List.drop_zero, List.take_left' (by simp)]
              have h2 : (u.extract n3 u.size).data.toList = List.replicate 3 q := by
                rw [ext_data, HT2.out, h3]
                unfold litL
                rw [List.nil_append, ← List.append_assoc, List.drop_left' (by have := HU1.out; simp; omega)]
              rw [Lib.toList_data, Lib.toList_data, h1, h2]
            have k6 : decide ((6 : Int) ≤ (u.size : Int)) = true := by simp; omega
            have g16 : (1 : Int) < (u.size : Int) := by omega
            have g26 : (2 : Int) < (u.size : Int) := by omega
            have g36 : (3 : Int) ≤ (u.size : Int) := by omega
            have gn3 : (n3 : Int) ≤ (u.size : Int) := by omega
            have gn30 : (0 : Int) ≤ (n3 : Int) := by omega
            have gn3n : n3 ≤ u.size := by omega
            go_quiet (fail)
            go_wp2_with fail
            go_meet
            exact ⟨rfl, below_dn hb3.out _⟩
          · have hw1 : wd = 1 := HWD.out.resolve_right h3
            have htt : tr = false := by
              cases tr with
              | false => rfl
              | true => exact absurd (HTR.out.1 rfl) h3
            subst htt
            by_cases hu6 : 6 ≤ u.size
            · have h1l : 1 < u.size := by omega
              have f1 : ((u[1]'h1l).toNat : Int) ≠ (q.toNat : Int) := by
                rw [HPKU.out 1 h1l]
                have hj : 0 < B.length := by have := HU1.out; omega
                have h := pk_body (a := []) (B := B) (wd := wd) (q := q) (i := 1) (j := 0) [] hj (by rw [hw1]; rfl)
                rw [List.append_nil] at h
                rw [h]
                exact fun e => (HB.out.at_ne hj).1 (UInt8.toNat_inj.1 (Int.ofNat_inj.1 e))
              have f1b : (((u[1]'h1l).toNat : Int) == (q.toNat : Int)) = false := by rw [beq_eq_false_iff_ne]; exact f1
              have f1n : ((u[1]'h1l).toNat == q.toNat) = false := by rw [beq_eq_false_iff_ne]; exact fun e => f1 (by rw [e])
              have k6 : decide ((6 : Int) ≤ (u.size : Int)) = true := by simp; omega
              have g16 : (1 : Int) < (u.size : Int) := by omega
              clear f1
              go_quiet (fail)
              go_wp2_with fail
              go_meet
              exact ⟨rfl, below_dn hb3.out _⟩
            · have k6 : decide ((6 : Int) ≤ (u.size : Int)) = false := by simp; omega
              go_quiet (fail)
              go_wp2_with fail
              go_meet
              exact ⟨rfl, below_dn hb3.out _⟩
        case rest =>
          obtain ⟨rfl, hb4⟩ := hcut
          clear hb3
          have HV : Hid (∃ v : ByteArray, v.data.toList = B ∧ v = u.extract wd (wd + B.length)) := by
            refine ⟨_, ?_, rfl⟩
            rw [extract_list, HT2.out]
            have := litL_cut (a := []) (B := B) (wd := wd) (q := q) []
            rw [List.append_nil, List.length_nil, Nat.zero_add] at this
            exact this
          obtain ⟨v, hvB, hvx⟩ := HV.out
          have HVB := Lib.hid hvB
          have hvs : v.size = B.length := by rw [← hvB]; simp
          have hv2 : v.size ≤ 1000 := by omega
          have HVX := Lib.hid hvx
          clear HV hvB hvx hvs
          go_upto_if 75 with fail
          go_cut [0, 3] from 76 to 86 (fun s0 s3 wx => s0 = .string v ∧ s3 = .bool tr ∧ Hid (Below w.heap.size w wx))
          case first =>
            cases tr with
            | true =>
              have h3 : wd = 3 := HTR.out.1 rfl
              obtain ⟨n3, hn3⟩ : ∃ n3 : Nat, (u.size : Int) - 3 = (n3 : Int) := ⟨u.size - 3, by have := HU1.out; omega⟩
              have gn3 : (n3 : Int) ≤ (u.size : Int) := by omega
              have gn30 : (3 : Int) ≤ (n3 : Int) := by have := HU1.out; omega
              have gn3n : n3 ≤ u.size := by omega
              have gn3m : 3 ≤ n3 := by omega
              have e : u.extract 3 n3 = v := by
                rw [HVX.out, h3]
                congr 1
                have := HU1.out
                omega
              go_wp2
              go_meet
              exact ⟨rfl, rfl, hb4⟩
            | false =>
              have h3 : wd = 1 := HWD.out.resolve_right (fun e => by have := HTR.out.2 e; simp at this)
              have gn10 : (1 : Int) ≤ (n1 : Int) := by omega
              have gn1m : 1 ≤ n1 := by omega
              have gn1n : n1 ≤ u.size := by omega
              have gn1i : (n1 : Int) ≤ (u.size : Int) := by omega
              have e : u.extract 1 n1 = v := by
                rw [HVX.out, h3]
                congr 1
                have := HU1.out
                omega
              go_wp2
              go_meet
              exact ⟨rfl, rfl, hb4⟩
          case rest =>
            obtain ⟨rfl, rfl, hb5⟩ := hcut
            clear hb4
            go_upto_if 86 with fail
            go_cut [8] from 86 to 87 (fun s8 wx => s8 = .string (if raw then csR else csB) ∧ Hid (Below w.heap.size w wx))
            case first =>
              cases raw with
              | true =>
                go_wp2
                go_meet
                exact ⟨rfl, hb5⟩
              | false =>
                go_wp2
                go_meet
                exact ⟨rfl, hb5⟩
            case rest =>
              obtain ⟨rfl, hb6⟩ := hcut
              clear hb5
              have H13 : Hid (∀ j, j < v.size → pk v.data.toList j ≠ 13) := fun j hj e => by
                have hl : v.data.toList.length = v.size := by simp
                have h := (plain_at HP.out (j := j) (by rw [← HVB.out, hl]; exact hj)).1
                rw [← HVB.out, e] at h
                simp at h
              cases raw with
              | true =>
                rw [if_pos rfl]
                go_wp2_with fail
                refine (contains_cr v _ (by omega) H13.out).mono ?_
                rintro e w4 ⟨rfl, hbb⟩
                have HB7 := Lib.hid (hb6.out.trans (hbb.mono hb6.out.size))
                clear hbb
                go_wp2
                refine bodyPost_ret (results_tmp4 rfl _ _ _) rfl ?_
                refine ⟨HB7.out, .inl ⟨B, tr, rfl, ?_⟩⟩
                rw [show (⟨B.toArray⟩ : ByteArray) = v by rw [← HVB.out, mk_toList]]
                rfl
              | false =>
                rw [if_neg (by simp)]
                go_wp2_with fail
                refine (contains_bs v _ (by omega) H13.out).mono ?_
                rintro e w4 ⟨b, hbn, rfl, hbb⟩
                have HB7 := Lib.hid (hb6.out.trans (hbb.mono hb6.out.size))
                have HBN := Lib.hid hbn
                clear hbb hbn
                cases b with
                | false =>
                  have HBN2 := Lib.hid (HBN.out rfl)
                  clear HBN
                  go_wp2
                  refine bodyPost_ret (results_tmp4 rfl _ _ _) rfl ?_
                  have hfin : unq by_ B = some B := ?_
                  · refine ⟨HB7.out, .inl ⟨B, tr, hfin, ?_⟩⟩
                    rw [show (⟨B.toArray⟩ : ByteArray) = v by rw [← HVB.out, mk_toList]]
                    rfl
                  refine unq_all by_ B (fun c hc => ?_)
                  obtain ⟨j, hj, rfl⟩ := List.getElem_of_mem hc
                  have h := HBN2.out j (by rw [← HVB.out] at hj; simpa using hj)
                  rw [HVB.out, pk_at hj] at h
                  exact h
                | true =>
                  have HVL : Hid (v.size = B.length) := by unfold Hid; rw [← HVB.out]; simp
                  have HE4 := Lib.hid (hE.below HB7.out)
                  have HU4 := Lib.hid (hU.below HB7.out)
                  have HPV : Hid (PlainL v.data.toList) := by unfold Hid; rw [HVB.out]; exact HP.out
                  have HNV : Hid ((10 : UInt8) ∉ v.data.toList) := by unfold Hid; rw [HVB.out]; exact HB.out.nol
                  have HUB : Hid (unq by_ B = (unq by_ v.data.toList).map (([] : List UInt8) ++ ·)) := by unfold Hid; rw [HVB.out]; simp
                  clear HBN hE hU HPKU e0 gn1 gn0 gu0 hlen2 hu2 hu3 hn1 hn1l h0l g1 g2 hz1 hz1' ht2 ht3
                  go_wp2_with fail
                  obtain ⟨V, hV⟩ : ∃ V, V = w4.heap.size := ⟨_, rfl⟩
                  obtain ⟨w5, hw5⟩ : ∃ w5, w5 = w4.alloc (.cells #[.pointer none, .slice none 0 0] 65) := ⟨_, rfl⟩
                  have HSB5 : Hid (SB w5 V V []) := by rw [hw5, hV]; exact sb_new w4
                  have HB5 : Hid (Below V w4 w5) := by rw [hw5, hV]; exact (Below.refl _ _).alloc (Nat.le_refl _) _
                  have HVW : Hid (V = w4.heap.size) := hV
                  first | rw [← hw5] | skip
                  first | rw [← hV] | skip
                  clear hw5 hV
                  go_loopw [0, 5] (fun s0 s5 wr => UqI by_ B V w4 s0 s5 wr) (fun s0 _ _ => strLen s0)
                  case atStart => exact ⟨v, [], rfl, rfl, by simp; omega, HPV, HNV, HSB5, HB5, HUB⟩
                  case round =>
                    obtain ⟨x, out, rfl, rfl, hxo, hpl, hno, hsb, hbe, hun⟩ := hrel
                    obtain ⟨wo, rfl⟩ : ∃ wo : World, wo = wr := ⟨_, rfl⟩
                    have hvo : V ≤ wo.heap.size := by have := hbe.out.size; have := HVW.out; omega
                    have HVO := Lib.hid hvo
                    have hxl : x.data.toList.length = x.size := by simp
                    have h13 : ∀ j, j < x.size → pk x.data.toList j ≠ 13 := fun j hj e => by
                      have h := (plain_at hpl.out (j := j) (by rw [hxl]; exact hj)).1
                      rw [e] at h
                      simp at h
                    have HXL := Lib.hid hxl
                    have HIX := Lib.hid (index_bs x wo (by omega) h13)
                    clear h13 hxl hvo
                    go_wp2_with fail
                    refine HIX.out.mono ?_
                    rintro e w6 ⟨r, hr, rfl, hb6⟩
                    have HVO6 : Hid (V ≤ w6.heap.size) := Nat.le_trans HVO.out hb6.size
                    have HSB6 : Hid (SB w6 V V out) := sb_below hsb.out hb6
                    have HBE6 : Hid (Below V w4 w6) := hbe.out.trans (hb6.mono HVO.out)
                    clear hb6
                    rcases hr with ⟨rfl, hno92⟩ | ⟨i, rfl, hil, hi92, hmin⟩
                    · have HDN : Hid (unq by_ B = some (out ++ x.data.toList)) := by
                        unfold Hid
                        rw [hun.out, unq_all by_ x.data.toList (fun c hc => ?_)]
                        · rfl
                        · obtain ⟨j, hj, rfl⟩ := List.getElem_of_mem hc
                          have h := hno92 j (by rw [← HXL.out]; exact hj)
                          rw [pk_at hj] at h
                          exact h
                      clear hno92
                      have hxx : x.extract 0 x.size = x := by apply ByteArray.ext; simp
                      obtain ⟨ee, hee⟩ : ∃ ee, x.extract x.size x.size = ee := ⟨_, rfl⟩
                      have hez : ee.size = 0 := by rw [← hee]; simp
                      go_wp2_with fail
                      with_reducible refine (write_string V V out x w6 HSB6.out (by omega) HVO6.out).mono ?_
                      rintro e w7 ⟨rfl, hsb7, hb7⟩
                      have HSB7 := Lib.hid hsb7
                      have HBE7 := Lib.hid (HBE6.out.trans hb7)
                      clear hsb7 hb7
                      go_wp2_with fail
                      with_reducible refine (builder_text V V _ w7 HSB7.out (by have := HBE7.out.size; have := HVW.out; omega)).mono ?_
                      rintro e w8 ⟨rfl, hb8⟩
                      have HBE8 : Hid (Below w.heap.size w w8) := HB7.out.trans ((HBE7.out.trans hb8).mono (by rw [HVW.out]; exact HB7.out.size))
                      clear hb8
                      go_wp2
                      refine bodyPost_ret (results_tmp4 rfl _ _ _) rfl ?_
                      refine ⟨HBE8.out, .inl ⟨_, tr, HDN.out, ?_⟩⟩
                      rfl
                    · have hpre : ∀ c ∈ x.data.toList.take i, c ≠ 92 := fun c hc => by
                        obtain ⟨j, hj, rfl⟩ := List.getElem_of_mem hc
                        have hj2 : j < i := by rw [List.length_take] at hj; omega
                        have h := hmin j hj2
                        rw [pk_at (by rw [HXL.out]; omega)] at h
                        rw [List.getElem_take]
                        exact h
                      have hun2 : Hid (unq by_ B = (unq by_ (x.data.toList.drop i)).map ((out ++ x.data.toList.take i) ++ ·)) := by
                        unfold Hid
                        rw [hun.out]
                        conv => lhs; rw [← List.take_append_drop i x.data.toList, unq_pre by_ _ _ hpre]
                        exact map_app
                      obtain ⟨y, hy⟩ : ∃ y, x.extract i x.size = y := ⟨_, rfl⟩
                      have hyd : y.data.toList = x.data.toList.drop i := by rw [← hy, ext_data]
                      have hys : y.size = x.size - i := by rw [← hy]; simp
                      rw [← hyd] at hun2
                      have HPY : Hid (PlainL y.data.toList) := by unfold Hid; rw [hyd]; exact fun c hc => hpl.out c (List.mem_of_mem_drop hc)
                      have HNY : Hid ((10 : UInt8) ∉ y.data.toList) := by unfold Hid; rw [hyd]; exact fun hc => hno.out (List.mem_of_mem_drop hc)
                      have hi0 : decide ((i : Int) < 0) = false := by simp
                      have hix : (i : Int) ≤ (x.size : Int) := by omega
                      have hixn : i ≤ x.size := by omega
                      have hy1 : 1 ≤ y.size := by omega
                      have hyx : y.size ≤ x.size := by omega
                      have hout : (out ++ x.data.toList.take i).length + 4 * y.size ≤ 4000 := by rw [List.length_append, List.length_take, HXL.out]; omega
                      have hyx1 : y.size ≤ 1000 := by omega
                      have hout1 := hout
                      have HOUT := Lib.hid hout
                      have HYD := Lib.hid hyd
                      have HXE : Hid ((x.extract 0 i).data.toList = x.data.toList.take i) := by unfold Hid; rw [extract_list]; rfl
                      have y92 : pk y.data.toList 0 = 92 := by
                        rw [hyd]
                        show (x.data.toList.drop i).getD 0 0 = 92
                        rw [List.getD_eq_getElem?_getD, List.getElem?_drop, ← List.getD_eq_getElem?_getD]
                        exact hi92
                      have HY92 := Lib.hid y92
                      clear hmin hpre hyd hys hi92 hout hout1 y92
                      obtain ⟨xi, hxi⟩ : ∃ xi, x.extract 0 i = xi := ⟨_, rfl⟩
                      have hxis : xi.size ≤ 1000 := by rw [← hxi]; simp; omega
                      rw [hxi] at HXE
                      go_wp2_with fail
                      with_reducible refine (write_string V V out xi w6 HSB6.out (by omega) HVO6.out).mono ?_
                      rintro e w7 ⟨rfl, hsb7, hb7⟩
                      rw [HXE.out] at hsb7
                      obtain ⟨o2, ho2⟩ : ∃ o2, o2 = out ++ x.data.toList.take i := ⟨_, rfl⟩
                      have HOUT2 : Hid (o2.length + 4 * y.size ≤ 4000) := by rw [ho2]; exact HOUT.out
                      rw [← ho2] at hsb7 hun2
                      have HSB7 := Lib.hid hsb7
                      have HBE7 := Lib.hid (HBE6.out.trans hb7)
                      have HVO7 : Hid (V ≤ w7.heap.size) := by have := HBE7.out.size; have := HVW.out; unfold Hid; omega
                      have HE7 : Hid (ErrOk w7) := HE4.out.below (HBE7.out.mono (by rw [HVW.out]; exact Nat.le_refl _))
                      have HU7 : Hid (UnescT w7) := HU4.out.below (HBE7.out.mono (by rw [HVW.out]; exact Nat.le_refl _))
                      have fin : ∀ w9, Below V w7 w9 → Below w.heap.size w w9 := fun w9 h9 => HB7.out.trans ((HBE7.out.trans h9).mono (by rw [HVW.out]; exact HB7.out.size))
                      have HFIN := Lib.hid fin
                      have hyl : y.data.toList.length = y.size := by simp
                      have HYL := Lib.hid hyl
                      have y0l : 0 < y.size := by omega
                      have ey0 : ((y[0]'y0l).toNat : Int) = 92 := by
                        have : pk y.data.toList 0 = y[0] := by rw [pk_at (by rw [hyl]; exact y0l)]; rfl
                        rw [← this, HY92.out]
                        rfl
                      have hgt : (0 : Int) < (y.size : Int) := by omega
                      clear hsb7 hb7 ho2 hyl fin HSB6 HBE6 HVO6 HOUT
                      by_cases hone : y.size = 1
                      · have HNONE : Hid (unq by_ B = none) := by
                          unfold Hid
                          have h1 : y.data.toList = [92] := by
                            have h := HY92.out
                            have hl := HYL.out
                            rw [hone] at hl
                            match hm : y.data.toList with
                            | [] => rw [hm] at hl; simp at hl
                            | [c] => rw [hm] at h; rw [show c = 92 from h]
                            | _ :: _ :: _ => rw [hm] at hl; simp at hl
                          rw [hun2.out, h1, unq_bad by_ [] rfl]
                          rfl
                        have hones : ((y.size : Int) == 1) = true := by rw [beq_iff_eq]; omega
                        clear hone
                        go_wp2_with fail
                        refine (errors_new _ _).mono ?_
                        rintro e w9 ⟨pp, rfl, hb9⟩
                        have HB9 := Lib.hid (HFIN.out _ (hb9.mono HVO7.out))
                        clear hb9
                        go_wp2
                        refine bodyPost_ret (results_tmp4 rfl _ _ _) rfl ?_
                        exact ⟨HB9.out, .inr ⟨HNONE.out, _, _, _, _, rfl⟩⟩
                      · have hones : ((y.size : Int) == 1) = false := by rw [beq_eq_false_iff_ne]; omega
                        have hy2 : 2 ≤ y.size := by omega
                        have y1l : 1 < y.size := by omega
                        have gy1 : (1 : Int) < (y.size : Int) := by omega
                        have gy2 : (2 : Int) ≤ (y.size : Int) := by omega
                        obtain ⟨c, hc⟩ : ∃ c, c = y[1]'y1l := ⟨_, rfl⟩
                        have ec : ((y[1]'y1l).toNat : Int) = (c.toNat : Int) := by rw [hc]
                        obtain ⟨t, ht⟩ : ∃ t, t = y.data.toList.drop 2 := ⟨_, rfl⟩
                        have HYT : Hid (y.data.toList = 92 :: c :: t) := by
                          unfold Hid
                          have h := two_of y y1l
                          rw [← ht, ← hc] at h
                          rw [h]
                          congr 1
                          have h2 := HY92.out
                          rw [h] at h2
                          exact h2
                        have hcm : c ∈ y.data.toList := by rw [HYT.out]; simp
                        have c10 : ((c.toNat : Int) == 10) = false := beq_lit c 10 (by omega) (fun e => HNY.out (by rw [show (10 : UInt8) = c from UInt8.toNat_inj.1 e.symm]; exact hcm))
                        have hc256 : c.toNat < 256 := c.toNat_lt
                        have HTD := Lib.hid ht
                        have hyt : t.length = y.size - 2 := by rw [ht, List.length_drop, HYL.out]
                        have HTL := Lib.hid hyt
                        clear hone hc ht hcm hyt
                        cases h1 : one? c with
                        | some xx =>
                          as_aux_lemma =>
                            have hten := ten_of h1
                            have hcell := HU7.out c xx h1
                            have hc0 : (0 : Int) ≤ (c.toNat : Int) := by omega
                            have hc1 : (c.toNat : Int) < 256 := by omega
                            have HGO : Hid (unq by_ B = (unq by_ ((92 :: c :: t).drop 2)).map ((o2 ++ [xx]) ++ ·)) := by
                              unfold Hid
                              rw [hun2.out, HYT.out, unq_good by_ _ _ _ (esc_two by_ 92 c xx t h1)]
                              exact map_app
                            obtain ⟨z, hz⟩ : ∃ z, y.extract 2 y.size = z := ⟨_, rfl⟩
                            have HZD : Hid (z.data.toList = (92 :: c :: t).drop 2) := by unfold Hid; rw [← hz, ext_data, HYT.out]
                            have hzs : z.size = y.size - 2 := by rw [← hz]; simp
                            have HZS := Lib.hid hzs
                            clear hzs
                            have HPZ : Hid (PlainL z.data.toList) := by unfold Hid; rw [HZD.out, ← HYT.out]; exact fun c hc => HPY.out c (List.mem_of_mem_drop hc)
                            have HNZ : Hid ((10 : UInt8) ∉ z.data.toList) := by unfold Hid; rw [HZD.out, ← HYT.out]; exact fun hc => HNY.out (List.mem_of_mem_drop hc)
                            rw [← HZD.out] at HGO
                            have HH1 := Lib.hid h1
                            clear h1
                            go_upto_if 139 with fail
                            go_cut [139] from 141 to 150 (fun v wx => v = .bool true ∧ w7 = wx)
                            case first =>
                              rcases hten with rfl | rfl | rfl | rfl | rfl | rfl | rfl | rfl | rfl | rfl
                              · have ez : ((((97 : UInt8)).toNat : Nat) : Int) = 97 := rfl
                                go_wp2_with fail
                                go_meet
                                exact ⟨rfl, rfl⟩
                              · have ez : ((((98 : UInt8)).toNat : Nat) : Int) = 98 := rfl
                                go_wp2_with fail
                                go_meet
                                exact ⟨rfl, rfl⟩
                              · have ez : ((((102 : UInt8)).toNat : Nat) : Int) = 102 := rfl
                                go_wp2_with fail
                                go_meet
                                exact ⟨rfl, rfl⟩
                              · have ez : ((((110 : UInt8)).toNat : Nat) : Int) = 110 := rfl
                                go_wp2_with fail
                                go_meet
                                exact ⟨rfl, rfl⟩
                              · have ez : ((((114 : UInt8)).toNat : Nat) : Int) = 114 := rfl
                                go_wp2_with fail
                                go_meet
                                exact ⟨rfl, rfl⟩
                              · have ez : ((((116 : UInt8)).toNat : Nat) : Int) = 116 := rfl
                                go_wp2_with fail
                                go_meet
                                exact ⟨rfl, rfl⟩
                              · have ez : ((((118 : UInt8)).toNat : Nat) : Int) = 118 := rfl
                                go_wp2_with fail
                                go_meet
                                exact ⟨rfl, rfl⟩
                              · have ez : ((((92 : UInt8)).toNat : Nat) : Int) = 92 := rfl
                                go_wp2_with fail
                                go_meet
                                exact ⟨rfl, rfl⟩
                              · have ez : ((((39 : UInt8)).toNat : Nat) : Int) = 39 := rfl
                                go_wp2_with fail
                                go_meet
                                exact ⟨rfl, rfl⟩
                              · have ez : ((((34 : UInt8)).toNat : Nat) : Int) = 34 := rfl
                                go_wp2_with fail
                                go_meet
                                exact ⟨rfl, rfl⟩
                            case rest =>
                              obtain ⟨rfl, rfl⟩ := hcut
                              clear hten
                              go_wp2_with fail
                              refine (write_byte V V o2 xx w7 HSB7.out (by have := HOUT2.out; omega) HVO7.out).mono ?_
                              rintro e w8 ⟨rfl, hsb8, hb8, -, -⟩
                              have HSB8 := Lib.hid hsb8
                              have HBE8 := Lib.hid (HBE7.out.trans hb8)
                              clear hsb8 hb8
                              go_wp2
                              go_roundw
                              case rel => exact ⟨z, o2 ++ [xx], rfl, rfl, by have := HOUT2.out; have := HZS.out; simp; omega, HPZ, HNZ, HSB8, HBE8, HGO⟩
                              case measure => simp only [strLen]; have := HZS.out; omega
                        | none =>
                          have hnt := not_ten h1
                          have HH0 := Lib.hid h1
                          obtain ⟨t97, t98, t102, t110, t114, t116, t118, t92, t39, t34⟩ := hnt
                          clear h1
                          by_cases hoct : 48 ≤ c.toNat ∧ c.toNat ≤ 55
                          · have HC3 : Hid (c ≠ 120 ∧ c ≠ 117 ∧ c ≠ 85) := ⟨fun e => by rw [e] at hoct; revert hoct; decide, fun e => by rw [e] at hoct; revert hoct; decide, fun e => by rw [e] at hoct; revert hoct; decide⟩
                            have HOCD := HC3
                            as_aux_lemma =>
                              have n97 : ((c.toNat : Int) == 97) = false := beq_lit c 97 (by omega) (by omega)
                              have n98 : ((c.toNat : Int) == 98) = false := beq_lit c 98 (by omega) (by omega)
                              have n102 : ((c.toNat : Int) == 102) = false := beq_lit c 102 (by omega) (by omega)
                              have n110 : ((c.toNat : Int) == 110) = false := beq_lit c 110 (by omega) (by omega)
                              have n114 : ((c.toNat : Int) == 114) = false := beq_lit c 114 (by omega) (by omega)
                              have n116 : ((c.toNat : Int) == 116) = false := beq_lit c 116 (by omega) (by omega)
                              have n118 : ((c.toNat : Int) == 118) = false := beq_lit c 118 (by omega) (by omega)
                              have n92 : ((c.toNat : Int) == 92) = false := beq_lit c 92 (by omega) (by omega)
                              have n39 : ((c.toNat : Int) == 39) = false := beq_lit c 39 (by omega) (by omega)
                              have n34 : ((c.toNat : Int) == 34) = false := beq_lit c 34 (by omega) (by omega)
                              have hoct2 := oct_of hoct
                              have hocb := octV_step (k := 2) (acc := 0) (t := t) hoct
                              simp only [Nat.zero_mul, Nat.zero_add] at hocb
                              have HOCB := Lib.hid hocb
                              have d1' : (48 : Int) ≤ (c.toNat : Int) := by omega
                              have d2' : (c.toNat : Int) ≤ 55 := by omega
                              obtain ⟨A0, hA0⟩ : ∃ A0 : Nat, (c.toNat : Int) - 48 = (A0 : Int) := ⟨c.toNat - 48, by omega⟩
                              have HA0 : Hid (c.toNat - 48 = A0) := by unfold Hid; omega
                              have hA07 : A0 ≤ 7 := by omega
                              rw [HA0.out] at HOCB
                              obtain ⟨z0, hz⟩ : ∃ z0, y.extract 2 y.size = z0 := ⟨_, rfl⟩
                              have HZD0 : Hid (z0.data.toList = (92 :: c :: t).drop 2) := by unfold Hid; rw [← hz, ext_data, HYT.out]
                              have hzs : z0.size = y.size - 2 := by rw [← hz]; simp
                              have HZS0 := Lib.hid hzs
                              clear hzs
                              have HZT : Hid (z0.data.toList = t) := HZD0.out
                              have hz0y : z0.size ≤ y.size := by have := HZS0.out; omega
                              clear hocb hoct HOCD
                              go_upto_if 158 with fail
                              go_cut [158] from 160 to 167 (fun v wx => v = .bool true ∧ w7 = wx)
                              case first =>
                                rcases hoct2 with rfl | rfl | rfl | rfl | rfl | rfl | rfl | rfl
                                · have ez : ((((48 : UInt8)).toNat : Nat) : Int) = 48 := rfl
                                  go_wp2_with fail
                                  go_meet
                                  exact ⟨rfl, rfl⟩
                                · have ez : ((((49 : UInt8)).toNat : Nat) : Int) = 49 := rfl
                                  go_wp2_with fail
                                  go_meet
                                  exact ⟨rfl, rfl⟩
                                · have ez : ((((50 : UInt8)).toNat : Nat) : Int) = 50 := rfl
                                  go_wp2_with fail
                                  go_meet
                                  exact ⟨rfl, rfl⟩
                                · have ez : ((((51 : UInt8)).toNat : Nat) : Int) = 51 := rfl
                                  go_wp2_with fail
                                  go_meet
                                  exact ⟨rfl, rfl⟩
                                · have ez : ((((52 : UInt8)).toNat : Nat) : Int) = 52 := rfl
                                  go_wp2_with fail
                                  go_meet
                                  exact ⟨rfl, rfl⟩
                                · have ez : ((((53 : UInt8)).toNat : Nat) : Int) = 53 := rfl
                                  go_wp2_with fail
                                  go_meet
                                  exact ⟨rfl, rfl⟩
                                · have ez : ((((54 : UInt8)).toNat : Nat) : Int) = 54 := rfl
                                  go_wp2_with fail
                                  go_meet
                                  exact ⟨rfl, rfl⟩
                                · have ez : ((((55 : UInt8)).toNat : Nat) : Int) = 55 := rfl
                                  go_wp2_with fail
                                  go_meet
                                  exact ⟨rfl, rfl⟩
                              case rest =>
                                obtain ⟨rfl, rfl⟩ := hcut
                                clear hoct2
                                go_upto_block 3 with fail
                                go_cut [0, 11, 12] from 173 to 199 (fun s0 s11 _ wx => ∃ (z : ByteArray) (n m : Nat), s0 = .string z ∧ s11 = .int .i64 n ∧ n ≤ 511 ∧ Hid (octV 3 0 (c :: t) = (n, m)) ∧ Hid (1 ≤ m) ∧ Hid (z.data.toList = (92 :: c :: t).drop (1 + m)) ∧ z.size + 1 ≤ y.size ∧ w7 = wx)
                                case first =>
                                  go_wp2_with fail
                                  refine wp_loop_rounds 3 ?_
                                  rw [rounds_succ]
                                  have HZD1 := HZD0
                                  have HZT1 := HZT
                                  have hz0y1 : z0.size + 1 ≤ y.size := by have := HZS0.out; omega
                                  have hzl1 : z0.data.toList.length = z0.size := by simp
                                  by_cases hs1 : z0.size = 0
                                  · have HS1 : Hid (octV 2 A0 t = (A0, 0)) := by
                                      have : t = [] := List.eq_nil_of_length_eq_zero (by rw [← HZT1.out, hzl1]; exact hs1)
                                      rw [this]
                                      exact octV_nil
                                    have k0 : ((z0.size : Int) == 0) = true := by rw [hs1]; rfl
                                    clear hs1 hzl1
                                    go_wp2_with fail
                                    go_meet
                                    exact ⟨z0, A0, 1, rfl, rfl, by omega, by unfold Hid; rw [HOCB.out, HS1.out], by simp [Hid], HZD1.out, by omega, rfl⟩
                                  · have k0 : ((z0.size : Int) == 0) = false := by rw [beq_eq_false_iff_ne]; omega
                                    have zl : 0 < z0.size := by omega
                                    have zli : (0 : Int) < (z0.size : Int) := by omega
                                    have zli1 : (1 : Int) ≤ (z0.size : Int) := by omega
                                    obtain ⟨d1, hd1⟩ : ∃ d, d = z0[0]'zl := ⟨_, rfl⟩
                                    obtain ⟨T2, hT2⟩ : ∃ T, T = t.drop 1 := ⟨_, rfl⟩
                                    have HTT1 : Hid (t = d1 :: T2) := by
                                      have h := drop_cons z0 0 zl
                                      rw [List.drop_zero, HZT1.out] at h
                                      rw [hT2, hd1]
                                      rw [h]
                                      rfl
                                    have ed1 : ((z0[0]'zl).toNat : Int) = (d1.toNat : Int) := by rw [hd1]
                                    clear hd1 hT2 hzl1 hs1
                                    by_cases hdo : 48 ≤ d1.toNat ∧ d1.toNat ≤ 55
                                    · obtain ⟨z2, hz2⟩ : ∃ z, z0.extract 1 z0.size = z := ⟨_, rfl⟩
                                      have HZD2 : Hid (z2.data.toList = (92 :: c :: t).drop (1 + 2)) := by
                                        unfold Hid
                                        rw [← hz2, ext_data, HZD1.out, List.drop_drop]
                                      have HZT2 : Hid (z2.data.toList = T2) := by
                                        unfold Hid
                                        rw [← hz2, ext_data, HZT1.out, HTT1.out]
                                        rfl
                                      have hzs2 : z2.size ≤ z0.size := by rw [← hz2]; simp
                                      have hov2 := HOCB.out
                                      rw [HTT1.out, octV_step (k := 1) (acc := A0) (t := T2) hdo] at hov2
                                      obtain ⟨A2, hA2⟩ : ∃ A : Nat, (A0 : Int) * 8 + ((d1.toNat : Int) - 48) = (A : Int) := ⟨A0 * 8 + (d1.toNat - 48), by omega⟩
                                      have hAA2 : A0 * 8 + (d1.toNat - 48) = A2 := by omega
                                      rw [hAA2] at hov2
                                      have HOV2 : Hid (octV 3 0 (c :: t) = ((octV 1 A2 T2).1, (octV 1 A2 T2).2 + 2)) := by
                                        unfold Hid
                                        rw [HTT1.out]; exact hov2
                                      have b1 : (48 : Int) ≤ (d1.toNat : Int) := by omega
                                      have b2 : (d1.toNat : Int) ≤ 55 := by omega
                                      have b3 : decide ((d1.toNat : Int) < 48) = false := by simp; omega
                                      have b4 : decide ((55 : Int) < (d1.toNat : Int)) = false := by simp; omega
                                      clear hov2 hAA2 hdo
                                      go_wp2_with fail
                                      rw [rounds_succ]
                                      have hzl2 : z2.data.toList.length = z2.size := by simp
                                      by_cases hs2 : z2.size = 0
                                      · have HS2 : Hid (octV 1 A2 T2 = (A2, 0)) := by
                                          have : T2 = [] := List.eq_nil_of_length_eq_zero (by rw [← HZT2.out, hzl2]; exact hs2)
                                          rw [this]
                                          exact octV_nil
                                        have k0 : ((z2.size : Int) == 0) = true := by rw [hs2]; rfl
                                        clear hs2 hzl2
                                        go_wp2_with fail
                                        go_meet
                                        exact ⟨z2, A2, 2, rfl, rfl, by omega, by unfold Hid; rw [HOV2.out, HS2.out], by simp [Hid], HZD2.out, by omega, rfl⟩
                                      · have k0 : ((z2.size : Int) == 0) = false := by rw [beq_eq_false_iff_ne]; omega
                                        have zl : 0 < z2.size := by omega
                                        have zli : (0 : Int) < (z2.size : Int) := by omega
                                        have zli1 : (1 : Int) ≤ (z2.size : Int) := by omega
                                        obtain ⟨d2, hd2⟩ : ∃ d, d = z2[0]'zl := ⟨_, rfl⟩
                                        obtain ⟨T3, hT3⟩ : ∃ T, T = T2.drop 1 := ⟨_, rfl⟩
                                        have HTT2 : Hid (T2 = d2 :: T3) := by
                                          have h := drop_cons z2 0 zl
                                          rw [List.drop_zero, HZT2.out] at h
                                          rw [hT3, hd2]
                                          rw [h]
                                          rfl
                                        have ed2 : ((z2[0]'zl).toNat : Int) = (d2.toNat : Int) := by rw [hd2]
                                        clear hd2 hT3 hzl2 hs2
                                        by_cases hdo : 48 ≤ d2.toNat ∧ d2.toNat ≤ 55
                                        · obtain ⟨z3, hz3⟩ : ∃ z, z2.extract 1 z2.size = z := ⟨_, rfl⟩
                                          have HZD3 : Hid (z3.data.toList = (92 :: c :: t).drop (1 + 3)) := by
                                            unfold Hid
                                            rw [← hz3, ext_data, HZD2.out, List.drop_drop]
                                          have HZT3 : Hid (z3.data.toList = T3) := by
                                            unfold Hid
                                            rw [← hz3, ext_data, HZT2.out, HTT2.out]
                                            rfl
                                          have hzs3 : z3.size ≤ z2.size := by rw [← hz3]; simp
                                          have hov3 := HOV2.out
                                          rw [HTT2.out, octV_step (k := 0) (acc := A2) (t := T3) hdo] at hov3
                                          obtain ⟨A3, hA3⟩ : ∃ A : Nat, (A2 : Int) * 8 + ((d2.toNat : Int) - 48) = (A : Int) := ⟨A2 * 8 + (d2.toNat - 48), by omega⟩
                                          have hAA3 : A2 * 8 + (d2.toNat - 48) = A3 := by omega
                                          rw [hAA3] at hov3
                                          have HOV3 : Hid (octV 3 0 (c :: t) = ((octV 0 A3 T3).1, (octV 0 A3 T3).2 + 3)) := by
                                            unfold Hid
                                            rw [hov3]
                                          have b1 : (48 : Int) ≤ (d2.toNat : Int) := by omega
                                          have b2 : (d2.toNat : Int) ≤ 55 := by omega
                                          have b3 : decide ((d2.toNat : Int) < 48) = false := by simp; omega
                                          have b4 : decide ((55 : Int) < (d2.toNat : Int)) = false := by simp; omega
                                          clear hov3 hAA3 hdo
                                          go_wp2_with fail
                                          rw [rounds_succ]
                                          have HS3 : Hid (octV 0 A3 T3 = (A3, 0)) := rfl
                                          go_wp2_with fail
                                          go_meet
                                          exact ⟨z3, A3, 3, rfl, rfl, by omega, by unfold Hid; rw [HOV3.out, HS3.out], by simp [Hid], HZD3.out, by omega, rfl⟩
                                        · have HS2 : Hid (octV 1 A2 T2 = (A2, 0)) := by
                                            unfold Hid
                                            rw [HTT2.out]
                                            exact octV_stop hdo
                                          rcases (show decide ((d2.toNat : Int) < 48) = true ∨ (decide ((d2.toNat : Int) < 48) = false ∧ decide ((55 : Int) < (d2.toNat : Int)) = true) by
                                            by_cases h5 : d2.toNat < 48
                                            · exact .inl (by simp; omega)
                                            · exact .inr ⟨by simp; omega, by simp; omega⟩) with b1 | ⟨b1, b2⟩
                                          all_goals
                                            clear hdo
                                            go_wp2_with fail
                                            go_meet
                                            exact ⟨z2, A2, 2, rfl, rfl, by omega, by unfold Hid; rw [HOV2.out, HS2.out], by simp [Hid], HZD2.out, by omega, rfl⟩
                                    · have HS1 : Hid (octV 2 A0 t = (A0, 0)) := by
                                        unfold Hid
                                        rw [HTT1.out]
                                        exact octV_stop hdo
                                      rcases (show decide ((d1.toNat : Int) < 48) = true ∨ (decide ((d1.toNat : Int) < 48) = false ∧ decide ((55 : Int) < (d1.toNat : Int)) = true) by
                                        by_cases h5 : d1.toNat < 48
                                        · exact .inl (by simp; omega)
                                        · exact .inr ⟨by simp; omega, by simp; omega⟩) with b1 | ⟨b1, b2⟩
                                      all_goals
                                        clear hdo
                                        go_wp2_with fail
                                        go_meet
                                        exact ⟨z0, A0, 1, rfl, rfl, by omega, by unfold Hid; rw [HOCB.out, HS1.out], by simp [Hid], HZD1.out, by omega, rfl⟩
                                case rest =>
                                  obtain ⟨z, n, m, rfl, rfl, hn511, hov, hm1, hzd, hzy, rfl⟩ := hcut
                                  have HZD := hzd
                                  have HEQ : Hid (esc by_ (92 :: c :: t) = codedP n true by_ (1 + m)) := by
                                    unfold Hid
                                    rw [esc_none_cls by_ c t HH0.out HC3.out.1 HC3.out.2.1 HC3.out.2.2, octA_of by_ 92 c t n m hov.out hm1.out]
                                  rcases (show (255 < n ∨ (127 < n ∧ by_ = false)) ∨ (n < 256 ∧ (n ≤ 127 ∨ by_ = true)) by
                                    by_cases h1 : 255 < n
                                    · exact .inl (.inl h1)
                                    · by_cases h2 : 127 < n
                                      · cases by_ with
                                        | false => exact .inl (.inr ⟨h2, rfl⟩)
                                        | true => exact .inr ⟨by omega, .inr rfl⟩
                                      · exact .inr ⟨by omega, .inl (by omega)⟩) with hbad | ⟨h256, hok⟩
                                  · have hcn : codedP n true by_ (1 + m) = none := by
                                      unfold codedP
                                      rw [if_pos rfl, if_pos hbad]
                                    have HNONE : Hid (unq by_ B = none) := by
                                      unfold Hid
                                      rw [hun2.out, HYT.out, unq_bad by_ _ (HEQ.out.trans hcn)]
                                      rfl
                                    clear hcn
                                    by_cases h127 : 127 < n
                                    · have k127 : decide ((127 : Int) < (n : Int)) = true := by simp; omega
                                      cases by_ with
                                      | false =>
                                        clear hbad
                                        go_wp2_with fail
                                        refine (errors_new _ _).mono ?_
                                        rintro e w9 ⟨pp, rfl, hb9⟩
                                        have HB9 := Lib.hid (HFIN.out _ (hb9.mono HVO7.out))
                                        clear hb9
                                        go_wp2
                                        refine bodyPost_ret (results_tmp4 rfl _ _ _) rfl ?_
                                        exact ⟨HB9.out, .inr ⟨HNONE.out, _, _, _, _, rfl⟩⟩
                                      | true =>
                                        have h256 : decide ((256 : Int) ≤ (n : Int)) = true := by rcases hbad with h | h <;> simp_all <;> omega
                                        clear hbad
                                        go_wp2_with fail
                                        refine (errors_new _ _).mono ?_
                                        rintro e w9 ⟨pp, rfl, hb9⟩
                                        have HB9 := Lib.hid (HFIN.out _ (hb9.mono HVO7.out))
                                        clear hb9
                                        go_wp2
                                        refine bodyPost_ret (results_tmp4 rfl _ _ _) rfl ?_
                                        exact ⟨HB9.out, .inr ⟨HNONE.out, _, _, _, _, rfl⟩⟩
                                    · rcases hbad with h | h <;> omega
                                  · obtain ⟨cc, rfl⟩ : ∃ cc : UInt8, n = cc.toNat := ⟨n.toUInt8, by simp; omega⟩
                                    have hcs : codedP cc.toNat true by_ (1 + m) = some ([cc], 1 + m) := by
                                      unfold codedP
                                      rw [if_pos rfl, if_neg (by rcases hok with h | h <;> simp_all <;> omega)]
                                      simp
                                    have HGO : Hid (unq by_ B = (unq by_ ((92 :: c :: t).drop (1 + m))).map ((o2 ++ [cc]) ++ ·)) := by
                                      unfold Hid
                                      rw [hun2.out, HYT.out, unq_good by_ _ _ _ (HEQ.out.trans hcs)]
                                      exact map_app
                                    have HPZ : Hid (PlainL z.data.toList) := by unfold Hid; rw [HZD.out, ← HYT.out]; exact fun c hc => HPY.out c (List.mem_of_mem_drop hc)
                                    have HNZ : Hid ((10 : UInt8) ∉ z.data.toList) := by unfold Hid; rw [HZD.out, ← HYT.out]; exact fun hc => HNY.out (List.mem_of_mem_drop hc)
                                    rw [← HZD.out] at HGO
                                    have k256 : decide ((256 : Int) ≤ (cc.toNat : Int)) = false := by simp; omega
                                    clear hcs
                                    rcases (show by_ = true ∨ (by_ = false ∧ decide ((127 : Int) < (cc.toNat : Int)) = false) by
                                      rcases hok with h | h
                                      · cases by_ with
                                        | true => exact .inl rfl
                                        | false => exact .inr ⟨rfl, by simp; omega⟩
                                      · exact .inl h) with hby | ⟨hby, k127⟩
                                    all_goals
                                      subst hby
                                      clear hok
                                      go_wp2_with fail
                                      refine (write_byte V V o2 cc w7 HSB7.out (by have := HOUT2.out; omega) HVO7.out).mono ?_
                                      rintro e w8 ⟨rfl, hsb8, hb8, -, -⟩
                                      have HSB8 := Lib.hid hsb8
                                      have HBE8 := Lib.hid (HBE7.out.trans hb8)
                                      clear hsb8 hb8
                                      go_wp2
                                      go_roundw
                                      case rel => exact ⟨z, o2 ++ [cc], rfl, rfl, by have := HOUT2.out; simp; omega, HPZ, HNZ, HSB8, HBE8, HGO⟩
                                      case measure => simp only [strLen]; omega
                          · have HOCD := Lib.hid hoct
                            have n97 : ((c.toNat : Int) == 97) = false := beq_lit c 97 (by omega) (by omega)
                            have n98 : ((c.toNat : Int) == 98) = false := beq_lit c 98 (by omega) (by omega)
                            have n102 : ((c.toNat : Int) == 102) = false := beq_lit c 102 (by omega) (by omega)
                            have n110 : ((c.toNat : Int) == 110) = false := beq_lit c 110 (by omega) (by omega)
                            have n114 : ((c.toNat : Int) == 114) = false := beq_lit c 114 (by omega) (by omega)
                            have n116 : ((c.toNat : Int) == 116) = false := beq_lit c 116 (by omega) (by omega)
                            have n118 : ((c.toNat : Int) == 118) = false := beq_lit c 118 (by omega) (by omega)
                            have n92 : ((c.toNat : Int) == 92) = false := beq_lit c 92 (by omega) (by omega)
                            have n39 : ((c.toNat : Int) == 39) = false := beq_lit c 39 (by omega) (by omega)
                            have n34 : ((c.toNat : Int) == 34) = false := beq_lit c 34 (by omega) (by omega)
                            have n48 : ((c.toNat : Int) == 48) = false := beq_lit c 48 (by omega) (by omega)
                            have n49 : ((c.toNat : Int) == 49) = false := beq_lit c 49 (by omega) (by omega)
                            have n50 : ((c.toNat : Int) == 50) = false := beq_lit c 50 (by omega) (by omega)
                            have n51 : ((c.toNat : Int) == 51) = false := beq_lit c 51 (by omega) (by omega)
                            have n52 : ((c.toNat : Int) == 52) = false := beq_lit c 52 (by omega) (by omega)
                            have n53 : ((c.toNat : Int) == 53) = false := beq_lit c 53 (by omega) (by omega)
                            have n54 : ((c.toNat : Int) == 54) = false := beq_lit c 54 (by omega) (by omega)
                            have n55 : ((c.toNat : Int) == 55) = false := beq_lit c 55 (by omega) (by omega)
                            by_cases hcc : c = 120
                            · clear hoct HOCD
                              as_aux_lemma =>
                                obtain ⟨cx, hcx⟩ : ∃ cx : UInt8, cx = 120 := ⟨_, rfl⟩
                                have HEQ : Hid (esc by_ (92 :: c :: t) = digA by_ true 2 t) := by unfold Hid; rw [hcc]; exact esc_x by_ 92 t
                                have e120 : ((c.toNat : Int) == 120) = true := by rw [hcc]; rfl
                                clear hcc hcx
                                by_cases hlen : y.size < 4
                                · have hl1 : decide ((y.size : Int) < 4) = true := by simp; omega
                                  have hl2 : t.length < 2 := by have := HTL.out; omega
                                  have HNONE : Hid (unq by_ B = none) := by
                                    unfold Hid
                                    rw [hun2.out, HYT.out, unq_bad by_ _ (HEQ.out.trans (digA_short hl2))]
                                    rfl
                                  clear hl2 hlen
                                  go_wp2_with fail
                                  refine (errors_new _ _).mono ?_
                                  rintro e w9 ⟨pp, rfl, hb9⟩
                                  have HB9 := Lib.hid (HFIN.out _ (hb9.mono HVO7.out))
                                  clear hb9
                                  go_wp2
                                  refine bodyPost_ret (results_tmp4 rfl _ _ _) rfl ?_
                                  exact ⟨HB9.out, .inr ⟨HNONE.out, _, _, _, _, rfl⟩⟩
                                · have hl1 : decide ((y.size : Int) < 4) = false := by simp; omega
                                  have gk : (4 : Int) ≤ (y.size : Int) := by omega
                                  have gkn : 4 ≤ y.size := by omega
                                  have hl2 : ¬ t.length < 2 := by have := HTL.out; omega
                                  obtain ⟨hx, hhx⟩ : ∃ hx, y.extract 2 4 = hx := ⟨_, rfl⟩
                                  have HHX : Hid (hx.data.toList = t.take 2) := by
                                    unfold Hid
                                    rw [← hhx, extract_list, HYT.out]
                                    rfl
                                  have hhs : hx.size = 2 := by rw [← hhx]; simp; omega
                                  have HPHX := Lib.hid (parse_hex hx (by omega) (by omega) w7 HE7.out)
                                  rw [HexPost2Def, HHX.out] at HPHX
                                  clear hhs hlen
                                  go_wp2_with fail
                                  refine HPHX.out.mono ?_
                                  rintro e w8 ⟨hb8, ⟨n, hn, hlt, rfl⟩ | ⟨hn, n0, tt, pq, rfl⟩⟩
                                  · have HBV8 : Hid (Below V w7 w8) := hb8.mono HVO7.out
                                    have HSB8 : Hid (SB w8 V V o2) := sb_below HSB7.out hb8
                                    have HBE8 : Hid (Below V w4 w8) := HBE7.out.trans HBV8.out
                                    have HVO8 : Hid (V ≤ w8.heap.size) := by have := HBV8.out.size; have := HVO7.out; unfold Hid; omega
                                    have HEN : Hid (esc by_ (92 :: c :: t) = codedP n true by_ 4) := HEQ.out.trans (digA_ok hl2 hn)
                                    have hn256 : n < 256 := by
                                      have h := hexV_lt hn
                                      have hl : (t.take 2).length = 2 := by rw [List.length_take]; omega
                                      rw [hl] at h
                                      omega
                                    clear hn hb8 hhx
                                    by_cases hbad : 127 < n ∧ by_ = false
                                    · have hcn : codedP n true by_ 4 = none := by
                                        unfold codedP
                                        rw [if_pos rfl, if_pos (.inr hbad)]
                                      have HNONE : Hid (unq by_ B = none) := by
                                        unfold Hid
                                        rw [hun2.out, HYT.out, unq_bad by_ _ (HEN.out.trans hcn)]
                                        rfl
                                      obtain ⟨hb1, hb2⟩ := hbad
                                      subst hb2
                                      have k127 : decide ((127 : Int) < (n : Int)) = true := by simp; omega
                                      clear hcn
                                      go_wp2_with fail
                                      refine (errors_new _ _).mono ?_
                                      rintro e w9 ⟨pp, rfl, hb9⟩
                                      have HB9 := Lib.hid (HFIN.out _ (HBV8.out.trans (hb9.mono HVO8.out)))
                                      clear hb9
                                      go_wp2
                                      refine bodyPost_ret (results_tmp4 rfl _ _ _) rfl ?_
                                      exact ⟨HB9.out, .inr ⟨HNONE.out, _, _, _, _, rfl⟩⟩
                                    · obtain ⟨cc, rfl⟩ : ∃ cc : UInt8, n = cc.toNat := ⟨n.toUInt8, by simp; omega⟩
                                      have hcs : codedP cc.toNat true by_ 4 = some ([cc], 4) := by
                                        unfold codedP
                                        rw [if_pos rfl, if_neg (fun h => h.elim (fun h => by omega) hbad)]
                                        simp
                                      have HGO : Hid (unq by_ B = (unq by_ ((92 :: c :: t).drop 4)).map ((o2 ++ [cc]) ++ ·)) := by
                                        unfold Hid
                                        rw [hun2.out, HYT.out, unq_good by_ _ _ _ (HEN.out.trans hcs)]
                                        exact map_app
                                      obtain ⟨z, hz⟩ : ∃ z, y.extract 4 y.size = z := ⟨_, rfl⟩
                                      have HZD : Hid (z.data.toList = (92 :: c :: t).drop 4) := by unfold Hid; rw [← hz, ext_data, HYT.out]
                                      have hzs : z.size = y.size - 4 := by rw [← hz]; simp
                                      have HZS := Lib.hid hzs
                                      clear hzs
                                      have HPZ : Hid (PlainL z.data.toList) := by unfold Hid; rw [HZD.out, ← HYT.out]; exact fun c hc => HPY.out c (List.mem_of_mem_drop hc)
                                      have HNZ : Hid ((10 : UInt8) ∉ z.data.toList) := by unfold Hid; rw [HZD.out, ← HYT.out]; exact fun hc => HNY.out (List.mem_of_mem_drop hc)
                                      rw [← HZD.out] at HGO
                                      have HPL4 : Hid (([cc] : List UInt8).length ≤ 4) := by simp [Hid]
                                      clear hcs
                                      rcases (show by_ = true ∨ (by_ = false ∧ decide ((127 : Int) < (cc.toNat : Int)) = false) by
                                        cases by_ with
                                        | true => exact .inl rfl
                                        | false => exact .inr ⟨rfl, by simp at hbad ⊢; omega⟩) with hby | ⟨hby, k127⟩
                                      all_goals
                                        subst hby
                                        clear hbad
                                        go_wp2_with fail
                                        refine (write_byte V V o2 cc w8 HSB8.out (by have := HOUT2.out; omega) HVO8.out).mono ?_
                                        rintro e w9 ⟨rfl, hsb9, hb9, -, -⟩
                                        have HSB9 := Lib.hid hsb9
                                        have HBE9 := Lib.hid (HBE8.out.trans hb9)
                                        clear hsb9 hb9
                                        go_wp2
                                        go_roundw
                                        case rel => exact ⟨z, o2 ++ [cc], rfl, rfl, by have := HOUT2.out; have := HZS.out; have := HPL4.out; rw [List.length_append]; omega, HPZ, HNZ, HSB9, HBE9, HGO⟩
                                        case measure => simp only [strLen]; have := HZS.out; omega
                                  · have HBV8 : Hid (Below V w7 w8) := hb8.mono HVO7.out
                                    have HVO8 : Hid (V ≤ w8.heap.size) := by have := HBV8.out.size; have := HVO7.out; unfold Hid; omega
                                    have HNONE : Hid (unq by_ B = none) := by
                                      unfold Hid
                                      rw [hun2.out, HYT.out, unq_bad by_ _ (HEQ.out.trans (digA_bad hn))]
                                      rfl
                                    clear hn hb8 hhx
                                    go_wp2_with fail
                                    refine (errors_new _ _).mono ?_
                                    rintro e w9 ⟨pp, rfl, hb9⟩
                                    have HB9 := Lib.hid (HFIN.out _ (HBV8.out.trans (hb9.mono HVO8.out)))
                                    clear hb9
                                    go_wp2
                                    refine bodyPost_ret (results_tmp4 rfl _ _ _) rfl ?_
                                    exact ⟨HB9.out, .inr ⟨HNONE.out, _, _, _, _, rfl⟩⟩
                            have m120 : ((c.toNat : Int) == 120) = false := beq_lit c 120 (by omega) (fun e => hcc (UInt8.toNat_inj.1 e))
                            have HX := Lib.hid hcc
                            clear hcc
                            by_cases hcc : c = 117
                            · clear hoct HOCD
                              as_aux_lemma =>
                                obtain ⟨cx, hcx⟩ : ∃ cx : UInt8, cx = 117 := ⟨_, rfl⟩
                                have HEQ : Hid (esc by_ (92 :: c :: t) = digA by_ false 4 t) := by unfold Hid; rw [hcc]; exact esc_u by_ 92 t
                                have e117 : ((c.toNat : Int) == 117) = true := by rw [hcc]; rfl
                                have e85 : ((c.toNat : Int) == 85) = false := by rw [hcc]; rfl
                                clear hcc hcx
                                by_cases hlen : y.size < 6
                                · have hl1 : decide ((y.size : Int) < 6) = true := by simp; omega
                                  have hl2 : t.length < 4 := by have := HTL.out; omega
                                  have HNONE : Hid (unq by_ B = none) := by
                                    unfold Hid
                                    rw [hun2.out, HYT.out, unq_bad by_ _ (HEQ.out.trans (digA_short hl2))]
                                    rfl
                                  clear hl2 hlen
                                  go_wp2_with fail
                                  refine (errors_new _ _).mono ?_
                                  rintro e w9 ⟨pp, rfl, hb9⟩
                                  have HB9 := Lib.hid (HFIN.out _ (hb9.mono HVO7.out))
                                  clear hb9
                                  go_wp2
                                  refine bodyPost_ret (results_tmp4 rfl _ _ _) rfl ?_
                                  exact ⟨HB9.out, .inr ⟨HNONE.out, _, _, _, _, rfl⟩⟩
                                · have hl1 : decide ((y.size : Int) < 6) = false := by simp; omega
                                  have gk : (6 : Int) ≤ (y.size : Int) := by omega
                                  have gkn : 6 ≤ y.size := by omega
                                  have hl2 : ¬ t.length < 4 := by have := HTL.out; omega
                                  obtain ⟨hx, hhx⟩ : ∃ hx, y.extract 2 6 = hx := ⟨_, rfl⟩
                                  have HHX : Hid (hx.data.toList = t.take 4) := by
                                    unfold Hid
                                    rw [← hhx, extract_list, HYT.out]
                                    rfl
                                  have hhs : hx.size = 4 := by rw [← hhx]; simp; omega
                                  have HPHX := Lib.hid (parse_hex hx (by omega) (by omega) w7 HE7.out)
                                  rw [HexPost2Def, HHX.out] at HPHX
                                  clear hhs hlen
                                  go_wp2_with fail
                                  refine HPHX.out.mono ?_
                                  rintro e w8 ⟨hb8, ⟨n, hn, hlt, rfl⟩ | ⟨hn, n0, tt, pq, rfl⟩⟩
                                  · have HBV8 : Hid (Below V w7 w8) := hb8.mono HVO7.out
                                    have HSB8 : Hid (SB w8 V V o2) := sb_below HSB7.out hb8
                                    have HBE8 : Hid (Below V w4 w8) := HBE7.out.trans HBV8.out
                                    have HVO8 : Hid (V ≤ w8.heap.size) := by have := HBV8.out.size; have := HVO7.out; unfold Hid; omega
                                    have HEN : Hid (esc by_ (92 :: c :: t) = codedP n false by_ 6) := HEQ.out.trans (digA_ok hl2 hn)
                                    clear hn hb8 hhx
                                    by_cases hbad : 1114111 < n ∨ 55296 ≤ n ∧ n < 57344
                                    · have hcn : codedP n false by_ 6 = none := by
                                        unfold codedP
                                        rw [if_neg (by simp), if_pos hbad]
                                      have HNONE : Hid (unq by_ B = none) := by
                                        unfold Hid
                                        rw [hun2.out, HYT.out, unq_bad by_ _ (HEN.out.trans hcn)]
                                        rfl
                                      clear hcn
                                      by_cases hbig : 1114111 < n
                                      · have kb : decide ((1114111 : Int) < (n : Int)) = true := by simp; omega
                                        clear hbad hbig
                                        go_wp2_with fail
                                        refine (errors_new _ _).mono ?_
                                        rintro e w9 ⟨pp, rfl, hb9⟩
                                        have HB9 := Lib.hid (HFIN.out _ (HBV8.out.trans (hb9.mono HVO8.out)))
                                        clear hb9
                                        go_wp2
                                        refine bodyPost_ret (results_tmp4 rfl _ _ _) rfl ?_
                                        exact ⟨HB9.out, .inr ⟨HNONE.out, _, _, _, _, rfl⟩⟩
                                      · have kb : decide ((1114111 : Int) < (n : Int)) = false := by simp; omega
                                        have ks : decide ((55296 : Int) ≤ (n : Int)) = true := by rcases hbad with h | h <;> simp <;> omega
                                        have kt : decide ((n : Int) < 57344) = true := by rcases hbad with h | h <;> simp <;> omega
                                        clear hbad hbig
                                        go_wp2_with fail
                                        refine (errors_new _ _).mono ?_
                                        rintro e w9 ⟨pp, rfl, hb9⟩
                                        have HB9 := Lib.hid (HFIN.out _ (HBV8.out.trans (hb9.mono HVO8.out)))
                                        clear hb9
                                        go_wp2
                                        refine bodyPost_ret (results_tmp4 rfl _ _ _) rfl ?_
                                        exact ⟨HB9.out, .inr ⟨HNONE.out, _, _, _, _, rfl⟩⟩
                                    · have hcs : codedP n false by_ 6 = some (Lib.encodeRune (n : Int), 6) := by
                                        unfold codedP
                                        rw [if_neg (by simp), if_neg hbad]
                                      have HGO : Hid (unq by_ B = (unq by_ ((92 :: c :: t).drop 6)).map ((o2 ++ Lib.encodeRune (n : Int)) ++ ·)) := by
                                        unfold Hid
                                        rw [hun2.out, HYT.out, unq_good by_ _ _ _ (HEN.out.trans hcs)]
                                        exact map_app
                                      obtain ⟨z, hz⟩ : ∃ z, y.extract 6 y.size = z := ⟨_, rfl⟩
                                      have HZD : Hid (z.data.toList = (92 :: c :: t).drop 6) := by unfold Hid; rw [← hz, ext_data, HYT.out]
                                      have hzs : z.size = y.size - 6 := by rw [← hz]; simp
                                      have HZS := Lib.hid hzs
                                      clear hzs
                                      have HPZ : Hid (PlainL z.data.toList) := by unfold Hid; rw [HZD.out, ← HYT.out]; exact fun c hc => HPY.out c (List.mem_of_mem_drop hc)
                                      have HNZ : Hid ((10 : UInt8) ∉ z.data.toList) := by unfold Hid; rw [HZD.out, ← HYT.out]; exact fun hc => HNY.out (List.mem_of_mem_drop hc)
                                      rw [← HZD.out] at HGO
                                      have HPL4 : Hid ((Lib.encodeRune (n : Int)).length ≤ 4) := by
                                        unfold Hid Lib.encodeRune
                                        rw [List.length_map]
                                        exact (Lib.encodeRuneZ_length _).2
                                      have kb : decide ((1114111 : Int) < (n : Int)) = false := by simp; omega
                                      have hwn : IntKind.i32.wrap (n : Int) = (n : Int) := IntWalk.i32_in _ (by omega)
                                      have hn11 : (n : Int) ≤ 1114111 := by omega
                                      clear hcs
                                      rcases (show decide ((55296 : Int) ≤ (n : Int)) = false ∨ (decide ((55296 : Int) ≤ (n : Int)) = true ∧ decide ((n : Int) < 57344) = false) by
                                        by_cases h5 : 55296 ≤ n
                                        · exact .inr ⟨by simp; omega, by simp; omega⟩
                                        · exact .inl (by simp; omega)) with ks | ⟨ks, kt⟩
                                      all_goals
                                        clear hbad
                                        go_wp2_with fail
                                        refine (write_rune V V o2 (n : Int) (by omega) (by omega) w8 HSB8.out (by have := HOUT2.out; omega) HVO8.out).mono ?_
                                        rintro e w9 ⟨⟨nn, rfl⟩, hsb9, hb9⟩
                                        have HSB9 := Lib.hid hsb9
                                        have HBE9 := Lib.hid (HBE8.out.trans hb9)
                                        clear hsb9 hb9
                                        go_wp2
                                        go_roundw
                                        case rel => exact ⟨z, o2 ++ Lib.encodeRune (n : Int), rfl, rfl, by have := HOUT2.out; have := HZS.out; have := HPL4.out; rw [List.length_append]; omega, HPZ, HNZ, HSB9, HBE9, HGO⟩
                                        case measure => simp only [strLen]; have := HZS.out; omega
                                  · have HBV8 : Hid (Below V w7 w8) := hb8.mono HVO7.out
                                    have HVO8 : Hid (V ≤ w8.heap.size) := by have := HBV8.out.size; have := HVO7.out; unfold Hid; omega
                                    have HNONE : Hid (unq by_ B = none) := by
                                      unfold Hid
                                      rw [hun2.out, HYT.out, unq_bad by_ _ (HEQ.out.trans (digA_bad hn))]
                                      rfl
                                    clear hn hb8 hhx
                                    go_wp2_with fail
                                    refine (errors_new _ _).mono ?_
                                    rintro e w9 ⟨pp, rfl, hb9⟩
                                    have HB9 := Lib.hid (HFIN.out _ (HBV8.out.trans (hb9.mono HVO8.out)))
                                    clear hb9
                                    go_wp2
                                    refine bodyPost_ret (results_tmp4 rfl _ _ _) rfl ?_
                                    exact ⟨HB9.out, .inr ⟨HNONE.out, _, _, _, _, rfl⟩⟩
                            have m117 : ((c.toNat : Int) == 117) = false := beq_lit c 117 (by omega) (fun e => hcc (UInt8.toNat_inj.1 e))
                            have HX2 := Lib.hid hcc
                            clear hcc
                            by_cases hcc : c = 85
                            · clear hoct HOCD
                              as_aux_lemma =>
                                obtain ⟨cx, hcx⟩ : ∃ cx : UInt8, cx = 85 := ⟨_, rfl⟩
                                have HEQ : Hid (esc by_ (92 :: c :: t) = digA by_ false 8 t) := by unfold Hid; rw [hcc]; exact esc_U by_ 92 t
                                have e85 : ((c.toNat : Int) == 85) = true := by rw [hcc]; rfl
                                clear hcc hcx
                                by_cases hlen : y.size < 10
                                · have hl1 : decide ((y.size : Int) < 10) = true := by simp; omega
                                  have hl2 : t.length < 8 := by have := HTL.out; omega
                                  have HNONE : Hid (unq by_ B = none) := by
                                    unfold Hid
                                    rw [hun2.out, HYT.out, unq_bad by_ _ (HEQ.out.trans (digA_short hl2))]
                                    rfl
                                  clear hl2 hlen
                                  go_wp2_with fail
                                  refine (errors_new _ _).mono ?_
                                  rintro e w9 ⟨pp, rfl, hb9⟩
                                  have HB9 := Lib.hid (HFIN.out _ (hb9.mono HVO7.out))
                                  clear hb9
                                  go_wp2
                                  refine bodyPost_ret (results_tmp4 rfl _ _ _) rfl ?_
                                  exact ⟨HB9.out, .inr ⟨HNONE.out, _, _, _, _, rfl⟩⟩
                                · have hl1 : decide ((y.size : Int) < 10) = false := by simp; omega
                                  have gk : (10 : Int) ≤ (y.size : Int) := by omega
                                  have gkn : 10 ≤ y.size := by omega
                                  have hl2 : ¬ t.length < 8 := by have := HTL.out; omega
                                  obtain ⟨hx, hhx⟩ : ∃ hx, y.extract 2 10 = hx := ⟨_, rfl⟩
                                  have HHX : Hid (hx.data.toList = t.take 8) := by
                                    unfold Hid
                                    rw [← hhx, extract_list, HYT.out]
                                    rfl
                                  have hhs : hx.size = 8 := by rw [← hhx]; simp; omega
                                  have HPHX := Lib.hid (parse_hex hx (by omega) (by omega) w7 HE7.out)
                                  rw [HexPost2Def, HHX.out] at HPHX
                                  clear hhs hlen
                                  go_wp2_with fail
                                  refine HPHX.out.mono ?_
                                  rintro e w8 ⟨hb8, ⟨n, hn, hlt, rfl⟩ | ⟨hn, n0, tt, pq, rfl⟩⟩
                                  · have HBV8 : Hid (Below V w7 w8) := hb8.mono HVO7.out
                                    have HSB8 : Hid (SB w8 V V o2) := sb_below HSB7.out hb8
                                    have HBE8 : Hid (Below V w4 w8) := HBE7.out.trans HBV8.out
                                    have HVO8 : Hid (V ≤ w8.heap.size) := by have := HBV8.out.size; have := HVO7.out; unfold Hid; omega
                                    have HEN : Hid (esc by_ (92 :: c :: t) = codedP n false by_ 10) := HEQ.out.trans (digA_ok hl2 hn)
                                    clear hn hb8 hhx
                                    by_cases hbad : 1114111 < n ∨ 55296 ≤ n ∧ n < 57344
                                    · have hcn : codedP n false by_ 10 = none := by
                                        unfold codedP
                                        rw [if_neg (by simp), if_pos hbad]
                                      have HNONE : Hid (unq by_ B = none) := by
                                        unfold Hid
                                        rw [hun2.out, HYT.out, unq_bad by_ _ (HEN.out.trans hcn)]
                                        rfl
                                      clear hcn
                                      by_cases hbig : 1114111 < n
                                      · have kb : decide ((1114111 : Int) < (n : Int)) = true := by simp; omega
                                        clear hbad hbig
                                        go_wp2_with fail
                                        refine (errors_new _ _).mono ?_
                                        rintro e w9 ⟨pp, rfl, hb9⟩
                                        have HB9 := Lib.hid (HFIN.out _ (HBV8.out.trans (hb9.mono HVO8.out)))
                                        clear hb9
                                        go_wp2
                                        refine bodyPost_ret (results_tmp4 rfl _ _ _) rfl ?_
                                        exact ⟨HB9.out, .inr ⟨HNONE.out, _, _, _, _, rfl⟩⟩
                                      · have kb : decide ((1114111 : Int) < (n : Int)) = false := by simp; omega
                                        have ks : decide ((55296 : Int) ≤ (n : Int)) = true := by rcases hbad with h | h <;> simp <;> omega
                                        have kt : decide ((n : Int) < 57344) = true := by rcases hbad with h | h <;> simp <;> omega
                                        clear hbad hbig
                                        go_wp2_with fail
                                        refine (errors_new _ _).mono ?_
                                        rintro e w9 ⟨pp, rfl, hb9⟩
                                        have HB9 := Lib.hid (HFIN.out _ (HBV8.out.trans (hb9.mono HVO8.out)))
                                        clear hb9
                                        go_wp2
                                        refine bodyPost_ret (results_tmp4 rfl _ _ _) rfl ?_
                                        exact ⟨HB9.out, .inr ⟨HNONE.out, _, _, _, _, rfl⟩⟩
                                    · have hcs : codedP n false by_ 10 = some (Lib.encodeRune (n : Int), 10) := by
                                        unfold codedP
                                        rw [if_neg (by simp), if_neg hbad]
                                      have HGO : Hid (unq by_ B = (unq by_ ((92 :: c :: t).drop 10)).map ((o2 ++ Lib.encodeRune (n : Int)) ++ ·)) := by
                                        unfold Hid
                                        rw [hun2.out, HYT.out, unq_good by_ _ _ _ (HEN.out.trans hcs)]
                                        exact map_app
                                      obtain ⟨z, hz⟩ : ∃ z, y.extract 10 y.size = z := ⟨_, rfl⟩
                                      have HZD : Hid (z.data.toList = (92 :: c :: t).drop 10) := by unfold Hid; rw [← hz, ext_data, HYT.out]
                                      have hzs : z.size = y.size - 10 := by rw [← hz]; simp
                                      have HZS := Lib.hid hzs
                                      clear hzs
                                      have HPZ : Hid (PlainL z.data.toList) := by unfold Hid; rw [HZD.out, ← HYT.out]; exact fun c hc => HPY.out c (List.mem_of_mem_drop hc)
                                      have HNZ : Hid ((10 : UInt8) ∉ z.data.toList) := by unfold Hid; rw [HZD.out, ← HYT.out]; exact fun hc => HNY.out (List.mem_of_mem_drop hc)
                                      rw [← HZD.out] at HGO
                                      have HPL4 : Hid ((Lib.encodeRune (n : Int)).length ≤ 4) := by
                                        unfold Hid Lib.encodeRune
                                        rw [List.length_map]
                                        exact (Lib.encodeRuneZ_length _).2
                                      have kb : decide ((1114111 : Int) < (n : Int)) = false := by simp; omega
                                      have hwn : IntKind.i32.wrap (n : Int) = (n : Int) := IntWalk.i32_in _ (by omega)
                                      have hn11 : (n : Int) ≤ 1114111 := by omega
                                      clear hcs
                                      rcases (show decide ((55296 : Int) ≤ (n : Int)) = false ∨ (decide ((55296 : Int) ≤ (n : Int)) = true ∧ decide ((n : Int) < 57344) = false) by
                                        by_cases h5 : 55296 ≤ n
                                        · exact .inr ⟨by simp; omega, by simp; omega⟩
                                        · exact .inl (by simp; omega)) with ks | ⟨ks, kt⟩
                                      all_goals
                                        clear hbad
                                        go_wp2_with fail
                                        refine (write_rune V V o2 (n : Int) (by omega) (by omega) w8 HSB8.out (by have := HOUT2.out; omega) HVO8.out).mono ?_
                                        rintro e w9 ⟨⟨nn, rfl⟩, hsb9, hb9⟩
                                        have HSB9 := Lib.hid hsb9
                                        have HBE9 := Lib.hid (HBE8.out.trans hb9)
                                        clear hsb9 hb9
                                        go_wp2
                                        go_roundw
                                        case rel => exact ⟨z, o2 ++ Lib.encodeRune (n : Int), rfl, rfl, by have := HOUT2.out; have := HZS.out; have := HPL4.out; rw [List.length_append]; omega, HPZ, HNZ, HSB9, HBE9, HGO⟩
                                        case measure => simp only [strLen]; have := HZS.out; omega
                                  · have HBV8 : Hid (Below V w7 w8) := hb8.mono HVO7.out
                                    have HVO8 : Hid (V ≤ w8.heap.size) := by have := HBV8.out.size; have := HVO7.out; unfold Hid; omega
                                    have HNONE : Hid (unq by_ B = none) := by
                                      unfold Hid
                                      rw [hun2.out, HYT.out, unq_bad by_ _ (HEQ.out.trans (digA_bad hn))]
                                      rfl
                                    clear hn hb8 hhx
                                    go_wp2_with fail
                                    refine (errors_new _ _).mono ?_
                                    rintro e w9 ⟨pp, rfl, hb9⟩
                                    have HB9 := Lib.hid (HFIN.out _ (HBV8.out.trans (hb9.mono HVO8.out)))
                                    clear hb9
                                    go_wp2
                                    refine bodyPost_ret (results_tmp4 rfl _ _ _) rfl ?_
                                    exact ⟨HB9.out, .inr ⟨HNONE.out, _, _, _, _, rfl⟩⟩
                            have m85 : ((c.toNat : Int) == 85) = false := beq_lit c 85 (by omega) (fun e => hcc (UInt8.toNat_inj.1 e))
                            have HC3 : Hid (c ≠ 120 ∧ c ≠ 117 ∧ c ≠ 85) := ⟨HX.out, HX2.out, hcc⟩
                            clear hcc
                            as_aux_lemma =>
                              have HNONE : Hid (unq by_ B = none) := by
                                unfold Hid
                                rw [hun2.out, HYT.out, unq_bad by_ _ ((esc_none_cls by_ c t HH0.out HC3.out.1 HC3.out.2.1 HC3.out.2.2).trans (octA_no by_ 92 c t hoct))]
                                rfl
                              clear hoct HOCD
                              go_wp2_with fail
                              refine (errors_new _ _).mono ?_
                              rintro e w9 ⟨pp, rfl, hb9⟩
                              have HB9 := Lib.hid (HFIN.out _ (hb9.mono HVO7.out))
                              clear hb9
                              go_wp2
                              refine bodyPost_ret (results_tmp4 rfl _ _ _) rfl ?_
                              exact ⟨HB9.out, .inr ⟨HNONE.out, _, _, _, _, rfl⟩⟩
end Go.Proofs.YtghendoiohfolaaGreatDoor
