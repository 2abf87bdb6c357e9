import Derived.Test.Qxb6606017aFmtName
import Derived.Lib.Walk
import Derived.Laws.Strings3
import Derived.ScopeJumps
import Derived.Laws.RangeAny
namespace Go.Proofs.Qxb6606017aFmt
open Go.RowKit Go.PlainAid

/-- unicode.asciiFold at the six letters that matter. -/
def Folds (w : World) : Prop := ∀ p ∈ [((120 : Nat), (88 : Int)), (109, 77), (108, 76), (88, 120), (77, 109), (76, 108)], w.cell? ⟨2, p.1, none⟩ = some (.int .u16 p.2)

set_option maxRecDepth 8000 in
set_option maxHeartbeats 1000000 in
theorem simpleFold_at (c : Nat) (d : Int) (w : World) (hc : c < 128) (hd : 0 ≤ d ∧ d ≤ 127) (hA : w.cell? ⟨2, c, none⟩ = some (.int .u16 d)) :
    Calls Tryf.prog 44 #[.int .i32 c] w fun r w' => r = .returned (.int .i32 d) ∧ w' = w := by
  have h1 : (c : Int) < 128 := by omega
  obtain ⟨d0, d1⟩ := hd
  go_enter Tryf.func44, Tryf.ntmps44
  go_wp2
  go_ret
  exact ⟨rfl, rfl⟩

theorem or_lt (c l : Int) (h0 : 0 ≤ c) (h1 : c < 128) (h2 : 0 ≤ l) (h3 : l < 128) : decide (128 ≤ bits .or .u8 c l) = false := by
  rw [u8_or c l h0 (by omega) h2 (by omega)]
  have := Nat.or_lt_two_pow (n := 7) (x := c.toNat) (y := l.toNat) (by omega) (by omega)
  exact decide_eq_false (by omega)
theorem or_ge (c l : Int) (h0 : 128 ≤ c) (h1 : c ≤ 255) (h2 : 0 ≤ l) (h3 : l < 128) : decide (128 ≤ bits .or .u8 c l) = true := by
  rw [u8_or c l (by omega) (by omega) h2 (by omega)]
  have := Nat.left_le_or (n := c.toNat) (m := l.toNat)
  exact decide_eq_true (by omega)
/-- The letters x, m, l. -/
def xl : Nat → Int
  | 0 => 120
  | 1 => 109
  | _ => 108
/-- Is s 'xml', in whatever case? -/
def xmlB (s : ByteArray) : Bool := decide (s.size = 3) && decide (bt s 0 = 120 ∨ bt s 0 = 88) && decide (bt s 1 = 109 ∨ bt s 1 = 77) && decide (bt s 2 = 108 ∨ bt s 2 = 76)
theorem xmlB_no (s : ByteArray) (i : Nat) (hi : i < 3) (h : bt s i ≠ xl i ∧ bt s i ≠ xl i - 32) : xmlB s = false := by
  unfold xmlB
  rcases (show i = 0 ∨ i = 1 ∨ i = 2 by omega) with rfl | rfl | rfl
  all_goals simp [xl] at h; simp [h]
theorem xmlB_yes (s : ByteArray) (h3 : s.size = 3) (h : ∀ j, j < 3 → bt s j = xl j ∨ bt s j = xl j - 32) : xmlB s = true := by
  have h0 := h 0 (by omega); have h1 := h 1 (by omega); have h2 := h 2 (by omega)
  simp [xl] at h0 h1 h2
  simp [xmlB, h3, h0, h1, h2]
theorem xmlB_size (s : ByteArray) (h3 : s.size ≠ 3) : xmlB s = false := by simp [xmlB, h3]

theorem lt_of_cell' {w : World} {a : Addr} {v : Value} (h : w.cell? a = some v) : a.block < w.heap.size := World.block_lt_of_cell? w a h
theorem dec_letter (t : ByteArray) (i : Nat) (hi : i < t.size) (h : bt t i < 128) : Lib.decodeGo (t.extract i t.size) = ((bt t i).toNat, 1) := by
  rw [decode_eq t i hi, dec_asc t i h]; rfl
/-- The frame at the jump: what matters of it. -/
def fr32 (s t : ByteArray) (i : Nat) (f : Nat → Value) : Act := { tmps := #[.string s, .string t, f 2, f 3, f 4, .int .i64 (i : Int), f 6, f 7, f 8, f 9, f 10, f 11, f 12, f 13, f 14, f 15, f 16, f 17, f 18, f 19, f 20, f 21, f 22, f 23, f 24, f 25, f 26, f 27, f 28, f 29, f 30, f 31, f 32, f 33, f 34, f 35, f 36, f 37, f 38, f 39, f 40, f 41, f 42, f 43, f 44, f 45, f 46, f 47, f 48, f 49, f 50, f 51, f 52, f 53, f 54, f 55, f 56, f 57, f 58, f 59, f 60, f 61, f 62, f 63, f 64, f 65, f 66, f 67, f 68, f 69, f 70, f 71, f 72, f 73, f 74, f 75, f 76, f 77, f 78, f 79, f 80, f 81, f 82, f 83, f 84, f 85, f 86, f 87, f 88, f 89, f 90, f 91, f 92, f 93, f 94, f 95, f 96, f 97, f 98, f 99, f 100, f 101, f 102, f 103, f 104, f 105, f 106, f 107, f 108, f 109, f 110, f 111, f 112, f 113, f 114, f 115, f 116, f 117, f 118, f 119, f 120, f 121, f 122], defers := [] }
/-- The state at the jump: s's byte i is none of ASCII. -/
def Jmp (s t : ByteArray) (w : World) (a' : Act) (w' : World) : Prop :=
  w' = w ∧ ∃ (i : Nat) (f : Nat → Value), i < 3 ∧ i < s.size ∧ 128 ≤ bt s i ∧ a' = fr32 s t i f

theorem Jmp.of {s t : ByteArray} {w : World} {A : Act} (i : Nat) (h1 : i < 3) (h2 : i < s.size) (h3 : 128 ≤ bt s i) (hA : A = fr32 s t i (fun k => A.tmps.getD k undef)) : Jmp s t w A w := ⟨rfl, i, _, h1, h2, h3, hA⟩

set_option maxRecDepth 8000 in
set_option maxHeartbeats 2000000 in
theorem equalFold_xml (s t : ByteArray) (w : World) (hs : s.size ≤ 4194304) (ht : t.size = 3) (ht0 : bt t 0 = 120) (ht1 : bt t 1 = 109) (ht2 : bt t 2 = 108) (hT : Lib.Utf8Tabs 0 1 w) (hA : Folds w) :
    Calls Tryf.prog 32 #[.string s, .string t] w fun r w' => r = .returned (.bool (xmlB s)) ∧ Below w.heap.size w w' := by
  have HT : Hid (Lib.Utf8Tabs 0 1 w) := hT
  have HA : Hid (Folds w) := hA
  clear hT hA
  have hgb := get_bt s
  have hgt := get_bt t
  have htI : (t.size : Int) = 3 := by omega
  go_enter Tryf.func32, Tryf.ntmps32
  go_wp2
  refine wp_scope_jumps 0 (Jmp s t w) (fun _ _ => 0) rfl ?_ ?_
  · obtain ⟨M, hM⟩ : ∃ M : Nat, min (s.size : Int) 3 = (M : Int) := ⟨min s.size 3, by omega⟩
    have hMs : M ≤ s.size := by omega
    have hMt : M ≤ 3 := by omega
    have hMe : M = s.size ∨ M = 3 := by omega
    go_wp2
    clear hM
    go_loopg [5] M (fun g iv wr => ∃ i : Nat, g = M - i ∧ iv = .int .i64 i ∧ i ≤ M ∧ (∀ j, j < i → bt s j = xl j ∨ bt s j = xl j - 32) ∧ w = wr)
    case atStart => exact ⟨0, rfl, rfl, Nat.zero_le _, fun j hj => by omega, rfl⟩
    case round =>
      obtain ⟨i, hg, rfl, hi, hall, rfl⟩ := hrel
      have HG : Hid (gk = M - i) := hg
      have HL : Hid (∀ j, j < i → bt s j = xl j ∨ bt s j = xl j - 32) := hall
      clear hg hall
      by_cases hlt : i < M
      · have hltI : (i : Int) < (M : Int) := by omega
        have hls : (i : Int) < (s.size : Int) := by omega
        have hls' : i < s.size := by omega
        have hlt3 : i < t.size := by omega
        have hlt3I : (i : Int) < 3 := by omega
        have b0 := bt_nonneg s i
        have b1 := bt_le s i
        have HNO : Hid (∀ (h : bt s i ≠ xl i ∧ bt s i ≠ xl i - 32), xmlB s = false) := fun h => xmlB_no s i (by omega) h
        have HY : Hid (∀ (h : bt s i = xl i ∨ bt s i = xl i - 32), ∀ j, j < i + 1 → bt s j = xl j ∨ bt s j = xl j - 32) := fun h j hj => by
          rcases Nat.lt_or_ge j i with h1 | h1
          · exact HL.out j h1
          · obtain rfl : j = i := by omega
            exact h
        have hti : bt t i = xl i := by
          rcases (show i = 0 ∨ i = 1 ∨ i = 2 by omega) with rfl | rfl | rfl
          · exact ht0
          · exact ht1
          · exact ht2
        have hxl : 97 ≤ xl i ∧ xl i ≤ 122 := by
          rcases (show i = 0 ∨ i = 1 ∨ i = 2 by omega) with rfl | rfl | rfl <;> simp [xl]
        clear ht0 ht1 ht2
        obtain ⟨L, hL⟩ : ∃ L, xl i = L := ⟨_, rfl⟩
        rw [hL] at hti hxl HNO HY
        obtain ⟨hx1, hx2⟩ := hxl
        by_cases hc : bt s i < 128
        · have hor := or_lt (bt s i) L b0 hc (by omega) (by omega)
          by_cases he : bt s i = L
          · have heB : (L == bt s i) = true := by simp [he]
            have HE : Hid (bt s i = L) := he
            clear he
            go_wp2
            go_roundg (M - (i + 1))
            case measure => have := HG.out; omega
            case rel => exact ⟨i + 1, rfl, by go_num, by omega, HY.out (Or.inl HE.out), rfl⟩
          · have heB : (L == bt s i) = false := by simp; omega
            by_cases he2 : bt s i = L - 32
            · have h1 : ¬ L < bt s i := by omega
              have h2 : 65 ≤ bt s i := by omega
              have h3 : bt s i ≤ 90 := by omega
              have hw : (L == bt s i + 97 - 65) = true := by simp; omega
              have HE : Hid (bt s i = L - 32) := he2
              clear he he2
              go_wp2
              go_roundg (M - (i + 1))
              case measure => have := HG.out; omega
              case rel => exact ⟨i + 1, rfl, by go_num, by omega, HY.out (Or.inr HE.out), rfl⟩
            · have hF := HNO.out ⟨he, he2⟩
              have HF : Hid (xmlB s = false) := hF
              have hw : (L == bt s i + 97 - 65) = false := by simp; omega
              clear he he2 hF
              by_cases hsw : L < bt s i
              · have h1 : ¬ L ≤ 90 := by omega
                go_wp2
                all_goals
                  try simp only [Exit.jump]
                  go_ret
                  exact ⟨ret_bool HF.out.symm, Below.refl _ _⟩
              · go_wp2
                all_goals
                  try simp only [Exit.jump]
                  go_ret
                  exact ⟨ret_bool HF.out.symm, Below.refl _ _⟩
        · have hor := or_ge (bt s i) L (by omega) b1 (by omega) (by omega)
          go_wp2
          go_step3
          exact ⟨rfl, Jmp.of i (by omega) hls' (by omega) rfl⟩
      · have hiM : ¬ ((i : Int) < (M : Int)) := by omega
        obtain rfl : i = M := by omega
        by_cases h3 : s.size = 3
        · have hX := xmlB_yes s h3 (fun j hj => HL.out j (by omega))
          have HX : Hid (xmlB s = true) := hX
          have h3B : ((s.size : Int) == 3) = true := by simp; omega
          clear h3 hX
          go_wp2
          try simp only [Exit.jump]
          go_ret
          exact ⟨ret_bool HX.out.symm, Below.refl _ _⟩
        · have hX := xmlB_size s h3
          have HX : Hid (xmlB s = false) := hX
          have h3B : ((s.size : Int) == 3) = false := by simp; omega
          clear h3 hX
          go_wp2
          try simp only [Exit.jump]
          go_ret
          exact ⟨ret_bool HX.out.symm, Below.refl _ _⟩
  · rintro a' w' ⟨rfl, i, f, hi3, his, hbi, rfl⟩
    unfold fr32
    have his' : (i : Int) ≤ (s.size : Int) := by omega
    have hi3' : (i : Int) ≤ 3 := by omega
    have hX : xmlB s = false := xmlB_no s i hi3 (by
      rcases (show i = 0 ∨ i = 1 ∨ i = 2 by omega) with rfl | rfl | rfl <;> simp [xl] <;> omega)
    have HX : Hid (xmlB s = false) := hX
    have hti : bt t i = xl i := by
      rcases (show i = 0 ∨ i = 1 ∨ i = 2 by omega) with rfl | rfl | rfl
      · exact ht0
      · exact ht1
      · exact ht2
    have hLf : ∃ c d : Nat, xl i = (c : Int) ∧ c < 128 ∧ d < 128 ∧ d < c ∧ w'.cell? ⟨2, c, none⟩ = some (.int .u16 (d : Int)) ∧ w'.cell? ⟨2, d, none⟩ = some (.int .u16 (c : Int)) := by
      rcases (show i = 0 ∨ i = 1 ∨ i = 2 by omega) with rfl | rfl | rfl
      · exact ⟨120, 88, rfl, by omega, by omega, by omega, HA.out (120, 88) (by simp), HA.out (88, 120) (by simp)⟩
      · exact ⟨109, 77, rfl, by omega, by omega, by omega, HA.out (109, 77) (by simp), HA.out (77, 109) (by simp)⟩
      · exact ⟨108, 76, rfl, by omega, by omega, by omega, HA.out (108, 76) (by simp), HA.out (76, 108) (by simp)⟩
    obtain ⟨c, d, hc, hc1, hd1, hdc, hA1, hA2⟩ := hLf
    have hdl := dec_letter t i (by omega) (by rw [hti, hc]; omega)
    rw [hti, hc, Int.toNat_natCast, ht] at hdl
    have hxs : 0 < (s.extract i s.size).size := by simp; omega
    have hr128 : 128 ≤ (Utf8.decode (s.extract i s.size) 0).1 := (decode_high (s.extract i s.size) 0 hxs (by
      have := ext_get s i 0 (by omega)
      rw [Nat.add_zero] at this
      have e := get_at (s.extract i s.size) 0 hxs
      simp only [Nat.add_zero] at e
      rw [← e]; omega)).1
    have hnx := fun ty => run_next_any (P := Tryf.prog) w' (s.extract i s.size) 0 ty hxs
    have hrl := decode_le (s.extract i s.size) 0
    generalize (Utf8.decode (s.extract i s.size) 0).1 = r at *
    generalize (Utf8.decode (s.extract i s.size) 0).2 = kk at *
    have hlt : ∀ pos, Below w'.heap.size w' (w'.iter (s.extract i s.size) pos) := fun pos => (Below.refl _ _).alloc (Nat.le_refl _) _
    have h2lt : 2 < w'.heap.size := lt_of_cell' hA1
    have cD : ∀ pos, Calls Tryf.prog 26 #[.string (t.extract i 3)] (w'.iter (s.extract i s.size) pos) fun e w1 => e = .returned (.tuple #[.int .i32 c, .int .i64 1]) ∧ Below (w'.iter (s.extract i s.size) pos).heap.size (w'.iter (s.extract i s.size) pos) w1 := fun pos => by
      have := decodeAt t i c 1 (w'.iter (s.extract i s.size) pos) (by rw [ht]; exact hdl) (tabs_below w'.heap.size (by omega) (hlt pos) HT.out)
      rw [ht] at this
      exact this
    have HD : Hid (∀ pos, Calls Tryf.prog 26 #[.string (t.extract i 3)] (w'.iter (s.extract i s.size) pos) fun e w1 => e = .returned (.tuple #[.int .i32 c, .int .i64 1]) ∧ Below (w'.iter (s.extract i s.size) pos).heap.size (w'.iter (s.extract i s.size) pos) w1) := cD
    have HLT : Hid (∀ pos, Below w'.heap.size w' (w'.iter (s.extract i s.size) pos)) := hlt
    have HH1 : Hid (w'.cell? ⟨2, c, none⟩ = some (.int .u16 (d : Int))) := hA1
    have HH2 : Hid (w'.cell? ⟨2, d, none⟩ = some (.int .u16 (c : Int))) := hA2
    clear ht0 ht1 ht2 hX hti hc hdl cD hlt hgb hgt hA1 hA2
    have hcI : (c : Int) < 128 := by omega
    have hrI : 128 ≤ (r : Int) := by omega
    go_wp2_with fail
    refine wp_loop_rounds 1 ?_
    rw [rounds_succ]
    go_wp2_with fail
    refine (HD.out kk).mono ?_
    rintro e w1 ⟨rfl, hb1⟩
    have hB : Below w'.heap.size w' w1 := (HLT.out kk).trans (hb1.mono (HLT.out kk).size)
    have c1 : w1.cell? ⟨2, c, none⟩ = some (.int .u16 (d : Int)) := (hB.cell (p := ⟨2, c, none⟩) h2lt).trans HH1.out
    have c2 : w1.cell? ⟨2, d, none⟩ = some (.int .u16 (c : Int)) := (hB.cell (p := ⟨2, d, none⟩) h2lt).trans HH2.out
    have HB : Hid (Below w'.heap.size w' w1) := hB
    have S1 : Hid (Calls Tryf.prog 44 #[.int .i32 c] w1 fun r w' => r = .returned (.int .i32 d) ∧ w' = w1) := simpleFold_at c d w1 hc1 (by omega) c1
    have S2 : Hid (Calls Tryf.prog 44 #[.int .i32 d] w1 fun r w' => r = .returned (.int .i32 c) ∧ w' = w1) := simpleFold_at d c w1 hd1 (by omega) c2
    clear hb1 hB c1 c2 hnx HH1 HH2
    have q1 : ((c : Int) == (r : Int)) = false := by simp; omega
    have q2 : ((d : Int) != (c : Int)) = true := by simp; omega
    have q3 : (d : Int) < (r : Int) := by omega
    have q4 : (c : Int) < (r : Int) := by omega
    go_wp2_with fail
    refine S1.out.mono ?_
    rintro e w2 ⟨rfl, rfl⟩
    go_wp2_with fail
    refine wp_loop_rounds 2 ?_
    rw [rounds_succ]
    go_wp2_with fail
    refine S2.out.mono ?_
    rintro e w2 ⟨rfl, rfl⟩
    go_wp2_with fail
    try rw [rounds_succ]
    go_wp2_with fail
    try simp only [Exit.jump]
    go_ret
    exact ⟨ret_bool HX.out.symm, HB.out⟩
end Go.Proofs.Qxb6606017aFmt
