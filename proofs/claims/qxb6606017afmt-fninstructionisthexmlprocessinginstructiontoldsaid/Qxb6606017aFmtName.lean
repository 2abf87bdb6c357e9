import Derived.Test.Qxb6606017aFmtFail
import Derived.Test.Qxb6606017aFmtWalkA
import Derived.Test.Qxb6606017aFmtDec
import Derived.Deep.LoopGhost
import Derived.Deep.CutRange
import Derived.Deep.CutBlock
import Derived.Deep.DeepCutAuto
import Derived.BigQuiet
import Derived.Deep.QuietTactic
namespace Go.Proofs.Qxb6606017aFmt
open Go.RowKit Go.PlainAid
open Go.Extern.Stop Go.Stop Go.Extern

/-- The parser at block b: its text and its place. -/
def Prs (b : Nat) (s : ByteArray) (k : Nat) (w : World) : Prop :=
  w.cell? ⟨b, 0, none⟩ = some (.string s) ∧ w.cell? ⟨b, 1, none⟩ = some (.int .i64 k) ∧ w.frozen? ⟨b, 1, none⟩ = false ∧ b < w.heap.size

theorem Prs.set {b : Nat} {s : ByteArray} {i : Nat} {w : World} (h : Prs b s i w) (j : Nat) : Prs b s j (w.setCell ⟨b, 1, none⟩ (.int .i64 j)) := by
  obtain ⟨h0, h1, h2, h3⟩ := h
  refine ⟨?_, ?_, ?_, ?_⟩
  · rw [World.cell?_setCell_other _ _ _ _ (by simp)]; exact h0
  · exact World.cell?_setCell_same _ _ _ h1
  · simpa using h2
  · simpa using h3
theorem Prs.drew {b : Nat} {s : ByteArray} {i : Nat} {w : World} (h : Prs b s i w) : Prs b s i w.drew := h
theorem Prs.below {b : Nat} {s : ByteArray} {i : Nat} {w w' : World} (h : Prs b s i w) (k : Below (b + 1) w w') : Prs b s i w' := by
  obtain ⟨h0, h1, h2, h3⟩ := h
  refine ⟨?_, ?_, ?_, Nat.lt_of_lt_of_le h3 k.size⟩
  · rw [k.cell (p := ⟨b, 0, none⟩) (Nat.lt_succ_self b)]; exact h0
  · rw [k.cell (p := ⟨b, 1, none⟩) (Nat.lt_succ_self b)]; exact h1
  · rw [k.frozen (p := ⟨b, 1, none⟩) (Nat.lt_succ_self b)]; exact h2

theorem tabs_below {w w' : World} (B : Nat) (hB : 2 ≤ B) (h : Below B w w') (hT : Lib.Utf8Tabs 0 1 w) : Lib.Utf8Tabs 0 1 w' := by
  refine ⟨fun c hc => ?_, fun i hi => ⟨?_, ?_⟩⟩
  · rw [h.cell (p := ⟨0, c, none⟩) (by show 0 < B; omega)]; exact hT.1 c hc
  · rw [h.cell (p := ⟨1, 2 * i, none⟩) (by show 1 < B; omega)]; exact (hT.2 i hi).1
  · rw [h.cell (p := ⟨1, 2 * i + 1, none⟩) (by show 1 < B; omega)]; exact (hT.2 i hi).2

/-- Is the name that was read a name: not empty, at most one colon, neither first nor last? -/
def nmOK (l : List UInt8) : Bool :=
  !l.isEmpty && !((Lib.cut l [58]).2.2 && ((Lib.cut l [58]).1.isEmpty || (Lib.cut l [58]).2.1.isEmpty || decide (0 ≤ Lib.indexByte (Lib.cut l [58]).2.1 58)))

theorem decodeAt (s : ByteArray) (i r k : Nat) (w : World) (h : Lib.decodeGo (s.extract i s.size) = (r, k)) (hT : Lib.Utf8Tabs 0 1 w) :
    Calls Tryf.prog 26 #[.string (s.extract i s.size)] w fun e w' => e = .returned (.tuple #[.int .i32 r, .int .i64 k]) ∧ Below w.heap.size w w' := by
  have c := Tryf.utf8_DecodeRuneInString (s.extract i s.size) w hT
  rw [h] at c
  exact c

theorem fmtA : FmtStop.printed? ⟨#[97, 32, 110, 97, 109, 101, 32, 101, 120, 112, 101, 99, 116, 101, 100]⟩ 0 = some [] := by kernel_rfl
theorem fmtB : FmtStop.printed? ⟨#[110, 97, 109, 101, 32, 37, 115, 32, 105, 115, 32, 110, 111, 116, 32, 97, 32, 112, 114, 101, 102, 105, 120, 32, 97, 110, 100, 32, 97, 32, 108, 111, 99, 97, 108, 32, 112, 97, 114, 116]⟩ 1 = some [(0, 115, false)] := by kernel_rfl
theorem new0 (w : World) (v0 v1 : Value) (t : TypeId) : (((w.alloc (.cells #[v0, v1] t)).drew.drew).cell? ⟨w.heap.size, 0, none⟩) = some v0 := by
  show (w.alloc (.cells #[v0, v1] t)).cell? ⟨w.heap.size, 0, none⟩ = some v0
  simp
theorem Prs.alloc {b : Nat} {s : ByteArray} {e : Nat} {wc : World} (hP : Prs b s e wc) (o : Obj) : Prs b s e (wc.alloc o) :=
  Prs.below (w := wc) hP ((Below.refl _ _).alloc hP.2.2.2 o)
theorem fail_below {b : Nat} {w wc : World} (hbw : Below b w wc) (h : b < wc.heap.size) (o : Obj) : Below b w (wc.alloc o).drew.drew :=
  (hbw.alloc (Nat.le_of_lt h) o).drew.drew
theorem fail_below2 {b : Nat} {w wc : World} (hbw : Below b w wc) (h : b < wc.heap.size) (o o' : Obj) : Below b w ((wc.alloc o).alloc o').drew.drew :=
  ((hbw.alloc (Nat.le_of_lt h) o).alloc (Nat.le_of_lt (by simp; omega)) o').drew.drew
theorem new1 (w : World) (o : Obj) (v0 v1 : Value) (t : TypeId) : (((w.alloc o).alloc (.cells #[v0, v1] t)).drew.drew).cell? ⟨w.heap.size + 1, 0, none⟩ = some v0 := by
  have e : (w.alloc o).heap.size = w.heap.size + 1 := by simp
  rw [← e]; exact new0 (w.alloc o) v0 v1 t
theorem nmOK_empty (X : ByteArray) (h : X.toList.isEmpty = true) : nmOK X.data.toList = false := by
  rw [Lib.toList_data] at h
  simp [nmOK, h]
theorem nmOK_plain (X : ByteArray) (h : X.toList.isEmpty = false) (h1 : ¬ (Lib.cut X.data.toList [58]).2.2 = true) : nmOK X.data.toList = true := by
  rw [Lib.toList_data] at h
  simp [nmOK, h, h1]
theorem nmOK_pre (X : ByteArray) (h1 : (Lib.cut X.data.toList [58]).2.2 = true) (h2 : (Lib.cut X.data.toList [58]).1 = []) : nmOK X.data.toList = false := by
  simp [nmOK, h1, h2]
theorem nmOK_loc (X : ByteArray) (h1 : (Lib.cut X.data.toList [58]).2.2 = true) (h2 : (Lib.cut X.data.toList [58]).2.1 = []) : nmOK X.data.toList = false := by
  simp [nmOK, h1, h2]
theorem nmOK_two (X : ByteArray) (h1 : (Lib.cut X.data.toList [58]).2.2 = true) (h2 : ((Lib.cut X.data.toList [58]).1.isEmpty = true ∨ (Lib.cut X.data.toList [58]).2.1.isEmpty = true) ∨ 0 ≤ Lib.indexByte (Lib.cut X.data.toList [58]).2.1 58) : nmOK X.data.toList = false := by
  unfold nmOK
  rw [h1]
  rcases h2 with (h2 | h2) | h2 <;> simp [h2]
theorem nmOK_one (X : ByteArray) (h : X.toList.isEmpty = false) (h1 : (Lib.cut X.data.toList [58]).2.2 = true) (h2 : ¬ (Lib.cut X.data.toList [58]).1 = []) (h3 : ¬ (Lib.cut X.data.toList [58]).2.1 = []) (h4 : ¬ 0 ≤ Lib.indexByte (Lib.cut X.data.toList [58]).2.1 58) : nmOK X.data.toList = true := by
  rw [Lib.toList_data] at h
  simp [nmOK, h, h1, h2, h3]; omega

set_option maxRecDepth 8000 in
set_option maxHeartbeats 4000000 in
theorem name_any (b : Nat) (s : ByteArray) (a e : Nat) (m : Int) (w : World) (hP : Prs b s a w) (hs : s.size ≤ 4194304) (hT : Lib.Utf8Tabs 0 1 w) (hm : w.cell? ⟨5, 0, none⟩ = some (.int .i64 m)) (hb : 6 ≤ b)
    (hE : Stops (nstep s a) s.size a e) (hae : a ≤ e) (hes : e ≤ s.size) :
    Calls Tryf.prog 17 #[.pointer (some ⟨b, 0, none⟩)] w fun r w' => Prs b s e w' ∧ Below b w w' ∧
      ((nmOK (s.extract a e).data.toList = true ∧ r = .returned (.tuple #[.string (s.extract a e), .nilIface])) ∨
       (nmOK (s.extract a e).data.toList = false ∧ ∃ q, r = .returned (.tuple #[.string ⟨#[]⟩, .iface 51 (.pointer (some ⟨q, 0, none⟩))]) ∧ w'.cell? ⟨q, 0, none⟩ = some (.int .i64 (lineAt s e)) ∧ b < q)) := by
  obtain ⟨h0, h1, h2, h3⟩ := hP
  have HT : Hid (Lib.Utf8Tabs 0 1 w) := hT
  have HE : Hid (Stops (nstep s a) s.size a e) := hE
  clear hT hE
  go_enter Tryf.func17, Tryf.ntmps17
  go_upto_block 0 with fail
  go_cut [] (fun wc => Prs b s e wc ∧ Below b w wc)
  case first =>
    go_wp2_with fail
    go_loopg [] (s.size - a) (fun g wr => ∃ i n : Nat, g = s.size - i ∧ steps (nstep s a) s.size a n = some i ∧ a ≤ i ∧ i ≤ s.size ∧ Prs b s i wr ∧ Below b w wr)
    case atStart => exact ⟨a, 0, rfl, rfl, Nat.le_refl _, by omega, ⟨h0, h1, h2, h3⟩, Below.refl _ _⟩
    case round =>
      obtain ⟨i, n, hg, hst, hai, his, ⟨k0, k1, k2, k3⟩, hbw⟩ := hrel
      have HG : Hid (gk = s.size - i) := hg
      have HS : Hid (steps (nstep s a) s.size a n = some i) := hst
      clear hg hst
      have hgb := get_bt s
      have hst : ∀ (hd : s.size ≤ i ∨ nstep s a i = none), i = e := fun hd => Stops.unique ⟨⟨n, HS.out⟩, hd⟩ HE.out
      have HST : Hid (∀ (hd : s.size ≤ i ∨ nstep s a i = none), i = e) := hst
      clear hst
      have HP : Hid (Prs b s i wr) := ⟨k0, k1, k2, k3⟩
      by_cases hlt : i < s.size
      · have hlt' : (i : Int) < (s.size : Int) := by omega
        have b0 := bt_nonneg s i
        have b1 := bt_le s i
        by_cases hc : bt s i < 128
        · have hna := nstep_asc s a i hc
          by_cases hz : (ascNm (bt s i) && !(decide (i = a) && noOpen (bt s i))) = true
          · rw [if_pos hz] at hna
            have HN : Hid (nstep s a i = some 1) := hna
            clear hna
            simp only [Bool.and_eq_true, Bool.not_eq_true', Bool.and_eq_false_iff, decide_eq_false_iff_not] at hz
            obtain ⟨hz1, hz2⟩ := hz
            have hz3 : ((i : Int) == (a : Int)) = false ∨ (((i : Int) == (a : Int)) = true ∧ (bt s i == 45) = false ∧ (bt s i == 46) = false ∧ (bt s i < 48 ∨ 57 < bt s i)) := by
              by_cases hia : i = a
              · right
                have hz4 := hz2.resolve_left (fun h => h hia)
                simp [noOpen] at hz4
                exact ⟨by simp; omega, by simp; omega, by simp; omega, by omega⟩
              · left; simp; omega
            clear hz2
            have fin : Prs b s (i + 1) (wr.setCell ⟨b, 1, none⟩ (.int .i64 ((i + 1 : Nat) : Int))) ∧ Below b w (wr.setCell ⟨b, 1, none⟩ (.int .i64 ((i + 1 : Nat) : Int))) := ⟨Prs.set HP.out (i + 1), hbw.setCell (Nat.le_refl _) _⟩
            have HF : Hid (Prs b s (i + 1) (wr.setCell ⟨b, 1, none⟩ (.int .i64 ((i + 1 : Nat) : Int))) ∧ Below b w (wr.setCell ⟨b, 1, none⟩ (.int .i64 ((i + 1 : Nat) : Int)))) := fin
            clear fin
            rcases hz3 with hz3 | ⟨hz2, hz3, hz4, hz5 | hz5⟩
            all_goals
              go_wp2_with fail
              go_region_held3 (fun w' => w'.cell? ⟨b, 0, none⟩ = some (.string s) ∧ w'.cell? ⟨b, 1, none⟩ = some (.int .i64 i)) (go_keep) (fail)
              go_wp2_with fail
              go_region_held3 (fun w' => w'.cell? ⟨b, 0, none⟩ = some (.string s) ∧ w'.cell? ⟨b, 1, none⟩ = some (.int .i64 i)) (go_keep) (fail)
              go_wp2_with (first | (go_at_call 18; refine (isASCIINameChar_any _ _).mono ?_; rintro e w' ⟨rfl, rfl⟩))
              go_roundg (s.size - (i + 1))
              case measure => have := HG.out; omega
              case rel => exact ⟨i + 1, n + 1, rfl, steps_next HS.out hlt HN.out, by omega, by omega, HF.out.1, HF.out.2.drew.drew⟩
          · rw [if_neg hz] at hna
            obtain rfl := HST.out (Or.inr hna)
            clear hna
            have hz3 : ascNm (bt s i) = false ∨ (ascNm (bt s i) = true ∧ ((i : Int) == (a : Int)) = true ∧ ((48 ≤ bt s i ∧ bt s i ≤ 57) ∨ bt s i = 45 ∨ bt s i = 46)) := by
              cases h1 : ascNm (bt s i)
              · exact Or.inl rfl
              · right; simp [h1, noOpen] at hz; exact ⟨rfl, by simp; omega, by omega⟩
            clear hz
            rcases hz3 with hz3 | ⟨hz1, hz2, hz3 | hz3 | hz3⟩
            all_goals
              go_wp2_with fail
              go_region_held3 (fun w' => w'.cell? ⟨b, 0, none⟩ = some (.string s) ∧ w'.cell? ⟨b, 1, none⟩ = some (.int .i64 i)) (go_keep) (fail)
              go_wp2_with fail
              go_region_held3 (fun w' => w'.cell? ⟨b, 0, none⟩ = some (.string s) ∧ w'.cell? ⟨b, 1, none⟩ = some (.int .i64 i)) (go_keep) (fail)
              go_wp2_with (first | (go_at_call 18; refine (isASCIINameChar_any _ _).mono ?_; rintro e w' ⟨rfl, rfl⟩))
              go_meet
              exact ⟨HP.out, hbw.drew.drew⟩
        · obtain ⟨r, k, hdec, hk1, hk4, hik, hr, hway⟩ := high_cases s a i hlt hc
          have hT' : Lib.Utf8Tabs 0 1 wr := tabs_below b (by omega) hbw HT.out
          have cD : ∀ W, W.heap = wr.heap → Calls Tryf.prog 26 #[.string (s.extract i s.size)] W fun e w' => e = .returned (.tuple #[.int .i32 r, .int .i64 k]) ∧ Below W.heap.size W w' := fun W hW => decodeAt s i r k W hdec (by
            unfold Lib.Utf8Tabs World.cell? at hT' ⊢; rw [hW]; exact hT')
          have HD : Hid (∀ W, W.heap = wr.heap → Calls Tryf.prog 26 #[.string (s.extract i s.size)] W fun e w' => e = .returned (.tuple #[.int .i32 r, .int .i64 k]) ∧ Below W.heap.size W w') := cD
          clear cD hdec hT'
          have cell0 : ∀ w1 : World, Below wr.heap.size wr.drew.drew.drew w1 → Prs b s i w1 ∧ Below b w w1 := fun w1 hb1 =>
            ⟨Prs.below (w := wr.drew.drew.drew) HP.out (hb1.mono k3), hbw.drew.drew.drew.trans (hb1.mono (Nat.le_of_lt k3))⟩
          have HC : Hid (∀ w1 : World, Below wr.heap.size wr.drew.drew.drew w1 → Prs b s i w1 ∧ Below b w w1) := cell0
          clear cell0
          have hrk : ((r : Int) == 65533) = true ∨ ((r : Int) == 65533) = false := by cases ((r : Int) == 65533) <;> simp
          have hkI : (k : Int) ≤ 4 := by omega
          have hikI : (i : Int) + (k : Int) ≤ (s.size : Int) := by omega
          have hcB : decide (bt s i < 128) = false := by simpa using hc
          clear hc
          rcases hway with ⟨hk2, hch, hst, hn⟩ | ⟨hr2, hk2, hn⟩ | ⟨hk2, hch, hn⟩ | ⟨hk2, hch, hia, hst, hn⟩
          · have HN : Hid (nstep s a i = some k) := hn
            clear hn
            have hk1B : ((k : Int) == 1) = false := by simp; omega
            have hia : ((i : Int) == (a : Int)) = false ∨ (((i : Int) == (a : Int)) = true ∧ nmStart r = true) := by
              by_cases h : i = a
              · exact Or.inr ⟨by simp; omega, hst h⟩
              · left; simp; omega
            clear hst
            have fin : ∀ w1 : World, Prs b s i w1 → Below b w w1 → Prs b s (i + k) (w1.setCell ⟨b, 1, none⟩ (.int .i64 ((i : Int) + (k : Int)))) ∧ Below b w (w1.setCell ⟨b, 1, none⟩ (.int .i64 ((i : Int) + (k : Int)))) := fun w1 h1 h2 => by
              have := Prs.set h1 (i + k)
              rw [Int.natCast_add] at this
              exact ⟨this, h2.setCell (Nat.le_refl _) _⟩
            have HF : Hid (∀ w1 : World, Prs b s i w1 → Below b w w1 → Prs b s (i + k) (w1.setCell ⟨b, 1, none⟩ (.int .i64 ((i : Int) + (k : Int)))) ∧ Below b w (w1.setCell ⟨b, 1, none⟩ (.int .i64 ((i : Int) + (k : Int))))) := fin
            clear fin
            rcases hrk with hrk | hrk
            all_goals
              rcases hia with hia | ⟨hia, hst⟩
            all_goals
              go_wp2_with fail
              go_region_held3 (fun w' => w'.cell? ⟨b, 0, none⟩ = some (.string s) ∧ w'.cell? ⟨b, 1, none⟩ = some (.int .i64 i)) (go_keep) (fail)
              go_wp2_with fail
              go_region_held3 (fun w' => w'.cell? ⟨b, 0, none⟩ = some (.string s) ∧ w'.cell? ⟨b, 1, none⟩ = some (.int .i64 i)) (go_keep) (fail)
              go_wp2_with fail
              go_region_held3 (fun w' => w'.cell? ⟨b, 0, none⟩ = some (.string s) ∧ w'.cell? ⟨b, 1, none⟩ = some (.int .i64 i)) (first | go_keep | (exact ⟨(HC.out _ (by assumption)).1.1, (HC.out _ (by assumption)).1.2.1⟩)) (first | (go_at_call 26; refine (HD.out _ (by rfl)).mono ?_; rintro e w1 ⟨rfl, hb1⟩))
              obtain ⟨hP1, hbw1⟩ := HC.out _ hb1
              obtain ⟨q0, q1, q2, q3⟩ := hP1
              go_wp2_with (first | (go_at_call 27; refine (isNameChar_any _ _).mono ?_; rintro e w' ⟨rfl, rfl⟩) | (go_at_call 28; refine (isNameStartChar_any _ _).mono ?_; rintro e w' ⟨rfl, rfl⟩))
              go_roundg (s.size - (i + k))
              case measure => have := HG.out; omega
              case rel => exact ⟨i + k, n + 1, rfl, steps_next HS.out hlt HN.out, by omega, by omega, (HF.out _ ⟨q0, q1, q2, q3⟩ hbw1).1, (HF.out _ ⟨q0, q1, q2, q3⟩ hbw1).2⟩
          · obtain rfl := HST.out (Or.inr hn)
            clear hn
            subst hr2 hk2
            go_wp2_with fail
            go_region_held3 (fun w' => w'.cell? ⟨b, 0, none⟩ = some (.string s) ∧ w'.cell? ⟨b, 1, none⟩ = some (.int .i64 i)) (go_keep) (fail)
            go_wp2_with fail
            go_region_held3 (fun w' => w'.cell? ⟨b, 0, none⟩ = some (.string s) ∧ w'.cell? ⟨b, 1, none⟩ = some (.int .i64 i)) (go_keep) (fail)
            go_wp2_with fail
            go_region_held3 (fun w' => w'.cell? ⟨b, 0, none⟩ = some (.string s) ∧ w'.cell? ⟨b, 1, none⟩ = some (.int .i64 i)) (first | go_keep | (exact ⟨(HC.out _ (by assumption)).1.1, (HC.out _ (by assumption)).1.2.1⟩)) (first | (go_at_call 26; refine (HD.out _ (by rfl)).mono ?_; rintro e w1 ⟨rfl, hb1⟩))
            obtain ⟨hP1, hbw1⟩ := HC.out _ hb1
            obtain ⟨q0, q1, q2, q3⟩ := hP1
            go_wp2_with (first | (go_at_call 27; refine (isNameChar_any _ _).mono ?_; rintro e w' ⟨rfl, rfl⟩) | (go_at_call 28; refine (isNameStartChar_any _ _).mono ?_; rintro e w' ⟨rfl, rfl⟩))
            go_meet
            exact ⟨⟨q0, q1, q2, q3⟩, hbw1⟩
          · obtain rfl := HST.out (Or.inr hn)
            clear hn
            have hk1B : ((k : Int) == 1) = false := by simp; omega
            rcases hrk with hrk | hrk
            all_goals
              go_wp2_with fail
              go_region_held3 (fun w' => w'.cell? ⟨b, 0, none⟩ = some (.string s) ∧ w'.cell? ⟨b, 1, none⟩ = some (.int .i64 i)) (go_keep) (fail)
              go_wp2_with fail
              go_region_held3 (fun w' => w'.cell? ⟨b, 0, none⟩ = some (.string s) ∧ w'.cell? ⟨b, 1, none⟩ = some (.int .i64 i)) (go_keep) (fail)
              go_wp2_with fail
              go_region_held3 (fun w' => w'.cell? ⟨b, 0, none⟩ = some (.string s) ∧ w'.cell? ⟨b, 1, none⟩ = some (.int .i64 i)) (first | go_keep | (exact ⟨(HC.out _ (by assumption)).1.1, (HC.out _ (by assumption)).1.2.1⟩)) (first | (go_at_call 26; refine (HD.out _ (by rfl)).mono ?_; rintro e w1 ⟨rfl, hb1⟩))
              obtain ⟨hP1, hbw1⟩ := HC.out _ hb1
              obtain ⟨q0, q1, q2, q3⟩ := hP1
              go_wp2_with (first | (go_at_call 27; refine (isNameChar_any _ _).mono ?_; rintro e w' ⟨rfl, rfl⟩) | (go_at_call 28; refine (isNameStartChar_any _ _).mono ?_; rintro e w' ⟨rfl, rfl⟩))
              go_meet
              exact ⟨⟨q0, q1, q2, q3⟩, hbw1⟩
          · obtain rfl := HST.out (Or.inr hn)
            clear hn
            have hk1B : ((k : Int) == 1) = false := by simp; omega
            have hiaB : ((i : Int) == (a : Int)) = true := by simp; omega
            clear hia
            rcases hrk with hrk | hrk
            all_goals
              go_wp2_with fail
              go_region_held3 (fun w' => w'.cell? ⟨b, 0, none⟩ = some (.string s) ∧ w'.cell? ⟨b, 1, none⟩ = some (.int .i64 i)) (go_keep) (fail)
              go_wp2_with fail
              go_region_held3 (fun w' => w'.cell? ⟨b, 0, none⟩ = some (.string s) ∧ w'.cell? ⟨b, 1, none⟩ = some (.int .i64 i)) (go_keep) (fail)
              go_wp2_with fail
              go_region_held3 (fun w' => w'.cell? ⟨b, 0, none⟩ = some (.string s) ∧ w'.cell? ⟨b, 1, none⟩ = some (.int .i64 i)) (first | go_keep | (exact ⟨(HC.out _ (by assumption)).1.1, (HC.out _ (by assumption)).1.2.1⟩)) (first | (go_at_call 26; refine (HD.out _ (by rfl)).mono ?_; rintro e w1 ⟨rfl, hb1⟩))
              obtain ⟨hP1, hbw1⟩ := HC.out _ hb1
              obtain ⟨q0, q1, q2, q3⟩ := hP1
              go_wp2_with (first | (go_at_call 27; refine (isNameChar_any _ _).mono ?_; rintro e w' ⟨rfl, rfl⟩) | (go_at_call 28; refine (isNameStartChar_any _ _).mono ?_; rintro e w' ⟨rfl, rfl⟩))
              go_meet
              exact ⟨⟨q0, q1, q2, q3⟩, hbw1⟩
      · obtain rfl := HST.out (Or.inl (by omega))
        go_wp2_with fail
        go_region_held3 (fun w' => w'.cell? ⟨b, 0, none⟩ = some (.string s) ∧ w'.cell? ⟨b, 1, none⟩ = some (.int .i64 i)) (go_keep) (fail)
        go_wp2_with fail
        go_meet
        exact ⟨HP.out, hbw.drew⟩
  case rest =>
    obtain ⟨⟨k0, k1, k2, k3⟩, hbw⟩ := hcut
    have hmc : wc.cell? ⟨5, 0, none⟩ = some (.int .i64 m) := by rw [hbw.cell (p := ⟨5, 0, none⟩) (by show 5 < b; omega)]; exact hm
    have haeI : (a : Int) ≤ (e : Int) := by omega
    have hesI : (e : Int) ≤ (s.size : Int) := by omega
    have hxs : (s.extract a e).size < 4294967281 := by simp; omega
    have cC : ∀ W, W.heap = wc.heap → Calls Tryf.prog 29 #[.string (s.extract a e), .string ⟨#[58]⟩] W fun r w' => r = .returned (.tuple #[.string ⟨(Lib.cut (s.extract a e).data.toList [58]).1.toArray⟩, .string ⟨(Lib.cut (s.extract a e).data.toList [58]).2.1.toArray⟩, .bool (Lib.cut (s.extract a e).data.toList [58]).2.2]) ∧ ∃ n, w' = W.drewN n :=
      fun W hW => Tryf.strings_Cut _ _ m W hxs (by unfold World.cell? at hmc ⊢; rw [hW]; exact hmc)
    have HC : Hid (∀ W, W.heap = wc.heap → Calls Tryf.prog 29 #[.string (s.extract a e), .string ⟨#[58]⟩] W fun r w' => r = .returned (.tuple #[.string ⟨(Lib.cut (s.extract a e).data.toList [58]).1.toArray⟩, .string ⟨(Lib.cut (s.extract a e).data.toList [58]).2.1.toArray⟩, .bool (Lib.cut (s.extract a e).data.toList [58]).2.2]) ∧ ∃ n, w' = W.drewN n) := cC
    clear cC
    generalize hX : s.extract a e = X at *
    go_wp2_with fail
    go_region_held3 (fun w' => w'.cell? ⟨b, 0, none⟩ = some (.string s) ∧ w'.cell? ⟨b, 1, none⟩ = some (.int .i64 e)) (go_keep) (fail)
    go_wp2_with (first | (go_at_call 29; refine (HC.out _ (by rfl)).mono ?_; rintro r w1 ⟨rfl, n1, rfl⟩))
    case _ =>
      refine (fail_none b s e _ _ ?_ ?_ hes hs fmtA).mono ?_
      · exact k0
      · exact k1
      rintro r w1 ⟨t, rfl, rfl⟩
      go_wp2
      go_ret2
      exact ⟨Prs.alloc ⟨k0, k1, k2, k3⟩ _, fail_below (below_drewN hbw _) k3 _, Or.inr ⟨by rw [hX]; exact nmOK_empty X (by assumption), _, rfl, new0 _ _ _ _, k3⟩⟩
    case _ =>
      refine (fail_str b s e _ X ⟨wc.heap.size, 0, none⟩ 1 _ ?_ ?_ hes hs fmtB ?_).mono ?_
      · exact (Prs.alloc ⟨k0, k1, k2, k3⟩ _).1
      · exact (Prs.alloc ⟨k0, k1, k2, k3⟩ _).2.1
      · exact World.cell?_alloc_at _ _ _ _ rfl
      rintro r w1 ⟨t, rfl, rfl⟩
      go_wp2
      go_ret2
      exact ⟨Prs.alloc (Prs.alloc ⟨k0, k1, k2, k3⟩ _) _, fail_below2 (below_drewN hbw _) k3 _ _, Or.inr ⟨by rw [hX]; exact nmOK_pre X (by assumption) (by assumption), _, rfl, new1 _ _ _ _ _, Nat.lt_succ_of_lt k3⟩⟩
    case _ =>
      refine (fail_str b s e _ X ⟨wc.heap.size, 0, none⟩ 1 _ ?_ ?_ hes hs fmtB ?_).mono ?_
      · exact (Prs.alloc ⟨k0, k1, k2, k3⟩ _).1
      · exact (Prs.alloc ⟨k0, k1, k2, k3⟩ _).2.1
      · exact World.cell?_alloc_at _ _ _ _ rfl
      rintro r w1 ⟨t, rfl, rfl⟩
      go_wp2
      go_ret2
      exact ⟨Prs.alloc (Prs.alloc ⟨k0, k1, k2, k3⟩ _) _, fail_below2 (below_drewN hbw _) k3 _ _, Or.inr ⟨by rw [hX]; exact nmOK_loc X (by assumption) (by assumption), _, rfl, new1 _ _ _ _ _, Nat.lt_succ_of_lt k3⟩⟩
    case _ =>
      refine (Tryf.strings_IndexByte _ _ _).mono ?_
      rintro r w1 ⟨rfl, rfl⟩
      go_wp2_with fail
      · refine (fail_str b s e _ X ⟨wc.heap.size, 0, none⟩ 1 _ ?_ ?_ hes hs fmtB ?_).mono ?_
        · exact (Prs.alloc ⟨k0, k1, k2, k3⟩ _).1
        · exact (Prs.alloc ⟨k0, k1, k2, k3⟩ _).2.1
        · exact World.cell?_alloc_at _ _ _ _ rfl
        rintro r w1 ⟨t, rfl, rfl⟩
        go_wp2
        go_ret2
        exact ⟨Prs.alloc (Prs.alloc ⟨k0, k1, k2, k3⟩ _) _, fail_below2 (below_drewN hbw _) k3 _ _, Or.inr ⟨by rw [hX]; exact nmOK_two X (by assumption) (by assumption), _, rfl, new1 _ _ _ _ _, Nat.lt_succ_of_lt k3⟩⟩
      · go_ret2
        exact ⟨⟨k0, k1, k2, k3⟩, below_drewN hbw _, Or.inl ⟨by rw [hX]; exact nmOK_one X (by assumption) (by assumption) (by assumption) (by assumption) (by omega), by rw [hX]; rfl⟩⟩
    case _ =>
      go_ret2
      exact ⟨⟨k0, k1, k2, k3⟩, below_drewN hbw _, Or.inl ⟨by rw [hX]; exact nmOK_plain X (by assumption) (by assumption), by rw [hX]; rfl⟩⟩
end Go.Proofs.Qxb6606017aFmt
