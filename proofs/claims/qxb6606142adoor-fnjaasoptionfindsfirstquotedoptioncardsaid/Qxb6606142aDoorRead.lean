import Derived.Test.Qxb6606142aDoorToks
import Derived.Deep.RegionHeld3
namespace Go.Proofs.Qxb6606142aDoor
open Go.RowKit Go.PlainAid

abbrev str (l : List UInt8) : ByteArray := ⟨l.toArray⟩
theorem str_size (l : List UInt8) : (str l).size = l.length := by simp [ByteArray.size]
theorem bt_at (p z : List UInt8) (c : UInt8) : bt (str (p ++ c :: z)) p.length = (c.toNat : Int) := by
  have h : p.length < (p ++ c :: z).length := by simp
  rw [bt_get (str (p ++ c :: z)) p.length h]
  simp
theorem ba_eq {x y : ByteArray} (h : x.data.toList = y.data.toList) : x = y := ByteArray.ext (Array.toList_inj.1 h)
theorem str_drop (p z : List UInt8) : (str (p ++ z)).extract p.length (str (p ++ z)).size = str z := by
  apply ba_eq
  rw [Lib.extract_to_end]
  simp
theorem str_head (c : UInt8) (z : List UInt8) : (str (c :: z)).extract 0 1 = str [c] := by
  apply ba_eq
  rw [Lib.extract_data]
  simp

/-- What TrimSpace reads of its variables. -/
structure Vars (w : World) : Prop where
  ascii : Lib.TabIs Tryd.prog w "strings.asciiSpace" .u8 Lib.asciiSpaceTab
  utf8 : Lib.Utf8Tabs 3 4 w
  white : Lib.WhiteTab 1 w
theorem gAscii : Tryd.prog.globalNamed "strings.asciiSpace" = some 0 := by kernel_rfl
theorem Vars.below {w w' : World} (h : Vars w) (hb : Below w.heap.size w w') : Vars w' := by
  have c : ∀ {a : Addr} {v : Value}, w.cell? a = some v → w'.cell? a = some v := fun {a v} hc => (hb.cell (p := a) (World.block_lt_of_cell? w a hc)).trans hc
  refine ⟨?_, ⟨fun k hk => c (h.utf8.1 k hk), fun i hi => ⟨c (h.utf8.2 i hi).1, c (h.utf8.2 i hi).2⟩⟩, WhiteTab_below h.white hb⟩
  exact var?_below hb gAscii (by have := World.block_lt_of_cell? w _ (h.utf8.1 0 (by omega)); show 0 < w.heap.size; omega) h.ascii

/-- The text around the reading place inside a quoted string. -/
theorem quo_split (d y z : List UInt8) : quo (d ++ y) ++ z = (34 :: esc d) ++ (esc y ++ 34 :: z) := by
  unfold quo
  rw [esc_append]
  simp

theorem str_rest (c : UInt8) (z : List UInt8) : (str (c :: z)).extract 1 (str (c :: z)).size = str z := str_drop [c] z
theorem cells_push (d : List UInt8) (c : UInt8) : Lib.byteCells (d ++ [c]) = Lib.byteCells d ++ [Value.int .u8 (c.toNat : Int)] := by simp [Lib.byteCells]
theorem esc_ge : ∀ a : List UInt8, a.length ≤ (esc a).length
  | [] => Nat.le_refl _
  | c :: a => by
    have := esc_ge a
    rw [esc]
    split <;> simp <;> omega
/-- The bytes at the reading place of a quoted text. -/
theorem quo_at (d z : List UInt8) : bt (str (quo d ++ z)) (1 + (esc d).length) = 34 := by
  have h := quo_split d [] z
  rw [List.append_nil] at h
  rw [h]
  have := bt_at (34 :: esc d) z 34
  rw [List.length_cons, Nat.add_comm] at this
  exact this
theorem quo_plain (d y z : List UInt8) (c : UInt8) (hc : ¬ (c = 34 ∨ c = 92)) : bt (str (quo (d ++ c :: y) ++ z)) (1 + (esc d).length) = (c.toNat : Int) := by
  rw [quo_split d (c :: y) z, esc, if_neg hc]
  have := bt_at (34 :: esc d) (esc y ++ 34 :: z) c
  rw [List.length_cons, Nat.add_comm] at this
  exact this
theorem quo_back (d y z : List UInt8) (c : UInt8) (hc : c = 34 ∨ c = 92) : bt (str (quo (d ++ c :: y) ++ z)) (1 + (esc d).length) = 92 ∧ bt (str (quo (d ++ c :: y) ++ z)) (1 + (esc d).length + 1) = (c.toNat : Int) := by
  rw [quo_split d (c :: y) z, esc, if_pos hc]
  constructor
  · have := bt_at (34 :: esc d) (c :: (esc y ++ 34 :: z)) 92
    rw [List.length_cons, Nat.add_comm] at this
    exact this
  · have := bt_at (34 :: esc d ++ [92]) (esc y ++ 34 :: z) c
    rw [List.length_append, List.length_cons, Nat.add_comm (esc d).length] at this
    simpa using this
theorem quo_size (x z : List UInt8) : (str (quo x ++ z)).size = 2 + (esc x).length + z.length := by
  rw [str_size]
  unfold quo
  simp
  omega
theorem quo_drop (x z : List UInt8) : (str (quo x ++ z)).extract (2 + (esc x).length) (str (quo x ++ z)).size = str z := by
  have := str_drop (quo x) z
  rw [show (quo x).length = 2 + (esc x).length by unfold quo; simp; omega] at this
  exact this
theorem text_suffix (D R : List (Bool × Tk)) : (text R).length ≤ (text (D ++ R)).length := by rw [text_append]; simp
theorem bare_le (R : List (Bool × Tk)) : (bare R).length ≤ (text R).length := by
  cases R with
  | nil => exact Nat.le_refl _
  | cons k R => obtain ⟨b, k⟩ := k; simp [bare, text]

set_option maxRecDepth 8000 in
set_option maxHeartbeats 8000000 in
theorem tokens_any (S : List (Bool × Tk)) (w : World) (hS : Good S) (hV : Vars w) (hl : (text S).length ≤ 8388608) (hn : S.length ≤ 4194304) :
    Calls Tryd.prog 14 #[.string (str (text S))] w fun r w' => ∃ v, r = .returned (.tuple #[v, .bool true]) ∧ Strs w.heap.size v (S.map fun k : Bool × Tk => str k.2.val) w' ∧ Below w.heap.size w w' := by
  have HV : Hid (Vars w) := hV
  have HG : Hid (Good S) := hS
  have cT : Hid (∀ R W, Good R → (text R).length ≤ 8388608 → Below w.heap.size w W → Calls Tryd.prog 15 #[.string (str (text R))] W fun e w' => e = .returned (.string (str (bare R))) ∧ Below W.heap.size W w') := fun R W hR hl hW => by
    have hv := HV.out.below hW
    have := Tryd.strings_TrimSpace_any (str (text R)) W (by rw [str_size]; omega) hv.ascii hv.utf8 hv.white
    rw [show Lib.trimSpaceD (str (text R)).data.toList = bare R from trim_text hR] at this
    exact this
  have HL : Hid ((text S).length ≤ 8388608) := hl
  have HN : Hid (S.length ≤ 4194304) := hn
  clear hV hS
  go_enter Tryd.func14, Tryd.ntmps14
  go_wp2_with fail
  refine (cT.out S _ HG.out HL.out (Below.refl _ _)).mono ?_
  rintro e w1 ⟨rfl, hb1⟩
  have HB1 : Hid (Below w.heap.size w w1) := hb1
  clear hb1 hl hn
  go_wp2_with fail
  go_loopg [4, 5] S.length (fun g tv rv wr => ∃ D R, S = D ++ R ∧ g = R.length ∧ rv = .string (str (bare R)) ∧ Strs w.heap.size tv (D.map fun k : Bool × Tk => str k.2.val) wr ∧ Below w.heap.size w wr)
  case atStart => exact ⟨[], S, rfl, rfl, rfl, strs_nil _ _, HB1.out⟩
  case round =>
    obtain ⟨D, R, hSR, hg, rfl, hst, hbw⟩ := hrel
    have HSR : Hid (S = D ++ R) := hSR
    have HGk : Hid (gk = R.length) := hg
    have HS : Hid (Strs w.heap.size u4 (D.map fun k : Bool × Tk => str k.2.val) wr) := hst
    have HW : Hid (Below w.heap.size w wr) := hbw
    have hGR : Good R := by
      have := HG.out
      rw [hSR] at this
      clear hg hst hSR HSR HS
      induction D with
      | nil => exact this
      | cons k D ih => exact ih this.tail
    have HGR : Hid (Good R) := hGR
    have hTR : (text R).length ≤ 8388608 := by
      have h1 := text_suffix D R
      have h2 := HL.out
      rw [hSR] at h2
      omega
    have HD : Hid (D.length ≤ 4194304) := by
      show _ ≤ _
      have h2 := HN.out
      rw [hSR, List.length_append] at h2
      omega
    clear hSR hg hst hbw
    cases R with
    | nil =>
      have he : (str (bare [])).toList.isEmpty = true := by rw [Lib.toList_data]; rfl
      go_wp2_with fail
      go_ret2
      refine ⟨_, rfl, ?_, HW.out⟩
      rw [HSR.out, List.append_nil]
      exact HS.out
    | cons k R' =>
      obtain ⟨b, k⟩ := k
      cases k with
      | inr c =>
        have hok : c = 61 ∨ c = 59 := hGR.1 _ List.mem_cons_self
        have hbare : bare ((b, Sum.inr c) :: R') = c :: text R' := rfl
        have hTR' : (text R').length ≤ 8388608 := by simp [text] at hTR; omega
        obtain ⟨z, hz⟩ : ∃ z, text R' = z := ⟨_, rfl⟩
        have HZ : Hid (text R' = z) := hz
        rw [hbare, hz]
        have hzl : z.length ≤ 8388608 := by rw [← hz]; exact hTR'
        clear hbare hz hTR hTR' hGR
        have hb0 : bt (str (c :: z)) 0 = (c.toNat : Int) := bt_at [] z c
        have he : (str (c :: z)).toList.isEmpty = false := by rw [Lib.toList_data]; rfl
        have hTz : 1 ≤ (str (c :: z)).size := by rw [str_size]; simp
        have hTm : (str (c :: z)).size ≤ 8388609 := by rw [str_size]; simp; omega
        have HE : Hid ((str (c :: z)).extract 1 (str (c :: z)).size = str z) := str_rest c z
        have HX : Hid ((str (c :: z)).extract 0 1 = str [c]) := str_head c z
        generalize str (c :: z) = T at *
        have hT1 : (1 : Int) ≤ (T.size : Int) := by omega
        have hT0 : 0 < T.size := by omega
        have hgb := get_bt T
        obtain ⟨v2, w2, r2, s2, q2⟩ := strs_push (w := wr.drew) (T.extract 0 1) HS.out HW.out.size (by have := HD.out; simpa using this)
        have R2 : Hid ((Builtin.append_ #[22, 22] 22 #[u4, .slice (some ⟨wr.heap.size, 0, none⟩) 1 1]).run Tryd.prog (wr.drew.alloc (.cells #[.string (T.extract 0 1)] 9)) = .ok v2 w2) := r2
        have S2 : Hid (Strs w.heap.size v2 ((D ++ [(b, Sum.inr c)]).map fun k : Bool × Tk => str k.2.val) w2) := by
          show Strs _ _ _ _
          rw [List.map_append]
          rw [HX.out] at s2
          exact s2
        have W2 : Hid (Below w.heap.size w w2) := HW.out.drew.trans q2
        clear r2 s2 q2
        have fin : Hid (∀ W', Strs w.heap.size v2 ((D ++ [(b, Sum.inr c)]).map fun k : Bool × Tk => str k.2.val) w2 → Below w2.heap.size w2 W' → Strs w.heap.size v2 ((D ++ [(b, Sum.inr c)]).map fun k : Bool × Tk => str k.2.val) W') := fun W' h h' => h.grown h'
        rcases hok with rfl | rfl
        · have hb1 : bt T 0 = 61 := hb0
          clear hb0
          go_wp2_with fail
          go_region_held3 (fun _ => True) (trivial) ((refine step_append_run (by rfl) _ _ _ _ (by rfl) _ _ _ _ (by rfl) (by rfl) R2.out ?_))
          go_wp2_with fail
          rw [HE.out, ← HZ.out]
          refine (cT.out R' _ HGR.out.tail (by rw [HZ.out]; exact hzl) W2.out).mono ?_
          rintro e w3 ⟨rfl, hb3⟩
          have W3 : Hid (Below w.heap.size w w3) := W2.out.trans (hb3.mono W2.out.size)
          have S3 : Hid (Strs w.heap.size v2 ((D ++ [(b, Sum.inr 61)]).map fun k : Bool × Tk => str k.2.val) w3) := fin.out w3 S2.out hb3
          clear hb3
          go_wp2_with fail
          go_roundg R'.length
          case measure => have := HGk.out; simp at this; omega
          case rel => exact ⟨D ++ [(b, Sum.inr 61)], R', by rw [HSR.out]; simp, rfl, rfl, S3.out, W3.out⟩
        · have hb1 : bt T 0 = 59 := hb0
          clear hb0
          go_wp2_with fail
          go_region_held3 (fun _ => True) (trivial) ((refine step_append_run (by rfl) _ _ _ _ (by rfl) _ _ _ _ (by rfl) (by rfl) R2.out ?_))
          go_wp2_with fail
          rw [HE.out, ← HZ.out]
          refine (cT.out R' _ HGR.out.tail (by rw [HZ.out]; exact hzl) W2.out).mono ?_
          rintro e w3 ⟨rfl, hb3⟩
          have W3 : Hid (Below w.heap.size w w3) := W2.out.trans (hb3.mono W2.out.size)
          have S3 : Hid (Strs w.heap.size v2 ((D ++ [(b, Sum.inr 59)]).map fun k : Bool × Tk => str k.2.val) w3) := fin.out w3 S2.out hb3
          clear hb3
          go_wp2_with fail
          go_roundg R'.length
          case measure => have := HGk.out; simp at this; omega
          case rel => exact ⟨D ++ [(b, Sum.inr 59)], R', by rw [HSR.out]; simp, rfl, rfl, S3.out, W3.out⟩
      | inl x =>
        have hbare : bare ((b, Sum.inl x) :: R') = quo x ++ text R' := rfl
        have hTR' : (quo x ++ text R').length ≤ 8388608 := by simp [text, Tk.txt] at hTR ⊢; omega
        obtain ⟨z, hz⟩ : ∃ z, text R' = z := ⟨_, rfl⟩
        have HZ : Hid (text R' = z) := hz
        rw [hbare, hz]
        rw [hz] at hTR'
        clear hbare hz hTR hGR
        have hb0 : bt (str (quo x ++ z)) 0 = 34 := by
          have := bt_at [] (esc x ++ [34] ++ z) 34
          simpa [quo] using this
        have he : (str (quo x ++ z)).toList.isEmpty = false := by rw [Lib.toList_data]; rfl
        have hTs := quo_size x z
        have hTm : (str (quo x ++ z)).size ≤ 8388608 := by rw [str_size]; exact hTR'
        have HE : Hid ((str (quo x ++ z)).extract (2 + (esc x).length) (str (quo x ++ z)).size = str z) := quo_drop x z
        have HQ : Hid (∀ d y, x = d ++ y → (y = [] → bt (str (quo x ++ z)) (1 + (esc d).length) = 34) ∧ ∀ c y', y = c :: y' →
            (¬ (c = 34 ∨ c = 92) → bt (str (quo x ++ z)) (1 + (esc d).length) = (c.toNat : Int)) ∧ ((c = 34 ∨ c = 92) → bt (str (quo x ++ z)) (1 + (esc d).length) = 92 ∧ bt (str (quo x ++ z)) (1 + (esc d).length + 1) = (c.toNat : Int))) := by
          intro d y hx
          refine ⟨fun hy => ?_, fun c y' hy => ⟨fun hc => ?_, fun hc => ?_⟩⟩
          · subst hy; rw [List.append_nil] at hx; subst hx; exact quo_at _ _
          · subst hy; subst hx; exact quo_plain d y' z c hc
          · subst hy; subst hx; exact quo_back d y' z c hc
        generalize str (quo x ++ z) = T at *
        have hT1 : (1 : Int) ≤ (T.size : Int) := by omega
        have hT0 : 0 < T.size := by omega
        have hgb := get_bt T
        have HF : Hid (Lib.IsBuilder 37 5 wr.heap.size wr.heap.size [] (wr.alloc (.cells #[.pointer none, .slice none 0 0] 37))) := Lib.fresh_isBuilder 37 5 wr
        have HFb : Hid (Below wr.heap.size wr (wr.alloc (.cells #[.pointer none, .slice none 0 0] 37))) := (Below.refl _ _).alloc (Nat.le_refl _) _
        have HTs : Hid (T.size = 2 + (esc x).length + z.length) := hTs
        have HTm : Hid (T.size ≤ 8388608) := hTm
        have HTR : Hid ((quo x ++ z).length ≤ 8388608) := hTR'
        clear hTs hTR'
        obtain ⟨wo, hwo⟩ : ∃ wo, wo = wr := ⟨wr, rfl⟩
        subst hwo
        go_wp2_with fail
        go_loopg [7] x.length (fun g iv wq => ∃ d y, x = d ++ y ∧ g = y.length ∧ iv = .int .i64 ((1 + (esc d).length : Nat) : Int) ∧ Lib.IsBuilder 37 5 wo.heap.size wo.heap.size (Lib.byteCells d) wq ∧ Below wo.heap.size wo wq)
        case atStart => exact ⟨[], x, rfl, rfl, rfl, HF.out, HFb.out⟩
        case round =>
          obtain ⟨d, y, hdy, hg, rfl, hB, hbq⟩ := hrel
          have HDY : Hid (x = d ++ y) := hdy
          have HGi : Hid (gk = y.length) := hg
          have HB : Hid (Lib.IsBuilder 37 5 wo.heap.size wo.heap.size (Lib.byteCells d) wr) := hB
          have HBq : Hid (Below wo.heap.size wo wr) := hbq
          obtain ⟨q1, q2⟩ := HQ.out d y hdy
          have hel : (esc x).length = (esc d).length + (esc y).length := by rw [hdy, esc_append, List.length_append]
          have hTs := HTs.out
          have hdl : d.length ≤ 8388608 := by
            have h1 := HTR.out
            have h2 : x.length ≤ (esc x).length := esc_ge x
            have h3 : x.length = d.length + y.length := by rw [hdy, List.length_append]
            unfold quo at h1
            simp at h1
            omega
          have HDl : Hid (d.length ≤ 8388608) := hdl
          clear hdy hg hB hbq hdl
          obtain ⟨I, hI⟩ : ∃ I, 1 + (esc d).length = I := ⟨_, rfl⟩
          rw [hI] at q1 q2 ⊢
          have hIlt : I < T.size := by omega
          have hIltI : (I : Int) < (T.size : Int) := by omega
          have HI : Hid (1 + (esc d).length = I) := hI
          have HEl : Hid ((esc x).length = (esc d).length + (esc y).length) := hel
          clear hI hel hTs
          cases y with
          | nil =>
            have hb : bt T I = 34 := q1 rfl
            clear q1 q2
            have hne : ((I : Int) == (T.size : Int)) = false := by simp; omega
            obtain ⟨J, hJ⟩ : ∃ J, I + 1 = J := ⟨_, rfl⟩
            have hJI : (I : Int) + 1 = (J : Int) := by omega
            have hJW : IntKind.i64.wrap (J : Int) = (J : Int) := IntWalk.i64_in _ ⟨by omega, by omega⟩
            have hJT : (J : Int) ≤ (T.size : Int) := by omega
            have hJTN : J ≤ T.size := by omega
            have HJ : Hid (J = 2 + (esc x).length) := by
              show _ = _
              have := HI.out
              have := HEl.out
              simp [esc] at this
              omega
            have HEJ : Hid (T.extract J T.size = str z) := by show _ = _; rw [HJ.out]; exact HE.out
            have HDX : Hid (d = x) := by show _ = _; have := HDY.out; rw [List.append_nil] at this; exact this.symm
            have HPush : Hid (∀ w5, Below wo.heap.size wo w5 → ∃ v6 w6, Hid ((Builtin.append_ #[22, 22] 22 #[u4, .slice (some ⟨w5.heap.size, 0, none⟩) 1 1]).run Tryd.prog (w5.alloc (.cells #[.string (str d)] 9)) = .ok v6 w6) ∧ Hid (Strs w.heap.size v6 ((D ++ [(b, Sum.inl x)]).map fun k : Bool × Tk => str k.2.val) w6) ∧ Hid (Below w.heap.size w w6)) := fun w5 h5 => by
              obtain ⟨v6, w6, r6, s6, q6⟩ := strs_push (w := w5) (str d) (HS.out.grown h5) (Nat.le_trans HW.out.size h5.size) (by have := HD.out; simpa using this)
              refine ⟨v6, w6, r6, ?_, (HW.out.trans (h5.mono HW.out.size)).trans q6⟩
              show Strs _ _ _ _
              rw [List.map_append, ← HDX.out]
              exact s6
            clear hJ
            go_wp2_with fail
            go_region_held3 (fun _ => True) (trivial) (first | (go_at_call 17; refine (Tryd.Builder_String_any wo.heap.size wo.heap.size d wr.drew HB.out HBq.out.size).mono ?_; rintro e w5 ⟨rfl, hb5⟩; obtain ⟨v6, w6, R6, S6, W6⟩ := HPush.out w5 (HBq.out.drew.trans hb5)) | (refine step_append_run (by rfl) _ _ _ _ (by rfl) _ _ _ _ (by rfl) (by rfl) R6.out ?_))
            go_wp2_with fail
            rw [HEJ.out, ← HZ.out]
            refine (cT.out R' _ HGR.out.tail (by rw [HZ.out]; have := HTR.out; simp at this; omega) W6.out).mono ?_
            rintro e w7 ⟨rfl, hb7⟩
            have W7 : Hid (Below w.heap.size w w7) := W6.out.trans (hb7.mono W6.out.size)
            have S7 : Hid (Strs w.heap.size v6 ((D ++ [(b, Sum.inl x)]).map fun k : Bool × Tk => str k.2.val) w7) := S6.out.grown hb7
            clear hb7
            go_wp2_with fail
            go_roundg R'.length
            case measure => have := HGk.out; simp at this; omega
            case rel => exact ⟨D ++ [(b, Sum.inl x)], R', by rw [HSR.out]; simp, rfl, rfl, S7.out, W7.out⟩
          | cons c y' =>
            have q3 := q2 c y' rfl
            clear q1 q2
            by_cases hc : c = 34 ∨ c = 92
            · obtain ⟨hb, hb'⟩ := q3.2 hc
              clear q3
              have hel2 : I + 1 < T.size := by
                have h1 := HI.out
                have h2 := HEl.out
                have h3 := HTs.out
                rw [esc, if_pos hc] at h2
                simp at h2
                omega
              have hel2I : (I : Int) + 1 < (T.size : Int) := by omega
              have HL2 : Hid ((esc (d ++ [c])).length = (esc d).length + 2) := by show _ = _; rw [esc_append, List.length_append, esc, if_pos hc]; rfl
              clear hc
              go_wp2_with fail
              refine (writeByte_any wo.heap.size wo.heap.size (Lib.byteCells d) (c.toNat : Int) wr HB.out (by have := HDl.out; rw [Lib.byteCells_length]; omega) HBq.out.size).mono ?_
              rintro e w4 ⟨rfl, hB4, hb4⟩
              have HB4 : Hid (Lib.IsBuilder 37 5 wo.heap.size wo.heap.size (Lib.byteCells (d ++ [c])) w4) := by
                show Lib.IsBuilder _ _ _ _ _ _
                rw [cells_push]
                exact Or.inr hB4
              have HBq4 : Hid (Below wo.heap.size wo w4) := HBq.out.trans hb4
              clear hB4 hb4
              go_wp2_with fail
              go_roundg y'.length
              case measure => have := HGi.out; simp at this; omega
              case rel => exact ⟨d ++ [c], y', by rw [HDY.out]; simp, rfl, congrArg (Value.int .i64) (by have := HI.out; have := HL2.out; omega), HB4.out, HBq4.out⟩
            · have hb := q3.1 hc
              clear q3
              have HBI : Hid (bt T I = (c.toNat : Int)) := hb
              have h34 : (bt T I != 34) = true := by
                rw [hb, bne_iff_ne]
                intro h
                exact hc (Or.inl (UInt8.toNat_inj.1 (by show c.toNat = 34; omega)))
              have h92 : (bt T I == 92) = false := by
                rw [hb, Bool.eq_false_iff]
                intro h
                rw [beq_iff_eq] at h
                exact hc (Or.inr (UInt8.toNat_inj.1 (by show c.toNat = 92; omega)))
              have HL2 : Hid ((esc (d ++ [c])).length = (esc d).length + 1) := by show _ = _; rw [esc_append, List.length_append, esc, if_neg hc]; rfl
              clear hc hb
              go_wp2_with fail
              rw [HBI.out]
              refine (writeByte_any wo.heap.size wo.heap.size (Lib.byteCells d) (c.toNat : Int) wr HB.out (by have := HDl.out; rw [Lib.byteCells_length]; omega) HBq.out.size).mono ?_
              rintro e w4 ⟨rfl, hB4, hb4⟩
              have HB4 : Hid (Lib.IsBuilder 37 5 wo.heap.size wo.heap.size (Lib.byteCells (d ++ [c])) w4) := by
                show Lib.IsBuilder _ _ _ _ _ _
                rw [cells_push]
                exact Or.inr hB4
              have HBq4 : Hid (Below wo.heap.size wo w4) := HBq.out.trans hb4
              clear hB4 hb4
              go_wp2_with fail
              go_roundg y'.length
              case measure => have := HGi.out; simp at this; omega
              case rel => exact ⟨d ++ [c], y', by rw [HDY.out]; simp, rfl, congrArg (Value.int .i64) (by have := HI.out; have := HL2.out; omega), HB4.out, HBq4.out⟩
end Go.Proofs.Qxb6606142aDoor
