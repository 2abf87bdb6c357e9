import Derived.Test.Qxb6606142aDoorOption
import Derived.Test.Qxb6606142aDoorBytes
import Derived.Deep.Cut
namespace Go.Proofs.Qxb6606142aDoor
open Go.RowKit Go.PlainAid

/-- The lengths of strings, 16 more for each. -/
def tot : List ByteArray → Nat
  | [] => 0
  | x :: r => x.size + 16 + tot r
theorem tot_append : ∀ a b : List ByteArray, tot (a ++ b) = tot a + tot b
  | [], b => by simp [tot]
  | x :: a, b => by rw [List.cons_append, tot, tot, tot_append a b]; omega
theorem tot_take (xs : List ByteArray) (i : Nat) (h : i < xs.length) : tot (xs.take (i + 1)) = tot (xs.take i) + (xs[i].size + 16) := by
  rw [List.take_succ_eq_append_getElem h, tot_append]; rfl
theorem tot_length : ∀ xs : List ByteArray, 16 * xs.length ≤ tot xs
  | [] => Nat.le_refl _
  | x :: r => by have := tot_length r; rw [tot, List.length_cons]; omega
/-- The text of the pairs. -/
def body (ps : List (ByteArray × ByteArray)) : List UInt8 := ps.flatMap fun p => 32 :: (quo p.1.data.toList ++ 61 :: quo p.2.data.toList)
theorem body_take (ps : List (ByteArray × ByteArray)) (i : Nat) (h : i < ps.length) : body (ps.take (i + 1)) = body (ps.take i) ++ (32 :: (quo ps[i].1.data.toList ++ 61 :: quo ps[i].2.data.toList)) := by
  unfold body
  rw [List.take_succ_eq_append_getElem h, List.flatMap_append]
  simp
theorem quo_length (x : ByteArray) : (quo x.data.toList).length ≤ 2 * x.size + 2 := by
  have := esc_length x.data.toList
  rw [← Lib.size_eq] at this
  unfold quo
  simp
  omega
theorem body_length : ∀ (xs ys : List ByteArray), (body (xs.zip ys)).length ≤ 2 * (tot xs + tot ys)
  | [], _ => by simp [body]
  | _ :: _, [] => by simp [body]
  | x :: xs, y :: ys => by
    have h := body_length xs ys
    have h1 := quo_length x
    have h2 := quo_length y
    unfold body at *
    rw [List.zip_cons_cons, List.flatMap_cons, List.length_append, tot, tot]
    simp only [List.length_cons, List.length_append]
    omega
theorem body_take_length (xs ys : List ByteArray) (i : Nat) : (body ((xs.zip ys).take i)).length ≤ (body (xs.zip ys)).length := by
  have : body (xs.zip ys) = body ((xs.zip ys).take i) ++ body ((xs.zip ys).drop i) := by
    unfold body
    rw [← List.flatMap_append, List.take_append_drop]
  rw [this, List.length_append]
  omega
def front (a f : ByteArray) : List UInt8 := quo a.data.toList ++ 32 :: quo f.data.toList
theorem entry_text (a f : ByteArray) (ps : List (ByteArray × ByteArray)) : text (entry a.data.toList f.data.toList ps) = front a f ++ body ps ++ [59] := by
  have hp : text (ps.flatMap fun p => [(true, Sum.inl p.1.data.toList), (false, Sum.inr 61), (false, Sum.inl p.2.data.toList)]) = body ps := by
    induction ps with
    | nil => rfl
    | cons p ps ih =>
      rw [List.flatMap_cons, text_append, ih]
      unfold body
      rw [List.flatMap_cons]
      simp [text, Tk.txt]
  unfold entry front
  rw [text_append]
  simp only [text, Tk.txt]
  rw [hp]
  simp

set_option maxRecDepth 40000 in
set_option maxHeartbeats 16000000 in
theorem law_option (a f m : ByteArray) (v1 v2 : Value) (xs ys : List ByteArray) (w : World) (h1 : Arg v1 xs w) (h2 : Arg v2 ys w) (hV : Vars w) (ha : a.size ≤ 9223372036854775807) (hf : f.size ≤ 9223372036854775807) (hm : m.size ≤ 9223372036854775807)
    (hx : xs.length ≤ 9223372036854775807) (hy : ys.length ≤ 9223372036854775807) (hxs : ∀ x ∈ xs, x.size ≤ 9223372036854775807) (hys : ∀ x ∈ ys, x.size ≤ 9223372036854775807) :
    Calls Tryd.prog 4 #[.string a, .string f, v1, v2, .string m] w fun r w' => r = .returned (.bool true) ∧ Below w.heap.size w w' := by
  have cB : Hid (Calls Tryd.prog 11 #[.string a, .string f, v1, v2, .string m] w (BPost a f m xs ys w)) := bytes_any a f m v1 v2 xs ys w h1 h2 ha hf hm hx hy hxs hys
  have H1 : Hid (Arg v1 xs w) := h1
  have H2 : Hid (Arg v2 ys w) := h2
  have HV : Hid (Vars w) := hV
  obtain ⟨o1, c1, rfl, k1⟩ := h1.slots
  obtain ⟨o2, c2, rfl, k2⟩ := h2.slots
  have K1 : Hid (∀ i (h : i < xs.length), ∃ b o, o1 = some ⟨b, o, none⟩ ∧ w.cell? ⟨b, o + i, none⟩ = some (.string xs[i])) := k1
  have K2 : Hid (∀ i (h : i < ys.length), ∃ b o, o2 = some ⟨b, o, none⟩ ∧ w.cell? ⟨b, o + i, none⟩ = some (.string ys[i])) := k2
  clear h1 h2 k1 k2 hV hxs hys hx hy ha hf hm
  go_enter Tryd.func4, Tryd.ntmps4
  go_wp2_with fail
  refine cB.out.mono ?_
  rintro r w' ⟨b, rfl, hw, hb⟩
  obtain rfl := hw.symm
  clear hw
  cases b with
  | false =>
    go_wp2
    go_ret
    exact ⟨rfl, Below.refl _ _⟩
  | true =>
    obtain ⟨ba, bf, bm, bx, bY, bxs, bys⟩ := hb rfl
    have BXs : Hid (∀ x ∈ xs, x.size ≤ 1048576) := bxs
    have BYs : Hid (∀ x ∈ ys, x.size ≤ 1048576) := bys
    clear hb bxs bys cB
    have e1 : ¬ 1048576 < a.size := by omega
    have e2 : ¬ 1048576 < f.size := by omega
    have e3 : ¬ 1048576 < m.size := by omega
    go_wp2_with fail
    all_goals try (go_ret; exact ⟨rfl, Below.refl _ _⟩)
    have hT0 : a.size + f.size + m.size ≤ 1048576 := by omega
    go_loopg [11, 12] xs.length (fun g zv iv wr => ∃ i z : Nat, g = xs.length - i ∧ iv = .int .i64 i ∧ zv = .int .i64 z ∧ z = a.size + f.size + m.size + tot (xs.take i) ∧ z ≤ 1048576 ∧ i ≤ xs.length ∧ wr = w)
    case atStart => exact ⟨0, a.size + f.size + m.size, rfl, rfl, congrArg (Value.int .i64) (by omega), rfl, hT0, Nat.zero_le _, rfl⟩
    case round =>
      obtain ⟨i, z, hg, rfl, rfl, hze, hz, hi, hwr⟩ := hrel
      obtain rfl := hwr.symm
      clear hwr
      have HG : Hid (gk = xs.length - i) := hg
      have HZ : Hid (z = a.size + f.size + m.size + tot (xs.take i)) := hze
      clear hg hze
      by_cases hlt : i < xs.length
      · have hltI : (i : Int) < (xs.length : Int) := by omega
        obtain ⟨b, o, rfl, hc⟩ := K1.out i hlt
        have hsz := BXs.out xs[i] (List.getElem_mem hlt)
        have htk := tot_take xs i hlt
        obtain ⟨x, hx'⟩ : ∃ x, xs[i] = x := ⟨_, rfl⟩
        rw [hx'] at hc hsz htk
        have HTk : Hid (tot (xs.take (i + 1)) = tot (xs.take i) + (x.size + 16)) := htk
        obtain ⟨X, hX⟩ : ∃ X, x.size + 16 = X := ⟨_, rfl⟩
        obtain ⟨Z, hZ⟩ : ∃ Z, z + X = Z := ⟨_, rfl⟩
        have HXZ : Hid (x.size + 16 = X ∧ z + X = Z) := ⟨hX, hZ⟩
        have hXI : (x.size : Int) + 16 = (X : Int) := by omega
        have hZI : (z : Int) + (X : Int) = (Z : Int) := by omega
        have hXW : IntKind.i64.wrap (X : Int) = (X : Int) := IntWalk.i64_in _ ⟨by omega, by omega⟩
        have hZW : IntKind.i64.wrap (Z : Int) = (Z : Int) := IntWalk.i64_in _ ⟨by omega, by omega⟩
        clear hx' htk hX hZ hsz
        go_wp2_with fail
        all_goals try (go_ret; exact ⟨rfl, Below.refl _ _⟩)
        go_roundg (xs.length - (i + 1))
        case measure => have := HG.out; omega
        case rel => exact ⟨i + 1, Z, rfl, by go_num, rfl, by have := HXZ.out; have := HZ.out; rw [HTk.out]; omega, by omega, by omega, rfl⟩
      · have hltI : ¬ (i : Int) < (xs.length : Int) := by omega
        have HZ1 : Hid (z = a.size + f.size + m.size + tot xs) := by
          have := HZ.out
          rw [List.take_of_length_le (by omega)] at this
          exact this
        clear HG HZ K1
        go_wp2_with fail
        go_loopg [11, 13] ys.length (fun g zv iv wr => ∃ i z : Nat, g = ys.length - i ∧ iv = .int .i64 i ∧ zv = .int .i64 z ∧ z = a.size + f.size + m.size + tot xs + tot (ys.take i) ∧ z ≤ 1048576 ∧ i ≤ ys.length ∧ wr = w)
        case atStart => exact ⟨0, z, rfl, rfl, rfl, HZ1.out, hz, Nat.zero_le _, rfl⟩
        case round =>
          obtain ⟨i2, z2, hg, rfl, rfl, hze, hz2, hi2, hwr⟩ := hrel
          obtain rfl := hwr.symm
          clear hwr
          have HG2 : Hid (gk = ys.length - i2) := hg
          have HZ2 : Hid (z2 = a.size + f.size + m.size + tot xs + tot (ys.take i2)) := hze
          clear hg hze
          by_cases hlt2 : i2 < ys.length
          · have hltI2 : (i2 : Int) < (ys.length : Int) := by omega
            obtain ⟨b, o, rfl, hc⟩ := K2.out i2 hlt2
            have hsz := BYs.out ys[i2] (List.getElem_mem hlt2)
            have htk := tot_take ys i2 hlt2
            obtain ⟨x, hx'⟩ : ∃ x, ys[i2] = x := ⟨_, rfl⟩
            rw [hx'] at hc hsz htk
            have HTk : Hid (tot (ys.take (i2 + 1)) = tot (ys.take i2) + (x.size + 16)) := htk
            obtain ⟨X, hX⟩ : ∃ X, x.size + 16 = X := ⟨_, rfl⟩
            obtain ⟨Z, hZ⟩ : ∃ Z, z2 + X = Z := ⟨_, rfl⟩
            have HXZ : Hid (x.size + 16 = X ∧ z2 + X = Z) := ⟨hX, hZ⟩
            have hXI : (x.size : Int) + 16 = (X : Int) := by omega
            have hZI : (z2 : Int) + (X : Int) = (Z : Int) := by omega
            have hXW : IntKind.i64.wrap (X : Int) = (X : Int) := IntWalk.i64_in _ ⟨by omega, by omega⟩
            have hZW : IntKind.i64.wrap (Z : Int) = (Z : Int) := IntWalk.i64_in _ ⟨by omega, by omega⟩
            clear hx' htk hX hZ hsz
            go_wp2_with fail
            all_goals try (go_ret; exact ⟨rfl, Below.refl _ _⟩)
            go_roundg (ys.length - (i2 + 1))
            case measure => have := HG2.out; omega
            case rel => exact ⟨i2 + 1, Z, rfl, by go_num, rfl, by have := HXZ.out; have := HZ2.out; rw [HTk.out]; omega, by omega, by omega, rfl⟩
          · have hltI2 : ¬ (i2 : Int) < (ys.length : Int) := by omega
            have HT : Hid (a.size + f.size + m.size + tot xs + tot ys ≤ 1048576) := by
              show _ ≤ _
              have := HZ2.out
              rw [List.take_of_length_le (by omega)] at this
              omega
            clear HG2 HZ2 K2
            go_wp2_with fail
            refine (clone_any _ xs w H1.out bx).mono ?_
            rintro r w2 ⟨v1', rfl, hA1, hb1⟩
            have HA1 : Hid (Arg v1' xs w2) := hA1
            have HB1 : Hid (Below w.heap.size w w2) := hb1
            clear hA1 hb1
            go_wp2_with fail
            refine (clone_any _ ys w2 (H2.out.below HB1.out) bY).mono ?_
            rintro r w3 ⟨v2', rfl, hA2, hb2⟩
            obtain ⟨p1, d1, rfl, q1⟩ := (HA1.out.below hb2).slots
            obtain ⟨p2, d2, rfl, q2⟩ := hA2.slots
            have Q1 : Hid (∀ i (h : i < xs.length), ∃ b o, p1 = some ⟨b, o, none⟩ ∧ w3.cell? ⟨b, o + i, none⟩ = some (.string xs[i])) := q1
            have Q2 : Hid (∀ i (h : i < ys.length), ∃ b o, p2 = some ⟨b, o, none⟩ ∧ w3.cell? ⟨b, o + i, none⟩ = some (.string ys[i])) := q2
            have HB3 : Hid (Below w.heap.size w w3) := HB1.out.trans (hb2.mono HB1.out.size)
            clear q1 q2 hA2 hb2 HA1 HB1
            obtain ⟨n, hn⟩ : ∃ n, (xs.zip ys).length = n := ⟨_, rfl⟩
            have hnm : n = min xs.length ys.length := by rw [← hn, List.length_zip]
            have HNm : Hid (n = min xs.length ys.length) := hnm
            clear hnm
            go_upto_if 93 with fail
            go_cut [14] from 22 (fun v wc => v = .int .i64 (n : Int) ∧ wc = w3)
            case first =>
              go_wp2_with fail
              all_goals
                go_meet
                refine ⟨congrArg (Value.int .i64) ?_, rfl⟩
                have := HNm.out
                omega
            case rest =>
              obtain ⟨rfl, rfl⟩ := hcut
              have hAf := quo_length a
              have hFf := quo_length f
              have hBl := body_length xs ys
              have hLs : (front a f).length + (body (xs.zip ys)).length ≤ 4194304 := by
                have := HT.out
                unfold front
                simp
                omega
              have HLs : Hid ((front a f).length + (body (xs.zip ys)).length ≤ 4194304) := hLs
              have HQa : Hid ((quo a.data.toList).length ≤ 2097154) := by show _ ≤ _; omega
              have HXl : Hid (16 * xs.length ≤ 1048576) := by show _ ≤ _; have := tot_length xs; have := HT.out; omega
              clear hAf hFf hBl hLs
              go_wp2_with fail
              refine (quote_any wc.heap.size _ [] a wc (byts_nil _ _) (Nat.le_refl _) (by simp) (by omega)).mono ?_
              rintro r w4 ⟨v4, rfl, hy4, hb4⟩
              rw [List.nil_append] at hy4
              obtain ⟨v5, w5, r5, y5, q5⟩ := byts_push 32 hy4 hb4.size (by have := HQa.out; omega)
              have R5 : Hid ((Builtin.append_ #[25, 25] 25 #[v4, .slice (some ⟨w4.heap.size, 0, none⟩) 1 1]).run Tryd.prog (w4.alloc (.cells #[.int .u8 32] 5)) = .ok v5 w5) := r5
              have Y5 : Hid (Byts wc.heap.size v5 (quo a.data.toList ++ [32]) w5) := y5
              have B5 : Hid (Below wc.heap.size wc w5) := hb4.trans q5
              clear r5 y5 q5 hy4 hb4
              go_wp2_with (at_builtin; refine wpList_append_run (by rfl) _ _ _ _ (by rfl) _ _ _ _ (by rfl) (by rfl) R5.out ?_)
              refine (quote_any wc.heap.size v5 _ f w5 Y5.out B5.out.size (by have := HQa.out; simp; omega) (by omega)).mono ?_
              rintro r w6 ⟨v6, rfl, hy6, hb6⟩
              have Y6 : Hid (Byts wc.heap.size v6 (front a f) w6) := by
                show Byts _ _ _ _
                unfold front
                simpa using hy6
              have B6 : Hid (Below wc.heap.size wc w6) := B5.out.trans hb6
              clear hy6 hb6
              go_wp2_with fail
              go_loopg [15, 16] n (fun g bv iv wr => ∃ i : Nat, g = n - i ∧ iv = .int .i64 i ∧ i ≤ n ∧ Byts wc.heap.size bv (front a f ++ body ((xs.zip ys).take i)) wr ∧ Below wc.heap.size wc wr)
              case atStart => exact ⟨0, rfl, rfl, Nat.zero_le _, by simpa [body] using Y6.out, B6.out⟩
              case round =>
                obtain ⟨j, hg, rfl, hj, hyr, hbr⟩ := hrel
                have HGj : Hid (gk = n - j) := hg
                have HYr : Hid (Byts wc.heap.size u15 (front a f ++ body ((xs.zip ys).take j)) wr) := hyr
                have HBr : Hid (Below wc.heap.size wc wr) := hbr
                have HBl : Hid ((front a f ++ body ((xs.zip ys).take j)).length ≤ 4194304) := by
                  show _ ≤ _
                  have := body_take_length xs ys j
                  have := HLs.out
                  simp
                  omega
                clear hg hyr hbr
                by_cases hjn : j < n
                · have hjI : (j : Int) < (n : Int) := by omega
                  have hjx : j < xs.length := by have := HNm.out; omega
                  have hjy : j < ys.length := by have := HNm.out; omega
                  have hjxI : (j : Int) < (xs.length : Int) := by omega
                  have hjyI : (j : Int) < (ys.length : Int) := by omega
                  obtain ⟨b1, o1', rfl, hc1⟩ := Q1.out j hjx
                  obtain ⟨b2, o2', rfl, hc2⟩ := Q2.out j hjy
                  have hbt := body_take (xs.zip ys) j (by rw [hn]; exact hjn)
                  rw [List.getElem_zip] at hbt
                  have hsx := BXs.out xs[j] (List.getElem_mem hjx)
                  have hsy := BYs.out ys[j] (List.getElem_mem hjy)
                  obtain ⟨x, hx'⟩ : ∃ x, xs[j] = x := ⟨_, rfl⟩
                  obtain ⟨y, hy'⟩ : ∃ y, ys[j] = y := ⟨_, rfl⟩
                  rw [hx'] at hc1 hsx hbt
                  rw [hy'] at hc2 hsy hbt
                  have HBt : Hid (body ((xs.zip ys).take (j + 1)) = body ((xs.zip ys).take j) ++ (32 :: (quo x.data.toList ++ 61 :: quo y.data.toList))) := hbt
                  have HC1 : Hid (wc.cell? ⟨b1, o1' + j, none⟩ = some (.string x)) := hc1
                  have HC2 : Hid (wc.cell? ⟨b2, o2' + j, none⟩ = some (.string y)) := hc2
                  have HQx : Hid ((quo x.data.toList).length ≤ 2097154) := by show _ ≤ _; have := quo_length x; omega
                  clear hx' hy' hbt hc1 hc2
                  obtain ⟨v7, w7, r7, y7, q7⟩ := byts_push 32 HYr.out HBr.out.size (by have := HBl.out; omega)
                  have R7 : Hid ((Builtin.append_ #[25, 25] 25 #[u15, .slice (some ⟨wr.heap.size, 0, none⟩) 1 1]).run Tryd.prog (wr.alloc (.cells #[.int .u8 32] 5)) = .ok v7 w7) := r7
                  have Y7 : Hid (Byts wc.heap.size v7 (front a f ++ body ((xs.zip ys).take j) ++ [32]) w7) := y7
                  have B7 : Hid (Below wc.heap.size wc w7) := HBr.out.trans q7
                  have c7 : w7.cell? ⟨b1, o1' + j, none⟩ = some (.string x) := (B7.out.cell (p := ⟨b1, o1' + j, none⟩) (World.block_lt_of_cell? wc _ HC1.out)).trans HC1.out
                  clear r7 y7 q7
                  go_wp2_with (at_builtin; refine wpList_append_run (by rfl) _ _ _ _ (by rfl) _ _ _ _ (by rfl) (by rfl) R7.out ?_)
                  refine (quote_any wc.heap.size v7 _ x w7 Y7.out B7.out.size (by have := HBl.out; rw [List.length_append]; simp at this ⊢; omega) hsx).mono ?_
                  rintro r w8 ⟨v8, rfl, hy8, hb8⟩
                  obtain ⟨v9, w9, r9, y9, q9⟩ := byts_push 61 hy8 (Nat.le_trans B7.out.size hb8.size) (by have := HBl.out; have := HQx.out; simp at *; omega)
                  have R9 : Hid ((Builtin.append_ #[25, 25] 25 #[v8, .slice (some ⟨w8.heap.size, 0, none⟩) 1 1]).run Tryd.prog (w8.alloc (.cells #[.int .u8 61] 5)) = .ok v9 w9) := r9
                  have Y9 : Hid (Byts wc.heap.size v9 (front a f ++ body ((xs.zip ys).take j) ++ [32] ++ quo x.data.toList ++ [61]) w9) := y9
                  have B9 : Hid (Below wc.heap.size wc w9) := (B7.out.trans hb8).trans q9
                  have c9 : w9.cell? ⟨b2, o2' + j, none⟩ = some (.string y) := (B9.out.cell (p := ⟨b2, o2' + j, none⟩) (World.block_lt_of_cell? wc _ HC2.out)).trans HC2.out
                  clear r9 y9 q9 hy8 hb8 c7
                  go_wp2_with (at_builtin; refine wpList_append_run (by rfl) _ _ _ _ (by rfl) _ _ _ _ (by rfl) (by rfl) R9.out ?_)
                  refine (quote_any wc.heap.size v9 _ y w9 Y9.out B9.out.size (by have := HBl.out; have := HQx.out; simp at *; omega) hsy).mono ?_
                  rintro r w10 ⟨v10, rfl, hy10, hb10⟩
                  have Y10 : Hid (Byts wc.heap.size v10 (front a f ++ body ((xs.zip ys).take (j + 1))) w10) := by
                    show Byts _ _ _ _
                    rw [HBt.out]
                    simpa using hy10
                  have B10 : Hid (Below wc.heap.size wc w10) := B9.out.trans hb10
                  clear hy10 hb10 c9
                  go_wp2_with fail
                  go_roundg (n - (j + 1))
                  case measure => have := HGj.out; omega
                  case rel => exact ⟨j + 1, rfl, by go_num, by omega, Y10.out, B10.out⟩
                · have hjI : ¬ (j : Int) < (n : Int) := by omega
                  have Yn : Hid (Byts wc.heap.size u15 (front a f ++ body (xs.zip ys)) wr) := by
                    have := HYr.out
                    rw [List.take_of_length_le (by omega)] at this
                    exact this
                  obtain ⟨v7, w7, r7, y7, q7⟩ := byts_push 59 Yn.out HBr.out.size (by have := HLs.out; simp; omega)
                  have R7 : Hid ((Builtin.append_ #[25, 25] 25 #[u15, .slice (some ⟨wr.heap.size, 0, none⟩) 1 1]).run Tryd.prog (wr.alloc (.cells #[.int .u8 59] 5)) = .ok v7 w7) := r7
                  have y7' : Byts wc.heap.size v7 (text (entry a.data.toList f.data.toList (xs.zip ys))) w7 := by rw [entry_text]; exact y7
                  have hcv := byts_text y7' (by rw [entry_text]; simp)
                  have B7 : Hid (Below wc.heap.size wc w7) := HBr.out.trans q7
                  have W7 : Hid (Below w.heap.size w w7) := HB3.out.trans (B7.out.mono HB3.out.size)
                  have cO : Hid (Calls Tryd.prog 12 #[.string (str (text (entry a.data.toList f.data.toList (xs.zip ys)))), .string m] w7 fun r w' => r = .returned (found m (xs.zip ys)) ∧ Below w7.heap.size w7 w') :=
                    option_any a f m (xs.zip ys) w7 (HV.out.below W7.out) (by rw [entry_text]; have := HLs.out; simp; omega) (by have := HNm.out; have := HXl.out; omega)
                  clear r7 y7 q7 y7'
                  have HCV : Hid ((convert 25 9 v7).run Tryd.prog w7 = .ok (.string (str (text (entry a.data.toList f.data.toList (xs.zip ys))))) w7) := hcv
                  clear hcv HYr Yn HGj HBl
                  generalize hps : xs.zip ys = ps at *
                  have HPs : Hid (xs.zip ys = ps) := hps
                  clear hps
                  go_wp2_with (at_builtin; refine wpList_append_run (by rfl) _ _ _ _ (by rfl) _ _ _ _ (by rfl) (by rfl) R7.out ?_)
                  go_loopg [17, 18, 19] n (fun g wv ov iv wr => ∃ i : Nat, g = n - i ∧ iv = .int .i64 i ∧ i ≤ n ∧ wv = .string ⟨#[]⟩ ∧ ov = .bool false ∧ look m ps = look m (ps.drop i) ∧ wr = w7)
                  case atStart => exact ⟨0, rfl, rfl, Nat.zero_le _, rfl, rfl, rfl, rfl⟩
                  case round =>
                    obtain ⟨i4, hg, rfl, hi4, rfl, rfl, hlk, hwr⟩ := hrel
                    obtain rfl := hwr.symm
                    clear hwr
                    have HG4 : Hid (gk = n - i4) := hg
                    have HLk : Hid (look m ps = look m (ps.drop i4)) := hlk
                    clear hg hlk
                    by_cases hlt4 : i4 < n
                    · have hlt4I : (i4 : Int) < (n : Int) := by omega
                      have hjx : i4 < xs.length := by have := HNm.out; omega
                      have hjy : i4 < ys.length := by have := HNm.out; omega
                      have hjxI : (i4 : Int) < (xs.length : Int) := by omega
                      have hjyI : (i4 : Int) < (ys.length : Int) := by omega
                      obtain ⟨b1, o1', rfl, hc1⟩ := Q1.out i4 hjx
                      obtain ⟨b2, o2', rfl, hc2⟩ := Q2.out i4 hjy
                      have hpl : i4 < ps.length := by rw [hn]; exact hlt4
                      have hdr : ps.drop i4 = ps[i4] :: ps.drop (i4 + 1) := List.drop_eq_getElem_cons hpl
                      have hpz : ps[i4] = (xs[i4], ys[i4]) := by
                        have h := HPs.out
                        subst h
                        exact List.getElem_zip
                      obtain ⟨x, hx'⟩ : ∃ x, xs[i4] = x := ⟨_, rfl⟩
                      obtain ⟨y, hy'⟩ : ∃ y, ys[i4] = y := ⟨_, rfl⟩
                      rw [hx', hy'] at hpz
                      rw [hx'] at hc1
                      rw [hy'] at hc2
                      have HLL : Hid (look m (ps.drop i4) = if x = ⟨#[59]⟩ then none else if x = m then some y else look m (ps.drop (i4 + 1))) := by
                        show _ = _
                        rw [hdr, look, hpz]
                      have k1 : w7.cell? ⟨b1, o1' + i4, none⟩ = some (.string x) := (B7.out.cell (p := ⟨b1, o1' + i4, none⟩) (World.block_lt_of_cell? wc _ hc1)).trans hc1
                      have k2 : w7.cell? ⟨b2, o2' + i4, none⟩ = some (.string y) := (B7.out.cell (p := ⟨b2, o2' + i4, none⟩) (World.block_lt_of_cell? wc _ hc2)).trans hc2
                      clear hdr hpz hx' hy' hc1 hc2 hpl
                      by_cases hs : x = ⟨#[59]⟩
                      · have hs1 : (x.toList == [59]) = true := by rw [hs, Lib.toList_data]; rfl
                        have HNn : Hid (found m ps = .tuple #[.string ⟨#[]⟩, .bool false]) := by show _ = _; unfold found; rw [HLk.out, HLL.out, if_pos hs]
                        clear hs
                        have hcv := HCV.out
                        go_wp2_with fail
                        refine cO.out.mono ?_
                        rintro r w9 ⟨rfl, hb9⟩
                        have HB9 : Hid (Below w.heap.size w w9) := W7.out.trans (hb9.mono W7.out.size)
                        clear hb9 hcv
                        rw [HNn.out]
                        go_wp2
                        go_ret
                        exact ⟨rfl, HB9.out⟩
                      · have hs1 : (x.toList == [59]) = false := by
                          rw [Bool.eq_false_iff]
                          intro h
                          rw [beq_iff_eq, Lib.toList_data] at h
                          exact hs (ba_eq h)
                        by_cases hm : x = m
                        · have hm1 : (x.toList == m.toList) = true := by rw [hm]; simp
                          have HNn : Hid (found m ps = .tuple #[.string y, .bool true]) := by show _ = _; unfold found; rw [HLk.out, HLL.out, if_neg hs, if_pos hm]
                          clear hs hm
                          have hcv := HCV.out
                          go_wp2_with fail
                          refine cO.out.mono ?_
                          rintro r w9 ⟨rfl, hb9⟩
                          have HB9 : Hid (Below w.heap.size w w9) := W7.out.trans (hb9.mono W7.out.size)
                          clear hb9 hcv
                          rw [HNn.out]
                          go_wp2
                          go_ret
                          exact ⟨rfl, HB9.out⟩
                        · have hm1 : (x.toList == m.toList) = false := by
                            rw [Bool.eq_false_iff]
                            intro h
                            rw [beq_iff_eq, Lib.toList_data, Lib.toList_data] at h
                            exact hm (ba_eq h)
                          have HNl : Hid (look m ps = look m (ps.drop (i4 + 1))) := by show _ = _; rw [HLk.out, HLL.out, if_neg hs, if_neg hm]
                          clear hs hm
                          go_wp2_with fail
                          go_roundg (n - (i4 + 1))
                          case measure => have := HG4.out; omega
                          case rel => exact ⟨i4 + 1, rfl, by go_num, by omega, rfl, rfl, HNl.out, rfl⟩
                    · have hlt4I : ¬ (i4 : Int) < (n : Int) := by omega
                      have HNn : Hid (found m ps = .tuple #[.string ⟨#[]⟩, .bool false]) := by
                        show _ = _
                        unfold found
                        rw [HLk.out, List.drop_of_length_le (by omega)]
                        rfl
                      have hcv := HCV.out
                      go_wp2_with fail
                      refine cO.out.mono ?_
                      rintro r w9 ⟨rfl, hb9⟩
                      have HB9 : Hid (Below w.heap.size w w9) := W7.out.trans (hb9.mono W7.out.size)
                      clear hb9 hcv
                      rw [HNn.out]
                      go_wp2
                      go_ret
                      exact ⟨rfl, HB9.out⟩
end Go.Proofs.Qxb6606142aDoor
