import Derived.Test.Qxb6606017aFmtTwoPlain
namespace Go.Proofs.Qxb6606017aFmt
open Go.RowKit Go.PlainAid
open Go.Extern.Stop Go.Stop Go.Extern

theorem below_N {B : Nat} {a w : World} (h : Below B a w) (n : Nat) : Below B a (w.drewN n) := ⟨h.os, h.tape, h.output, h.size, h.block⟩

set_option maxRecDepth 8000 in
set_option maxHeartbeats 4000000 in
theorem law_written (p t d l : ByteArray) (m : Int) (w : World) (hT : Lib.Utf8Tabs 0 1 w) (hA : Folds w) (hm : w.cell? ⟨5, 0, none⟩ = some (.int .i64 m)) :
    Calls Tryf.prog 5 #[.string p, .string t, .string d, .string l] w fun r w' => Below w.heap.size w w' ∧ r = .returned (.bool true) := by
  have HT : Hid (Lib.Utf8Tabs 0 1 w) := hT
  have HA : Hid (Folds w) := hA
  have HM : Hid (w.cell? ⟨5, 0, none⟩ = some (.int .i64 m)) := hm
  clear hT hA hm
  by_cases hsz : p.size + t.size + d.size + l.size ≤ 1048576
  · have hd0 : decide (p.size + t.size + d.size + l.size ≤ 1048576) = true := decide_eq_true hsz
    cases hpl : plainB t with
    | false =>
      go_enter Tryf.func5, Tryf.ntmps5
      go_wp2_with (first
        | (go_at_call 11; refine (zzBytes4_any _ _ _ _ _).mono ?_; rintro e w' ⟨rfl, rfl⟩)
        | (go_at_call 12; refine (zzPlainASCIIName_any _ _ (by omega)).mono ?_; rintro e w' ⟨rfl, rfl⟩))
      go_ret
      exact ⟨Below.refl _ _, rfl⟩
    | true =>
      have HPL : Hid (plainB t = true) := hpl
      cases hxm : xmlB t with
      | true =>
        go_enter Tryf.func5, Tryf.ntmps5
        go_wp2_with (first
          | (go_at_call 11; refine (zzBytes4_any _ _ _ _ _).mono ?_; rintro e w' ⟨rfl, rfl⟩)
          | (go_at_call 12; refine (zzPlainASCIIName_any _ _ (by omega)).mono ?_; rintro e w' ⟨rfl, rfl⟩)
          | (go_at_call 13; refine (zzIsXMLTarget_any _ _).mono ?_; rintro e w' ⟨rfl, rfl⟩))
        go_ret
        exact ⟨Below.refl _ _, rfl⟩
      | false =>
        have HXM : Hid (xmlB t = false) := hxm
        by_cases hix : 0 ≤ Lib.index d.data.toList [63, 62]
        · go_enter Tryf.func5, Tryf.ntmps5
          go_wp2_with (first
            | (go_at_call 11; refine (zzBytes4_any _ _ _ _ _).mono ?_; rintro e w' ⟨rfl, rfl⟩)
            | (go_at_call 12; refine (zzPlainASCIIName_any _ _ (by omega)).mono ?_; rintro e w' ⟨rfl, rfl⟩)
            | (go_at_call 13; refine (zzIsXMLTarget_any _ _).mono ?_; rintro e w' ⟨rfl, rfl⟩)
            | (go_at_call 14; refine (zzIndexClose_any _ _ (by omega)).mono ?_; rintro e w' ⟨rfl, rfl⟩))
          go_ret
          exact ⟨Below.refl _ _, rfl⟩
        · have HIX : Hid (Lib.index d.data.toList [63, 62] < 0) := by show _ < _; omega
          obtain ⟨e, hE, _, hed⟩ := Stops.exists (g := cstep d) (n := d.size) (a := 0) (Nat.zero_le _) (fun i z hi hz => cstep_fits d i z hi hz)
          by_cases hel : e < d.size
          · have hrf : refAt d.size e = (e : Int) := if_pos hel
            have HE : Hid (Stops (cstep d) d.size 0 e) := hE
            clear hE
            have hge : (0 : Int) ≤ (e : Int) := by omega
            go_enter Tryf.func5, Tryf.ntmps5
            go_wp2_with (first
              | (go_at_call 11; refine (zzBytes4_any _ _ _ _ _).mono ?_; rintro e w' ⟨rfl, rfl⟩)
              | (go_at_call 12; refine (zzPlainASCIIName_any _ _ (by omega)).mono ?_; rintro e w' ⟨rfl, rfl⟩)
              | (go_at_call 13; refine (zzIsXMLTarget_any _ _).mono ?_; rintro e w' ⟨rfl, rfl⟩)
              | (go_at_call 14; refine (zzIndexClose_any _ _ (by omega)).mono ?_; rintro e w' ⟨rfl, rfl⟩)
              | (go_at_call 15; refine (zzFirstRefused_any _ _ _ (by omega) HE.out).mono ?_; rintro e w' ⟨rfl, nn, rfl⟩))
            go_ret
            exact ⟨below_N (Below.refl _ _) _, rfl⟩
          · obtain rfl : e = d.size := by omega
            have hrf : refAt d.size d.size = -1 := if_neg hel
            have HE : Hid (Stops (cstep d) d.size 0 d.size) := hE
            clear hE hel hed
            have hoz := openB_size p t d
            have hwz := wholeB_size p t d l
            have h6 : 6 ≤ w.heap.size := by
              have hm := HM.out
              rcases Nat.lt_or_ge 5 w.heap.size with h | h
              · omega
              · simp [World.cell?, Array.getElem?_eq_none h] at hm
            have hneO : ∀ k, k < t.size → bt (openB p t d) (p.size + 2 + k) = bt t k := openB_name p t d
            have hneW : ∀ k, k < t.size → bt (wholeB p t d l) (p.size + 2 + k) = bt t k := fun k hk => by rw [wholeB_open p t d l _ (by omega)]; exact openB_name p t d k hk
            have hexO := name_is (openB p t d) t (p.size + 2) hneO (by omega)
            have hexW := name_is (wholeB p t d l) t (p.size + 2) hneW (by omega)
            have oW : insOut (nmOK ((wholeB p t d l).extract (p.size + 2) (p.size + 2 + t.size)).data.toList) (xmlB ((wholeB p t d l).extract (p.size + 2) (p.size + 2 + t.size))) ((1 + d.size : Nat) : Int) (isSp (bt (wholeB p t d l) (p.size + 2 + t.size))) (p.size + 2 + t.size) (1 + d.size) = ((openB p t d).size + 2, true) := by
              rw [hexW, name_ok t HPL.out, HXM.out, wholeB_open p t d l _ (by omega), openB_blank]
              unfold insOut
              rw [if_neg, if_neg (by omega), Int.toNat_natCast]
              · congr 1; omega
              · rintro (h | h | h | ⟨_, h⟩)
                · cases h
                · cases h
                · omega
                · exact absurd h (by decide)
            have oO : insOut (nmOK ((openB p t d).extract (p.size + 2) (p.size + 2 + t.size)).data.toList) (xmlB ((openB p t d).extract (p.size + 2) (p.size + 2 + t.size))) (-1) (isSp (bt (openB p t d) (p.size + 2 + t.size))) (p.size + 2 + t.size) 0 = (p.size + 2 + t.size, false) := by
              unfold insOut
              rw [if_pos (Or.inr (Or.inr (Or.inl (by omega))))]
            have C1 : Hid (∀ W, Below w.heap.size w W → Calls Tryf.prog 9 #[.string (wholeB p t d l), .int .i64 p.size] W fun r w' => Below w.heap.size w w' ∧ r = .returned (.tuple #[.int .i64 ((openB p t d).size + 2 : Nat), .bool true, .int .i64 0])) := fun W hW =>
              (zzInstructionAt_any (wholeB p t d l) p.size (p.size + 2 + t.size) (1 + d.size) ((1 + d.size : Nat) : Int) m W (by omega) (by omega) (tabs_below _ (by omega) hW HT.out) (folds_below _ (by omega) hW HA.out) (by rw [hW.cell (p := ⟨5, 0, none⟩) (by show 5 < w.heap.size; omega)]; exact HM.out)
                (name_stops _ t _ HPL.out hneW (by rw [wholeB_open p t d l _ (by omega), openB_blank]) (by omega)) (by omega) (by omega) (whole_index p t d l HIX.out) (by omega) (by intro _; omega) (fun _ => ⟨by rw [Int.toNat_natCast]; exact whole_text p t d l HE.out, by omega⟩) _ oW).mono fun r w' h => ⟨hW.trans (h.1.mono hW.size), h.2⟩
            have C2 : Hid (∀ W, Below w.heap.size w W → Calls Tryf.prog 9 #[.string (openB p t d), .int .i64 p.size] W fun r w' => Below w.heap.size w w' ∧ r = .returned (.tuple #[.int .i64 (p.size + 2 + t.size : Nat), .bool false, .int .i64 (lineAt (openB p t d) (p.size + 2 + t.size))])) := fun W hW =>
              (zzInstructionAt_any (openB p t d) p.size (p.size + 2 + t.size) 0 (-1) m W (by omega) (by omega) (tabs_below _ (by omega) hW HT.out) (folds_below _ (by omega) hW HA.out) (by rw [hW.cell (p := ⟨5, 0, none⟩) (by show 5 < w.heap.size; omega)]; exact HM.out)
                (name_stops _ t _ HPL.out hneO (openB_blank p t d) (by omega)) (by omega) (by omega) (open_index p t d HIX.out) (by omega) (by intro h; omega) (fun h => by omega) _ oO).mono fun r w' h => ⟨hW.trans (h.1.mono hW.size), h.2⟩
            have C3 : Hid (∀ W, Calls Tryf.prog 16 #[.string (openB p t d), .int .i64 ((p.size : Int) + 2 + (t.size : Int))] W fun r w' => r = .returned (.int .i64 (lineAt (openB p t d) (p.size + 2 + t.size))) ∧ w' = W) := fun W => by
              have h := zzLinesBefore_any (openB p t d) (p.size + 2 + t.size) W (by omega) (by omega)
              rw [show ((p.size + 2 + t.size : Nat) : Int) = (p.size : Int) + 2 + (t.size : Int) by omega] at h
              exact h
            clear hneO hneW hexO hexW oW oO
            go_enter Tryf.func5, Tryf.ntmps5
            go_wp2_with (first
              | (go_at_call 11; refine (zzBytes4_any _ _ _ _ _).mono ?_; rintro e w' ⟨rfl, rfl⟩)
              | (go_at_call 12; refine (zzPlainASCIIName_any _ _ (by omega)).mono ?_; rintro e w' ⟨rfl, rfl⟩)
              | (go_at_call 13; refine (zzIsXMLTarget_any _ _).mono ?_; rintro e w' ⟨rfl, rfl⟩)
              | (go_at_call 14; refine (zzIndexClose_any _ _ (by omega)).mono ?_; rintro e w' ⟨rfl, rfl⟩)
              | (go_at_call 15; refine (zzFirstRefused_any _ _ _ (by omega) HE.out).mono ?_; rintro e w' ⟨rfl, nn, rfl⟩))
            refine (C1.out _ (below_N (Below.refl _ _) _)).mono ?_
            rintro r w1 ⟨hB1, rfl⟩
            have HB1 : Hid (Below w'.heap.size w' w1) := hB1
            clear hB1
            go_wp2_with fail
            refine (C2.out _ HB1.out).mono ?_
            rintro r w2 ⟨hB2, rfl⟩
            have HB2 : Hid (Below w'.heap.size w' w2) := hB2
            clear hB2
            go_wp2_with fail
            refine (C3.out _).mono ?_
            rintro r w3 ⟨rfl, rfl⟩
            go_wp2
            go_ret
            exact ⟨HB2.out, rfl⟩
  · have hd0 : decide (p.size + t.size + d.size + l.size ≤ 1048576) = false := decide_eq_false hsz
    go_enter Tryf.func5, Tryf.ntmps5
    go_wp2_with (go_at_call 11; refine (zzBytes4_any _ _ _ _ _).mono ?_; rintro e w' ⟨rfl, rfl⟩)
    go_ret
    exact ⟨Below.refl _ _, rfl⟩
end Go.Proofs.Qxb6606017aFmt
