import Derived.Test.Qxb6606017aFmtDecode
import Derived.Test.Qxb6606017aFmtFold
import Derived.Deep.RegionWith
import Derived.Deep.Cut
namespace Go.Proofs.Qxb6606017aFmt
open Go.RowKit Go.PlainAid
open Go.Extern.Stop Go.Stop Go.Extern

theorem fmtE : FmtStop.printed? ⟨#[97, 110, 32, 88, 77, 76, 32, 100, 101, 99, 108, 97, 114, 97, 116, 105, 111, 110, 32, 97, 102, 116, 101, 114, 32, 116, 104, 101, 32, 115, 116, 97, 114, 116, 32, 111, 102, 32, 116, 104, 101, 32, 100, 111, 99, 117, 109, 101, 110, 116]⟩ 0 = some [] := by kernel_rfl
theorem fmtF : FmtStop.printed? ⟨#[112, 114, 111, 99, 101, 115, 115, 105, 110, 103, 32, 105, 110, 115, 116, 114, 117, 99, 116, 105, 111, 110, 32, 119, 105, 116, 104, 111, 117, 116, 32, 105, 116, 115, 32, 101, 110, 100]⟩ 0 = some [] := by kernel_rfl
theorem fmtG : FmtStop.printed? ⟨#[110, 111, 32, 119, 104, 105, 116, 101, 32, 115, 112, 97, 99, 101, 32, 97, 102, 116, 101, 114, 32, 116, 104, 101, 32, 116, 97, 114, 103, 101, 116, 32, 111, 102, 32, 112, 114, 111, 99, 101, 115, 115, 105, 110, 103, 32, 105, 110, 115, 116, 114, 117, 99, 116, 105, 111, 110, 32, 37, 115]⟩ 1 = some [(0, 115, false)] := by kernel_rfl
theorem folds_below {w w' : World} (B : Nat) (hB : 3 ≤ B) (h : Below B w w') (hA : Folds w) : Folds w' := fun p hp => by
  rw [h.cell (p := ⟨2, p.1, none⟩) (by show 2 < B; omega)]; exact hA p hp

/-- Where the parser stands behind an instruction, and did it go well? -/
def insOut (nm xml : Bool) (y : Int) (sp : Bool) (e1 e2 : Nat) : Nat × Bool :=
  if nm = false ∨ xml = true ∨ y < 0 ∨ (0 < y ∧ sp = false) then (e1, false) else if (e2 : Int) < y then (e1 + e2, false) else (e1 + y.toNat + 2, true)

/-- What instruction leaves. -/
def InsPost (b : Nat) (s : ByteArray) (o : Nat × Bool) (w : World) (r : Ending) (w' : World) : Prop :=
  Below b w w' ∧ Prs b s o.1 w' ∧ ((o.2 = true ∧ r = .returned .nilIface) ∨
    (o.2 = false ∧ ∃ q, r = .returned (.iface 51 (.pointer (some ⟨q, 0, none⟩))) ∧ w'.cell? ⟨q, 0, none⟩ = some (.int .i64 (lineAt s o.1)) ∧ b < q))
theorem InsPost.bad {b : Nat} {s : ByteArray} {o : Nat × Bool} {k : Nat} {w w' : World} {r : Ending} {q : Nat} (ho : o = (k, false)) (hB : Below b w w') (hP : Prs b s k w') (hr : r = .returned (.iface 51 (.pointer (some ⟨q, 0, none⟩)))) (hq : w'.cell? ⟨q, 0, none⟩ = some (.int .i64 (lineAt s k))) (hb : b < q) : InsPost b s o w r w' := by
  subst ho; exact ⟨hB, hP, Or.inr ⟨rfl, q, hr, hq, hb⟩⟩

/-- The place that the parser at block b stands at. -/
def posOf (b : Nat) (w : World) : Int := match w.cell? ⟨b, 1, none⟩ with
  | some (.int _ n) => n
  | _ => 0
theorem InsPost.good {b : Nat} {s : ByteArray} {o : Nat × Bool} {e1 n : Nat} {x : Int} {w w3 : World} {r : Ending} (ho : o = (e1 + n + 2, true)) (hr : r = .returned .nilIface) (hx : x = (e1 : Int) + n + 2) (h : Below b w w3) (h' : Prs b s e1 w3) : InsPost b s o w r (w3.setCell ⟨b, 1, none⟩ (.int .i64 x)) := by
  subst ho hr
  have e : x = ((e1 + n + 2 : Nat) : Int) := by omega
  rw [e]
  exact ⟨h.setCell (p := ⟨b, 1, none⟩) (Nat.le_refl _) _, h'.set _, Or.inl ⟨rfl, rfl⟩⟩
theorem posOf_eq {b : Nat} {w : World} {n : Int} (h : w.cell? ⟨b, 1, none⟩ = some (.int .i64 n)) : posOf b w = n := by unfold posOf; rw [h]
theorem posOf_cell {b : Nat} {s : ByteArray} {k : Nat} {w : World} (h : Prs b s k w) : w.cell? ⟨b, 1, none⟩ = some (.int .i64 (posOf b w)) := by rw [posOf_eq h.2.1]; exact h.2.1
theorem DecPost.no {b : Nat} {s : ByteArray} {p n e : Nat} {w w' : World} {r : Ending} (h : DecPost b s p n e w r w') (he : e < n) :
    ∃ q, r = .returned (.tuple #[.string ⟨#[]⟩, .iface 51 (.pointer (some ⟨q, 0, none⟩))]) ∧ Below b w w' ∧ Prs b s (p + e) w' ∧ w'.cell? ⟨q, 0, none⟩ = some (.int .i64 (lineAt s (p + e))) ∧ b < q := by
  obtain ⟨hB, ⟨h1, _⟩ | ⟨_, hP, q, hr, hq, hb⟩⟩ := h
  · omega
  · exact ⟨q, hr, hB, hP, hq, hb⟩
theorem DecPost.yes {b : Nat} {s : ByteArray} {p n e : Nat} {w w' : World} {r : Ending} (h : DecPost b s p n e w r w') (he : ¬ e < n) :
    ∃ u, r = .returned (.tuple #[.string u, .nilIface]) ∧ Below b w w' ∧ Prs b s p w' := by
  obtain ⟨hB, ⟨_, hP, u, hr⟩ | ⟨h1, _⟩⟩ := h
  · exact ⟨u, hr, hB, hP⟩
  · omega

set_option maxRecDepth 8000 in
set_option maxHeartbeats 40000000 in
theorem instruction_any (b : Nat) (s : ByteArray) (a e1 e2 : Nat) (y : Int) (m : Int) (w : World) (hP : Prs b s a w) (hs : s.size ≤ 4194304) (ha : a + 2 ≤ s.size) (hT : Lib.Utf8Tabs 0 1 w) (hA : Folds w) (hm : w.cell? ⟨5, 0, none⟩ = some (.int .i64 m)) (hb : 6 ≤ b)
    (hE1 : Stops (nstep s (a + 2)) s.size (a + 2) e1) (hae : a + 2 ≤ e1) (hes : e1 ≤ s.size) (hy : Lib.index (s.extract e1 s.size).data.toList [63, 62] = y) (hym : -1 ≤ y) (hyl : 0 ≤ y → (e1 : Int) + y + 2 ≤ s.size)
    (hE2 : 0 ≤ y → Stops (cstep (s.extract e1 (e1 + y.toNat))) y.toNat 0 e2 ∧ e2 ≤ y.toNat) :
    Calls Tryf.prog 19 #[.pointer (some ⟨b, 0, none⟩)] w fun r w' => InsPost b s (insOut (nmOK (s.extract (a + 2) e1).data.toList) (xmlB (s.extract (a + 2) e1)) y (isSp (bt s e1)) e1 e2) w r w' := by
  have HT : Hid (Lib.Utf8Tabs 0 1 w) := hT
  have HA : Hid (Folds w) := hA
  have HE1 : Hid (Stops (nstep s (a + 2)) s.size (a + 2) e1) := hE1
  have HE2 : Hid (0 ≤ y → Stops (cstep (s.extract e1 (e1 + y.toNat))) y.toNat 0 e2 ∧ e2 ≤ y.toNat) := hE2
  have HY : Hid (Lib.index (s.extract e1 s.size).data.toList [63, 62] = y) := hy
  have HP : Hid (Prs b s a w) := hP
  obtain ⟨h0, h1, h2, h3⟩ := hP
  clear hT hA hE1 hE2 hy
  have haI : (a : Int) + 2 ≤ (s.size : Int) := by omega
  go_enter Tryf.func19, Tryf.ntmps19
  go_wp2_with fail
  have hP0 : Prs b s (a + 2) (w.setCell ⟨b, 1, none⟩ (.int .i64 ((a : Int) + 2))) := prs_set HP.out 2
  have hB0 : Below b w (w.setCell ⟨b, 1, none⟩ (.int .i64 ((a : Int) + 2))) := (Below.refl b w).setCell (p := ⟨b, 1, none⟩) (Nat.le_refl _) _
  refine (name_any b s (a + 2) e1 m _ hP0 hs (tabs_below b (by omega) hB0 HT.out) (by rw [hB0.cell (p := ⟨5, 0, none⟩) (by show 5 < b; omega)]; exact hm) hb HE1.out hae hes).mono ?_
  rintro r w1 ⟨hP1, hB1, hr⟩
  have hB01 : Below b w w1 := hB0.trans hB1
  have HB1 : Hid (Below b w w1) := hB01
  have HP1 : Hid (Prs b s e1 w1) := hP1
  clear hP0 hB0 hB1 hB01
  obtain ⟨k0, k1, k2, k3⟩ := hP1
  rcases hr with ⟨hok, rfl⟩ | ⟨hok, q, rfl, hq, hbq⟩
  · have hXs : (s.extract (a + 2) e1).size ≤ 4194304 := by simp; omega
    have HOK : Hid (nmOK (s.extract (a + 2) e1).data.toList = true) := hok
    clear hok
    go_wp2_with fail
    refine (equalFold_xml (s.extract (a + 2) e1) ⟨#[120, 109, 108]⟩ _ hXs rfl rfl rfl rfl (tabs_below b (by omega) HB1.out HT.out) (folds_below b (by omega) HB1.out HA.out)).mono ?_
    rintro r w2 ⟨rfl, hB2⟩
    have hP2 := HP1.out.below (hB2.mono k3)
    have hB02 : Below b w w2 := HB1.out.trans (hB2.mono (Nat.le_of_lt k3))
    have HP2 : Hid (Prs b s e1 w2) := hP2
    have HB2 : Hid (Below b w w2) := hB02
    clear hB2 hB02 HP1 HB1 k0 k1 k2 k3
    obtain ⟨k0, k1, k2, k3⟩ := hP2
    cases hxm : xmlB (s.extract (a + 2) e1) with
    | true =>
      have HO : Hid (insOut (nmOK (s.extract (a + 2) e1).data.toList) (xmlB (s.extract (a + 2) e1)) y (isSp (bt s e1)) e1 e2 = (e1, false)) := by show _ = _; unfold insOut; rw [if_pos (Or.inr (Or.inl hxm))]
      go_wp2_with fail
      refine (fail_none b s e1 _ _ k0 k1 hes hs fmtE).mono ?_
      rintro r w3 ⟨t, rfl, rfl⟩
      go_wp2
      go_ret
      exact InsPost.bad HO.out (fail_below HB2.out k3 _) (Prs.alloc HP2.out _) rfl (new0 _ _ _ _) k3
    | false =>
      have HXM : Hid (xmlB (s.extract (a + 2) e1) = false) := hxm
      have hesI : (e1 : Int) ≤ (s.size : Int) := by omega
      have hm2 : w2.cell? ⟨5, 0, none⟩ = some (.int .i64 m) := by rw [HB2.out.cell (p := ⟨5, 0, none⟩) (by show 5 < b; omega)]; exact hm
      have hxsz : (s.extract e1 s.size).size < 4294967281 := by simp; omega
      have cI : ∀ W, W.heap = w2.heap → Calls Tryf.prog 33 #[.string (s.extract e1 s.size), .string ⟨#[63, 62]⟩] W fun r w' => r = .returned (.int .i64 y) ∧ w' = W := fun W hW => by
        have := Tryf.strings_Index (s.extract e1 s.size) ⟨#[63, 62]⟩ m W hxsz (by unfold World.cell? at hm2 ⊢; rw [hW]; exact hm2)
        rw [show (⟨#[63, 62]⟩ : ByteArray).data.toList = [63, 62] from rfl, HY.out] at this
        exact this
      have HI : Hid (∀ W, W.heap = w2.heap → Calls Tryf.prog 33 #[.string (s.extract e1 s.size), .string ⟨#[63, 62]⟩] W fun r w' => r = .returned (.int .i64 y) ∧ w' = W) := cI
      clear cI hm2 hxsz
      by_cases hy0 : y < 0
      · have HO : Hid (insOut (nmOK (s.extract (a + 2) e1).data.toList) (xmlB (s.extract (a + 2) e1)) y (isSp (bt s e1)) e1 e2 = (e1, false)) := by show _ = _; unfold insOut; rw [if_pos (Or.inr (Or.inr (Or.inl hy0)))]
        go_wp2_with fail
        go_region_held3 (fun w' => w'.cell? ⟨b, 0, none⟩ = some (.string s) ∧ w'.cell? ⟨b, 1, none⟩ = some (.int .i64 e1)) (go_keep) ((go_at_call 33; refine (HI.out _ (by rfl)).mono ?_; rintro e w' ⟨rfl, rfl⟩))
        go_wp2_with fail
        refine (fail_none b s e1 _ _ ?_ ?_ hes hs fmtF).mono ?_
        · exact k0
        · exact k1
        rintro r w3 ⟨t, rfl, rfl⟩
        go_wp2
        go_ret
        exact InsPost.bad HO.out (fail_below HB2.out.drew k3 _) (Prs.alloc HP2.out _) rfl (new0 _ _ _ _) k3
      · obtain ⟨n, rfl⟩ : ∃ n : Nat, y = (n : Int) := ⟨y.toNat, by omega⟩
        have hyl' := hyl (by omega)
        have hE2' := HE2.out (by omega)
        rw [Int.toNat_natCast] at hE2'
        have HE2' : Hid (Stops (cstep (s.extract e1 (e1 + n))) n 0 e2 ∧ e2 ≤ n) := hE2'
        clear hE2' HE2 hyl
        have hgb := get_bt s
        by_cases hsp : 0 < n ∧ isSp (bt s e1) = false
        · as_aux_lemma =>
            obtain ⟨hpos, hsp⟩ := hsp
            have HO : Hid (insOut (nmOK (s.extract (a + 2) e1).data.toList) (xmlB (s.extract (a + 2) e1)) (n : Int) (isSp (bt s e1)) e1 e2 = (e1, false)) := by show _ = _; unfold insOut; rw [if_pos (Or.inr (Or.inr (Or.inr ⟨by omega, hsp⟩)))]
            have helt : (e1 : Int) < (s.size : Int) := by omega
            have helt' : e1 < s.size := by omega
            go_wp2_with fail
            go_region_held3 (fun w' => w'.cell? ⟨b, 0, none⟩ = some (.string s) ∧ w'.cell? ⟨b, 1, none⟩ = some (.int .i64 e1)) (go_keep) ((go_at_call 33; refine (HI.out _ (by rfl)).mono ?_; rintro e w' ⟨rfl, rfl⟩))
            go_wp2_with fail
            go_region_held3 (fun w' => w'.cell? ⟨b, 0, none⟩ = some (.string s) ∧ w'.cell? ⟨b, 1, none⟩ = some (.int .i64 e1)) (go_keep) ((go_at_call 34; refine (isSpace_any _ _).mono ?_; rintro e w' ⟨rfl, rfl⟩))
            go_wp2_with fail
            refine (fail_str b s e1 _ (s.extract (a + 2) e1) ⟨w2.heap.size, 0, none⟩ 1 _ ?_ ?_ hes hs fmtG ?_).mono ?_
            · exact (Prs.alloc HP2.out _).1
            · exact (Prs.alloc HP2.out _).2.1
            · exact World.cell?_alloc_at _ _ _ _ rfl
            rintro r w3 ⟨t, rfl, rfl⟩
            go_wp2
            go_ret
            exact InsPost.bad HO.out (fail_below2 HB2.out.drew.drew k3 _ _) (Prs.alloc (Prs.alloc HP2.out _) _) rfl (new1 _ _ _ _ _) (Nat.lt_succ_of_lt k3)
        · have hsp' : n = 0 ∨ (0 < n ∧ isSp (bt s e1) = true) := by
            by_cases h : n = 0
            · exact Or.inl h
            · right
              refine ⟨by omega, ?_⟩
              cases hq : isSp (bt s e1)
              · exact absurd ⟨by omega, hq⟩ hsp
              · rfl
          have hO : insOut (nmOK (s.extract (a + 2) e1).data.toList) (xmlB (s.extract (a + 2) e1)) (n : Int) (isSp (bt s e1)) e1 e2 = if e2 < n then (e1 + e2, false) else (e1 + n + 2, true) := by
            unfold insOut
            rw [if_neg, Int.toNat_natCast]
            · by_cases h : e2 < n
              · rw [if_pos (by omega), if_pos h]
              · rw [if_neg (by omega), if_neg h]
            · rintro (h | h | h | ⟨h, h'⟩)
              · rw [HOK.out] at h; cases h
              · rw [HXM.out] at h; cases h
              · omega
              · exact hsp ⟨by omega, h'⟩
          have HO : Hid (insOut (nmOK (s.extract (a + 2) e1).data.toList) (xmlB (s.extract (a + 2) e1)) (n : Int) (isSp (bt s e1)) e1 e2 = if e2 < n then (e1 + e2, false) else (e1 + n + 2, true)) := hO
          have hxt : (s.extract e1 (e1 + n)).size = n := by simp; omega
          obtain ⟨N, hN⟩ : ∃ N, e1 + n = N := ⟨_, rfl⟩
          have hNI : (e1 : Int) + (n : Int) = (N : Int) := by omega
          have hNW : IntKind.i64.wrap (N : Int) = (N : Int) := IntWalk.i64_in _ ⟨by omega, by omega⟩
          have hNJ : (e1 : Int) ≤ (N : Int) := by omega
          have hNK : (N : Int) ≤ (s.size : Int) := by omega
          have hNL : e1 ≤ N := by omega
          have hNM : N ≤ s.size := by omega
          have cDc : ∀ W, W.heap = w2.heap → Calls Tryf.prog 35 #[.pointer (some ⟨b, 0, none⟩), .string (s.extract e1 (e1 + n)), .bool false] W fun r w' => DecPost b s e1 n e2 W r w' := fun W hW => by
            have hPW : Prs b s e1 W := by have := HP2.out; unfold Prs World.cell? World.frozen? at this ⊢; rw [hW]; exact this
            have hTW : Lib.Utf8Tabs 0 1 W := by
              have := tabs_below b (by omega) HB2.out HT.out
              unfold Lib.Utf8Tabs World.cell? at this ⊢; rw [hW]; exact this
            have := decode_any b s (s.extract e1 (e1 + n)) e1 e2 W hPW hs (by rw [hxt]; omega) hTW hb (by rw [hxt]; exact HE2'.out.1) (by rw [hxt]; exact HE2'.out.2)
            rw [hxt] at this
            exact this
          have HDc : Hid (∀ W, W.heap = w2.heap → Calls Tryf.prog 35 #[.pointer (some ⟨b, 0, none⟩), .string (s.extract e1 (e1 + n)), .bool false] W fun r w' => DecPost b s e1 n e2 W r w') := cDc
          rw [hN] at HDc
          clear cDc hO hsp hxt hN
          rcases hsp' with hn0 | ⟨hn0, hsp⟩
          · as_aux_lemma =>
              have hd0 : decide (0 < (n : Int)) = false := by simp; omega
              have hd1 : decide (0 < n) = false := by simp; omega
              have he2 : ¬ e2 < n := by omega
              clear hn0
              go_wp2_with fail
              go_region_held3 (fun w' => w'.cell? ⟨b, 0, none⟩ = some (.string s) ∧ w'.cell? ⟨b, 1, none⟩ = some (.int .i64 e1)) (go_keep) ((go_at_call 33; refine (HI.out _ (by rfl)).mono ?_; rintro e w' ⟨rfl, rfl⟩))
              go_wp2_with fail
              go_quiet (fail)
              go_wp2_with fail
              go_region_held3 (fun w' => w'.cell? ⟨b, 0, none⟩ = some (.string s) ∧ w'.cell? ⟨b, 1, none⟩ = some (.int .i64 e1)) (first | go_keep | (exact ⟨hP3.1, hP3.2.1⟩)) ((go_at_call 35; refine (HDc.out _ (by rfl)).mono ?_; intro e w3 hd; obtain ⟨u, rfl, hB3, hP3⟩ := hd.yes he2))
              have HP3 : Hid (Prs b s e1 w3) := hP3
              obtain ⟨q0, q1, q2, q3⟩ := hP3
              go_wp2
              go_ret
              refine InsPost.good (HO.out.trans (if_neg he2)) rfl ?_ ?_ HP3.out
              · omega
              · refine Below.trans ?_ hB3; exact ⟨HB2.out.os, HB2.out.tape, HB2.out.output, HB2.out.size, HB2.out.block⟩
          · have hd0 : decide (0 < (n : Int)) = true := by simp; omega
            have hd1 : decide (0 < n) = true := by simp; omega
            have helt : (e1 : Int) < (s.size : Int) := by omega
            have helt' : e1 < s.size := by omega
            by_cases he2 : e2 < n
            · go_wp2_with fail
              go_region_held3 (fun w' => w'.cell? ⟨b, 0, none⟩ = some (.string s) ∧ w'.cell? ⟨b, 1, none⟩ = some (.int .i64 e1)) (go_keep) ((go_at_call 33; refine (HI.out _ (by rfl)).mono ?_; rintro e w' ⟨rfl, rfl⟩))
              go_wp2_with fail
              go_region_held3 (fun w' => w'.cell? ⟨b, 0, none⟩ = some (.string s) ∧ w'.cell? ⟨b, 1, none⟩ = some (.int .i64 e1)) (go_keep) ((go_at_call 34; refine (isSpace_any _ _).mono ?_; rintro e w' ⟨rfl, rfl⟩))
              go_wp2_with fail
              have HO' := HO.out.trans (if_pos he2)
              clear hs ha hm hae HT HA HE1 HY HP h0 h1 h2 h3 haI hXs HOK hxm HXM hym HI hgb HE2' hsp hd0 hd1 helt helt' hn0
              have HO'' : Hid (insOut (nmOK (s.extract (a + 2) e1).data.toList) (xmlB (s.extract (a + 2) e1)) (n : Int) (isSp (bt s e1)) e1 e2 = (e1 + e2, false)) := HO'
              clear HO'
              clear HO
              go_cut [6, 7] (fun _ v7 wc => ∃ q, v7 = .iface 51 (.pointer (some ⟨q, 0, none⟩)) ∧ Below b w2 wc ∧ Prs b s (e1 + e2) wc ∧ wc.cell? ⟨q, 0, none⟩ = some (.int .i64 (lineAt s (e1 + e2))) ∧ b < q)
              case first =>
                rename_i J K' hJ hK'
                go_region_with (go_at_call 35; refine (HDc.out _ (by rfl)).mono ?_; intro e w3 hd; obtain ⟨q, rfl, hB3, hP3, hq3, hbq3⟩ := hd.no he2)
                all_goals
                  refine hK' _ _ (Met.intro (hJ _ _ ?_))
                  simp only [List.getElem_toArray, List.getElem_cons_zero, List.getElem_cons_succ]
                  simp only [Act.put, List.setIfInBounds_toArray, List.set_cons_zero, List.set_cons_succ]
                  repeat apply Exists.intro
                  refine ⟨⟨q, ?_, ?_, hP3, hq3, hbq3⟩, rfl⟩
                  · rfl
                  · exact ⟨hB3.os, hB3.tape, hB3.output, hB3.size, hB3.block⟩
              case rest =>
                obtain ⟨q, rfl, hB3, hP3, hq3, hbq3⟩ := hcut
                have HB3 : Hid (Below b w2 wc) := hB3
                have HP3 : Hid (Prs b s (e1 + e2) wc) := hP3
                clear hB3 hP3
                go_wp2
                go_ret
                exact InsPost.bad HO''.out (HB2.out.trans HB3.out) HP3.out rfl hq3 hbq3
            · as_aux_lemma =>
                go_wp2_with fail
                go_region_held3 (fun w' => w'.cell? ⟨b, 0, none⟩ = some (.string s) ∧ w'.cell? ⟨b, 1, none⟩ = some (.int .i64 e1)) (go_keep) ((go_at_call 33; refine (HI.out _ (by rfl)).mono ?_; rintro e w' ⟨rfl, rfl⟩))
                go_wp2_with fail
                go_region_held3 (fun w' => w'.cell? ⟨b, 0, none⟩ = some (.string s) ∧ w'.cell? ⟨b, 1, none⟩ = some (.int .i64 e1)) (go_keep) ((go_at_call 34; refine (isSpace_any _ _).mono ?_; rintro e w' ⟨rfl, rfl⟩))
                go_wp2_with fail
                go_region_held3 (fun w' => w'.cell? ⟨b, 0, none⟩ = some (.string s) ∧ w'.cell? ⟨b, 1, none⟩ = some (.int .i64 e1)) (first | go_keep | (exact ⟨hP3.1, hP3.2.1⟩)) ((go_at_call 35; refine (HDc.out _ (by rfl)).mono ?_; intro e w3 hd; obtain ⟨u, rfl, hB3, hP3⟩ := hd.yes he2))
                have HP3 : Hid (Prs b s e1 w3) := hP3
                obtain ⟨q0, q1, q2, q3⟩ := hP3
                go_wp2
                go_ret
                refine InsPost.good (HO.out.trans (if_neg he2)) rfl ?_ ?_ HP3.out
                · omega
                · refine Below.trans ?_ hB3; exact ⟨HB2.out.os, HB2.out.tape, HB2.out.output, HB2.out.size, HB2.out.block⟩
  · have HO : Hid (insOut (nmOK (s.extract (a + 2) e1).data.toList) (xmlB (s.extract (a + 2) e1)) y (isSp (bt s e1)) e1 e2 = (e1, false)) := by show _ = _; unfold insOut; rw [if_pos (Or.inl hok)]
    clear hok
    go_wp2
    go_ret
    exact InsPost.bad HO.out HB1.out HP1.out rfl hq hbq
end Go.Proofs.Qxb6606017aFmt
