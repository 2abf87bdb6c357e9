import Derived.Test.Qxb6606017aFmtName
namespace Go.Proofs.Qxb6606017aFmt
open Go.RowKit Go.PlainAid
open Go.Extern.Stop Go.Stop Go.Extern

set_option maxRecDepth 8000 in
set_option maxHeartbeats 1000000 in
theorem zzNameAt_any (s : ByteArray) (a e : Nat) (m : Int) (w : World) (hs : s.size ≤ 4194304) (hT : Lib.Utf8Tabs 0 1 w) (hm : w.cell? ⟨5, 0, none⟩ = some (.int .i64 m))
    (hE : Stops (nstep s a) s.size a e) (hae : a ≤ e) (hes : e ≤ s.size) :
    Calls Tryf.prog 6 #[.string s, .int .i64 a] w fun r w' => Below w.heap.size w w' ∧
      ((nmOK (s.extract a e).data.toList = true ∧ r = .returned (.tuple #[.string (s.extract a e), .bool true, .int .i64 e])) ∨
       (nmOK (s.extract a e).data.toList = false ∧ r = .returned (.tuple #[.string ⟨#[]⟩, .bool false, .int .i64 e]))) := by
  have h6 : 6 ≤ w.heap.size := by
    rcases Nat.lt_or_ge 5 w.heap.size with h | h
    · omega
    · simp [World.cell?, Array.getElem?_eq_none h] at hm
  have HE : Hid (Stops (nstep s a) s.size a e) := hE
  have HT : Hid (Lib.Utf8Tabs 0 1 w) := hT
  clear hE hT
  go_enter Tryf.func6, Tryf.ntmps6
  go_wp2_with fail
  refine (name_any w.heap.size s a e m _ ⟨?_, ?_, ?_, ?_⟩ hs ?_ ?_ h6 HE.out hae hes).mono ?_
  · simp
  · simp
  · simp
  · simp
  · exact tabs_below w.heap.size (by omega) ((Below.refl _ _).alloc (Nat.le_refl _) _) HT.out
  · rw [World.cell?_alloc_lt _ _ _ (by show 5 < w.heap.size; omega)]; exact hm
  rintro r w1 ⟨⟨q0, q1, q2, q3⟩, hb1, hr⟩
  have hbw : Below w.heap.size w w1 := ((Below.refl _ _).alloc (Nat.le_refl _) _).trans hb1
  have HB : Hid (Below w.heap.size w w1) := hbw
  clear hb1 hbw
  rcases hr with ⟨hok, rfl⟩ | ⟨hok, q, rfl, hq, hbq⟩
  · have HO : Hid (nmOK (s.extract a e).data.toList = true) := hok
    clear hok
    go_wp2_with fail
    go_region_held3 (fun w' => w'.cell? ⟨w.heap.size, 1, none⟩ = some (.int .i64 e)) (go_keep) (fail)
    go_wp2
    go_ret3
    exact ⟨HB.out.drew, Or.inl ⟨HO.out, rfl⟩⟩
  · have HO : Hid (nmOK (s.extract a e).data.toList = false) := hok
    clear hok
    go_wp2_with fail
    go_region_held3 (fun w' => w'.cell? ⟨w.heap.size, 1, none⟩ = some (.int .i64 e)) (go_keep) (fail)
    go_wp2
    go_ret3
    exact ⟨HB.out.drew, Or.inr ⟨HO.out, rfl⟩⟩

theorem src_eq (x : UInt8) : ((⟨#[120]⟩ : ByteArray) ++ ⟨#[x]⟩ ++ ⟨#[120]⟩) = ⟨#[120, x, 120]⟩ := rfl
def chk (x : UInt8) : Bool :=
  nstep ⟨#[120, x, 120]⟩ 0 0 == some 1 &&
  (if ascNm (x.toNat : Int) then nstep ⟨#[120, x, 120]⟩ 0 1 == some 1 && nstep ⟨#[120, x, 120]⟩ 0 2 == some 1 && nmOK [120, x, 120]
   else nstep ⟨#[120, x, 120]⟩ 0 1 == none)
theorem chk_all : (List.range 128).all (fun n => chk (UInt8.ofNat n)) = true := by decide +kernel
theorem chk_one : nmOK [120] = true := by decide +kernel
theorem ext_one (x : UInt8) : (⟨#[120, x, 120]⟩ : ByteArray).extract 0 1 = ⟨#[120]⟩ := rfl
theorem ext_all (x : UInt8) : (⟨#[120, x, 120]⟩ : ByteArray).extract 0 3 = ⟨#[120, x, 120]⟩ := rfl
theorem chk_of (x : UInt8) (h : (x.toNat : Int) < 128) : chk x = true := by
  have := List.all_eq_true.1 chk_all x.toNat (List.mem_range.2 (by omega))
  simpa using this
theorem stops_yes (x : UInt8) (h : (x.toNat : Int) < 128) (ha : ascNm (x.toNat : Int) = true) : Stops (nstep ⟨#[120, x, 120]⟩ 0) 3 0 3 ∧ nmOK [120, x, 120] = true := by
  have := chk_of x h
  unfold chk at this
  rw [if_pos ha] at this
  simp only [Bool.and_eq_true, beq_iff_eq] at this
  obtain ⟨a0, ⟨a1, a2⟩, a3⟩ := this
  exact ⟨⟨⟨3, by simp [steps, a0, a1, a2]⟩, Or.inl (Nat.le_refl _)⟩, a3⟩
theorem stops_no (x : UInt8) (h : (x.toNat : Int) < 128) (ha : ascNm (x.toNat : Int) = false) : Stops (nstep ⟨#[120, x, 120]⟩ 0) 3 0 1 := by
  have := chk_of x h
  unfold chk at this
  rw [if_neg (by simp [ha])] at this
  simp only [Bool.and_eq_true, beq_iff_eq] at this
  exact ⟨⟨1, by simp [steps, this.1]⟩, Or.inr this.2⟩

set_option maxRecDepth 8000 in
set_option maxHeartbeats 1000000 in
theorem law_low (x : UInt8) (m : Int) (w : World) (h1 : (x.toNat : Int) < 128) (hT : Lib.Utf8Tabs 0 1 w) (hm : w.cell? ⟨5, 0, none⟩ = some (.int .i64 m)) :
    Calls Tryf.prog 3 #[.int .u8 (x.toNat : Int)] w fun r w' => Below w.heap.size w w' ∧ r = .returned (.bool true) := by
  have HT : Hid (Lib.Utf8Tabs 0 1 w) := hT
  clear hT
  have hcv : (convert 22 9 (.slice (some ⟨w.heap.size, 0, none⟩) 1 1)).run Tryf.prog (w.alloc (.cells #[.int .u8 (x.toNat : Int)] 5)) = .ok (.string ⟨#[x]⟩) (w.alloc (.cells #[.int .u8 (x.toNat : Int)] 5)) :=
    run_convert_bytes_back _ 22 9 5 ⟨w.heap.size, 0, none⟩ 1 [x] Tryf.underlying22 Tryf.underlying5 Tryf.underlying9 (fun j hj => by
      obtain rfl : j = 0 := by simp at hj; omega
      simp [Addr.add])
  go_enter Tryf.func3, Tryf.ntmps3
  go_wp2_with fail
  rw [src_eq]
  have hT1 : Lib.Utf8Tabs 0 1 (w.alloc (.cells #[.int .u8 (x.toNat : Int)] 5)) := by
    refine tabs_below w.heap.size ?_ ((Below.refl _ _).alloc (Nat.le_refl _) _) HT.out
    rcases Nat.lt_or_ge 5 w.heap.size with h | h
    · omega
    · simp [World.cell?, Array.getElem?_eq_none h] at hm
  have hm1 : (w.alloc (.cells #[.int .u8 (x.toNat : Int)] 5)).cell? ⟨5, 0, none⟩ = some (.int .i64 m) := by
    rcases Nat.lt_or_ge 5 w.heap.size with h | h
    · rw [World.cell?_alloc_lt _ _ _ h]; exact hm
    · simp [World.cell?, Array.getElem?_eq_none h] at hm
  cases ha : ascNm (x.toNat : Int) with
  | true =>
    obtain ⟨hst, hok⟩ := stops_yes x h1 ha
    refine (zzNameAt_any ⟨#[120, x, 120]⟩ 0 3 m _ (by show 3 ≤ 4194304; omega) hT1 hm1 hst (by omega) (Nat.le_refl _)).mono ?_
    rintro r w1 ⟨hb1, hr⟩
    have hB : Below w.heap.size w w1 := ((Below.refl _ _).alloc (Nat.le_refl _) _).trans (hb1.mono (by simp))
    rcases hr with ⟨_, rfl⟩ | ⟨hno, _⟩
    · rw [ext_all]
      clear hT1 hm1 hst hok hb1 hcv
      go_wp2_with (go_at_call 7; refine (zzIsASCIINameChar_any _ _).mono ?_; rintro e w' ⟨rfl, rfl⟩)
      go_ret
      exact ⟨hB, rfl⟩
    · rw [ext_all] at hno
      exact absurd (hok.symm.trans hno) (by simp)
  | false =>
    have hst := stops_no x h1 ha
    refine (zzNameAt_any ⟨#[120, x, 120]⟩ 0 1 m _ (by show 3 ≤ 4194304; omega) hT1 hm1 hst (by omega) (by show 1 ≤ 3; omega)).mono ?_
    rintro r w1 ⟨hb1, hr⟩
    have hB : Below w.heap.size w w1 := ((Below.refl _ _).alloc (Nat.le_refl _) _).trans (hb1.mono (by simp))
    rcases hr with ⟨_, rfl⟩ | ⟨hno, _⟩
    · rw [ext_one]
      clear hT1 hm1 hst hb1 hcv
      go_wp2_with (go_at_call 7; refine (zzIsASCIINameChar_any _ _).mono ?_; rintro e w' ⟨rfl, rfl⟩)
      go_ret
      exact ⟨hB, rfl⟩
    · rw [ext_one] at hno
      exact absurd (chk_one.symm.trans hno) (by simp)

set_option maxHeartbeats 1000000 in
theorem law_high (c : Int) (w : World) (h1 : 128 ≤ c) :
    Calls Tryf.prog 3 #[.int .u8 c] w fun r w' => Below w.heap.size w w' ∧ r = .returned (.bool true) := by
  go_enter Tryf.func3, Tryf.ntmps3
  go_wp2
  go_ret
  exact ⟨Below.refl _ _, rfl⟩

/-- THE LAW, every byte. -/
theorem law_name (c : Int) (m : Int) (w : World) (h0 : 0 ≤ c) (h1 : c ≤ 255) (hT : Lib.Utf8Tabs 0 1 w) (hm : w.cell? ⟨5, 0, none⟩ = some (.int .i64 m)) :
    Calls Tryf.prog 3 #[.int .u8 c] w fun r w' => Below w.heap.size w w' ∧ r = .returned (.bool true) := by
  by_cases h : c < 128
  · obtain ⟨x, hx⟩ : ∃ x : UInt8, (x.toNat : Int) = c := ⟨UInt8.ofNat c.toNat, by simp; omega⟩
    subst hx
    exact law_low x m w h hT hm
  · exact law_high c w (by omega)
end Go.Proofs.Qxb6606017aFmt
