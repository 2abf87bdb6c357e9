import Derived.Test.Qxb6606017aFmtName
import Derived.Test.Qxb6606017aFmtBuf
import Derived.Test.Qxb6606017aFmtDecB
namespace Go.Proofs.Qxb6606017aFmt
open Go.RowKit Go.PlainAid
open Go.Extern.Stop Go.Stop Go.Extern

theorem fmtC : FmtStop.printed? ⟨#[97, 32, 98, 121, 116, 101, 32, 111, 114, 32, 99, 104, 97, 114, 97, 99, 116, 101, 114, 32, 88, 77, 76, 32, 100, 111, 101, 115, 32, 110, 111, 116, 32, 97, 108, 108, 111, 119]⟩ 0 = some [] := by kernel_rfl
theorem fmtD : FmtStop.printed? ⟨#[99, 111, 110, 116, 114, 111, 108, 32, 99, 104, 97, 114, 97, 99, 116, 101, 114, 32, 37, 35, 48, 50, 120]⟩ 1 = some [(0, 120, true)] := by kernel_rfl

/-- What decode leaves: all was read; or an error at place e. -/
def DecPost (b : Nat) (s : ByteArray) (p n e : Nat) (w : World) (r : Ending) (w' : World) : Prop :=
  Below b w w' ∧
   ((e = n ∧ Prs b s p w' ∧ ∃ u, r = .returned (.tuple #[.string u, .nilIface])) ∨
    (e < n ∧ Prs b s (p + e) w' ∧ ∃ q, r = .returned (.tuple #[.string ⟨#[]⟩, .iface 51 (.pointer (some ⟨q, 0, none⟩))]) ∧ w'.cell? ⟨q, 0, none⟩ = some (.int .i64 (lineAt s (p + e))) ∧ b < q))

/-- The loop's relation at place i. -/
def DecRel (b : Nat) (s : ByteArray) (p : Nat) (t : ByteArray) (w : World) (v : Value) (i : Nat) (wr : World) : Prop :=
  i ≤ t.size ∧ (∃ n, steps (cstep t) t.size 0 n = some i) ∧ Prs b s p wr ∧ Below b w wr ∧ ∃ n, n ≤ i ∧ Buf b v n wr

theorem DecRel.next {b : Nat} {s : ByteArray} {p : Nat} {t : ByteArray} {w wr w3 : World} {v : Value} {i n nb : Nat} (hi : i ≤ t.size) (hst : steps (cstep t) t.size 0 n = some i) (hP : Prs b s p wr) (hw : Below b w wr) (hb : Below (b + 1) wr w3) (hnb : nb ≤ i) (hbuf : Buf b v nb w3) :
    DecRel b s p t w v i w3 := ⟨hi, ⟨n, hst⟩, hP.below hb, hw.trans (hb.mono (Nat.le_succ _)), nb, hnb, hbuf⟩
theorem DecPost.bad {b : Nat} {s : ByteArray} {p n e : Nat} {w wr W : World} {r : Ending} {q : Nat} (he : e < n) (hP : Prs b s p wr) (hw : Below b w wr)
    (hW : Below (b + 1) (wr.setCell ⟨b, 1, none⟩ (.int .i64 ((p : Int) + (e : Int)))) W) (hr : r = .returned (.tuple #[.string ⟨#[]⟩, .iface 51 (.pointer (some ⟨q, 0, none⟩))])) (hq : W.cell? ⟨q, 0, none⟩ = some (.int .i64 (lineAt s (p + e)))) (hbq : b < q) :
    DecPost b s p n e w r W := by
  have h1 := hP.set (p + e)
  rw [Int.natCast_add] at h1
  exact ⟨(hw.setCell (Nat.le_refl _) _).trans (hW.mono (Nat.le_succ _)), Or.inr ⟨he, h1.below hW, q, hr, hq, hbq⟩⟩
theorem prs_set {b : Nat} {s : ByteArray} {p : Nat} {wr : World} (hP : Prs b s p wr) (e : Nat) : Prs b s (p + e) (wr.setCell ⟨b, 1, none⟩ (.int .i64 ((p : Int) + (e : Int)))) := by
  have h1 := hP.set (p + e)
  rw [Int.natCast_add] at h1
  exact h1

theorem set_size (w : World) (a : Addr) (v : Value) : (w.setCell a v).heap.size = w.heap.size := by simp
theorem below_one {b : Nat} {w : World} (h : b + 1 ≤ w.heap.size) (a : Addr) (v : Value) (o : Obj) : Below (b + 1) (w.setCell a v) ((w.setCell a v).alloc o).drew.drew :=
  ((Below.refl _ _).alloc (by rw [set_size]; exact h) o).drew.drew
theorem below_two {b : Nat} {w : World} (h : b + 1 ≤ w.heap.size) (a : Addr) (v : Value) (o o' : Obj) : Below (b + 1) (w.setCell a v) (((w.setCell a v).alloc o).alloc o').drew.drew :=
  (((Below.refl _ _).alloc (by rw [set_size]; exact h) o).alloc (by simp; omega) o').drew.drew
theorem new_set (w : World) (a : Addr) (v v0 v1 : Value) (t : TypeId) : (((w.setCell a v).alloc (.cells #[v0, v1] t)).drew.drew).cell? ⟨w.heap.size, 0, none⟩ = some v0 := by
  have := new0 (w.setCell a v) v0 v1 t
  rw [set_size] at this
  exact this
theorem new_set2 (w : World) (a : Addr) (v v0 v1 : Value) (o : Obj) (t : TypeId) : ((((w.setCell a v).alloc o).alloc (.cells #[v0, v1] t)).drew.drew).cell? ⟨w.heap.size + 1, 0, none⟩ = some v0 := by
  have := new1 (w.setCell a v) o v0 v1 t
  rw [set_size] at this
  exact this

set_option maxRecDepth 8000 in
set_option maxHeartbeats 4000000 in
theorem decode_any (b : Nat) (s t : ByteArray) (p e : Nat) (w : World) (hP : Prs b s p w) (hs : s.size ≤ 4194304) (hpt : p + t.size ≤ s.size) (hT : Lib.Utf8Tabs 0 1 w) (hb : 6 ≤ b)
    (hE : Stops (cstep t) t.size 0 e) (het : e ≤ t.size) :
    Calls Tryf.prog 35 #[.pointer (some ⟨b, 0, none⟩), .string t, .bool false] w fun r w' => DecPost b s p t.size e w r w' := by
  have HT : Hid (Lib.Utf8Tabs 0 1 w) := hT
  have HE : Hid (Stops (cstep t) t.size 0 e) := hE
  have HP : Hid (Prs b s p w) := hP
  clear hT hE hP
  have eN := fun w a n c => Lib.run_eql_slice_nil (P := Tryf.prog) w 22 5 a n c 0 0 Tryf.underlying22
  go_enter Tryf.func35, Tryf.ntmps35
  go_wp2_with fail
  go_loopg [8, 9] t.size (fun g v iv wr => ∃ i : Nat, g = t.size - i ∧ iv = .int .i64 i ∧ DecRel b s p t w v i wr)
  case atStart => exact ⟨0, rfl, rfl, Nat.zero_le _, ⟨0, rfl⟩, HP.out, Below.refl _ _, 0, Nat.le_refl _, buf_nil _ _⟩
  case round =>
    obtain ⟨i, hg, rfl, hit, ⟨n, hst⟩, hPr, hbw, nb, hnb, hbuf⟩ := hrel
    have HG : Hid (gk = t.size - i) := hg
    have HS : Hid (steps (cstep t) t.size 0 n = some i) := hst
    have HQ : Hid (Prs b s p wr) := hPr
    have HW : Hid (Below b w wr) := hbw
    have HU : Hid (Buf b u8 nb wr) := hbuf
    have hst' : ∀ (hd : t.size ≤ i ∨ cstep t i = none), i = e := fun hd => Stops.unique ⟨⟨n, hst⟩, hd⟩ HE.out
    have HST : Hid (∀ (hd : t.size ≤ i ∨ cstep t i = none), i = e) := hst'
    obtain ⟨k0, k1, k2, k3⟩ := hPr
    have hbz : b + 1 ≤ wr.heap.size := k3
    clear hg hst hbw hst'
    have hgb := get_bt t
    have hform := hbuf.form
    clear hbuf
    by_cases hlt : i < t.size
    · have hltI : (i : Int) < (t.size : Int) := by omega
      have b0 := bt_nonneg t i
      have b1 := bt_le t i
      by_cases hc : bt t i < 128
      · have hcs := cstep_asc t i hc
        by_cases h13 : bt t i = 13
        · rw [if_pos (by rw [h13]; decide)] at hcs
          have HN : Hid (cstep t i = some 1) := hcs
          have h13B : (bt t i == 13) = true := by simp [h13]
          have h38B : (bt t i == 38) = false := by simp [h13]
          have H13 : Hid (bt t i = 13) := h13
          clear hcs h13
          have hnext : ((i + 1 < t.size) ∧ (bt t (i + 1) == 10) = true ∧ Hid (steps (cstep t) t.size 0 (n + 2) = some (i + 2))) ∨ ((i + 1 < t.size) ∧ (bt t (i + 1) == 10) = false) ∨ ¬ (i + 1 < t.size) := by
            by_cases hn1 : i + 1 < t.size
            · cases hn2 : (bt t (i + 1) == 10)
              · exact Or.inr (Or.inl ⟨hn1, rfl⟩)
              · have hn3 : bt t (i + 1) = 10 := by simpa using hn2
                have := cstep_asc t (i + 1) (by omega)
                rw [hn3, if_pos (by decide)] at this
                have h2 : steps (cstep t) t.size 0 (n + 1 + 1) = some (i + 1 + 1) := steps_next (steps_next HS.out hlt HN.out) hn1 this
                exact Or.inl ⟨hn1, rfl, h2⟩
            · exact Or.inr (Or.inr hn1)
          rcases hform with ⟨hv, hn0⟩ | ⟨g, cap, hv, hbg, hgz⟩
          · as_aux_lemma =>
              subst hv
              obtain ⟨o, hmk, hb1⟩ := buf_make (b := b) (w := wr.drew) t.size (by omega) hbz
              have hz1 : b + 1 ≤ (wr.drew.alloc o).heap.size := by simp; omega
              obtain ⟨v2, w2, hap, hb2, hw2, _⟩ := buf_str (t.extract 0 i) hb1 hz1 (by simp; omega)
              have hxs : (t.extract 0 i).size = i := by simp; omega
              rw [hxs, Nat.zero_add] at hb2
              have HMK : (Instr.makeSlice 22 (.int .i64 0) (.int .i64 (t.size : Int))).run Tryf.prog wr.drew = .ok (.slice (some ⟨wr.heap.size, 0, none⟩) 0 t.size) (wr.alloc o).drew := hmk
              have HAP : Hid ((Builtin.append_ #[22, 9] 22 #[.slice (some ⟨wr.heap.size, 0, none⟩) 0 t.size, .string (t.extract 0 i)]).run Tryf.prog (wr.alloc o).drew = .ok v2 w2) := hap
              have hw02 : Below (b + 1) wr w2 := (((Below.refl _ _).drew).alloc hbz _).trans hw2
              have hz2 : b + 1 ≤ w2.heap.size := by have := hw02.size; omega
              obtain ⟨v3, w3, hap3, hb3, hw3⟩ := buf_byte 10 hb2 hz2 (by omega)
              have HA3 : Hid ((Builtin.append_ #[22, 22] 22 #[v2, .slice (some ⟨w2.heap.size, 0, none⟩) 1 1]).run Tryf.prog (w2.alloc (.cells #[.int .u8 10] 5)) = .ok v3 w3) := hap3
              have HB3 : Hid (Buf b v3 (i + 1) w3) := hb3
              have HW3 : Hid (Below (b + 1) wr w3) := hw02.trans hw3
              clear hmk hap hap3 hb1 hb2 hb3 hw2 hw3 hw02 hxs hz1
              rcases hnext with ⟨hn1, hn2B, HN2⟩ | ⟨hn1, hn2B⟩ | hn1
              all_goals
                go_wp2_with fail
                go_region_held3 (fun _ => True) (trivial) ((refine step_append_run (by rfl) _ _ _ _ (by rfl) _ _ _ _ (by rfl) (by rfl) HAP.out ?_))
                go_wp2_with (at_builtin; refine wpList_append_run (by rfl) _ _ _ _ (by rfl) _ _ _ _ (by rfl) (by rfl) HA3.out ?_)
              · go_roundg (t.size - (i + 2))
                case measure => have := HG.out; omega
                case rel => exact ⟨i + 2, rfl, by go_num, DecRel.next (by omega) HN2.out HQ.out HW.out HW3.out (by omega) HB3.out⟩
              · go_roundg (t.size - (i + 1))
                case measure => have := HG.out; omega
                case rel => exact ⟨i + 1, rfl, by go_num, DecRel.next (by omega) (steps_next HS.out hlt HN.out) HQ.out HW.out HW3.out (by omega) HB3.out⟩
              · go_roundg (t.size - (i + 1))
                case measure => have := HG.out; omega
                case rel => exact ⟨i + 1, rfl, by go_num, DecRel.next (by omega) (steps_next HS.out hlt HN.out) HQ.out HW.out HW3.out (by omega) HB3.out⟩
          · as_aux_lemma =>
              subst hv
              obtain ⟨v3, w3, hap3, hb3, hw3⟩ := buf_byte 10 HU.out hbz (by omega)
              have HA3 : Hid ((Builtin.append_ #[22, 22] 22 #[.slice (some ⟨g, 0, none⟩) nb cap, .slice (some ⟨wr.heap.size, 0, none⟩) 1 1]).run Tryf.prog (wr.alloc (.cells #[.int .u8 10] 5)) = .ok v3 w3) := hap3
              have HB3 : Hid (Buf b v3 (nb + 1) w3) := hb3
              have HW3 : Hid (Below (b + 1) wr w3) := hw3
              clear hap3 hb3 hw3
              rcases hnext with ⟨hn1, hn2B, HN2⟩ | ⟨hn1, hn2B⟩ | hn1
              all_goals
                go_wp2_with (at_builtin; refine wpList_append_run (by rfl) _ _ _ _ (by rfl) _ _ _ _ (by rfl) (by rfl) HA3.out ?_)
              · go_roundg (t.size - (i + 2))
                case measure => have := HG.out; omega
                case rel => exact ⟨i + 2, rfl, by go_num, DecRel.next (by omega) HN2.out HQ.out HW.out HW3.out (by omega) HB3.out⟩
              · go_roundg (t.size - (i + 1))
                case measure => have := HG.out; omega
                case rel => exact ⟨i + 1, rfl, by go_num, DecRel.next (by omega) (steps_next HS.out hlt HN.out) HQ.out HW.out HW3.out (by omega) HB3.out⟩
              · go_roundg (t.size - (i + 1))
                case measure => have := HG.out; omega
                case rel => exact ⟨i + 1, rfl, by go_num, DecRel.next (by omega) (steps_next HS.out hlt HN.out) HQ.out HW.out HW3.out (by omega) HB3.out⟩
        · have h13B : (bt t i == 13) = false := by simpa using h13
          by_cases hctl : bt t i < 32 ∧ bt t i ≠ 9 ∧ bt t i ≠ 10
          · as_aux_lemma =>
              rw [if_neg (by simp [xAny]; omega)] at hcs
              obtain rfl := HST.out (Or.inr hcs)
              obtain ⟨hl1, hl2, hl3⟩ := hctl
              have h9B : (bt t i != 9) = true := by simpa using hl2
              have h10B : (bt t i != 10) = true := by simpa using hl3
              have h38B : (bt t i == 38) = false := by simp; omega
              have hpi : (p : Int) + (i : Int) ≤ 4194304 := by omega
              clear hcs h13 hl2 hl3 hform
              go_wp2_with fail
              have hPa := Prs.alloc (prs_set HQ.out i) (.cells #[.iface 5 (.int .u8 (bt t i))] 20)
              refine (fail_byte b s (p + i) _ (bt t i) ⟨wr.heap.size, 0, none⟩ 1 _ ?_ ?_ (by omega) hs fmtD ?_).mono ?_
              · exact hPa.1
              · exact hPa.2.1
              · exact World.cell?_alloc_at _ _ _ _ (by simp)
              rintro r w1 ⟨tx, rfl, rfl⟩
              go_wp2
              go_ret2
              exact DecPost.bad (q := wr.heap.size + 1) hlt HQ.out HW.out (below_two hbz _ _ _ _) (by simp) (new_set2 _ _ _ _ _ _ _) (by omega)
          · rw [if_pos (by simp [xAny]; omega)] at hcs
            have HN : Hid (cstep t i = some 1) := hcs
            have hctl' : (32 ≤ bt t i ∧ (bt t i == 38) = true) ∨ (32 ≤ bt t i ∧ (bt t i == 38) = false) ∨ ((bt t i != 9) = false ∧ (bt t i == 38) = false) ∨ ((bt t i != 9) = true ∧ (bt t i != 10) = false ∧ (bt t i == 38) = false) := by
              by_cases h1 : 32 ≤ bt t i
              · cases h2 : (bt t i == 38)
                · exact Or.inr (Or.inl ⟨h1, rfl⟩)
                · exact Or.inl ⟨h1, rfl⟩
              · by_cases h2 : bt t i = 9
                · exact Or.inr (Or.inr (Or.inl ⟨by simpa using h2, by simp; omega⟩))
                · exact Or.inr (Or.inr (Or.inr ⟨by simpa using h2, by simp; omega, by simp; omega⟩))
            clear hcs h13 hctl
            rcases hform with ⟨hv, hn0⟩ | ⟨g, cap, hv, hbg, hgz⟩
            · as_aux_lemma =>
                subst hv
                rcases hctl' with ⟨hl, h38B⟩ | ⟨hl, h38B⟩ | ⟨hl, h38B⟩ | ⟨hl, hl', h38B⟩
                all_goals
                  go_wp2_with fail
                all_goals
                  go_roundg (t.size - (i + 1))
                  case measure => have := HG.out; omega
                  case rel => exact ⟨i + 1, rfl, by go_num, DecRel.next (by omega) (steps_next HS.out hlt HN.out) HQ.out HW.out (Below.refl _ _) (by omega) HU.out⟩
            · as_aux_lemma =>
                subst hv
                obtain ⟨v3, w3, hap3, hb3, hw3⟩ := buf_byte (bt t i) HU.out hbz (by omega)
                have HA3 : Hid ((Builtin.append_ #[22, 22] 22 #[.slice (some ⟨g, 0, none⟩) nb cap, .slice (some ⟨wr.heap.size, 0, none⟩) 1 1]).run Tryf.prog (wr.alloc (.cells #[.int .u8 (bt t i)] 5)) = .ok v3 w3) := hap3
                have HB3 : Hid (Buf b v3 (nb + 1) w3) := hb3
                have HW3 : Hid (Below (b + 1) wr w3) := hw3
                clear hap3 hb3 hw3
                rcases hctl' with ⟨hl, h38B⟩ | ⟨hl, h38B⟩ | ⟨hl, h38B⟩ | ⟨hl, hl', h38B⟩
                all_goals
                  go_wp2_with (at_builtin; refine wpList_append_run (by rfl) _ _ _ _ (by rfl) _ _ _ _ (by rfl) (by rfl) HA3.out ?_)
                all_goals
                  go_roundg (t.size - (i + 1))
                  case measure => have := HG.out; omega
                  case rel => exact ⟨i + 1, rfl, by go_num, DecRel.next (by omega) (steps_next HS.out hlt HN.out) HQ.out HW.out HW3.out (by omega) HB3.out⟩
      · obtain ⟨r, k, hdec, hk1, hk4, hik, hr, hway⟩ := high_text t i hlt hc
        have hT' : Lib.Utf8Tabs 0 1 wr := tabs_below b (by omega) HW.out HT.out
        have HD : Hid (Calls Tryf.prog 26 #[.string (t.extract i t.size)] wr fun e w' => e = .returned (.tuple #[.int .i32 r, .int .i64 k]) ∧ Below wr.heap.size wr w') := decodeAt t i r k wr hdec hT'
        clear hdec hT'
        have h13B : (bt t i == 13) = false := by simp; omega
        have h38B : (bt t i == 38) = false := by simp; omega
        have hcI : 128 ≤ bt t i := by omega
        have hrk : ((r : Int) == 65533) = true ∨ ((r : Int) == 65533) = false := by cases ((r : Int) == 65533) <;> simp
        have hkI : (k : Int) ≤ 4 := by omega
        have hikI : (i : Int) + (k : Int) ≤ (t.size : Int) := by omega
        have hpi : (p : Int) + (i : Int) ≤ 4194304 := by omega
        clear hc
        have fin : ∀ w1 : World, Below wr.heap.size wr w1 → Prs b s p w1 ∧ Below b w w1 ∧ Buf b u8 nb w1 ∧ b + 1 ≤ w1.heap.size := fun w1 hb1 =>
          ⟨HQ.out.below (hb1.mono hbz), HW.out.trans (hb1.mono (by omega)), HU.out.grown hb1, by have := hb1.size; omega⟩
        have HF : Hid (∀ w1 : World, Below wr.heap.size wr w1 → Prs b s p w1 ∧ Below b w w1 ∧ Buf b u8 nb w1 ∧ b + 1 ≤ w1.heap.size) := fin
        clear fin
        rcases hway with ⟨hk2, hch, hn⟩ | ⟨hr2, hk2, hn⟩ | ⟨hk2, hch, hn⟩
        · have HN : Hid (cstep t i = some k) := hn
          have hk1B : ((k : Int) == 1) = false := by simp; omega
          clear hn
          rcases hform with ⟨hv, hn0⟩ | ⟨g, cap, hv, hbg, hgz⟩
          · as_aux_lemma =>
              subst hv
              rcases hrk with hrk | hrk
              all_goals
                go_wp2_with fail
                refine HD.out.mono ?_
                rintro e w1 ⟨rfl, hb1⟩
                obtain ⟨hP1, hW1, hU1, hz1⟩ := HF.out w1 hb1
                clear hb1
                go_wp2_with (go_at_call 48; refine (isChar_any _ _).mono ?_; rintro e w' ⟨rfl, rfl⟩)
                go_roundg (t.size - (i + k))
                case measure => have := HG.out; omega
                case rel => exact ⟨i + k, rfl, by go_num, DecRel.next (by omega) (steps_next HS.out hlt HN.out) hP1 hW1 (Below.refl _ _) (by omega) hU1⟩
          · as_aux_lemma =>
              subst hv
              rcases hrk with hrk | hrk
              all_goals
                go_wp2_with fail
                refine HD.out.mono ?_
                rintro e w1 ⟨rfl, hb1⟩
                obtain ⟨hP1, hW1, hU1, hz1⟩ := HF.out w1 hb1
                clear hb1
                have hxs : (t.extract i (i + k)).size = k := by simp; omega
                obtain ⟨v3, w3, hap3, hb3, hw3, _⟩ := buf_str (t.extract i (i + k)) hU1 hz1 (by rw [hxs]; omega)
                have HA3 : Hid ((Builtin.append_ #[22, 9] 22 #[.slice (some ⟨g, 0, none⟩) nb cap, .string (t.extract i (i + k))]).run Tryf.prog w1 = .ok v3 w3) := hap3
                rw [hxs] at hb3
                have HB3 : Hid (Buf b v3 (nb + k) w3) := hb3
                have HW3 : Hid (Below (b + 1) w1 w3) := hw3
                clear hap3 hb3 hw3 hxs
                go_wp2_with (first | (go_at_call 48; refine (isChar_any _ _).mono ?_; rintro e w' ⟨rfl, rfl⟩) | (at_builtin; refine wpList_append_run (by rfl) _ _ _ _ (by rfl) _ _ _ _ (by rfl) (by rfl) HA3.out ?_))
                go_roundg (t.size - (i + k))
                case measure => have := HG.out; omega
                case rel => exact ⟨i + k, rfl, by go_num, DecRel.next (by omega) (steps_next HS.out hlt HN.out) hP1 hW1 HW3.out (by omega) HB3.out⟩
        · as_aux_lemma =>
            obtain rfl := HST.out (Or.inr hn)
            clear hn hform
            subst hr2 hk2
            go_wp2_with fail
            refine HD.out.mono ?_
            rintro e w1 ⟨rfl, hb1⟩
            obtain ⟨hP1, hW1, hU1, hz1⟩ := HF.out w1 hb1
            have HP1 : Hid (Prs b s p w1) := hP1
            obtain ⟨q0, q1, q2, q3⟩ := hP1
            clear hb1 hU1
            go_wp2_with fail
            have hPs := prs_set HP1.out i
            refine (fail_none b s (p + i) _ _ hPs.1 hPs.2.1 (by omega) hs fmtC).mono ?_
            rintro r w2 ⟨tx, rfl, rfl⟩
            go_wp2
            go_ret2
            exact DecPost.bad (q := w1.heap.size) hlt HP1.out hW1 (below_one hz1 _ _ _) (by simp) (new_set _ _ _ _ _ _) (by omega)
        · as_aux_lemma =>
            obtain rfl := HST.out (Or.inr hn)
            have hk1B : ((k : Int) == 1) = false := by simp; omega
            clear hn hform
            rcases hrk with hrk | hrk
            all_goals
              go_wp2_with fail
              refine HD.out.mono ?_
              rintro e w1 ⟨rfl, hb1⟩
              obtain ⟨hP1, hW1, hU1, hz1⟩ := HF.out w1 hb1
              have HP1 : Hid (Prs b s p w1) := hP1
              obtain ⟨q0, q1, q2, q3⟩ := hP1
              clear hb1 hU1
              go_wp2_with (go_at_call 48; refine (isChar_any _ _).mono ?_; rintro e w' ⟨rfl, rfl⟩)
              have hPs := prs_set HP1.out i
              refine (fail_none b s (p + i) _ _ hPs.1 hPs.2.1 (by omega) hs fmtC).mono ?_
              rintro r w2 ⟨tx, rfl, rfl⟩
              go_wp2
              go_ret2
              exact DecPost.bad (q := w'.heap.size) hlt HP1.out hW1 (below_one hz1 _ _ _) (by simp) (new_set _ _ _ _ _ _) (by omega)
    · obtain rfl := HST.out (Or.inl (by omega))
      have hend : i = t.size := by omega
      have HEn : Hid (i = t.size) := hend
      clear hend
      rcases hform with ⟨hv, hn0⟩ | ⟨g, cap, hv, hbg, hgz⟩
      · as_aux_lemma =>
          subst hv
          go_wp2
          go_ret2
          exact ⟨HW.out, Or.inl ⟨HEn.out, HQ.out, _, rfl⟩⟩
      · as_aux_lemma =>
          subst hv
          obtain ⟨tx, htx⟩ := buf_text HU.out
          go_wp2
          go_ret2
          exact ⟨HW.out, Or.inl ⟨HEn.out, HQ.out, _, rfl⟩⟩
end Go.Proofs.Qxb6606017aFmt
