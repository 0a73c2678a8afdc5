/-
  THE WALK OF FnNewlineScriptCountsLineEndings (6).
-/
import Derived.Test.Qxb6604721aNewline
import Derived.LoopTactic
namespace Go.Proofs.Qxb6604721a
open Go.RowKit

theorem neq10_no (t : ByteArray) (k : Nat) (h : k < t.size) (e : byte t k = 10) : ((t[k].toNat : Int) != 10) = false := by
  rw [byte_in t k h] at e; rw [e]; rfl
theorem eq10_yes (t : ByteArray) (k : Nat) (h : k < t.size) (e : byte t k = 10) : ((t[k].toNat : Int) == 10) = true := by
  rw [byte_in t k h] at e; rw [e]; rfl
theorem eq10_no (t : ByteArray) (k : Nat) (h : k < t.size) (e : ¬ byte t k = 10) : ((t[k].toNat : Int) == 10) = false := by
  rw [byte_in t k h] at e; rw [beq_eq_false_iff_ne]; omega
theorem eq13_yes (t : ByteArray) (k : Nat) (h : k < t.size) (e : byte t k = 13) : ((t[k].toNat : Int) == 13) = true := by
  rw [byte_in t k h] at e; rw [e]; rfl
theorem eq13_no (t : ByteArray) (k : Nat) (h : k < t.size) (e : ¬ byte t k = 13) : ((t[k].toNat : Int) == 13) = false := by
  rw [byte_in t k h] at e; rw [beq_eq_false_iff_ne]; omega

theorem i64_eq {a b : Int} (h : a = b) : Value.int .i64 a = .int .i64 b := by rw [h]

theorem want_first {t : ByteArray} (h : byte t 0 = 10) : cnt t (0 + 1) = cnt t 0 + 1 ∧ prs t (0 + 1) = prs t 0 := ⟨by simp [cnt, h], by simp [prs]⟩
theorem want_pair {t : ByteArray} {j : Nat} (h : byte t (j + 1) = 10) (c : byte t j = 13) : cnt t (j + 1 + 1) = cnt t (j + 1) + 1 ∧ prs t (j + 1 + 1) = prs t (j + 1) + 1 :=
  ⟨by rw [cnt, if_pos h], by rw [prs, if_pos ⟨h, by omega, c⟩]⟩
theorem want_bare {t : ByteArray} {j : Nat} (h : byte t (j + 1) = 10) (c : ¬ byte t j = 13) : cnt t (j + 1 + 1) = cnt t (j + 1) + 1 ∧ prs t (j + 1 + 1) = prs t (j + 1) :=
  ⟨by rw [cnt, if_pos h], by rw [prs, if_neg (fun x => c x.2.2)]; rfl⟩
theorem want_no {t : ByteArray} {k : Nat} (h : ¬ byte t k = 10) : cnt t (k + 1) = cnt t k ∧ prs t (k + 1) = prs t k :=
  ⟨by rw [cnt, if_neg h]; rfl, by rw [prs, if_neg (fun x => h x.1)]; rfl⟩

set_option maxHeartbeats 1000000 in
theorem script_short (t : ByteArray) (w : World) (ht : t.size ≤ maxLen) (ht2 : t.size ≤ 1048576) :
    Calls Try.prog 6 #[.string t] w fun e w' => e = .returned (.bool true) ∧ Grown w w' := by
  go_enter Try.func6, Try.ntmps6
  go_wp2_with (go_at_call 11; refine (short11 t _ ht2).mono ?_; rintro r w1 ⟨rfl, rfl⟩)
  go_loopw [3, 4, 5] (fun l q i wr => ∃ p : Nat, p ≤ t.size ∧ l = .int .i64 (cnt t p) ∧ q = .int .i64 (prs t p) ∧ i = .int .i64 p ∧ Apart t p ∧ Grown w1 wr) (fun _ _ i _ => t.size - (intOf i).toNat)
  case atStart => exact ⟨0, Nat.zero_le _, rfl, rfl, rfl, fun h => absurd h (Nat.lt_irrefl 0), Grown.refl _⟩
  case round =>
    obtain ⟨p, hp, rfl, rfl, rfl, ha, hg⟩ := hrel
    have c1 := cnt_le t p
    have c2 := prs_le t p
    by_cases hlt : p < t.size
    · cases h4 : lfAt t p with
      | true =>
        have S : Hid (cnt t (p + 1) = cnt t p + 1 ∧ prs t (p + 1) = prs t p ∧ Apart t (p + 1)) := step_lf h4 ha
        have e := neq10_no t p hlt (lf_fact h4)
        have e2 : ((p : Int) + 1 == (p : Int) + 2) = false := by rw [beq_eq_false_iff_ne]; omega
        clear ha
        go_wp2_with (go_at_call 10; refine (newline_lf t p _ ht ht2 hp h4).mono ?_; rintro r w2 ⟨rfl, hk⟩)
        go_roundw
        case rel => exact ⟨p + 1, by omega, i64_eq (by rw [S.out.1]; omega), i64_eq (by rw [S.out.2.1]), i64_eq (by omega), S.out.2.2, grown_trans' hg hk⟩
        case measure => simp [intOf]; omega
      | false =>
        cases h5 : crlfAt t p with
        | true =>
          have S : Hid (cnt t (p + 2) = cnt t p + 1 ∧ prs t (p + 2) = prs t p + 1 ∧ Apart t (p + 2)) := step_crlf h5
          obtain ⟨f1, f2⟩ := crlf_fact h5
          have hlt2 : p + 1 < t.size := byte_lt t (p + 1) (by omega)
          have e := neq10_no t (p + 1) hlt2 f2
          have e2 : ((p : Int) + 2 != (p : Int) + 1) = true := by rw [bne_iff_ne]; omega
          clear ha f1 f2
          go_wp2_with (go_at_call 10; refine (newline_crlf t p _ ht ht2 hp h4 h5).mono ?_; rintro r w2 ⟨rfl, hk⟩)
          go_roundw
          case rel => exact ⟨p + 2, by omega, i64_eq (by rw [S.out.1]; omega), i64_eq (by rw [S.out.2.1]; omega), i64_eq (by omega), S.out.2.2, grown_trans' hg hk⟩
          case measure => simp [intOf]; omega
        | false =>
          have S : Hid (cnt t (p + 1) = cnt t p ∧ prs t (p + 1) = prs t p ∧ Apart t (p + 1)) := step_no h4 h5
          clear ha
          go_wp2_with (go_at_call 10; refine (newline_no t p _ ht ht2 hp h4 h5).mono ?_; rintro r w2 ⟨rfl, hk⟩)
          go_roundw
          case rel => exact ⟨p + 1, by omega, i64_eq (by rw [S.out.1]), i64_eq (by rw [S.out.2.1]), i64_eq (by omega), S.out.2.2, grown_trans' hg hk⟩
          case measure => simp [intOf]; omega
    · obtain rfl : p = t.size := by omega
      clear ha hp
      go_wp2
      go_loop [8, 9, 10] (fun l q i => ∃ k : Nat, k ≤ t.size ∧ l = .int .i64 (cnt t k) ∧ q = .int .i64 (prs t k) ∧ i = .int .i64 k) (fun _ _ i => t.size - (intOf i).toNat)
      case atStart => exact ⟨0, Nat.zero_le _, rfl, rfl, rfl⟩
      case round =>
        obtain ⟨k, hk, rfl, rfl, rfl⟩ := hrel
        have d1 := cnt_le t k
        have d2 := prs_le t k
        by_cases hkt : k < t.size
        · by_cases hb : byte t k = 10
          · have e := eq10_yes t k hkt hb
            cases k with
            | zero =>
              have S : Hid (cnt t (0 + 1) = cnt t 0 + 1 ∧ prs t (0 + 1) = prs t 0) := want_first hb
              clear hb
              go_wp2
              go_round
              case rel => exact ⟨0 + 1, by omega, i64_eq (by rw [S.out.1]; omega), i64_eq (by rw [S.out.2]), i64_eq (by omega)⟩
              case measure => simp [intOf]; omega
            | succ j =>
              by_cases hc : byte t j = 13
              · have S : Hid (cnt t (j + 1 + 1) = cnt t (j + 1) + 1 ∧ prs t (j + 1 + 1) = prs t (j + 1) + 1) := want_pair hb hc
                have e2 := eq13_yes t j (by omega) hc
                clear hb hc
                go_wp2
                go_round
                case rel => exact ⟨j + 1 + 1, by omega, i64_eq (by rw [S.out.1]; omega), i64_eq (by rw [S.out.2]; omega), i64_eq (by omega)⟩
                case measure => simp [intOf]; omega
              · have S : Hid (cnt t (j + 1 + 1) = cnt t (j + 1) + 1 ∧ prs t (j + 1 + 1) = prs t (j + 1)) := want_bare hb hc
                have e2 := eq13_no t j (by omega) hc
                clear hb hc
                go_wp2
                go_round
                case rel => exact ⟨j + 1 + 1, by omega, i64_eq (by rw [S.out.1]; omega), i64_eq (by rw [S.out.2]), i64_eq (by omega)⟩
                case measure => simp [intOf]; omega
          · have e := eq10_no t k hkt hb
            have S : Hid (cnt t (k + 1) = cnt t k ∧ prs t (k + 1) = prs t k) := want_no hb
            clear hb
            go_wp2
            go_round
            case rel => exact ⟨k + 1, by omega, i64_eq (by rw [S.out.1]), i64_eq (by rw [S.out.2]), i64_eq (by omega)⟩
            case measure => simp [intOf]; omega
        · obtain rfl : k = t.size := by omega
          go_wp2
          go_ret
          exact ⟨rfl, hg⟩

theorem script_long (t : ByteArray) (w : World) (h : 1048576 < t.size) :
    Calls Try.prog 6 #[.string t] w fun e w' => e = .returned (.bool true) ∧ Grown w w' := by
  go_enter Try.func6, Try.ntmps6
  go_wp2_with (go_at_call 11; refine (long11 t _ h).mono ?_; rintro r w1 ⟨rfl, rfl⟩)
  go_ret
  exact ⟨rfl, Grown.refl _⟩

theorem script_any (t : ByteArray) (w : World) (ht : t.size ≤ maxLen) :
    Calls Try.prog 6 #[.string t] w fun e w' => e = .returned (.bool true) ∧ Grown w w' := by
  by_cases h1 : 1048576 < t.size
  · exact script_long t w h1
  · exact script_short t w ht (by omega)
end Go.Proofs.Qxb6604721a
