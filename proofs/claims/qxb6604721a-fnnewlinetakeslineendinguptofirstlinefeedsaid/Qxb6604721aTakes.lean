/-
  THE WALK OF FnNewlineTakesLineEndingUpToFirstLineFeed (5).
-/
import Derived.Test.Qxb6604721aNewline
import Derived.LoopTactic
namespace Go.Proofs.Qxb6604721a
open Go.RowKit

theorem is10 (t : ByteArray) (k : Nat) (h : k < t.size) (e : byte t k = 10) : ((t[k].toNat : Int) == 10) = true := by
  rw [byte_in t k h] at e; rw [e]; rfl
theorem not10 (t : ByteArray) (k : Nat) (h : k < t.size) (e : ¬ byte t k = 10) : ((t[k].toNat : Int) == 10) = false := by
  rw [byte_in t k h] at e; rw [beq_eq_false_iff_ne]; omega
theorem is13 (t : ByteArray) (k : Nat) (h : k < t.size) (e : byte t k = 13) : ((t[k].toNat : Int) == 13) = true := by
  rw [byte_in t k h] at e; rw [e]; rfl
theorem not13 (t : ByteArray) (k : Nat) (h : k < t.size) (e : ¬ byte t k = 13) : ((t[k].toNat : Int) == 13) = false := by
  rw [byte_in t k h] at e; rw [beq_eq_false_iff_ne]; omega

/-- No line feed from p up to k. -/
def NoLf (t : ByteArray) (p k : Nat) : Prop := ∀ j, p ≤ j → j < k → byte t j = 10 → False
theorem noLf_start (t : ByteArray) (p : Nat) : NoLf t p p := fun j a b => by omega
theorem noLf_step {t : ByteArray} {p k : Nat} (h : NoLf t p k) (e : ¬ byte t k = 10) : NoLf t p (k + 1) := by
  intro j a b c
  by_cases hj : j = k
  · subst hj; exact e c
  · exact h j a (by omega) c

theorem takes_lf (t : ByteArray) (p : Nat) (w : World) (ht : t.size ≤ maxLen) (ht2 : t.size ≤ 1048576) (hp : p ≤ t.size) (h : lfAt t p = true) :
    Calls Try.prog 5 #[.string t, .int .i64 p] w fun e w' => e = .returned (.bool true) ∧ Grown w w' := by
  have f := lf_fact h
  have F : Hid (byte t p = 10) := f
  clear f
  go_enter Try.func5, Try.ntmps5
  go_wp2_with (first
    | (go_at_call 9; refine (short9 t _ _ ht2).mono ?_; rintro r w1 ⟨rfl, rfl⟩)
    | (go_at_call 10; refine (newline_lf t p _ ht ht2 hp h).mono ?_; rintro r w2 ⟨rfl, hg⟩))
  go_loop [7, 8] (fun l i => l = .int .i64 (-1) ∧ ∃ k : Nat, p ≤ k ∧ k ≤ t.size ∧ i = .int .i64 k ∧ NoLf t p k) (fun _ i => t.size - (intOf i).toNat)
  case atStart => exact ⟨rfl, p, Nat.le_refl _, hp, rfl, noLf_start t p⟩
  case round =>
    obtain ⟨rfl, k, hk, hk2, rfl, hn⟩ := hrel
    have hps : p < t.size := byte_lt t p (by rw [F.out]; omega)
    by_cases hlt : k < t.size
    · by_cases hb : byte t k = 10
      · obtain rfl : k = p := by
          rcases Nat.lt_or_eq_of_le hk with h1 | h1
          · exact (hn p (Nat.le_refl _) h1 F.out).elim
          · exact h1.symm
        have e := is10 t k hlt hb
        clear hb hn h
        go_wp2
        go_ret
        exact ⟨rfl, hg⟩
      · have e := not10 t k hlt hb
        have N := noLf_step hn hb
        clear hb hn h
        go_wp2
        go_round
        case rel => exact ⟨rfl, k + 1, by omega, by omega, by go_num, N⟩
        case measure => simp [intOf]; omega
    · exact (hn p (Nat.le_refl _) (by omega) F.out).elim

theorem takes_crlf (t : ByteArray) (p : Nat) (w : World) (ht : t.size ≤ maxLen) (ht2 : t.size ≤ 1048576) (hp : p ≤ t.size) (h : lfAt t p = false) (h' : crlfAt t p = true) :
    Calls Try.prog 5 #[.string t, .int .i64 p] w fun e w' => e = .returned (.bool true) ∧ Grown w w' := by
  have F : Hid (byte t p = 13 ∧ byte t (p + 1) = 10) := crlf_fact h'
  go_enter Try.func5, Try.ntmps5
  go_wp2_with (first
    | (go_at_call 9; refine (short9 t _ _ ht2).mono ?_; rintro r w1 ⟨rfl, rfl⟩)
    | (go_at_call 10; refine (newline_crlf t p _ ht ht2 hp h h').mono ?_; rintro r w2 ⟨rfl, hg⟩))
  go_loop [7, 8] (fun l i => l = .int .i64 (-1) ∧ ∃ k : Nat, p ≤ k ∧ k ≤ t.size ∧ i = .int .i64 k ∧ NoLf t p k) (fun _ i => t.size - (intOf i).toNat)
  case atStart => exact ⟨rfl, p, Nat.le_refl _, hp, rfl, noLf_start t p⟩
  case round =>
    obtain ⟨rfl, k, hk, hk2, rfl, hn⟩ := hrel
    have hps : p + 1 < t.size := byte_lt t (p + 1) (by rw [F.out.2]; omega)
    by_cases hlt : k < t.size
    · by_cases hb : byte t k = 10
      · obtain rfl : k = p + 1 := by
          by_cases h1 : p + 1 < k
          · exact (hn (p + 1) (by omega) h1 F.out.2).elim
          · by_cases h2 : k = p
            · subst h2; have := F.out.1; omega
            · omega
        have e := is10 t (p + 1) hlt hb
        have e2 := is13 t p (by omega) F.out.1
        have e3 : ((p : Int) + 2 == (p : Int) + 1 + 1) = true := by rw [beq_iff_eq]; omega
        clear hb hn h h'
        go_wp2
        go_ret
        exact ⟨rfl, hg⟩
      · have e := not10 t k hlt hb
        have N := noLf_step hn hb
        clear hb hn h h'
        go_wp2
        go_round
        case rel => exact ⟨rfl, k + 1, by omega, by omega, by go_num, N⟩
        case measure => simp [intOf]; omega
    · exact (hn (p + 1) (by omega) (by omega) F.out.2).elim

theorem takes_no (t : ByteArray) (p : Nat) (w : World) (ht : t.size ≤ maxLen) (ht2 : t.size ≤ 1048576) (hp : p ≤ t.size) (h : lfAt t p = false) (h' : crlfAt t p = false) :
    Calls Try.prog 5 #[.string t, .int .i64 p] w fun e w' => e = .returned (.bool true) ∧ Grown w w' := by
  have F : Hid (¬ (byte t p = 13 ∧ byte t (p + 1) = 10)) := crlf_no h'
  have G : Hid (¬ byte t p = 10) := lf_no h
  go_enter Try.func5, Try.ntmps5
  go_wp2_with (first
    | (go_at_call 9; refine (short9 t _ _ ht2).mono ?_; rintro r w1 ⟨rfl, rfl⟩)
    | (go_at_call 10; refine (newline_no t p _ ht ht2 hp h h').mono ?_; rintro r w2 ⟨rfl, hg⟩))
  go_loop [7, 8] (fun l i => l = .int .i64 (-1) ∧ ∃ k : Nat, p ≤ k ∧ k ≤ t.size ∧ i = .int .i64 k ∧ NoLf t p k) (fun _ i => t.size - (intOf i).toNat)
  case atStart => exact ⟨rfl, p, Nat.le_refl _, hp, rfl, noLf_start t p⟩
  case round =>
    obtain ⟨rfl, k, hk, hk2, rfl, hn⟩ := hrel
    by_cases hlt : k < t.size
    · by_cases hb : byte t k = 10
      · have e := is10 t k hlt hb
        have hkp : k ≠ p := by intro c; subst c; exact G.out hb
        have c1 : ((k : Int) == (p : Int)) = false := by rw [beq_eq_false_iff_ne]; omega
        by_cases hk1 : k = p + 1
        · subst hk1
          have e2 := not13 t p (by omega) (fun c => F.out ⟨c, hb⟩)
          clear hb hn h h' hkp
          go_wp2
          go_ret
          exact ⟨rfl, hg⟩
        · have c2 : ((k : Int) == (p : Int) + 1) = false := by rw [beq_eq_false_iff_ne]; omega
          clear hb hn h h' hkp hk1
          go_wp2
          go_ret
          exact ⟨rfl, hg⟩
      · have e := not10 t k hlt hb
        have N := noLf_step hn hb
        clear hb hn h h'
        go_wp2
        go_round
        case rel => exact ⟨rfl, k + 1, by omega, by omega, by go_num, N⟩
        case measure => simp [intOf]; omega
    · clear hn h h'
      go_wp2
      go_ret
      exact ⟨rfl, hg⟩

theorem takes_long (t : ByteArray) (p : Int) (w : World) (h : 1048576 < t.size) :
    Calls Try.prog 5 #[.string t, .int .i64 p] w fun e w' => e = .returned (.bool true) ∧ Grown w w' := by
  go_enter Try.func5, Try.ntmps5
  go_wp2_with (go_at_call 9; refine (long9 t _ _ h).mono ?_; rintro r w1 ⟨rfl, rfl⟩)
  go_ret
  exact ⟨rfl, Grown.refl _⟩

theorem takes_neg (t : ByteArray) (p : Int) (w : World) (ht2 : t.size ≤ 1048576) (h : p < 0) :
    Calls Try.prog 5 #[.string t, .int .i64 p] w fun e w' => e = .returned (.bool true) ∧ Grown w w' := by
  go_enter Try.func5, Try.ntmps5
  go_wp2_with (go_at_call 9; refine (short9 t _ _ ht2).mono ?_; rintro r w1 ⟨rfl, rfl⟩)
  go_ret
  exact ⟨rfl, Grown.refl _⟩

theorem takes_past (t : ByteArray) (p : Int) (w : World) (ht2 : t.size ≤ 1048576) (h : (t.size : Int) < p) :
    Calls Try.prog 5 #[.string t, .int .i64 p] w fun e w' => e = .returned (.bool true) ∧ Grown w w' := by
  have h0 : ¬ p < 0 := by omega
  go_enter Try.func5, Try.ntmps5
  go_wp2_with (go_at_call 9; refine (short9 t _ _ ht2).mono ?_; rintro r w1 ⟨rfl, rfl⟩)
  go_ret
  exact ⟨rfl, Grown.refl _⟩

theorem takes_any (t : ByteArray) (p : Int) (w : World) (ht : t.size ≤ maxLen) :
    Calls Try.prog 5 #[.string t, .int .i64 p] w fun e w' => e = .returned (.bool true) ∧ Grown w w' := by
  by_cases h1 : 1048576 < t.size
  · exact takes_long t p w h1
  have ht2 : t.size ≤ 1048576 := by omega
  by_cases h2 : p < 0
  · exact takes_neg t p w ht2 h2
  by_cases h3 : (t.size : Int) < p
  · exact takes_past t p w ht2 h3
  obtain ⟨q, rfl⟩ := Int.eq_ofNat_of_zero_le (show 0 ≤ p by omega)
  have hq : q ≤ t.size := by omega
  cases h4 : lfAt t q with
  | true => exact takes_lf t q w ht ht2 hq h4
  | false =>
    cases h5 : crlfAt t q with
    | true => exact takes_crlf t q w ht ht2 hq h4 h5
    | false => exact takes_no t q w ht ht2 hq h4 h5
end Go.Proofs.Qxb6604721a
