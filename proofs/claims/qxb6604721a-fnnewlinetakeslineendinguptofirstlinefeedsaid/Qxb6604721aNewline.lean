/-
  THE WALKS UNDER ZZnewline: HasPrefix (19, 18), at (16), has (17), newDecoder (14), newline (15), ZZnewline (10).
-/
import Derived.Test.Qxb6604721aRows
import Derived.WalkKit
import Derived.WalkSpells
import Derived.RegionTactic
import Derived.Deep.QuietTactic
import Derived.BigQuiet
import Derived.RowKit3
import Derived.Test.Qxb6604721aPlain
namespace Go.Proofs.Qxb6604721a
open Go.RowKit

theorem grown_trans' {a b c : World} (h : Grown a b) (k : Grown b c) : Grown a c :=
  ⟨World.keptBut_trans h.1 k.1, fun x => (k.2.1 x).trans (h.2.1 x), Nat.le_trans h.2.2 k.2.2⟩
theorem grown_drewN {a b : World} (h : Grown a b) (n : Nat) : Grown a (b.drewN n) := h

theorem lite_any (s : ByteArray) (w : World) (hs : s.size ≤ maxLen) :
    Calls Try.prog 19 #[.string s, .string ⟨#[13, 10]⟩] w fun e w' => e = .returned (.bool (crlf s)) ∧ w' = w := by
  unfold maxLen at hs
  by_cases h : 2 ≤ s.size
  · have h2 : (2 : Int) ≤ (s.size : Int) := by omega
    go_enter Try.func19, Try.ntmps19
    go_wp2
    go_ret
    exact ⟨rfl, rfl⟩
  · have H : Hid (crlf s = false) := crlf_short s (by omega)
    have h' : s.size < 2 := by omega
    go_enter Try.func19, Try.ntmps19
    go_wp2
    go_ret
    exact ⟨by rw [H.out]; rfl, rfl⟩

theorem hasPrefix_any (s : ByteArray) (w : World) (hs : s.size ≤ maxLen) :
    Calls Try.prog 18 #[.string s, .string ⟨#[13, 10]⟩] w fun e w' => e = .returned (.bool (crlf s)) ∧ w' = w := by
  go_enter Try.func18, Try.ntmps18
  go_wp2_with (go_at_call 19; refine (lite_any s _ hs).mono ?_; rintro r w' ⟨rfl, rfl⟩)
  go_ret
  exact ⟨rfl, rfl⟩

theorem at_any (b : Nat) (t : ByteArray) (p : Nat) (w : World) (_ht : t.size ≤ maxLen) (h1 : w.cell? ⟨b, 1, none⟩ = some (.string t)) (h2 : w.cell? ⟨b, 2, none⟩ = some (.int .i64 p)) :
    Calls Try.prog 16 #[.pointer (some ⟨b, 0, none⟩), .int .u8 10] w fun e w' => e = .returned (.bool (lfAt t p)) ∧ ∃ n, w' = w.drewN n := by
  unfold maxLen at _ht
  by_cases hp : p < t.size
  · rw [lfAt_in t p hp]
    have hp' : (p : Int) < (t.size : Int) := by omega
    go_enter Try.func16, Try.ntmps16
    go_wp2
    go_quiet (fail)
    go_wp2
    go_ret
    exact ⟨rfl, nq, rfl⟩
  · rw [lfAt_out t p (by omega)]
    have hp' : decide (p < t.size) = false := by simp; omega
    go_enter Try.func16, Try.ntmps16
    go_wp2
    go_quiet (fail)
    go_wp2
    go_ret
    exact ⟨rfl, nq, rfl⟩

theorem has_any (b : Nat) (t : ByteArray) (p : Nat) (w : World) (ht : t.size ≤ maxLen) (h1 : w.cell? ⟨b, 1, none⟩ = some (.string t)) (h2 : w.cell? ⟨b, 2, none⟩ = some (.int .i64 p)) (hp : p ≤ t.size) :
    Calls Try.prog 17 #[.pointer (some ⟨b, 0, none⟩), .string ⟨#[13, 10]⟩] w fun e w' => e = .returned (.bool (crlfAt t p)) ∧ ∃ n, w' = w.drewN n := by
  have hm : (t.extract p t.size).size ≤ maxLen := by simp; omega
  unfold maxLen at ht
  have hp' : (p : Int) ≤ (t.size : Int) := by omega
  rw [← crlf_at t p]
  go_enter Try.func17, Try.ntmps17
  go_wp2
  go_quiet ((go_at_call 18; exact Calls.quiet_of_same (hasPrefix_any _ _ hm)))
  go_wp2
  go_ret
  exact ⟨rfl, nq, rfl⟩

theorem newline_lf (t : ByteArray) (p : Nat) (w : World) (ht : t.size ≤ maxLen) (ht2 : t.size ≤ 1048576) (hp : p ≤ t.size) (h : lfAt t p = true) :
    Calls Try.prog 10 #[.string t, .int .i64 p] w fun e w' => e = .returned (.tuple #[.bool true, .int .i64 ((p : Int) + 1)]) ∧ Grown w w' := by
  go_enter Try.func10, Try.ntmps10
  go_wp2_with (first | (go_at_call 16; refine (at_any (w.heap.size + 1) t p _ ht (by simp [go_sem]) (by simp [go_sem])).mono ?_; rintro r w' ⟨rfl, n1, rfl⟩) | go_in)
  go_quiet (fail)
  go_wp2
  go_ret2
  exact ⟨rfl, grown_drewN (Grown.setCell (grown_drewN (((Grown.refl _).alloc _ _).alloc _ _) _) (by simp) _) _⟩

theorem newline_crlf (t : ByteArray) (p : Nat) (w : World) (ht : t.size ≤ maxLen) (ht2 : t.size ≤ 1048576) (hp : p ≤ t.size) (h : lfAt t p = false) (h' : crlfAt t p = true) :
    Calls Try.prog 10 #[.string t, .int .i64 p] w fun e w' => e = .returned (.tuple #[.bool true, .int .i64 ((p : Int) + 2)]) ∧ Grown w w' := by
  go_enter Try.func10, Try.ntmps10
  go_wp2_with (first
    | (go_at_call 16; refine (at_any (w.heap.size + 1) t p _ ht (by simp [go_sem]) (by simp [go_sem])).mono ?_; rintro r w' ⟨rfl, n1, rfl⟩)
    | (go_at_call 17; refine (has_any (w.heap.size + 1) t p _ ht (by simp [go_sem]) (by simp [go_sem]) hp).mono ?_; rintro r w' ⟨rfl, n2, rfl⟩)
    | go_in)
  go_quiet (fail)
  go_wp2
  go_ret2
  exact ⟨rfl, grown_drewN (Grown.setCell (grown_drewN (((Grown.refl _).alloc _ _).alloc _ _) (n1 + n2)) (by simp) _) _⟩

theorem newline_no (t : ByteArray) (p : Nat) (w : World) (ht : t.size ≤ maxLen) (ht2 : t.size ≤ 1048576) (hp : p ≤ t.size) (h : lfAt t p = false) (h' : crlfAt t p = false) :
    Calls Try.prog 10 #[.string t, .int .i64 p] w fun e w' => e = .returned (.tuple #[.bool false, .int .i64 (p : Int)]) ∧ Grown w w' := by
  go_enter Try.func10, Try.ntmps10
  go_wp2_with (first
    | (go_at_call 16; refine (at_any (w.heap.size + 1) t p _ ht (by simp [go_sem]) (by simp [go_sem])).mono ?_; rintro r w' ⟨rfl, n1, rfl⟩)
    | (go_at_call 17; refine (has_any (w.heap.size + 1) t p _ ht (by simp [go_sem]) (by simp [go_sem]) hp).mono ?_; rintro r w' ⟨rfl, n2, rfl⟩)
    | go_in)
  go_quiet (fail)
  go_wp2
  go_ret2
  exact ⟨rfl, grown_drewN (grown_drewN (((Grown.refl _).alloc _ _).alloc _ _) (n1 + n2)) nq⟩

/-- zzBytes_..(text, pos) (9) and (text) (11): the length is at most 1<<20. -/
theorem short9 (t : ByteArray) (p : Int) (w : World) (h : t.size ≤ 1048576) :
    Calls Try.prog 9 #[.string t, .int .i64 p] w fun e w' => e = .returned (.bool true) ∧ w' = w := by
  go_enter Try.func9, Try.ntmps9
  go_wp2
  go_ret
  exact ⟨rfl, rfl⟩
theorem long9 (t : ByteArray) (p : Int) (w : World) (h : 1048576 < t.size) :
    Calls Try.prog 9 #[.string t, .int .i64 p] w fun e w' => e = .returned (.bool false) ∧ w' = w := by
  go_enter Try.func9, Try.ntmps9
  go_wp2
  go_ret
  exact ⟨rfl, rfl⟩
theorem short11 (t : ByteArray) (w : World) (h : t.size ≤ 1048576) :
    Calls Try.prog 11 #[.string t] w fun e w' => e = .returned (.bool true) ∧ w' = w := by
  go_enter Try.func11, Try.ntmps11
  go_wp2
  go_ret
  exact ⟨rfl, rfl⟩
theorem long11 (t : ByteArray) (w : World) (h : 1048576 < t.size) :
    Calls Try.prog 11 #[.string t] w fun e w' => e = .returned (.bool false) ∧ w' = w := by
  go_enter Try.func11, Try.ntmps11
  go_wp2
  go_ret
  exact ⟨rfl, rfl⟩
end Go.Proofs.Qxb6604721a
