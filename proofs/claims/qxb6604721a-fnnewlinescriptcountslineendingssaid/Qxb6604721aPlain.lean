/-
  THE PLAIN LAWS FOR THE NEWLINE STATEMENTS: bytes of a string, CR LF, line feeds counted. No Go in sight.
-/
import Derived.Lib.Strings
namespace Go.Proofs.Qxb6604721a
open Go

/-- The byte at place i; 256 past the end. -/
def byte (t : ByteArray) (i : Nat) : Nat := (t.data.toList[i]?.map UInt8.toNat).getD 256

theorem byte_in (t : ByteArray) (i : Nat) (h : i < t.size) : byte t i = t[i].toNat := by
  unfold byte
  have h' : i < t.data.toList.length := by rw [← Lib.size_eq]; exact h
  rw [List.getElem?_eq_getElem h']
  rfl
theorem byte_out (t : ByteArray) (i : Nat) (h : t.size ≤ i) : byte t i = 256 := by
  unfold byte
  rw [List.getElem?_eq_none (by rw [← Lib.size_eq]; exact h)]
  rfl
theorem byte_lt (t : ByteArray) (i : Nat) (h : byte t i < 256) : i < t.size := by
  by_cases k : i < t.size
  · exact k
  · rw [byte_out t i (by omega)] at h; omega

/-- The string begins with CR LF. -/
def crlf (s : ByteArray) : Bool := (s.extract 0 2).toList == [13, 10]
/-- A line feed stands at p. -/
def lfAt (t : ByteArray) (p : Nat) : Bool := byte t p == 10
/-- CR LF stand at p. -/
def crlfAt (t : ByteArray) (p : Nat) : Bool := byte t p == 13 && byte t (p + 1) == 10

theorem lfAt_in (t : ByteArray) (p : Nat) (h : p < t.size) : lfAt t p = ((t[p].toNat : Int) == 10) := by
  unfold lfAt; rw [byte_in t p h, Bool.eq_iff_iff]; simp; omega
theorem lfAt_out (t : ByteArray) (p : Nat) (h : t.size ≤ p) : lfAt t p = false := by
  unfold lfAt; rw [byte_out t p h]; rfl

theorem crlf_short (s : ByteArray) (h : s.size < 2) : crlf s = false := by
  unfold crlf
  rw [Lib.extract_toList]
  rw [Lib.size_eq] at h
  generalize s.data.toList = l at h
  match l, h with
  | [], _ => rfl
  | [_], _ => simp
  | _ :: _ :: _, h => simp at h; omega

theorem list_two (l : List UInt8) (p : Nat) : ((l.drop p).take 2 == [13, 10]) = ((l[p]?.map UInt8.toNat).getD 256 == 13 && (l[p + 1]?.map UInt8.toNat).getD 256 == 10) := by
  have e0 : (l.drop p)[0]? = l[p]? := by rw [List.getElem?_drop]; rfl
  have e1 : (l.drop p)[1]? = l[p + 1]? := by rw [List.getElem?_drop]
  rw [← e0, ← e1]
  generalize l.drop p = m
  match m with
  | [] => rfl
  | [a] => simp
  | a :: b :: r =>
    rw [Bool.eq_iff_iff]
    simp [← UInt8.toNat_inj]

theorem crlf_at (t : ByteArray) (p : Nat) : crlf (t.extract p t.size) = crlfAt t p := by
  unfold crlf crlfAt byte
  rw [Lib.extract_toList, Lib.extract_data, List.drop_zero]
  have : (t.data.toList.drop p).take (t.size - p) = t.data.toList.drop p := List.take_of_length_le (by rw [List.length_drop, ← Lib.size_eq]; omega)
  rw [this, list_two]

/-- How many line feeds lie ahead of place k. -/
def cnt (t : ByteArray) : Nat → Nat
  | 0 => 0
  | k + 1 => cnt t k + if byte t k = 10 then 1 else 0
/-- How many of them stand right behind a carriage return. -/
def prs (t : ByteArray) : Nat → Nat
  | 0 => 0
  | k + 1 => prs t k + if byte t k = 10 ∧ 0 < k ∧ byte t (k - 1) = 13 then 1 else 0
/-- Place p is not the line feed of a CR LF. -/
def Apart (t : ByteArray) (p : Nat) : Prop := 0 < p → byte t (p - 1) = 13 → byte t p = 10 → False

theorem cnt_le (t : ByteArray) (k : Nat) : cnt t k ≤ k := by
  induction k with
  | zero => exact Nat.le_refl 0
  | succ k ih => unfold cnt; split <;> omega
theorem prs_le (t : ByteArray) (k : Nat) : prs t k ≤ k := by
  induction k with
  | zero => exact Nat.le_refl 0
  | succ k ih => unfold prs; split <;> omega

theorem lf_fact {t : ByteArray} {p : Nat} (h : lfAt t p = true) : byte t p = 10 := by unfold lfAt at h; exact eq_of_beq h
theorem lf_no {t : ByteArray} {p : Nat} (h : lfAt t p = false) : byte t p ≠ 10 := by
  unfold lfAt at h; intro e; rw [e] at h; exact absurd h (by decide)
theorem crlf_fact {t : ByteArray} {p : Nat} (h : crlfAt t p = true) : byte t p = 13 ∧ byte t (p + 1) = 10 := by
  unfold crlfAt at h
  rw [Bool.and_eq_true] at h
  exact ⟨eq_of_beq h.1, eq_of_beq h.2⟩
theorem crlf_no {t : ByteArray} {p : Nat} (h : crlfAt t p = false) : ¬ (byte t p = 13 ∧ byte t (p + 1) = 10) := by
  rintro ⟨a, b⟩
  unfold crlfAt at h
  rw [a, b] at h
  exact absurd h (by decide)

/-- A round that takes a bare line feed. -/
theorem step_lf {t : ByteArray} {p : Nat} (h : lfAt t p = true) (a : Apart t p) : cnt t (p + 1) = cnt t p + 1 ∧ prs t (p + 1) = prs t p ∧ Apart t (p + 1) := by
  have e := lf_fact h
  refine ⟨by simp [cnt, e], ?_, ?_⟩
  · show prs t p + (if byte t p = 10 ∧ 0 < p ∧ byte t (p - 1) = 13 then 1 else 0) = prs t p
    rw [if_neg (fun c => a c.2.1 c.2.2 c.1)]; rfl
  · intro _ h1 _
    rw [show p + 1 - 1 = p by omega, e] at h1
    omega
/-- A round that takes CR LF. -/
theorem step_crlf {t : ByteArray} {p : Nat} (h : crlfAt t p = true) : cnt t (p + 2) = cnt t p + 1 ∧ prs t (p + 2) = prs t p + 1 ∧ Apart t (p + 2) := by
  obtain ⟨e, f⟩ := crlf_fact h
  refine ⟨by simp [cnt, e, f], by simp [prs, e, f], ?_⟩
  intro _ h1 _
  rw [show p + 2 - 1 = p + 1 by omega, f] at h1
  omega
/-- A round that steps over a byte. -/
theorem step_no {t : ByteArray} {p : Nat} (h : lfAt t p = false) (k : crlfAt t p = false) : cnt t (p + 1) = cnt t p ∧ prs t (p + 1) = prs t p ∧ Apart t (p + 1) := by
  have e := lf_no h
  have f := crlf_no k
  refine ⟨by simp [cnt, e], by simp [prs, e], ?_⟩
  intro _ h1 h2
  rw [show p + 1 - 1 = p by omega] at h1
  exact f ⟨h1, h2⟩
end Go.Proofs.Qxb6604721a
