/-
  THE WALKS OF THE SPAN FUNCTIONS: entry.text (12), span.bits (13), ZZentryText (7), ZZspanBits (8).
-/
import Derived.Test.Qxb6604721aRows
import Derived.WalkKit
import Derived.WalkSpells
import Derived.RegionTactic
import Derived.BigRegion
import Derived.RowKit3
import Derived.Laws.BitsAllLaws
namespace Go.Proofs.Qxb6604721a
open Go.RowKit

theorem grown_trans {a b c : World} (h : Grown a b) (k : Grown b c) : Grown a c :=
  ⟨World.keptBut_trans h.1 k.1, fun x => (k.2.1 x).trans (h.2.1 x), Nat.le_trans h.2.2 k.2.2⟩

/-- Packing: the two halves do not overlap, so '|' is '+'. -/
theorem pack (s e : Int) (hs : 0 ≤ s) (hs' : s < 4294967296) (he : 0 ≤ e) (he' : e < 4294967296) :
    bits BinOp.or IntKind.u64 (s * 4294967296) e = s * 4294967296 + e := by
  rw [u64_or _ _ (by omega) (by omega) he (by omega), nat_join 32 _ _ (by omega) (by omega)]
  omega

theorem ret_int {k : IntKind} {a b : Int} (h : a = b) : Ending.returned (.int k a) = .returned (.int k b) := by rw [h]

theorem bits_any (s e : Int) (hs : 0 ≤ s) (hs' : s < 4294967296) (he : 0 ≤ e) (he' : e < 4294967296) (w : World) :
    Calls Try.prog 13 #[.agg #[.int .u32 s, .int .u32 e]] w fun r w' => r = .returned (.int .u64 (s * 4294967296 + e)) ∧ Grown w w' := by
  go_enter Try.func13, Try.ntmps13
  go_wp2
  go_ret
  exact ⟨ret_int (pack s e hs hs' he he'), (Grown.refl _).alloc _ _⟩

theorem spanBits_any (s e : Int) (hs : 0 ≤ s) (hs' : s < 4294967296) (he : 0 ≤ e) (he' : e < 4294967296) (w : World) :
    Calls Try.prog 8 #[.int .u32 s, .int .u32 e] w fun r w' => r = .returned (.int .u64 (s * 4294967296 + e)) ∧ Grown w w' := by
  go_enter Try.func8, Try.ntmps8
  go_wp2_with (go_at_call 13; refine (bits_any s e hs hs' he he' _).mono ?_; rintro r w' ⟨rfl, hg⟩)
  go_ret
  exact ⟨rfl, hg⟩

theorem text_any (b : Nat) (x : Int) (hx : 0 ≤ x) (hx' : x < 18446744073709551616) (w : World) (hb : b < w.heap.size) (hc : w.cell? ⟨b, 2, none⟩ = some (.int .u64 x)) :
    Calls Try.prog 12 #[.pointer (some ⟨b, 0, none⟩)] w fun r w' => r = .returned (.agg #[.int .u32 (x / 4294967296), .int .u32 (x % 4294967296)]) ∧ Grown w w' := by
  go_enter Try.func12, Try.ntmps12
  go_wp2
  go_region
  go_wp2
  exact bodyPost_ret (v := .agg #[.int .u32 (x / 4294967296), .int .u32 (x % 4294967296)]) (by simp [results, Try.results12, go_sem]) rfl ⟨rfl, ((Grown.refl _).alloc _ _).drew⟩

theorem entryText_any (x : Int) (hx : 0 ≤ x) (hx' : x < 18446744073709551616) (w : World) :
    Calls Try.prog 7 #[.int .u64 x] w fun r w' => r = .returned (.tuple #[.int .u32 (x / 4294967296), .int .u32 (x % 4294967296)]) ∧ Grown w w' := by
  go_enter Try.func7, Try.ntmps7
  go_wp2_with (go_at_call 12; refine (text_any w.heap.size x hx hx' _ (by simp) (by simp [go_sem])).mono ?_; rintro r w' ⟨rfl, hg⟩)
  go_region
  go_wp2
  go_ret2
  exact ⟨rfl, ((grown_trans ((Grown.refl _).alloc _ _) hg).alloc _ _).drew⟩
end Go.Proofs.Qxb6604721a
