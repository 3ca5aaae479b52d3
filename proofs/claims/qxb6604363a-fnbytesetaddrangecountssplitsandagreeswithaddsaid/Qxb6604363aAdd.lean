/-
  (*byteSet).add and its door, walked.
-/
import Derived.Test.Qxb6604363aPlain
namespace Go.Proofs.Qxb6604363a
open Go.RowKit

theorem setRow_ins {w : World} {b : Nat} {g : Nat → Int} {t : TypeId} (c : Int) (h0 : 0 ≤ c) (h1 : c < 256) (hb : w.heap[b]? = some (.cells (ucells g) t (0, 0))) :
    w.setCell ⟨b, (c / 64).toNat, none⟩ (.int .u64 (orBit (g (c / 64).toNat) c)) = w.setRow b (ucells (insG g c)) := by
  rw [setCell_eq_setRow w b _ _ t _ _ hb, ucells_set _ _ _ (by omega)]
  congr 2
  funext i
  unfold insG
  by_cases e : i = (c / 64).toNat
  · subst e; simp
  · simp [e]

set_option maxHeartbeats 400000 in
theorem add_any (b : Nat) (g : Nat → Int) (t : TypeId) (c : Int) (w : World) (hc0 : 0 ≤ c) (hc1 : c < 256) (hb : w.heap[b]? = some (.cells (ucells g) t (0, 0))) :
    Calls Try.prog 37 #[.pointer (some ⟨b, 0, none⟩), .int .u8 c] w fun e w' => e = .returned (.tuple #[]) ∧ w' = (w.setRow b (ucells (insG g c))).drew := by
  have hcell : w.cell? ⟨b, (c / 64).toNat, none⟩ = some (.int .u64 (g (c / 64).toNat)) := by
    rw [cell_of_row w b _ _ t _ hb]; exact ucells_get g _ (by omega)
  have hfr : w.frozen? ⟨b, (c / 64).toNat, none⟩ = false := frozen_of_row w b _ _ t hb
  have HB : Hid (w.setCell ⟨b, (c / 64).toNat, none⟩ (.int .u64 (orBit (g (c / 64).toNat) c)) = w.setRow b (ucells (insG g c))) := setRow_ins c hc0 hc1 hb
  clear hb
  go_enter Try.func37, Try.ntmps37
  go_wp2
  go_region
  go_end0
  exact ⟨rfl, by rw [← HB.out]; rfl⟩

set_option maxHeartbeats 400000 in
theorem zzAdd_any (b : Nat) (g : Nat → Int) (t : TypeId) (c : Int) (w : World) (hc0 : 0 ≤ c) (hc1 : c < 256) (hb : w.heap[b]? = some (.cells (ucells g) t (0, 0))) :
    Calls Try.prog 13 #[.pointer (some ⟨b, 0, none⟩), .int .u8 c] w fun e w' => e = .returned (.tuple #[]) ∧ w' = (w.setRow b (ucells (insG g c))).drew := by
  have HB : Hid (w.heap[b]? = some (.cells (ucells g) t (0, 0))) := hb
  clear hb
  go_enter Try.func13, Try.ntmps13
  go_wp2_with (go_at_call 37; refine (add_any b g t c _ hc0 hc1 HB.out).mono ?_; rintro e w' ⟨rfl, rfl⟩)
  go_end0
  exact ⟨rfl, rfl⟩
end Go.Proofs.Qxb6604363a
