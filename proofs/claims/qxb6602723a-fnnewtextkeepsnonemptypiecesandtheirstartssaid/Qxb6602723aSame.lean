/-
  zzSameBytes and zzSameText, walked: true of equal pieces.
-/
import Derived.Test.Qxb6602723aShares
import Derived.Deep.RegionHeld
namespace Go.Proofs.Qxb6602723a
open Go.RowKit

set_option maxRecDepth 10000 in
set_option maxHeartbeats 2000000 in
/-- zzSameBytes of two pieces of the same bytes. -/
theorem sameBytes_any (p q : Pc) (z : Nat → Int) (w : World) (hp : PcIn (· < w.heap.size) w p z) (hq : PcIn (· < w.heap.size) w q z) (hn : q.n = p.n) (hb : (p.n : Int) ≤ 1048576) :
    Calls Try.prog 16 #[p.v, q.v] w fun e w' => e = .returned (.bool true) ∧ Below w.heap.size w w' := by
  obtain ⟨pa, pn, pc⟩ := p
  obtain ⟨qa, qn, qc⟩ := q
  simp only at hn hb
  subst hn
  unfold Pc.v
  have HP : Hid (0 < qn → ∃ b off, pa = some ⟨b, off, none⟩ ∧ b < w.heap.size ∧ ∀ j, j < qn → w.cell? ⟨b, off + j, none⟩ = some (.int .u8 (z j))) := hp.2
  have HQ : Hid (0 < qn → ∃ b off, qa = some ⟨b, off, none⟩ ∧ b < w.heap.size ∧ ∀ j, j < qn → w.cell? ⟨b, off + j, none⟩ = some (.int .u8 (z j))) := hq.2
  clear hp hq
  go_enter Try.func16, Try.ntmps16
  go_wp2_with (fail)
  go_loopw [5] (fun i wr => ∃ k : Nat, k ≤ qn ∧ i = .int .i64 k ∧ Below w.heap.size w wr) (fun i _ => qn - (intOf i).toNat)
  case atStart => exact ⟨0, by omega, rfl, Below.refl _ _⟩
  case round =>
    obtain ⟨k, hk, rfl, mB⟩ := hrel
    obtain ⟨wo, rfl⟩ : ∃ x, x = wr := ⟨_, rfl⟩
    by_cases hlt : k < qn
    · obtain ⟨b, off, e, hbB, hr⟩ := HP.out (by omega)
      obtain ⟨b', off', e', hbB', hr'⟩ := HQ.out (by omega)
      subst e
      subst e'
      have h1 := (mB.cell (p := ⟨b, off + k, none⟩) hbB).trans (hr k hlt)
      have h2 := (mB.cell (p := ⟨b', off' + k, none⟩) hbB').trans (hr' k hlt)
      clear hr hr'
      go_wp2_with (fail)
      go_quiet (fail)
      go_wp2_with (fail)
      refine ⟨?rel, ?measure⟩
      case rel => exact ⟨k + 1, by omega, by go_num, mB.trans (below_drewN _ _ _)⟩
      case measure => simp [intOf]; omega
    · obtain rfl : k = qn := by omega
      go_wp2_with (fail)
      go_ret
      exact ⟨rfl, mB⟩
end Go.Proofs.Qxb6602723a
