/-
  Pieces of text in memory; zzBytes_.., walked. (For the laws of seat b6602723a.)
-/
import Derived.Test.Qxb6602723aRows
import Derived.WalkKit
import Derived.WalkSpells
import Derived.WalkLawsBesides
import Derived.Deep.WholeRow
import Derived.Deep.MidRow
import Derived.Below
namespace Go.Proofs.Qxb6602723a
open Go.RowKit

/-- A piece: a slice of bytes. -/
structure Pc where
  a : Option Addr
  n : Nat
  cap : Nat
def Pc.v (p : Pc) : Value := .slice p.a p.n p.cap
/-- The piece p holds the bytes z, in a block that meets R. -/
def PcIn (R : Nat → Prop) (w : World) (p : Pc) (z : Nat → Int) : Prop :=
  (p.a = none → p.n = 0 ∧ p.cap = 0) ∧ (0 < p.n → ∃ b off, p.a = some ⟨b, off, none⟩ ∧ R b ∧ ∀ j, j < p.n → w.cell? ⟨b, off + j, none⟩ = some (.int .u8 (z j)))
/-- The slice v holds the n pieces x, in a block that meets R. -/
def PcsIn (R : Nat → Prop) (w : World) (v : Value) (n : Nat) (x : Nat → Pc) : Prop :=
  ∃ ao cap, v = .slice ao n cap ∧ (ao = none → n = 0 ∧ cap = 0) ∧
    (0 < n → ∃ b off, ao = some ⟨b, off, none⟩ ∧ R b ∧ ∀ i, i < n → w.cell? ⟨b, off + i, none⟩ = some (x i).v)
theorem PcIn.below {R : Nat → Prop} {B : Nat} {w w' : World} {p : Pc} {z : Nat → Int} (h : PcIn R w p z) (hb : Below B w w') (hB : ∀ b, R b → b < B) : PcIn R w' p z := by
  refine ⟨h.1, fun h0 => ?_⟩
  obtain ⟨b, off, e, hlt, hr⟩ := h.2 h0
  exact ⟨b, off, e, hlt, fun j hj => (hb.cell (p := ⟨b, off + j, none⟩) (hB b hlt)).trans (hr j hj)⟩
theorem PcIn.mono {R R' : Nat → Prop} {w : World} {p : Pc} {z : Nat → Int} (h : PcIn R w p z) (hR : ∀ b, R b → R' b) : PcIn R' w p z := by
  refine ⟨h.1, fun h0 => ?_⟩
  obtain ⟨b, off, e, hlt, hr⟩ := h.2 h0
  exact ⟨b, off, e, hR b hlt, hr⟩
theorem PcsIn.below {R : Nat → Prop} {B : Nat} {w w' : World} {v : Value} {n : Nat} {x : Nat → Pc} (h : PcsIn R w v n x) (hb : Below B w w') (hB : ∀ b, R b → b < B) : PcsIn R w' v n x := by
  obtain ⟨ao, cap, h1, h2, h3⟩ := h
  refine ⟨ao, cap, h1, h2, fun h0 => ?_⟩
  obtain ⟨b, off, e, hlt, hr⟩ := h3 h0
  exact ⟨b, off, e, hlt, fun j hj => (hb.cell (p := ⟨b, off + j, none⟩) (hB b hlt)).trans (hr j hj)⟩
theorem PcsIn.mono {R R' : Nat → Prop} {w : World} {v : Value} {n : Nat} {x : Nat → Pc} (h : PcsIn R w v n x) (hR : ∀ b, R b → R' b) : PcsIn R' w v n x := by
  obtain ⟨ao, cap, h1, h2, h3⟩ := h
  refine ⟨ao, cap, h1, h2, fun h0 => ?_⟩
  obtain ⟨b, off, e, hlt, hr⟩ := h3 h0
  exact ⟨b, off, e, hR b hlt, hr⟩

/-- The call returns a bool. -/
def RetBool (e : Ending) : Prop := ∃ b, e = .returned (.bool b)
theorem RetBool.mk (b : Bool) : RetBool (.returned (.bool b)) := ⟨b, rfl⟩

set_option maxRecDepth 10000 in
set_option maxHeartbeats 2000000 in
/-- zzBytes_.. of Shares. -/
theorem zzBytesA_any (v : Value) (n : Nat) (x : Nat → Pc) (w : World) (hv : PcsIn (· < w.heap.size) w v n x) (hn : n ≤ 9223372036854775807) (hok : ∀ i, i < n → (x i).n ≤ 9223372036854775807) :
    Calls Try.prog 17 #[v] w fun e w' => RetBool e ∧ Below w.heap.size w w' := by
  obtain ⟨ao, cap, rfl, hnil, hcs⟩ := hv
  by_cases hbig : n ≤ 1048576
  · go_enter Try.func17, Try.ntmps17
    go_wp2
    go_loop [3, 4] (fun t i => ∃ k : Nat, k ≤ n ∧ i = .int .i64 k ∧ ∃ s : Int, 0 ≤ s ∧ s ≤ 1048576 ∧ t = .int .i64 s) (fun _ i => n - (intOf i).toNat)
    case atStart => exact ⟨0, by omega, rfl, n, by omega, by omega, by simp⟩
    case round =>
      obtain ⟨k, hk, rfl, s, hs0, hs, rfl⟩ := hrel
      by_cases hlt : k < n
      · obtain ⟨b, off, rfl, hbB, hrow⟩ := hcs (by omega)
        have hc := hrow k hlt
        have hq := hok k hlt
        unfold Pc.v at hc
        clear hcs hrow hok
        by_cases h1 : (x k).n ≤ 1048576
        · by_cases h2 : s + (x k).n ≤ 1048576
          · go_wp2
            go_round
            case rel => exact ⟨k + 1, by omega, by go_num, s + (x k).n, by omega, by omega, by go_num⟩
            case measure => simp [intOf]; omega
          · go_wp2
            go_ret
            exact ⟨RetBool.mk _, Below.refl _ _⟩
        · go_wp2
          go_ret
          exact ⟨RetBool.mk _, Below.refl _ _⟩
      · go_wp2
        go_ret
        exact ⟨RetBool.mk _, Below.refl _ _⟩
  · go_enter Try.func17, Try.ntmps17
    go_wp2
    go_ret
    exact ⟨RetBool.mk _, Below.refl _ _⟩

set_option maxRecDepth 10000 in
set_option maxHeartbeats 2000000 in
/-- zzBytes_.. of Keeps. -/
theorem zzBytesB_any (v : Value) (n : Nat) (x : Nat → Pc) (w : World) (hv : PcsIn (· < w.heap.size) w v n x) (hn : n ≤ 9223372036854775807) (hok : ∀ i, i < n → (x i).n ≤ 9223372036854775807) :
    Calls Try.prog 12 #[v] w fun e w' => RetBool e ∧ Below w.heap.size w w' := by
  obtain ⟨ao, cap, rfl, hnil, hcs⟩ := hv
  by_cases hbig : n ≤ 1048576
  · go_enter Try.func12, Try.ntmps12
    go_wp2
    go_loop [3, 4] (fun t i => ∃ k : Nat, k ≤ n ∧ i = .int .i64 k ∧ ∃ s : Int, 0 ≤ s ∧ s ≤ 1048576 ∧ t = .int .i64 s) (fun _ i => n - (intOf i).toNat)
    case atStart => exact ⟨0, by omega, rfl, n, by omega, by omega, by simp⟩
    case round =>
      obtain ⟨k, hk, rfl, s, hs0, hs, rfl⟩ := hrel
      by_cases hlt : k < n
      · obtain ⟨b, off, rfl, hbB, hrow⟩ := hcs (by omega)
        have hc := hrow k hlt
        have hq := hok k hlt
        unfold Pc.v at hc
        clear hcs hrow hok
        by_cases h1 : (x k).n ≤ 1048576
        · by_cases h2 : s + (x k).n ≤ 1048576
          · go_wp2
            go_round
            case rel => exact ⟨k + 1, by omega, by go_num, s + (x k).n, by omega, by omega, by go_num⟩
            case measure => simp [intOf]; omega
          · go_wp2
            go_ret
            exact ⟨RetBool.mk _, Below.refl _ _⟩
        · go_wp2
          go_ret
          exact ⟨RetBool.mk _, Below.refl _ _⟩
      · go_wp2
        go_ret
        exact ⟨RetBool.mk _, Below.refl _ _⟩
  · go_enter Try.func12, Try.ntmps12
    go_wp2
    go_ret
    exact ⟨RetBool.mk _, Below.refl _ _⟩
end Go.Proofs.Qxb6602723a
