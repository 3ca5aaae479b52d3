/-
  append at an operation; slices.Clone, walked.
-/
import Derived.Test.Qxb6602723aFuncs
import Derived.OwnWalk
import Derived.Maps.AppendAt
import Derived.Laws.AppendOwnNone
namespace Go.Proofs.Qxb6602723a
open Go.RowKit

theorem wp_append_at {P : Program} {o : Oper} {a : Act} {w : World} {K : Act → World → Prop} {Q : Exit → Act → World → Prop} (d : Nat) (hd : o.dst = some d) (s x : Operand) (t : TypeId)
    (ho : o.op = .call { callee := .builtin .append, args := #[s, x], argTypes := #[t, t] })
    (base : Nat) (e : TypeId) (i : TypeInfo) (z : Value) (size bytes : Nat) (ht : P.underlying t = some (.slice e)) (hi : P.info? e = some i) (hz : i.zero = some z)
    (hsize : i.size = size) (hby : i.bytes = bytes) (hzs : z.cells.size = size) (hsz : 0 < size)
    (v : Value) (n : Nat) (xs : List Value) (hs : a.eval s = v) (hown : w.ownsRow base e size v n xs)
    (m : Nat) (news : List Value) (xv : Value) (hx : a.eval x = xv) (hsrc : (xv = .slice none 0 0 ∧ m = 0 ∧ news = []) ∨ ∃ ad c, xv = .slice (some ad) m c ∧ ∀ j u, news[j]? = some u → w.cell? (ad.add j) = some u)
    (hl : news.length = m * size) (h1 : ∀ u ∈ news, u.oneCell' = true)
    (h63 : n + m ≤ maxLen) (hbytes : (n + m) * bytes ≤ 140737488355328) (hbase : base ≤ w.heap.size)
    (h : ∀ v' w', w'.ownsRow base e size v' (n + m) (xs ++ news) → w.grownBy w' v.ownBlock → (v'.ownBlock = v.ownBlock ∨ v'.ownBlock = some w.heap.size) → K ⟨a.tmps.setIfInBounds d v', a.defers⟩ w') : o.wp P a w K Q := by
  have hput : ∀ v', a.put o.dst v' = ⟨a.tmps.setIfInBounds d v', a.defers⟩ := fun v' => by rw [hd]; rfl
  rcases hsrc with ⟨rfl, rfl, rfl⟩ | ⟨ad, c, rfl, hnews⟩
  · have hr := run_append_owned_none (P := P) w base t o.type e i size ht hi v n xs hown
    unfold Oper.wp execOp
    simp only [ho, resolve, invoke, builtin, Sem.run_bind, Sem.run_pure, Result.andThen_ok, List.map_toArray, List.map_cons, List.map_nil, hs, hx, hr]
    show K (a.put o.dst v) w
    rw [hput]
    exact h v w (by simpa using hown) ⟨rfl, rfl, rfl, Nat.le_refl _, fun _ _ _ => rfl⟩ (Or.inl rfl)
  · obtain ⟨v', w', hr, h2, h3, _, h5⟩ := run_append_own_at (P := P) w base t o.type e i z size bytes ht hi hz hsize hby hzs hsz v n xs hown ad m c news hl hnews h1 h63 hbytes hbase
    unfold Oper.wp execOp
    simp only [ho, resolve, invoke, builtin, Sem.run_bind, Sem.run_pure, Result.andThen_ok, List.map_toArray, List.map_cons, List.map_nil, hs, hx, hr]
    show K (a.put o.dst v') w'
    rw [hput]
    exact h v' w' h2 h3 h5

theorem wpList_append_at {P : Program} {ops : Array Oper} {rest : List Oper} {o : Oper} {a : Act} {w : World} {Q : Exit → Act → World → Prop} (hgd : o.guard = none) (d : Nat) (hd : o.dst = some d) (s x : Operand) (t : TypeId)
    (ho : o.op = .call { callee := .builtin .append, args := #[s, x], argTypes := #[t, t] })
    (base : Nat) (e : TypeId) (i : TypeInfo) (z : Value) (size bytes : Nat) (ht : P.underlying t = some (.slice e)) (hi : P.info? e = some i) (hz : i.zero = some z)
    (hsize : i.size = size) (hby : i.bytes = bytes) (hzs : z.cells.size = size) (hsz : 0 < size)
    (v : Value) (n : Nat) (xs : List Value) (hs : a.eval s = v) (hown : w.ownsRow base e size v n xs)
    (m : Nat) (news : List Value) (xv : Value) (hx : a.eval x = xv) (hsrc : (xv = .slice none 0 0 ∧ m = 0 ∧ news = []) ∨ ∃ ad c, xv = .slice (some ad) m c ∧ ∀ j u, news[j]? = some u → w.cell? (ad.add j) = some u)
    (hl : news.length = m * size) (h1 : ∀ u ∈ news, u.oneCell' = true)
    (h63 : n + m ≤ maxLen) (hbytes : (n + m) * bytes ≤ 140737488355328) (hbase : base ≤ w.heap.size)
    (h : ∀ v' w', w'.ownsRow base e size v' (n + m) (xs ++ news) → w.grownBy w' v.ownBlock → (v'.ownBlock = v.ownBlock ∨ v'.ownBlock = some w.heap.size) → wpList P ops Q rest ⟨a.tmps.setIfInBounds d v', a.defers⟩ w') : wpList P ops Q (o :: rest) a w :=
  wpList_plain hgd fun _ hK => wp_append_at d hd s x t ho base e i z size bytes ht hi hz hsize hby hzs hsz v n xs hs hown m news xv hx hsrc hl h1 h63 hbytes hbase (fun v' w' h2 h3 h4 => hK _ _ (h v' w' h2 h3 h4))

/-- The pieces as cells. -/
def plist (x : Nat → Pc) (n : Nat) : List Value := (List.range n).map fun i => (x i).v
theorem plist_length (x : Nat → Pc) (n : Nat) : (plist x n).length = n := by simp [plist]
theorem plist_get (x : Nat → Pc) (n j : Nat) (h : j < n) : (plist x n)[j]? = some (x j).v := by simp [plist, h]
theorem plist_one (x : Nat → Pc) (n : Nat) : ∀ u ∈ plist x n, u.oneCell' = true := by
  intro u hu
  obtain ⟨i, _, rfl⟩ := List.mem_map.1 hu
  rfl
theorem add_plain (b off j : Nat) : (⟨b, off, none⟩ : Addr).add j = ⟨b, off + j, none⟩ := Addr.add_mid b off j

/-- What slices.Clone answers. -/
def SlRet (n : Nat) (x : Nat → Pc) (w : World) (e : Ending) (w' : World) : Prop :=
  (∃ g c, e = .returned (.slice (some ⟨g, 0, none⟩) n c) ∧ w.heap.size ≤ g ∧ w'.ownsRow w.heap.size 27 1 (.slice (some ⟨g, 0, none⟩) n c) n (plist x n)) ∧ Below w.heap.size w w'
set_option maxRecDepth 10000 in
set_option maxHeartbeats 1000000 in
/-- slices.Clone of a slice that is not nil. -/
theorem slClone_any (b off n cap : Nat) (x : Nat → Pc) (w : World) (hc : ∀ i, i < n → w.cell? ⟨b, off + i, none⟩ = some (x i).v) (hlt : b < w.heap.size) (hn : (n : Int) ≤ 65536) (hn0 : 0 < n) :
    Calls Try.prog 24 #[.slice (some ⟨b, off, none⟩) n cap] w fun e w' => SlRet n x w e w' := by
  have HC : Hid (∀ i, i < n → w.cell? ⟨b, off + i, none⟩ = some (x i).v) := hc
  clear hc
  obtain ⟨i0, hi, hz0, hz1, hz2⟩ := info_parts Try.info27
  have hnl := fun (w : World) (a : Option Addr) (n c : Nat) => Lib.run_eql_slice_nil (P := Try.prog) w 44 27 a n c 0 0 Try.underlying44
  have hcn : ∀ j u, (plist x n)[j]? = some u → (w.alloc (.cells #[] 27)).cell? ((⟨b, off, none⟩ : Addr).add j) = some u := fun j u hj => by
    have hjn : j < n := by have := (List.getElem?_eq_some_iff.1 hj).1; rwa [plist_length] at this
    rw [plist_get _ _ _ hjn] at hj
    rw [add_plain, ← hj]
    exact (((Below.refl _ w).alloc (Nat.le_refl _) _).cell (p := ⟨b, off + j, none⟩) hlt).trans (HC.out j hjn)
  have hown0 : (w.alloc (.cells #[] 27)).ownsRow w.heap.size 27 1 (.slice (some ⟨w.heap.size, 0, none⟩) 0 0) 0 [] := World.ownsRow_lit w #[] 0 (Nat.le_refl _) (by unfold maxLen; omega) rfl
  have HCN : Hid (∀ j u, (plist x n)[j]? = some u → (w.alloc (.cells #[] 27)).cell? ((⟨b, off, none⟩ : Addr).add j) = some u) := hcn
  clear hcn
  go_enter Try.func24, Try.ntmps24
  go_wp2_with (at_builtin; refine wpList_append_at rfl 7 rfl (.tmp 5) (.tmp 6) 44 rfl w.heap.size 27 i0 _ 1 24 Try.underlying44 hi hz0 hz1 hz2 rfl (by decide) _ 0 [] rfl hown0 n (plist x n) _ rfl (Or.inr ⟨_, _, rfl, HCN.out⟩) (by rw [plist_length, Nat.mul_one]) (plist_one x n) (by unfold maxLen; omega) (by omega) (by simp) ?_)
  intro v' w' ho hg hat
  have hb : Below w.heap.size w w' := ((Below.refl _ _).alloc (Nat.le_refl _) _).grown hg (by simp) (fun k h => by simp [Value.ownBlock] at h; omega)
  rcases ho.2 with ⟨_, h0⟩ | ⟨g, c, cur, rfl, hge, _⟩
  · omega
  · have HW : Hid (w'.ownsRow w.heap.size 27 1 (.slice (some ⟨g, 0, none⟩) n c) n (plist x n)) := ho
    clear ho hg hat hown0 hnl hi hz0 hz1 hz2
    go_wp2_with (fail)
    go_ret
    exact ⟨⟨g, c, rfl, hge, HW.out⟩, hb⟩
end Go.Proofs.Qxb6602723a
