/-
  The functions that make maps: maps.Clone, withNamed, zzAttrMap.
-/
import Derived.Test.Qxb6609140aFns
import Derived.Lib.SliceRun
namespace Go.Proofs.Qxb6609140a
open Go.RowKit

theorem run_assert_map (w : World) (v : Value) : (Instr.typeAssert (.iface 40 v) 20 40 false).run Try.prog w = .ok v w := by
  simp [Instr.typeAssert, run_underlying Try.underlying40, go_sem, Result.andThen]

set_option maxHeartbeats 400000 in
theorem clone_nil (w : World) : Calls Try.prog 27 #[.map none] w fun e w' => e = .returned (.map none) ∧ w' = w := by
  have hq := fun w => run_eql_map_nil (P := Try.prog) w 40 _ _ none Try.underlying40
  go_enter Try.func27, Try.ntmps27
  go_wp2
  go_ret
  exact ⟨rfl, rfl⟩

set_option maxRecDepth 100000 in
set_option maxHeartbeats 400000 in
theorem clone_some (b n sz : Nat) (f : ByteArray → Option ByteArray) (w : World) (hm : MapIs w b n f sz) :
    Calls Try.prog 27 #[.map (some b)] w fun e w' => e = .returned (.map (some w.heap.size)) ∧ MapIs w' w.heap.size n f sz ∧ Below w.heap.size w w' := by
  have hq := fun w => run_eql_map_nil (P := Try.prog) w 40 _ _ (some b) Try.underlying40
  obtain ⟨o, hrun, hm'⟩ := hm.clone
  have HR : Hid ((callFunc 31 #[.iface 40 (.map (some b))]).run Try.prog w = .ok (.value (.iface 40 (.map (some w.heap.size)))) (w.alloc o)) := hrun
  clear hm hrun
  go_enter Try.func27, Try.ntmps27
  go_wp2
  rw [HR.out]
  rw [Oper.upon_value]
  go_wp2
  rw [run_assert_map]
  simp only [Result.andThen]
  rw [Oper.upon_value]
  go_wp2
  go_ret
  exact ⟨rfl, hm', (Below.refl _ _).alloc (Nat.le_refl _) _⟩

/-- A map's value: nil, or a block that answers f. -/
def MapVal (w : World) (v : Value) (n : Nat) (f : ByteArray → Option ByteArray) (sz : Nat) : Prop :=
  (v = .map none ∧ f = (fun _ => none) ∧ sz = 0) ∨ ∃ b, v = .map (some b) ∧ MapIs w b n f sz

theorem wpList_store {ops : Array Oper} {rest : List Oper} {o : Oper} {a : Act} {Q : Exit → Act → World → Prop} (w : World)
    (hg : o.guard = none) (m x v : Operand) (hop : o.op = Op.mapUpdate 40 m x v) (b n sz : Nat) (f : ByteArray → Option ByteArray) (hm : a.eval m = .map (some b)) (hown : MapIs w b n f sz) (hn : n < maxLen)
    (key val : ByteArray) (hx : a.eval x = .string key) (hv : a.eval v = .string val) (hk : key.size ≤ maxLen) (hl : val.size ≤ maxLen)
    (hK : ∀ w', MapIs w' b (n + 1) (put f key val) (szPut f key sz) → w.grownBy w' (some b) → wpList Try.prog ops Q rest (a.put o.dst undef) w') :
    wpList Try.prog ops Q (o :: rest) a w := by
  refine wpList_plain hg fun K' hK' => ?_
  obtain ⟨w', hrun, r1, r2⟩ := hown.store hn hk hl
  unfold Oper.wp
  simp [execOp, hop, hm, hx, hv, hrun, Result.andThen]
  exact hK' _ _ (hK w' r1 r2)

set_option maxHeartbeats 400000 in
theorem named_any (v : Value) (n sz : Nat) (f : ByteArray → Option ByteArray) (key val : ByteArray) (w : World) (hm : MapVal w v n f sz) (hn : n < maxLen) (hk : key.size ≤ maxLen) (hl : val.size ≤ maxLen) :
    Calls Try.prog 21 #[v, .string key, .string val] w fun e w' => (∃ b, e = .returned (.map (some b)) ∧ w.heap.size ≤ b ∧ MapIs w' b (n + 1) (put f key val) (szPut f key sz)) ∧ Below w.heap.size w w' := by
  rcases hm with ⟨rfl, rfl, rfl⟩ | ⟨b, rfl, hm⟩
  · have hq := fun w => run_eql_map_nil (P := Try.prog) w 40 _ _ none Try.underlying40
    have hmm := @run_makeMap Try.prog
    have HM : Hid (MapIs (w.alloc (.map #[] 0)) w.heap.size n (fun _ => none) 0) := by
      obtain ⟨D, hD, h⟩ := MapIs.made w
      exact ⟨D, hD.mono (Nat.zero_le _), h⟩
    go_enter Try.func21, Try.ntmps21
    go_wp2_with (first
      | (go_at_call 27; refine (clone_nil _).mono ?_; rintro e w' ⟨rfl, hw⟩; subst hw)
      | (at_mapUpdate; refine wpList_store _ rfl _ _ _ rfl _ n 0 (fun _ => none) rfl HM.out hn key val rfl rfl hk hl ?_; intro w1 h1 h2))
    go_ret
    refine ⟨⟨_, rfl, Nat.le_refl _, by assumption⟩, ?_⟩
    refine Below.grown ((Below.refl _ _).alloc (Nat.le_refl _) _) (by assumption) (by simp) ?_
    intro k hk
    simp at hk
    omega
  · have hq := fun w r => run_eql_map_nil (P := Try.prog) w 40 _ _ r Try.underlying40
    have HM : Hid (MapIs w b n f sz) := hm
    clear hm
    go_enter Try.func21, Try.ntmps21
    go_wp2_with fail
    refine (clone_some b n sz f _ HM.out).mono ?_
    rintro e w1 ⟨rfl, hm1, hb1⟩
    have HM1 : Hid (MapIs w1 w.heap.size n f sz) := hm1
    have HB1 : Hid (Below w.heap.size w w1) := hb1
    clear hm1 hb1 HM
    go_wp2_with (at_mapUpdate; refine wpList_store _ rfl _ _ _ rfl _ n sz f rfl HM1.out hn key val rfl rfl hk hl ?_; intro w2 h1 h2)
    go_ret
    refine ⟨⟨_, rfl, Nat.le_refl _, by assumption⟩, ?_⟩
    refine HB1.out.grown (by assumption) HB1.out.size ?_
    intro k hk
    simp at hk
    omega
end Go.Proofs.Qxb6609140a
