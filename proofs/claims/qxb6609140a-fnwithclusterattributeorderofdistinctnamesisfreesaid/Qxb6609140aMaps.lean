/-
  A map[string]string of the call's own, told by what it answers: 'MapIs w b n f sz': block b of w is a map of at most n entries; at the key s it answers f s; it has sz entries. Its laws: made, looked up, counted, written, cloned, kept.
-/
import Derived.Test.Qxb6609140aProg
import Derived.WalkKit
import Derived.WalkSpells
import Derived.WalkLawsBesides
import Derived.Maps.OwnSet
import Derived.Maps.StringElems
namespace Go.Proofs.Qxb6609140a
open Go.RowKit
open Go.Maps (Keyed string_keyed)

theorem law : Keyed Try.prog 9 := string_keyed Try.underlying9
theorem zero9 (w : World) : (zeroValue 9).run Try.prog w = .ok (.string ⟨#[]⟩) w := by kernel_rfl

/-- A key's text, as data. -/
def kl (s : ByteArray) : Lit := .string s.data.toList
theorem kl_inj {a b : ByteArray} (h : kl a = kl b) : a = b := by
  unfold kl at h
  simp at h
  obtain ⟨⟨x⟩⟩ := a
  obtain ⟨⟨y⟩⟩ := b
  simp at h
  rw [h]
theorem kl_ne {a b : ByteArray} (h : a ≠ b) : kl a ≠ kl b := fun e => h (kl_inj e)
theorem kl_key (a : ByteArray) : WideAt.IsKeyLit (kl a) := trivial
theorem kl_of {s : ByteArray} (hs : s.size ≤ maxLen) : keyOf Try.prog 9 (.string s) = some (kl s) := WideMaps.keyOf_string_mk Try.underlying9 hs

/-- An element's text, as data. -/
def dl (s : ByteArray) : DataW Unit := .lit (.string s.data.toList)
theorem dl_inj {a b : ByteArray} (h : dl a = dl b) : a = b := by
  unfold dl at h
  simp at h
  obtain ⟨⟨x⟩⟩ := a
  obtain ⟨⟨y⟩⟩ := b
  simp at h
  rw [h]

def noS : ByteArray := ⟨#[]⟩

def MapIs (w : World) (b n : Nat) (f : ByteArray → Option ByteArray) (sz : Nat) : Prop :=
  ∃ D : DataW Unit, w.ownsMap Try.prog 9 (plainElem Try.prog 9) b n D ∧ Maps.size D = sz ∧ ∀ s : ByteArray, Maps.has D (kl s) = (f s).isSome ∧ D.atKey (kl s) (dl noS) = dl ((f s).getD noS)

theorem MapIs.made (w : World) : MapIs (w.alloc (.map #[] 0)) w.heap.size 0 (fun _ => none) 0 :=
  ⟨.map [], World.ownsMap_made _ _ _ _, rfl, fun _ => ⟨rfl, rfl⟩⟩

theorem MapIs.lt {w : World} {b n sz : Nat} {f : ByteArray → Option ByteArray} (h : MapIs w b n f sz) : b < w.heap.size := by
  obtain ⟨D, hD, _⟩ := h
  exact hD.lt

theorem MapIs.of_block {w w' : World} {b n sz : Nat} {f : ByteArray → Option ByteArray} (h : MapIs w b n f sz) (hb : w'.heap[b]? = w.heap[b]?) : MapIs w' b n f sz := by
  obtain ⟨D, ⟨es, clock, h1, h2⟩, h3⟩ := h
  exact ⟨D, ⟨es, clock, hb.trans h1, h2⟩, h3⟩

theorem MapIs.below {w w' : World} {B b n sz : Nat} {f : ByteArray → Option ByteArray} (h : MapIs w b n f sz) (hb : Below B w w') (hB : b < B) : MapIs w' b n f sz := h.of_block (hb.block b hB)

theorem MapIs.grown {w w' : World} {row : Option Nat} {b n sz : Nat} {f : ByteArray → Option ByteArray} (h : MapIs w b n f sz) (hg : w.grownBy w' row) (hne : some b ≠ row) : MapIs w' b n f sz := h.of_block (hg.block b h.lt hne)

theorem MapIs.look {w : World} {b n sz : Nat} {f : ByteArray → Option ByteArray} (h : MapIs w b n f sz) {s : ByteArray} (hs : s.size ≤ maxLen) :
    (Instr.lookup 40 (.map (some b)) (.string s) true).run Try.prog w = .ok (.tuple #[.string ((f s).getD noS), .bool (f s).isSome]) w := by
  obtain ⟨D, hD, _, h3⟩ := h
  obtain ⟨v, ps, hrun, hv⟩ := hD.look_ok (t := 40) (e := 9) law Try.underlying40 (zero9 w) (plainElem_string (s := noS) Try.underlying9 (by decide)) (kl_of hs)
  obtain ⟨u, rfl, hu, _⟩ := plainElem_string_inv Try.underlying9 hv
  simp only [Prod.mk.injEq] at hu
  have h4 : dl ((f s).getD noS) = dl u := (h3 s).2.symm.trans hu.1
  rw [(h3 s).1] at hrun
  rw [dl_inj h4]
  exact hrun

theorem MapIs.len {w : World} {b n sz : Nat} {f : ByteArray → Option ByteArray} (h : MapIs w b n f sz) (ty : TypeId) : (Builtin.len_ #[40] ty #[.map (some b)]).run Try.prog w = .ok (.int .i64 sz) w := by
  obtain ⟨D, hD, h2, _⟩ := h
  rw [hD.len Try.underlying40 ty, h2]

/-- The answers behind a store. -/
def put (f : ByteArray → Option ByteArray) (k v : ByteArray) : ByteArray → Option ByteArray := fun s => if s = k then some v else f s

/-- The count behind a store. -/
def szPut (f : ByteArray → Option ByteArray) (k : ByteArray) (sz : Nat) : Nat := if (f k).isSome then sz else sz + 1

theorem MapIs.store {w : World} {b n sz : Nat} {f : ByteArray → Option ByteArray} (h : MapIs w b n f sz) (hn : n < maxLen) {k v : ByteArray} (hk : k.size ≤ maxLen) (hv : v.size ≤ maxLen) :
    ∃ w', (Instr.mapUpdate 40 (.map (some b)) (.string k) (.string v)).run Try.prog w = .ok () w' ∧ MapIs w' b (n + 1) (put f k v) (szPut f k sz) ∧ w.grownBy w' (some b) := by
  obtain ⟨D, hD, h2, h3⟩ := h
  obtain ⟨w', hrun, hD', hg⟩ := hD.update (t := 40) (e := 9) law Try.underlying40 hn (kl_of hk) (plainElem_string (H := Unit) Try.underlying9 hv)
  refine ⟨w', hrun, ⟨_, hD', ?_, ?_⟩, hg⟩
  · rw [Maps.size_put (hD.tidy law), (h3 k).1, h2]; rfl
  · intro s
    by_cases e : s = k
    · subst e
      refine ⟨?_, ?_⟩
      · rw [Maps.has_put_same hD.isMap (kl_key s)]; simp [put]
      · rw [Maps.atKey_put_same hD.isMap (kl_key s)]; simp [put]; rfl
    · refine ⟨?_, ?_⟩
      · rw [Maps.has_put_other (kl_ne e), (h3 s).1]; simp [put, e]
      · rw [Maps.atKey_put_other (kl_ne e), (h3 s).2]; simp [put, e]

/-- The copy that maps.clone makes. -/
theorem MapIs.clone {w : World} {b n sz : Nat} {f : ByteArray → Option ByteArray} (h : MapIs w b n f sz) :
    ∃ o, (callFunc 31 #[.iface 40 (.map (some b))]).run Try.prog w = .ok (.value (.iface 40 (.map (some w.heap.size)))) (w.alloc o) ∧ MapIs (w.alloc o) w.heap.size n f sz := by
  obtain ⟨D, ⟨es, clock, h1, h2⟩, h3⟩ := h
  refine ⟨.map es clock, ?_, ⟨D, ⟨es, clock, (MapKept.heap_alloc w _).1, h2⟩, h3⟩⟩
  rw [run_callFunc_extern (P := Try.prog) Try.func31 (by kernel_rfl) (by kernel_rfl) (by kernel_rfl) (e := Extern.MapsClone.clone) (by kernel_rfl)]
  obtain ⟨m, hm⟩ : ∃ m, Extern.MapsClone.clone #[.iface 40 (.map (some b))] = (do
    let .map entries clock ← getObj b | stuck m
    pure (Value.iface 40 (.map (some (← newObj (.map entries clock)))))) := ⟨_, rfl⟩
  rw [hm]
  simp [MapKept.run_getObj_map h1, Result.andThen]
end Go.Proofs.Qxb6609140a
