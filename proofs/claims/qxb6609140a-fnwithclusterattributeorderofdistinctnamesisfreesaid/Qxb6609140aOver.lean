/-
  The plain facts of the overlaid maps; the law's own structs.
-/
import Derived.Test.Qxb6609140aSame
namespace Go.Proofs.Qxb6609140a
open Go.RowKit

def base (K V : Nat → ByteArray) (len : Nat) : ByteArray → Option ByteArray := fun s => lastTo K V s len

theorem eq_true_of {a b : ByteArray} (h : a = b) : (a.toList == b.toList) = true := (eq_iff a b).2 h.symm
theorem eq_false_of {a b : ByteArray} (h : a ≠ b) : (a.toList == b.toList) = false := by
  cases e : (a.toList == b.toList)
  · rfl
  · exact absurd ((eq_iff a b).1 e).symm h

theorem over1 (K V : Nat → ByteArray) (len : Nat) (a va n2 v2 s : ByteArray) (h : s = a ∨ inTo K s len = true) : put (base K V len) a va s = some (expect K V len true a va false n2 v2 s) := by
  unfold put expect
  by_cases e : s = a
  · rw [if_pos e, if_neg (by simp), if_pos (by simp [eq_true_of e])]
  · rw [if_neg e, if_neg (by simp), if_neg (by simp [eq_false_of e])]
    have := last_in K V s len
    rcases h with h | h
    · exact absurd h e
    · rw [h] at this
      obtain ⟨v, hv⟩ := Option.isSome_iff_exists.1 this
      show lastTo K V s len = _
      rw [hv]; rfl

theorem over2 (K V : Nat → ByteArray) (len : Nat) (a va b vb s : ByteArray) (h : s = b ∨ s = a ∨ inTo K s len = true) : put (put (base K V len) a va) b vb s = some (expect K V len true a va true b vb s) := by
  by_cases e : s = b
  · unfold expect
    rw [if_pos (by simp [eq_true_of e])]
    simp [put, e]
  · have h1 := over1 K V len a va b vb s (by rcases h with h | h; exact absurd h e; exact h)
    unfold expect at h1 ⊢
    rw [if_neg (by simp)] at h1
    rw [if_neg (by simp [eq_false_of e]), ← h1]
    unfold put
    rw [if_neg e]

theorem size1 (K V : Nat → ByteArray) (len : Nat) (a n2 : ByteArray) : szPut (base K V len) a (distTo K len) = wantOf K len a false n2 := by
  unfold szPut wantOf base
  rw [last_in]
  cases inTo K a len <;> simp

theorem size2 (K V : Nat → ByteArray) (len : Nat) (a va b : ByteArray) : szPut (put (base K V len) a va) b (szPut (base K V len) a (distTo K len)) = wantOf K len a true b := by
  rw [size1 K V len a b]
  unfold szPut wantOf put base
  by_cases e : b = a
  · rw [if_pos e]
    simp [eq_true_of e]
  · rw [if_neg e, last_in, eq_false_of e]
    cases inTo K b len <;> simp

theorem over_comm (f : ByteArray → Option ByteArray) (a va b vb : ByteArray) (h : a ≠ b) : put (put f b vb) a va = put (put f a va) b vb := by
  funext s
  unfold put
  by_cases h1 : s = a
  · by_cases h2 : s = b
    · exact absurd (h1.symm.trans h2) h
    · simp [h1, h]
  · by_cases h2 : s = b
    · simp [h2, Ne.symm h]
    · simp [h1, h2]

theorem want_comm (K : Nat → ByteArray) (len : Nat) (a b : ByteArray) (h : a ≠ b) : wantOf K len b true a = wantOf K len a true b := by
  unfold wantOf
  rw [eq_false_of h, eq_false_of (Ne.symm h)]
  cases inTo K a len <;> cases inTo K b len <;> simp

/-- A struct of the law's own whose map answers f. -/
def Sh (w : World) (p : Nat) (m : Option Nat) (n : Nat) (f : ByteArray → Option ByteArray) (sz : Nat) : Prop := SharedAt w p (.map m) ∧ MapVal w (.map m) n f sz

theorem MapVal.below {w w' : World} {v : Value} {n : Nat} {f : ByteArray → Option ByteArray} {sz : Nat} (h : MapVal w v n f sz) (hb : Below w.heap.size w w') : MapVal w' v n f sz := by
  rcases h with h | ⟨b, e, h⟩
  · exact .inl h
  · exact .inr ⟨b, e, h.below hb h.lt⟩

theorem Sh.below {w w' : World} {p : Nat} {m : Option Nat} {n : Nat} {f : ByteArray → Option ByteArray} {sz : Nat} (h : Sh w p m n f sz) (hb : Below w.heap.size w w') : Sh w' p m n f sz :=
  ⟨h.1.below hb h.1.lt, h.2.below hb⟩

theorem Sh.new {w : World} {b n : Nat} {f : ByteArray → Option ByteArray} {sz : Nat} (h : MapIs w b n f sz) :
    Sh (w.alloc (.cells #[.slice none 0 0, .slice none 0 0, .slice none 0 0, .slice none 0 0, .slice none 0 0, .string ⟨#[]⟩, .slice none 0 0, .map none, .map none, .map (some b)] 44)) w.heap.size (some b) n f sz :=
  ⟨(MapKept.heap_alloc w _).1, .inr ⟨b, rfl, h.below ((Below.refl w.heap.size w).alloc (Nat.le_refl _) _) h.lt⟩⟩

theorem Sh.cell {w : World} {p : Nat} {m : Option Nat} {n : Nat} {f : ByteArray → Option ByteArray} {sz : Nat} (h : Sh w p m n f sz) : w.cell? ⟨p, 9, none⟩ = some (.map m) := by
  simp [World.cell?, show w.heap[p]? = _ from h.1]

theorem Sh.map {w : World} {p b : Nat} {n : Nat} {f : ByteArray → Option ByteArray} {sz : Nat} (h : Sh w p (some b) n f sz) : MapIs w b n f sz := by
  rcases h.2 with ⟨h0, _⟩ | ⟨c, e, h1⟩
  · cases h0
  · cases e; exact h1
end Go.Proofs.Qxb6609140a
