/-
  modelTrun: the words; the box that is too short.
-/
import Derived.Test.Qxb6613648aFmtRun
import Derived.Deep.DeepCutAuto
namespace Go.Proofs.Qxb6613648aFmt
open Go.RowKit
set_option linter.unusedVariables false
attribute [local go_sem] setCell_drewN alloc_drewN

/-- The run as the box's bytes give it: its flags word, header, offset, first flags, entries' width and places. -/
def hdrOf (f : Int) : Int := 4 + 4 * bitI f 1 + 4 * bitI f 4
def atOf (B : Nat → Int) (bd : Nat) (base next f : Int) : Int := if hasBit f 1 then base + wrap32 (be B (bd + 8)) else next
def ffOf (B : Nat → Int) (bd : Nat) (fl f : Int) : Int := if hasBit f 4 then be B (bd + (hdrOf f).toNat) else fl
def wdOf (f : Int) : Int := 4 * (bitI f 256 + bitI f 512 + bitI f 1024 + bitI f 2048)
def saOf (f : Int) : Int := if hasBit f 512 then 4 * bitI f 256 else -1
def faOf (f : Int) : Int := if hasBit f 1024 then 4 * (bitI f 256 + bitI f 512) else -1

theorem wrap_bd (x : Int) : -2147483648 ≤ wrap32 x ∧ wrap32 x ≤ 2147483647 := by
  unfold wrap32; omega

/-- What a run that is told whole says. -/
structure MFacts (B : Nat → Int) (bd en : Nat) (sz fl : Int) (hs hf : Bool) (base next left n at' ent wd sa fa fs ff : Int) (fhs fhf : Bool) : Prop where
  e_n : n = be B (bd + 4)
  e_left : n ≤ left
  e_at : at' = atOf B bd base next (be24 B bd)
  e_ent : ent = bd + 4 + hdrOf (be24 B bd)
  e_wd : wd = wdOf (be24 B bd)
  e_sa : sa = saOf (be24 B bd)
  e_fa : fa = faOf (be24 B bd)
  e_fs : fs = sz
  e_ff : ff = ffOf B bd fl (be24 B bd)
  e_fhs : fhs = hs
  e_fhf : fhf = (hasBit (be24 B bd) 4 || hf)
  e_room : n * wd ≤ en - ent
  e_hdr : ent ≤ en
  e_one : 1 ≤ n → (hs = true ∨ 0 ≤ sa) ∧ (fhf = true ∨ 0 ≤ fa)
  e_two : 2 ≤ n → (hs = true ∨ 0 ≤ sa) ∧ (hf = true ∨ 0 ≤ fa)

def MPost (Q : Int → Int → Int → Int → Int → Int → Int → Int → Bool → Bool → Prop) (e : Ending) : Prop :=
  ∃ ok dc n at' ent en wd sa fa fs ff fhs fhf, e = .returned (mV ok dc n at' ent en wd sa fa fs ff fhs fhf) ∧ (ok = true → Q n at' ent wd sa fa fs ff fhs fhf)
theorem MPost.no {Q : Int → Int → Int → Int → Int → Int → Int → Int → Bool → Bool → Prop} {dc : Bool} {n at' ent en wd sa fa fs ff : Int} {fhs fhf : Bool} : MPost Q (.returned (mV false dc n at' ent en wd sa fa fs ff fhs fhf)) :=
  ⟨_, _, _, _, _, _, _, _, _, _, _, _, _, rfl, fun h => by cases h⟩
theorem MPost.yes {Q : Int → Int → Int → Int → Int → Int → Int → Int → Bool → Bool → Prop} {dc : Bool} {n at' ent en wd sa fa fs ff : Int} {fhs fhf : Bool} (h : Q n at' ent wd sa fa fs ff fhs fhf) : MPost Q (.returned (mV true dc n at' ent en wd sa fa fs ff fhs fhf)) :=
  ⟨_, _, _, _, _, _, _, _, _, _, _, _, _, rfl, fun _ => h⟩

set_option maxRecDepth 100000 in
set_option maxHeartbeats 1000000 in
theorem model_short (a : Option Addr) (len cap : Nat) (far left t0 t1 t2 t3 st bd en sz fl : Int) (hs hf : Bool) (base next : Int) (Q : Int → Int → Int → Int → Int → Int → Int → Int → Bool → Bool → Prop) (w : World) (h0 : 0 ≤ bd) (h1 : bd ≤ en) (h2 : en ≤ 1048576) (hsh : en - bd < 4) :
    Calls Tryf.prog 24 #[.slice a len cap, .int .i64 far, .int .u64 left, boxV t0 t1 t2 t3 st bd en, defV sz fl hs hf, .int .i64 base, .int .i64 next] w fun e w' => MPost Q e ∧ Below w.heap.size w w' := by
  go_enter Tryf.func24, Tryf.ntmps24
  go_wp2
  exact bodyPost_ret (v := mV false false 0 0 0 0 0 0 0 0 0 false false) (by simp [results, Tryf.results24, go_sem]) rfl ⟨.no, ((((Below.refl _ _).alloc (Nat.le_refl _) _).alloc (by simp) _).alloc (by simp; omega) _).alloc (by simp; omega) _⟩

def headReg : Code → Option Nat
  | .region n _ _ => some n
  | .seq a _ => headReg a
  | _ => none
/-- The statements from the one on that opens with region k. -/
def fromReg (k : Nat) : Code → Option Code
  | .seq a b => if headReg a = some k then some (.seq a b) else fromReg k b
  | _ => none
end Go.Proofs.Qxb6613648aFmt
