/-
  FnCmpOpStringNegation: the walk at every byte; the row; the tied card.
-/
import Derived.Test.Qxb6609069aDoorNegWalks
import Derived.Test.Qxb6609069aDoorLaid
import Derived.Test.Qxb6609069aDoorTie
import Derived.Test.Qxb6609069aDoorCards
import Derived.SevenTiedAt
namespace Go.Proofs.Qxb6609069aDoor
open Go.ChangeShapes Go.WideShapes Go.ChangeAt Go.WideMaps Go.WideElems Go.RowKit

theorem full_of {s : ByteArray} (h : s.data.toList.isEmpty = false) : s.toList.isEmpty = false := by rw [ByteArray.toList_eq]; exact h
theorem differ_of {s t : ByteArray} {b : Bool} (h : (s.data.toList == t.data.toList) = b) : (s.toList == t.toList) = b := by rw [ByteArray.toList_eq, ByteArray.toList_eq]; exact h
theorem word_of {s : ByteArray} {l : List UInt8} {b : Bool} (h : (s.data.toList == l) = b) : (s.toList == l) = b := by rw [ByteArray.toList_eq]; exact h

theorem words6 : wordsW ⟨#[105, 115]⟩ = [⟨#[105, 115]⟩] := by decide +kernel
theorem words7 : wordsW ⟨#[105, 115, 32, 110, 111, 116]⟩ = [⟨#[105, 115]⟩, ⟨#[110, 111, 116]⟩] := by decide +kernel
theorem words8 : wordsW ⟨#[105, 110]⟩ = [⟨#[105, 110]⟩] := by decide +kernel
theorem words9 : wordsW ⟨#[110, 111, 116, 32, 105, 110]⟩ = [⟨#[110, 111, 116]⟩, ⟨#[105, 110]⟩] := by decide +kernel

/-- The walk at every byte. -/
theorem negation_all (a : Int) (W : World) (ha : 0 ≤ a ∧ a ≤ 255) (hv : W.var? Tryd.prog symN = some cells10) :
    Calls Tryd.prog 4 #[.int .u8 a] W fun e w' => e = .returned (.bool true) ∧ Below W.heap.size W w' := by
  by_cases hbig : 10 ≤ a
  · exact negation_big a W hbig ha.2
  · obtain ⟨i, rfl⟩ : ∃ i : Nat, a = i := ⟨a.toNat, by omega⟩
    have hi : i < 10 := by omega
    clear hbig ha
    have c := cell_of hv
    match i, hi with
    | 0, _ => exact negation_sym 0 (by decide) _ _ W (c 0 (by decide)) (c 1 (by decide)) (by decide) (full_of (by decide)) (full_of (by decide)) (differ_of (by decide)) (by decide) (by decide) sym0 sym1
    | 1, _ => exact negation_sym 1 (by decide) _ _ W (c 1 (by decide)) (c 0 (by decide)) (by decide) (full_of (by decide)) (full_of (by decide)) (differ_of (by decide)) (by decide) (by decide) sym1 sym0
    | 2, _ => exact negation_sym 2 (by decide) _ _ W (c 2 (by decide)) (c 5 (by decide)) (by decide) (full_of (by decide)) (full_of (by decide)) (differ_of (by decide)) (by decide) (by decide) sym2 sym5
    | 3, _ => exact negation_sym 3 (by decide) _ _ W (c 3 (by decide)) (c 4 (by decide)) (by decide) (full_of (by decide)) (full_of (by decide)) (differ_of (by decide)) (by decide) (by decide) sym3 sym4
    | 4, _ => exact negation_sym 4 (by decide) _ _ W (c 4 (by decide)) (c 3 (by decide)) (by decide) (full_of (by decide)) (full_of (by decide)) (differ_of (by decide)) (by decide) (by decide) sym4 sym3
    | 5, _ => exact negation_sym 5 (by decide) _ _ W (c 5 (by decide)) (c 2 (by decide)) (by decide) (full_of (by decide)) (full_of (by decide)) (differ_of (by decide)) (by decide) (by decide) sym5 sym2
    | 6, _ => exact negation_short 6 (by decide) (by decide) _ _ _ _ _ _ W (c 6 (by decide)) (c 7 (by decide)) (by decide) (full_of (by decide)) (full_of (by decide)) (differ_of (by decide)) (by decide) (by decide) words6 words7 (word_of (by decide)) (word_of (by decide)) (.inr ⟨rfl, rfl⟩)
    | 7, _ => exact negation_long 7 (by decide) (by decide) _ _ _ _ _ _ W (c 7 (by decide)) (c 6 (by decide)) (by decide) (full_of (by decide)) (full_of (by decide)) (differ_of (by decide)) (by decide) (by decide) words7 words6 (word_of (by decide)) (word_of (by decide)) (.inr ⟨rfl, rfl⟩)
    | 8, _ => exact negation_short 8 (by decide) (by decide) _ _ _ _ _ _ W (c 8 (by decide)) (c 9 (by decide)) (by decide) (full_of (by decide)) (full_of (by decide)) (differ_of (by decide)) (by decide) (by decide) words8 words9 (word_of (by decide)) (word_of (by decide)) (.inl ⟨rfl, rfl⟩)
    | 9, _ => exact negation_long 9 (by decide) (by decide) _ _ _ _ _ _ W (c 9 (by decide)) (c 8 (by decide)) (by decide) (full_of (by decide)) (full_of (by decide)) (differ_of (by decide)) (by decide) (by decide) words9 words8 (word_of (by decide)) (word_of (by decide)) (.inl ⟨rfl, rfl⟩)

set_option maxRecDepth 100000 in
theorem negation_lifted (os : Os) (started : os.Started) (H : Type) (enc : TypeId × Value → H) :
    ReturnsInHanded {} Tryd.checked os 4 .any (fun w args => (Rows.fnCmpOpStringNegationSpec.pre enc Tryd.prog Tryd.f4 [] false w args ∧ laidMetH Tryd.prog laid1 w) ∧ sizedMet enc Tryd.prog Tryd.f4 (OpenSpec.ofChange Rows.fnCmpOpStringNegationSpec) false w args)
      (Rows.fnCmpOpStringNegationSpec.post enc Tryd.prog Tryd.f4 false true false false) := by
  refine returnsInHanded_of_change_and (C := Tryd.checked) (X := fun w _ => laidMetH Tryd.prog laid1 w) (fun _ _ _ hh h => h.of_heap hh) own started (by kernel_rfl) Tryd.func4
    (ChangeSpec.witness_shaped (enc := enc) (C := Tryd.checked) (os := os) (X := fun w _ => laidMetH Tryd.prog laid1 w) false (World.doorLaid Tryd.prog 400 os) #[.int .u8 0] 8 rfl (World.shaped_of_RefB (by kernel_rfl) (by kernel_rfl)) (by kernel_rfl) (by kernel_rfl) (by kernel_rfl) (door_met os _)) ?_
  intro W base args ds gs before hval0 hW _ _ hL _
  have hval : ∀ (j : Nat) t v, Tryd.f4.params[j]? = some t → args[j]? = some v → Value.okWide Tryd.prog W .any base t v := hval0
  have hW' := hW
  obtain ⟨p, q, hA0, hV0, rfl, hfz, hnd⟩ := hW
  have hA : DataW.TrodAll enc Tryd.prog W 0 (fun _ => true) true Tryd.f4.params.toList args.toList ds p := hA0
  have hV : DataW.TrodVars enc Tryd.prog W (fun _ => true) [symN] gs q := hV0
  rw [Tryd.params4] at hA hval
  obtain ⟨v0, d0, rfl, rfl, h0⟩ := trodAll_one hA
  obtain ⟨a, rfl, rfl, rfl, wa⟩ := open_int Tryd.underlying5 (hval 0 5 v0 rfl rfl) h0
  obtain ⟨g, t, cs, fuel, d, p', rfl, hg, ht, hvar, hd, rfl⟩ := trodVars_one hV
  obtain rfl := Option.some.inj (gSym.symm.trans hg)
  obtain rfl := Option.some.inj (tSym.symm.trans ht)
  obtain rfl : cs = cells10 := Option.some.inj (hvar.symm.trans (cells_of_laid hL))
  obtain ⟨rfl, rfl⟩ := DataW.Trod.unique (v := .agg cells10) ⟨fuel, hd⟩ ⟨3, reads_table enc W _⟩
  clear hA0 hV0 hval0
  have hpos : 0 < W.heap.size := by
    have h0 := cell_of hvar 0 (by decide)
    rcases Nat.eq_zero_or_pos W.heap.size with h | h
    · simp [World.cell?, Array.getElem?_eq_none (by omega : W.heap.size ≤ 0)] at h0
    · exact h
  refine (negation_all a W (bounds_u8 wa) hvar).mono fun e W' ⟨he, bel⟩ => ?_
  subst he
  have hvar' : W'.var? Tryd.prog symN = some cells10 := var?_below bel gSym hpos hvar
  have hvars : ∀ sp : Nat → Bool, DataW.TrodVars enc Tryd.prog W' sp [symN] [symD] (MemPlace.row ⟨0, 0, none⟩ cells10.size ++ [] ++ []) := fun sp =>
    ⟨0, 31, cells10, 3, [], [], hg, ht, hvar', reads_table enc W' sp, rfl, rfl⟩
  exact ⟨_, rfl, _, _, _, [], [], (MemPlace.row ⟨0, 0, none⟩ cells10.size ++ [] ++ []), hW', trodAll_mk1 (shut_bool Tryd.underlying4 _), trodAll_mk1 (shut_int Tryd.underlying5 wa), hvars _, bel.frame _, fun h => by cases h⟩

theorem negation_holds : Rows.FnCmpOpStringNegationSaid :=
  OpenClaim.holds_of_wide 4 Tryd.f4 rfl rfl rfl rfl rfl rfl rfl ⟨rfl, rfl, rfl, rfl, rfl⟩ rfl rfl rfl rfl rfl (by kernel_rfl) Tryd.func4 (by kernel_rfl)
    (of_decide_eq_true (by kernel_rfl)) (by unfold Func.isWrapper; first | (rw [if_pos (by decide +kernel)]; kernel_rfl) | (rw [if_neg (by decide +kernel)]; exact ⟨rfl, rfl⟩))
    (fun os started H enc _ => negation_lifted os started H enc)

theorem negation_card : Rows.FnCmpOpStringNegationCardSaid :=
  Claim7.holds_tied_plain_at .later [] [.data] true (true, "0a601da4616c8bf135264a7437ce25a98aa6b3470021dc085f9358985bc59e94") false
    negation_holds (fun _ h => by cases h) (by kernel_rfl) (fun _ h => by cases h) fnCmpOpStringNegation_row_tie rfl ⟨rfl, rfl⟩ (by kernel_rfl) rfl
    (fun f fn hf hfn => by
      obtain rfl : f = 4 := Option.some.inj ((show Tryd.prog.funcNamed Rows.fnCmpOpStringNegationRow.func = some 4 by kernel_rfl).symm.trans hf) |>.symm
      obtain rfl : fn = Tryd.f4 := (Option.some.inj (Tryd.func4.symm.trans hfn)).symm
      exact ⟨by kernel_rfl, fun j t ht => by
        rw [Tryd.params4] at ht
        have hm : t ∈ [5] := by simpa using Array.mem_of_getElem? ht
        have hall : ([5].all fun u => !Tryd.prog.wantsStandIn u) = true := by kernel_rfl
        exact (show Tryd.prog.wantsStandIn t = false by simpa using List.all_eq_true.1 hall t hm)⟩)
    (by kernel_rfl)
end Go.Proofs.Qxb6609069aDoor
