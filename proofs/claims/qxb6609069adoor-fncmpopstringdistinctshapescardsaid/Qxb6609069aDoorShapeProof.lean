/-
  FnCmpOpStringDistinctShapes: the plain facts of the ten texts; the row; the tied card.
-/
import Derived.Test.Qxb6609069aDoorShapeWalks
import Derived.Test.Qxb6609069aDoorLaid
import Derived.Test.Qxb6609069aDoorTie
import Derived.Test.Qxb6609069aDoorCards
import Derived.SevenTiedAt
namespace Go.Proofs.Qxb6609069aDoor
open Go.ChangeShapes Go.WideShapes Go.ChangeAt Go.WideMaps Go.WideElems Go.RowKit

theorem sym_size (i : Nat) (h : i < syms.length) : 1 ≤ syms[i].size ∧ syms[i].size ≤ 6 := by
  have : ∀ s ∈ syms, 1 ≤ s.size ∧ s.size ≤ 6 := by decide
  exact this _ (List.getElem_mem h)
theorem sym_ends (i : Nat) (h : i < syms.length) : (∀ h0 : 0 < syms[i].size, (syms[i][0]).toNat ≠ 32) ∧ (∀ h0 : syms[i].size - 1 < syms[i].size, (syms[i][syms[i].size - 1]).toNat ≠ 32) := by
  have : ∀ s ∈ syms, (∀ h0 : 0 < s.size, (s[0]).toNat ≠ 32) ∧ (∀ h0 : s.size - 1 < s.size, (s[s.size - 1]).toNat ≠ 32) := by decide
  exact this _ (List.getElem_mem h)
theorem sym_eq (i j : Nat) (hi : i < syms.length) (hj : j < syms.length) : (!(syms[i].toList == syms[j].toList) == ((i : Int) == (j : Int))) = false := by
  have : ∀ a b : Fin 10, (!((syms[a.1]'a.2).data.toList == (syms[b.1]'b.2).data.toList) == ((a.1 : Int) == (b.1 : Int))) = false := by decide
  rw [ByteArray.toList_eq, ByteArray.toList_eq]
  exact this ⟨i, hi⟩ ⟨j, hj⟩
theorem sym_word (i : Nat) (h : i < syms.length) (h6 : 6 ≤ i) : Wordy syms[i] := by
  have : ∀ s ∈ syms.drop 6, ∀ i, (h : i < s.size) → (s[i].toNat = 32 ∧ ∃ h' : i + 1 < s.size, s[i + 1].toNat ≠ 32) ∨ (97 ≤ s[i].toNat ∧ s[i].toNat ≤ 122) := by decide
  refine this _ ?_
  have : (syms.drop 6)[i - 6]? = some syms[i] := by
    rw [List.getElem?_drop, show 6 + (i - 6) = i by omega]
    exact List.getElem?_eq_getElem h
  exact List.mem_of_getElem? this
theorem sym_symb (i : Nat) (h : i < syms.length) (h6 : i < 6) : Symby syms[i] := by
  have : ∀ s ∈ syms.take 6, ∀ i, (h : i < s.size) → s[i].toNat = 60 ∨ s[i].toNat = 62 ∨ s[i].toNat = 61 ∨ s[i].toNat = 33 := by decide
  refine this _ ?_
  have : (syms.take 6)[i]? = some syms[i] := by
    rw [List.getElem?_take_of_lt h6]
    exact List.getElem?_eq_getElem h
  exact List.mem_of_getElem? this

/-- The walk at every pair of bytes. -/
theorem shapes_all (a b : Int) (W : World) (ha : 0 ≤ a ∧ a ≤ 255) (hb : 0 ≤ b ∧ b ≤ 255) (hv : W.var? Tryd.prog symN = some cells10) :
    Calls Tryd.prog 3 #[.int .u8 a, .int .u8 b] W fun e w' => e = .returned (.bool true) ∧ w' = W := by
  by_cases hbig : 10 ≤ a ∨ 10 ≤ b
  · exact shapes_big a b W ha.1 ha.2 hb.1 hb.2 hbig
  · obtain ⟨i, rfl⟩ : ∃ i : Nat, a = i := ⟨a.toNat, by omega⟩
    obtain ⟨j, rfl⟩ : ∃ j : Nat, b = j := ⟨b.toNat, by omega⟩
    have hi : i < syms.length := by show i < 10; omega
    have hj : j < syms.length := by show j < 10; omega
    have hcs := cell_of hv i hi
    have hct := cell_of hv j hj
    have hz := sym_size i hi
    have hen := sym_ends i hi
    by_cases h6 : 6 ≤ i
    · exact shapes_word i j _ _ W (by omega) (by omega) (by omega) (by omega) (by simpa using hcs) (by simpa using hct) hz.1 hz.2 (sym_eq i j hi hj) hen.1 hen.2 (by omega) (sym_word i hi h6)
    · exact shapes_sym i j _ _ W (by omega) (by omega) (by omega) (by omega) (by simpa using hcs) (by simpa using hct) hz.1 hz.2 (sym_eq i j hi hj) hen.1 hen.2 (by omega) (sym_symb i hi (by omega))

set_option maxRecDepth 100000 in
theorem shapes_lifted (os : Os) (started : os.Started) (H : Type) (enc : TypeId × Value → H) :
    ReturnsInHanded {} Tryd.checked os 3 .any (fun w args => (Rows.fnCmpOpStringDistinctShapesSpec.pre enc Tryd.prog Tryd.f3 [] false w args ∧ laidMetH Tryd.prog laid1 w) ∧ sizedMet enc Tryd.prog Tryd.f3 (OpenSpec.ofChange Rows.fnCmpOpStringDistinctShapesSpec) false w args)
      (Rows.fnCmpOpStringDistinctShapesSpec.post enc Tryd.prog Tryd.f3 false true false false) := by
  refine returnsInHanded_of_change_and (C := Tryd.checked) (X := fun w _ => laidMetH Tryd.prog laid1 w) (fun _ _ _ hh h => h.of_heap hh) own started (by kernel_rfl) Tryd.func3
    (ChangeSpec.witness_shaped (enc := enc) (C := Tryd.checked) (os := os) (X := fun w _ => laidMetH Tryd.prog laid1 w) false (World.doorLaid Tryd.prog 400 os) #[.int .u8 0, .int .u8 0] 8 rfl (World.shaped_of_RefB (by kernel_rfl) (by kernel_rfl)) (by kernel_rfl) (by kernel_rfl) (by kernel_rfl) (door_met os _)) ?_
  intro W base args ds gs before hval0 hW _ _ hL _
  have hval : ∀ (j : Nat) t v, Tryd.f3.params[j]? = some t → args[j]? = some v → Value.okWide Tryd.prog W .any base t v := hval0
  have hW' := hW
  obtain ⟨p, q, hA0, hV0, rfl, hfz, hnd⟩ := hW
  have hA : DataW.TrodAll enc Tryd.prog W 0 (fun _ => true) true Tryd.f3.params.toList args.toList ds p := hA0
  have hV : DataW.TrodVars enc Tryd.prog W (fun _ => true) [symN] gs q := hV0
  rw [Tryd.params3] at hA hval
  obtain ⟨v0, v1, d0, d1, p0, p1, rfl, rfl, rfl, h0, h1⟩ := trodAll_two hA
  obtain ⟨a, rfl, rfl, rfl, wa⟩ := open_int Tryd.underlying5 (hval 0 5 v0 rfl rfl) h0
  obtain ⟨b, rfl, rfl, rfl, wb⟩ := open_int Tryd.underlying5 (hval 1 5 v1 rfl rfl) h1
  obtain ⟨g, t, cs, fuel, d, p', rfl, hg, ht, hvar, hd, rfl⟩ := trodVars_one hV
  obtain rfl := Option.some.inj (gSym.symm.trans hg)
  obtain rfl := Option.some.inj (tSym.symm.trans ht)
  obtain rfl : cs = cells10 := Option.some.inj (hvar.symm.trans (cells_of_laid hL))
  obtain ⟨rfl, rfl⟩ := DataW.Trod.unique (v := .agg cells10) ⟨fuel, hd⟩ ⟨3, reads_table enc W _⟩
  clear hA0 hV0 hval0
  have hvars : ∀ sp : Nat → Bool, DataW.TrodVars enc Tryd.prog W sp [symN] [symD] (MemPlace.row ⟨0, 0, none⟩ cells10.size ++ [] ++ []) := fun sp =>
    ⟨0, 31, cells10, 3, [], [], hg, ht, hvar, reads_table enc W sp, rfl, rfl⟩
  refine (shapes_all a b W (bounds_u8 wa) (bounds_u8 wb) hvar).mono fun e W' ⟨he, hw⟩ => ?_
  subst he; subst hw
  exact ⟨_, rfl, post_of_same (pa := []) hW' (fun _ _ _ => trodAll_mk1 (shut_bool Tryd.underlying4 true)) (fun sp _ => trodAll_mk2 (shut_int Tryd.underlying5 wa) (shut_int Tryd.underlying5 wb)) (fun sp _ => hvars sp) (by simp)
      (World.keptBut_refl _ _) (fun _ => rfl) (ok_one (by kernel_rfl) rfl (okWide_bool_mk Tryd.underlying4 true))⟩

theorem shapes_holds : Rows.FnCmpOpStringDistinctShapesSaid :=
  OpenClaim.holds_of_wide 3 Tryd.f3 rfl rfl rfl rfl rfl rfl rfl ⟨rfl, rfl, rfl, rfl, rfl⟩ rfl rfl rfl rfl rfl (by kernel_rfl) Tryd.func3 (by kernel_rfl)
    (of_decide_eq_true (by kernel_rfl)) (by unfold Func.isWrapper; first | (rw [if_pos (by decide +kernel)]; kernel_rfl) | (rw [if_neg (by decide +kernel)]; exact ⟨rfl, rfl⟩))
    (fun os started H enc _ => shapes_lifted os started H enc)

theorem shapes_card : Rows.FnCmpOpStringDistinctShapesCardSaid :=
  Claim7.holds_tied_plain_at .later [] [.data] true (true, "0a601da4616c8bf135264a7437ce25a98aa6b3470021dc085f9358985bc59e94") false
    shapes_holds (fun _ h => by cases h) (by kernel_rfl) (fun _ h => by cases h) fnCmpOpStringDistinctShapes_row_tie rfl ⟨rfl, rfl⟩ (by kernel_rfl) rfl
    (fun f fn hf hfn => by
      obtain rfl : f = 3 := Option.some.inj ((show Tryd.prog.funcNamed Rows.fnCmpOpStringDistinctShapesRow.func = some 3 by kernel_rfl).symm.trans hf) |>.symm
      obtain rfl : fn = Tryd.f3 := (Option.some.inj (Tryd.func3.symm.trans hfn)).symm
      exact ⟨by kernel_rfl, fun j t ht => by
        rw [Tryd.params3] at ht
        have hm : t ∈ [5, 5] := by simpa using Array.mem_of_getElem? ht
        have hall : ([5, 5].all fun u => !Tryd.prog.wantsStandIn u) = true := by kernel_rfl
        exact (show Tryd.prog.wantsStandIn t = false by simpa using List.all_eq_true.1 hall t hm)⟩)
    (by kernel_rfl)
end Go.Proofs.Qxb6609069aDoor
