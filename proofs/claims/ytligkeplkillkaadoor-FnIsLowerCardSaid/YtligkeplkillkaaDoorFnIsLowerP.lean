/-
  Each of the first 256 code points is a lower case letter by unicode.IsLower exactly if its category is Ll; for every other rune the law returns true at once.
  Conditions: none on the input. The card lists unicode.properties, tied to the program's text; unicode.Lower is left open (whatever it holds: the run never reads it).
-/
import Derived.Test.YtligkeplkillkaaDoorTie
import Derived.Test.YtligkeplkillkaaDoorCards
import Derived.Test.YtligkeplkillkaaDoorProps
import Derived.Test.YtligkeplkillkaaDoorLaws
import Derived.SevenTiedAt
import Derived.Stop.Joined
namespace Go.Proofs.YtligkeplkillkaaDoor
open Go.ChangeShapes Go.WideShapes Go.ChangeAt Go.RowKit

theorem lower_law (x : Int) (W : World) (hL : laidMetH Tryd.prog laidP W) : Calls Tryd.prog 5 #[.int .i32 x] W fun e w' => e = .returned (.bool true) ∧ Below W.heap.size W w' := by
  by_cases h : 0 ≤ x ∧ x ≤ 255
  · obtain ⟨r, rfl⟩ : ∃ r : Nat, x = r := ⟨x.toNat, by omega⟩
    exact lower_in r _ W h.2 (prop_cell hL r (by omega)) (eq_of_beq (all_at lower_all r (by omega)))
  · exact lower_out x W h

set_option maxRecDepth 100000 in
theorem lower_lifted (os : Os) (started : os.Started) (H : Type) (enc : TypeId × Value → H) :
    ReturnsInHanded {} Tryd.checked os 5 .any (fun w args => (Rows.fnIsLowerSpec.pre enc Tryd.prog Tryd.f5 Rows.fnIsLowerRow.domain false w args ∧ laidMetH Tryd.prog laidP w) ∧ sizedMet enc Tryd.prog Tryd.f5 (OpenSpec.ofChange Rows.fnIsLowerSpec) false w args)
      (Rows.fnIsLowerSpec.post enc Tryd.prog Tryd.f5 false true false false) := by
  refine returnsInHanded_of_change_and (C := Tryd.checked) (X := fun w _ => laidMetH Tryd.prog laidP w) (fun _ _ _ hh h => h.of_heap hh) own started (by kernel_rfl) Tryd.func5
    (ChangeSpec.witness_shaped (enc := enc) (C := Tryd.checked) (os := os) (X := fun w _ => laidMetH Tryd.prog laidP w) false (World.laidAll Tryd.prog os laidP) #[.int .i32 0] 8 (World.laidAll_os _ _ _)
      (World.shaped_of_ZipB (by kernel_rfl) (by kernel_rfl)) (by kernel_rfl) (by kernel_rfl) (by kernel_rfl)
      (by rw [MakeChecks.laidMetH_plain _ _ _ (by kernel_rfl)]; exact laidMet_laidAll _ (by kernel_rfl) (by kernel_rfl))) ?_
  intro W base args ds gs before hval0 hW _ _ hL _
  have hval : ∀ (j : Nat) t v, Tryd.f5.params[j]? = some t → args[j]? = some v → Value.okWide Tryd.prog W .any base t v := hval0
  have hW' := hW
  obtain ⟨p, q, hA0, hV, rfl, _, _⟩ := hW
  have hA : DataW.TrodAll enc Tryd.prog W 0 (fun _ => true) true Tryd.f5.params.toList args.toList ds p := hA0
  rw [Tryd.params5] at hA hval
  obtain ⟨v0, d0, rfl, rfl, h0⟩ := trodAll_one hA
  obtain ⟨x, rfl, rfl, rfl, wx⟩ := open_int Tryd.underlying21 (hval 0 21 v0 rfl rfl) h0
  refine (lower_law x W hL).mono fun e W' ⟨he, hb⟩ => ?_
  subst he
  obtain ⟨rfl, rfl⟩ := trodVars_none hV
  exact ⟨_, rfl, _, _, _, [], [], [], hW', trodAll_mk1 (shut_bool Tryd.underlying4 _), trodAll_mk1 (shut_int Tryd.underlying21 wx), rfl, hb.frame _, fun h => by cases h⟩

theorem lower_holds : Rows.FnIsLowerSaid :=
  OpenClaim.holds_of_wide 5 Tryd.f5 rfl rfl rfl rfl rfl rfl rfl ⟨rfl, rfl, rfl, rfl, rfl⟩ rfl rfl rfl rfl rfl (by kernel_rfl) Tryd.func5 (by kernel_rfl)
    (of_decide_eq_true (by kernel_rfl)) (by unfold Func.isWrapper; first | (rw [if_pos (by decide +kernel)]; kernel_rfl) | (rw [if_neg (by decide +kernel)]; exact ⟨rfl, rfl⟩))
    (fun os started H enc _ => lower_lifted os started H enc)
theorem lower_card_holds : Rows.FnIsLowerCardSaid :=
  Claim7.holds_tied_plain_at .later [] [.data] true (true, "88af6ec3e975835ad64fd8646f25d7c563a5c22cd33bd822513f14fad290fb0b") false lower_holds (fun _ h => by cases h) (by kernel_rfl) (fun _ h => by cases h) fnIsLower_row_tie rfl ⟨rfl, rfl⟩ (by kernel_rfl) rfl
    (fun f fn hf hfn => by
      obtain rfl : f = 5 := Option.some.inj ((show Tryd.prog.funcNamed Rows.fnIsLowerRow.func = some 5 by kernel_rfl).symm.trans hf) |>.symm
      obtain rfl : fn = Tryd.f5 := (Option.some.inj (Tryd.func5.symm.trans hfn)).symm
      exact ⟨by kernel_rfl, fun j t ht => by
        rw [Tryd.params5] at ht
        have hm : t ∈ [21] := by simpa using Array.mem_of_getElem? ht
        have hall : ([21].all fun u => !Tryd.prog.wantsStandIn u) = true := by kernel_rfl
        exact (show Tryd.prog.wantsStandIn t = false by simpa using List.all_eq_true.1 hall t hm)⟩)
    (by kernel_rfl)
#print axioms lower_card_holds
end Go.Proofs.YtligkeplkillkaaDoor
