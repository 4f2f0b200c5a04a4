import Derived.Test.YtbigjdlcmlopcaaGreatDoorCards
import Derived.Test.YtbigjdlcmlopcaaGreatDoorTie
import Derived.Test.YtbigjdlcmlopcaaGreatDoorShelfB
import Derived.WalkKit
import Derived.ProofKit
import Derived.Lay
import Derived.PinnedBridge
import Derived.Lib.LaidU8T
import Derived.SevenTiedAt
import Derived.Deep.DeepHandedRow
import Derived.Deep.DeepWitnessRowRef
namespace Go.Proofs.YtbigjdlcmlopcaaGreatDoor
open Go.ChangeShapes Go.WideShapes Go.ChangeAt Go.RowKit Go.Lib Go.Shelf
open Go.ChangeMaps (setBlock shut_map_nil open_string shut_string keptBut_setBlock frozen?_setBlock heap_setBlock_same)

/-- What a walk of a law over three texts gives. -/
def Walk3 (f : FuncId) : Prop := ∀ (a b c : ByteArray) (W : World), a.size ≤ 9223372036854775807 → b.size ≤ 9223372036854775807 → c.size ≤ 9223372036854775807 → Lib.Utf8Tabs 0 1 W →
  Calls Tryz.prog f #[.string a, .string b, .string c] W fun e w' => e = .returned (.bool true) ∧ Below W.heap.size W w'

theorem own : ownKnob Tryz.prog.godebug = none := by kernel_rfl
theorem u8x : U8Extra Tryz.prog Tryz.renV := ⟨by kernel_rfl, by kernel_rfl, by kernel_rfl, by kernel_rfl, by kernel_rfl, by kernel_rfl, by kernel_rfl⟩
theorem accept_eq : (Rows.laid_unicode_utf8_acceptRanges : DataW Unit) = acceptData := by kernel_rfl
theorem first_eq : Rows.laid_unicode_utf8_first = firstData := Pinned.utf8First_eq

theorem tabs {W : World} (hL : laidMet Tryz.prog Rows.fnAnyLocalIsParsedRow.laid W) : Lib.Utf8Tabs 0 1 W :=
  utf8Tabs_of_readsT (U8Types.of196 Tryz.laysB196) u8x (first_eq ▸ Lib.laidMet.reads hL (by simp [Rows.fnAnyLocalIsParsedRow])) (accept_eq ▸ Lib.laidMet.reads hL (.head _))

set_option maxRecDepth 100000 in
theorem contract (hw : Walk3 3) (H : Type) (enc : TypeId × Value → H) (W : World) (base : Nat) (args : Array Value) (ds gs : List (DataW H)) (before : List MemPlace)
    (hval : ∀ (j : Nat) t v, Tryz.f3.params[j]? = some t → args[j]? = some v → Value.okWide Tryz.prog W .any base t v)
    (hW : DataW.Whole enc Tryz.prog Tryz.f3.params.toList Rows.fnAnyLocalIsParsedSpec.vars false W args.toList ds gs before) (hT : Lib.Utf8Tabs 0 1 W) :
    Calls Tryz.prog 3 args W fun e W' => ∃ v, e = .returned v ∧ Rows.fnAnyLocalIsParsedSpec.post enc Tryz.prog Tryz.f3 false true false false W args v W' := by
  have hW' := hW
  obtain ⟨p, q, hA0, hV, rfl, hfz, hnd⟩ := hW
  have hA : DataW.TrodAll enc Tryz.prog W 0 (fun _ => true) true Tryz.f3.params.toList args.toList ds p := hA0
  rw [Tryz.params3] at hA hval
  obtain ⟨v0, v1, v2, d0, d1, d2, p0, p1, p2, rfl, rfl, rfl, h0, h1, h2⟩ := trodAll_three hA
  obtain ⟨rfl, rfl⟩ := trodVars_none hV
  obtain ⟨a, rfl, rfl, rfl, wa⟩ := open_string Tryz.underlying9 (hval 0 9 v0 rfl rfl) h0
  obtain ⟨b, rfl, rfl, rfl, wb⟩ := open_string Tryz.underlying9 (hval 1 9 v1 rfl rfl) h1
  obtain ⟨c, rfl, rfl, rfl, wc⟩ := open_string Tryz.underlying9 (hval 2 9 v2 rfl rfl) h2
  simp only [List.append_nil] at hW'
  refine (hw a b c W wa wb wc hT).mono fun e W' ⟨he, hb⟩ => ?_
  subst he
  exact ⟨_, rfl, _, _, _, [], [], [], hW', trodAll_mk1 (shut_bool Tryz.underlying4 _), trodAll_mk3 (shut_string Tryz.underlying9 wa) (shut_string Tryz.underlying9 wb) (shut_string Tryz.underlying9 wc), rfl, hb.frame _, fun h => by cases h⟩

set_option maxRecDepth 100000 in
theorem lifted (hw : Walk3 3) (os : Os) (started : os.Started) (H : Type) (enc : TypeId × Value → H) :
    ReturnsInHanded {} Tryz.checked os 3 .any (fun w args => (Rows.fnAnyLocalIsParsedSpec.pre enc Tryz.prog Tryz.f3 [] false w args ∧ laidMetH Tryz.prog Rows.fnAnyLocalIsParsedRow.laid w) ∧ sizedMet enc Tryz.prog Tryz.f3 (OpenSpec.ofChange Rows.fnAnyLocalIsParsedSpec) false w args)
      (Rows.fnAnyLocalIsParsedSpec.post enc Tryz.prog Tryz.f3 false true false false) := by
  refine returnsInHanded_of_change_and (C := Tryz.checked) (X := fun w _ => laidMetH Tryz.prog Rows.fnAnyLocalIsParsedRow.laid w) (fun _ _ _ hh h => h.of_heap hh) own started (by kernel_rfl) Tryz.func3
    (ChangeSpec.witness_shaped (enc := enc) (C := Tryz.checked) (os := os) (X := fun w _ => laidMetH Tryz.prog Rows.fnAnyLocalIsParsedRow.laid w) false (World.laidAll Tryz.prog os Rows.fnAnyLocalIsParsedRow.laid) #[.string ⟨#[]⟩, .string ⟨#[]⟩, .string ⟨#[]⟩] 8 (World.laidAll_os _ _ _)
      (World.shaped_of_ZipB (by kernel_rfl) (by kernel_rfl)) (by kernel_rfl) (by kernel_rfl) (by kernel_rfl)
      (by rw [MakeChecks.laidMetH_plain _ _ _ (by kernel_rfl)]; exact laidMet_laidAll _ (by kernel_rfl) (by kernel_rfl))) ?_
  intro W base args ds gs before hval0 hW _ _ hL _
  rw [MakeChecks.laidMetH_plain _ _ _ (by kernel_rfl)] at hL
  exact contract hw H enc W base args ds gs before hval0 hW (tabs hL)

theorem said (hw : Walk3 3) : Rows.FnAnyLocalIsParsedSaid :=
  OpenClaim.holds_of_wide 3 Tryz.f3 rfl rfl rfl rfl rfl rfl rfl ⟨rfl, rfl, rfl, rfl, rfl⟩ rfl rfl rfl rfl rfl (by kernel_rfl) Tryz.func3 (by kernel_rfl)
    (of_decide_eq_true (by kernel_rfl)) (by unfold Func.isWrapper; first | (rw [if_pos (by decide +kernel)]; kernel_rfl) | (rw [if_neg (by decide +kernel)]; exact ⟨rfl, rfl⟩))
    (fun os started H enc _ => lifted hw os started H enc)

theorem card (hw : Walk3 3) : Rows.FnAnyLocalIsParsedCardSaid :=
  Claim7.holds_tied_plain_at .later [] _ _ _ _ (said hw) (fun _ h => by cases h) (by kernel_rfl) (fun _ h => by cases h) fnAnyLocalIsParsed_row_tie rfl ⟨rfl, rfl⟩ (by kernel_rfl) rfl
    (fun f fn hf hfn => by
      obtain rfl : f = 3 := Option.some.inj ((show Tryz.prog.funcNamed "mailtexts/laws.FnAnyLocalIsParsed" = some 3 by kernel_rfl).symm.trans hf) |>.symm
      obtain rfl : fn = Tryz.f3 := (Option.some.inj (Tryz.func3.symm.trans hfn)).symm
      exact ⟨by kernel_rfl, fun j t ht => by
        rw [Tryz.params3] at ht
        have hm : t ∈ [9, 9, 9] := by simpa using Array.mem_of_getElem? ht
        have hall : ([9, 9, 9].all fun u => !Tryz.prog.wantsStandIn u) = true := by kernel_rfl
        exact (show Tryz.prog.wantsStandIn t = false by simpa using List.all_eq_true.1 hall t hm)⟩)
    (by kernel_rfl)
#print axioms card
end Go.Proofs.YtbigjdlcmlopcaaGreatDoor
