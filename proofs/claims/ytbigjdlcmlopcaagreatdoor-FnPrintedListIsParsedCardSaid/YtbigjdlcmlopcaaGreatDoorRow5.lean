import Derived.Test.YtbigjdlcmlopcaaGreatDoorRow
import Derived.Test.YtbigjdlcmlopcaaGreatDoorZH
import Derived.SliceStrings
import Derived.ChangeSlices
import Derived.Carry
namespace Go.Proofs.YtbigjdlcmlopcaaGreatDoor
open Go.ChangeShapes Go.WideShapes Go.ChangeAt Go.RowKit Go.Lib Go.Shelf
open Go.ChangeMaps (setBlock shut_map_nil open_string shut_string keptBut_setBlock frozen?_setBlock heap_setBlock_same)

theorem cells9 : Tryz.prog.cellsOf 9 = 1 := by kernel_rfl
theorem cells3 : Tryz.prog.cellsOf 3 = 1 := by kernel_rfl
theorem laidOutB : laidOutB Tryz.prog = true := by kernel_rfl

theorem addr_plain {w : World} {a : Addr} {i : Nat} {u v : Value} (h0 : w.cell? (a.add 0) = some u) (h : w.cell? (a.add i) = some v) : ∃ b o, a = ⟨b, o, none⟩ ∧ w.cell? ⟨b, o + i, none⟩ = some v := by
  obtain ⟨b, o, sp⟩ := a
  have hsp : sp = none := by simpa [Addr.add] using World.cell?_spot h0
  subst hsp
  refine ⟨b, o, rfl, ?_⟩
  have : (⟨b, o, none⟩ : Addr).add i = ⟨b, o + i, none⟩ := by unfold Addr.add; split <;> simp_all
  rw [← this]; exact h

theorem strs_of {H : Type} {enc : TypeId × Value → H} {W : World} {a : Option Addr} {n c : Nat} {d : DataW H} {p : List MemPlace} (h : DataW.Trod enc Tryz.prog W 0 (fun _ => true) true 29 (.slice a n c) d p) :
    ∃ xs, Strs W (.slice a n c) xs ∧ xs.length ≤ 9223372036854775807 ∧ ∀ x ∈ xs, x.size ≤ 9223372036854775807 := by
  obtain ⟨fuel, hf⟩ := h
  rcases open_strings Tryz.underlying29 Tryz.underlying9 cells9 hf with ⟨hcs, hx⟩ | ⟨a', len, cap, ss, hcs, _, hl, hm, hz, hx, hcell, hws⟩
  · simp [Value.cells] at hcs
    obtain ⟨rfl, rfl, rfl⟩ := hcs
    exact ⟨[], ⟨none, 0, 0, rfl, rfl, Nat.le_refl _, fun j hj => by simp at hj⟩, by simp, by simp⟩
  · simp [Value.cells] at hcs
    obtain ⟨rfl, rfl, rfl⟩ := hcs
    simp only [if_true] at hz
    have hlen : (ss.take n).length = n := by rw [List.length_take]; omega
    refine ⟨ss.take n, ⟨some a', n, c, rfl, hlen.symm, hl, fun j hj => ?_⟩, by unfold maxLen at hm; omega, fun x hx => hws x (List.mem_of_mem_take hx)⟩
    have hj2 : j < ss.length := by rw [List.length_take] at hj; omega
    obtain ⟨b, o, e, hc⟩ := addr_plain (hcell 0 (by omega)) (hcell j hj2)
    refine ⟨b, o, by rw [e], ?_⟩
    rw [hc, List.getElem_take]
    simp [hj2]

theorem ints_of {H : Type} {enc : TypeId × Value → H} {W : World} {a : Option Addr} {n c : Nat} {d : DataW H} {p : List MemPlace} (h : DataW.Trod enc Tryz.prog W 0 (fun _ => true) true 30 (.slice a n c) d p) :
    ∃ xs, Ints W (.slice a n c) xs ∧ xs.length ≤ 9223372036854775807 := by
  obtain ⟨fuel, hf⟩ := h
  rcases open_ints Tryz.underlying30 Tryz.underlying3 cells3 hf with ⟨hcs, hx⟩ | ⟨a', len, cap, ss, hcs, _, hl, hm, hz, hx, hcell, hws⟩
  · simp [Value.cells] at hcs
    obtain ⟨rfl, rfl, rfl⟩ := hcs
    exact ⟨[], ⟨none, 0, 0, rfl, rfl, Nat.le_refl _, fun j hj => by simp at hj⟩, by simp⟩
  · simp [Value.cells] at hcs
    obtain ⟨rfl, rfl, rfl⟩ := hcs
    simp only [if_true] at hz
    have hlen : (ss.take n).length = n := by rw [List.length_take]; omega
    refine ⟨ss.take n, ⟨some a', n, c, rfl, hlen.symm, hl, fun j hj => ?_⟩, by unfold maxLen at hm; omega⟩
    have hj2 : j < ss.length := by rw [List.length_take] at hj; omega
    obtain ⟨b, o, e, hc⟩ := addr_plain (hcell 0 (by omega)) (hcell j hj2)
    refine ⟨b, o, by rw [e], ?_⟩
    rw [hc, List.getElem_take]
    simp [hj2]

theorem tabs5 {W : World} (hL : laidMet Tryz.prog Rows.fnPrintedListIsParsedRow.laid W) : Lib.Utf8Tabs 0 1 W :=
  utf8Tabs_of_readsT (U8Types.of196 Tryz.laysB196) u8x (first_eq ▸ Lib.laidMet.reads hL (by simp [Rows.fnPrintedListIsParsedRow])) (accept_eq ▸ Lib.laidMet.reads hL (.head _))

set_option maxRecDepth 100000 in
theorem contract5 (H : Type) (enc : TypeId × Value → H) (W : World) (base : Nat) (args : Array Value) (ds gs : List (DataW H)) (before : List MemPlace)
    (hval : ∀ (j : Nat) t v, Tryz.f5.params[j]? = some t → args[j]? = some v → Value.okWide Tryz.prog W .any base t v)
    (hW : DataW.Whole enc Tryz.prog Tryz.f5.params.toList Rows.fnPrintedListIsParsedSpec.vars false W args.toList ds gs before) (hT : Lib.Utf8Tabs 0 1 W) :
    Calls Tryz.prog 5 args W fun e W' => ∃ v, e = .returned v ∧ Rows.fnPrintedListIsParsedSpec.post enc Tryz.prog Tryz.f5 false true false false W args v W' := by
  have hW' := hW
  obtain ⟨p, q, hA0, hV, rfl, hfz, hnd⟩ := hW
  have hA : DataW.TrodAll enc Tryz.prog W 0 (fun _ => true) true Tryz.f5.params.toList args.toList ds p := hA0
  rw [Tryz.params5] at hA hval
  obtain ⟨v0, v1, v2, v3, d0, d1, d2, d3, p0, p1, p2, p3, rfl, rfl, rfl, h0, h1, h2, h3⟩ := trodAll_four hA
  obtain ⟨rfl, rfl⟩ := trodVars_none hV
  obtain ⟨a0, n0, c0, rfl⟩ := okWide_slice Tryz.underlying29 (hval 0 29 v0 rfl rfl)
  obtain ⟨a1, n1, c1, rfl⟩ := okWide_slice Tryz.underlying29 (hval 1 29 v1 rfl rfl)
  obtain ⟨s, rfl, rfl, rfl, ws⟩ := open_string Tryz.underlying9 (hval 2 9 v2 rfl rfl) h2
  obtain ⟨a3, n3, c3, rfl⟩ := okWide_slice Tryz.underlying30 (hval 3 30 v3 rfl rfl)
  obtain ⟨xs, hxs, hxl, hxz⟩ := strs_of h0
  obtain ⟨ys, hys, hyl, hyz⟩ := strs_of h1
  obtain ⟨ns, hns, hnl⟩ := ints_of h3
  have hlt : ∀ x ∈ p0 ++ p1 ++ [] ++ p3, x.block < W.heap.size := fun x hx => by simpa using hW'.lt x (by simp only [List.append_nil] at hx ⊢; exact hx)
  simp only [List.append_nil] at hW' hlt
  refine (f5 _ _ _ xs ys s ns hxs hys hns hxl hxz hyl hyz ws hnl hT).mono fun e W' ⟨he, hb⟩ => ?_
  subst he
  refine ⟨_, rfl, _, _, _, [], p0 ++ (p1 ++ ([] ++ p3)), [], hW', trodAll_mk1 (shut_bool Tryz.underlying4 _), trodAll_mk4
    (Below.trod laidOutB (by kernel_rfl) (of_decide_eq_true (by kernel_rfl)) h0 hb (fun x hx => hlt x (by simp [hx])))
    (Below.trod laidOutB (by kernel_rfl) (of_decide_eq_true (by kernel_rfl)) h1 hb (fun x hx => hlt x (by simp [hx])))
    (shut_string Tryz.underlying9 ws)
    (Below.trod laidOutB (by kernel_rfl) (of_decide_eq_true (by kernel_rfl)) h3 hb (fun x hx => hlt x (by simp [hx]))), rfl, hb.frame _, fun h => by cases h⟩

set_option maxRecDepth 100000 in
theorem lifted5 (os : Os) (started : os.Started) (H : Type) (enc : TypeId × Value → H) :
    ReturnsInHanded {} Tryz.checked os 5 .any (fun w args => (Rows.fnPrintedListIsParsedSpec.pre enc Tryz.prog Tryz.f5 [] false w args ∧ laidMetH Tryz.prog Rows.fnPrintedListIsParsedRow.laid w) ∧ sizedMet enc Tryz.prog Tryz.f5 (OpenSpec.ofChange Rows.fnPrintedListIsParsedSpec) false w args)
      (Rows.fnPrintedListIsParsedSpec.post enc Tryz.prog Tryz.f5 false true false false) := by
  refine returnsInHanded_of_change_and (C := Tryz.checked) (X := fun w _ => laidMetH Tryz.prog Rows.fnPrintedListIsParsedRow.laid w) (fun _ _ _ hh h => h.of_heap hh) own started (by kernel_rfl) Tryz.func5
    (ChangeSpec.witness_shaped (enc := enc) (C := Tryz.checked) (os := os) (X := fun w _ => laidMetH Tryz.prog Rows.fnPrintedListIsParsedRow.laid w) false (World.laidAll Tryz.prog os Rows.fnPrintedListIsParsedRow.laid) #[.slice none 0 0, .slice none 0 0, .string ⟨#[]⟩, .slice none 0 0] 8 (World.laidAll_os _ _ _)
      (World.shaped_of_ZipB (by kernel_rfl) (by kernel_rfl)) (by kernel_rfl) (by kernel_rfl) (by kernel_rfl)
      (by rw [MakeChecks.laidMetH_plain _ _ _ (by kernel_rfl)]; exact laidMet_laidAll _ (by kernel_rfl) (by kernel_rfl))) ?_
  intro W base args ds gs before hval0 hW _ _ hL _
  rw [MakeChecks.laidMetH_plain _ _ _ (by kernel_rfl)] at hL
  exact contract5 H enc W base args ds gs before hval0 hW (tabs5 hL)

theorem said5 : Rows.FnPrintedListIsParsedSaid :=
  OpenClaim.holds_of_wide 5 Tryz.f5 rfl rfl rfl rfl rfl rfl rfl ⟨rfl, rfl, rfl, rfl, rfl⟩ rfl rfl rfl rfl rfl (by kernel_rfl) Tryz.func5 (by kernel_rfl)
    (of_decide_eq_true (by kernel_rfl)) (by unfold Func.isWrapper; first | (rw [if_pos (by decide +kernel)]; kernel_rfl) | (rw [if_neg (by decide +kernel)]; exact ⟨rfl, rfl⟩))
    (fun os started H enc _ => lifted5 os started H enc)

theorem card5 : Rows.FnPrintedListIsParsedCardSaid :=
  Claim7.holds_tied_plain_at .later [] _ _ _ _ said5 (fun _ h => by cases h) (by kernel_rfl) (fun _ h => by cases h) fnPrintedListIsParsed_row_tie rfl ⟨rfl, rfl⟩ (by kernel_rfl) rfl
    (fun f fn hf hfn => by
      obtain rfl : f = 5 := Option.some.inj ((show Tryz.prog.funcNamed "mailtexts/laws.FnPrintedListIsParsed" = some 5 by kernel_rfl).symm.trans hf) |>.symm
      obtain rfl : fn = Tryz.f5 := (Option.some.inj (Tryz.func5.symm.trans hfn)).symm
      exact ⟨by kernel_rfl, fun j t ht => by
        rw [Tryz.params5] at ht
        have hm : t ∈ [29, 29, 9, 30] := by simpa using Array.mem_of_getElem? ht
        have hall : ([29, 29, 9, 30].all fun u => !Tryz.prog.wantsStandIn u) = true := by kernel_rfl
        exact (show Tryz.prog.wantsStandIn t = false by simpa using List.all_eq_true.1 hall t hm)⟩)
    (by kernel_rfl)
#print axioms card5
end Go.Proofs.YtbigjdlcmlopcaaGreatDoor
