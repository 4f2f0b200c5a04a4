import Derived.Test.YtbigjdlcmlopcaaGreatDoorZC
namespace Go.Proofs.YtbigjdlcmlopcaaGreatDoor
open Go.RowKit

set_option maxRecDepth 100000 in
set_option maxHeartbeats 3200000 in
theorem f4 (n l d : ByteArray) (w : World) (hn : n.size ≤ 9223372036854775807) (hl : l.size ≤ 9223372036854775807) (hd : d.size ≤ 9223372036854775807) (hT : Lib.Utf8Tabs 0 1 w) :
    Calls Tryz.prog 4 #[.string n, .string l, .string d] w fun e w' => e = .returned (.bool true) ∧ Below w.heap.size w w' := by
  have hsz := tabs_size hT
  have HT := Lib.hid hT
  clear hT
  by_cases h1 : n.size ≤ 2147483647
  · by_cases h2 : l.size ≤ 2147483647
    · by_cases h3 : d.size ≤ 2147483647
      · have i1 : ¬ (2147483647 : Int) < n.size := by omega
        have i2 : ¬ (2147483647 : Int) < l.size := by omega
        have i3 : ¬ (2147483647 : Int) < d.size := by omega
        go_enter Tryz.func4, Tryz.ntmps4
        go_wp2_with fail
        refine (f6 n l d h1 h2 h3 HT.out).mono ?_
        rintro e w1 ⟨⟨x, y, b, rfl, hmade⟩, hb1⟩
        cases b with
        | false =>
          clear hmade
          go_wp2
          go_ret
          exact ⟨rfl, hb1.alloc hb1.size _⟩
        | true =>
          obtain ⟨hx, rfl, hok1, hok2, hok3, hok4⟩ := hmade rfl
          have hx := hx.symm
          subst hx
          have hsl : l.size ≤ 4096 := by omega
          have hsn : n.size ≤ 4096 := by omega
          have hsd : d.size ≤ 4096 := by omega
          have B2 := hb1.alloc hb1.size (.cells #[.string n, .string (l ++ ⟨#[64]⟩ ++ d)] 23)
          have hT2 := tabs_below HT.out B2 hsz
          have H8 := rt8 n l d hok1.1 hok1.ascii hok2 (by omega) (by omega) (by omega) hok4 hT2
          have hr : (w1.alloc (.cells #[.string n, .string (l ++ ⟨#[64]⟩ ++ d)] 23)).heap[w1.heap.size]? = some (.cells #[.string n, .string (l ++ ⟨#[64]⟩ ++ d)] 23 (0, 0)) := heap_alloc_new w1 _
          have hlt : w1.heap.size < (w1.alloc (.cells #[.string n, .string (l ++ ⟨#[64]⟩ ++ d)] 23)).heap.size := by simp
          clear hT2 hok1 hok2 hok3 hok4 hb1 HT hmade
          generalize l ++ ⟨#[64]⟩ ++ d = y at *
          go_wp2_with fail
          generalize w1.alloc (.cells #[.string n, .string y] 23) = w2 at *
          refine H8.mono ?_
          rintro e w3 ⟨⟨F, rfl, hF⟩, hb3⟩
          have B3 := B2.trans (hb3.mono B2.size)
          have hr3 : w3.heap[w1.heap.size]? = some (.cells #[.string n, .string y] 23 (0, 0)) := by rw [hb3.block _ hlt]; exact hr
          have hlt3 := Nat.lt_of_lt_of_le hlt hb3.size
          have H7 := hF w3
          clear hF H8 hb3 B2 hr hlt
          go_wp2_with fail
          refine H7.mono ?_
          rintro e w4 ⟨rfl, hb4⟩
          have B4 := B3.trans (hb4.mono B3.size)
          have hr4 : w4.heap[w1.heap.size]? = some (.cells #[.string n, .string y] 23 (0, 0)) := by rw [hb4.block _ hlt3]; exact hr3
          have hlt4 := Nat.lt_of_lt_of_le hlt3 hb4.size
          obtain ⟨c0, c1, f0, f1⟩ := cells2 hr4
          clear H7 hb4 B3 hr3 hr4 hlt3
          generalize w1.heap.size = K at *
          go_wp2
          go_ret
          exact ⟨rfl, B4.alloc B4.size _⟩
      · have i1 : ¬ (2147483647 : Int) < n.size := by omega
        have i2 : ¬ (2147483647 : Int) < l.size := by omega
        have i3 : (2147483647 : Int) < d.size := by omega
        go_enter Tryz.func4, Tryz.ntmps4
        go_wp2
        go_ret
        exact ⟨rfl, Below.refl _ _⟩
    · have i1 : ¬ (2147483647 : Int) < n.size := by omega
      have i2 : (2147483647 : Int) < l.size := by omega
      go_enter Tryz.func4, Tryz.ntmps4
      go_wp2
      go_ret
      exact ⟨rfl, Below.refl _ _⟩
  · have i1 : (2147483647 : Int) < n.size := by omega
    go_enter Tryz.func4, Tryz.ntmps4
    go_wp2
    go_ret
    exact ⟨rfl, Below.refl _ _⟩

def Prn (s : ByteArray) (k : Nat) : Prop := ∀ j (_ : j < k) (h2 : j < s.size), 32 ≤ s[j].toNat ∧ s[j].toNat ≤ 126
theorem Prn.all {s : ByteArray} (h : Prn s s.size) : ∀ x ∈ s.data.toList, 32 ≤ x.toNat ∧ x.toNat ≤ 126 := by
  intro x hx
  obtain ⟨j, hj, rfl⟩ := List.getElem_of_mem hx
  exact h j hj hj

set_option maxRecDepth 100000 in
set_option maxHeartbeats 3200000 in
theorem f3 (n l d : ByteArray) (w : World) (hn : n.size ≤ 9223372036854775807) (hl : l.size ≤ 9223372036854775807) (hd : d.size ≤ 9223372036854775807) (hT : Lib.Utf8Tabs 0 1 w) :
    Calls Tryz.prog 3 #[.string n, .string l, .string d] w fun e w' => e = .returned (.bool true) ∧ Below w.heap.size w w' := by
  have hsz := tabs_size hT
  have HT := Lib.hid hT
  clear hT
  by_cases h1 : n.size ≤ 2147483647
  · by_cases h2 : l.size ≤ 2147483647
    · by_cases h3 : d.size ≤ 2147483647
      · have i1 : ¬ (2147483647 : Int) < n.size := by omega
        have i2 : ¬ (2147483647 : Int) < l.size := by omega
        have i3 : ¬ (2147483647 : Int) < d.size := by omega
        go_enter Tryz.func3, Tryz.ntmps3
        go_wp2_with fail
        refine (f6 n ⟨#[97]⟩ d h1 (by decide) h3 HT.out).mono ?_
        rintro e w1 ⟨⟨x, y, b, rfl, hmade⟩, hb1⟩
        cases b with
        | false =>
          clear hmade
          go_wp2
          go_ret
          exact ⟨rfl, hb1.alloc hb1.size _⟩
        | true =>
          obtain ⟨hx, hy, hok1, hok2, hok3, hok4⟩ := hmade rfl
          have hx := hx.symm
          subst hx
          have hsn : n.size ≤ 4096 := by omega
          have hsd : d.size ≤ 4096 := by omega
          clear hy hok1 hok3 hmade
          by_cases l0 : l.size = 0
          · have j1 : ((l.size : Int) == 0) = true := beq_iff_eq.2 (by omega)
            clear l0
            go_wp2
            go_ret
            exact ⟨rfl, hb1.alloc hb1.size _⟩
          · have j1 : ((l.size : Int) == 0) = false := beq_eq_false_iff_ne.2 (by omega)
            have l00 : 0 < l.size := by omega
            clear l0
            by_cases l1 : l.size ≤ 4096
            · have j2 : ¬ (4096 : Int) < l.size := by omega
              have B2 := hb1.alloc hb1.size (.cells #[.string n, .string y] 23)
              have hT2 := tabs_below HT.out B2 hsz
              have hr : (w1.alloc (.cells #[.string n, .string y] 23)).heap[w1.heap.size]? = some (.cells #[.string n, .string y] 23 (0, 0)) := heap_alloc_new w1 _
              have hlt : w1.heap.size < (w1.alloc (.cells #[.string n, .string y] 23)).heap.size := by simp
              have hwK := hb1.size
              have HK2 := Lib.hid hok2
              have HK4 := Lib.hid hok4
              clear hb1 HT hok2 hok4
              go_wp2_with fail
              generalize w1.alloc (.cells #[.string n, .string y] 23) = w2 at *
              generalize w1.heap.size = K at *
              go_loop [44] (fun i => ∃ k : Nat, k ≤ l.size ∧ i = .int .i64 k ∧ Prn l k) (fun i => l.size - (intOf i).toNat)
              case atStart => exact ⟨0, by omega, rfl, fun j h => by omega⟩
              case round =>
                obtain ⟨k, hk, rfl, hprn⟩ := hrel
                have HP := Lib.hid hprn
                clear hprn
                by_cases hkl : k < l.size
                · obtain ⟨c, hx⟩ : ∃ x : Nat, x = l[k].toNat := ⟨_, rfl⟩
                  have hix : ∀ w, (Instr.index 9 (.string l) (.int .i64 k)).run Tryz.prog w = .ok (.int .u8 c) w := by
                    intro w
                    rw [run_index_string w 9 l .i64 k Tryz.underlying9]
                    simp [hkl, hx]
                  have HX := Lib.hid hx
                  clear hx
                  by_cases g1 : c < 32
                  · have g2 : (c : Int) < 32 := by omega
                    go_wp2
                    go_ret
                    exact ⟨rfl, B2⟩
                  · have g2 : ¬ (c : Int) < 32 := by omega
                    by_cases g3 : 126 < c
                    · have g4 : (126 : Int) < c := by omega
                      go_wp2
                      go_ret
                      exact ⟨rfl, B2⟩
                    · have g4 : ¬ (126 : Int) < c := by omega
                      go_wp2
                      go_round
                      case rel =>
                        refine ⟨k + 1, by omega, by go_num, fun j hj hj2 => ?_⟩
                        by_cases hjk : j < k
                        · exact HP.out j hjk hj2
                        · obtain rfl : j = k := by omega
                          have := HX.out
                          omega
                      case measure => simp [intOf]; omega
                · obtain rfl : k = l.size := by omega
                  obtain ⟨c0, c1, f0, f1⟩ := cells2 hr
                  have HR := Lib.hid hr
                  clear hr
                  have B3 := B2.setCell (p := ⟨K, 1, none⟩) hwK (.string (l ++ ⟨#[64]⟩ ++ d))
                  have hT3 := tabs_below hT2 (Below.refl K w2 |>.setCell (p := ⟨K, 1, none⟩) (Nat.le_refl _) (.string (l ++ ⟨#[64]⟩ ++ d))) (Nat.le_trans hsz hwK)
                  have H8 := rt8 n l d l00 HP.out.all HK2.out (by omega) (by omega) (by omega) HK4.out hT3
                  have hr3 : (w2.setCell ⟨K, 1, none⟩ (.string (l ++ ⟨#[64]⟩ ++ d))).heap[K]? = some (.cells #[.string n, .string (l ++ ⟨#[64]⟩ ++ d)] 23 (0, 0)) := by
                    have h := HR.out
                    unfold World.setCell
                    simp [Array.getElem?_modify, h]
                  have hlt3 : K < (w2.setCell ⟨K, 1, none⟩ (.string (l ++ ⟨#[64]⟩ ++ d))).heap.size := by simpa [World.setCell] using hlt
                  clear hT2 hT3 B2 hlt HK2 HK4 HP
                  go_wp2_with fail
                  generalize l ++ ⟨#[64]⟩ ++ d = z at *
                  generalize w2.setCell ⟨K, 1, none⟩ (.string z) = w3 at *
                  clear c0 c1 f0 f1 HR
                  refine H8.mono ?_
                  rintro e w4 ⟨⟨F, rfl, hF⟩, hb4⟩
                  have B4 := B3.trans (hb4.mono B3.size)
                  have hr4 : w4.heap[K]? = some (.cells #[.string n, .string z] 23 (0, 0)) := by rw [hb4.block _ hlt3]; exact hr3
                  have hlt4 := Nat.lt_of_lt_of_le hlt3 hb4.size
                  have H7 := hF w4
                  clear hF H8 hb4 B3 hr3 hlt3
                  go_wp2_with fail
                  refine H7.mono ?_
                  rintro e w5 ⟨rfl, hb5⟩
                  have B5 := B4.trans (hb5.mono B4.size)
                  have hr5 : w5.heap[K]? = some (.cells #[.string n, .string z] 23 (0, 0)) := by rw [hb5.block _ hlt4]; exact hr4
                  have hlt5 := Nat.lt_of_lt_of_le hlt4 hb5.size
                  obtain ⟨c0, c1, f0, f1⟩ := cells2 hr5
                  clear H7 hb5 B4 hr4 hr5 hlt4
                  go_wp2
                  go_ret
                  exact ⟨rfl, B5.alloc B5.size _⟩
            · have j2 : (4096 : Int) < l.size := by omega
              go_wp2
              go_ret
              exact ⟨rfl, hb1.alloc hb1.size _⟩
      · have i1 : ¬ (2147483647 : Int) < n.size := by omega
        have i2 : ¬ (2147483647 : Int) < l.size := by omega
        have i3 : (2147483647 : Int) < d.size := by omega
        go_enter Tryz.func3, Tryz.ntmps3
        go_wp2
        go_ret
        exact ⟨rfl, Below.refl _ _⟩
    · have i1 : ¬ (2147483647 : Int) < n.size := by omega
      have i2 : (2147483647 : Int) < l.size := by omega
      go_enter Tryz.func3, Tryz.ntmps3
      go_wp2
      go_ret
      exact ⟨rfl, Below.refl _ _⟩
  · have i1 : (2147483647 : Int) < n.size := by omega
    go_enter Tryz.func3, Tryz.ntmps3
    go_wp2
    go_ret
    exact ⟨rfl, Below.refl _ _⟩
end Go.Proofs.YtbigjdlcmlopcaaGreatDoor
