import Derived.Test.YtbigjdlcmlopcaaGreatDoorL
import Derived.Laws.ResultCell
namespace Go.Proofs.YtbigjdlcmlopcaaGreatDoor
open Go.RowKit

def MadeOk (n l d : ByteArray) : Prop := DotOk l.data.toList ∧ DotOk d.data.toList ∧ n.size + l.size + d.size ≤ 4096 ∧ ((∀ c ∈ n.data.toList, okc c = true) ∨ ∀ c ∈ n.data.toList, c ≠ 92)
def Made (n l d : ByteArray) (e : Ending) : Prop := ∃ x y b, e = .returned (.tuple #[.agg #[.string x, .string y], .bool b]) ∧ (b = true → x = n ∧ y = l ++ ⟨#[64]⟩ ++ d ∧ MadeOk n l d)
def NB (s : ByteArray) (k : Nat) : Prop := (∀ c ∈ s.data.toList, okc c = true) ∨ ∀ j (_ : j < k) (h2 : j < s.size), s[j] ≠ 92
theorem NB.full {s : ByteArray} (h : NB s s.size) : (∀ c ∈ s.data.toList, okc c = true) ∨ ∀ c ∈ s.data.toList, c ≠ 92 := by
  rcases h with h | h
  · exact .inl h
  · refine .inr fun c hc => ?_
    obtain ⟨j, hj, rfl⟩ := List.getElem_of_mem hc
    exact h j hj hj
theorem made_no {n l d : ByteArray} {v : Value} (h : v = .agg #[.string ⟨#[]⟩, .string ⟨#[]⟩]) : Made n l d (.returned (.tuple #[v, .bool false])) := ⟨⟨#[]⟩, ⟨#[]⟩, false, by rw [h], fun h => by cases h⟩

theorem cells2 {W : World} {B : Nat} {x y : Value} {t : TypeId} (h : W.heap[B]? = some (.cells #[x, y] t (0, 0))) : W.cell? ⟨B, 0, none⟩ = some x ∧ W.cell? ⟨B, 1, none⟩ = some y ∧ W.frozen? ⟨B, 0, none⟩ = false ∧ W.frozen? ⟨B, 1, none⟩ = false := by
  refine ⟨?_, ?_, ?_, ?_⟩ <;> simp [World.cell?, World.frozen?, h]

theorem put2 {W : World} {B : Nat} {a b : Value} {t : TypeId} (h : W.heap[B]? = some (.cells #[a, b] t (0, 0))) (x y : Value) : ((W.setCell ⟨B, 0, none⟩ x).setCell ⟨B, 1, none⟩ y).heap[B]? = some (.cells #[x, y] t (0, 0)) := by
  unfold World.setCell
  simp [Array.getElem?_modify, h]
set_option maxRecDepth 100000 in
theorem res6 {tmps : Array Value} {w : World} {B : Nat} {x y : ByteArray} (h6 : tmps.getD 6 undef = .pointer (some ⟨B, 0, none⟩)) (h : w.heap[B]? = some (.cells #[.string x, .string y] 23 (0, 0))) :
    (results Tryz.f6 tmps).run Tryz.prog w = .ok (.tuple #[.agg #[.string x, .string y], tmps.getD 7 undef]) w := by
  obtain ⟨c0, c1, -, -⟩ := cells2 h
  clear h
  rw [results_cell_tmp rfl, h6]
  go_simp

set_option maxRecDepth 100000 in
set_option maxHeartbeats 3200000 in
/-- made. -/
theorem f6 {w : World} (n l d : ByteArray) (hn : n.size ≤ 2147483647) (hl : l.size ≤ 2147483647) (hd : d.size ≤ 2147483647) (hT : Lib.Utf8Tabs 0 1 w) : Calls Tryz.prog 6 #[.string n, .string l, .string d] w fun e w' => Made n l d e ∧ Below w.heap.size w w' := by
  have hsz := tabs_size hT
  have HT := Lib.hid hT
  clear hT
  go_enter Tryz.func6, Tryz.ntmps6
  go_wp2_with fail
  have hr0 : (w.alloc (.cells #[.string ⟨#[]⟩, .string ⟨#[]⟩] 23)).heap[w.heap.size]? = some (.cells #[.string ⟨#[]⟩, .string ⟨#[]⟩] 23 (0, 0)) := heap_alloc_new w _
  have hb0 : Below w.heap.size w (w.alloc (.cells #[.string ⟨#[]⟩, .string ⟨#[]⟩] 23)) := (Below.refl _ _).alloc (Nat.le_refl _) _
  generalize w.alloc (.cells #[.string ⟨#[]⟩, .string ⟨#[]⟩] 23) = W at *
  go_loop [11] (fun i => ∃ k : Nat, k ≤ n.size ∧ i = .int .i64 k ∧ NB n k) (fun i => n.size - (intOf i).toNat)
  case atStart => exact ⟨0, by omega, rfl, .inr fun j h => by omega⟩
  case round =>
    obtain ⟨k, hk, rfl, hnb⟩ := hrel
    have HB := Lib.hid hnb
    clear hnb
    have hR := cells2 hr0
    obtain ⟨c0, c1, f0, f1⟩ := hR
    by_cases hlt : k < n.size
    · obtain ⟨c, hx⟩ : ∃ x : Nat, x = n[k].toNat := ⟨_, rfl⟩
      have hix : ∀ w, (Instr.index 9 (.string n) (.int .i64 k)).run Tryz.prog w = .ok (.int .u8 c) w := by
        intro w
        rw [run_index_string w 9 n .i64 k Tryz.underlying9]
        simp [hlt, hx]
      have HX := Lib.hid hx
      clear hx
      by_cases h92 : c = 92
      · have hcb : ((c : Int) == 92) = true := by simp [h92]
        clear h92
        go_wp2_with fail
        refine (f14 n hn).mono ?_
        rintro e w' ⟨⟨b, rfl, hb⟩, rfl⟩
        cases b with
        | true =>
          have HP := Lib.hid hb
          clear hb
          go_wp2
          go_round
          case rel => exact ⟨k + 1, by omega, by go_num, .inl (HP.out.1 rfl)⟩
          case measure => simp [intOf]; omega
        | false =>
          clear hb
          go_wp2
          try rw [Exit.noGoto_ret]
          exact bodyPost_ret (res6 rfl (put2 hr0 _ _)) rfl ⟨made_no rfl, (hb0.setCell (p := ⟨w.heap.size, 0, none⟩) (Nat.le_refl _) _).setCell (p := ⟨w.heap.size, 1, none⟩) (Nat.le_refl _) _⟩
      · have hcb : ((c : Int) == 92) = false := by simp; omega
        have HC := Lib.hid h92
        clear h92
        go_wp2
        go_round
        case rel =>
          refine ⟨k + 1, by omega, by go_num, ?_⟩
          rcases HB.out with h | h
          · exact .inl h
          · refine .inr fun j hj h2 e => ?_
            by_cases hjk : j < k
            · exact h j hjk h2 e
            · obtain rfl : j = k := by omega
              have := HX.out
              rw [e] at this
              exact HC.out this
        case measure => simp [intOf]; omega
    · obtain rfl : k = n.size := by omega
      have HT' := tabs_below HT.out hb0 hsz
      clear c0 c1 f0 f1
      have hW : w.heap.size < W.heap.size := (Array.getElem?_eq_some_iff.1 hr0).1
      have BAD : ∀ (w1 : World) (tmps : Array Value), w1.heap[w.heap.size]? = some (.cells #[.string ⟨#[]⟩, .string ⟨#[]⟩] 23 (0, 0)) → Below w.heap.size w w1 → tmps.getD 6 undef = .pointer (some ⟨w.heap.size, 0, none⟩) → tmps.getD 7 undef = .bool false →
          bodyPost Tryz.prog Tryz.f6 (fun e w' => Made n l d e ∧ Below w.heap.size w w') Exit.ret { tmps := tmps, defers := [] } ((w1.setCell ⟨w.heap.size, 0, none⟩ (.string ⟨#[]⟩)).setCell ⟨w.heap.size, 1, none⟩ (.string ⟨#[]⟩)) := by
        intro w1 tmps h1 h2 h6 h7
        exact bodyPost_ret (res6 h6 (put2 h1 _ _)) rfl ⟨by rw [h7]; exact made_no rfl, (h2.setCell (p := ⟨w.heap.size, 0, none⟩) (Nat.le_refl _) _).setCell (p := ⟨w.heap.size, 1, none⟩) (Nat.le_refl _) _⟩
      have BADH := Lib.hid BAD
      clear BAD
      have HR0 := Lib.hid hr0
      have HB0 := Lib.hid hb0
      clear hr0 hb0
      go_wp2_with fail
      refine (Tryz.utf8_ValidString n W (by omega) HT').mono ?_
      rintro e w1 ⟨rfl, hv1⟩
      have hr1 : w1.heap[w.heap.size]? = some (.cells #[.string ⟨#[]⟩, .string ⟨#[]⟩] 23 (0, 0)) := by rw [hv1.block _ hW]; exact HR0.out
      have hb1 := HB0.out.trans (hv1.mono (Nat.le_of_lt hW))
      have hW1 := Nat.lt_of_lt_of_le hW hv1.size
      clear HR0 HB0 hv1 HT' hW
      cases hvd : Lib.validD n.data.toList with
      | false =>
        obtain ⟨c0, c1, f0, f1⟩ := cells2 hr1
        have HR1 := Lib.hid hr1
        have HB1 := Lib.hid hb1
        clear hr1 hb1 hvd
        go_wp2
        try rw [Exit.noGoto_ret]
        exact BADH.out w1 _ HR1.out HB1.out rfl rfl
      | true =>
        have HR1 := Lib.hid hr1
        have HB1 := Lib.hid hb1
        clear hr1 hb1 hvd
        go_wp2_with fail
        refine (f16 l hl).mono ?_
        rintro e w2 ⟨⟨b, rfl, hdl⟩, hv2⟩
        have hr2 : w2.heap[w.heap.size]? = some (.cells #[.string ⟨#[]⟩, .string ⟨#[]⟩] 23 (0, 0)) := by rw [hv2.block _ hW1]; exact HR1.out
        have hb2 := HB1.out.trans (hv2.mono (Nat.le_of_lt hW1))
        have hW2 := Nat.lt_of_lt_of_le hW1 hv2.size
        clear HR1 HB1 hv2 hW1
        cases b with
        | false =>
          obtain ⟨c0, c1, f0, f1⟩ := cells2 hr2
          have HR1 := Lib.hid hr2
          have HB1 := Lib.hid hb2
          clear hr2 hb2 hdl
          go_wp2
          try rw [Exit.noGoto_ret]
          exact BADH.out w2 _ HR1.out HB1.out rfl rfl
        | true =>
          have HDL := Lib.hid (hdl rfl)
          have HR1 := Lib.hid hr2
          have HB1 := Lib.hid hb2
          clear hr2 hb2 hdl
          go_wp2_with fail
          refine (f16 d hd).mono ?_
          rintro e w3 ⟨⟨b, rfl, hdd⟩, hv3⟩
          have hr3 : w3.heap[w.heap.size]? = some (.cells #[.string ⟨#[]⟩, .string ⟨#[]⟩] 23 (0, 0)) := by rw [hv3.block _ hW2]; exact HR1.out
          have hb3 := HB1.out.trans (hv3.mono (Nat.le_of_lt hW2))
          clear HR1 HB1 hv3 hW2
          obtain ⟨c0, c1, f0, f1⟩ := cells2 hr3
          have HR1 := Lib.hid hr3
          have HB1 := Lib.hid hb3
          clear hr3 hb3
          cases b with
          | false =>
            clear hdd
            go_wp2
            try rw [Exit.noGoto_ret]
            exact BADH.out w3 _ HR1.out HB1.out rfl rfl
          | true =>
            have HDD := Lib.hid (hdd rfl)
            clear hdd
            by_cases hsum : n.size + l.size + d.size ≤ 4096
            · have hs1 : ¬ (4096 : Int) < (n.size : Int) + l.size + d.size := by omega
              go_wp2
              try rw [Exit.noGoto_ret]
              refine bodyPost_ret (res6 rfl (put2 HR1.out _ _)) rfl ⟨⟨n, l ++ ⟨#[64]⟩ ++ d, true, rfl, fun _ => ⟨rfl, rfl, HDL.out, HDD.out, hsum, HB.out.full⟩⟩, (HB1.out.setCell (p := ⟨w.heap.size, 0, none⟩) (Nat.le_refl _) _).setCell (p := ⟨w.heap.size, 1, none⟩) (Nat.le_refl _) _⟩
            · have hs1 : (4096 : Int) < (n.size : Int) + l.size + d.size := by omega
              go_wp2
              try rw [Exit.noGoto_ret]
              exact BADH.out w3 _ HR1.out HB1.out rfl rfl
end Go.Proofs.YtbigjdlcmlopcaaGreatDoor
