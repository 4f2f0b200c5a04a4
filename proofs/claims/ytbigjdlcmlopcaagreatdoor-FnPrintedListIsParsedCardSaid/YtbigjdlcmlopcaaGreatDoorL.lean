import Derived.Test.YtbigjdlcmlopcaaGreatDoorK
import Derived.Lib.SlBytesConst
namespace Go.Proofs.YtbigjdlcmlopcaaGreatDoor
open Go.RowKit

/-- What plain tells. -/
def PlainB (s : ByteArray) (b : Bool) : Prop := (b = true → ∀ c ∈ s.data.toList, okc c = true) ∧ (b = false → ∃ c ∈ s.data.toList, okc c = false)
/-- A law's answer. -/
def Tells (P : Bool → Prop) (e : Ending) : Prop := ∃ b : Bool, e = .returned (.bool b) ∧ P b
theorem PlainB.bad {s : ByteArray} (k : Nat) (h : k < s.size) (hk : okc s[k] = false) : PlainB s false := And.intro (fun h => Bool.noConfusion h) (fun _ => ⟨s[k], Array.mem_toList_iff.2 (Array.getElem_mem h), hk⟩)
theorem PlainB.good {s : ByteArray} (h : ∀ j (_ : j < s.size), okc s[j] = true) : PlainB s true := And.intro (fun _ c hc => by obtain ⟨j, hj, rfl⟩ := List.getElem_of_mem hc; exact h j hj) (fun h => Bool.noConfusion h)

set_option maxHeartbeats 800000 in
/-- plain. -/
theorem f14 {w : World} (s : ByteArray) (hs : s.size ≤ 2147483647) : Calls Tryz.prog 14 #[.string s] w fun e w' => Tells (PlainB s) e ∧ w = w' := by
  go_enter Tryz.func14, Tryz.ntmps14
  go_wp2
  go_loop [6] (fun i => ∃ k : Nat, k ≤ s.size ∧ i = .int .i64 k ∧ ∀ j (h : j < k) (h2 : j < s.size), okc s[j] = true) (fun i => s.size - (intOf i).toNat)
  case atStart => exact ⟨0, by omega, rfl, fun j h _ => by omega⟩
  case round =>
    obtain ⟨k, hk, rfl, hd⟩ := hrel
    have HD := Lib.hid hd
    clear hd
    by_cases hlt : k < s.size
    · obtain ⟨x, hx⟩ : ∃ x : Int, x = s[k].toNat := ⟨_, rfl⟩
      have hix : ∀ w, (Instr.index 9 (.string s) (.int .i64 k)).run Tryz.prog w = .ok (.int .u8 x) w := by
        intro w
        rw [run_index_string w 9 s .i64 k Tryz.underlying9]
        simp [hlt, hx]
      have HX := Lib.hid hx
      clear hx
      by_cases h1 : x < 32
      · by_cases h9 : x = 9
        · have h9b : (x == 9) = true := by simp [h9]
          clear h9
          go_wp2
          go_round
          case rel =>
            refine ⟨k + 1, by omega, by go_num, fun j h h2 => ?_⟩
            by_cases hj : j < k
            · exact HD.out j hj h2
            · obtain rfl : j = k := by omega
              have := HX.out
              have h9 : x = 9 := by simpa using h9b
              exact decide_eq_true (.inr (by omega))
          case measure => simp [intOf]; omega
        · have h9b : (x == 9) = false := by simpa using h9
          clear h9
          go_wp2
          go_ret
          refine ⟨⟨false, rfl, PlainB.bad k hlt ?_⟩, rfl⟩
          have := HX.out
          have h9 : x ≠ 9 := by simpa using h9b
          exact decide_eq_false (by omega)
      · by_cases h2 : 126 < x
        · have h9b : (x == 9) = false := by simp; omega
          go_wp2
          go_ret
          refine ⟨⟨false, rfl, PlainB.bad k hlt ?_⟩, rfl⟩
          have := HX.out
          exact decide_eq_false (by omega)
        · go_wp2
          go_round
          case rel =>
            refine ⟨k + 1, by omega, by go_num, fun j h h2' => ?_⟩
            by_cases hj : j < k
            · exact HD.out j hj h2'
            · obtain rfl : j = k := by omega
              have := HX.out
              exact decide_eq_true (.inl (by omega))
          case measure => simp [intOf]; omega
    · obtain rfl : k = s.size := by omega
      go_wp2
      go_ret
      exact ⟨⟨true, rfl, PlainB.good fun j hj => HD.out j hj hj⟩, rfl⟩

def marks : Array Value := #[.int .u8 33, .int .u8 35, .int .u8 36, .int .u8 37, .int .u8 38, .int .u8 39, .int .u8 42, .int .u8 43, .int .u8 45, .int .u8 47, .int .u8 61, .int .u8 63, .int .u8 94, .int .u8 95, .int .u8 96, .int .u8 123, .int .u8 124, .int .u8 125, .int .u8 126]
def marksN : List Nat := [33, 35, 36, 37, 38, 39, 42, 43, 45, 47, 61, 63, 94, 95, 96, 123, 124, 125, 126]
theorem marks_eq : marks = (marksN.map (fun n => Value.int .u8 (n : Nat))).toArray := rfl
theorem marks_ok : ∀ k : Fin 19, atx (marksN[k.1]?.getD 0 : Nat) false = true ∧ (marksN[k.1]?.getD 0) < 128 := by decide
theorem marks_at (k : Nat) (hk : k < 19) : marks[k]? = some (.int .u8 (marksN[k]?.getD 0 : Nat)) := by
  have h : k < marksN.length := hk
  rw [marks_eq, List.getElem?_toArray, List.getElem?_map, List.getElem?_eq_getElem h]
  rfl
theorem marks_cell (w : World) (k : Nat) (hk : k < 19) : ∃ x : Nat, (w.alloc (.cells marks 5 (19, 20))).cell? ⟨w.heap.size, k, none⟩ = some (.int .u8 x) ∧ atx x false = true ∧ x < 128 := by
  obtain ⟨h2, h3⟩ := marks_ok ⟨k, hk⟩
  have h1 := marks_at k hk
  refine ⟨_, ?_, h2, h3⟩
  have h : (w.alloc (.cells marks 5 (19, 20))).heap[w.heap.size]? = some (.cells marks 5 (19, 20)) := heap_alloc_new w _
  unfold World.cell?
  rw [h]
  exact h1

set_option maxRecDepth 100000 in
set_option maxHeartbeats 1600000 in
/-- IsAtom. -/
theorem f22 {w : World} (c : Nat) (hc : c < 128) : Calls Tryz.prog 22 #[.int .u8 c] w fun e w' => Tells (fun b => b = true → atx c false = true) e ∧ Below w.heap.size w w' := by
  by_cases h1 : ((48 ≤ c ∧ c ≤ 57) ∨ (97 ≤ c ∧ c ≤ 122)) ∨ (65 ≤ c ∧ c ≤ 90)
  · have ha : atx c false = true := by
      have b1 : ¬ (c : Int) = 46 := by omega
      have b2 : spc c = false := decide_eq_false (by omega)
      unfold atx
      rw [if_neg b1, b2]
      exact decide_eq_true (by omega)
    have HA := Lib.hid ha
    clear ha
    rcases h1 with (⟨a1, a2⟩ | ⟨a1, a2⟩) | ⟨a1, a2⟩
    · have b1 : (48 : Int) ≤ c := by omega
      have b2 : (c : Int) ≤ 57 := by omega
      go_enter Tryz.func22, Tryz.ntmps22
      go_wp2
      go_ret
      exact ⟨⟨true, rfl, fun _ => HA.out⟩, Below.refl _ _⟩
    · have b1 : (48 : Int) ≤ c := by omega
      have b2 : ¬ (c : Int) ≤ 57 := by omega
      have b3 : (97 : Int) ≤ c := by omega
      have b4 : (c : Int) ≤ 122 := by omega
      go_enter Tryz.func22, Tryz.ntmps22
      go_wp2
      go_ret
      exact ⟨⟨true, rfl, fun _ => HA.out⟩, Below.refl _ _⟩
    · have b1 : (48 : Int) ≤ c := by omega
      have b2 : ¬ (c : Int) ≤ 57 := by omega
      have b3 : ¬ (97 : Int) ≤ c := by omega
      have b4 : (65 : Int) ≤ c := by omega
      have b5 : (c : Int) ≤ 90 := by omega
      go_enter Tryz.func22, Tryz.ntmps22
      go_wp2
      go_ret
      exact ⟨⟨true, rfl, fun _ => HA.out⟩, Below.refl _ _⟩
  · have a1 : ¬ (128 : Int) ≤ c := by omega
    have kc : (convert 74 74 (.slice (some ⟨w.heap.size, 0, none⟩) 19 19)).run Tryz.prog (w.alloc (.cells #[.int .u8 33, .int .u8 35, .int .u8 36, .int .u8 37, .int .u8 38, .int .u8 39, .int .u8 42, .int .u8 43, .int .u8 45, .int .u8 47, .int .u8 61, .int .u8 63, .int .u8 94, .int .u8 95, .int .u8 96, .int .u8 123, .int .u8 124, .int .u8 125, .int .u8 126] 5)) = .ok (.slice (some ⟨w.heap.size, 0, none⟩) 19 19) (w.alloc (.cells marks 5 (19, 20))) := Lib.run_convert_bytes_const (P := Tryz.prog) w 74 5 marks 19 19 Tryz.underlying74 Tryz.underlying5
    have hM := marks_cell w
    have hB : Below w.heap.size w (w.alloc (.cells marks 5 (19, 20))) := (Below.refl _ _).alloc (Nat.le_refl _) _
    generalize w.alloc (.cells marks 5 (19, 20)) = W at *
    have HM := Lib.hid hM
    clear hM
    obtain hx | hx | hx | hx : c < 48 ∨ (57 < c ∧ c < 65) ∨ (90 < c ∧ c < 97) ∨ 122 < c := by omega
    · have x2 : ¬ (48 : Int) ≤ c := by omega
      have x3 : ¬ (97 : Int) ≤ c := by omega
      have x4 : ¬ (65 : Int) ≤ c := by omega
      clear h1
      go_enter Tryz.func22, Tryz.ntmps22
      go_wp2_with fail
      go_loop [34] (fun i => ∃ k : Nat, k ≤ 19 ∧ i = .int .i64 k) (fun i => 19 - (intOf i).toNat)
      case atStart => exact ⟨0, by omega, rfl⟩
      case round =>
        obtain ⟨k, hk, rfl⟩ := hrel
        by_cases hlt : k < 19
        · obtain ⟨x, hcell, hax, -⟩ := HM.out k hlt
          have HX := Lib.hid hax
          by_cases e : x = c
          · subst e
            clear hax
            go_wp2
            go_ret
            exact ⟨⟨true, rfl, fun _ => HX.out⟩, hB⟩
          · have e2 : ((c : Int) == x) = false := by simp; omega
            clear hax e
            go_wp2
            go_round
            case rel => exact ⟨k + 1, by omega, by go_num⟩
            case measure => simp [intOf]; omega
        · obtain rfl : k = 19 := by omega
          go_wp2
          go_ret
          exact ⟨⟨false, rfl, fun h => by cases h⟩, hB⟩
    · have x1 : (48 : Int) ≤ c := by omega
      have x2 : ¬ (c : Int) ≤ 57 := by omega
      have x3 : ¬ (97 : Int) ≤ c := by omega
      have x4 : ¬ (65 : Int) ≤ c := by omega
      clear h1
      go_enter Tryz.func22, Tryz.ntmps22
      go_wp2_with fail
      go_loop [34] (fun i => ∃ k : Nat, k ≤ 19 ∧ i = .int .i64 k) (fun i => 19 - (intOf i).toNat)
      case atStart => exact ⟨0, by omega, rfl⟩
      case round =>
        obtain ⟨k, hk, rfl⟩ := hrel
        by_cases hlt : k < 19
        · obtain ⟨x, hcell, hax, -⟩ := HM.out k hlt
          have HX := Lib.hid hax
          by_cases e : x = c
          · subst e
            clear hax
            go_wp2
            go_ret
            exact ⟨⟨true, rfl, fun _ => HX.out⟩, hB⟩
          · have e2 : ((c : Int) == x) = false := by simp; omega
            clear hax e
            go_wp2
            go_round
            case rel => exact ⟨k + 1, by omega, by go_num⟩
            case measure => simp [intOf]; omega
        · obtain rfl : k = 19 := by omega
          go_wp2
          go_ret
          exact ⟨⟨false, rfl, fun h => by cases h⟩, hB⟩
    · have x1 : (48 : Int) ≤ c := by omega
      have x2 : ¬ (c : Int) ≤ 57 := by omega
      have x3 : ¬ (97 : Int) ≤ c := by omega
      have x4 : (65 : Int) ≤ c := by omega
      have x5 : ¬ (c : Int) ≤ 90 := by omega
      clear h1
      go_enter Tryz.func22, Tryz.ntmps22
      go_wp2_with fail
      go_loop [34] (fun i => ∃ k : Nat, k ≤ 19 ∧ i = .int .i64 k) (fun i => 19 - (intOf i).toNat)
      case atStart => exact ⟨0, by omega, rfl⟩
      case round =>
        obtain ⟨k, hk, rfl⟩ := hrel
        by_cases hlt : k < 19
        · obtain ⟨x, hcell, hax, -⟩ := HM.out k hlt
          have HX := Lib.hid hax
          by_cases e : x = c
          · subst e
            clear hax
            go_wp2
            go_ret
            exact ⟨⟨true, rfl, fun _ => HX.out⟩, hB⟩
          · have e2 : ((c : Int) == x) = false := by simp; omega
            clear hax e
            go_wp2
            go_round
            case rel => exact ⟨k + 1, by omega, by go_num⟩
            case measure => simp [intOf]; omega
        · obtain rfl : k = 19 := by omega
          go_wp2
          go_ret
          exact ⟨⟨false, rfl, fun h => by cases h⟩, hB⟩
    · have x1 : (48 : Int) ≤ c := by omega
      have x2 : ¬ (c : Int) ≤ 57 := by omega
      have x3 : (97 : Int) ≤ c := by omega
      have x4 : ¬ (c : Int) ≤ 122 := by omega
      have x5 : (65 : Int) ≤ c := by omega
      have x6 : ¬ (c : Int) ≤ 90 := by omega
      clear h1
      go_enter Tryz.func22, Tryz.ntmps22
      go_wp2_with fail
      go_loop [34] (fun i => ∃ k : Nat, k ≤ 19 ∧ i = .int .i64 k) (fun i => 19 - (intOf i).toNat)
      case atStart => exact ⟨0, by omega, rfl⟩
      case round =>
        obtain ⟨k, hk, rfl⟩ := hrel
        by_cases hlt : k < 19
        · obtain ⟨x, hcell, hax, -⟩ := HM.out k hlt
          have HX := Lib.hid hax
          by_cases e : x = c
          · subst e
            clear hax
            go_wp2
            go_ret
            exact ⟨⟨true, rfl, fun _ => HX.out⟩, hB⟩
          · have e2 : ((c : Int) == x) = false := by simp; omega
            clear hax e
            go_wp2
            go_round
            case rel => exact ⟨k + 1, by omega, by go_num⟩
            case measure => simp [intOf]; omega
        · obtain rfl : k = 19 := by omega
          go_wp2
          go_ret
          exact ⟨⟨false, rfl, fun h => by cases h⟩, hB⟩

theorem f22h {w : World} (c : Nat) (hc : c < 256) (h128 : 128 ≤ c) : Calls Tryz.prog 22 #[.int .u8 c] w fun e w' => e = .returned (.bool true) ∧ Below w.heap.size w w' := by
  have b1 : (48 : Int) ≤ c := by omega
  have b2 : ¬ (c : Int) ≤ 57 := by omega
  have b3 : (97 : Int) ≤ c := by omega
  have b4 : ¬ (c : Int) ≤ 122 := by omega
  have b5 : (65 : Int) ≤ c := by omega
  have b6 : ¬ (c : Int) ≤ 90 := by omega
  have b7 : (128 : Int) ≤ c := by omega
  go_enter Tryz.func22, Tryz.ntmps22
  go_wp2
  go_ret
  exact ⟨rfl, Below.refl _ _⟩

/-- What Dotted tells. -/
def DotOk (l : List UInt8) : Prop := 0 < l.length ∧ ∀ j (h : j < l.length), (atx l[j].toNat false = true ∧ l[j].toNat < 128) ∨ (l[j] = 46 ∧ 0 < j ∧ l[j - 1]? ≠ some 46 ∧ j + 1 < l.length)
def DotAt (s : ByteArray) (j : Nat) : Prop := ∃ h : j < s.size, (atx s[j].toNat false = true ∧ s[j].toNat < 128) ∨ (s[j] = 46 ∧ 0 < j ∧ (∀ h2 : j - 1 < s.size, s[j - 1] ≠ 46) ∧ j + 1 < s.size)
theorem DotOk.of {s : ByteArray} (h0 : 0 < s.size) (h : ∀ j, j < s.size → DotAt s j) : DotOk s.data.toList := by
  refine ⟨h0, fun j hj => ?_⟩
  obtain ⟨h1, h2⟩ := h j hj
  rcases h2 with h2 | ⟨a, b, c, d⟩
  · exact .inl h2
  · refine .inr ⟨a, b, ?_, d⟩
    have hlt : j - 1 < s.data.toList.length := Nat.lt_of_le_of_lt (Nat.sub_le j 1) hj
    rw [List.getElem?_eq_getElem hlt]
    intro e
    exact c hlt (Option.some.inj e)

set_option maxRecDepth 100000 in
set_option maxHeartbeats 1600000 in
/-- Dotted. -/
theorem f16 {w : World} (s : ByteArray) (hs : s.size ≤ 2147483647) : Calls Tryz.prog 16 #[.string s] w fun e w' => Tells (fun b => b = true → DotOk s.data.toList) e ∧ Below w.heap.size w w' := by
  go_enter Tryz.func16, Tryz.ntmps16
  go_wp2
  go_loopw [6] (fun i wr => ∃ k : Nat, k ≤ s.size ∧ i = .int .i64 k ∧ (∀ j, j < k → DotAt s j) ∧ Below w.heap.size w wr) (fun i _ => s.size - (intOf i).toNat)
  case atStart => exact ⟨0, by omega, rfl, fun j h => by omega, Below.refl _ _⟩
  case round =>
    obtain ⟨k, hk, rfl, hd, hb⟩ := hrel
    have HD := Lib.hid hd
    clear hd
    by_cases hlt : k < s.size
    · obtain ⟨c, hx⟩ : ∃ x : Nat, x = s[k].toNat := ⟨_, rfl⟩
      have hc256 : c < 256 := by rw [hx]; exact s[k].toNat_lt
      have hix : ∀ w, (Instr.index 9 (.string s) (.int .i64 k)).run Tryz.prog w = .ok (.int .u8 c) w := by
        intro w
        rw [run_index_string w 9 s .i64 k Tryz.underlying9]
        simp [hlt, hx]
      have HX := Lib.hid hx
      clear hx
      by_cases h46 : c = 46
      · have h9b : ((c : Int) == 46) = true := by simp [h46]
        have HC := Lib.hid h46
        by_cases h0 : k = 0
        · have hkb : ((k : Int) == 0) = true := by simp [h0]
          clear h46 h0
          go_wp2
          go_ret
          exact ⟨⟨false, rfl, fun h => by cases h⟩, hb⟩
        · have hkb : ((k : Int) == 0) = false := by simp [h0]
          by_cases hl : k + 1 = s.size
          · have hlb : ((k : Int) == (s.size : Int) - 1) = true := by simp; omega
            have hw1 : IntKind.i64.wrap ((s.size : Int) - 1) = (s.size : Int) - 1 := IntWalk.i64_in _ (by omega)
            clear h46 h0 hl
            go_wp2
            go_ret
            exact ⟨⟨false, rfl, fun h => by cases h⟩, hb⟩
          · have hlb : ((k : Int) == (s.size : Int) - 1) = false := by simp; omega
            have hk1 : k - 1 < s.size := by omega
            obtain ⟨y, hy⟩ : ∃ y : Nat, y = s[k - 1].toNat := ⟨_, rfl⟩
            have hix1 : ∀ w, (Instr.index 9 (.string s) (.int .i64 ((k : Int) - 1))).run Tryz.prog w = .ok (.int .u8 y) w := by
              intro w
              have := run_index_string (P := Tryz.prog) w 9 s .i64 ((k : Int) - 1) Tryz.underlying9
              rw [this]
              have e : ((k : Int) - 1).toNat = k - 1 := by omega
              simp only [e]
              rw [dif_pos ⟨by omega, by omega⟩, hy]
            have hw2 : IntKind.i64.wrap ((k : Int) - 1) = (k : Int) - 1 := IntWalk.i64_in _ (by omega)
            have hw1 : IntKind.i64.wrap ((s.size : Int) - 1) = (s.size : Int) - 1 := IntWalk.i64_in _ (by omega)
            have HY := Lib.hid hy
            have H0 := Lib.hid h0
            have HL := Lib.hid hl
            by_cases hy46 : y = 46
            · have hyb : ((y : Int) == 46) = true := by simp [hy46]
              clear h46 h0 hl hy hy46
              go_wp2
              go_ret
              exact ⟨⟨false, rfl, fun h => by cases h⟩, hb⟩
            · have hyb : ((y : Int) == 46) = false := by simp; omega
              have HYN := Lib.hid hy46
              clear h46 h0 hl hy hy46
              go_wp2
              go_roundw
              case rel =>
                refine ⟨k + 1, by omega, by go_num, fun j h => ?_, hb⟩
                by_cases hj : j < k
                · exact HD.out j hj
                · obtain rfl : j = k := by omega
                  have e := HX.out
                  have hc := HC.out
                  refine ⟨hlt, .inr ⟨?_, by have := H0.out; omega, ?_, by have := HL.out; omega⟩⟩
                  · exact UInt8.toNat.inj (by rw [← e, hc]; rfl)
                  · intro h2 e2
                    have := HY.out
                    rw [e2] at this
                    exact HYN.out (by rw [this]; rfl)
              case measure => simp [intOf]; omega
      · have h9b : ((c : Int) == 46) = false := by simp; omega
        have HC := Lib.hid h46
        clear h46
        by_cases h128 : 128 ≤ c
        · have h1 : (128 : Int) ≤ c := by omega
          go_wp2_with fail
          refine (f22h c hc256 h128).mono ?_
          rintro e w1 ⟨rfl, hb1⟩
          go_wp2
          go_ret
          exact ⟨⟨false, rfl, fun h => by cases h⟩, hb.trans (hb1.mono hb.size)⟩
        · have h1 : ¬ (128 : Int) ≤ c := by omega
          go_wp2_with fail
          refine (f22 c (by omega)).mono ?_
          rintro e w1 ⟨⟨b, rfl, hat⟩, hb1⟩
          have hb2 := hb.trans (hb1.mono hb.size)
          clear hb hb1
          have HAT := Lib.hid hat
          cases b with
          | false =>
            clear hat
            go_wp2
            go_ret
            exact ⟨⟨false, rfl, fun h => by cases h⟩, hb2⟩
          | true =>
            clear hat
            go_wp2
            go_roundw
            case rel =>
              refine ⟨k + 1, by omega, by go_num, fun j h => ?_, hb2⟩
              by_cases hj : j < k
              · exact HD.out j hj
              · obtain rfl : j = k := by omega
                have e := HX.out
                refine ⟨hlt, .inl ⟨?_, by omega⟩⟩
                rw [← e]; exact HAT.out (by simp)
            case measure => simp [intOf]; omega
    · obtain rfl : k = s.size := by omega
      by_cases h0 : 0 < s.size
      · have h00 : (0 : Int) < s.size := by omega
        go_wp2
        go_ret
        exact ⟨⟨true, rfl, fun _ => DotOk.of h0 HD.out⟩, hb⟩
      · have h00 : ¬ (0 : Int) < s.size := by omega
        go_wp2
        go_ret
        exact ⟨⟨false, rfl, fun h => by cases h⟩, hb⟩
end Go.Proofs.YtbigjdlcmlopcaaGreatDoor
