import Derived.Test.YtbigjdlcmlopcaaGreatDoorS
namespace Go.Proofs.YtbigjdlcmlopcaaGreatDoor
open Go.RowKit

/-- encodeWord by B. -/
theorem f45b {w : World} (t : List UInt8) (ht0 : t.length ≤ 10000) (hT : Lib.Utf8Tabs 0 1 w) (hne : 0 < t.length) :
    Calls Tryz.prog 45 #[.int .u8 98, .string (mk utf8n), .string (mk t)] w fun r w' => (∃ (cs : List (List UInt8)) (cur : List UInt8), t = cs.flatten ++ cur ∧ 0 < cur.length ∧ (∀ c ∈ cs, 0 < c.length) ∧ r = .returned (.string (mk (hdr 98 ++ wtext b64 98 cs cur ++ [63, 61])))) ∧ Below w.heap.size w w' := by
  have hsz := tabs_size hT
  go_enter Tryz.func45, Tryz.ntmps45
  go_wp2_with fail
  have hb0 : Below w.heap.size w (w.alloc (.cells #[.pointer none, .slice none 0 0] 81)) := (Below.refl _ _).alloc (Nat.le_refl _) _
  refine (Tryz.Builder_Grow_fresh w.heap.size w.heap.size 48 _ (Nat.le_refl _) (heap_alloc_new w _) (by simp) (by decide)).mono ?_
  rintro r w1 ⟨rfl, hI, hb1⟩
  have hI1 : Lib.IsBuilderF 81 5 w.heap.size w.heap.size (Lib.byteCells []) w1 := Lib.IsBuilderF.of (.inr hI)
  have B1 := hb0.trans hb1
  have hlt := hI1.elim (fun h => h.lt) (fun h => h.lt)
  have hh : (hdr 98).length = 10 := rfl
  clear hI hb0 hb1
  go_wp2_with fail
  refine (f59 98 hI1 (by simp) B1.size).mono ?_
  rintro r w2 ⟨rfl, W2⟩
  have B2 := B1.trans W2.2.1
  go_wp2_with fail
  refine (f60 t W2.1 (by simp [hh]) ht0 B2.size hsz (by have := W2.2.1.size; have := B1.size; have := W2.1.elim (fun h => h.lt) (fun h => h.lt); omega) (tabs_below hT B2 hsz) hne).mono ?_
  rintro r w3 ⟨rfl, cs, cur, h1, h2, h3, hI3, hb3⟩
  have B3 := B2.trans hb3
  have hw := wtext_le64 cs cur h3
  have hl : t.length = cs.flatten.length + cur.length := by rw [h1, List.length_append]
  go_wp2_with fail
  refine (f62 hI3 (by rw [List.length_append, List.length_append, hh]; simp only [List.length_nil]; omega) B3.size).mono ?_
  rintro r w4 ⟨rfl, W4⟩
  have B4 := B3.trans W4.2.1
  go_wp2_with fail
  refine (bStr W4.1 B4.size).mono ?_
  rintro r w5 ⟨rfl, -, hb5, -⟩
  go_wp2
  go_ret
  exact ⟨⟨cs, cur, h1, h2, h3, by simp⟩, B4.trans hb5⟩

/-- encodeWord by Q. -/
theorem f45q {w : World} (t : List UInt8) (ht0 : t.length ≤ 10000) (hT : Lib.Utf8Tabs 0 1 w) (hne : 0 < t.length) :
    Calls Tryz.prog 45 #[.int .u8 113, .string (mk utf8n), .string (mk t)] w fun r w' => (∃ (cs : List (List UInt8)) (cur : List UInt8), t = cs.flatten ++ cur ∧ 0 < cur.length ∧ (∀ c ∈ cs, 0 < c.length) ∧ r = .returned (.string (mk (hdr 113 ++ wtext qenc 113 cs cur ++ [63, 61])))) ∧ Below w.heap.size w w' := by
  have hsz := tabs_size hT
  go_enter Tryz.func45, Tryz.ntmps45
  go_wp2_with fail
  have hb0 : Below w.heap.size w (w.alloc (.cells #[.pointer none, .slice none 0 0] 81)) := (Below.refl _ _).alloc (Nat.le_refl _) _
  refine (Tryz.Builder_Grow_fresh w.heap.size w.heap.size 48 _ (Nat.le_refl _) (heap_alloc_new w _) (by simp) (by decide)).mono ?_
  rintro r w1 ⟨rfl, hI, hb1⟩
  have hI1 : Lib.IsBuilderF 81 5 w.heap.size w.heap.size (Lib.byteCells []) w1 := Lib.IsBuilderF.of (.inr hI)
  have B1 := hb0.trans hb1
  have hh : (hdr 113).length = 10 := rfl
  clear hI hb0 hb1
  go_wp2_with fail
  refine (f59 113 hI1 (by simp) B1.size).mono ?_
  rintro r w2 ⟨rfl, W2⟩
  have B2 := B1.trans W2.2.1
  go_wp2_with fail
  refine (f61 t W2.1 (by simp [hh]) ht0 B2.size hsz (tabs_below hT B2 hsz) hne).mono ?_
  rintro r w3 ⟨rfl, cs, cur, h1, h2, h3, W3⟩
  have B3 := B2.trans W3.2.1
  have hw := wtext_le cs cur h3
  have hl : t.length = cs.flatten.length + cur.length := by rw [h1, List.length_append]
  go_wp2_with fail
  refine (f62 W3.1 (by rw [List.length_append, List.length_append, hh]; simp only [List.length_nil]; omega) B3.size).mono ?_
  rintro r w4 ⟨rfl, W4⟩
  have B4 := B3.trans W4.2.1
  go_wp2_with fail
  refine (bStr W4.1 B4.size).mono ?_
  rintro r w5 ⟨rfl, -, hb5, -⟩
  go_wp2
  go_ret
  exact ⟨⟨cs, cur, h1, h2, h3, by simp⟩, B4.trans hb5⟩

set_option maxRecDepth 100000 in
/-- Encode, of a text that has a sign that must be encoded. -/
theorem f31b {w : World} (t d : List UInt8) (x : UInt8) (q : List UInt8) (ht : t = d ++ x :: q) (hd : ∀ y ∈ d, okc y = true) (hx : okc x = false) (ht0 : t.length ≤ 10000) (hT : Lib.Utf8Tabs 0 1 w) :
    Calls Tryz.prog 31 #[.int .u8 98, .string (mk utf8n), .string (mk t)] w fun r w' => (∃ (cs : List (List UInt8)) (cur : List UInt8), t = cs.flatten ++ cur ∧ 0 < cur.length ∧ (∀ c ∈ cs, 0 < c.length) ∧ r = .returned (.string (mk (hdr 98 ++ wtext b64 98 cs cur ++ [63, 61])))) ∧ Below w.heap.size w w' := by
  have hn := f44 (w := w) d x q hd hx (by rw [ht] at ht0; simp at ht0; omega)
  rw [← ht] at hn
  have hsz := tabs_size hT
  have hl : 0 < t.length := by rw [ht]; simp; omega
  clear ht hd hx
  go_enter Tryz.func31, Tryz.ntmps31
  go_wp2_with fail
  refine hn.mono ?_
  rintro r w1 ⟨rfl, hb1⟩
  go_wp2_with fail
  refine (f45b t ht0 (tabs_below hT hb1 hsz) hl).mono ?_
  rintro r w2 ⟨⟨cs, cur, h1, h2, h3, rfl⟩, hb2⟩
  go_wp2
  go_ret
  exact ⟨⟨cs, cur, h1, h2, h3, rfl⟩, hb1.trans (hb2.mono hb1.size)⟩

set_option maxRecDepth 100000 in
theorem f31q {w : World} (t d : List UInt8) (x : UInt8) (q : List UInt8) (ht : t = d ++ x :: q) (hd : ∀ y ∈ d, okc y = true) (hx : okc x = false) (ht0 : t.length ≤ 10000) (hT : Lib.Utf8Tabs 0 1 w) :
    Calls Tryz.prog 31 #[.int .u8 113, .string (mk utf8n), .string (mk t)] w fun r w' => (∃ (cs : List (List UInt8)) (cur : List UInt8), t = cs.flatten ++ cur ∧ 0 < cur.length ∧ (∀ c ∈ cs, 0 < c.length) ∧ r = .returned (.string (mk (hdr 113 ++ wtext qenc 113 cs cur ++ [63, 61])))) ∧ Below w.heap.size w w' := by
  have hn := f44 (w := w) d x q hd hx (by rw [ht] at ht0; simp at ht0; omega)
  rw [← ht] at hn
  have hsz := tabs_size hT
  have hl : 0 < t.length := by rw [ht]; simp; omega
  clear ht hd hx
  go_enter Tryz.func31, Tryz.ntmps31
  go_wp2_with fail
  refine hn.mono ?_
  rintro r w1 ⟨rfl, hb1⟩
  go_wp2_with fail
  refine (f45q t ht0 (tabs_below hT hb1 hsz) hl).mono ?_
  rintro r w2 ⟨⟨cs, cur, h1, h2, h3, rfl⟩, hb2⟩
  go_wp2
  go_ret
  exact ⟨⟨cs, cur, h1, h2, h3, rfl⟩, hb1.trans (hb2.mono hb1.size)⟩

/-- The signs that no encoded word of a name may bear. -/
def nameSp : List UInt8 := [34, 35, 36, 37, 38, 39, 40, 41, 44, 46, 58, 59, 60, 62, 64, 91, 93, 94, 96, 123, 124, 125, 126]
theorem f30 {w : World} (t : List UInt8) (ht0 : t.length ≤ 10000) : Calls Tryz.prog 30 #[.string (mk t), .string (mk nameSp)] w fun r w' => ∃ b : Bool, r = .returned (.bool b) ∧ (b = false → ∀ x ∈ t, x ∉ nameSp) ∧ Below w.heap.size w w' := by
  go_enter Tryz.func30, Tryz.ntmps30
  go_wp2_with fail
  refine (f43 (mk t) nameSp (by decide) (by rw [mk_size]; omega) (by decide)).mono ?_
  rintro r w1 ⟨i, rfl, hi, hb⟩
  have HI := Lib.hid hi
  clear hi
  go_wp2
  go_ret
  refine ⟨decide (0 ≤ i), by first | rfl | simp, ?_, hb⟩
  intro hf x hx
  have h1 : i < 0 := by simpa using hf
  obtain ⟨j, hj, rfl⟩ := List.getElem_of_mem hx
  have := HI.out h1 j (by rw [mk_size]; exact hj)
  rwa [mk_get] at this

/-- The last sign @. -/
theorem lastAt (a d : List UInt8) (hd : (64 : UInt8) ∉ d) : Lib.lastIndexByte (mk (a ++ 64 :: d)) 64 = a.length := by
  have hz : (mk (a ++ 64 :: d)).size = a.length + d.length + 1 := by rw [mk_size]; simp; omega
  have hg : ∀ j (h : j < (a ++ 64 :: d).length), (mk (a ++ 64 :: d)).data[j]! = (a ++ 64 :: d)[j] := fun j h => by
    have : (mk (a ++ 64 :: d)).data = (a ++ 64 :: d).toArray := rfl
    rw [this, getElem!_pos _ _ (by simpa using h)]; simp
  rcases Lib.lastIndexByte_spec (mk (a ++ 64 :: d)) 64 with ⟨h1, h2⟩ | ⟨i, h1, h2, h3, h4⟩
  · exfalso
    have := h2 a.length (by omega)
    rw [hg _ (by simp)] at this
    simp at this
  · rw [h2]
    have hil : i < (a ++ 64 :: d).length := by rw [hz] at h1; simp; omega
    rw [hg i hil] at h3
    by_cases h5 : i < a.length
    · exfalso
      have := h4 a.length h5 (by omega)
      rw [hg _ (by simp)] at this
      simp at this
    · by_cases h6 : i = a.length
      · rw [h6]
      · exfalso
        apply hd
        rw [List.getElem_append_right (by omega)] at h3
        obtain ⟨j, hj⟩ : ∃ j, i - a.length = j + 1 := ⟨i - a.length - 1, by omega⟩
        simp only [hj, List.getElem_cons_succ] at h3
        have : d[j]'(by simp at hil; omega) = 64 := by
          apply UInt8.toNat_inj.1
          have h7 : (64 : UInt8).toNat = 64 := rfl
          omega
        rw [← this]; exact List.getElem_mem _
theorem f24at {w : World} (a d : List UInt8) (hd : (64 : UInt8) ∉ d) (hn : a.length + d.length ≤ 1073741820) : Calls Tryz.prog 24 #[.string (mk (a ++ 64 :: d)), .string ⟨#[64]⟩] w fun r w' => r = .returned (.int .i64 a.length) ∧ w = w' := by
  refine (Tryz.strings_LastIndex_one (mk (a ++ 64 :: d)) ⟨#[64]⟩ rfl (by rw [mk_size]; simp; omega) w).mono ?_
  rintro r w' ⟨rfl, rfl⟩
  refine ⟨?_, rfl⟩
  have := lastAt a d hd
  have h2 : ((⟨#[64]⟩ : ByteArray)[0]'(by decide)).toNat = 64 := rfl
  rw [h2]
  exact congrArg (fun n => Ending.returned (Value.int .i64 n)) this
end Go.Proofs.YtbigjdlcmlopcaaGreatDoor
