import Derived.Test.YtbigjdlcmlopcaaGreatDoorA
import Derived.Lib.Strings
namespace Go.Proofs.YtbigjdlcmlopcaaGreatDoor
open Go.RowKit

theorem f99e (t : ByteArray) (ht : t.size = 0) (w : World) : Calls Tryz.prog 99 #[.string t] w fun e w' => e = .returned (.tuple #[.int .i32 65533, .int .i64 0]) ∧ w = w' := by
  have h : ((t.size : Nat) : Int) < 1 := by omega
  clear ht
  go_enter Tryz.func99, Tryz.ntmps99
  go_wp2
  go_ret2
  exact ⟨rfl, rfl⟩
theorem f82e (t : ByteArray) (ht : t.size = 0) (w : World) : Calls Tryz.prog 82 #[.string t] w fun e w' => e = .returned (.tuple #[.int .i32 65533, .int .i64 0]) ∧ w = w' := by
  have h : t.toList.isEmpty = true := by rw [Lib.toList_data]; simp; exact Array.size_eq_zero_iff.1 ht
  go_enter Tryz.func82, Tryz.ntmps82
  go_wp2_with (go_at_call 99; refine (f99e t ht _).mono ?_; rintro e w' ⟨rfl, rfl⟩)
  go_ret2
  exact ⟨rfl, rfl⟩
theorem f82a (t : ByteArray) (c : Int) (ht : 0 < t.size) (hc : (t[0].toNat : Int) = c) (h128 : c < 128) (w : World) : Calls Tryz.prog 82 #[.string t] w fun e w' => e = .returned (.tuple #[.int .i32 c, .int .i64 1]) ∧ w = w' := by
  have h : t.toList.isEmpty = false := by rw [Lib.toList_data]; simp; intro h; simp [ByteArray.size, h] at ht
  have h2 : (t[0].toNat : Int) < 128 := by omega
  have HC := Lib.hid hc
  clear hc
  go_enter Tryz.func82, Tryz.ntmps82
  go_wp2
  go_ret2
  rw [HC.out]
  exact ⟨rfl, rfl⟩

theorem ret_str {a b : ByteArray} (h : a = b) : Ending.returned (.string a) = .returned (.string b) := by rw [h]

theorem split_lo {a r : List UInt8} {s : ByteArray} (hs : s = mk (a ++ r)) (k : Nat) (hk : k < a.length) (h : k < s.size) : s[k] = a[k] := by
  subst hs; rw [mk_get]; simp [hk]
theorem split_hd {a r : List UInt8} {s : ByteArray} (hs : s = mk (a ++ r)) (h : a.length < s.size) : r.head? = some s[a.length] := by
  subst hs; rw [mk_get]
  have : 0 < r.length := by rw [mk_size] at h; simp at h; exact h
  rw [List.head?_eq_getElem?, List.getElem?_eq_getElem this]
  simp
theorem split_size {a r : List UInt8} {s : ByteArray} (hs : s = mk (a ++ r)) : s.size = a.length + r.length := by rw [hs, mk_size]; simp
theorem split_tail {a r : List UInt8} {s : ByteArray} (hs : s = mk (a ++ r)) : s.extract a.length s.size = mk r := by
  subst hs; rw [mk_tail, List.drop_left]
theorem split_init {a r : List UInt8} {s : ByteArray} (hs : s = mk (a ++ r)) : s.extract 0 a.length = mk a := by
  subst hs; rw [mk_extract]; simp

/-- zzTrimLeft at blanks and tabs: what stands behind them. -/
theorem f63 (ws r : List UInt8) (hws : ∀ c ∈ ws, wsp c.toNat = true) (hr : ∀ c ∈ r.head?, wsp c.toNat = false ∧ c.toNat < 128) (_hn : ws.length + r.length ≤ 140737488351232) (w : World) :
    Calls Tryz.prog 63 #[.string (mk (ws ++ r)), .string ⟨#[32, 9]⟩] w fun e w' => e = .returned (.string (mk r)) ∧ Below w.heap.size w w' := by
  obtain ⟨s, hs⟩ : ∃ s, s = mk (ws ++ r) := ⟨_, rfl⟩
  rw [← hs]
  have hsz1 : s.size ≤ ws.length + r.length := by rw [split_size hs]; omega
  have hsz2 : ws.length + r.length ≤ s.size := by rw [split_size hs]; omega
  have HS := Lib.hid hs
  have HW := Lib.hid hws
  have HR := Lib.hid hr
  clear hs hws hr
  go_enter Tryz.func63, Tryz.ntmps63
  go_wp2
  go_loopw [] (fun wr => ∃ k : Nat, k ≤ ws.length ∧ wr.heap[w.heap.size]? = some (.stringIter s k) ∧ Below w.heap.size w wr) (fun wr => s.size - wr.iterPos w.heap.size)
  case atStart => exact ⟨0, by omega, World.iter_heap _ _ _, (Below.refl _ _).alloc (Nat.le_refl _) _⟩
  case round =>
    obtain ⟨k, hk, hit, hb⟩ := hrel
    by_cases hp : k < s.size
    · by_cases hkw : k < ws.length
      · have hws := HW.out ws[k] (List.getElem_mem hkw)
        rw [← split_lo HS.out k hkw hp] at hws
        have h128 : (s[k].toNat) < 128 := by unfold wsp at hws; have := of_decide_eq_true hws; omega
        have hnx : ∀ ty, (Instr.next (.pointer (some ⟨w.heap.size, 0, none⟩)) true ty).run Tryz.prog wr = _ := fun ty => Lib.run_next_ascii_at wr w.heap.size s k ty hit hp h128
        go_wp2_with (go_at_call 85; refine (f85 _ _).mono ?_)
        rintro e w1 ⟨rfl, hb1⟩
        go_wp2
        go_roundw
        case rel =>
          have hsz := (Array.getElem?_eq_some_iff.1 hit).1
          refine ⟨k + 1, by omega, ?_, (Lib.below_iterAt hb (Nat.le_refl _) s (k + 1)).trans (hb1.mono (by rw [Lib.iterAt_size]; exact hb.size))⟩
          rw [hb1.block _ (by rw [Lib.iterAt_size]; exact hsz)]
          exact Lib.iterAt_heap wr _ s k (k + 1) hit
        case measure =>
          have hsz := (Array.getElem?_eq_some_iff.1 hit).1
          have := hb1.block w.heap.size (by rw [Lib.iterAt_size]; exact hsz)
          rw [Lib.iterAt_heap wr _ s k (k + 1) hit] at this
          simp only [World.iterPos, this, hit]
          omega
      · have hkk : k = ws.length := by omega
        have hr1 := HR.out _ (split_hd HS.out (by omega))
        have hws : wsp s[k].toNat = false := by simp only [hkk]; exact hr1.1
        have h128 : (s[k].toNat) < 128 := by simp only [hkk]; exact hr1.2
        have hnx : ∀ ty, (Instr.next (.pointer (some ⟨w.heap.size, 0, none⟩)) true ty).run Tryz.prog wr = _ := fun ty => Lib.run_next_ascii_at wr w.heap.size s k ty hit hp h128
        have HT := Lib.hid (split_tail HS.out)
        have HK := Lib.hid hkk
        clear hr1 hkk
        go_wp2_with (go_at_call 85; refine (f85 _ _).mono ?_)
        rintro e w1 ⟨rfl, hb1⟩
        go_wp2
        go_ret
        exact ⟨ret_str (by rw [← HT.out, HK.out]), (Lib.below_iterAt hb (Nat.le_refl _) s _).trans (hb1.mono (by rw [Lib.iterAt_size]; exact hb.size))⟩
    · have hnx : ∀ ty, (Instr.next (.pointer (some ⟨w.heap.size, 0, none⟩)) true ty).run Tryz.prog wr = _ := fun ty => Lib.run_next_end_at wr w.heap.size s k ty hit hp
      have hr0 : r = [] := by apply List.eq_nil_of_length_eq_zero; omega
      have HR0 := Lib.hid hr0
      clear hr0
      go_wp2
      go_ret
      rw [HR0.out]
      exact ⟨rfl, hb⟩

/-- skipSpace. -/
theorem f46 {b : Nat} {w : World} (ws r : List UInt8) (h : PAt b (mk (ws ++ r)) w) (hws : ∀ c ∈ ws, wsp c.toNat = true) (hr : ∀ c ∈ r.head?, wsp c.toNat = false ∧ c.toNat < 128) (hn : ws.length + r.length ≤ 140737488351232) :
    Calls Tryz.prog 46 #[.pointer (some ⟨b, 0, none⟩)] w fun e w' => e = .returned (.tuple #[]) ∧ PAt b (mk r) w' ∧ w.grownBy w' (some b) := by
  have h0 := h.c0
  have H := Lib.hid h
  have hlt := h.lt
  clear h
  go_enter Tryz.func46, Tryz.ntmps46
  go_wp2_with (go_at_call 63; refine (f63 ws r hws hr hn _).mono ?_)
  rintro e w1 ⟨rfl, hb⟩
  have h1 := H.out.kept (grownBy_of_below none hb) (by simp)
  have h2 := h1.c0
  have hf := h1.f0
  go_wp2
  go_end0
  exact ⟨rfl, h1.set _, grownBy_trans (grownBy_of_below _ hb) (grownBy_set _ _ _)⟩
end Go.Proofs.YtbigjdlcmlopcaaGreatDoor
