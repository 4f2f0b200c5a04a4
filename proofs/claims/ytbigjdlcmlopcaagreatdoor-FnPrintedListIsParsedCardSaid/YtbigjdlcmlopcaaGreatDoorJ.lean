import Derived.Test.YtbigjdlcmlopcaaGreatDoorI
import Derived.Lib.DecodeN
import Derived.Lib.DecodeNEq
namespace Go.Proofs.YtbigjdlcmlopcaaGreatDoor
open Go.RowKit

/-- The rune at a byte that is no printable sign of ASCII and no tab. -/
theorem bad_rune (s : ByteArray) (i : Nat) (h : i < s.size) (hb : okc s[i] = false) :
    (126 < ((Utf8.decode s i).1 : Int) ∨ (((Utf8.decode s i).1 : Int) < 32 ∧ ((Utf8.decode s i).1 : Int) ≠ 9)) ∧ (vch (Utf8.decode s i).1 = false ∧ wsp (Utf8.decode s i).1 = false ∨ 128 ≤ (Utf8.decode s i).1) := by
  have h1 := of_decide_eq_false hb
  by_cases ha : s[i].toNat < 128
  · rw [decode_ascii s i h ha]
    refine ⟨by simp only; omega, .inl ⟨?_, ?_⟩⟩
    · unfold vch; exact decide_eq_false (by simp only; omega)
    · unfold wsp; exact decide_eq_false (by simp only; omega)
  · have := (decode_high s i h (by omega)).1
    exact ⟨.inl (by omega), .inr this⟩

set_option maxHeartbeats 1600000 in
/-- needsEncoding: a sign that must be encoded. -/
theorem f44 {w : World} (d : List UInt8) (c : UInt8) (q : List UInt8) (hd : ∀ x ∈ d, okc x = true) (hc : okc c = false) (_hn : d.length ≤ 1073741820) :
    Calls Tryz.prog 44 #[.string (mk (d ++ c :: q))] w fun e w' => e = .returned (.bool true) ∧ Below w.heap.size w w' := by
  obtain ⟨s, hs⟩ : ∃ s, s = mk (d ++ c :: q) := ⟨_, rfl⟩
  rw [← hs]
  obtain ⟨hp, hx⟩ := at_mid hs
  have hbr := bad_rune s d.length hp (by rw [hx]; exact hc)
  obtain ⟨hbr, -⟩ := hbr
  have HS := Lib.hid hs
  have HD := Lib.hid hd
  have HB := Lib.hid hbr
  clear hs hd hc hx hbr
  go_enter Tryz.func44, Tryz.ntmps44
  go_wp2
  have hit : (w.iter s 0).heap[w.heap.size]? = some (.stringIter s 0) := World.iter_heap w s 0
  have hb0 : Below w.heap.size w (w.iter s 0) := (Below.refl _ _).alloc (Nat.le_refl _) _
  generalize w.iter s 0 = W at *
  go_loopw [] (fun wr => ∃ k : Nat, k ≤ d.length ∧ wr.heap[w.heap.size]? = some (.stringIter s k) ∧ Below w.heap.size w wr) (fun wr => s.size - wr.iterPos w.heap.size)
  case atStart => exact ⟨0, Nat.zero_le _, hit, hb0⟩
  case round =>
    clear hit hb0
    obtain ⟨k, hk, hit, hb⟩ := hrel
    by_cases hlt : k < d.length
    · have hp2 : k < s.size := by omega
      have hok : okc s[k] = true := by rw [split_lo HS.out k hlt hp2]; exact HD.out _ (List.getElem_mem hlt)
      have hok2 := of_decide_eq_true hok
      have hnx : ∀ ty, (Instr.next (.pointer (some ⟨w.heap.size, 0, none⟩)) true ty).run Tryz.prog wr = _ := fun ty => Lib.run_next_ascii_at wr w.heap.size s k ty hit hp2 (by omega)
      clear hok
      have hit1 := Lib.iterAt_heap wr w.heap.size s k (k + 1) hit
      have hb1 := Lib.below_iterAt hb (Nat.le_refl _) s (k + 1)
      have hm1 : s.size - (k + 1) < s.size - wr.iterPos w.heap.size := by simp only [World.iterPos, hit]; omega
      clear hit hb
      generalize hW : wr.iterAt w.heap.size s (k + 1) = wi at *
      clear hW
      by_cases h9 : s[k].toNat = 9
      · have a1 : decide ((s[k].toNat : Int) < 32) = true := by simp; omega
        have a2 : ((s[k].toNat : Int) != 9) = false := by simp; omega
        clear hok2 h9
        go_wp2
        go_roundw
        case rel => exact ⟨k + 1, by omega, hit1, hb1⟩
        case measure => simp only [World.iterPos, hit1]; exact hm1
      · have a1 : ¬ (s[k].toNat : Int) < 32 := by omega
        have a2 : ¬ (126 : Int) < (s[k].toNat : Int) := by omega
        clear hok2 h9
        go_wp2
        go_roundw
        case rel => exact ⟨k + 1, by omega, hit1, hb1⟩
        case measure => simp only [World.iterPos, hit1]; exact hm1
    · obtain rfl : k = d.length := by omega
      have hnx : ∀ ty, (Instr.next (.pointer (some ⟨w.heap.size, 0, none⟩)) true ty).run Tryz.prog wr = _ := fun ty => Lib.run_next_any_at wr w.heap.size s d.length ty hit hp
      have hb1 := Lib.below_iterAt hb (Nat.le_refl _) s (d.length + (Utf8.decode s d.length).2)
      rcases HB.out with h1 | ⟨h1, h2⟩
      · have a1 : ¬ ((Utf8.decode s d.length).1 : Int) < 32 := by omega
        have a3 : (((Utf8.decode s d.length).1 : Int) != 9) = true := by simp; omega
        go_wp2
        go_ret
        exact ⟨rfl, hb1⟩
      · have a3 : (((Utf8.decode s d.length).1 : Int) != 9) = true := by simp; omega
        clear h2
        go_wp2
        go_ret
        exact ⟨rfl, hb1⟩

theorem decodeN_tail (n b0 b1 b2 b3 : Nat) (hn : 1 ≤ n) (h0 : 128 ≤ b0) : 1 ≤ (Lib.decodeN n b0 b1 b2 b3).2 ∧ (Lib.decodeN n b0 b1 b2 b3).2 ≤ 4 ∧ (Lib.decodeN n b0 b1 b2 b3).2 ≤ n ∧
    (2 ≤ (Lib.decodeN n b0 b1 b2 b3).2 → 128 ≤ b1) ∧ (3 ≤ (Lib.decodeN n b0 b1 b2 b3).2 → 128 ≤ b2) ∧ (4 ≤ (Lib.decodeN n b0 b1 b2 b3).2 → 128 ≤ b3) := by
  unfold Lib.decodeN
  rw [if_neg (by omega)]
  repeat' split
  all_goals (simp only; omega)

theorem get_in (s : ByteArray) (i : Nat) (h : i < s.size) : s.get! i = s[i] := get_at s i h

/-- Where the model's decoding stops, and what bytes lie ahead of it. -/
theorem dec_facts (s : ByteArray) (i : Nat) (h : i < s.size) : 1 ≤ (Utf8.decode s i).2 ∧ (Utf8.decode s i).2 ≤ 4 ∧ i + (Utf8.decode s i).2 ≤ s.size ∧
    (128 ≤ s[i].toNat → ∀ j (hj : j < s.size), i ≤ j → j < i + (Utf8.decode s i).2 → 128 ≤ s[j].toNat) ∧ (s[i].toNat < 128 → (Utf8.decode s i).2 = 1) := by
  by_cases ha : s[i].toNat < 128
  · rw [decode_ascii s i h ha]
    exact ⟨by simp, by simp, by simp only; omega, fun h => by omega, fun _ => rfl⟩
  · have hd := Lib.decode_at s i
    rw [get_in s i h] at hd
    obtain ⟨h1, h2, h3, h4, h5, h6⟩ := decodeN_tail (s.size - i) s[i].toNat (s.get! (i + 1)).toNat (s.get! (i + 2)).toNat (s.get! (i + 3)).toNat (by omega) (by omega)
    rw [← hd] at h1 h2 h3 h4 h5 h6
    refine ⟨h1, h2, by omega, ?_, fun h => absurd h ha⟩
    intro _ j hj hij hjk
    obtain rfl | rfl | rfl | rfl : j = i ∨ j = i + 1 ∨ j = i + 2 ∨ j = i + 3 := by omega
    · omega
    · have := h4 (by omega); rw [get_in s _ hj] at this; exact this
    · have := h5 (by omega); rw [get_in s _ hj] at this; exact this
    · have := h6 (by omega); rw [get_in s _ hj] at this; exact this

set_option maxHeartbeats 3200000 in
/-- zzIndexAny over a set of ASCII signs: where it finds none, there is none. -/
theorem f43 {w : World} (s : ByteArray) (cs : List UInt8) (hcs : ∀ c ∈ cs, c.toNat < 128) (_hs : s.size ≤ 1073741820) (_hn : cs.length ≤ 1073741820) :
    Calls Tryz.prog 43 #[.string s, .string (mk cs)] w fun e w' => ∃ r : Int, e = .returned (.int .i64 r) ∧ (r < 0 → ∀ i (h : i < s.size), s[i] ∉ cs) ∧ Below w.heap.size w w' := by
  obtain ⟨t, ht⟩ : ∃ t, t = mk cs := ⟨_, rfl⟩
  rw [← ht]
  have htz1 : t.size ≤ cs.length := by rw [ht, mk_size]; omega
  have htz2 : cs.length ≤ t.size := by rw [ht, mk_size]; omega
  have HT := Lib.hid ht
  have HC := Lib.hid hcs
  clear ht hcs
  go_enter Tryz.func43, Tryz.ntmps43
  go_wp2
  have hit : (w.iter s 0).heap[w.heap.size]? = some (.stringIter s 0) := World.iter_heap w s 0
  have hb0 : Below w.heap.size w (w.iter s 0) := (Below.refl _ _).alloc (Nat.le_refl _) _
  generalize w.iter s 0 = W at *
  go_loopw [] (fun wr => ∃ k : Nat, k ≤ s.size ∧ wr.heap[w.heap.size]? = some (.stringIter s k) ∧ Below w.heap.size w wr ∧ ∀ i (h : i < s.size), i < k → s[i] ∉ cs) (fun wr => s.size - wr.iterPos w.heap.size)
  case atStart => exact ⟨0, Nat.zero_le _, hit, hb0, fun i _ h => by omega⟩
  case round =>
    clear hit hb0
    obtain ⟨k, hk, hit, hb, hno⟩ := hrel
    have HN := Lib.hid hno
    clear hno
    by_cases hp : k < s.size
    · have hnx : ∀ ty, (Instr.next (.pointer (some ⟨w.heap.size, 0, none⟩)) true ty).run Tryz.prog wr = _ := fun ty => Lib.run_next_any_at wr w.heap.size s k ty hit hp
      obtain ⟨d1, d2, d3, d4, d5⟩ := dec_facts s k hp
      have hit1 := Lib.iterAt_heap wr w.heap.size s k (k + (Utf8.decode s k).2) hit
      have hb1 := Lib.below_iterAt hb (Nat.le_refl _) s (k + (Utf8.decode s k).2)
      have hm1 : s.size - (k + (Utf8.decode s k).2) < s.size - wr.iterPos w.heap.size := by simp only [World.iterPos, hit]; omega
      have hrune : s[k].toNat < 128 → ((Utf8.decode s k).1 : Int) = s[k].toNat := fun h => by rw [decode_ascii s k hp h]
      have hrune2 : 128 ≤ s[k].toNat → 128 ≤ ((Utf8.decode s k).1 : Int) := fun h => by have := (decode_high s k hp h).1; omega
      have HR := Lib.hid hrune
      have HR2 := Lib.hid hrune2
      have D4 := Lib.hid d4
      have D5 := Lib.hid d5
      clear hrune hrune2 d4 d5 hit hb
      generalize hW : wr.iterAt w.heap.size s (k + (Utf8.decode s k).2) = wi at *
      clear hW
      generalize hD2 : (Utf8.decode s k).2 = kw at *
      generalize hD1 : (((Utf8.decode s k).1 : Nat) : Int) = R at *
      clear hD1 hD2
      go_wp2
      have hit2 : (wi.iter t 0).heap[wi.heap.size]? = some (.stringIter t 0) := World.iter_heap wi t 0
      have hb2 : Below w.heap.size w (wi.iter t 0) := hb1.alloc hb1.size _
      have hit3 : (wi.iter t 0).heap[w.heap.size]? = some (.stringIter s (k + kw)) := by
        show (wi.alloc _).heap[w.heap.size]? = _
        rw [Below.heap_alloc _ _ _ (Array.getElem?_eq_some_iff.1 hit1).1]; exact hit1
      have hlt : w.heap.size < wi.heap.size := (Array.getElem?_eq_some_iff.1 hit1).1
      clear hit1 hb1
      generalize wi.iter t 0 = W2 at *
      generalize wi.heap.size = K at *
      go_loopw [] (fun wr2 => ∃ j : Nat, j ≤ cs.length ∧ wr2.heap[K]? = some (.stringIter t j) ∧ wr2.heap[w.heap.size]? = some (.stringIter s (k + kw)) ∧ Below w.heap.size w wr2 ∧ ∀ i (h : i < cs.length), i < j → (cs[i].toNat : Int) ≠ R) (fun wr2 => t.size - wr2.iterPos K)
      case atStart => exact ⟨0, Nat.zero_le _, hit2, hit3, hb2, fun i _ h => by omega⟩
      case round =>
        clear hit2 hit3 hb2
        obtain ⟨j, hj, hit2, hit3, hb2, hne⟩ := hrel
        have HNE := Lib.hid hne
        clear hne
        by_cases hjl : j < cs.length
        · have hpj : j < t.size := by omega
          have htj : t[j] = cs[j] := by have hh := HT.out; subst hh; rw [mk_get]
          have hc128 := HC.out cs[j] (List.getElem_mem hjl)
          have hnx2 : ∀ ty, (Instr.next (.pointer (some ⟨K, 0, none⟩)) true ty).run Tryz.prog wr = .ok (.tuple #[.bool true, .int .i64 j, .int .i32 cs[j].toNat]) (wr.iterAt K t (j + 1)) := by
            intro ty; rw [Lib.run_next_ascii_at wr K t j ty hit2 hpj (by rw [htj]; exact hc128), htj]
          have hit4 := Lib.iterAt_heap wr K t j (j + 1) hit2
          have hit5 : (wr.iterAt K t (j + 1)).heap[w.heap.size]? = some (.stringIter s (k + kw)) := by rw [Lib.iterAt_other _ _ _ _ _ (by omega)]; exact hit3
          have hb3 := Lib.below_iterAt hb2 (k := K) (by omega) t (j + 1)
          have hm2 : t.size - (j + 1) < t.size - wr.iterPos K := by simp only [World.iterPos, hit2]; omega
          have HTJ := Lib.hid htj
          clear hit2 hit3 hb2 htj
          generalize hW : wr.iterAt K t (j + 1) = wi2 at *
          clear hW
          obtain ⟨C, hC⟩ : ∃ C : Int, C = cs[j].toNat := ⟨_, rfl⟩
          rw [← hC] at hnx2
          have HCC := Lib.hid hC
          clear hC
          by_cases heq : R = C
          · have he : (R == C) = true := by simp [heq]
            clear heq
            go_wp2
            go_ret
            exact ⟨k, rfl, fun h => by omega, hb3⟩
          · have he : (R == C) = false := by simp [heq]
            have HE := Lib.hid heq
            clear heq
            go_wp2
            go_roundw
            case rel =>
              refine ⟨j + 1, by omega, hit4, hit5, hb3, ?_⟩
              intro i h hi
              by_cases hij : i < j
              · exact HNE.out i h hij
              · obtain rfl : i = j := by omega
                rw [← HCC.out]; exact fun e => HE.out e.symm
            case measure => simp only [World.iterPos, hit4]; exact hm2
        · have hend : ¬ j < t.size := by omega
          have hnx2 : ∀ ty, (Instr.next (.pointer (some ⟨K, 0, none⟩)) true ty).run Tryz.prog wr = _ := fun ty => Lib.run_next_end_at wr K t j ty hit2 hend
          go_wp2
          go_roundw
          case rel =>
            refine ⟨k + kw, d3, hit3, hb2, ?_⟩
            intro i h hi
            by_cases hik : i < k
            · exact HN.out i h hik
            · by_cases ha : s[k].toNat < 128
              · have := D5.out ha
                obtain rfl : i = k := by omega
                intro hm
                obtain ⟨n, hn1, hn2⟩ := List.getElem_of_mem hm
                exact HNE.out n hn1 (by omega) (by rw [hn2]; exact (HR.out ha).symm)
              · intro hm
                have h1 := HC.out _ hm
                have h2 := D4.out (by omega) i h (by omega) hi
                omega
          case measure => simp only [World.iterPos, hit3]; exact hm1
    · have hnx : ∀ ty, (Instr.next (.pointer (some ⟨w.heap.size, 0, none⟩)) true ty).run Tryz.prog wr = _ := fun ty => Lib.run_next_end_at wr w.heap.size s k ty hit hp
      go_wp2
      go_ret
      exact ⟨-1, rfl, fun _ i h => HN.out i h (by omega), hb⟩
end Go.Proofs.YtbigjdlcmlopcaaGreatDoor
