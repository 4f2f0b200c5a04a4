import Derived.Test.YtbigjdlcmlopcaaGreatDoorG
namespace Go.Proofs.YtbigjdlcmlopcaaGreatDoor
open Go.RowKit

theorem bWB {B bb : Nat} {l : List UInt8} {w : World} (h : Lib.IsBuilderF 81 5 B bb (Lib.byteCells l) w) (c : UInt8) (d : Int) (hd : (c.toNat : Int) = d) (hlen : l.length + 1 ≤ 140737488355328) (hBw : B ≤ w.heap.size) :
    Calls Tryz.prog 39 #[.pointer (some ⟨bb, 0, none⟩), .int .u8 d] w fun e w' => e = .returned .nilIface ∧ Lib.IsBuilderF 81 5 B bb (Lib.byteCells (l ++ [c])) w' ∧ Below B w w' ∧ Lib.OthersKept 5 (some bb) w w' := by
  subst hd
  refine (Tryz.Builder_WriteByte_k B bb (Lib.byteCells l) c.toNat w h (by rw [Lib.byteCells_length]; omega) hBw).mono ?_
  rintro e w' ⟨rfl, h1, h2, h3⟩
  refine ⟨rfl, .inr ?_, h2, h3⟩
  rw [Lib.byteCells_append]; exact h1

theorem bStr {B bb : Nat} {l : List UInt8} {w : World} (h : Lib.IsBuilderF 81 5 B bb (Lib.byteCells l) w) (hBw : B ≤ w.heap.size) :
    Calls Tryz.prog 42 #[.pointer (some ⟨bb, 0, none⟩)] w fun e w' => e = .returned (.string (mk l)) ∧ Lib.IsBuilderF 81 5 B bb (Lib.byteCells l) w' ∧ Below B w w' ∧ Lib.OthersKept 5 (some bb) w w' :=
  Tryz.Builder_String_any_k B bb l w h hBw

theorem esc_le (d : List UInt8) : (esc d).length ≤ 2 * d.length := by
  induction d with
  | nil => simp [esc]
  | cons c d ih =>
    rw [esc_cons]
    have : (escB c).length ≤ 2 := by unfold escB; split <;> simp
    simp; omega

theorem runeCells_ascii (c : UInt8) (h : c.toNat < 128) : Lib.runeCells (c.toNat : Int) = Lib.byteCells [c] := by
  unfold Lib.runeCells
  rw [Lib.encodeRuneZ_one (by omega) (by omega)]
  rfl

theorem bWR {B bb : Nat} {l : List UInt8} {w : World} (h : Lib.IsBuilderF 81 5 B bb (Lib.byteCells l) w) (c : UInt8) (d : Int) (hd : (c.toNat : Int) = d) (hc : c.toNat < 128) (hlen : l.length + 4 ≤ 140737488355328) (hBw : B ≤ w.heap.size) :
    Calls Tryz.prog 41 #[.pointer (some ⟨bb, 0, none⟩), .int .i32 d] w fun e w' => e = .returned (.tuple #[.int .i64 1, .nilIface]) ∧ Lib.IsBuilderF 81 5 B bb (Lib.byteCells (l ++ [c])) w' ∧ Below B w w' ∧ Lib.OthersKept 5 (some bb) w w' := by
  subst hd
  refine (Tryz.Builder_WriteRune_k B bb (Lib.byteCells l) c.toNat (by omega) (by omega) w h (by rw [Lib.byteCells_length]; omega) hBw).mono ?_
  rintro e w' ⟨rfl, h1, h2, h3⟩
  rw [runeCells_ascii c hc] at h1 ⊢
  refine ⟨rfl, .inr ?_, h2, h3⟩
  rw [Lib.byteCells_append]; exact h1

set_option maxHeartbeats 3200000 in
/-- quoteString. -/
theorem f26 {w : World} (t : List UInt8) (ht : ∀ c ∈ t, okc c = true) (hn : t.length ≤ 1073741820) :
    Calls Tryz.prog 26 #[.string (mk t)] w fun e w' => e = .returned (.string (mk (34 :: (esc t ++ [34])))) ∧ Below w.heap.size w w' := by
  obtain ⟨s, hs⟩ : ∃ s, s = mk t := ⟨_, rfl⟩
  rw [← hs]
  have hsz : s.size ≤ 1073741820 := by rw [hs, mk_size]; exact hn
  have HS := Lib.hid hs
  have HT := Lib.hid ht
  clear hs ht
  go_enter Tryz.func26, Tryz.ntmps26
  go_wp2_with fail
  have hI := Lib.IsBuilderF.of (Lib.fresh_isBuilder 81 5 w)
  have hb : Below w.heap.size w (w.alloc (.cells #[.pointer none, .slice none 0 0] 81)) := (Below.refl _ _).alloc (Nat.le_refl _) _
  generalize w.alloc (.cells #[.pointer none, .slice none 0 0] 81) = W at *
  refine (bWB (l := []) hI 34 34 (by decide) (by simp) hb.size).mono ?_
  rintro e w1 ⟨rfl, hI1, hb1, -⟩
  have B1 := hb.trans hb1
  clear hI hb hb1
  go_wp2_with fail
  have hI2 := hI1.alloc (.stringIter s 0)
  have B2 := B1.alloc B1.size (.stringIter s 0)
  have hit : (w1.iter s 0).heap[w1.heap.size]? = some (.stringIter s 0) := World.iter_heap w1 s 0
  have hkn : w.heap.size < w1.heap.size := by
    rcases hI1 with ⟨_, _, h1, _⟩ | ⟨_, _, h1, _⟩ <;> exact (Array.getElem?_eq_some_iff.1 h1).1
  have hi0 : Lib.IsBuilderF 81 5 w.heap.size w.heap.size (Lib.byteCells (34 :: esc [])) (w1.iter s 0) := hI2
  have hb0 : Below w.heap.size w (w1.iter s 0) := B2
  clear hI2 B2 hI1 B1
  generalize w1.iter s 0 = W2 at *
  generalize w1.heap.size = K at *
  go_loopw [] (fun wr => ∃ d q, t = d ++ q ∧ Lib.IsBuilderF 81 5 w.heap.size w.heap.size (Lib.byteCells (34 :: esc d)) wr ∧ wr.heap[K]? = some (.stringIter s d.length) ∧ Below w.heap.size w wr) (fun wr => s.size - wr.iterPos K)
  case atStart => exact ⟨[], t, rfl, hi0, hit, hb0⟩
  case round =>
    clear hi0 hit hb0
    obtain ⟨d, q, hd, hI, hit, hb⟩ := hrel
    have hdl : (esc d).length ≤ 2 * d.length := esc_le d
    have hdt : d.length ≤ s.size := by rw [HS.out, mk_size, hd]; simp
    have hKs := (Array.getElem?_eq_some_iff.1 hit).1
    cases q with
    | nil =>
      have hend : ¬ d.length < s.size := by rw [HS.out, mk_size, hd]; simp
      have hnx : ∀ ty, (Instr.next (.pointer (some ⟨K, 0, none⟩)) true ty).run Tryz.prog wr = _ := fun ty => Lib.run_next_end_at wr K s d.length ty hit hend
      have hdd : t = d := by rw [hd]; simp
      have HD := Lib.hid hdd
      clear hd hdd
      go_wp2_with fail
      refine (bWB hI 34 34 (by decide) (by simp; omega) hb.size).mono ?_
      rintro e w2 ⟨rfl, hI2, hb2, -⟩
      have B2 := hb.trans hb2
      clear hI hit hb hb2 hKs
      go_wp2_with fail
      refine (bStr hI2 B2.size).mono ?_
      rintro e w3 ⟨rfl, -, hb3, -⟩
      have B3 := B2.trans hb3
      go_wp2
      go_ret
      rw [HD.out]
      exact ⟨rfl, B3⟩
    | cons c q =>
      obtain ⟨hp, hc⟩ : ∃ h : d.length < s.size, s[d.length] = c := at_mid (by rw [HS.out, hd])
      have hok := HT.out c (by rw [hd]; simp)
      have hc128 : c.toNat < 128 := by have := of_decide_eq_true hok; omega
      have hnx : ∀ ty, (Instr.next (.pointer (some ⟨K, 0, none⟩)) true ty).run Tryz.prog wr = .ok (.tuple #[.bool true, .int .i64 d.length, .int .i32 c.toNat]) (wr.iterAt K s (d.length + 1)) := by
        intro ty; rw [Lib.run_next_ascii_at wr K s d.length ty hit hp (by rw [hc]; exact hc128), hc]
      have hI1 := hI.iterAt hit (d.length + 1)
      have hit1 := Lib.iterAt_heap wr K s d.length (d.length + 1) hit
      have hb1 := Lib.below_iterAt hb (k := K) (by omega) s (d.length + 1)
      have hm1 : s.size - (d.length + 1) < s.size - wr.iterPos K := by simp only [World.iterPos, hit]; omega
      have hd2 : t = (d ++ [c]) ++ q := by rw [hd]; simp
      have HD2 := Lib.hid hd2
      have HC := Lib.hid hc
      clear hc hd hd2 hI hit hb
      generalize hW : wr.iterAt K s (d.length + 1) = wi at *
      clear hW
      by_cases hpl : pln c = true
      · have HPl := Lib.hid hpl
        have hor : qtx c.toNat = true ∨ (qtx c.toNat = false ∧ wsp c.toNat = true) := by
          cases hq : qtx c.toNat with
          | true => exact .inl rfl
          | false => exact .inr ⟨rfl, by simpa [pln, hq] using hpl⟩
        clear hpl hok
        rcases hor with hq | ⟨hq, hw⟩
        all_goals
          go_wp2_with (first
            | (go_at_call 40; refine (f40 _ _).mono ?_; rintro e w' ⟨rfl, rfl⟩)
            | (go_at_call 28; refine (f28 _ _).mono ?_; rintro e w' ⟨rfl, rfl⟩))
          refine (bWR hI1 c _ rfl hc128 (by simp; omega) hb1.size).mono ?_
          rintro e w2 ⟨rfl, hI2, hb2, k2⟩
          have hit2 := k2.iter hit1 (by omega)
          go_wp2
          go_roundw
          case rel => exact ⟨d ++ [c], q, HD2.out, by have := HPl.out; rw [esc_one]; simpa [escB, this] using hI2, by simpa using hit2, hb1.trans hb2⟩
          case measure => simp only [World.iterPos, hit2]; exact hm1
      · have hpl : pln c = false := by simpa using hpl
        have HPl := Lib.hid hpl
        have hq : qtx c.toNat = false := by simpa [pln] using (by simpa [pln] using hpl : qtx c.toNat = false ∧ wsp c.toNat = false).1
        have hw : wsp c.toNat = false := (by simpa [pln] using hpl : qtx c.toNat = false ∧ wsp c.toNat = false).2
        have hv : vch c.toNat = true := by
          have h1 := of_decide_eq_true hok
          unfold wsp at hw
          have h2 := of_decide_eq_false hw
          unfold vch
          exact decide_eq_true (by omega)
        clear hpl hok
        go_wp2_with (first
          | (go_at_call 40; refine (f40 _ _).mono ?_; rintro e w' ⟨rfl, rfl⟩)
          | (go_at_call 27; refine (f27 _ _).mono ?_; rintro e w' ⟨rfl, rfl⟩)
          | (go_at_call 28; refine (f28 _ _).mono ?_; rintro e w' ⟨rfl, rfl⟩))
        refine (bWB hI1 92 92 (by decide) (by simp; omega) hb1.size).mono ?_
        rintro e w2 ⟨rfl, hI2, hb2, k2⟩
        have hit2 := k2.iter hit1 (by omega)
        have B2 := hb1.trans hb2
        clear hI1 hit1 hb1 hb2 k2
        go_wp2_with fail
        refine (bWR hI2 c _ rfl hc128 (by simp; omega) B2.size).mono ?_
        rintro e w3 ⟨rfl, hI3, hb3, k3⟩
        have hit3 := k3.iter hit2 (by omega)
        go_wp2
        go_roundw
        case rel => exact ⟨d ++ [c], q, HD2.out, by have := HPl.out; rw [esc_one]; simpa [escB, this] using hI3, by simpa using hit3, B2.trans hb3⟩
        case measure => simp only [World.iterPos, hit3]; exact hm1
end Go.Proofs.YtbigjdlcmlopcaaGreatDoor
