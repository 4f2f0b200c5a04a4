import Derived.Test.YtbigjdlcmlopcaaGreatDoorJ
namespace Go.Proofs.YtbigjdlcmlopcaaGreatDoor
open Go.RowKit

theorem tabs_size {w : World} (h : Lib.Utf8Tabs 0 1 w) : 2 ≤ w.heap.size := by
  have := (h.2 0 (by omega)).1
  exact World.block_lt_of_cell? w _ this
theorem tabs_below {B : Nat} {w w' : World} (h : Lib.Utf8Tabs 0 1 w) (hb : Below B w w') (hB : 2 ≤ B) : Lib.Utf8Tabs 0 1 w' :=
  ⟨fun c hc => (hb.cell (p := ⟨0, c, none⟩) (by simp; omega)).trans (h.1 c hc),
   fun i hi => ⟨(hb.cell (p := ⟨1, 2 * i, none⟩) (by simp; omega)).trans (h.2 i hi).1, (hb.cell (p := ⟨1, 2 * i + 1, none⟩) (by simp; omega)).trans (h.2 i hi).2⟩⟩

/-- utf-8 -/
def utf8n : List UInt8 := [117, 116, 102, 45, 56]
theorem f80 (w : World) : Calls Tryz.prog 80 #[.string (mk utf8n)] w fun e w' => e = .returned (.bool true) ∧ w = w' := by
  have h := Tryz.strings_EqualFold (mk utf8n) ⟨#[85, 84, 70, 45, 56]⟩ w (by rw [mk_size]; decide) (by
    intro j b hb; rw [mk_data] at hb
    have := List.mem_of_getElem? hb
    simp [utf8n] at this; rcases this with rfl | rfl | rfl | rfl | rfl <;> decide) (by
    intro j b hb
    have := List.mem_of_getElem? hb
    simp at this; rcases this with rfl | rfl | rfl | rfl | rfl <;> decide)
  have e : Lib.equalFold (mk utf8n).data.toList (⟨#[85, 84, 70, 45, 56]⟩ : ByteArray).data.toList = true := by rw [mk_data]; decide
  rw [e] at h
  go_enter Tryz.func80, Tryz.ntmps80
  go_wp2_with fail
  refine h.mono ?_
  rintro e w' ⟨rfl, rfl⟩
  go_wp2
  go_ret
  exact ⟨rfl, rfl⟩

/-- What a writer of the builder leaves. -/
def Wrote (B bb : Nat) (l : List UInt8) (w w' : World) : Prop := Lib.IsBuilderF 81 5 B bb (Lib.byteCells l) w' ∧ Below B w w' ∧ Lib.OthersKept 5 (some bb) w w'
theorem Wrote.size {B bb : Nat} {l : List UInt8} {w w' : World} (h : Wrote B bb l w w') (hB : B ≤ w.heap.size) : B ≤ w'.heap.size := Nat.le_trans hB h.2.1.size
theorem Wrote.then {B bb : Nat} {l m : List UInt8} {w w' w'' : World} (h : Wrote B bb l w w') (k : Wrote B bb m w' w'') : Wrote B bb m w w'' := ⟨k.1, h.2.1.trans k.2.1, h.2.2.trans k.2.2⟩
theorem Wrote.self {B bb : Nat} {l : List UInt8} {w : World} (h : Lib.IsBuilderF 81 5 B bb (Lib.byteCells l) w) : Wrote B bb l w w := ⟨h, Below.refl _ _, Lib.OthersKept.refl _ _ _⟩

/-- '=?utf-8?e?' -/
def hdr (e : UInt8) : List UInt8 := [61, 63] ++ utf8n ++ [63, e, 63]

theorem f59 {B bb : Nat} {l : List UInt8} {w : World} (e : UInt8) (h : Lib.IsBuilderF 81 5 B bb (Lib.byteCells l) w) (hl : l.length ≤ 1073741820) (hB : B ≤ w.heap.size) :
    Calls Tryz.prog 59 #[.int .u8 e.toNat, .pointer (some ⟨bb, 0, none⟩), .string (mk utf8n)] w fun r w' => r = .returned (.tuple #[]) ∧ Wrote B bb (l ++ hdr e) w w' := by
  have hu : utf8n.length = 5 := rfl
  have HU := Lib.hid hu
  clear hu
  go_enter Tryz.func59, Tryz.ntmps59
  go_wp2_with fail
  refine (bWS h [61, 63] (by simp; omega) hB).mono ?_
  rintro r w1 ⟨rfl, k1⟩
  have W1 : Wrote B bb _ w w1 := k1
  have B1 := W1.size hB
  go_wp2_with fail
  refine (bWS k1.1 utf8n (by rw [HU.out]; simp; omega) B1).mono ?_
  rintro r w2 ⟨rfl, k2⟩
  have W2 : Wrote B bb _ w1 w2 := k2
  have B2 := W2.size B1
  go_wp2_with fail
  refine (bWB k2.1 63 63 (by decide) (by simp [HU.out]; omega) B2).mono ?_
  rintro r w3 ⟨rfl, k3⟩
  have W3 : Wrote B bb _ w2 w3 := k3
  have B3 := W3.size B2
  go_wp2_with fail
  refine (bWB k3.1 e _ rfl (by simp [HU.out]; omega) B3).mono ?_
  rintro r w4 ⟨rfl, k4⟩
  have W4 : Wrote B bb _ w3 w4 := k4
  have B4 := W4.size B3
  go_wp2_with fail
  refine (bWB k4.1 63 63 (by decide) (by simp [HU.out]; omega) B4).mono ?_
  rintro r w5 ⟨rfl, k5⟩
  have W5 : Wrote B bb _ w4 w5 := k5
  have W := (((W1.then W2).then W3).then W4).then W5
  have e1 : l ++ [61, 63] ++ utf8n ++ [63] ++ [e] ++ [63] = l ++ hdr e := by simp [hdr]
  rw [e1] at W
  go_wp2
  go_end0
  exact ⟨rfl, W⟩

theorem f62 {B bb : Nat} {l : List UInt8} {w : World} (h : Lib.IsBuilderF 81 5 B bb (Lib.byteCells l) w) (hl : l.length ≤ 1073741830) (hB : B ≤ w.heap.size) :
    Calls Tryz.prog 62 #[.pointer (some ⟨bb, 0, none⟩)] w fun r w' => r = .returned (.tuple #[]) ∧ Wrote B bb (l ++ [63, 61]) w w' := by
  go_enter Tryz.func62, Tryz.ntmps62
  go_wp2_with fail
  refine (bWS h [63, 61] (by simp; omega) hB).mono ?_
  rintro r w1 ⟨rfl, k1⟩
  go_wp2
  go_end0
  exact ⟨rfl, k1⟩

theorem f83 {B bb : Nat} {l : List UInt8} {w : World} (e : UInt8) (h : Lib.IsBuilderF 81 5 B bb (Lib.byteCells l) w) (hl : l.length ≤ 1073741810) (hB : B ≤ w.heap.size) :
    Calls Tryz.prog 83 #[.int .u8 e.toNat, .pointer (some ⟨bb, 0, none⟩), .string (mk utf8n)] w fun r w' => r = .returned (.tuple #[]) ∧ Wrote B bb (l ++ ([63, 61, 32] ++ hdr e)) w w' := by
  go_enter Tryz.func83, Tryz.ntmps83
  go_wp2_with fail
  refine (f62 h (by omega) hB).mono ?_
  rintro r w1 ⟨rfl, W1⟩
  have B1 := W1.size hB
  go_wp2_with fail
  refine (bWB W1.1 32 32 (by decide) (by simp; omega) B1).mono ?_
  rintro r w2 ⟨rfl, k2⟩
  have W2 : Wrote B bb _ w1 w2 := k2
  have B2 := W2.size B1
  go_wp2_with fail
  refine (f59 e W2.1 (by simp; omega) B2).mono ?_
  rintro r w3 ⟨rfl, W3⟩
  have W := (W1.then W2).then W3
  have e1 : l ++ [63, 61] ++ [32] ++ hdr e = l ++ ([63, 61, 32] ++ hdr e) := by simp
  rw [e1] at W
  go_wp2
  go_end0
  exact ⟨rfl, W⟩

def hexd (n : Nat) : UInt8 := if n < 10 then UInt8.ofNat (48 + n) else UInt8.ofNat (55 + n)
def qraw (c : UInt8) : Bool := decide (33 ≤ c.toNat ∧ c.toNat ≤ 126 ∧ c.toNat ≠ 61 ∧ c.toNat ≠ 63 ∧ c.toNat ≠ 95)
def qB (c : UInt8) : List UInt8 := if c.toNat = 32 then [95] else if qraw c then [c] else [61, hexd (c.toNat / 16), hexd (c.toNat % 16)]
def qenc (l : List UInt8) : List UInt8 := l.flatMap qB
theorem qenc_append (a b : List UInt8) : qenc (a ++ b) = qenc a ++ qenc b := by simp [qenc]
theorem qB_le (c : UInt8) : 1 ≤ (qB c).length ∧ (qB c).length ≤ 3 := by
  unfold qB
  split
  · simp
  · split <;> simp
theorem qenc_le (l : List UInt8) : (qenc l).length ≤ 3 * l.length := by
  induction l with
  | nil => simp [qenc]
  | cons c l ih =>
    have : qenc (c :: l) = qB c ++ qenc l := by simp [qenc]
    rw [this]
    have := (qB_le c).2
    simp; omega

theorem hexlit : ∀ (n : Nat) (h : n < 16), (hexd n).toNat = ((⟨#[48, 49, 50, 51, 52, 53, 54, 55, 56, 57, 65, 66, 67, 68, 69, 70]⟩ : ByteArray)[n]'(by simpa [ByteArray.size] using h)).toNat := by decide

theorem hexget (n : Nat) (hn : n < 16) (i : Int) (hi : i = n) (h : i.toNat < (⟨#[48, 49, 50, 51, 52, 53, 54, 55, 56, 57, 65, 66, 67, 68, 69, 70]⟩ : ByteArray).size) : ((hexd n).toNat : Int) = (((⟨#[48, 49, 50, 51, 52, 53, 54, 55, 56, 57, 65, 66, 67, 68, 69, 70]⟩ : ByteArray)[i.toNat]'h).toNat : Int) := by
  subst hi
  simp only [Int.toNat_natCast]
  rw [hexlit n hn]

set_option maxHeartbeats 3200000 in
/-- writeQString. -/
theorem f84 {B bb : Nat} {l : List UInt8} {w : World} (t : List UInt8) (h : Lib.IsBuilderF 81 5 B bb (Lib.byteCells l) w) (hl : l.length + 3 * t.length ≤ 1073741800) (hB : B ≤ w.heap.size) :
    Calls Tryz.prog 84 #[.pointer (some ⟨bb, 0, none⟩), .string (mk t)] w fun r w' => r = .returned (.tuple #[]) ∧ Wrote B bb (l ++ qenc t) w w' := by
  obtain ⟨s, hs⟩ : ∃ s, s = mk t := ⟨_, rfl⟩
  rw [← hs]
  have hz1 : s.size ≤ t.length := by rw [hs, mk_size]; omega
  have hz2 : t.length ≤ s.size := by rw [hs, mk_size]; omega
  have HS := Lib.hid hs
  clear hs
  go_enter Tryz.func84, Tryz.ntmps84
  go_wp2
  go_loopw [4] (fun i wr => ∃ (d q : List UInt8) (k : Nat), t = d ++ q ∧ k = d.length ∧ i = .int .i64 k ∧ Wrote B bb (l ++ qenc d) w wr) (fun i _ => s.size - (intOf i).toNat)
  case atStart => exact ⟨[], t, 0, rfl, rfl, rfl, by simpa [qenc] using Wrote.self h⟩
  case round =>
    clear h
    obtain ⟨d, q, k, ht, hk, rfl, W⟩ := hrel
    have hq := qenc_le d
    have hdl : d.length + q.length = t.length := by rw [ht]; simp
    have HK := Lib.hid hk
    have HT := Lib.hid ht
    have B1 := W.size hB
    have hkd : k ≤ d.length := by omega
    have hkd2 : d.length ≤ k := by omega
    clear hk ht
    cases q with
    | nil =>
      have hend : ¬ k < s.size := by have : ([] : List UInt8).length = 0 := rfl; omega
      go_wp2
      go_end0
      have hd : t = d := by rw [HT.out]; simp
      rw [hd]
      exact ⟨rfl, W⟩
    | cons c q =>
      have hql : (c :: q).length = q.length + 1 := rfl
      obtain ⟨hp, hc⟩ : ∃ h : k < s.size, s[k] = c := by
        obtain rfl := HK.out
        exact at_mid (by rw [HS.out, HT.out])
      have HC := Lib.hid hc
      obtain ⟨x, hx⟩ : ∃ x : Int, x = c.toNat := ⟨_, rfl⟩
      have hx0 : 0 ≤ x := by omega
      have hx1 : x ≤ 255 := by have := c.toNat_lt; omega
      have hix : ∀ w, (Instr.index 9 (.string s) (.int .i64 k)).run Tryz.prog w = .ok (.int .u8 x) w := by
        intro w
        rw [run_index_string w 9 s .i64 k Tryz.underlying9]
        simp [hp, hc, hx]
      have HX := Lib.hid hx
      have HQ : Hid (qenc (d ++ [c]) = qenc d ++ qB c) := by show _ = _; rw [qenc_append]; simp [qenc]
      have HT2 : Hid (t = (d ++ [c]) ++ q) := by have := HT.out; show _ = _; rw [this]; simp
      clear hc hql hx HC
      by_cases c1 : x = 32
      · have b1 : (x == 32) = true := by simp [c1]
        have HQ2 : Hid (qB c = [95]) := by show _ = _; unfold qB; rw [if_pos (by have := HX.out; omega)]
        clear c1
        go_wp2_with fail
        refine (bWB W.1 95 95 (by decide) (by simp; omega) B1).mono ?_
        rintro r w1 ⟨rfl, k1⟩
        have W1 : Wrote B bb _ wr w1 := k1
        have W2 := W.then W1
        rw [List.append_assoc, ← HQ2.out, ← HQ.out] at W2
        clear W W1 k1 b1
        go_wp2
        go_roundw
        case rel => exact ⟨d ++ [c], q, k + 1, HT2.out, by simp; omega, by go_num, W2⟩
        case measure => simp [intOf]; omega
      · by_cases c2 : qraw c = true
        · have h2 := of_decide_eq_true c2
          have HQ2 : Hid (qB c = [c]) := by show _ = _; unfold qB; rw [if_neg (by have := HX.out; omega), if_pos c2]
          have r1 : 33 ≤ x := by have := HX.out; omega
          have r2 : x ≤ 126 := by have := HX.out; omega
          have b1 : (x == 32) = false := by simp [c1]
          have b2 : (x != 61) = true := by have := HX.out; simp; omega
          have b3 : (x != 63) = true := by have := HX.out; simp; omega
          have b4 : (x != 95) = true := by have := HX.out; simp; omega
          clear c1 c2 h2
          go_wp2_with fail
          refine (bWB W.1 c _ HX.out.symm (by simp; omega) B1).mono ?_
          rintro r w1 ⟨rfl, k1⟩
          have W1 : Wrote B bb _ wr w1 := k1
          have W2 := W.then W1
          rw [List.append_assoc, ← HQ2.out, ← HQ.out] at W2
          clear W W1 k1 b1 b2 b3 b4
          go_wp2
          go_roundw
          case rel => exact ⟨d ++ [c], q, k + 1, HT2.out, by simp; omega, by go_num, W2⟩
          case measure => simp [intOf]; omega
        · have c2 : qraw c = false := by simpa using c2
          have h2 := of_decide_eq_false c2
          have HQ2 : Hid (qB c = [61, hexd (c.toNat / 16), hexd (c.toNat % 16)]) := by show _ = _; unfold qB; rw [if_neg (by have := HX.out; omega), if_neg (by simp [c2])]
          have b1 : (x == 32) = false := by simp [c1]
          have hor : x < 33 ∨ 126 < x ∨ x = 61 ∨ x = 63 ∨ x = 95 := by have := HX.out; omega
          clear c2 h2 c1
          rcases hor with a1 | a1 | a1 | a1 | a1
          · have b9 : True := trivial
            go_wp2_with fail
            refine (bWB W.1 61 61 (by decide) (by simp; omega) B1).mono ?_
            rintro r w1 ⟨rfl, k1⟩
            have W1 : Wrote B bb _ wr w1 := k1
            have W2 := W.then W1
            have B2 := W2.size hB
            go_wp2_with fail
            refine (bWB W1.1 (hexd (c.toNat / 16)) _ (hexget _ (by have := HX.out; omega) _ (by have := HX.out; omega) _) (by simp; omega) B2).mono ?_
            rintro r w2 ⟨rfl, k2⟩
            have W3 : Wrote B bb _ w1 w2 := k2
            have W4 := W2.then W3
            have B3 := W4.size hB
            go_wp2_with fail
            refine (bWB W3.1 (hexd (c.toNat % 16)) _ (hexget _ (by have := HX.out; omega) _ (by have := HX.out; omega) _) (by simp; omega) B3).mono ?_
            rintro r w3 ⟨rfl, k3⟩
            have W5 : Wrote B bb _ w2 w3 := k3
            have W6 := W4.then W5
            have e1 : l ++ qenc d ++ [61] ++ [hexd (c.toNat / 16)] ++ [hexd (c.toNat % 16)] = l ++ qenc (d ++ [c]) := by rw [HQ.out, HQ2.out]; simp
            rw [e1] at W6
            clear W W1 W2 W3 W4 W5 k1 k2 k3 e1
            go_wp2
            go_roundw
            case rel => exact ⟨d ++ [c], q, k + 1, HT2.out, by simp; omega, by go_num, W6⟩
            case measure => simp [intOf]; omega
          · have b9 : True := trivial
            go_wp2_with fail
            refine (bWB W.1 61 61 (by decide) (by simp; omega) B1).mono ?_
            rintro r w1 ⟨rfl, k1⟩
            have W1 : Wrote B bb _ wr w1 := k1
            have W2 := W.then W1
            have B2 := W2.size hB
            go_wp2_with fail
            refine (bWB W1.1 (hexd (c.toNat / 16)) _ (hexget _ (by have := HX.out; omega) _ (by have := HX.out; omega) _) (by simp; omega) B2).mono ?_
            rintro r w2 ⟨rfl, k2⟩
            have W3 : Wrote B bb _ w1 w2 := k2
            have W4 := W2.then W3
            have B3 := W4.size hB
            go_wp2_with fail
            refine (bWB W3.1 (hexd (c.toNat % 16)) _ (hexget _ (by have := HX.out; omega) _ (by have := HX.out; omega) _) (by simp; omega) B3).mono ?_
            rintro r w3 ⟨rfl, k3⟩
            have W5 : Wrote B bb _ w2 w3 := k3
            have W6 := W4.then W5
            have e1 : l ++ qenc d ++ [61] ++ [hexd (c.toNat / 16)] ++ [hexd (c.toNat % 16)] = l ++ qenc (d ++ [c]) := by rw [HQ.out, HQ2.out]; simp
            rw [e1] at W6
            clear W W1 W2 W3 W4 W5 k1 k2 k3 e1
            go_wp2
            go_roundw
            case rel => exact ⟨d ++ [c], q, k + 1, HT2.out, by simp; omega, by go_num, W6⟩
            case measure => simp [intOf]; omega
          · have b2 : (x != 61) = false := by simp [a1]
            have b3 : 33 ≤ x := by omega
            have b4 : x ≤ 126 := by omega
            clear a1
            go_wp2_with fail
            refine (bWB W.1 61 61 (by decide) (by simp; omega) B1).mono ?_
            rintro r w1 ⟨rfl, k1⟩
            have W1 : Wrote B bb _ wr w1 := k1
            have W2 := W.then W1
            have B2 := W2.size hB
            go_wp2_with fail
            refine (bWB W1.1 (hexd (c.toNat / 16)) _ (hexget _ (by have := HX.out; omega) _ (by have := HX.out; omega) _) (by simp; omega) B2).mono ?_
            rintro r w2 ⟨rfl, k2⟩
            have W3 : Wrote B bb _ w1 w2 := k2
            have W4 := W2.then W3
            have B3 := W4.size hB
            go_wp2_with fail
            refine (bWB W3.1 (hexd (c.toNat % 16)) _ (hexget _ (by have := HX.out; omega) _ (by have := HX.out; omega) _) (by simp; omega) B3).mono ?_
            rintro r w3 ⟨rfl, k3⟩
            have W5 : Wrote B bb _ w2 w3 := k3
            have W6 := W4.then W5
            have e1 : l ++ qenc d ++ [61] ++ [hexd (c.toNat / 16)] ++ [hexd (c.toNat % 16)] = l ++ qenc (d ++ [c]) := by rw [HQ.out, HQ2.out]; simp
            rw [e1] at W6
            clear W W1 W2 W3 W4 W5 k1 k2 k3 e1
            go_wp2
            go_roundw
            case rel => exact ⟨d ++ [c], q, k + 1, HT2.out, by simp; omega, by go_num, W6⟩
            case measure => simp [intOf]; omega
          · have b2 : (x != 61) = true := by simp [a1]
            have b5 : (x != 63) = false := by simp [a1]
            have b3 : 33 ≤ x := by omega
            have b4 : x ≤ 126 := by omega
            clear a1
            go_wp2_with fail
            refine (bWB W.1 61 61 (by decide) (by simp; omega) B1).mono ?_
            rintro r w1 ⟨rfl, k1⟩
            have W1 : Wrote B bb _ wr w1 := k1
            have W2 := W.then W1
            have B2 := W2.size hB
            go_wp2_with fail
            refine (bWB W1.1 (hexd (c.toNat / 16)) _ (hexget _ (by have := HX.out; omega) _ (by have := HX.out; omega) _) (by simp; omega) B2).mono ?_
            rintro r w2 ⟨rfl, k2⟩
            have W3 : Wrote B bb _ w1 w2 := k2
            have W4 := W2.then W3
            have B3 := W4.size hB
            go_wp2_with fail
            refine (bWB W3.1 (hexd (c.toNat % 16)) _ (hexget _ (by have := HX.out; omega) _ (by have := HX.out; omega) _) (by simp; omega) B3).mono ?_
            rintro r w3 ⟨rfl, k3⟩
            have W5 : Wrote B bb _ w2 w3 := k3
            have W6 := W4.then W5
            have e1 : l ++ qenc d ++ [61] ++ [hexd (c.toNat / 16)] ++ [hexd (c.toNat % 16)] = l ++ qenc (d ++ [c]) := by rw [HQ.out, HQ2.out]; simp
            rw [e1] at W6
            clear W W1 W2 W3 W4 W5 k1 k2 k3 e1
            go_wp2
            go_roundw
            case rel => exact ⟨d ++ [c], q, k + 1, HT2.out, by simp; omega, by go_num, W6⟩
            case measure => simp [intOf]; omega
          · have b2 : (x != 61) = true := by simp [a1]
            have b5 : (x != 63) = true := by simp [a1]
            have b6 : (x != 95) = false := by simp [a1]
            have b3 : 33 ≤ x := by omega
            have b4 : x ≤ 126 := by omega
            clear a1
            go_wp2_with fail
            refine (bWB W.1 61 61 (by decide) (by simp; omega) B1).mono ?_
            rintro r w1 ⟨rfl, k1⟩
            have W1 : Wrote B bb _ wr w1 := k1
            have W2 := W.then W1
            have B2 := W2.size hB
            go_wp2_with fail
            refine (bWB W1.1 (hexd (c.toNat / 16)) _ (hexget _ (by have := HX.out; omega) _ (by have := HX.out; omega) _) (by simp; omega) B2).mono ?_
            rintro r w2 ⟨rfl, k2⟩
            have W3 : Wrote B bb _ w1 w2 := k2
            have W4 := W2.then W3
            have B3 := W4.size hB
            go_wp2_with fail
            refine (bWB W3.1 (hexd (c.toNat % 16)) _ (hexget _ (by have := HX.out; omega) _ (by have := HX.out; omega) _) (by simp; omega) B3).mono ?_
            rintro r w3 ⟨rfl, k3⟩
            have W5 : Wrote B bb _ w2 w3 := k3
            have W6 := W4.then W5
            have e1 : l ++ qenc d ++ [61] ++ [hexd (c.toNat / 16)] ++ [hexd (c.toNat % 16)] = l ++ qenc (d ++ [c]) := by rw [HQ.out, HQ2.out]; simp
            rw [e1] at W6
            clear W W1 W2 W3 W4 W5 k1 k2 k3 e1
            go_wp2
            go_roundw
            case rel => exact ⟨d ++ [c], q, k + 1, HT2.out, by simp; omega, by go_num, W6⟩
            case measure => simp [intOf]; omega
end Go.Proofs.YtbigjdlcmlopcaaGreatDoor
