import Derived.Test.YtbigjdlcmlopcaaGreatDoorY
namespace Go.Proofs.YtbigjdlcmlopcaaGreatDoor
open Go.RowKit

/-- zzCount and zzCut at one sign. -/
theorem one_piece (d q : List UInt8) (x c : UInt8) : (((mk (d ++ x :: q)).extract d.length (d.length + 1)).toList == (⟨#[c]⟩ : ByteArray).toList) = (x == c) := by
  rw [mk_extract]
  show ((mk _).toList == (mk [c]).toList) = _
  rw [show (d.length + 1 - d.length) = 1 by omega, List.drop_left]
  unfold mk
  rw [ByteArray.toList_mk, ByteArray.toList_mk]
  simp

set_option maxHeartbeats 800000 in
theorem f109 {w : World} (l : List UInt8) (t : ByteArray) (hT : t = ⟨#[63]⟩) (hn : l.length ≤ 1073741820) : Calls Tryz.prog 109 #[.string (mk l), .string t] w fun e w' => e = .returned (.int .i64 (l.count 63 : Nat)) ∧ w = w' := by
  obtain ⟨s, hs⟩ : ∃ s, s = mk l := ⟨_, rfl⟩
  have ht : t.size = 1 := by rw [hT]; rfl
  have hz : s.size = l.length := by rw [hs, mk_size]
  have hz2 : s.size ≤ 1073741820 := by omega
  rw [← hs]
  have HS := Lib.hid hs
  have HZ := Lib.hid hz
  have HT := Lib.hid hT
  clear hs hz hT
  go_enter Tryz.func109, Tryz.ntmps109
  go_wp2
  go_loop [5, 6] (fun c i => ∃ d q, l = d ++ q ∧ c = .int .i64 (d.count 63 : Nat) ∧ i = .int .i64 d.length) (fun _ i => s.size - (intOf i).toNat)
  case atStart => exact ⟨[], l, rfl, rfl, rfl⟩
  case round =>
    obtain ⟨d, q, hl, rfl, rfl⟩ := hrel
    have hcd : d.count 63 ≤ d.length := List.count_le_length
    have hll : l.length = d.length + q.length := by rw [hl]; simp
    have HL := Lib.hid hl
    cases q with
    | nil =>
      have hd : d.length = s.size := by have := HZ.out; simp at hll; omega
      have hlt : ¬ d.length + 1 ≤ s.size := by omega
      have hdn : d.length ≤ 1073741820 := by omega
      have hlt2 : ¬ (d.length : Int) + 1 ≤ s.size := by omega
      clear hl hll
      generalize d.length = n at *
      clear hd
      go_wp2
      go_ret
      have : l = d := by have := HL.out; simpa using this
      exact ⟨by rw [this]; rfl, rfl⟩
    | cons x q =>
      have hlt : d.length + 1 ≤ s.size := by have := HZ.out; simp at hll; omega
      have hlt2 : (d.length : Int) + 1 ≤ s.size := by omega
      have hp : ((s.extract d.length (d.length + 1)).toList == t.toList) = (x == 63) := by rw [HS.out, HL.out, HT.out]; exact one_piece d q x 63
      obtain ⟨k, hk⟩ : ∃ k, k = d.count 63 := ⟨_, rfl⟩
      rw [← hk] at hcd ⊢
      have HK := Lib.hid hk
      clear hl hll hk
      by_cases hx : x = 63
      · have hp2 : ((s.extract d.length (d.length + 1)).toList == t.toList) = true := by rw [hp, hx]; rfl
        clear hp
        go_wp2
        go_round
        case rel => exact ⟨d ++ [x], q, by rw [HL.out]; simp, by rw [List.count_append, ← HK.out, hx]; go_num, by rw [List.length_append]; go_num⟩
        case measure => simp [intOf]; omega
      · have hp2 : ((s.extract d.length (d.length + 1)).toList == t.toList) = false := by rw [hp]; simpa using hx
        clear hp
        go_wp2
        go_round
        case rel => exact ⟨d ++ [x], q, by rw [HL.out]; simp, by rw [List.count_append, ← HK.out, List.count_singleton]; simp [hx], by rw [List.length_append]; go_num⟩
        case measure => simp [intOf]; omega

set_option maxRecDepth 100000 in
set_option maxHeartbeats 800000 in
theorem f110 {w : World} (a r : List UInt8) (t : ByteArray) (hT : t = ⟨#[63]⟩) (ha : (63 : UInt8) ∉ a) (hn : a.length + r.length ≤ 1073741820) : Calls Tryz.prog 110 #[.string (mk (a ++ 63 :: r)), .string t] w fun e w' => e = .returned (.tuple #[.string (mk a), .string (mk r), .bool true]) ∧ Below w.heap.size w w' := by
  have ht : t.size = 1 := by rw [hT]; rfl
  have g1 : (mk (a ++ 63 :: r)).size ≤ 140737488351232 := by rw [mk_size]; simp; omega
  have g2 : a.length + t.size ≤ (mk (a ++ 63 :: r)).size := by rw [mk_size, ht]; simp
  have g3 : ∀ i, i < a.length → (((mk (a ++ 63 :: r)).extract i (i + t.size)).toList == t.toList) = false := by
    intro i hi
    rw [ht, hT, mk_extract]
    rw [show i + 1 - i = 1 by omega, List.drop_append_of_le_length (by omega), List.drop_eq_getElem_cons hi]
    show ((mk _).toList == (mk [63]).toList) = _
    unfold mk
    rw [ByteArray.toList_mk, ByteArray.toList_mk]
    simp only [List.cons_append, List.take_succ_cons, List.take_zero]
    have : a[i] ≠ 63 := fun e => ha (e ▸ List.getElem_mem hi)
    simpa using this
  have g4 : (((mk (a ++ 63 :: r)).extract a.length (a.length + t.size)).toList == t.toList) = true := by
    rw [ht, hT, one_piece a r 63 63]; rfl
  have h118 := f118y (mk (a ++ 63 :: r)) t a.length g1 (by omega) g2 g3 g4 w
  clear g1 g2 g3 g4
  have e1 : (mk (a ++ 63 :: r)).extract 0 a.length = mk a := by rw [mk_extract]; simp
  have e2 : (mk (a ++ 63 :: r)).extract (a.length + 1) (mk (a ++ 63 :: r)).size = mk r := by rw [mk_tail, show a.length + 1 = (a ++ [63]).length by simp, show a ++ 63 :: r = (a ++ [63]) ++ r by simp, List.drop_left]
  have hz : (mk (a ++ 63 :: r)).size = a.length + 1 + r.length := by rw [mk_size]; simp; omega
  have hz1 : a.length + 1 ≤ (mk (a ++ 63 :: r)).size := by omega
  have hz2 : (mk (a ++ 63 :: r)).size ≤ 1073741821 := by omega
  clear hz
  generalize mk (a ++ 63 :: r) = s at *
  have hal : a.length ≤ 1073741820 := by omega
  generalize a.length = n at *
  have HE := Lib.hid (And.intro e1 e2)
  clear e1 e2 hT ha
  go_enter Tryz.func110, Tryz.ntmps110
  go_wp2_with fail
  refine h118.mono ?_
  rintro e w' ⟨rfl, rfl⟩
  clear h118
  go_wp2_with fail
  go_quiet (fail)
  go_wp2
  go_ret3
  exact ⟨by rw [← HE.out.1, ← HE.out.2]; rfl, ⟨rfl, rfl, rfl, Nat.le_refl _, fun _ _ => rfl⟩⟩

/-- What a decoder of one word's text gives. -/
def DecTo (t : List UInt8) (w : World) (r : Ending) (w' : World) : Prop := (∃ D n, w.heap.size ≤ D ∧ r = .returned (.tuple #[.slice (some ⟨D, 0, none⟩) t.length n, .nilIface]) ∧ SrcAt w' D 0 t ∧ t.length ≤ n) ∧ Below w.heap.size w w'
theorem DecTo.below {t : List UInt8} {w w1 : World} {r : Ending} {w' : World} (h : DecTo t w1 r w') (hb : Below w.heap.size w w1) : DecTo t w r w' := by
  obtain ⟨⟨D, n, h1, h2, h3, h4⟩, h5⟩ := h
  exact ⟨⟨D, n, Nat.le_trans hb.size h1, h2, h3, h4⟩, hb.trans (h5.mono hb.size)⟩

theorem f141 {w : World} (n N : Nat) (hN : n / 4 * 3 = N) (hn : n ≤ 1073741820) : Calls Tryz.prog 141 #[.int .i64 n, .int .i32 61] w fun r w' => r = .returned (.int .i64 N) ∧ w = w' := by
  subst hN
  go_enter Tryz.func141, Tryz.ntmps141
  go_wp2
  go_ret
  exact ⟨by first | rfl | (congr 1; simp), rfl⟩
theorem f133 {w : World} (c n N : Nat) (hN : n / 4 * 3 = N) (hn : n ≤ 1073741820) (h : EncAt c w) : Calls Tryz.prog 133 #[.pointer (some ⟨c, 0, none⟩), .int .i64 n] w fun r w' => r = .returned (.int .i64 N) ∧ w = w' := by
  have H := f141 (w := w) n N hN hn
  have hp := h.pad
  clear hN
  go_enter Tryz.func133, Tryz.ntmps133
  go_wp2_with fail
  refine H.mono ?_
  rintro r w' ⟨rfl, rfl⟩
  go_wp2
  go_ret
  exact ⟨rfl, rfl⟩

set_option maxRecDepth 100000 in
set_option maxHeartbeats 1600000 in
/-- DecodeString. -/
theorem f119 {w : World} (c : Nat) (p : List UInt8) (hp0 : 0 < p.length) (hp : p.length ≤ 5000) (hc : EncAt c w) : Calls Tryz.prog 119 #[.pointer (some ⟨c, 0, none⟩), .string (mk (b64 p))] w fun r w' => DecTo p w r w' := by
  have hbl := b64_len p
  obtain ⟨q, hq⟩ : ∃ q, q = b64 p := ⟨_, rfl⟩
  rw [← hq] at hbl ⊢
  have HQ := Lib.hid hq
  obtain ⟨N, hN⟩ : ∃ N, N = (p.length + 2) / 3 * 3 := ⟨_, rfl⟩
  have H133 := f133 (w := w) c q.length N (by omega) (by omega) hc
  have hz : (mk q).size = q.length := mk_size q
  have hN1 : N ≤ 10000 := by omega
  have hpN : p.length ≤ N := by omega
  have hNq : N ≤ q.length := by omega
  have hq2 : q.length ≤ 10000 := by omega
  have HBL := Lib.hid hbl
  have HN := Lib.hid hN
  clear hq hbl hN
  have hmk := run_make_row' (P := Tryz.prog) 74 5 (.int .u8 0) 1 Tryz.underlying74 (by kernel_rfl) rfl .i64 .i64 N (by omega) (by omega) w
  have hr0 := World.rowIs_made w (.int .u8 0) N 5
  have hb0 : Below w.heap.size w (w.alloc (.cells (madeCells #[.int .u8 0] N) 5)) := (Below.refl _ _).alloc (Nat.le_refl _) _
  have hcw : c < w.heap.size := World.rowIs.lt hc
  have hs0 : (w.alloc (.cells (madeCells #[.int .u8 0] N) 5)).heap.size = w.heap.size + 1 := by simp
  go_enter Tryz.func119, Tryz.ntmps119
  go_wp2_with fail
  refine H133.mono ?_
  rintro r w' ⟨rfl, rfl⟩
  clear H133
  go_wp2_with fail
  obtain ⟨D, hD⟩ : ∃ D, D = w.heap.size := ⟨_, rfl⟩
  rw [← hD] at hr0 hb0 hs0 hcw ⊢
  clear hmk
  generalize w.alloc (.cells (madeCells #[.int .u8 0] N) 5) = W at *
  have hcv := conv_run W q
  have hb1 := conv_below W q
  have hs1 := conv_src W q
  have hcap := conv_cap W q
  have hDW : D < W.heap.size := by omega
  have hr1 := rowIs_below hr0 hb1 hDW
  have hc1 := rowIs_below (World.rowIs.of_block hc (hb0.block c hcw)) hb1 (by omega)
  have hb2 := hb0.trans (hb1.mono (by omega))
  have hcD : c ≠ D := by omega
  have hDw : w.heap.size ≤ D := by omega
  clear hr0 hb0 hb1 hc hcw hs0 hD
  generalize (W.alloc (convRow W q)).drew = W2 at *
  generalize hK : W.heap.size = K at *
  generalize grownCap W q.length 0 5 = cap at *
  have hKD : K ≠ D := by omega
  have hlt := Nat.le_of_lt hr1.lt
  have H134 := f134 (w := W2) c D K N q.length cap _ p hp0 hp hc1 hr1 (by rw [← HQ.out]; exact hs1) (by rw [HQ.out]) HN.out hKD hcD hcap
  clear hr1 hc1 hs1
  rw [hcv]
  clear hcv
  go_wp2_with fail
  refine H134.mono ?_
  rintro r w3 ⟨rfl, hs3, hg3⟩
  have hb3 : Below D w w3 := hb2.trans (below_of_grownBy hg3 hlt (fun k hk => by cases hk; exact Nat.le_refl _))
  have HS := Lib.hid hs3
  have HB := Lib.hid hb3
  clear H134 hs3 hg3 hb2 hb3
  have hpN2 : (p.length : Int) ≤ N := by omega
  go_wp2
  go_ret2
  exact ⟨⟨D, N, hDw, rfl, HS.out, hpN⟩, HB.out.mono hDw⟩
end Go.Proofs.YtbigjdlcmlopcaaGreatDoor
