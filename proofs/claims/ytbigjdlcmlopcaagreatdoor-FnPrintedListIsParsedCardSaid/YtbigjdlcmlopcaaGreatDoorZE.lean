import Derived.Test.YtbigjdlcmlopcaaGreatDoorZD
namespace Go.Proofs.YtbigjdlcmlopcaaGreatDoor
open Go.RowKit

/-- A slice of pairs of texts. -/
def Prs (w : World) (v : Value) (ps : List (ByteArray × ByteArray)) : Prop := ∃ a n c, v = .slice a n c ∧ n = ps.length ∧ n ≤ c ∧ ∀ j (h : j < ps.length), ∃ b o, a = some ⟨b, o, none⟩ ∧ w.cell? ⟨b, o + j * 2, none⟩ = some (.string ps[j].1) ∧ w.cell? ⟨b, o + j * 2 + 1, none⟩ = some (.string ps[j].2)
theorem Prs.below {w w' : World} {v : Value} {ps : List (ByteArray × ByteArray)} (h : Prs w v ps) (hb : Below w.heap.size w w') : Prs w' v ps := by
  obtain ⟨a, n, c, h1, h2, h3, h4⟩ := h
  refine ⟨a, n, c, h1, h2, h3, fun j hj => ?_⟩
  obtain ⟨b, o, e, c1, c2⟩ := h4 j hj
  have hlt : b < w.heap.size := World.block_lt_of_cell? w _ c1
  exact ⟨b, o, e, (hb.cell (p := ⟨b, _, none⟩) hlt).trans c1, (hb.cell (p := ⟨b, _, none⟩) hlt).trans c2⟩

set_option maxRecDepth 100000 in
set_option maxHeartbeats 3200000 in
/-- same. -/
theorem f12 {w : World} (v0 v1 : Value) (ps : List (ByteArray × ByteArray)) (h0 : Prs w v0 ps) (h1 : Prs w v1 ps) (hn : ps.length ≤ 1000) : Calls Tryz.prog 12 #[v0, v1] w fun e w' => e = .returned (.bool true) ∧ Below w.heap.size w w' := by
  have H0 := Lib.hid h0
  have H1 := Lib.hid h1
  obtain ⟨a0, n, c0, rfl, hl, hc0, hd0⟩ := h0
  obtain ⟨a1, n1, c1, rfl, hl1, hc1, hd1⟩ := h1
  obtain rfl : n1 = n := by omega
  have hn2 : n1 ≤ 1000 := by omega
  have HL := Lib.hid hl
  have D0 := Lib.hid hd0
  have D1 := Lib.hid hd1
  clear hl hl1 hd0 hd1
  go_enter Tryz.func12, Tryz.ntmps12
  go_wp2_with fail
  go_loopw [13] (fun i wr => ∃ k : Nat, k ≤ n1 ∧ i = .int .i64 k ∧ Below w.heap.size w wr) (fun i _ => n1 - (intOf i).toNat)
  case atStart => exact ⟨0, by omega, rfl, Below.refl _ _⟩
  case round =>
    obtain ⟨k, hk, rfl, hb⟩ := hrel
    by_cases hlt : k < n1
    · have hkl : k < ps.length := by have := HL.out; omega
      obtain ⟨b, o, rfl, x1, x2⟩ := D0.out k hkl
      obtain ⟨b', o', rfl, y1, y2⟩ := D1.out k hkl
      have lb : b < w.heap.size := World.block_lt_of_cell? w _ x1
      have lb' : b' < w.heap.size := World.block_lt_of_cell? w _ y1
      have z1 := (hb.cell (p := ⟨b, _, none⟩) lb).trans x1
      have z2 := (hb.cell (p := ⟨b, _, none⟩) lb).trans x2
      have z3 := (hb.cell (p := ⟨b', _, none⟩) lb').trans y1
      have z4 := (hb.cell (p := ⟨b', _, none⟩) lb').trans y2
      have HB := Lib.hid hb
      clear x1 x2 y1 y2 lb lb' hb
      generalize ps[k].1 = s1 at *
      generalize ps[k].2 = s2 at *
      clear hkl
      have hlt2 : (k : Int) < n1 := by omega
      go_wp2_with fail
      go_quiet (fail)
      go_wp2
      go_roundw
      case rel => exact ⟨k + 1, by omega, by go_num, HB.out.trans ⟨rfl, rfl, rfl, Nat.le_refl _, fun _ _ => rfl⟩⟩
      case measure => simp [intOf]; omega
    · obtain rfl : k = n1 := by omega
      go_wp2
      go_ret
      exact ⟨rfl, hb⟩

/-- A slice of texts. -/
def Strs (w : World) (v : Value) (xs : List ByteArray) : Prop := ∃ a n c, v = .slice a n c ∧ n = xs.length ∧ n ≤ c ∧ ∀ j (h : j < xs.length), ∃ b o, a = some ⟨b, o, none⟩ ∧ w.cell? ⟨b, o + j, none⟩ = some (.string xs[j])
theorem Strs.below {w w' : World} {v : Value} {xs : List ByteArray} (h : Strs w v xs) (hb : Below w.heap.size w w') : Strs w' v xs := by
  obtain ⟨a, n, c, h1, h2, h3, h4⟩ := h
  refine ⟨a, n, c, h1, h2, h3, fun j hj => ?_⟩
  obtain ⟨b, o, e, c1⟩ := h4 j hj
  have hlt : b < w.heap.size := World.block_lt_of_cell? w _ c1
  exact ⟨b, o, e, (hb.cell (p := ⟨b, _, none⟩) hlt).trans c1⟩
/-- A slice of numbers. -/
def Ints (w : World) (v : Value) (xs : List Int) : Prop := ∃ a n c, v = .slice a n c ∧ n = xs.length ∧ n ≤ c ∧ ∀ j (h : j < xs.length), ∃ b o, a = some ⟨b, o, none⟩ ∧ w.cell? ⟨b, o + j, none⟩ = some (.int .i64 xs[j])
theorem Ints.below {w w' : World} {v : Value} {xs : List Int} (h : Ints w v xs) (hb : Below w.heap.size w w') : Ints w' v xs := by
  obtain ⟨a, n, c, h1, h2, h3, h4⟩ := h
  refine ⟨a, n, c, h1, h2, h3, fun j hj => ?_⟩
  obtain ⟨b, o, e, c1⟩ := h4 j hj
  have hlt : b < w.heap.size := World.block_lt_of_cell? w _ c1
  exact ⟨b, o, e, (hb.cell (p := ⟨b, _, none⟩) hlt).trans c1⟩

def Fits (xs : List ByteArray) (b : Bool) : Prop := b = true → xs.length ≤ 2147483647 ∧ ∀ x ∈ xs, x.size ≤ 2147483647
set_option maxHeartbeats 1600000 in
/-- zzFits1. -/
theorem f9 {w : World} (v : Value) (xs : List ByteArray) (h : Strs w v xs) (hn : xs.length ≤ 9223372036854775807) (hx : ∀ x ∈ xs, x.size ≤ 9223372036854775807) : Calls Tryz.prog 9 #[v] w fun e w' => Tells (Fits xs) e ∧ w = w' := by
  obtain ⟨a, n, c, rfl, hl, hc, hd⟩ := h
  have hn2 : n ≤ 9223372036854775807 := by omega
  have HL := Lib.hid hl
  have HD := Lib.hid hd
  have HX := Lib.hid hx
  clear hl hd hx hn
  by_cases h1 : n ≤ 2147483647
  · have h2 : ¬ (2147483647 : Int) < n := by omega
    go_enter Tryz.func9, Tryz.ntmps9
    go_wp2_with fail
    go_loop [10] (fun i => ∃ k : Nat, k ≤ n ∧ i = .int .i64 k ∧ Hid (∀ j (_ : j < k) (h2 : j < xs.length), xs[j].size ≤ 2147483647)) (fun i => n - (intOf i).toNat)
    case atStart => exact ⟨0, by omega, rfl, fun j h => by omega⟩
    case round =>
      obtain ⟨k, hk, rfl, hd⟩ := hrel
      by_cases hlt : k < n
      · have hkl : k < xs.length := by have := HL.out; omega
        obtain ⟨b, o, rfl, x1⟩ := HD.out k hkl
        have hlt2 : (k : Int) < n := by omega
        have hxs := HX.out xs[k] (List.getElem_mem hkl)
        obtain ⟨s, hs⟩ : ∃ s, s = xs[k] := ⟨_, rfl⟩
        rw [← hs] at x1 hxs
        have HS := Lib.hid hs
        clear hs
        by_cases h3 : s.size ≤ 2147483647
        · have h4 : ¬ (2147483647 : Int) < s.size := by omega
          go_wp2
          go_round
          case rel =>
            refine ⟨k + 1, by omega, by go_num, fun j hj hj2 => ?_⟩
            by_cases hjk : j < k
            · exact hd.out j hjk hj2
            · obtain rfl : j = k := by omega
              rw [← HS.out]; exact h3
          case measure => simp [intOf]; omega
        · have h4 : (2147483647 : Int) < s.size := by omega
          go_wp2
          go_ret
          exact ⟨⟨false, rfl, fun h => by cases h⟩, rfl⟩
      · obtain rfl : k = n := by omega
        go_wp2
        go_ret
        refine ⟨⟨true, rfl, fun _ => ⟨by have := HL.out; omega, fun x hx => ?_⟩⟩, rfl⟩
        obtain ⟨j, hj, rfl⟩ := List.getElem_of_mem hx
        exact hd.out j (by have := HL.out; omega) hj
  · have h2 : (2147483647 : Int) < n := by omega
    go_enter Tryz.func9, Tryz.ntmps9
    go_wp2
    go_ret
    exact ⟨⟨false, rfl, fun h => by cases h⟩, rfl⟩

/-- Cells of pairs. -/
def prCells (ps : List (ByteArray × ByteArray)) : List Value := ps.flatMap fun p => [.string p.1, .string p.2]
theorem prCells_append (a b : List (ByteArray × ByteArray)) : prCells (a ++ b) = prCells a ++ prCells b := by simp [prCells]
theorem prCells_at : ∀ (ps : List (ByteArray × ByteArray)) (j : Nat) (h : j < ps.length), (prCells ps)[j * 2]? = some (.string ps[j].1) ∧ (prCells ps)[j * 2 + 1]? = some (.string ps[j].2)
  | [], j, h => absurd h (by simp)
  | p :: ps, 0, _ => ⟨rfl, rfl⟩
  | p :: ps, j + 1, h => by
    have := prCells_at ps j (by simp at h; omega)
    have e : prCells (p :: ps) = .string p.1 :: .string p.2 :: prCells ps := rfl
    rw [e, show (j + 1) * 2 = j * 2 + 1 + 1 by omega]
    simpa using this
theorem own_prs {w : World} {B : Nat} {e : TypeId} {v : Value} {n : Nat} {ps : List (ByteArray × ByteArray)} (h : w.ownsRow B e 2 v n (prCells ps)) (hn : n = ps.length) : Prs w v ps := by
  rcases h.2 with ⟨rfl, h0⟩ | ⟨g, cap, cur, rfl, hB, hg, hc, _, _, _⟩
  · exact ⟨none, 0, 0, rfl, by omega, Nat.le_refl _, fun j hj => by omega⟩
  · refine ⟨_, n, cap, rfl, hn, hc, fun j hj => ⟨g, 0, rfl, ?_⟩⟩
    have ⟨h1, h2⟩ := prCells_at ps j hj
    have c1 := h.cells (g := g) rfl _ _ h1
    have c2 := h.cells (g := g) rfl _ _ h2
    have hadd : ∀ j, (⟨g, 0, none⟩ : Addr).add j = ⟨g, j, none⟩ := by intro j; unfold Addr.add; split <;> simp_all
    rw [hadd] at c1 c2
    rw [Nat.zero_add]
    exact ⟨c1, c2⟩
theorem Tryz_info53 : (Tryz.prog.info? 53).map (fun i => (i.zero, i.size, i.bytes)) = some (some (.agg #[.string ⟨#[]⟩, .string ⟨#[]⟩]), 2, 32) := by kernel_rfl
theorem Tryz_info23 : (Tryz.prog.info? 23).map (fun i => (i.zero, i.size, i.bytes)) = some (some (.agg #[.string ⟨#[]⟩, .string ⟨#[]⟩]), 2, 32) := by kernel_rfl

theorem prCells_len (ps : List (ByteArray × ByteArray)) : (prCells ps).length = ps.length * 2 := by
  induction ps with
  | nil => rfl
  | cons p ps ih => have : prCells (p :: ps) = .string p.1 :: .string p.2 :: prCells ps := rfl; rw [this, List.length_cons, List.length_cons, ih, List.length_cons]; omega
set_option maxRecDepth 100000 in
set_option maxHeartbeats 3200000 in
/-- told. -/
theorem f13 {w : World} (v : Value) (ps : List (ByteArray × ByteArray)) (h : Prs w v ps) (hn : ps.length ≤ 1000) : Calls Tryz.prog 13 #[v] w fun e w' => ∃ v', e = .returned v' ∧ Prs w' v' ps ∧ Below w.heap.size w w' := by
  obtain ⟨i0, hi, hz0, hz1, hz2⟩ := info_parts Tryz_info53
  obtain ⟨a, n, c, rfl, hl, hc, hd⟩ := h
  have hn2 : n ≤ 1000 := by omega
  have HL := Lib.hid hl
  have HD := Lib.hid hd
  clear hl hd hn
  go_enter Tryz.func13, Tryz.ntmps13
  go_wp2_with fail
  go_loopw [3, 8] (fun v i wr => ∃ k : Nat, k ≤ n ∧ i = .int .i64 k ∧ wr.ownsRow w.heap.size 53 2 v k (prCells (ps.take k)) ∧ Below w.heap.size w wr) (fun _ i _ => n - (intOf i).toNat)
  case atStart => exact ⟨0, by omega, rfl, World.ownsRow_nil _ _ _ _, Below.refl _ _⟩
  case round =>
    obtain ⟨k, hk, rfl, hown, hb⟩ := hrel
    have hbw := hb.size
    by_cases hlt : k < n
    · have hkl : k < ps.length := by have := HL.out; omega
      obtain ⟨b, o, rfl, x1, x2⟩ := HD.out k hkl
      have lb : b < w.heap.size := World.block_lt_of_cell? w _ x1
      have z1 := (hb.cell (p := ⟨b, _, none⟩) lb).trans x1
      have z2 := (hb.cell (p := ⟨b, _, none⟩) lb).trans x2
      have hlt2 : (k : Int) < n := by omega
      have hsp : ps.take (k + 1) = ps.take k ++ [ps[k]] := by rw [List.take_append_getElem hkl]
      have HSP := Lib.hid hsp
      clear x1 x2 hsp
      obtain ⟨p, hp⟩ : ∃ p, p = ps[k] := ⟨_, rfl⟩
      rw [← hp] at z1 z2
      have HP := Lib.hid hp
      clear hp
      have HO := Lib.hid hown
      have HB := Lib.hid hb
      clear hown hb
      have hszk := prCells_len (ps.take k)
      go_wp2_with (at_builtin; refine wpList_append_own _ rfl _ _ 37 rfl w.heap.size 53 i0 (.agg #[.string ⟨#[]⟩, .string ⟨#[]⟩]) 2 32 Tryz.underlying37 hi hz0 hz1 hz2 rfl (by decide) _ _ _ rfl ((HO.out.alloc _).alloc _) ⟨wr.heap.size + 1, 0, none⟩ 1 1 [.string p.1, .string p.2] rfl rfl ?c1 ?c2 ?c3 ?c4 ?c5 ?_)
      case c1 =>
        intro j u hj
        match j, hj with
        | 0, hj => simp at hj; subst hj; simp [Addr.add]
        | 1, hj => simp at hj; subst hj; simp [Addr.add]
      case c2 => intro u hu; simp at hu; rcases hu with rfl | rfl <;> rfl
      case c3 => unfold maxLen; omega
      case c4 => omega
      case c5 => simp; omega
      intro v' w1 hown' hgrow _
      have hb1 := ((HB.out.alloc hbw (.cells #[.string p.1, .string p.2] 23)).alloc (by simp; omega) (.cells #[.string p.1, .string p.2] 53)).trans (below_of_grownBy hgrow (by simp; omega) (fun g hg => (HO.out.lt g hg).1))
      have HO1 := Lib.hid hown'
      have HB1 := Lib.hid hb1
      clear hown' hgrow hb1 HO HB z1 z2 hszk
      go_wp2_with fail
      go_roundw
      case rel =>
        refine ⟨k + 1, by omega, by go_num, ?_, HB1.out⟩
        rw [HSP.out, prCells_append, ← HP.out]; exact HO1.out
      case measure => simp [intOf]; omega
    · obtain rfl : k = n := by omega
      have hpl : ps.take k = ps := List.take_of_length_le (by have := HL.out; omega)
      rw [hpl] at hown
      have hpr := own_prs hown HL.out
      clear hown hpl
      go_wp2
      go_ret
      exact ⟨_, rfl, hpr, hb⟩

/-- A slice of pointers to pairs of texts. -/
def Ptrs (w : World) (v : Value) (ps : List (ByteArray × ByteArray)) : Prop := ∃ a n c, v = .slice a n c ∧ n = ps.length ∧ n ≤ c ∧ ∀ j (h : j < ps.length), ∃ b o k, a = some ⟨b, o, none⟩ ∧ w.cell? ⟨b, o + j, none⟩ = some (.pointer (some ⟨k, 0, none⟩)) ∧ w.cell? ⟨k, 0, none⟩ = some (.string ps[j].1) ∧ w.cell? ⟨k, 1, none⟩ = some (.string ps[j].2)
theorem Ptrs.below {w w' : World} {v : Value} {ps : List (ByteArray × ByteArray)} (h : Ptrs w v ps) (hb : Below w.heap.size w w') : Ptrs w' v ps := by
  obtain ⟨a, n, c, h1, h2, h3, h4⟩ := h
  refine ⟨a, n, c, h1, h2, h3, fun j hj => ?_⟩
  obtain ⟨b, o, k, e, c1, c2, c3⟩ := h4 j hj
  have hlt : b < w.heap.size := World.block_lt_of_cell? w _ c1
  have hlt2 : k < w.heap.size := World.block_lt_of_cell? w _ c2
  exact ⟨b, o, k, e, (hb.cell (p := ⟨b, _, none⟩) hlt).trans c1, (hb.cell (p := ⟨k, _, none⟩) hlt2).trans c2, (hb.cell (p := ⟨k, _, none⟩) hlt2).trans c3⟩

set_option maxRecDepth 100000 in
set_option maxHeartbeats 3200000 in
/-- impl.addresses. -/
theorem f20 {w : World} (v : Value) (ps : List (ByteArray × ByteArray)) (h : Ptrs w v ps) (hn : ps.length ≤ 1000) : Calls Tryz.prog 20 #[v] w fun e w' => ∃ v', e = .returned v' ∧ Prs w' v' ps ∧ Below w.heap.size w w' := by
  obtain ⟨i0, hi, hz0, hz1, hz2⟩ := info_parts Tryz_info23
  obtain ⟨a, n, c, rfl, hl, hc, hd⟩ := h
  have hn2 : n ≤ 1000 := by omega
  have HL := Lib.hid hl
  have HD := Lib.hid hd
  clear hl hd hn
  go_enter Tryz.func20, Tryz.ntmps20
  go_wp2_with fail
  go_loopw [3, 8] (fun v i wr => ∃ k : Nat, k ≤ n ∧ i = .int .i64 k ∧ wr.ownsRow w.heap.size 23 2 v k (prCells (ps.take k)) ∧ Below w.heap.size w wr) (fun _ i _ => n - (intOf i).toNat)
  case atStart => exact ⟨0, by omega, rfl, World.ownsRow_nil _ _ _ _, Below.refl _ _⟩
  case round =>
    obtain ⟨k, hk, rfl, hown, hb⟩ := hrel
    have hbw := hb.size
    by_cases hlt : k < n
    · have hkl : k < ps.length := by have := HL.out; omega
      obtain ⟨b, o, q, rfl, x0, x1, x2⟩ := HD.out k hkl
      have lb : b < w.heap.size := World.block_lt_of_cell? w _ x0
      have lq : q < w.heap.size := World.block_lt_of_cell? w _ x1
      have z0 := (hb.cell (p := ⟨b, _, none⟩) lb).trans x0
      have z1 := (hb.cell (p := ⟨q, _, none⟩) lq).trans x1
      have z2 := (hb.cell (p := ⟨q, _, none⟩) lq).trans x2
      have hlt2 : (k : Int) < n := by omega
      have hsp : ps.take (k + 1) = ps.take k ++ [ps[k]] := by rw [List.take_append_getElem hkl]
      have HSP := Lib.hid hsp
      clear x0 x1 x2 hsp
      obtain ⟨p, hp⟩ : ∃ p, p = ps[k] := ⟨_, rfl⟩
      rw [← hp] at z1 z2
      have HP := Lib.hid hp
      clear hp
      have HO := Lib.hid hown
      have HB := Lib.hid hb
      clear hown hb
      have hszk := prCells_len (ps.take k)
      go_wp2_with (at_builtin; refine wpList_append_own _ rfl _ _ 32 rfl w.heap.size 23 i0 (.agg #[.string ⟨#[]⟩, .string ⟨#[]⟩]) 2 32 Tryz.underlying32 hi hz0 hz1 hz2 rfl (by decide) _ _ _ rfl (HO.out.alloc _) ⟨wr.heap.size, 0, none⟩ 1 1 [.string p.1, .string p.2] rfl rfl ?c1 ?c2 ?c3 ?c4 ?c5 ?_)
      case c1 =>
        intro j u hj
        match j, hj with
        | 0, hj => simp at hj; subst hj; simp [Addr.add]
        | 1, hj => simp at hj; subst hj; simp [Addr.add]
      case c2 => intro u hu; simp at hu; rcases hu with rfl | rfl <;> rfl
      case c3 => unfold maxLen; omega
      case c4 => omega
      case c5 => simp; omega
      intro v' w1 hown' hgrow _
      have hb1 := (HB.out.alloc hbw (.cells #[.string p.1, .string p.2] 23)).trans (below_of_grownBy hgrow (by simp; omega) (fun g hg => (HO.out.lt g hg).1))
      have HO1 := Lib.hid hown'
      have HB1 := Lib.hid hb1
      clear hown' hgrow hb1 HO HB z0 z1 z2 hszk
      go_wp2_with fail
      go_roundw
      case rel =>
        refine ⟨k + 1, by omega, by go_num, ?_, HB1.out⟩
        rw [HSP.out, prCells_append, ← HP.out]; exact HO1.out
      case measure => simp [intOf]; omega
    · obtain rfl : k = n := by omega
      have hpl : ps.take k = ps := List.take_of_length_le (by have := HL.out; omega)
      rw [hpl] at hown
      have hpr := own_prs hown HL.out
      clear hown hpl
      go_wp2
      go_ret
      exact ⟨_, rfl, hpr, hb⟩

def Blank (bl : List UInt8) : Prop := (∀ c ∈ bl, wsp c.toNat = true) ∧ bl.length ≤ 3
theorem blank_lit : Blank [] ∧ Blank [32] ∧ Blank [9] ∧ Blank [32, 32] ∧ Blank [32, 9, 32] := by
  refine ⟨⟨?_, ?_⟩, ⟨?_, ?_⟩, ⟨?_, ?_⟩, ⟨?_, ?_⟩, ⟨?_, ?_⟩⟩ <;> decide
set_option maxRecDepth 100000 in
set_option maxHeartbeats 3200000 in
/-- blank. -/
theorem f10 {w : World} (v : Value) (xs : List Int) (i : Nat) (h : Ints w v xs) (hn : xs.length ≤ 2147483647) (hi : i ≤ 1000) : Calls Tryz.prog 10 #[v, .int .i64 i] w fun e w' => ∃ bl, e = .returned (.string (mk bl)) ∧ Blank bl ∧ Below w.heap.size w w' := by
  obtain ⟨a, n, c, rfl, hl, hc, hd⟩ := h
  have hn2 : n ≤ 2147483647 := by omega
  by_cases hlt : i < n
  · obtain ⟨b, o, rfl, x1⟩ := hd i (by omega)
    have hlt2 : (i : Int) < n := by omega
    generalize xs[i] = x at x1
    clear hl hd hn
    have hb := (Below.refl w.heap.size w).alloc (Nat.le_refl _) (.cells #[.string ⟨#[]⟩, .string ⟨#[32]⟩, .string ⟨#[9]⟩, .string ⟨#[32, 32]⟩, .string ⟨#[32, 9, 32]⟩] 9)
    have lb : b < w.heap.size := World.block_lt_of_cell? w _ x1
    have x2 := (hb.cell (p := ⟨b, _, none⟩) lb).trans x1
    have hx0 : 0 ≤ IntKind.u64.wrap x := by rw [IntKind.wrap_u64]; omega
    have hm : ∃ m : Int, (IntKind.u64.wrap x).tmod 5 = m ∧ 0 ≤ m ∧ m < 5 := ⟨_, rfl, by rw [Int.tmod_eq_emod_of_nonneg hx0]; omega, by rw [Int.tmod_eq_emod_of_nonneg hx0]; omega⟩
    obtain ⟨m, hm, m0, m5⟩ := hm
    clear hx0 x1 lb
    obtain rfl | rfl | rfl | rfl | rfl : m = 0 ∨ m = 1 ∨ m = 2 ∨ m = 3 ∨ m = 4 := by omega
    · go_enter Tryz.func10, Tryz.ntmps10
      go_wp2
      go_ret
      exact ⟨[], rfl, blank_lit.1, hb⟩
    · go_enter Tryz.func10, Tryz.ntmps10
      go_wp2
      go_ret
      exact ⟨[32], rfl, blank_lit.2.1, hb⟩
    · go_enter Tryz.func10, Tryz.ntmps10
      go_wp2
      go_ret
      exact ⟨[9], rfl, blank_lit.2.2.1, hb⟩
    · go_enter Tryz.func10, Tryz.ntmps10
      go_wp2
      go_ret
      exact ⟨[32, 32], rfl, blank_lit.2.2.2.1, hb⟩
    · go_enter Tryz.func10, Tryz.ntmps10
      go_wp2
      go_ret
      exact ⟨[32, 9, 32], rfl, blank_lit.2.2.2.2, hb⟩
  · have hlt2 : (n : Int) ≤ i := by omega
    clear hl hd hn
    go_enter Tryz.func10, Tryz.ntmps10
    go_wp2
    go_ret
    exact ⟨[], rfl, blank_lit.1, Below.refl _ _⟩
end Go.Proofs.YtbigjdlcmlopcaaGreatDoor
