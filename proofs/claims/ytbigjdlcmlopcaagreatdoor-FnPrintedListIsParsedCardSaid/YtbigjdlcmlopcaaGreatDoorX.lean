import Derived.Test.YtbigjdlcmlopcaaGreatDoorW
namespace Go.Proofs.YtbigjdlcmlopcaaGreatDoor
open Go.RowKit

theorem load_dec {c : Nat} {w : World} (hc : EncAt c w) : ∃ v, (Instr.loadAt 55 (.pointer (some ⟨c, 64, none⟩))).run Tryz.prog w = .ok v w := by
  obtain ⟨A, hA⟩ : ∃ A, (loadCellsFrom ⟨c, 64, none⟩ 0 256 #[]).run Tryz.prog w = .ok A w := by
    have := run_loadCells_list (P := Tryz.prog) w ⟨c, 64, none⟩ ((List.range 256).map (fun j => encF 64 (64 + j))) (fun j v hv => by
      have hadd : (⟨c, 64, none⟩ : Addr).add j = ⟨c, 64 + j, none⟩ := by unfold Addr.add; split <;> simp_all
      rw [hadd]
      obtain ⟨i, hi, rfl⟩ := List.getElem?_eq_some_iff.1 hv
      rw [hc.cell (by simp at i; omega)]
      simp)
    simp only [loadCells, List.length_map, List.length_range] at this
    exact ⟨_, this⟩
  refine ⟨.agg A, ?_⟩
  simp only [Instr.loadAt, Instr.sureAddr, Sem.run_bind, Sem.run_pure, Result.andThen_ok, loadVar, loadCells]
  rw [Tryz.isAgg55]
  simp only [Result.andThen_ok, if_true, Sem.run_bind, Tryz.sizeOf55, hA, Sem.run_pure]
theorem wpList_load_dec {w : World} {ops : Array Oper} {rest : List Oper} {o : Oper} {a : Act} {Q : Exit → Act → World → Prop} (hgd : o.guard = none) (x : Operand) (ho : o.op = .load 55 x) (c : Nat) (hx : a.eval x = .pointer (some ⟨c, 64, none⟩)) (hc : EncAt c w)
    (h : ∀ v, wpList Tryz.prog ops Q rest (a.put o.dst v) w) : wpList Tryz.prog ops Q (o :: rest) a w := by
  refine wpList_plain hgd fun K hK => ?_
  obtain ⟨v, hr⟩ := load_dec hc
  have hK2 := hK _ _ (h v)
  unfold Oper.wp execOp
  simp only [ho, Sem.run_bind, Sem.run_pure, Result.andThen_ok, hx, hr]
  exact hK2

theorem alph_idx (i : Nat) (hi : i < 64) : 43 ≤ (b64c i).toNat ∧ (b64c i).toNat ≤ 122 ∧ aidx (b64c i).toNat = i := by
  have := alph_lo ⟨i, hi⟩
  unfold b64c
  rw [List.getElem?_eq_getElem (by simp [alph]; omega)]
  exact this
/-- The decoder's table. -/
theorem EncAt.dec {c : Nat} {w : World} (h : EncAt c w) (i : Nat) (hi : i < 64) : w.cell? ⟨c, 64 + (b64c i).toNat, none⟩ = some (.int .u8 (i : Int)) := by
  obtain ⟨h1, h2, h3⟩ := alph_idx i hi
  rw [World.rowIs.cell h (by omega)]
  unfold encF
  rw [if_neg (by omega), if_pos (by omega), Nat.add_sub_cancel_left, h3, if_pos hi]
theorem EncAt.dec61 {c : Nat} {w : World} (h : EncAt c w) : w.cell? ⟨c, 64 + 61, none⟩ = some (.int .u8 255) := by
  rw [World.rowIs.cell h (by omega)]
  have : encF 64 (64 + 61) = .int .u8 255 := by
    unfold encF
    rw [if_neg (by omega), if_pos (by omega), Nat.add_sub_cancel_left]
    have : aidx 61 = 64 := by decide
    rw [this]; rfl
  rw [this]
theorem EncAt.strict {c : Nat} {w : World} (h : EncAt c w) : w.cell? ⟨c, 321, none⟩ = some (.bool false) := by
  rw [World.rowIs.cell h (by omega)]; rfl

/-- Of the old blocks D alone is changed. -/
structure GrowD (D : Nat) (w w' : World) : Prop where
  os : w'.os = w.os
  tape : w'.tape = w.tape
  output : w'.output = w.output
  size : w.heap.size ≤ w'.heap.size
  block : ∀ k, k < w.heap.size → k ≠ D → w'.heap[k]? = w.heap[k]?
theorem GrowD.of {D : Nat} {w w' : World} (h : Below w.heap.size w w') : GrowD D w w' := ⟨h.os, h.tape, h.output, h.size, fun k hk _ => h.block k hk⟩
theorem GrowD.setCell {D : Nat} {w w' : World} (h : GrowD D w w') (p : Addr) (hp : p.block = D ∨ w.heap.size ≤ p.block) (v : Value) : GrowD D w (w'.setCell p v) :=
  ⟨h.os, h.tape, h.output, by simpa [World.setCell] using h.size, fun k hk hD => by rw [Below.heap_setCell _ _ _ _ (by omega)]; exact h.block k hk hD⟩
theorem GrowD.grown {D : Nat} {w w' : World} (h : GrowD D w w') : w.grownBy w' (some D) := ⟨h.os, h.tape, h.output, h.size, fun k hk hD => h.block k hk (fun e => hD (by rw [e]))⟩

set_option maxRecDepth 100000 in
set_option maxHeartbeats 6400000 in
/-- decodeQuantum at the last four signs. -/
theorem f144 {w : World} (c D o dl dc N K sa m sc : Nat) (G : Nat → Value) (v : Nat → Nat) (n : Nat) (hn2 : 2 ≤ n) (hn4 : n ≤ 4) (hv : ∀ j, v j < 64) (hv0 : ∀ j, n ≤ j → v j = 0)
    (hc : EncAt c w) (hr : w.rowIs D 5 N G) (hch : ∀ j, j < n → w.cell? ⟨K, sa + (m + j), none⟩ = some (.int .u8 ((b64c (v j)).toNat : Int))) (hpad : ∀ j, n ≤ j → j < 4 → w.cell? ⟨K, sa + (m + j), none⟩ = some (.int .u8 61))
    (hdl : 3 ≤ dl) (hN : o + 3 ≤ N) (hcD : c ≠ D) (hm : m ≤ 100000) :
    Calls Tryz.prog 144 #[.pointer (some ⟨c, 0, none⟩), .slice (some ⟨D, o, none⟩) dl dc, .slice (some ⟨K, sa, none⟩) (m + 4) sc, .int .i64 m] w fun r w' =>
      r = .returned (.tuple #[.int .i64 (m + 4 : Nat), .int .i64 (n - 1 : Nat), .nilIface]) ∧ w.grownBy w' (some D) ∧ ∃ G', w'.rowIs D 5 N G' ∧ (∀ j, j < o → G' j = G j) ∧
        G' o = .int .u8 ((v 0 * 262144 + v 1 * 4096 + v 2 * 64 + v 3) / 65536 % 256 : Nat) ∧ (3 ≤ n → G' (o + 1) = .int .u8 ((v 0 * 262144 + v 1 * 4096 + v 2 * 64 + v 3) / 256 % 256 : Nat)) ∧ (4 ≤ n → G' (o + 2) = .int .u8 ((v 0 * 262144 + v 1 * 4096 + v 2 * 64 + v 3) % 256 : Nat)) := by
  have hcA : EncAt c (w.alloc (.cells #[.int .u8 0, .int .u8 0, .int .u8 0, .int .u8 0] 182)) := World.rowIs.alloc hc _
  have hQ : (w.alloc (.cells #[.int .u8 0, .int .u8 0, .int .u8 0, .int .u8 0] 182)).rowIs w.heap.size 182 4 (fun _ => .int .u8 0) := World.rowIs_alloc w #[.int .u8 0, .int .u8 0, .int .u8 0, .int .u8 0] 182 _ (fun i hi => by
    have : i < 4 := hi
    match i, this with
    | 0, _ => rfl
    | 1, _ => rfl
    | 2, _ => rfl
    | 3, _ => rfl)
  have hbA : Below w.heap.size w (w.alloc (.cells #[.int .u8 0, .int .u8 0, .int .u8 0, .int .u8 0] 182)) := (Below.refl _ _).alloc (Nat.le_refl _) _
  go_enter Tryz.func144, Tryz.ntmps144
  go_wp2_with (with_reducible refine wpList_load_dec rfl _ rfl c rfl hcA ?_)
  intro av
  go_upto_block 0 with fail
  have hKw : K < w.heap.size := World.block_lt_of_cell? w _ (hch 0 (by omega))
  have hcw : c < w.heap.size := World.rowIs.lt hc
  generalize w.alloc (.cells #[.int .u8 0, .int .u8 0, .int .u8 0, .int .u8 0] 182) = w1 at *
  go_cut [3, 10, 12] (fun s3 s10 s12 wx => s3 = .int .i64 (m + 4 : Nat) ∧ s10 = .nilIface ∧ s12 = .int .i64 n ∧ wx.rowIs w.heap.size 182 4 (fun k => .int .u8 (v k : Int)) ∧ Below w.heap.size w wx)
  case first =>
    go_wp2_with fail
    go_loopw [3, 10, 12, 13] (fun si ev lv jv wr => ev = .nilIface ∧ lv = .int .i64 4 ∧ ∃ j : Nat, j ≤ n ∧ si = .int .i64 (m + j : Nat) ∧ jv = .int .i64 j ∧ wr.rowIs w.heap.size 182 4 (fun k => .int .u8 ((if k < j then v k else 0 : Nat) : Int)) ∧ Below w.heap.size w wr) (fun _ _ _ jv _ => 4 - (intOf jv).toNat)
    case atStart => exact ⟨rfl, rfl, 0, by omega, rfl, rfl, hQ, hbA⟩
    case round =>
      clear hQ hbA hcA
      obtain ⟨rfl, rfl, j, hjn, rfl, rfl, hQ, hb⟩ := hrel
      have hc1 : EncAt c wr := rowIs_below hc hb hcw
      by_cases hj4 : j < 4
      · have hne : ¬ ((m + 4 : Nat) : Int) = ((m + j : Nat) : Int) := by omega
        have hjm : m + j < m + 4 := by omega
        have hjm1 : (0 : Int) ≤ ((m + j : Nat) : Int) := by omega
        have hjm2 : ((m + j : Nat) : Int) < ((m + 4 : Nat) : Int) := by omega
        by_cases hj : j < n
        · obtain ⟨x, hx⟩ : ∃ x, x = (b64c (v j)).toNat := ⟨_, rfl⟩
          have hch1 : wr.cell? ⟨K, sa + (m + j), none⟩ = some (.int .u8 (x : Int)) := by rw [hb.cell (p := ⟨K, sa + (m + j), none⟩) hKw, hx]; exact hch j hj
          have hde := hc1.dec (v j) (hv j)
          rw [← hx] at hde
          have hxb := alph_idx (v j) (hv j)
          rw [← hx] at hxb
          have hx1 : x < 256 := by omega
          obtain ⟨y, hy⟩ : ∃ y, y = v j := ⟨_, rfl⟩
          rw [← hy] at hde
          have hy1 : y < 64 := by rw [hy]; exact hv j
          have b1 : ((y : Int) != 255) = true := by simp; omega
          have cq := hQ.cell (i := j) hj4
          have fq := hQ.frozen j
          have hQ2 := hQ.set j (.int .u8 y)
          have hb2 := hb.setCell (p := ⟨w.heap.size, j, none⟩) (Nat.le_refl _) (.int .u8 (y : Int))
          have HY := Lib.hid hy
          have hj44 : (j : Int) < 4 := by omega
          clear hx hy hxb hQ hb
          go_wp2_with fail
          go_roundw
          case rel =>
            refine ⟨rfl, rfl, j + 1, by omega, by go_num, by go_num, hQ2.congr (fun k _ => ?_), hb2⟩
            by_cases hk : k = j
            · rw [if_pos hk, if_pos (by omega), hk, HY.out]
            · rw [if_neg hk]
              by_cases hk2 : k < j
              · rw [if_pos hk2, if_pos (by omega)]
              · rw [if_neg hk2, if_neg (by omega)]
          case measure => simp [intOf]; omega
        · obtain rfl : j = n := by omega
          have hpd := hc1.dec61
          have hpp := hc1.pad
          have hQv : wr.rowIs w.heap.size 182 4 (fun k => .int .u8 (v k : Int)) := hQ.congr (fun k _ => by
            by_cases hk : k < j
            · rw [if_pos hk]
            · rw [if_neg hk, hv0 k (by omega)])
          clear hQ
          have hcs : j = 2 ∨ j = 3 := by omega
          rcases hcs with rfl | rfl
          · have c2 : wr.cell? ⟨K, sa + (m + 2), none⟩ = some (.int .u8 61) := by rw [hb.cell (p := ⟨K, sa + (m + 2), none⟩) hKw]; exact hpad 2 (by omega) (by omega)
            have c3 : wr.cell? ⟨K, sa + (m + 3), none⟩ = some (.int .u8 61) := by rw [hb.cell (p := ⟨K, sa + (m + 3), none⟩) hKw]; exact hpad 3 (by omega) (by omega)
            clear hch hpad hj hjn
            go_wp2_with fail
            go_loopw [3] (fun si wx => si = .int .i64 (m + 3 : Nat) ∧ wx = wr) (fun _ _ => 0)
            case atStart => exact ⟨by go_num, rfl⟩
            case round =>
              obtain ⟨rfl, rfl⟩ := hrel
              have e1 : ((m + 3 : Nat) : Int) < ((m + 4 : Nat) : Int) := by omega
              have e2 : m + 3 < m + 4 := by omega
              have e3 : ¬ ((m + 3 : Nat) : Int) = ((m + 4 : Nat) : Int) := by omega
              go_wp2_with fail
              go_region
              go_wp2_with fail
              have hQd : wr.drew.rowIs w.heap.size 182 4 (fun k => .int .u8 (v k : Int)) := hQv
              have hbd : Below w.heap.size w wr.drew := hb.drew
              clear hQv hb c2 c3 hpd hpp hc1
              generalize wr.drew = wd at *
              go_loopw [3] (fun si wy => si = .int .i64 (m + 4 : Nat) ∧ wy = wd) (fun _ _ => 0)
              case atStart => exact ⟨by go_num, rfl⟩
              case round =>
                obtain ⟨rfl, rfl⟩ := hrel
                go_wp2_with fail
                go_meet
                exact ⟨rfl, rfl, rfl, hQd, hbd⟩
          · have c3 : wr.cell? ⟨K, sa + (m + 3), none⟩ = some (.int .u8 61) := by rw [hb.cell (p := ⟨K, sa + (m + 3), none⟩) hKw]; exact hpad 3 (by omega) (by omega)
            clear hch hpad hj hjn
            go_wp2_with fail
            go_loopw [3] (fun si wy => si = .int .i64 (m + 4 : Nat) ∧ wy = wr) (fun _ _ => 0)
            case atStart => exact ⟨by go_num, rfl⟩
            case round =>
              obtain ⟨rfl, rfl⟩ := hrel
              go_wp2_with fail
              go_meet
              exact ⟨rfl, rfl, rfl, hQv, hb⟩
      · obtain rfl : j = 4 := by omega
        obtain rfl : n = 4 := by omega
        go_wp2_with fail
        go_meet
        exact ⟨rfl, rfl, rfl, hQ.congr (fun k hk => by rw [if_pos hk]), hb⟩
  case rest =>
    clear hQ hbA hcA
    obtain ⟨rfl, rfl, rfl, hQ, hb⟩ := hcut
    have hc1 : EncAt c wc := rowIs_below hc hb hcw
    have hDw : D < w.heap.size := hr.lt
    have hrD : wc.rowIs D 5 N G := rowIs_below hr hb hDw
    have hst := hc1.strict
    obtain ⟨y0, hy0⟩ : ∃ y, y = v 0 := ⟨_, rfl⟩
    obtain ⟨y1, hy1⟩ : ∃ y, y = v 1 := ⟨_, rfl⟩
    obtain ⟨y2, hy2⟩ : ∃ y, y = v 2 := ⟨_, rfl⟩
    obtain ⟨y3, hy3⟩ : ∃ y, y = v 3 := ⟨_, rfl⟩
    have q0 : wc.cell? ⟨w.heap.size, 0, none⟩ = some (.int .u8 (y0 : Int)) := by rw [hQ.cell (by omega), hy0]
    have q1 : wc.cell? ⟨w.heap.size, 1, none⟩ = some (.int .u8 (y1 : Int)) := by rw [hQ.cell (by omega), hy1]
    have q2 : wc.cell? ⟨w.heap.size, 2, none⟩ = some (.int .u8 (y2 : Int)) := by rw [hQ.cell (by omega), hy2]
    have q3 : wc.cell? ⟨w.heap.size, 3, none⟩ = some (.int .u8 (y3 : Int)) := by rw [hQ.cell (by omega), hy3]
    have f0 := hQ.frozen 0
    have f1 := hQ.frozen 1
    have f2 := hQ.frozen 2
    have p0 := hrD.cell (i := o) (by omega)
    have p1 := hrD.cell (i := o + 1) (by omega)
    have p2 := hrD.cell (i := o + 2) (by omega)
    have z0 := hrD.frozen o
    have z1 := hrD.frozen (o + 1)
    have z2 := hrD.frozen (o + 2)
    have l0 : y0 < 64 := by rw [hy0]; exact hv 0
    have l1 : y1 < 64 := by rw [hy1]; exact hv 1
    have l2 : y2 < 64 := by rw [hy2]; exact hv 2
    have l3 : y3 < 64 := by rw [hy3]; exact hv 3
    have g1 := or_u64 (y0 * 262144) y0 18 (y1 * 4096) (by omega) (by omega) (by omega) (by omega)
    have g2 := or_u64 (y0 * 262144 + y1 * 4096) (y0 * 64 + y1) 12 (y2 * 64) (by omega) (by omega) (by omega) (by omega)
    have g3 := or_u64 (y0 * 262144 + y1 * 4096 + y2 * 64) ((y0 * 64 + y1) * 64 + y2) 6 y3 (by omega) (by omega) (by omega) (by omega)
    obtain ⟨V, hV⟩ : ∃ V, V = y0 * 262144 + y1 * 4096 + y2 * 64 + y3 := ⟨_, rfl⟩
    rw [← hV] at g3
    simp only [Int.natCast_add, Int.natCast_mul, Int.cast_ofNat_Int] at g1 g2 g3
    have hVb : V < 16777216 := by omega
    have d0 : 0 < dl := by omega
    have d1 : 1 < dl := by omega
    have d2 : 2 < dl := by omega
    have hDQ : D ≠ w.heap.size := by omega
    have hQD : w.heap.size ≠ D := by omega
    have hcQ : c ≠ w.heap.size := by omega
    have HV : Hid (v 0 * 262144 + v 1 * 4096 + v 2 * 64 + v 3 = V) := by show _ = _; rw [hV, hy0, hy1, hy2, hy3]
    clear hy0 hy1 hy2 hy3 hV hv0 hv hch hpad hc hr
    have hgr : GrowD D w wc := GrowD.of hb
    have hcs : n = 4 ∨ n = 3 ∨ n = 2 := by omega
    clear hb
    rcases hcs with rfl | rfl | rfl
    · go_wp2_with fail
      go_ret3
      refine ⟨by first | rfl | simp, ((((((((hgr.setCell ⟨w.heap.size, 2, none⟩ (.inr (Nat.le_refl _)) _).setCell ⟨w.heap.size, 1, none⟩ (.inr (Nat.le_refl _)) _).setCell ⟨w.heap.size, 0, none⟩ (.inr (Nat.le_refl _)) _).setCell ⟨D, o + 2, none⟩ (.inl rfl) _).setCell ⟨w.heap.size, 2, none⟩ (.inr (Nat.le_refl _)) _).setCell ⟨D, o + 1, none⟩ (.inl rfl) _).setCell ⟨w.heap.size, 1, none⟩ (.inr (Nat.le_refl _)) _).setCell ⟨D, o, none⟩ (.inl rfl) _).grown, _, ((((((((hrD.setOther (a := ⟨w.heap.size, 2, none⟩) hDQ _).setOther (a := ⟨w.heap.size, 1, none⟩) hDQ _).setOther (a := ⟨w.heap.size, 0, none⟩) hDQ _).set (o + 2) _).setOther (a := ⟨w.heap.size, 2, none⟩) hDQ _).set (o + 1) _).setOther (a := ⟨w.heap.size, 1, none⟩) hDQ _).set (o) _), ?_, ?_, ?_, ?_⟩
      · intro j hj
        repeat rw [if_neg (by omega)]
      · rw [HV.out, Nat.mod_eq_of_lt (by omega)]; simp
      · intro h; rw [HV.out]; first | omega | simp
      · intro h; rw [HV.out]; first | omega | simp
    · go_wp2_with fail
      go_ret3
      refine ⟨by first | rfl | simp, ((((((hgr.setCell ⟨w.heap.size, 2, none⟩ (.inr (Nat.le_refl _)) _).setCell ⟨w.heap.size, 1, none⟩ (.inr (Nat.le_refl _)) _).setCell ⟨w.heap.size, 0, none⟩ (.inr (Nat.le_refl _)) _).setCell ⟨D, o + 1, none⟩ (.inl rfl) _).setCell ⟨w.heap.size, 1, none⟩ (.inr (Nat.le_refl _)) _).setCell ⟨D, o, none⟩ (.inl rfl) _).grown, _, ((((((hrD.setOther (a := ⟨w.heap.size, 2, none⟩) hDQ _).setOther (a := ⟨w.heap.size, 1, none⟩) hDQ _).setOther (a := ⟨w.heap.size, 0, none⟩) hDQ _).set (o + 1) _).setOther (a := ⟨w.heap.size, 1, none⟩) hDQ _).set (o) _), ?_, ?_, ?_, ?_⟩
      · intro j hj
        repeat rw [if_neg (by omega)]
      · rw [HV.out, Nat.mod_eq_of_lt (by omega)]; simp
      · intro h; rw [HV.out]; first | omega | simp
      · intro h; rw [HV.out]; first | omega | simp
    · go_wp2_with fail
      go_ret3
      refine ⟨by first | rfl | simp, ((((hgr.setCell ⟨w.heap.size, 2, none⟩ (.inr (Nat.le_refl _)) _).setCell ⟨w.heap.size, 1, none⟩ (.inr (Nat.le_refl _)) _).setCell ⟨w.heap.size, 0, none⟩ (.inr (Nat.le_refl _)) _).setCell ⟨D, o, none⟩ (.inl rfl) _).grown, _, ((((hrD.setOther (a := ⟨w.heap.size, 2, none⟩) hDQ _).setOther (a := ⟨w.heap.size, 1, none⟩) hDQ _).setOther (a := ⟨w.heap.size, 0, none⟩) hDQ _).set (o) _), ?_, ?_, ?_, ?_⟩
      · intro j hj
        repeat rw [if_neg (by omega)]
      · rw [HV.out, Nat.mod_eq_of_lt (by omega)]; simp
      · intro h; rw [HV.out]; first | omega | simp
      · intro h; rw [HV.out]; first | omega | simp
end Go.Proofs.YtbigjdlcmlopcaaGreatDoor
