import Derived.Test.YtbigjdlcmlopcaaGreatDoorN
import Derived.Laws.Bits64b
import Derived.Laws.BitsLemmas
namespace Go.Proofs.YtbigjdlcmlopcaaGreatDoor
open Go.RowKit

def b64c (n : Nat) : UInt8 := alph[n]?.getD 0
def b64 : List UInt8 → List UInt8
  | a :: b :: c :: r => b64c (a.toNat / 4) :: b64c (a.toNat % 4 * 16 + b.toNat / 16) :: b64c (b.toNat % 16 * 4 + c.toNat / 64) :: b64c (c.toNat % 64) :: b64 r
  | [a, b] => [b64c (a.toNat / 4), b64c (a.toNat % 4 * 16 + b.toNat / 16), b64c (b.toNat % 16 * 4), 61]
  | [a] => [b64c (a.toNat / 4), b64c (a.toNat % 4 * 16), 61, 61]
  | [] => []
theorem b64_len : ∀ l : List UInt8, (b64 l).length = (l.length + 2) / 3 * 4
  | a :: b :: c :: r => by
    have := b64_len r
    simp only [b64, List.length_cons, this]; omega
  | [a, b] => by simp [b64]
  | [a] => by simp [b64]
  | [] => by simp [b64]

/-- The cells of a slice of bytes. -/
def SrcAt (w : World) (K a : Nat) (l : List UInt8) : Prop := ∀ j (h : j < l.length), w.cell? ⟨K, a + j, none⟩ = some (.int .u8 (l[j].toNat : Int))

/-- What Encode has written. -/
def put (F : Nat → Value) (off : Nat) (o : List UInt8) : Nat → Value := fun j => if off ≤ j ∧ j < off + o.length then .int .u8 ((o[j - off]?.getD 0).toNat : Int) else F j

theorem load_enc {c : Nat} {w : World} (hc : EncAt c w) : ∃ v, (Instr.loadAt 145 (.pointer (some ⟨c, 0, none⟩))).run Tryz.prog w = .ok v w := by
  obtain ⟨A, hA⟩ : ∃ A, (loadCellsFrom ⟨c, 0, none⟩ 0 64 #[]).run Tryz.prog w = .ok A w := by
    have := run_loadCells_list (P := Tryz.prog) w ⟨c, 0, none⟩ ((List.range 64).map (encF 64)) (fun j v hv => by
      have hadd : (⟨c, 0, none⟩ : Addr).add j = ⟨c, j, none⟩ := by unfold Addr.add; split <;> simp_all
      rw [hadd]
      obtain ⟨i, hi, rfl⟩ := List.getElem?_eq_some_iff.1 hv
      rw [hc.cell (by simp at i; omega)]
      simp)
    simp only [loadCells, List.length_map, List.length_range] at this
    exact ⟨_, this⟩
  refine ⟨.agg A, ?_⟩
  simp only [Instr.loadAt, Instr.sureAddr, Sem.run_bind, Sem.run_pure, Result.andThen_ok, loadVar, loadCells]
  rw [Tryz.isAgg145]
  simp only [Result.andThen_ok, if_true, Sem.run_bind, Tryz.sizeOf145, hA, Sem.run_pure]
theorem wpList_load_arr {w : World} {ops : Array Oper} {rest : List Oper} {o : Oper} {a : Act} {Q : Exit → Act → World → Prop} (hgd : o.guard = none) (x : Operand) (ho : o.op = .load 145 x) (c : Nat) (hx : a.eval x = .pointer (some ⟨c, 0, none⟩)) (hc : EncAt c w)
    (h : ∀ v, wpList Tryz.prog ops Q rest (a.put o.dst v) w) : wpList Tryz.prog ops Q (o :: rest) a w := by
  refine wpList_plain hgd fun K hK => ?_
  obtain ⟨v, hr⟩ := load_enc hc
  have hK2 := hK _ _ (h v)
  unfold Oper.wp execOp
  simp only [ho, Sem.run_bind, Sem.run_pure, Result.andThen_ok, hx, hr]
  exact hK2

theorem load_alph {c : Nat} {w : World} (hc : EncAt c w) (i : Nat) (hi : i < 64) : w.cell? ⟨c, i, none⟩ = some (.int .u8 ((b64c i).toNat : Int)) := by
  rw [hc.cell (by omega)]; unfold encF b64c; rw [if_pos hi]
theorem b64_append : ∀ (d r : List UInt8), d.length % 3 = 0 → b64 (d ++ r) = b64 d ++ b64 r
  | [], r, _ => by simp [b64]
  | [a], r, h => by simp at h
  | [a, b], r, h => by simp at h
  | a :: b :: c :: d, r, h => by
    have ih := b64_append d r (by simp at h; omega)
    simp [b64, ih]
theorem put_set (F : Nat → Value) (off o : Nat) (p : List UInt8) (v : UInt8) (ho : o = off + p.length) (j : Nat) : (if j = o then .int .u8 (v.toNat : Int) else put F off p j) = put F off (p ++ [v]) j := by
  subst ho
  unfold put
  by_cases h : j = off + p.length
  · subst h
    rw [if_pos rfl, if_pos (by simp), Nat.add_sub_cancel_left, List.getElem?_append_right (Nat.le_refl _)]
    simp
  · rw [if_neg h]
    by_cases h2 : off ≤ j ∧ j < off + p.length
    · rw [if_pos h2, if_pos (by simp; omega), List.getElem?_append_left (by omega)]
    · rw [if_neg h2, if_neg (by simp; omega)]
theorem put4 {w : World} {e N off o : Nat} {F : Nat → Value} {p : List UInt8} (h : w.rowIs e 143 N (put F off p)) (ho : o = off + p.length) (v0 v1 v2 v3 : UInt8) :
    ((((w.setCell ⟨e, o, none⟩ (.int .u8 (v0.toNat : Int))).setCell ⟨e, o + 1, none⟩ (.int .u8 (v1.toNat : Int))).setCell ⟨e, o + 2, none⟩ (.int .u8 (v2.toNat : Int))).setCell ⟨e, o + 3, none⟩ (.int .u8 (v3.toNat : Int))).rowIs e 143 N (put F off (p ++ [v0, v1, v2, v3])) := by
  have h0 := (h.set o (.int .u8 (v0.toNat : Int))).congr (fun j _ => put_set F off o p v0 ho j)
  have h1 := (h0.set (o + 1) (.int .u8 (v1.toNat : Int))).congr (fun j _ => put_set F off (o + 1) (p ++ [v0]) v1 (by simp; omega) j)
  have h2 := (h1.set (o + 2) (.int .u8 (v2.toNat : Int))).congr (fun j _ => put_set F off (o + 2) (p ++ [v0] ++ [v1]) v2 (by simp; omega) j)
  have h3 := (h2.set (o + 3) (.int .u8 (v3.toNat : Int))).congr (fun j _ => put_set F off (o + 3) (p ++ [v0] ++ [v1] ++ [v2]) v3 (by simp; omega) j)
  simpa using h3
theorem upd4 {w0 w : World} {e o : Nat} (h : Upd e w0 w) (v0 v1 v2 v3 : Value) :
    Upd e w0 ((((w.setCell ⟨e, o, none⟩ v0).setCell ⟨e, o + 1, none⟩ v1).setCell ⟨e, o + 2, none⟩ v2).setCell ⟨e, o + 3, none⟩ v3) :=
  (((h.setCell ⟨e, o, none⟩ rfl v0).setCell ⟨e, o + 1, none⟩ rfl v1).setCell ⟨e, o + 2, none⟩ rfl v2).setCell ⟨e, o + 3, none⟩ rfl v3
theorem src4 {w : World} {e o K a : Nat} {q : List UInt8} (h : SrcAt w K a q) (hK : K ≠ e ∨ a + q.length ≤ o) (v0 v1 v2 v3 : Value) :
    SrcAt ((((w.setCell ⟨e, o, none⟩ v0).setCell ⟨e, o + 1, none⟩ v1).setCell ⟨e, o + 2, none⟩ v2).setCell ⟨e, o + 3, none⟩ v3) K a q := by
  intro j hj
  have := h j hj
  rw [World.cell?_setCell_other _ _ _ _ (by simp; omega), World.cell?_setCell_other _ _ _ _ (by simp; omega), World.cell?_setCell_other _ _ _ _ (by simp; omega), World.cell?_setCell_other _ _ _ _ (by simp; omega)]
  exact this
theorem or2 (x y : Nat) (hx : x < 256) (hy : y < 256) : bits .or .u64 ((x : Int) * 65536) ((y : Int) * 256) = (x : Int) * 65536 + (y : Int) * 256 := by
  have h := bits_or_u64_nat (x * 65536) (y * 256) (by omega) (by omega)
  have h2 := Nat.two_pow_add_eq_or_of_lt (i := 16) (b := y * 256) (by omega) x
  rw [show 2 ^ 16 * x = x * 65536 by omega] at h2
  rw [← h2] at h
  simpa using h
theorem or3 (x y z : Nat) (hx : x < 256) (hy : y < 256) (hz : z < 256) : bits .or .u64 ((x : Int) * 65536 + (y : Int) * 256) (z : Int) = ((x * 65536 + y * 256 + z : Nat) : Int) := by
  have h := bits_or_u64_nat (x * 65536 + y * 256) z (by omega) (by omega)
  have h2 := Nat.two_pow_add_eq_or_of_lt (i := 8) (b := z) (by omega) (x * 256 + y)
  rw [show 2 ^ 8 * (x * 256 + y) = x * 65536 + y * 256 by omega] at h2
  rw [← h2] at h
  simpa using h
theorem and63 (v : Nat) (hv : v < 18446744073709551616) : bits .and .u64 (v : Int) 63 = ((v % 64 : Nat) : Int) := by
  have h := bits_and_u64_nat v 63 hv (by omega)
  have h2 := Nat.and_two_pow_sub_one_eq_mod v 6
  rw [show 2 ^ 6 - 1 = 63 by decide, show 2 ^ 6 = 64 by decide] at h2
  rw [h2] at h
  exact h

set_option maxRecDepth 100000 in
set_option maxHeartbeats 6400000 in
theorem f171 {w : World} (c e N off dl dc K sa sc : Nat) (F : Nat → Value) (l : List UInt8) (hc : EncAt c w) (hce : c ≠ e) (hr : w.rowIs e 143 N F) (hs : SrcAt w K sa l) (hdc : dl ≤ dc) (hN : off + dc ≤ N) (hpos : (b64 l).length < dl) (hK : K ≠ e ∨ sa + l.length ≤ off) (hsc : l.length ≤ sc) (hl : l.length ≤ 1000) (hl0 : 0 < l.length) :
    Calls Tryz.prog 171 #[.pointer (some ⟨c, 0, none⟩), .slice (some ⟨e, off, none⟩) dl dc, .slice (some ⟨K, sa, none⟩) l.length sc] w fun r w' => r = .returned (.tuple #[]) ∧ w'.rowIs e 143 N (put F off (b64 l)) ∧ Upd e w w' := by
  go_enter Tryz.func171, Tryz.ntmps171
  · have b0 : ((l.length : Int) == 0) = false := by rw [beq_eq_false_iff_ne]; omega
    go_wp2_with (with_reducible refine wpList_load_arr rfl _ rfl c rfl hc ?_)
    intro av
    go_wp2_with fail
    go_loopw [1, 2] (fun dv sv wr => ∃ (d q : List UInt8) (sa' sc' o' dl' dc' : Nat), l = d ++ q ∧ d.length % 3 = 0 ∧ wr.rowIs e 143 N (put F off (b64 d)) ∧ Upd e w wr ∧ SrcAt wr K sa' q ∧ q.length ≤ sc' ∧ sv = .slice (some ⟨K, sa', none⟩) q.length sc' ∧ dv = .slice (some ⟨e, o', none⟩) dl' dc' ∧ o' = off + (b64 d).length ∧ dl' + (b64 d).length = dl ∧ dc' + (b64 d).length = dc ∧ (K ≠ e ∨ sa' + q.length ≤ off)) (fun _ sv _ => match sv with | .slice _ n _ => n | _ => 0)
    case atStart => exact ⟨[], l, sa, sc, off, dl, dc, rfl, rfl, hr.congr (fun j _ => by unfold put; rw [if_neg (by simp [b64])]), Upd.refl _ _, hs, hsc, rfl, rfl, by simp [b64], by simp [b64], by simp [b64], hK⟩
    case round =>
      clear hr hs
      obtain ⟨d, q, sa', sc', o', dl', dc', hlq, hm3, hr, hu, hs, hqs, rfl, rfl, ho', hdl', hdc', hK2⟩ := hrel
      have hbl := b64_len l
      have hbd := b64_len d
      have hll : l.length = d.length + q.length := by rw [hlq]; simp
      have HLQ := Lib.hid hlq
      have HO := Lib.hid ho'
      have HDL := Lib.hid hdl'
      have HDC := Lib.hid hdc'
      have hoN : o' + dc' ≤ N := by omega
      have hdll : (q.length + 2) / 3 * 4 < dl' := by omega
      have hdlc : dl' ≤ dc' := by omega
      have HBL := Lib.hid hbl
      have HBD := Lib.hid hbd
      have HLL := Lib.hid hll
      clear hlq ho' hdl' hdc' hbl hbd hll
      have hcw : EncAt c wr := hu.row hce hc
      by_cases hq : 3 ≤ q.length
      · obtain ⟨a0, a1, a2, q', hq'⟩ : ∃ a0 a1 a2 q', q = a0 :: a1 :: a2 :: q' := by
          match q, hq with
          | a0 :: a1 :: a2 :: q', _ => exact ⟨a0, a1, a2, q', rfl⟩
        obtain ⟨x, hx⟩ : ∃ x, x = a0.toNat := ⟨_, rfl⟩
        obtain ⟨y, hy⟩ : ∃ y, y = a1.toNat := ⟨_, rfl⟩
        obtain ⟨z, hz⟩ : ∃ z, z = a2.toNat := ⟨_, rfl⟩
        have hx8 : x < 256 := by have := a0.toNat_lt; omega
        have hy8 : y < 256 := by have := a1.toNat_lt; omega
        have hz8 : z < 256 := by have := a2.toNat_lt; omega
        have c0 : wr.cell? ⟨K, sa', none⟩ = some (.int .u8 (x : Int)) := by have := hs 0 (by omega); subst hq'; rw [hx]; exact this
        have c1 : wr.cell? ⟨K, sa' + 1, none⟩ = some (.int .u8 (y : Int)) := by have := hs 1 (by omega); subst hq'; rw [hy]; exact this
        have c2 : wr.cell? ⟨K, sa' + 2, none⟩ = some (.int .u8 (z : Int)) := by have := hs 2 (by omega); subst hq'; rw [hz]; exact this
        have hq0 : 0 < q.length := by omega
        have hq1 : 1 < q.length := by omega
        have hq2 : 2 < q.length := by omega
        have HQ := Lib.hid hq'
        have HX := Lib.hid hx
        have HY := Lib.hid hy
        have HZ := Lib.hid hz
        have e1 := or2 x y hx8 hy8
        have e2 := or3 x y z hx8 hy8 hz8
        obtain ⟨V, hV⟩ : ∃ V, V = x * 65536 + y * 256 + z := ⟨_, rfl⟩
        rw [← hV] at e2
        have hV0 : V < 16777216 := by omega
        have HV := Lib.hid hV
        clear hq' hx hy hz hV
        have w3 : wr.cell? ⟨e, o' + 3, none⟩ = some (put F off (b64 d) (o' + 3)) := hr.cell (by omega)
        have w0 : wr.cell? ⟨e, o', none⟩ = some (put F off (b64 d) o') := hr.cell (by omega)
        have w1 : wr.cell? ⟨e, o' + 1, none⟩ = some (put F off (b64 d) (o' + 1)) := hr.cell (by omega)
        have w2 : wr.cell? ⟨e, o' + 2, none⟩ = some (put F off (b64 d) (o' + 2)) := hr.cell (by omega)
        have z0 := hr.frozen o'
        have z1 := hr.frozen (o' + 1)
        have z2 := hr.frozen (o' + 2)
        have z3 := hr.frozen (o' + 3)
        have hd3 : 3 < dl' := by omega
        have hd2 : 2 < dl' := by omega
        have hd1 : 1 < dl' := by omega
        have hd0 : 0 < dl' := by omega
        have n0 := and63 (V / 262144) (by omega)
        have n1 := and63 (V / 4096) (by omega)
        have n2 := and63 (V / 64) (by omega)
        have n3 := and63 V (by omega)
        simp only [Int.natCast_ediv, Int.cast_ofNat_Int] at n0 n1 n2
        obtain ⟨i0, hi0⟩ : ∃ i, i = V / 262144 % 64 := ⟨_, rfl⟩
        obtain ⟨i1, hi1⟩ : ∃ i, i = V / 4096 % 64 := ⟨_, rfl⟩
        obtain ⟨i2, hi2⟩ : ∃ i, i = V / 64 % 64 := ⟨_, rfl⟩
        obtain ⟨i3, hi3⟩ : ∃ i, i = V % 64 := ⟨_, rfl⟩
        rw [← hi0] at n0
        rw [← hi1] at n1
        rw [← hi2] at n2
        rw [← hi3] at n3
        have k0 : i0 < 64 := by omega
        have k1 : i1 < 64 := by omega
        have k2 : i2 < 64 := by omega
        have k3 : i3 < 64 := by omega
        have l0 := load_alph hcw i0 k0
        have l1 := load_alph hcw i1 k1
        have l2 := load_alph hcw i2 k2
        have l3 := load_alph hcw i3 k3
        have HI0 := Lib.hid hi0
        have HI1 := Lib.hid hi1
        have HI2 := Lib.hid hi2
        have HI3 := Lib.hid hi3
        clear hi0 hi1 hi2 hi3
        have hbq : (3 : Int) ≤ q.length := by omega
        go_wp2_with fail
        go_region
        go_wp2_with fail
        go_roundw
        case rel =>
          have ho := HO.out
          have hq' := HQ.out
          have hm3' : (d ++ [a0, a1, a2]).length % 3 = 0 := by simp; omega
          have hb : b64 (d ++ [a0, a1, a2]) = b64 d ++ [b64c i0, b64c i1, b64c i2, b64c i3] := by
            rw [b64_append _ _ hm3]
            have hx := HX.out
            have hy := HY.out
            have hz := HZ.out
            have hV := HV.out
            simp only [b64, ← hx, ← hy, ← hz]
            rw [show x / 4 = i0 by have := HI0.out; omega, show x % 4 * 16 + y / 16 = i1 by have := HI1.out; omega, show y % 16 * 4 + z / 64 = i2 by have := HI2.out; omega, show z % 64 = i3 by have := HI3.out; omega]
          have hbl2 : (b64 (d ++ [a0, a1, a2])).length = (b64 d).length + 4 := by rw [hb]; simp
          have hql : q.length = q'.length + 3 := by rw [hq']; simp
          have hs' : SrcAt wr K (sa' + 3) q' := by
            intro j hj
            have := hs (j + 3) (by omega)
            simp only [hq', List.getElem_cons_succ] at this
            rw [show sa' + 3 + j = sa' + (j + 3) by omega]; exact this
          refine ⟨d ++ [a0, a1, a2], q', if sc' = 3 then sa' else sa' + 3, sc' - 3, o' + 4, dl' - 4, dc' - 4, ?_, hm3', ?_, ?_, ?_, by omega, ?_, rfl, by omega, ?_, ?_, ?_⟩
          · rw [HLQ.out, hq']; simp
          · rw [hb]; exact (put4 hr ho _ _ _ _).drew
          · exact (upd4 hu _ _ _ _).drew
          · by_cases h3 : sc' = 3
            · obtain rfl : q' = [] := List.length_eq_zero_iff.1 (by omega)
              intro j hj; simp at hj
            · rw [if_neg h3]
              exact src4 hs' (by omega) _ _ _ _
          · by_cases h3 : sc' = 3
            · rw [if_pos h3, if_pos h3, hql]; simp
            · rw [if_neg h3, if_neg h3, hql]; simp
          · rw [hbl2]; have := HDL.out; omega
          · rw [hbl2]; have := HDC.out; omega
          · by_cases h3 : sc' = 3
            · rw [if_pos h3]; omega
            · rw [if_neg h3]; omega
        case measure => simp only []; omega
      · clear hdc hN hpos hK hsc
        have hcases : q.length = 0 ∨ q.length = 1 ∨ q.length = 2 := by omega
        rcases hcases with h0 | h1 | h2
        · have hqn : q = [] := List.length_eq_zero_iff.1 h0
          rw [h0]
          clear h0 hq
          go_wp2
          try rw [Exit.noGoto_ret]
          refine bodyPost_ret (results_none rfl _ _ _) rfl ?_
          have : l = d := by rw [HLQ.out, hqn]; simp
          rw [this]
          exact ⟨rfl, hr, hu⟩
        · obtain ⟨a0, hq'⟩ : ∃ a0, q = [a0] := by
            match q, h1 with
            | [a0], _ => exact ⟨a0, rfl⟩
          obtain ⟨x, hx⟩ : ∃ x, x = a0.toNat := ⟨_, rfl⟩
          have hx8 : x < 256 := by have := a0.toNat_lt; omega
          have c0 : wr.cell? ⟨K, sa', none⟩ = some (.int .u8 (x : Int)) := by have := hs 0 (by omega); subst hq'; rw [hx]; exact this
          rw [h1] at hdll hqs ⊢
          have HQ := Lib.hid hq'
          have HX := Lib.hid hx
          clear h1 hq' hx hq
          have w0 : wr.cell? ⟨e, o', none⟩ = some (put F off (b64 d) o') := hr.cell (by omega)
          have w1 : wr.cell? ⟨e, o' + 1, none⟩ = some (put F off (b64 d) (o' + 1)) := hr.cell (by omega)
          have w2 : wr.cell? ⟨e, o' + 2, none⟩ = some (put F off (b64 d) (o' + 2)) := hr.cell (by omega)
          have w3 : wr.cell? ⟨e, o' + 3, none⟩ = some (put F off (b64 d) (o' + 3)) := hr.cell (by omega)
          have z0 := hr.frozen o'
          have z1 := hr.frozen (o' + 1)
          have z2 := hr.frozen (o' + 2)
          have z3 := hr.frozen (o' + 3)
          have hd3 : 3 < dl' := by omega
          have hd2 : 2 < dl' := by omega
          have hd1 : 1 < dl' := by omega
          have hd0 : 0 < dl' := by omega
          have hpad := hcw.pad
          have n0 := and63 (x * 65536 / 262144) (by omega)
          have n1 := and63 (x * 65536 / 4096) (by omega)
          simp only [Int.natCast_ediv, Int.cast_ofNat_Int, Int.natCast_mul] at n0 n1
          obtain ⟨i0, hi0⟩ : ∃ i, i = x * 65536 / 262144 % 64 := ⟨_, rfl⟩
          obtain ⟨i1, hi1⟩ : ∃ i, i = x * 65536 / 4096 % 64 := ⟨_, rfl⟩
          rw [← hi0] at n0
          rw [← hi1] at n1
          have k0 : i0 < 64 := by omega
          have k1 : i1 < 64 := by omega
          have l0 := load_alph hcw i0 k0
          have l1 := load_alph hcw i1 k1
          have HI0 := Lib.hid hi0
          have HI1 := Lib.hid hi1
          clear hi0 hi1
          go_wp2
          go_end0
          have ho := HO.out
          have hb : b64 l = b64 d ++ [b64c i0, b64c i1, 61, 61] := by
            rw [HLQ.out, HQ.out, b64_append _ _ hm3]
            have hx := HX.out
            simp only [b64, ← hx]
            rw [show x / 4 = i0 by have := HI0.out; omega, show x % 4 * 16 = i1 by have := HI1.out; omega]
          rw [hb]
          exact ⟨rfl, put4 hr ho _ _ 61 61, upd4 hu _ _ _ _⟩
        · obtain ⟨a0, a1, hq'⟩ : ∃ a0 a1, q = [a0, a1] := by
            match q, h2 with
            | [a0, a1], _ => exact ⟨a0, a1, rfl⟩
          obtain ⟨x, hx⟩ : ∃ x, x = a0.toNat := ⟨_, rfl⟩
          obtain ⟨y, hy⟩ : ∃ y, y = a1.toNat := ⟨_, rfl⟩
          have hx8 : x < 256 := by have := a0.toNat_lt; omega
          have hy8 : y < 256 := by have := a1.toNat_lt; omega
          have c0 : wr.cell? ⟨K, sa', none⟩ = some (.int .u8 (x : Int)) := by have := hs 0 (by omega); subst hq'; rw [hx]; exact this
          have c1 : wr.cell? ⟨K, sa' + 1, none⟩ = some (.int .u8 (y : Int)) := by have := hs 1 (by omega); subst hq'; rw [hy]; exact this
          rw [h2] at hdll hqs ⊢
          have HQ := Lib.hid hq'
          have HX := Lib.hid hx
          have HY := Lib.hid hy
          clear h2 hq' hx hy hq
          have w0 : wr.cell? ⟨e, o', none⟩ = some (put F off (b64 d) o') := hr.cell (by omega)
          have w1 : wr.cell? ⟨e, o' + 1, none⟩ = some (put F off (b64 d) (o' + 1)) := hr.cell (by omega)
          have w2 : wr.cell? ⟨e, o' + 2, none⟩ = some (put F off (b64 d) (o' + 2)) := hr.cell (by omega)
          have w3 : wr.cell? ⟨e, o' + 3, none⟩ = some (put F off (b64 d) (o' + 3)) := hr.cell (by omega)
          have z0 := hr.frozen o'
          have z1 := hr.frozen (o' + 1)
          have z2 := hr.frozen (o' + 2)
          have z3 := hr.frozen (o' + 3)
          have hd3 : 3 < dl' := by omega
          have hd2 : 2 < dl' := by omega
          have hd1 : 1 < dl' := by omega
          have hd0 : 0 < dl' := by omega
          have hpad := hcw.pad
          have e2 := or2 x y hx8 hy8
          obtain ⟨V, hV⟩ : ∃ V, V = x * 65536 + y * 256 := ⟨_, rfl⟩
          have hV2 : (x : Int) * 65536 + (y : Int) * 256 = (V : Int) := by omega
          rw [hV2] at e2
          have hV0 : V < 16777216 := by omega
          have HV := Lib.hid hV
          clear hV hV2
          have n0 := and63 (V / 262144) (by omega)
          have n1 := and63 (V / 4096) (by omega)
          have n2 := and63 (V / 64) (by omega)
          simp only [Int.natCast_ediv, Int.cast_ofNat_Int] at n0 n1 n2
          obtain ⟨i0, hi0⟩ : ∃ i, i = V / 262144 % 64 := ⟨_, rfl⟩
          obtain ⟨i1, hi1⟩ : ∃ i, i = V / 4096 % 64 := ⟨_, rfl⟩
          obtain ⟨i2, hi2⟩ : ∃ i, i = V / 64 % 64 := ⟨_, rfl⟩
          rw [← hi0] at n0
          rw [← hi1] at n1
          rw [← hi2] at n2
          have k0 : i0 < 64 := by omega
          have k1 : i1 < 64 := by omega
          have k2 : i2 < 64 := by omega
          have l0 := load_alph hcw i0 k0
          have l1 := load_alph hcw i1 k1
          have l2 := load_alph hcw i2 k2
          have HI0 := Lib.hid hi0
          have HI1 := Lib.hid hi1
          have HI2 := Lib.hid hi2
          clear hi0 hi1 hi2
          go_wp2_with fail
          go_region
          go_wp2
          go_end0
          have ho := HO.out
          have hb : b64 l = b64 d ++ [b64c i0, b64c i1, b64c i2, 61] := by
            rw [HLQ.out, HQ.out, b64_append _ _ hm3]
            have hx := HX.out
            have hy := HY.out
            have hV := HV.out
            simp only [b64, ← hx, ← hy]
            rw [show x / 4 = i0 by have := HI0.out; omega, show x % 4 * 16 + y / 16 = i1 by have := HI1.out; omega, show y % 16 * 4 = i2 by have := HI2.out; omega]
          rw [hb]
          exact ⟨rfl, (put4 hr ho _ _ _ 61).drew, (upd4 hu _ _ _ _).drew⟩
end Go.Proofs.YtbigjdlcmlopcaaGreatDoor
