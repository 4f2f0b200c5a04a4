import Derived.Test.YtbigjdlcmlopcaaGreatDoorP
import Derived.StillTailTactics
import Derived.Deep.RegionHeld3
import Derived.IntWalk
namespace Go.Proofs.YtbigjdlcmlopcaaGreatDoor
open Go.RowKit

/-- The base64 stream writer's four words. -/
def EncdF (F : Nat → Value) (c bb n : Nat) : Prop := F 0 = .nilIface ∧ F 1 = .pointer (some ⟨c, 0, none⟩) ∧ F 2 = .iface 79 (.pointer (some ⟨bb, 0, none⟩)) ∧ F 6 = .int .i64 n

set_option maxRecDepth 100000 in
set_option maxHeartbeats 3200000 in
theorem f78 {w : World} (c bb : Nat) : Calls Tryz.prog 78 #[.pointer (some ⟨c, 0, none⟩), .iface 79 (.pointer (some ⟨bb, 0, none⟩))] w fun r w' => r = .returned (.iface 139 (.pointer (some ⟨w.heap.size, 0, none⟩))) ∧ Below w.heap.size w w' ∧ ∃ F, w'.rowIs w.heap.size 143 1031 F ∧ EncdF F c bb 0 := by
  go_enter Tryz.func78, Tryz.ntmps78
  go_wp2_with fail
  go_ret
  refine ⟨rfl, (Below.refl _ _).alloc (Nat.le_refl _) _, fun i => ((Tryz.zeroCells143.setIfInBounds 1 (Value.pointer (some { block := c, off := 0 }))).setIfInBounds 2 (Value.iface 79 (Value.pointer (some { block := bb, off := 0 }))))[i]?.getD default, ?_, ?_, ?_, ?_, ?_⟩
  · have := World.rowIs_alloc w ((Tryz.zeroCells143.setIfInBounds 1 (Value.pointer (some { block := c, off := 0 }))).setIfInBounds 2 (Value.iface 79 (Value.pointer (some { block := bb, off := 0 })))) 143 (fun i => ((Tryz.zeroCells143.setIfInBounds 1 (Value.pointer (some { block := c, off := 0 }))).setIfInBounds 2 (Value.iface 79 (Value.pointer (some { block := bb, off := 0 }))))[i]?.getD default) (fun i hi => by rw [Array.getElem?_eq_getElem hi]; rfl)
    exact this
  · rfl
  · rfl
  · rfl
  · rfl

theorem srcAt_upd {w w' : World} {g K a : Nat} {l : List UInt8} (h : SrcAt w K a l) (hu : Upd g w w') (hK : K ≠ g) : SrcAt w' K a l := fun j hj => by
  rw [← h j hj]; unfold World.cell?; rw [hu.other K hK]
theorem srcAt_of_block {w w' : World} {K a : Nat} {l : List UInt8} (h : SrcAt w K a l) (e : w'.heap[K]? = w.heap[K]?) : SrcAt w' K a l := fun j hj => by
  rw [← h j hj]; unfold World.cell?; rw [e]
theorem Marked.ne {K e : Nat} {w : World} (h : Marked K w) {t : TypeId} {n : Nat} {f : Nat → Value} (hr : w.rowIs e t n f) (ht : t ≠ 5) : K ≠ e := by
  intro e2
  subst e2
  obtain ⟨c, fz, hc, _⟩ := h
  obtain ⟨c2, hc2, -⟩ := hr
  rw [hc] at hc2
  simp at hc2
  exact ht hc2.2.1.symm
theorem Marked.of {K : Nat} {w w' : World} (h : Marked K w) (e : w'.heap[K]? = w.heap[K]?) : Marked K w' := by
  obtain ⟨c, fz, hc, hm⟩ := h
  exact ⟨c, fz, e.trans hc, hm⟩

/-- copy(dst, src), two slices of bytes in two blocks. -/
theorem wpList_copy_sl {P : Program} {w : World} {ops : Array Oper} {rest : List Oper} {o : Oper} {a : Act} {Q : Exit → Act → World → Prop} (hgd : o.guard = none) (d x : Operand) (dT sT : TypeId)
    (ho : o.op = .call { callee := .builtin .copy, args := #[d, x], argTypes := #[dT, sT] }) (elem : TypeId) (hu : P.underlying dT = some (.slice elem)) (hz : (P.info? elem).map (·.size) = some 1)
    (g off dLen dCap : Nat) (hd : a.eval d = .slice (some ⟨g, off, none⟩) dLen dCap) (K sa sc : Nat) (l : List UInt8) (hx : a.eval x = .slice (some ⟨K, sa, none⟩) l.length sc) (ty : TypeId) (n : Nat) (f : Nat → Value) (hle : l.length ≤ dLen)
    (hr : w.rowIs g ty n f) (hn : off + l.length ≤ n) (hs : SrcAt w K sa l)
    (h : ∀ w', w'.rowIs g ty n (put f off l) → Upd g w w' → wpList P ops Q rest (a.put o.dst (.int .i64 (l.length : Int))) w') : wpList P ops Q (o :: rest) a w := by
  refine wpList_plain hgd fun K' hK => ?_
  have hl : (Lib.byteCells l).length = l.length := Lib.byteCells_length l
  have hrun := run_copy_cells (P := P) w dT sT o.type elem g off dLen dCap ⟨K, sa, none⟩ l.length sc (Lib.byteCells l) hu hz (by rw [hl]; exact (Nat.min_eq_left hle).symm)
    (fun j u hj => by
      obtain ⟨hj', rfl⟩ := byteCells_mem l j u hj
      have hadd : (⟨K, sa, none⟩ : Addr).add j = ⟨K, sa + j, none⟩ := by unfold Addr.add; split <;> simp_all
      rw [hadd]; exact hs j hj')
    (fun j hj => by rw [hl] at hj; rw [hr.cell (by omega)]; rfl) (fun j _ => hr.frozen _) (fun u hu' => by
      obtain ⟨j, hj⟩ := List.mem_iff_getElem?.1 hu'
      obtain ⟨hj', rfl⟩ := byteCells_mem l j u hj
      rfl)
  rw [hl] at hrun
  have hK2 := hK _ _ (h _ ((rowIs_setCells (Lib.byteCells l) off w f hr).congr (fun i hi => by
    simp only [hl]
    unfold put
    by_cases h1 : off ≤ i ∧ i < off + l.length
    · rw [if_pos h1, if_pos h1]
      unfold Lib.byteCells
      rw [List.getElem?_map, List.getElem?_eq_getElem (by omega)]; rfl
    · rw [if_neg h1, if_neg h1])) (Upd.setCells _ off (Upd.refl g w)))
  unfold Oper.wp execOp
  simp only [ho, resolve, invoke, builtin, Sem.run_bind, Sem.run_pure, Result.andThen_ok, List.map_toArray, List.map_cons, List.map_nil, hd, hx, hrun]
  exact hK2

theorem srcAt_put {w : World} {e off N : Nat} {F : Nat → Value} {o : List UInt8} (h : w.rowIs e 143 N (put F off o)) (hN : off + o.length ≤ N) : SrcAt w e off o := fun j hj => by
  rw [h.cell (by omega)]; unfold put
  rw [if_pos (by omega), Nat.add_sub_cancel_left, List.getElem?_eq_getElem hj]; rfl
theorem othersKept_row {w w' : World} {bb g : Nat} {t : TypeId} {n : Nat} {f : Nat → Value} (h : Lib.OthersKept 5 (some bb) w w') (hr : w.rowIs g t n f) (ht : t ≠ 5) (hg : g ≠ bb) : w'.heap[g]? = w.heap[g]? := by
  obtain ⟨c, hc, -⟩ := hr
  rw [hc]
  exact h g _ hc (by simpa using hg) (fun c' fz e => by simp at e; exact ht e.2.1)
/-- The stream writer hands its bytes to the builder. -/
theorem write_enc {B bb : Nat} {l : List UInt8} {w : World} {e K c n : Nat} {F : Nat → Value} {o : List UInt8} (hI : Lib.IsBuilderF 81 5 B bb (Lib.byteCells l) w) (hr : w.rowIs e 143 1031 F) (hc : EncAt c w) (hKm : Marked K w) (hs : SrcAt w e 7 o) (heb : e ≠ bb) (ho : 0 < o.length) (hl : l.length + o.length ≤ 1073741820) (hB : B ≤ w.heap.size) :
    Calls Tryz.prog 121 #[.pointer (some ⟨bb, 0, none⟩), .slice (some ⟨e, 7, none⟩) o.length n] w fun r w' => r = .returned (.tuple #[.int .i64 o.length, .nilIface]) ∧ Wrote B bb (l ++ o) w w' ∧ w'.heap[K]? = w.heap[K]? ∧ w'.heap[e]? = w.heap[e]? ∧ w'.heap[c]? = w.heap[c]? ∧ w'.cell? ⟨e, 2, none⟩ = some (F 2) ∧ w'.cell? ⟨e, 0, none⟩ = some (F 0) ∧ w'.frozen? ⟨e, 0, none⟩ = false := by
  refine (f121 hI e 7 n o hs heb ho hl hB).mono ?_
  rintro r w' ⟨rfl, hW, hk⟩
  have he := othersKept_row hW.2.2 hr (by decide) heb
  have hcb : c ≠ bb := by
    intro h; subst h
    obtain ⟨c1, h1, -⟩ := hc
    rcases hI with ⟨_, v, h2, -⟩ | ⟨_, v, h2, -⟩ <;> (rw [h1] at h2; simp at h2)
  have hr' : w'.rowIs e 143 1031 F := hr.of_block he
  exact ⟨rfl, hW, hk K hKm, he, othersKept_row hW.2.2 hc (by decide) hcb, hr'.cell (by omega), hr'.cell (by omega), hr'.frozen _⟩

theorem info5 : (Tryz.prog.info? 5).map (·.size) = some 1 := by kernel_rfl

set_option maxRecDepth 100000 in
set_option maxHeartbeats 6400000 in
/-- encoder.Write, nothing left over. -/
theorem f170 {B bb : Nat} {l : List UInt8} {w : World} (c e K sc : Nat) (F : Nat → Value) (p : List UInt8) (hI : Lib.IsBuilderF 81 5 B bb (Lib.byteCells l) w) (hr : w.rowIs e 143 1031 F) (hF : EncdF F c bb 0) (hc : EncAt c w) (hs : SrcAt w K 0 p) (hKm : Marked K w)
    (hsc : p.length ≤ sc) (hp : p.length ≤ 45) (hl : l.length ≤ 1073741000) (hB : B ≤ w.heap.size) (heb : e ≠ bb) (hBe : B ≤ e) :
    Calls Tryz.prog 170 #[.pointer (some ⟨e, 0, none⟩), .slice (some ⟨K, 0, none⟩) p.length sc] w fun r w' => r = .returned (.tuple #[.int .i64 p.length, .nilIface]) ∧ ∃ d q F', p = d ++ q ∧ d.length % 3 = 0 ∧ q.length < 3 ∧ Lib.IsBuilderF 81 5 B bb (Lib.byteCells (l ++ b64 d)) w' ∧ Below B w w' ∧ EncAt c w' ∧ w'.rowIs e 143 1031 F' ∧ EncdF F' c bb q.length ∧ ∀ j (h : j < q.length), F' (3 + j) = .int .u8 (q[j].toNat : Int) := by
  have k0 := hr.cell (i := 0) (by omega)
  have k1 := hr.cell (i := 1) (by omega)
  have k2 := hr.cell (i := 2) (by omega)
  have k6 := hr.cell (i := 6) (by omega)
  rw [hF.1] at k0
  rw [hF.2.1] at k1
  rw [hF.2.2.1] at k2
  rw [hF.2.2.2] at k6
  go_enter Tryz.func170, Tryz.ntmps170
  go_wp2_with fail
  clear k0 k1 k2 k6
  go_loopw [1, 4, 5, 7] (fun pv nv ev nn wr => ∃ (d q : List UInt8) (sa sc' : Nat) (F' : Nat → Value), p = d ++ q ∧ pv = .slice (some ⟨K, sa, none⟩) q.length sc' ∧ nv = .int .i64 d.length ∧ ev = .nilIface ∧ d.length % 3 = 0 ∧ (d = [] ∨ q.length < 3) ∧
      Lib.IsBuilderF 81 5 B bb (Lib.byteCells (l ++ b64 d)) wr ∧ Below B w wr ∧ EncAt c wr ∧ wr.rowIs e 143 1031 F' ∧ EncdF F' c bb 0 ∧ SrcAt wr K sa q ∧ Marked K wr ∧ q.length ≤ sc') (fun pv _ _ _ _ => match pv with | .slice _ n _ => n | _ => 0)
  case atStart => exact ⟨[], p, 0, sc, F, rfl, rfl, rfl, rfl, rfl, .inl rfl, by simpa [b64] using hI, Below.refl _ _, hc, hr, hF, hs, hKm, hsc⟩
  case round =>
    clear hI hr hc hs hKm
    obtain ⟨d, q, sa, sc', F', hpq, rfl, rfl, rfl, hd3, hdq, hI, hb, hc, hr, hF, hs, hKm, hsc⟩ := hrel
    have hpl : p.length = d.length + q.length := by rw [hpq]; simp
    have hbd := b64_len d
    have HPQ := Lib.hid hpq
    have HF := Lib.hid hF
    have HDQ := Lib.hid hdq
    have k0 := hr.cell (i := 0) (by omega)
    have k1 := hr.cell (i := 1) (by omega)
    have k2 := hr.cell (i := 2) (by omega)
    have k6 := hr.cell (i := 6) (by omega)
    rw [hF.1] at k0
    rw [hF.2.1] at k1
    rw [hF.2.2.1] at k2
    rw [hF.2.2.2] at k6
    have HPL := Lib.hid hpl
    have HBD := Lib.hid hbd
    have hql : q.length ≤ 45 := by omega
    have hdl : d.length ≤ 45 := by omega
    clear hpq hF hdq hpl hbd
    by_cases h3 : 3 ≤ q.length
    · obtain ⟨d2, q2, hq2, hd2⟩ : ∃ d2 q2, q = d2 ++ q2 ∧ d2.length = q.length / 3 * 3 := ⟨q.take (q.length / 3 * 3), q.drop (q.length / 3 * 3), (List.take_append_drop _ _).symm, by rw [List.length_take]; omega⟩
      have hm1 : d2.length ≤ q.length := by omega
      have hm2 : (q.length : Int) - q.length % 3 = d2.length := by omega
      have hm3 : 3 ≤ d2.length := by omega
      have hmc : d2.length ≤ sc' := by omega
      have hs2 : SrcAt wr K sa d2 := fun j hj => by
        have := hs j (by omega)
        simp only [hq2, List.getElem_append_left hj] at this
        exact this
      have hbd2 := b64_len d2
      have HD2 := Lib.hid hd2
      have HQ2 := Lib.hid hq2
      have hb2 : 0 < (b64 d2).length := by omega
      have hb3 : (b64 d2).length ≤ 60 := by omega
      have hKe := hKm.ne hr (by decide)
      have hce : c ≠ e := by
        intro h; subst h
        obtain ⟨c1, h1, -⟩ := hc
        obtain ⟨c2, h2, -⟩ := hr
        rw [h1] at h2; simp at h2
      have HB2 := Lib.hid hbd2
      clear hd2 hq2 hbd2
      go_wp2_with fail
      go_still_tail 11, (by kernel_rfl)
      change wpList _ _ _ _ _ wr.drew
      go_wp2_with fail
      refine (f171 (w := wr.drew) c e 1031 7 1024 1024 K sa sc' F' d2 hc hce hr hs2 (by omega) (by omega) (by omega) (.inl hKe) hmc (by omega) (by omega)).mono ?_
      rintro r w1 ⟨rfl, hr1, hu⟩
      have hu2 : Upd e wr w1 := ⟨hu.other, hu.size, hu.os, hu.tape, hu.output⟩
      have hI1 := bld_upd hI hu2 hr (by decide) heb
      have hb1 := hb.trans (hu2.below hBe)
      have hc1 := hu2.row hce hc
      have hs1 := srcAt_upd hs hu2 hKe
      have hKm1 := hKm.of (hu2.other K hKe)
      have B1 := hb1.size
      have e2 : w1.cell? ⟨e, 2, none⟩ = some (.iface 79 (.pointer (some ⟨bb, 0, none⟩))) := by rw [hr1.cell (by omega)]; unfold put; rw [if_neg (by omega), HF.out.2.2.1]
      have e2' : (put F' 7 (b64 d2)) 2 = .iface 79 (.pointer (some ⟨bb, 0, none⟩)) := by unfold put; rw [if_neg (by omega), HF.out.2.2.1]
      clear hr hI hb hs hs2 hKm hc hu hu2 k0 k1 k2 k6
      go_wp2_with fail
      have nq : IntKind.i64.wrap (IntKind.i64.wrap ((d2.length : Int) / 3) * 4) = ((b64 d2).length : Int) := by
        have h1 := HB2.out
        have h2 := HD2.out
        rw [IntWalk.i64_in ((d2.length : Int) / 3) (by omega), IntWalk.i64_in _ (by omega)]
        omega
      have nq1 : ((b64 d2).length : Int) ≤ 1024 := by omega
      have nq2 : (b64 d2).length ≤ 1024 := by omega
      have hsrc : SrcAt w1.drew e 7 (b64 d2) := srcAt_put hr1 (by omega)
      have HW := write_enc (w := w1.drew) (e := e) (K := K) (c := c) (n := 1024) hI1 hr1 hc1 hKm1 hsrc heb hb2 (by simp; have := HBD.out; have := HPL.out; omega) (Nat.le_trans hB B1)
      rw [e2'] at HW
      go_region_held3 (fun w' => w'.cell? ⟨e, 2, none⟩ = some (.iface 79 (.pointer (some ⟨bb, 0, none⟩)))) (first | assumption | (rw [World.cell?_setCell_other _ _ _ _ (by simp)]; assumption))
        (first | (go_at_call 121; refine HW.mono ?_; rintro r w2 ⟨rfl, hW, hKk, hek, hck, q2, q0, qf⟩))
      have hb2' : (b64 d2).length ≤ 1024 := by omega
      have hrA : w2.rowIs e 143 1031 (put F' 7 (b64 d2)) := hr1.of_block hek
      obtain ⟨G, hGd⟩ : ∃ G : Nat → Value, G = fun j => if j = 0 then Value.nilIface else put F' 7 (b64 d2) j := ⟨_, rfl⟩
      have hrB : (w2.setCell ⟨e, 0, none⟩ .nilIface).rowIs e 143 1031 G := by rw [hGd]; exact hrA.set 0 .nilIface
      have hG : EncdF G c bb 0 := by
        subst hGd
        refine ⟨rfl, ?_, e2', ?_⟩
        · show put F' 7 (b64 d2) 1 = _; unfold put; rw [if_neg (by omega), HF.out.2.1]
        · show put F' 7 (b64 d2) 6 = _; unfold put; rw [if_neg (by omega), HF.out.2.2.2]
      have hu3 := (Upd.refl e w2).setCell ⟨e, 0, none⟩ rfl .nilIface
      have hI3 := bld_upd hW.1 hu3 hrA (by decide) heb
      have hb3 := (hb1.drew.trans hW.2.1).trans (hu3.below hBe)
      have hc3 : EncAt c (w2.setCell ⟨e, 0, none⟩ .nilIface) := hu3.row hce (hc1.of_block hck)
      have hs3 := srcAt_upd (srcAt_of_block hs1 hKk) hu3 hKe
      have hKm3 := (hKm1.of hKk).of (hu3.other K hKe)
      have g0 := hrB.cell (i := 0) (by omega)
      have g6 := hrB.cell (i := 6) (by omega)
      rw [hG.1] at g0
      rw [hG.2.2.2] at g6
      have HG := Lib.hid hG
      clear hr1 hI1 hb1 hc1 hs1 hKm1 HW hW hKk hek hck q2 q0 qf hrA hu3 hsrc nq e2 e2' hG hGd
      generalize w2.setCell ⟨e, 0, none⟩ .nilIface = w3 at *
      go_wp2_with fail
      go_roundw
      case rel =>
        have hd2 := HD2.out
        have hq2 := HQ2.out
        have hqq : q.length = d2.length + q2.length := by rw [hq2]; simp
        refine ⟨d ++ d2, q2, if sc' = d2.length then sa else sa + d2.length, sc' - d2.length, G, ?_, ?_, ?_, rfl, ?_, .inr (by omega), ?_, hb3, hc3, hrB, HG.out, ?_, hKm3, by omega⟩
        · rw [HPQ.out, hq2]; simp
        · rw [show q.length - d2.length = q2.length by omega]; split <;> rfl
        · rw [List.length_append]; go_num
        · rw [List.length_append]; omega
        · rw [b64_append _ _ hd3]; simpa using hI3
        · by_cases hz : sc' = d2.length
          · obtain rfl : q2 = [] := List.length_eq_zero_iff.1 (by omega)
            intro j hj; simp at hj
          · rw [if_neg hz]
            intro j hj
            have := hs3 (d2.length + j) (by omega)
            simp only [hq2] at this
            rw [List.getElem_append_right (by omega)] at this
            simp only [Nat.add_sub_cancel_left] at this
            rw [Nat.add_assoc]; exact this
      case measure => simp only []; omega
    · have hKe := hKm.ne hr (by decide)
      have hce : c ≠ e := by
        intro h; subst h
        obtain ⟨c1, h1, -⟩ := hc
        obtain ⟨c2, h2, -⟩ := hr
        rw [h1] at h2; simp at h2
      go_wp2_with (with_reducible refine wpList_copy_sl rfl _ _ _ _ rfl 5 Tryz.underlying74 info5 e 3 3 3 rfl K sa sc' q rfl 143 1031 F' (by omega) hr (by omega) hs ?_)
      intro w1 hr1 hu
      have hI1 := bld_upd hI hu hr (by decide) heb
      have hb1 := hb.trans (hu.below hBe)
      have hc1 := hu.row hce hc
      have e6 : w1.cell? ⟨e, 6, none⟩ = some (.int .i64 0) := by rw [hr1.cell (by omega)]; unfold put; rw [if_neg (by omega), HF.out.2.2.2]; rfl
      have z6 := hr1.frozen 6
      have hr2 := hr1.set 6 (.int .i64 q.length)
      have hu2 := (Upd.refl e w1).setCell ⟨e, 6, none⟩ rfl (.int .i64 q.length)
      have hI2 := bld_upd hI1 hu2 hr1 (by decide) heb
      have hb2 := hb1.trans (hu2.below hBe)
      have hc2 : EncAt c _ := hu2.row hce hc1
      clear hr hI hb hc hu hs hKm k0 k1 k2 k6 hI1 hb1 hc1 hu2
      go_wp2
      go_ret2
      refine ⟨?_, d, q, _, HPQ.out, hd3, by omega, hI2, hb2, hc2, hr2, ⟨?_, ?_, ?_, rfl⟩, ?_⟩
      · have e1 : (d.length : Int) + q.length = p.length := by have := HPL.out; omega
        simp [e1]
      · show put F' 3 q 0 = _; unfold put; rw [if_neg (by omega), HF.out.1]
      · show put F' 3 q 1 = _; unfold put; rw [if_neg (by omega), HF.out.2.1]
      · show put F' 3 q 2 = _; unfold put; rw [if_neg (by omega), HF.out.2.2.1]
      · intro j hj
        show (if 3 + j = 6 then _ else put F' 3 q (3 + j)) = _
        rw [if_neg (by omega)]; unfold put
        rw [if_pos (by omega), Nat.add_sub_cancel_left, List.getElem?_eq_getElem hj]; rfl
end Go.Proofs.YtbigjdlcmlopcaaGreatDoor
