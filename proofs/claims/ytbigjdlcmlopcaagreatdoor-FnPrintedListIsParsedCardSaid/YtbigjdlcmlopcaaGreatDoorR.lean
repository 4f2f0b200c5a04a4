import Derived.Test.YtbigjdlcmlopcaaGreatDoorQ
namespace Go.Proofs.YtbigjdlcmlopcaaGreatDoor
open Go.RowKit

theorem enc_ne {c e : Nat} {w : World} {F : Nat → Value} (hc : EncAt c w) (hr : w.rowIs e 143 1031 F) : c ≠ e := by
  intro h; subst h
  obtain ⟨c1, h1, -⟩ := hc
  obtain ⟨c2, h2, -⟩ := hr
  rw [h1] at h2; simp at h2

/-- The stream writer hands its last bytes to the builder. -/
theorem write_enc0 {B bb : Nat} {l : List UInt8} {w : World} {e c n : Nat} {F : Nat → Value} {o : List UInt8} (hI : Lib.IsBuilderF 81 5 B bb (Lib.byteCells l) w) (hr : w.rowIs e 143 1031 F) (hc : EncAt c w) (hs : SrcAt w e 7 o) (heb : e ≠ bb) (ho : 0 < o.length) (hl : l.length + o.length ≤ 1073741820) (hB : B ≤ w.heap.size) :
    Calls Tryz.prog 121 #[.pointer (some ⟨bb, 0, none⟩), .slice (some ⟨e, 7, none⟩) o.length n] w fun r w' => r = .returned (.tuple #[.int .i64 o.length, .nilIface]) ∧ Wrote B bb (l ++ o) w w' ∧ w'.heap[e]? = w.heap[e]? ∧ w'.heap[c]? = w.heap[c]? ∧ w'.cell? ⟨e, 1, none⟩ = some (F 1) ∧ w'.cell? ⟨e, 2, none⟩ = some (F 2) ∧ w'.cell? ⟨e, 6, none⟩ = some (F 6) ∧ w'.cell? ⟨e, 0, none⟩ = some (F 0) ∧ w'.frozen? ⟨e, 0, none⟩ = false := by
  refine (f121 hI e 7 n o hs heb ho hl hB).mono ?_
  rintro r w' ⟨rfl, hW, hk⟩
  have he := othersKept_row hW.2.2 hr (by decide) heb
  have hcb : c ≠ bb := by
    intro h; subst h
    obtain ⟨c1, h1, -⟩ := hc
    rcases hI with ⟨_, v, h2, -⟩ | ⟨_, v, h2, -⟩ <;> (rw [h1] at h2; simp at h2)
  have hr' : w'.rowIs e 143 1031 F := hr.of_block he
  exact ⟨rfl, hW, he, othersKept_row hW.2.2 hc (by decide) hcb, hr'.cell (by omega), hr'.cell (by omega), hr'.cell (by omega), hr'.cell (by omega), hr'.frozen _⟩

set_option maxRecDepth 100000 in
set_option maxHeartbeats 6400000 in
/-- encoder.Close. -/
theorem f169 {B bb : Nat} {l : List UInt8} {w : World} (c e : Nat) (F : Nat → Value) (q : List UInt8) (hI : Lib.IsBuilderF 81 5 B bb (Lib.byteCells l) w) (hr : w.rowIs e 143 1031 F) (hF : EncdF F c bb q.length) (hc : EncAt c w) (hq : ∀ j (h : j < q.length), F (3 + j) = .int .u8 (q[j].toNat : Int))
    (hq3 : q.length < 3) (hl : l.length ≤ 1073741000) (hB : B ≤ w.heap.size) (heb : e ≠ bb) (hBe : B ≤ e) :
    Calls Tryz.prog 169 #[.pointer (some ⟨e, 0, none⟩)] w fun r w' => r = .returned .nilIface ∧ ∃ F', Lib.IsBuilderF 81 5 B bb (Lib.byteCells (l ++ b64 q)) w' ∧ Below B w w' ∧ EncAt c w' ∧ w'.rowIs e 143 1031 F' ∧ EncdF F' c bb 0 := by
  have k0 := hr.cell (i := 0) (by omega)
  have k1 := hr.cell (i := 1) (by omega)
  have k2 := hr.cell (i := 2) (by omega)
  have k6 := hr.cell (i := 6) (by omega)
  rw [hF.1] at k0
  rw [hF.2.1] at k1
  rw [hF.2.2.1] at k2
  rw [hF.2.2.2] at k6
  have HF := Lib.hid hF
  clear hF
  by_cases h0 : q.length = 0
  · rw [h0] at k6
    go_enter Tryz.func169, Tryz.ntmps169
    go_wp2
    go_ret
    have : q = [] := List.length_eq_zero_iff.1 h0
    subst this
    exact ⟨rfl, F, by simpa [b64] using hI, Below.refl _ _, hc, hr, HF.out⟩
  · have hb0 : (0 : Int) < q.length := by omega
    have hqc : q.length ≤ 3 := by omega
    have hqc2 : (q.length : Int) ≤ 3 := by omega
    have hs : SrcAt w e 3 q := fun j hj => by rw [hr.cell (by omega), hq j hj]
    have hbq := b64_len q
    have hb1 : (b64 q).length = 4 := by omega
    have hce := enc_ne hc hr
    have HBQ := Lib.hid hbq
    clear hbq
    go_enter Tryz.func169, Tryz.ntmps169
    go_wp2_with fail
    go_still_tail 16, (by kernel_rfl)
    change wpList _ _ _ _ _ w.drew
    go_wp2_with fail
    refine (f171 (w := w.drew) c e 1031 7 1024 1024 e 3 3 F q hc hce hr hs (by omega) (by omega) (by omega) (.inr (by omega)) hqc (by omega) (by omega)).mono ?_
    rintro r w1 ⟨rfl, hr1, hu⟩
    have hu2 : Upd e w w1 := ⟨hu.other, hu.size, hu.os, hu.tape, hu.output⟩
    have hI1 := bld_upd hI hu2 hr (by decide) heb
    have hb1' := hu2.below hBe
    have hc1 := hu2.row hce hc
    have B1 := hb1'.size
    have e1 : put F 7 (b64 q) 1 = .pointer (some ⟨c, 0, none⟩) := by unfold put; rw [if_neg (by omega), HF.out.2.1]
    have e2 : put F 7 (b64 q) 2 = .iface 79 (.pointer (some ⟨bb, 0, none⟩)) := by unfold put; rw [if_neg (by omega), HF.out.2.2.1]
    have e6 : put F 7 (b64 q) 6 = .int .i64 q.length := by unfold put; rw [if_neg (by omega), HF.out.2.2.2]
    have c1 := hr1.cell (i := 1) (by omega)
    have c2 := hr1.cell (i := 2) (by omega)
    have c6 := hr1.cell (i := 6) (by omega)
    rw [e1] at c1
    rw [e2] at c2
    rw [e6] at c6
    have d1 : w1.drew.cell? ⟨e, 1, none⟩ = _ := c1
    have d2 : w1.drew.cell? ⟨e, 2, none⟩ = _ := c2
    have d6 : w1.drew.cell? ⟨e, 6, none⟩ = _ := c6
    have hsrc : SrcAt w1.drew e 7 (b64 q) := srcAt_put hr1 (by omega)
    have HW := write_enc0 (w := w1.drew) (e := e) (c := c) (n := 1024) hI1 hr1 hc1 hsrc heb (by omega) (by omega) (Nat.le_trans hB B1)
    have HL := f81 (w := w1.drew) c q.length hc1 (by omega)
    rw [show (q.length + 2) / 3 * 4 = (b64 q).length from HBQ.out.symm] at HL
    rw [e1, e2, e6] at HW
    have hb4 : (b64 q).length ≤ 1024 := by omega
    have hb5 : ((b64 q).length : Int) ≤ 1024 := by omega
    clear hr hI hc hs hu hu2 k0 k1 k2 k6 e1 e2 e6 hb1
    go_wp2_with fail
    go_region_held3 (fun w' => w'.cell? ⟨e, 1, none⟩ = some (.pointer (some ⟨c, 0, none⟩)) ∧ w'.cell? ⟨e, 2, none⟩ = some (.iface 79 (.pointer (some ⟨bb, 0, none⟩))) ∧ w'.cell? ⟨e, 6, none⟩ = some (.int .i64 q.length))
      (first | with_reducible exact ⟨c1, c2, c6⟩ | with_reducible exact ⟨d1, d2, d6⟩ | with_reducible exact ⟨q1, q2, q6⟩ | exact ⟨(World.cell?_setCell_other _ _ _ _ (by simp)).trans q1, (World.cell?_setCell_other _ _ _ _ (by simp)).trans q2, (World.cell?_setCell_other _ _ _ _ (by simp)).trans q6⟩)
      (first | (go_at_call 121; refine HW.mono ?_; rintro r w2 ⟨rfl, hW, hek, hck, q1, q2, q6, q0, qf⟩) | (go_at_call 81; refine HL.mono ?_; rintro r w2 ⟨rfl, rfl⟩))
    have hrA : w2.rowIs e 143 1031 (put F 7 (b64 q)) := hr1.of_block hek
    have hrB := (hrA.set 0 .nilIface).set 6 (.int .i64 0)
    have hrC := hrA.set 0 .nilIface
    have hu3 := ((Upd.refl e w2).setCell ⟨e, 0, none⟩ rfl .nilIface).setCell ⟨e, 6, none⟩ rfl (.int .i64 0)
    have hI3 := bld_upd hW.1 hu3 hrA (by decide) heb
    have hb3 := (hb1'.drew.trans hW.2.1).trans (hu3.below hBe)
    have hc3 : EncAt c _ := hu3.row hce (hc1.of_block hck)
    have m0 := hrC.cell (i := 0) (by omega)
    have m6 := hrC.cell (i := 6) (by omega)
    have z6 := hrC.frozen 6
    simp only [if_pos] at m0
    rw [if_neg (by decide)] at m6
    have e1 : put F 7 (b64 q) 1 = .pointer (some ⟨c, 0, none⟩) := by unfold put; rw [if_neg (by omega), HF.out.2.1]
    have e2 : put F 7 (b64 q) 2 = .iface 79 (.pointer (some ⟨bb, 0, none⟩)) := by unfold put; rw [if_neg (by omega), HF.out.2.2.1]
    clear hr1 hI1 hb1' hc1 hsrc HW HL hW hek hck q1 q2 q6 q0 qf hrA hu3 c1 c2 c6 d1 d2 d6 hrC
    go_wp2
    go_ret
    exact ⟨rfl, _, hI3, hb3, hc3, hrB, rfl, e1, e2, rfl⟩
end Go.Proofs.YtbigjdlcmlopcaaGreatDoor
