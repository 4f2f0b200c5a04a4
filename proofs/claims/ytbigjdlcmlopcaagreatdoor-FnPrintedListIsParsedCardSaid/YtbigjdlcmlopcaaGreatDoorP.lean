import Derived.Test.YtbigjdlcmlopcaaGreatDoorO
namespace Go.Proofs.YtbigjdlcmlopcaaGreatDoor
open Go.RowKit

theorem own_type {w : World} {B : Nat} {v : Value} {n : Nat} {xs : List Value} (h : w.ownsRowF B 5 1 v n xs) {g : Nat} (hg : v.ownBlock = some g) : ∃ c fz, w.heap[g]? = some (.cells c 5 fz) := by
  rcases h.2 with ⟨rfl, _⟩ | ⟨g', cap, cur, fz, rfl, _, hgg, _⟩
  · simp [Value.ownBlock] at hg
  · simp [Value.ownBlock] at hg
    subst hg
    exact ⟨_, _, hgg⟩

/-- Rows that bear the mark of a conversion stand. -/
def Marked (K : Nat) (w : World) : Prop := ∃ c fz, w.heap[K]? = some (.cells c 5 fz) ∧ c.size < fz.2
theorem own_marked {w : World} {B : Nat} {v : Value} {n : Nat} {xs : List Value} (h : w.ownsRowF B 5 1 v n xs) {K : Nat} (hK : Marked K w) : v.ownBlock ≠ some K := by
  obtain ⟨c, fz, hK, hm⟩ := hK
  rcases h.2 with ⟨rfl, _⟩ | ⟨g', cap, cur, fz', rfl, _, hgg, hf, hn, _, hsz, _⟩
  · simp [Value.ownBlock]
  · intro e
    simp [Value.ownBlock] at e
    subst e
    rw [hgg] at hK
    simp at hK
    obtain ⟨rfl, rfl⟩ := hK
    omega

/-- Another block (no row of bytes) is written. -/
theorem bld_upd {B bb g : Nat} {bs : List Value} {w w' : World} (h : Lib.IsBuilderF 81 5 B bb bs w) (hu : Upd g w w') {t : TypeId} {n : Nat} {f : Nat → Value} (hr : w.rowIs g t n f) (ht : t ≠ 5) (hg : g ≠ bb) : Lib.IsBuilderF 81 5 B bb bs w' := by
  have key : ∀ p, Lib.BuilderAtF 81 5 B bb p bs w → Lib.BuilderAtF 81 5 B bb p bs w' := by
    intro p h
    obtain ⟨hB, v, hb, hown, hne⟩ := h
    refine ⟨hB, v, (hu.other bb (fun e => hg e.symm)).trans hb, hown.kept (row := some g) ⟨hu.os, hu.tape, hu.output, by rw [hu.size]; exact Nat.le_refl _, fun k _ hk => hu.other k (fun e => hk (by rw [e]))⟩ ?_, hne⟩
    refine .inr (fun e => ?_)
    obtain ⟨c, fz, hc⟩ := own_type hown e
    obtain ⟨c2, hc2, -⟩ := hr
    rw [hc] at hc2
    simp at hc2
    exact ht hc2.2.1.symm
  exact h.elim (fun x => .inl (key _ x)) (fun x => .inr (key _ x))

theorem f56v {bb : Nat} {p v : Value} {w : World} (hp : p = .pointer none ∨ p = .pointer (some ⟨bb, 0, none⟩)) (hb : w.heap[bb]? = some (.cells #[p, v] 81 (0, 0))) :
    Calls Tryz.prog 56 #[.pointer (some ⟨bb, 0, none⟩)] w fun e w' => e = .returned (.tuple #[]) ∧ w'.heap[bb]? = some (.cells #[.pointer (some ⟨bb, 0, none⟩), v] 81 (0, 0)) ∧ Upd bb w w' := by
  have c0 : w.cell? ⟨bb, 0, none⟩ = some p := by rw [Lib.cell_of_heap hb]; rfl
  rcases hp with rfl | rfl
  · refine (Any.Builder_copyCheck_fresh Tryz.laysB240 Tryz.extraB.toX72 bb w c0 (by simp [World.shape?, hb]; rfl) (Lib.frozen_of_heap hb 0)).mono ?_
    rintro e w' ⟨rfl, rfl⟩
    refine ⟨rfl, ?_, (Upd.refl _ _).setCell ⟨bb, 0, none⟩ rfl _⟩
    simp [World.setCell, Array.getElem?_modify, hb]
  · refine (Any.Builder_copyCheck_used Tryz.laysB240 Tryz.extraB.toX72 bb w c0).mono ?_
    rintro e w' ⟨rfl, rfl⟩
    exact ⟨rfl, hb, Upd.refl _ _⟩

theorem byteCells_mem (d : List UInt8) (j : Nat) (u : Value) (h : (Lib.byteCells d)[j]? = some u) : ∃ hj : j < d.length, u = .int .u8 (d[j].toNat : Int) := by
  unfold Lib.byteCells at h
  rw [List.getElem?_map] at h
  obtain ⟨x, hx, rfl⟩ := Option.map_eq_some_iff.1 h
  obtain ⟨hj, rfl⟩ := List.getElem?_eq_some_iff.1 hx
  exact ⟨hj, rfl⟩

set_option maxHeartbeats 3200000 in
/-- Builder.Write. -/
theorem f121 {B bb : Nat} {l : List UInt8} {w : World} (h : Lib.IsBuilderF 81 5 B bb (Lib.byteCells l) w) (S so sc : Nat) (d : List UInt8) (hs : SrcAt w S so d) (hS : S ≠ bb) (hd : 0 < d.length) (hlen : l.length + d.length ≤ 1073741820) (hBw : B ≤ w.heap.size) :
    Calls Tryz.prog 121 #[.pointer (some ⟨bb, 0, none⟩), .slice (some ⟨S, so, none⟩) d.length sc] w fun e w' => e = .returned (.tuple #[.int .i64 d.length, .nilIface]) ∧ Wrote B bb (l ++ d) w w' ∧ ∀ K, Marked K w → w'.heap[K]? = w.heap[K]? := by
  obtain ⟨i0, hi, hz0, hz1, hz2⟩ := info_parts Tryz.extraB.infoByte
  obtain ⟨p, v, hB, hp, hb, hown, hne⟩ : ∃ p v, B ≤ bb ∧ (p = .pointer none ∨ p = .pointer (some ⟨bb, 0, none⟩)) ∧ w.heap[bb]? = some (.cells #[p, v] 81 (0, 0)) ∧ w.ownsRowF B 5 1 v l.length (Lib.byteCells l) ∧ v.ownBlock ≠ some bb := by
    rcases h with ⟨hB, v, hb, hown, hne⟩ | ⟨hB, v, hb, hown, hne⟩
    · exact ⟨_, v, hB, .inl rfl, hb, by rw [Lib.byteCells_length] at hown; exact hown, hne⟩
    · exact ⟨_, v, hB, .inr rfl, hb, by rw [Lib.byteCells_length] at hown; exact hown, hne⟩
  go_enter Tryz.func121, Tryz.ntmps121
  go_wp2_with fail
  refine (f56v hp hb).mono ?_
  rintro e w1 ⟨rfl, hbk, hu⟩
  have hown1 : w1.ownsRowF B 5 1 v l.length (Lib.byteCells l) := hown.kept (row := some bb) ⟨hu.os, hu.tape, hu.output, by rw [hu.size]; exact Nat.le_refl _, fun k _ hk => hu.other k (fun e => hk (by rw [e]))⟩ (.inr hne)
  have c0 : w1.cell? ⟨bb, 0, none⟩ = some (.pointer (some ⟨bb, 0, none⟩)) := by rw [Lib.cell_of_heap hbk]; rfl
  have c1 : w1.cell? ⟨bb, 1, none⟩ = some v := by rw [Lib.cell_of_heap hbk]; rfl
  go_wp2_with (at_builtin; refine wpList_append_ownF _ rfl _ _ 74 rfl B 5 i0 (.int .u8 0) 1 1 Tryz.underlying74 hi hz0 hz1 hz2 rfl (by decide) _ _ _ rfl hown1 ⟨S, so, none⟩ d.length sc (Lib.byteCells d) rfl ?c0 ?c1 ?c2 ?c3 ?c4 ?c5 ?_)
  case c0 => rw [Lib.byteCells_length, Nat.mul_one]
  case c1 =>
    intro j u hj
    obtain ⟨hj', rfl⟩ := byteCells_mem d j u hj
    have hadd : (⟨S, so, none⟩ : Addr).add j = ⟨S, so + j, none⟩ := by unfold Addr.add; split <;> simp_all
    rw [hadd, ← hs j hj']
    unfold World.cell?
    rw [hu.other S hS]
  case c2 =>
    intro u hu'
    obtain ⟨j, hj⟩ := List.mem_iff_getElem?.1 hu'
    obtain ⟨hj', rfl⟩ := byteCells_mem d j u hj
    rfl
  case c3 => unfold maxLen; omega
  case c4 => omega
  case c5 => rw [hu.size]; exact hBw
  intro v' w2 hown' hgrow _
  have hlt : bb < w1.heap.size := (Array.getElem?_eq_some_iff.1 hbk).1
  have hb2 : w2.heap[bb]? = some (.cells #[.pointer (some ⟨bb, 0, none⟩), v] 81 (0, 0)) := by
    rw [hgrow.block bb hlt (fun e => hne e.symm)]; exact hbk
  have d0 : w2.cell? ⟨bb, 0, none⟩ = some (.pointer (some ⟨bb, 0, none⟩)) := by rw [Lib.cell_of_heap hb2]; rfl
  have d1 : w2.cell? ⟨bb, 1, none⟩ = some v := by rw [Lib.cell_of_heap hb2]; rfl
  have f1 : w2.frozen? ⟨bb, 1, none⟩ = false := Lib.frozen_of_heap hb2 1
  obtain ⟨g, cap, hv'⟩ : ∃ g cap, v' = .slice (some ⟨g, 0, none⟩) (l.length + d.length) cap := by
    rcases hown'.2 with ⟨_, h0⟩ | ⟨g, cap, cur, fz, hv, _⟩
    · omega
    · exact ⟨g, cap, hv⟩
  subst hv'
  go_wp2
  go_ret2
  have ht5 : (81 : TypeId) ≠ 5 := by decide
  have hown2 : w2.ownsRowF B 5 1 (.slice (some ⟨g, 0, none⟩) (l.length + d.length) cap) (l ++ d).length (Lib.byteCells (l ++ d)) := by
    rw [List.length_append, Lib.byteCells_append]; exact hown'
  have hb3 := (((hu.below hB).grown hgrow (by rw [hu.size]; omega) (fun k hk => (hown1.lt k hk).1))).setCell (p := ⟨bb, 1, none⟩) hB (.slice (some ⟨g, 0, none⟩) (l.length + d.length) cap)
  have hk3 : Lib.OthersKept 5 (some bb) w w1 := fun k o hk h1 _ => by rw [hu.other k (fun e => h1 (by rw [e]))]; exact hk
  refine ⟨rfl, ⟨.inr ?_, hb3, (hk3.grown hgrow (Lib.ownsRowF_kind hown1)).setCell ⟨bb, 1, none⟩ rfl _⟩, ?_⟩
  · exact Lib.BuilderAtF.put (T := 81) (e := 5) hB hb2 (by rw [Lib.byteCells_length]; exact hown2) ht5
  · intro K hK
    have hKb : K ≠ bb := by
      intro e; subst e
      obtain ⟨c, fz, hK, _⟩ := hK
      rw [hb] at hK; simp at hK
    have hnK := own_marked hown hK
    have hK1 : K < w1.heap.size := by rw [hu.size]; obtain ⟨c, fz, hK, _⟩ := hK; exact (Array.getElem?_eq_some_iff.1 hK).1
    rw [Below.heap_setCell _ _ _ _ (by simpa using hKb), hgrow.block K hK1 (fun e => hnK e.symm)]; exact hu.other K hKb
end Go.Proofs.YtbigjdlcmlopcaaGreatDoor
