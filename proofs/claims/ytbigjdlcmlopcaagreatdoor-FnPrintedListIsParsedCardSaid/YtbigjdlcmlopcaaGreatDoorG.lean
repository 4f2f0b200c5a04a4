import Derived.Test.YtbigjdlcmlopcaaGreatDoorF
namespace Go.Proofs.YtbigjdlcmlopcaaGreatDoor
open Go.RowKit

theorem builder_kept {B bb b : Nat} {bs : List Value} {w w' : World} (h : Lib.IsBuilderF 81 5 B bb bs w) (hg : w.grownBy w' (some b)) (hb : b < B) : Lib.IsBuilderF 81 5 B bb bs w' := by
  have key : ∀ p, Lib.BuilderAtF 81 5 B bb p bs w → Lib.BuilderAtF 81 5 B bb p bs w' := by
    intro p h
    obtain ⟨hB, v, hk, hown, hne⟩ := h
    refine ⟨hB, v, ?_, hown.kept hg ?_, hne⟩
    · rw [hg.block bb (Array.getElem?_eq_some_iff.1 hk).1 (by simp; omega)]; exact hk
    · cases hv : v.ownBlock with
      | none => exact .inl rfl
      | some k =>
        refine .inr ?_
        have := (hown.lt k hv).1
        simp; omega
  exact h.elim (fun x => .inl (key _ x)) (fun x => .inr (key _ x))
theorem bLen {B bb : Nat} {bs : List Value} {w : World} (h : Lib.IsBuilderF 81 5 B bb bs w) : Calls Tryz.prog 73 #[.pointer (some ⟨bb, 0, none⟩)] w fun e w' => e = .returned (.int .i64 bs.length) ∧ w = w' :=
  (Tryz.Builder_Len_f _ _ _ _ h).mono fun _ _ ⟨h1, h2⟩ => ⟨h1, h2.symm⟩
/-- strings.Join of one text. -/
theorem join_one (g cap : Nat) (s : ByteArray) (w : World) (hc : w.cell? ⟨g, 0, none⟩ = some (.string s)) (hg : g < w.heap.size) (hcap : 1 ≤ cap) (hs : s.size ≤ 140737488355328) :
    Calls Tryz.prog 71 #[.slice (some ⟨g, 0, none⟩) 1 cap, .string ⟨#[32]⟩] w fun e w' => e = .returned (.string s) ∧ Below w.heap.size w w' := by
  have e1 : (⟨(Lib.join ([s].map (·.data.toList)) (⟨#[32]⟩ : ByteArray).data.toList).toArray⟩ : ByteArray) = s := by
    simp only [List.map_cons, List.map_nil, Lib.join_one]
  have := Tryz.strings_Join g 0 cap [s] ⟨#[32]⟩ w ?_ hg (by simp only [List.length_cons, List.length_nil]; omega) (by simpa using hcap) ?_
  · rw [e1] at this; exact this
  · intro j x hj
    match j, hj with
    | 0, hj => simp at hj; subst hj; exact hc
  · simp only [List.map_cons, List.map_nil, Lib.join_one]
    have : s.data.toList.length = s.size := rfl
    omega
theorem byteCells_nil : Lib.byteCells [] = [] := rfl
theorem Tryz_info9 : (Tryz.prog.info? 9).map (fun i => (i.zero, i.size, i.bytes)) = some (some (.string ⟨#[]⟩), 1, 16) := by kernel_rfl

set_option maxRecDepth 100000 in
set_option maxHeartbeats 3200000 in
/-- consumePhrase: a text in quotes ahead of an angle bracket. -/
theorem f51q {b : Nat} {w : World} (t r : List UInt8) (h : PAt b (mk (34 :: (esc t ++ 34 :: (32 :: 60 :: r)))) w) (ht : ∀ c ∈ t, okc c = true) (hn : (esc t).length + r.length ≤ 1073741820) (hn2 : t.length ≤ 1073741820) :
    Calls Tryz.prog 51 #[.pointer (some ⟨b, 0, none⟩)] w fun e w' => e = .returned (.tuple #[.string (mk t), .nilIface]) ∧ PAt b (mk (60 :: r)) w' ∧ w.grownBy w' (some b) := by
  have hlt := h.lt
  have HP := Lib.hid h
  have HT := Lib.hid ht
  clear h ht
  obtain ⟨i0, hi, hz0, hz1, hz2⟩ := info_parts Tryz_info9
  go_enter Tryz.func51, Tryz.ntmps51
  go_wp2_with fail
  have hI := Lib.IsBuilderF.of (Lib.fresh_isBuilder 81 5 w)
  have hg : w.grownBy (w.alloc (.cells #[.pointer none, .slice none 0 0] 81)) (some b) := grownBy_of_below _ ((Below.refl _ _).alloc (Nat.le_refl _) _)
  have hP := HP.out.kept (grownBy_of_below none ((Below.refl w.heap.size w).alloc (Nat.le_refl _) (.cells #[.pointer none, .slice none 0 0] 81))) (by simp)
  generalize w.alloc (.cells #[.pointer none, .slice none 0 0] 81) = W at *
  clear HP
  refine wp_loop_rounds 2 ?_
  rw [rounds_succ]
  go_wp2_with fail
  refine (f46_0 _ hP (by intro x hx; simp at hx; subst hx; exact ⟨by decide, by decide⟩) (by simp; omega)).mono ?_
  rintro e w1 ⟨rfl, hP1, hg1⟩
  have hI1 := builder_kept hI hg1 hlt
  have G1 := grownBy_trans hg hg1
  clear hI hP hg hg1
  go_wp2_with fail
  refine (f36c hP1).mono ?_
  rintro e w' ⟨rfl, rfl⟩
  go_wp2_with fail
  refine (f48 hP1).mono ?_
  rintro e w' ⟨rfl, rfl⟩
  go_wp2_with fail
  refine (f65 t (32 :: 60 :: r) hP1 HT.out (by simp; omega) (by omega)).mono ?_
  rintro e w2 ⟨rfl, hP2, hg2⟩
  have hI2 := builder_kept hI1 hg2 hlt
  have G2 := grownBy_trans G1 hg2
  clear hI1 hP1 G1 hg2
  go_wp2_with fail
  refine (bLen hI2).mono ?_
  rintro e w' ⟨rfl, rfl⟩
  have hs2 := G2.size
  go_wp2_with (at_builtin; refine wpList_append_own _ rfl _ _ 29 rfl w.heap.size 9 i0 (.string ⟨#[]⟩) 1 16 Tryz.underlying29 hi hz0 hz1 hz2 rfl (by decide) _ _ _ rfl ((World.ownsRow_nil w2 w.heap.size 9 1).alloc _) ⟨w2.heap.size, 0, none⟩ 1 1 [.string (mk t)] rfl rfl ?c1 ?c2 ?c3 ?c4 ?c5 ?_)
  case c1 =>
    intro j u hj
    match j, hj with
    | 0, hj => simp at hj; subst hj; simp [Addr.add]
  case c2 => intro u hu; simp at hu; subst hu; rfl
  case c3 => unfold maxLen; omega
  case c4 => omega
  case c5 => simp; omega
  intro v' w3 hown' hgrow _
  obtain ⟨g, cap, rfl⟩ : ∃ g cap, v' = .slice (some ⟨g, 0, none⟩) 1 cap := by
    rcases hown'.2 with ⟨_, h0⟩ | ⟨g, cap, cur, hv, _⟩
    · omega
    · exact ⟨g, cap, hv⟩
  have hgr : w2.grownBy w3 (some b) := by
    refine grownBy_of_below _ ((((Below.refl _ _).alloc (Nat.le_refl _) (.cells #[.string (mk t)] 9)).grown hgrow (by simp) ?_))
    intro k hk; simp [Value.ownBlock] at hk
  have hgr0 : w2.grownBy w3 none := by
    refine grownBy_of_below _ ((((Below.refl _ _).alloc (Nat.le_refl _) (.cells #[.string (mk t)] 9)).grown hgrow (by simp) ?_))
    intro k hk; simp [Value.ownBlock] at hk
  have hI3 := builder_kept hI2 hgr hlt
  have hP3 := hP2.kept hgr0 (by simp)
  have G3 := grownBy_trans G2 hgr
  have HO := Lib.hid hown'
  clear hI2 hP2 G2 hgr hgr0 hgrow hown' hs2
  go_wp2_with fail
  rw [rounds_succ]
  go_wp2_with fail
  refine (f34 [32] (60 :: r) hP3 (by intro x hx; simp at hx; subst hx; decide) (by intro x hx; simp at hx; subst hx; decide) (by simp; omega)).mono ?_
  rintro e w4 ⟨rfl, hP4, hg4⟩
  have hI4 := builder_kept hI3 hg4 hlt
  have G4 := grownBy_trans G3 hg4
  have HO4 := Lib.hid (HO.out.kept hg4 (.inr (by have := (HO.out.lt g rfl).1; simp [Value.ownBlock]; omega)))
  clear hI3 hP3 G3 hg4 HO
  go_wp2_with fail
  refine (f46_0 _ hP4 (by intro x hx; simp at hx; subst hx; decide) (by simp; omega)).mono ?_
  rintro e w5 ⟨rfl, hP5, hg5⟩
  have hI5 := builder_kept hI4 hg5 hlt
  have G5 := grownBy_trans G4 hg5
  have HO5 := Lib.hid (HO4.out.kept hg5 (.inr (by have := (HO4.out.lt g rfl).1; simp [Value.ownBlock]; omega)))
  clear hI4 hP4 G4 hg5 HO4
  go_wp2_with fail
  refine (f36c hP5).mono ?_
  rintro e w' ⟨rfl, rfl⟩
  go_wp2_with fail
  refine (f48 hP5).mono ?_
  rintro e w' ⟨rfl, rfl⟩
  go_wp2_with fail
  refine (f66n 60 r true hP5 (by decide) (by decide)).mono ?_
  rintro e w6 ⟨⟨v, ⟨av, rfl⟩, rfl⟩, hP6, hg6⟩
  have hI6 := builder_kept hI5 hg6 hlt
  have G6 := grownBy_trans G5 hg6
  have HO6 := Lib.hid (HO5.out.kept hg6 (.inr (by have := (HO5.out.lt g rfl).1; simp [Value.ownBlock]; omega)))
  clear hI5 hP5 G5 hg6 HO5
  go_wp2_with fail
  refine (bLen hI6).mono ?_
  rintro e w' ⟨rfl, rfl⟩
  go_wp2_with fail
  have hcap : 1 ≤ cap := by
    rcases HO6.out.2 with ⟨h1, _⟩ | ⟨g', cap', cur, hv, _, _, hl, _⟩
    · simp at h1
    · simp at hv; omega
  have hcell := HO6.out.cellAt 0 (by omega)
  refine (join_one g cap (mk t) w6 (by simpa using hcell) (HO6.out.lt g rfl).2 hcap (by rw [mk_size]; omega)).mono ?_
  rintro e w7 ⟨rfl, hb7⟩
  have hP7 := hP6.kept (grownBy_of_below none hb7) (by simp)
  have G7 := grownBy_trans G6 (grownBy_of_below _ hb7)
  go_wp2
  go_ret2
  exact ⟨rfl, hP7, G7⟩

/-- A word that is decoded. -/
def Decodes (wd ck : List UInt8) : Prop := ∀ (b : Nat) (s : ByteArray) (w : World), PAt b s w →
  Calls Tryz.prog 70 #[.pointer (some ⟨b, 0, none⟩), .string (mk wd)] w fun e w' => e = .returned (.tuple #[.string (mk ck), .bool true, .nilIface]) ∧ Below w.heap.size w w'
def WOk (p : List UInt8 × List UInt8) : Prop := (∃ tl, p.1 = 61 :: tl) ∧ (∀ c ∈ p.1, atx c.toNat true = true ∧ c.toNat < 128) ∧ 0 < p.2.length ∧ Decodes p.1 p.2
def encs (ws : List (List UInt8 × List UInt8)) (r : List UInt8) : List UInt8 := ws.flatMap (fun p => p.1 ++ [32]) ++ 60 :: r
theorem encs_cons (p : List UInt8 × List UInt8) (ws : List (List UInt8 × List UInt8)) (r : List UInt8) : encs (p :: ws) r = p.1 ++ 32 :: encs ws r := by simp [encs]
theorem encs_nil (r : List UInt8) : encs [] r = 60 :: r := rfl
def cks (ws : List (List UInt8 × List UInt8)) : List UInt8 := ws.flatMap (·.2)
theorem cks_append (a b : List (List UInt8 × List UInt8)) : cks (a ++ b) = cks a ++ cks b := by simp [cks]

/-- The length of the parser's text. -/
def txt (b : Nat) (w : World) : Nat := match w.cell? ⟨b, 0, none⟩ with | some (.string s) => s.size | _ => 0
theorem PAt.txt {b : Nat} {s : ByteArray} {w : World} (h : PAt b s w) : txt b w = s.size := by unfold YtbigjdlcmlopcaaGreatDoor.txt; rw [h.c0]

theorem bWS {B bb : Nat} {l : List UInt8} {w : World} (h : Lib.IsBuilderF 81 5 B bb (Lib.byteCells l) w) (m : List UInt8) (hlen : l.length + m.length ≤ 140737488355328) (hBw : B ≤ w.heap.size) :
    Calls Tryz.prog 72 #[.pointer (some ⟨bb, 0, none⟩), .string (mk m)] w fun e w' => e = .returned (.tuple #[.int .i64 m.length, .nilIface]) ∧ Lib.IsBuilderF 81 5 B bb (Lib.byteCells (l ++ m)) w' ∧ Below B w w' ∧ Lib.OthersKept 5 (some bb) w w' := by
  refine (Tryz.Builder_WriteString_k B bb (Lib.byteCells l) (mk m) w h (by rw [Lib.byteCells_length, mk_size]; omega) hBw).mono ?_
  rintro e w' ⟨rfl, h1, h2, h3⟩
  refine ⟨by rw [mk_size], .inr ?_, h2, h3⟩
  rw [Lib.byteCells_append]
  have : Lib.strCells (mk m) = Lib.byteCells m := by unfold Lib.strCells Lib.byteCells; rw [mk_data]
  rw [← this]; exact h1

set_option maxRecDepth 100000 in
set_option maxHeartbeats 6400000 in
/-- consumePhrase: encoded words ahead of an angle bracket. -/
theorem f51e {b : Nat} {w : World} (ws : List (List UInt8 × List UInt8)) (r : List UInt8) (h : PAt b (mk (encs ws r)) w) (hw : ∀ p ∈ ws, WOk p) (h0 : 0 < ws.length) (hn : (encs ws r).length ≤ 1073741820) (hn2 : (cks ws).length ≤ 1073741820) :
    Calls Tryz.prog 51 #[.pointer (some ⟨b, 0, none⟩)] w fun e w' => e = .returned (.tuple #[.string (mk (cks ws)), .nilIface]) ∧ PAt b (mk (60 :: r)) w' ∧ w.grownBy w' (some b) := by
  have hlt := h.lt
  have HP := Lib.hid h
  have HW := Lib.hid hw
  clear h hw
  obtain ⟨i0, hi, hz0, hz1, hz2⟩ := info_parts Tryz_info9
  go_enter Tryz.func51, Tryz.ntmps51
  go_wp2_with fail
  have hI := Lib.IsBuilderF.of (Lib.fresh_isBuilder 81 5 w)
  have hg : w.grownBy (w.alloc (.cells #[.pointer none, .slice none 0 0] 81)) (some b) := grownBy_of_below _ ((Below.refl _ _).alloc (Nat.le_refl _) _)
  have hP := HP.out.kept (grownBy_of_below none ((Below.refl w.heap.size w).alloc (Nat.le_refl _) (.cells #[.pointer none, .slice none 0 0] 81))) (by simp)
  generalize w.alloc (.cells #[.pointer none, .slice none 0 0] 81) = W at *
  clear HP
  go_loopw [4] (fun v wr => ∃ (done rest : List (List UInt8 × List UInt8)) (pre : List UInt8), ws = done ++ rest ∧ v = .slice none 0 0 ∧ (∀ c ∈ pre, wsp c.toNat = true) ∧ pre.length ≤ 1 ∧ PAt b (mk (pre ++ encs rest r)) wr ∧ Lib.IsBuilderF 81 5 w.heap.size w.heap.size (Lib.byteCells (cks done)) wr ∧ w.grownBy wr (some b)) (fun _ wr => txt b wr)
  case atStart => exact ⟨[], ws, [], rfl, rfl, by simp, by simp, hP, hI, hg⟩
  case round =>
    clear hP hI hg
    obtain ⟨done, rest, pre, hws, rfl, hpre, hpl, hP, hI, hg⟩ := hrel
    have hm : txt b wr = (pre ++ encs rest r).length := by rw [hP.txt, mk_size]
    have HM := Lib.hid hm
    have HPre := Lib.hid hpre
    clear hm hpre
    have hln : (encs rest r).length ≤ 1073741820 := by
      have : (encs ws r).length = (encs done []).length + (encs rest r).length - 1 := by rw [hws]; simp [encs]
      have h2 : 1 ≤ (encs done []).length := by simp [encs]
      omega
    cases rest with
    | nil =>
      rw [encs_nil] at hP hln
      have hcl : 0 < (cks ws).length := by
        obtain ⟨p, hp⟩ : ∃ p, p ∈ ws := List.length_pos_iff_exists_mem.1 h0
        have h1 := (HW.out p hp).2.2.1
        obtain ⟨c, hc⟩ := List.length_pos_iff_exists_mem.1 h1
        exact List.length_pos_of_mem (List.mem_flatMap.2 ⟨p, hp, hc⟩)
      have hdone : done = ws := by rw [hws]; simp
      rw [hdone] at hI
      have hrl : r.length ≤ 1073741820 := by simp at hln; omega
      clear hln hws hdone HM
      go_wp2_with fail
      refine (f46 pre (60 :: r) hP HPre.out (by intro x hx; simp at hx; subst hx; decide) (by simp; omega)).mono ?_
      rintro e w1 ⟨rfl, hP1, hg1⟩
      have hI1 := builder_kept hI hg1 hlt
      have G1 := grownBy_trans hg hg1
      clear hI hP hg hg1
      go_wp2_with fail
      refine (f36c hP1).mono ?_
      rintro e w' ⟨rfl, rfl⟩
      go_wp2_with fail
      refine (f48 hP1).mono ?_
      rintro e w' ⟨rfl, rfl⟩
      go_wp2_with fail
      refine (f66n 60 r true hP1 (by decide) (by decide)).mono ?_
      rintro e w2 ⟨⟨v, ⟨av, rfl⟩, rfl⟩, hP2, hg2⟩
      have hI2 := builder_kept hI1 hg2 hlt
      have G2 := grownBy_trans G1 hg2
      clear hI1 hP1 G1 hg2
      go_wp2_with fail
      have hcl2 : (0 : Int) < ((Lib.byteCells (cks ws)).length : Int) := by rw [Lib.byteCells_length]; omega
      refine (bLen hI2).mono ?_
      rintro e w' ⟨rfl, rfl⟩
      go_wp2_with fail
      refine (Tryz.Builder_String_any_k _ _ (cks ws) w2 hI2 G2.size).mono ?_
      rintro e w3 ⟨rfl, hI3, hb3, -⟩
      rw [show (⟨(cks ws).toArray⟩ : ByteArray) = mk (cks ws) from rfl]
      have hP3 : PAt b (mk (60 :: r)) w3 := by unfold PAt; rw [hb3.block b hlt]; exact hP2
      have G3 : w.grownBy w3 (some b) := ⟨hb3.os.trans G2.os, hb3.tape.trans G2.tape, hb3.output.trans G2.output, Nat.le_trans G2.size hb3.size, fun k hk hr => (hb3.block k hk).trans (G2.block k hk hr)⟩
      clear hI2 hP2 G2 hb3 hI3 hcl2
      have hs3 := G3.size
      go_wp2_with (at_builtin; refine wpList_append_own _ rfl _ _ 29 rfl w.heap.size 9 i0 (.string ⟨#[]⟩) 1 16 Tryz.underlying29 hi hz0 hz1 hz2 rfl (by decide) _ _ _ rfl ((World.ownsRow_nil w3 w.heap.size 9 1).alloc _) ⟨w3.heap.size, 0, none⟩ 1 1 [.string (mk (cks ws))] rfl rfl ?c1 ?c2 ?c3 ?c4 ?c5 ?_)
      case c1 =>
        intro j u hj
        match j, hj with
        | 0, hj => simp at hj; subst hj; simp [Addr.add]
      case c2 => intro u hu; simp at hu; subst hu; rfl
      case c3 => unfold maxLen; omega
      case c4 => omega
      case c5 => simp; omega
      intro v' w4 hown' hgrow _
      obtain ⟨g, cap, rfl⟩ : ∃ g cap, v' = .slice (some ⟨g, 0, none⟩) 1 cap := by
        rcases hown'.2 with ⟨_, h0⟩ | ⟨g, cap, cur, hv, _⟩
        · omega
        · exact ⟨g, cap, hv⟩
      have hgr0 : w3.grownBy w4 none := by
        refine grownBy_of_below _ ((((Below.refl _ _).alloc (Nat.le_refl _) (.cells #[.string (mk (cks ws))] 9)).grown hgrow (by simp) ?_))
        intro k hk; simp [Value.ownBlock] at hk
      have hP4 := hP3.kept hgr0 (by simp)
      have G4 := grownBy_trans G3 (grownBy_of_below _ (below_of_grownBy hgr0 (Nat.le_refl _) (by simp)))
      have HO := Lib.hid hown'
      clear hP3 G3 hgr0 hgrow hown' hs3
      go_wp2_with fail
      have hcap : 1 ≤ cap := by
        rcases HO.out.2 with ⟨h1, _⟩ | ⟨g', cap', cur, hv, _, _, hl, _⟩
        · simp at h1
        · simp at hv; omega
      have hcell := HO.out.cellAt 0 (by omega)
      refine (join_one g cap (mk (cks ws)) w4 (by simpa using hcell) (HO.out.lt g rfl).2 hcap (by rw [mk_size]; omega)).mono ?_
      rintro e w5 ⟨rfl, hb5⟩
      have hP5 := hP4.kept (grownBy_of_below none hb5) (by simp)
      have G5 := grownBy_trans G4 (grownBy_of_below _ hb5)
      go_wp2
      go_ret2
      exact ⟨rfl, hP5, G5⟩
    | cons p rest =>
      obtain ⟨⟨tl, htl⟩, hat, hck, hdec⟩ := HW.out p (by rw [hws]; simp)
      have hck2 : (cks done).length + p.2.length ≤ 1073741820 := by
        have : (cks ws).length = (cks done).length + p.2.length + (cks rest).length := by rw [hws]; simp [cks]; omega
        omega
      rw [encs_cons] at hP hln
      have hl2 : p.1.length + 1 + (encs rest r).length ≤ 1073741820 := by simp at hln; omega
      have HD := Lib.hid hdec
      have HA := Lib.hid hat
      have HWS := Lib.hid hws
      have HM2 : Hid (txt b wr = pre.length + (p.1.length + 1 + (encs rest r).length)) := by have := HM.out; rw [encs_cons] at this; simp at this; show _ = _; omega
      have HTL := Lib.hid htl
      clear HM hln hdec hat hws htl
      go_wp2_with fail
      refine (f46 pre (p.1 ++ 32 :: encs rest r) hP HPre.out (by rw [HTL.out]; intro x hx; simp at hx; subst hx; decide) (by simp; omega)).mono ?_
      rintro e w1 ⟨rfl, hP1, hg1⟩
      have hI1 := builder_kept hI hg1 hlt
      have G1 := grownBy_trans hg hg1
      clear hI hP hg hg1
      go_wp2_with fail
      have hPc : PAt b (mk (61 :: (tl ++ 32 :: encs rest r))) w1 := by have h := hP1; rw [HTL.out] at h; exact h
      refine (f36c hPc).mono ?_
      rintro e w' ⟨rfl, rfl⟩
      go_wp2_with fail
      refine (f48 hPc).mono ?_
      rintro e w' ⟨rfl, rfl⟩
      clear hPc
      go_wp2_with fail
      refine (f66y p.1 (32 :: encs rest r) true hP1 (by rw [HTL.out]; simp) HA.out (by intro x hx; simp at hx; subst hx; decide) (by simp; omega) (.inl rfl)).mono ?_
      rintro e w2 ⟨rfl, hP2, hg2⟩
      have hI2 := builder_kept hI1 hg2 hlt
      have G2 := grownBy_trans G1 hg2
      clear hI1 hP1 G1 hg2
      go_wp2_with fail
      refine (HD.out b _ w2 hP2).mono ?_
      rintro e w3 ⟨rfl, hb3⟩
      have hP3 := hP2.kept (grownBy_of_below none hb3) (by simp)
      have hI3 := builder_kept hI2 (grownBy_of_below _ hb3) hlt
      have G3 := grownBy_trans G2 (grownBy_of_below _ hb3)
      clear hI2 hP2 G2 hb3
      go_wp2_with fail
      refine (bWS hI3 p.2 (by omega) G3.size).mono ?_
      rintro e w4 ⟨rfl, hI4, hb4, -⟩
      have hP4 : PAt b (mk (32 :: encs rest r)) w4 := by unfold PAt; rw [hb4.block b hlt]; exact hP3
      have G4 : w.grownBy w4 (some b) := ⟨hb4.os.trans G3.os, hb4.tape.trans G3.tape, hb4.output.trans G3.output, Nat.le_trans G3.size hb4.size, fun k hk hr => (hb4.block k hk).trans (G3.block k hk hr)⟩
      clear hI3 hP3 G3 hb4
      go_wp2_with fail
      go_roundw
      case rel =>
        refine ⟨done ++ [p], rest, [32], by rw [HWS.out]; simp, rfl, by intro x hx; simp at hx; subst hx; decide, by simp, hP4, ?_, G4⟩
        rw [cks_append]; simpa [cks] using hI4
      case measure =>
        rw [hP4.txt, HM2.out, mk_size, HTL.out]
        simp; omega
end Go.Proofs.YtbigjdlcmlopcaaGreatDoor
