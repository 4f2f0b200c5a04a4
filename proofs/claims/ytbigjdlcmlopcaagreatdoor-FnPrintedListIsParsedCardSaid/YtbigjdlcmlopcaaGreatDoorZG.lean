import Derived.Test.YtbigjdlcmlopcaaGreatDoorZE
namespace Go.Proofs.YtbigjdlcmlopcaaGreatDoor
open Go.RowKit

/-- One printed address of a list, with the blanks around the comma ahead of it. -/
structure It where
  b1 : List UInt8
  b2 : List UInt8
  F : List UInt8
  nm : List UInt8
  adr : List UInt8
def It.Ok (i : It) : Prop := Blank i.b1 ∧ Blank i.b2 ∧ AddrOk i.F i.nm i.adr ∧ i.F.length ≤ 200000
def itPr (i : It) : ByteArray × ByteArray := (mk i.nm, mk i.adr)
def tailT : List It → List UInt8
  | [] => []
  | i :: r => i.b1 ++ 44 :: (i.b2 ++ (i.F ++ tailT r))
theorem tailT_len : ∀ (l : List It), (∀ i ∈ l, i.Ok) → (tailT l).length ≤ 200007 * l.length
  | [], _ => by simp [tailT]
  | i :: r, h => by
    have h1 := tailT_len r (fun x hx => h x (by simp [hx]))
    obtain ⟨⟨-, a⟩, ⟨-, b⟩, -, c⟩ := h i (by simp)
    simp only [tailT, List.length_append, List.length_cons]
    omega

/-- The list so far. -/
def LS (B : Nat) (v : Value) (ps : List (ByteArray × ByteArray)) (wr : World) : Prop := ∃ ks : List Nat, ks.length = ps.length ∧ wr.ownsRow B 41 1 v ps.length (ks.map fun k => .pointer (some ⟨k, 0, none⟩)) ∧
  ∀ j (h : j < ps.length) (h2 : j < ks.length), B ≤ ks[j] ∧ wr.heap[ks[j]]? = some (.cells #[.string ps[j].1, .string ps[j].2] 46 (0, 0))
theorem LS.kept {B b : Nat} {v : Value} {ps : List (ByteArray × ByteArray)} {w w' : World} (h : LS B v ps w) (hg : w.grownBy w' (some b)) (hb : b < B) : LS B v ps w' := by
  obtain ⟨ks, h1, h2, h3⟩ := h
  refine ⟨ks, h1, h2.kept hg (.inr fun e => ?_), fun j hj hj2 => ⟨(h3 j hj hj2).1, ?_⟩⟩
  · have := (h2.lt b e).1; omega
  · have ⟨k1, k2⟩ := h3 j hj hj2
    rw [hg.block _ (Array.getElem?_eq_some_iff.1 k2).1 (fun e => by have := Option.some.inj e; omega)]; exact k2
theorem LS.ptrs {B : Nat} {v : Value} {ps : List (ByteArray × ByteArray)} {w : World} (h : LS B v ps w) : Ptrs w v ps := by
  obtain ⟨ks, h1, h2, h3⟩ := h
  rcases h2.2 with ⟨rfl, h0⟩ | ⟨g, cap, cur, rfl, hB, hg, hc, _, _, _⟩
  · exact ⟨none, 0, 0, rfl, by omega, Nat.le_refl _, fun j hj => by omega⟩
  · refine ⟨_, _, cap, rfl, rfl, hc, fun j hj => ?_⟩
    have hj2 : j < ks.length := by omega
    have c1 := h2.cells (g := g) rfl j (.pointer (some ⟨ks[j], 0, none⟩)) (by rw [List.getElem?_map, List.getElem?_eq_getElem hj2]; rfl)
    have hadd : (⟨g, 0, none⟩ : Addr).add j = ⟨g, j, none⟩ := by unfold Addr.add; split <;> simp_all
    rw [hadd] at c1
    have ⟨_, k2⟩ := h3 j hj hj2
    refine ⟨g, 0, ks[j], rfl, by rw [Nat.zero_add]; exact c1, ?_, ?_⟩ <;> simp [World.cell?, k2]
theorem own_ne {w : World} {B k n : Nat} {v : Value} {xs : List Value} {cs : Array Value} (h : w.ownsRow B 41 1 v n xs) (hk : w.heap[k]? = some (.cells cs 46 (0, 0))) : v.ownBlock ≠ some k := by
  intro e
  rcases h.2 with ⟨rfl, _⟩ | ⟨g, cap, cur, rfl, _, hg, _⟩
  · simp [Value.ownBlock] at e
  · simp [Value.ownBlock] at e
    subst e
    rw [hg] at hk
    simp at hk
theorem LS.push {B k : Nat} {v v' : Value} {ps : List (ByteArray × ByteArray)} {ks : List Nat} {w w' : World} {x y : ByteArray} (h1 : ks.length = ps.length) (h2 : w.ownsRow B 41 1 v ps.length (ks.map fun k => .pointer (some ⟨k, 0, none⟩)))
    (h3 : ∀ j (h : j < ps.length) (h2 : j < ks.length), B ≤ ks[j] ∧ w.heap[ks[j]]? = some (.cells #[.string ps[j].1, .string ps[j].2] 46 (0, 0))) (hk : B ≤ k) (hk1 : w.heap[k]? = some (.cells #[.string x, .string y] 46 (0, 0)))
    (hown' : w'.ownsRow B 41 1 v' (ps.length + 1) ((ks.map fun k => .pointer (some ⟨k, 0, none⟩)) ++ [.pointer (some ⟨k, 0, none⟩)])) (hg : w.grownBy w' v.ownBlock) : LS B v' (ps ++ [(x, y)]) w' := by
  refine ⟨ks ++ [k], by simp [h1], by rw [List.length_append, List.map_append]; exact hown', fun j hj hj2 => ?_⟩
  have keep : ∀ {q : Nat} {cs : Array Value}, w.heap[q]? = some (.cells cs 46 (0, 0)) → w'.heap[q]? = some (.cells cs 46 (0, 0)) := by
    intro q cs hq
    rw [hg.block _ (Array.getElem?_eq_some_iff.1 hq).1 (fun e => own_ne h2 hq e.symm)]; exact hq
  by_cases hjl : j < ps.length
  · have hjk : j < ks.length := by omega
    have ⟨a, b⟩ := h3 j hjl hjk
    rw [List.getElem_append_left hjk, List.getElem_append_left hjl]
    exact ⟨a, keep b⟩
  · have e : j = ps.length := by simp at hj; omega
    subst e
    have e1 : (ks ++ [k])[ps.length] = k := by simp [← h1]
    have e2 : (ps ++ [(x, y)])[ps.length] = (x, y) := by simp
    rw [e1, e2]
    exact ⟨hk, keep hk1⟩
theorem Tryz_info41 : (Tryz.prog.info? 41).map (fun i => (i.zero, i.size, i.bytes)) = some (some (.pointer none), 1, 8) := by kernel_rfl

set_option maxRecDepth 100000 in
set_option maxHeartbeats 6400000 in
/-- parseAddressList. -/
theorem f32 {b : Nat} {w : World} (its : List It) (i0 : It) (r0 : List It) (hits : its = i0 :: r0) (h : PAt b (mk (i0.F ++ tailT r0)) w) (hok : ∀ i ∈ its, i.Ok) (hn : its.length ≤ 1000) :
    Calls Tryz.prog 32 #[.pointer (some ⟨b, 0, none⟩)] w fun e w' => ∃ v, e = .returned (.tuple #[v, .nilIface]) ∧ Ptrs w' v (its.map itPr) ∧ w.grownBy w' (some b) := by
  have hlt := h.lt
  have HP := Lib.hid h
  have HOK := Lib.hid hok
  have HI := Lib.hid hits
  clear h hok hits
  obtain ⟨ti, hi, hz0, hz1, hz2⟩ := info_parts Tryz_info41
  go_enter Tryz.func32, Tryz.ntmps32
  go_wp2_with fail
  go_loopw [4] (fun v wr => ∃ (done : List It) (i : It) (rest : List It), its = done ++ i :: rest ∧ LS w.heap.size v (done.map itPr) wr ∧ PAt b (mk (i.F ++ tailT rest)) wr ∧ w.grownBy wr (some b)) (fun _ wr => txt b wr)
  case atStart => exact ⟨[], i0, r0, HI.out, ⟨[], rfl, World.ownsRow_nil _ _ _ _, fun j hj => by simp at hj⟩, HP.out, grownBy_refl _ _⟩
  case round =>
    clear HP HI
    obtain ⟨done, i, rest, hits, hL, hP, G⟩ := hrel
    have hm : txt b wr = (i.F ++ tailT rest).length := by rw [hP.txt, mk_size]
    obtain ⟨-, -, hA, hFl⟩ := HOK.out i (by rw [hits]; simp)
    have htl := tailT_len rest (fun x hx => HOK.out x (by rw [hits]; simp [hx]))
    have hrl : rest.length ≤ 1000 := by rw [hits] at hn; simp at hn; omega
    have hdl : done.length ≤ 1000 := by rw [hits] at hn; simp at hn; omega
    obtain ⟨⟨c, tl, hF, hc1, hc2, hc3, hc4⟩, hA2⟩ := hA
    have HA := Lib.hid hA2
    have HM := Lib.hid hm
    have HS := Lib.hid hits
    have HF := Lib.hid hF
    have htl2 : (tailT rest).length ≤ 200007000 := by omega
    clear hm hits hA2 htl hF
    go_wp2_with fail
    have hPc : PAt b (mk (c :: (tl ++ tailT rest))) wr := by have h := hP; rw [HF.out] at h; exact h
    refine (f46_0 _ hPc (by intro x hx; simp at hx; subst hx; exact ⟨hc2, hc1⟩) (by have := HF.out; rw [this] at hFl; simp at hFl ⊢; omega)).mono ?_
    rintro e w1 ⟨rfl, hP1, hg1⟩
    have G1 := grownBy_trans G hg1
    have L1 := hL.kept hg1 hlt
    clear hPc hP G hL hg1
    go_wp2_with fail
    refine (f47n hP1 44 (by omega)).mono ?_
    rintro e w' ⟨rfl, rfl⟩
    have hP1' : PAt b (mk ([] ++ (i.F ++ tailT rest))) w1 := by have h := hP1; rw [HF.out]; exact h
    clear hP1
    go_wp2_with fail
    refine (HA.out b w1 [] (tailT rest) (by simp) (by simp; omega) hP1').mono ?_
    rintro e w2 ⟨va, rfl, ⟨g, k, hg, hk, rfl, hg1, hk1⟩, hP2, hg2⟩
    have G2 := grownBy_trans G1 hg2
    have L2 := L1.kept hg2 hlt
    obtain ⟨ks, hks, hown, hpt⟩ := L2
    have s1 := G1.size
    have s2 := G2.size
    have cg : w2.cell? ⟨g, 0, none⟩ = some (.pointer (some ⟨k, 0, none⟩)) := by simp [World.cell?, hg1]
    have HO := Lib.hid hown
    have HPT := Lib.hid hpt
    have HKS := Lib.hid hks
    have HK1 := Lib.hid hk1
    have HP2 := Lib.hid hP2
    have HG2 := Lib.hid G2
    clear hP1' G1 L1 hg2 hown hpt hks hk1 hg1 hP2 G2
    have hdl2 : (done.map itPr).length ≤ 1000 := by simp; omega
    go_wp2_with (at_builtin; refine wpList_append_own _ rfl _ _ 49 rfl w.heap.size 41 ti (.pointer none) 1 8 Tryz.underlying49 hi hz0 hz1 hz2 rfl (by decide) _ _ _ rfl HO.out ⟨g, 0, none⟩ 1 1 [.pointer (some ⟨k, 0, none⟩)] rfl rfl ?c1 ?c2 ?c3 ?c4 ?c5 ?_)
    case c1 =>
      intro j u hj
      match j, hj with
      | 0, hj => simp at hj; subst hj; simpa [Addr.add] using cg
    case c2 => intro u hu; simp at hu; subst hu; rfl
    case c3 => unfold maxLen; omega
    case c4 => omega
    case c5 => omega
    intro v' w3 hown' hgrow _
    have L3 : LS w.heap.size v' ((done ++ [i]).map itPr) w3 := by
      have := LS.push (x := mk i.nm) (y := mk i.adr) HKS.out HO.out HPT.out (by omega) HK1.out (by simpa using hown') hgrow
      simpa [itPr] using this
    have hne : some b ≠ _ := fun e => by have := (HO.out.lt b e.symm).1; omega
    have hP3 : PAt b (mk (tailT rest)) w3 := by
      unfold PAt
      rw [hgrow.block b (by omega) hne]; exact HP2.out
    have G3 : w.grownBy w3 (some b) := ⟨hgrow.os.trans HG2.out.os, hgrow.tape.trans HG2.out.tape, hgrow.output.trans HG2.out.output, Nat.le_trans HG2.out.size hgrow.size, fun q hq hqb => (hgrow.block q (by omega) (fun e => by have := (HO.out.lt q e.symm).1; omega)).trans (HG2.out.block q hq hqb)⟩
    clear hown' hgrow HKS HO HPT HK1 HP2 HG2 cg hdl2 hg hk hne
    have hs3 := G3.size
    cases rest with
    | nil =>
      have hP3' : PAt b (mk ([] ++ [])) w3 := hP3
      clear hP3
      go_wp2_with fail
      refine (f34 [] [] hP3' (by simp) (by simp) (by simp)).mono ?_
      rintro e w4 ⟨rfl, hP4, hg4⟩
      have hpr4 : Ptrs w4 v' (its.map itPr) := by rw [HS.out]; exact (L3.kept hg4 hlt).ptrs
      have G4 := grownBy_trans G3 hg4
      clear hP3' hg4 L3 G3
      go_wp2_with fail
      refine (f36e hP4).mono ?_
      rintro e w' ⟨rfl, rfl⟩
      clear hP4
      go_wp2
      go_ret2
      exact ⟨_, rfl, hpr4, G4⟩
    | cons q rest =>
      obtain ⟨⟨hb1, hb1l⟩, ⟨hb2, hb2l⟩, ⟨⟨c', tl', hF', hc1', hc2', hc3', hc4'⟩, -⟩, hFl'⟩ := HOK.out q (by rw [HS.out]; simp)
      have HB1 := Lib.hid hb1
      have HB2 := Lib.hid hb2
      have HF' := Lib.hid hF'
      have hP3' : PAt b (mk (q.b1 ++ 44 :: (q.b2 ++ (q.F ++ tailT rest)))) w3 := hP3
      have hle : q.b1.length + (q.b2.length + (q.F.length + (tailT rest).length)) ≤ 200007000 := by
        have : (tailT (q :: rest)).length = q.b1.length + (q.b2.length + (q.F.length + (tailT rest).length)) + 1 := by simp [tailT]; omega
        omega
      have htxt : (i.F ++ tailT (q :: rest)).length > (q.F ++ tailT rest).length := by simp [tailT]; omega
      have HTX := Lib.hid htxt
      clear hP3 hb1 hb2 hF' htxt htl2
      go_wp2_with fail
      refine (f34 q.b1 (44 :: (q.b2 ++ (q.F ++ tailT rest))) hP3' HB1.out (by intro x hx; simp at hx; subst hx; decide) (by simp; omega)).mono ?_
      rintro e w4 ⟨rfl, hP4, hg4⟩
      have G4 := grownBy_trans G3 hg4
      have L4 := L3.kept hg4 hlt
      clear hP3' hg4 L3 G3
      go_wp2_with fail
      refine (f36c hP4).mono ?_
      rintro e w' ⟨rfl, rfl⟩
      go_wp2_with fail
      refine (f48 hP4).mono ?_
      rintro e w' ⟨rfl, rfl⟩
      go_wp2_with fail
      refine wp_loop_rounds 2 ?_
      rw [rounds_succ]
      go_wp2_with fail
      refine (f47y hP4 44 (by decide)).mono ?_
      rintro e w5 ⟨rfl, hP5, hg5⟩
      have G5 := grownBy_trans G4 hg5
      have L5 := L4.kept hg5 hlt
      clear hP4 hg5 L4 G4
      go_wp2_with fail
      refine (f46 q.b2 (q.F ++ tailT rest) hP5 HB2.out (by rw [HF'.out]; intro x hx; simp at hx; subst hx; exact ⟨hc2', hc1'⟩) (by simp; omega)).mono ?_
      rintro e w6 ⟨rfl, hP6, hg6⟩
      have G6 := grownBy_trans G5 hg6
      have L6 := L5.kept hg6 hlt
      have hPc : PAt b (mk (c' :: (tl' ++ tailT rest))) w6 := by have h := hP6; rw [HF'.out] at h; exact h
      clear hP5 hg6 L5 G5
      go_wp2_with fail
      rw [rounds_succ]
      go_wp2_with fail
      refine (f47n hPc 44 (by omega)).mono ?_
      rintro e w' ⟨rfl, rfl⟩
      go_wp2_with fail
      refine (f36c hPc).mono ?_
      rintro e w' ⟨rfl, rfl⟩
      clear hPc
      go_wp2_with fail
      go_roundw
      case rel => exact ⟨done ++ [i], q, rest, by rw [HS.out]; simp, L6, hP6, G6⟩
      case measure =>
        rw [hP6.txt, HM.out, mk_size]
        exact HTX.out

/-- mail.ParseAddressList. -/
theorem f19 {w : World} (its : List It) (i0 : It) (r0 : List It) (hits : its = i0 :: r0) (hok : ∀ i ∈ its, i.Ok) (hn : its.length ≤ 1000) :
    Calls Tryz.prog 19 #[.string (mk (i0.F ++ tailT r0))] w fun e w' => ∃ v, e = .returned (.tuple #[v, .nilIface]) ∧ Ptrs w' v (its.map itPr) ∧ Below w.heap.size w w' := by
  have hP : PAt w.heap.size (mk (i0.F ++ tailT r0)) (w.alloc (.cells #[.string (mk (i0.F ++ tailT r0)), .pointer none] 63)) := heap_alloc_new w _
  have hb : Below w.heap.size w (w.alloc (.cells #[.string (mk (i0.F ++ tailT r0)), .pointer none] 63)) := (Below.refl _ _).alloc (Nat.le_refl _) _
  have H := f32 its i0 r0 hits hP hok hn
  generalize mk (i0.F ++ tailT r0) = s at *
  clear hits hok hP
  go_enter Tryz.func19, Tryz.ntmps19
  go_wp2_with fail
  refine H.mono ?_
  rintro e w1 ⟨v, rfl, hp, hg⟩
  have hb1 : Below w.heap.size w w1 := hb.trans (below_of_grownBy hg (by simp) (by intro k hk; simp at hk; omega))
  go_wp2
  go_ret2
  exact ⟨v, rfl, hp, hb1⟩

/-- impl.ParseList. -/
theorem f11 {w : World} (its : List It) (i0 : It) (r0 : List It) (hits : its = i0 :: r0) (hok : ∀ i ∈ its, i.Ok) (hn : its.length ≤ 1000) :
    Calls Tryz.prog 11 #[.string (mk (i0.F ++ tailT r0))] w fun e w' => ∃ v, e = .returned (.tuple #[v, .bool true]) ∧ Prs w' v (its.map itPr) ∧ Below w.heap.size w w' := by
  have H := f19 (w := w) its i0 r0 hits hok hn
  generalize mk (i0.F ++ tailT r0) = s at *
  clear hits hok
  go_enter Tryz.func11, Tryz.ntmps11
  go_wp2_with fail
  refine H.mono ?_
  rintro e w1 ⟨v, rfl, hp, hb⟩
  clear H
  go_wp2_with fail
  refine (f20 v _ hp (by simpa using hn)).mono ?_
  rintro e w2 ⟨v2, rfl, hp2, hb2⟩
  have hb3 := hb.trans (hb2.mono hb.size)
  clear hp hb hb2
  go_wp2
  go_ret2
  exact ⟨v2, rfl, hp2, hb3⟩
end Go.Proofs.YtbigjdlcmlopcaaGreatDoor
