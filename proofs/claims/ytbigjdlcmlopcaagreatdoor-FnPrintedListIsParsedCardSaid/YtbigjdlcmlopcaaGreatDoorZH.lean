import Derived.Test.YtbigjdlcmlopcaaGreatDoorZG
import Derived.Deep.DeepCutAuto
import Derived.Deep.RegionWith
namespace Go.Proofs.YtbigjdlcmlopcaaGreatDoor
open Go.RowKit

/-- The printed list. -/
def listT : List It → List UInt8
  | [] => []
  | i :: r => i.F ++ tailT r
theorem tailT_append (a b : List It) : tailT (a ++ b) = tailT a ++ tailT b := by
  induction a with
  | nil => rfl
  | cons i a ih => simp [tailT, ih]
theorem listT_one (a : List It) (i : It) (h : a ≠ []) : listT (a ++ [i]) = listT a ++ (i.b1 ++ 44 :: i.b2) ++ i.F := by
  cases a with
  | nil => exact absurd rfl h
  | cons j a => simp [listT, tailT_append, tailT]
theorem rt8a {w : World} (n l d : ByteArray) (hl : DotOk l.data.toList) (hd : DotOk d.data.toList) (hn : n.size ≤ 5000) (hm : l.size ≤ 5000) (ho : d.size ≤ 5000) (h92 : (∀ c ∈ n.data.toList, okc c = true) ∨ ∀ c ∈ n.data.toList, c ≠ 92) (hT : Lib.Utf8Tabs 0 1 w) :
    Calls Tryz.prog 8 #[.agg #[.string n, .string (l ++ ⟨#[64]⟩ ++ d)]] w fun r w' => (∃ F : List UInt8, r = .returned (.string (mk F)) ∧ AddrOk F n.data.toList (l.data.toList ++ 64 :: d.data.toList) ∧ F.length ≤ 200000) ∧ Below w.heap.size w w' := by
  have e1 : mk n.data.toList = n := mk_of n
  have e2 : mk (l.data.toList ++ 64 :: d.data.toList) = l ++ ⟨#[64]⟩ ++ d := by
    apply ByteArray.ext; simp [mk]
  have H := f8 (w := w) n.data.toList l.data.toList d.data.toList hd.not64 hl.ascii hn hm ho hT
  rw [e1, e2] at H
  refine H.mono ?_
  rintro r w1 ⟨⟨S, T, hS, hTn, rfl⟩, hb⟩
  have hA := addrOk hTn h92 hS hl.1 hl.ascii hd hm hn
  have l1 := locS_len hS
  have l2 := nameT_len hTn
  have l3 : n.data.toList.length = n.size := rfl
  have l4 : l.data.toList.length = l.size := rfl
  have l5 : d.data.toList.length = d.size := rfl
  exact ⟨⟨_, rfl, hA, by simp only [List.length_append, List.length_cons, List.length_nil]; omega⟩, hb⟩

theorem meetA {wr w1 : World} (hb1 : Below wr.drew.heap.size wr.drew w1) (o : Obj) : Below wr.heap.size wr (w1.alloc o) := by
  have h : Below wr.heap.size wr w1 := ⟨hb1.os, hb1.tape, hb1.output, hb1.size, hb1.block⟩
  exact h.alloc hb1.size o
theorem meetB {wr w1 : World} {o : Obj} (hb1 : Below (wr.alloc o).drew.heap.size (wr.alloc o).drew w1) (x y : Value) : Below wr.heap.size wr ((w1.setCell ⟨wr.heap.size, 0, none⟩ x).setCell ⟨wr.heap.size, 1, none⟩ y) := by
  have hs : (wr.alloc o).drew.heap.size = wr.heap.size + 1 := by simp [World.drew]
  have h : Below wr.heap.size wr w1 := ⟨hb1.os, hb1.tape, hb1.output, by have := hb1.size; omega, fun q hq => (hb1.block q (by omega)).trans (Below.heap_alloc wr o q hq)⟩
  exact (h.setCell (Nat.le_refl _) _).setCell (Nat.le_refl _) _
def MeetR (n l d : ByteArray) (wr : World) (p bv : Value) (wx : World) : Prop := ∃ K x y bb, p = .pointer (some ⟨K, 0, none⟩) ∧ bv = .bool bb ∧ wx.heap[K]? = some (.cells #[.string x, .string y] 23 (0, 0)) ∧ wr.heap.size ≤ K ∧ (bb = true → x = n ∧ y = l ++ ⟨#[64]⟩ ++ d ∧ MadeOk n l d) ∧ Below wr.heap.size wr wx
theorem meetRA {n l d : ByteArray} {wr w1 : World} {x y : ByteArray} {bb : Bool} (hm : bb = true → x = n ∧ y = l ++ ⟨#[64]⟩ ++ d ∧ MadeOk n l d) (hb1 : Below wr.drew.heap.size wr.drew w1) : MeetR n l d wr (.pointer (some ⟨w1.heap.size, 0, none⟩)) (.bool bb) (w1.alloc (.cells #[.string x, .string y] 23)) :=
  ⟨w1.heap.size, x, y, bb, rfl, rfl, heap_alloc_new w1 _, hb1.size, hm, meetA hb1 _⟩
theorem meetRB {n l d : ByteArray} {wr w1 : World} {o : Obj} {x y a b : ByteArray} {bb : Bool} (hm : bb = true → x = n ∧ y = l ++ ⟨#[64]⟩ ++ d ∧ MadeOk n l d) (hb1 : Below (wr.alloc o).drew.heap.size (wr.alloc o).drew w1) (hz : w1.heap[wr.heap.size]? = some (.cells #[.string a, .string b] 23 (0, 0))) :
    MeetR n l d wr (.pointer (some ⟨wr.heap.size, 0, none⟩)) (.bool bb) ((w1.setCell ⟨wr.heap.size, 0, none⟩ (.string x)).setCell ⟨wr.heap.size, 1, none⟩ (.string y)) :=
  ⟨wr.heap.size, x, y, bb, rfl, rfl, put2 hz _ _, Nat.le_refl _, hm, meetB hb1 _ _⟩
def pfx (its : List It) (b1 b2 : List UInt8) : List UInt8 := if its.length = 0 then [] else listT its ++ (b1 ++ 44 :: b2)
theorem listT_len (l : List It) (h : ∀ i ∈ l, i.Ok) : (listT l).length ≤ 200007 * l.length := by
  cases l with
  | nil => simp [listT]
  | cons i r =>
    have h1 := tailT_len r (fun x hx => h x (by simp [hx]))
    obtain ⟨-, -, -, c⟩ := h i (by simp)
    simp only [listT, List.length_append, List.length_cons]
    omega
theorem pfx_len (l : List It) (b1 b2 : List UInt8) (h : ∀ i ∈ l, i.Ok) (h1 : Blank b1) (h2 : Blank b2) : (pfx l b1 b2).length ≤ 200007 * l.length + 7 := by
  have := listT_len l h
  have a := h1.2
  have b := h2.2
  unfold pfx
  split
  · simp
  · simp only [List.length_append, List.length_cons]; omega
theorem pfx_next (its : List It) (i : It) : pfx its i.b1 i.b2 ++ i.F = listT (its ++ [i]) := by
  unfold pfx
  by_cases h : its.length = 0
  · rw [if_pos h]
    have : its = [] := List.length_eq_zero_iff.1 h
    rw [this]; simp [listT, tailT]
  · rw [if_neg h, listT_one its i (fun e => h (by rw [e]; rfl))]

set_option maxRecDepth 100000 in
set_option maxHeartbeats 6400000 in
/-- The law of lists. -/
theorem f5 {w : World} (v0 v1 v3 : Value) (xs ys : List ByteArray) (d : ByteArray) (ns : List Int) (h0 : Strs w v0 xs) (h1 : Strs w v1 ys) (h3 : Ints w v3 ns) (s0 : xs.length ≤ 9223372036854775807) (t0 : ∀ x ∈ xs, x.size ≤ 9223372036854775807)
    (s1 : ys.length ≤ 9223372036854775807) (t1 : ∀ x ∈ ys, x.size ≤ 9223372036854775807) (hd : d.size ≤ 9223372036854775807) (s3 : ns.length ≤ 9223372036854775807) (hT : Lib.Utf8Tabs 0 1 w) :
    Calls Tryz.prog 5 #[v0, v1, .string d, v3] w fun e w' => e = .returned (.bool true) ∧ Below w.heap.size w w' := by
  obtain ⟨ti, hi, hz0, hz1, hz2⟩ := info_parts Tryz_info23
  have hsz := tabs_size hT
  have HT := Lib.hid hT
  have H0 := Lib.hid h0
  have H1 := Lib.hid h1
  have H3 := Lib.hid h3
  obtain ⟨a0, n0, c0, rfl, l0, k0, e0⟩ := h0
  obtain ⟨a1, n1, c1, rfl, l1, k1, e1⟩ := h1
  have D0 := Lib.hid e0
  have D1 := Lib.hid e1
  clear e0 e1
  obtain ⟨a3, n3, c3, rfl, l3, k3, -⟩ := h3
  have F0 := f9 _ xs H0.out s0 t0
  have F1 := f9 _ ys H1.out s1 t1
  have L0 := Lib.hid l0
  have L1 := Lib.hid l1
  have L3 := Lib.hid l3
  have hn0 : n0 ≤ 9223372036854775807 := by omega
  have hn1 : n1 ≤ 9223372036854775807 := by omega
  have hn3 : n3 ≤ 9223372036854775807 := by omega
  clear l0 l1 l3 s0 s1 s3 t0 t1 hT
  go_enter Tryz.func5, Tryz.ntmps5
  go_wp2_with fail
  refine F0.mono ?_
  rintro e w' ⟨⟨b0, rfl, g0⟩, rfl⟩
  have G0 := Lib.hid g0
  clear F0
  cases b0 with
  | false =>
    clear g0
    go_wp2
    go_ret
    exact ⟨rfl, Below.refl _ _⟩
  | true =>
  clear g0
  go_wp2_with fail
  refine F1.mono ?_
  rintro e w' ⟨⟨b1, rfl, g1⟩, rfl⟩
  have G1 := Lib.hid g1
  clear F1
  cases b1 with
  | false =>
    clear g1
    go_wp2
    go_ret
    exact ⟨rfl, Below.refl _ _⟩
  | true =>
  clear g1
  by_cases d1 : 2147483647 < d.size
  · have d2 : (2147483647 : Int) < d.size := by omega
    go_wp2
    go_ret
    exact ⟨rfl, Below.refl _ _⟩
  have d2 : ¬ (2147483647 : Int) < d.size := by omega
  by_cases q1 : 2147483647 < n3
  · have q2 : (2147483647 : Int) < n3 := by omega
    go_wp2
    go_ret
    exact ⟨rfl, Below.refl _ _⟩
  have q2 : ¬ (2147483647 : Int) < n3 := by omega
  by_cases z1 : n0 = 0
  · have z2 : ((n0 : Int) == 0) = true := by simp; omega
    clear z1
    go_wp2
    go_ret
    exact ⟨rfl, Below.refl _ _⟩
  have z2 : ((n0 : Int) == 0) = false := by simp; omega
  by_cases p1 : 100 < n0
  · have p2 : (100 : Int) < n0 := by omega
    clear z1
    go_wp2
    go_ret
    exact ⟨rfl, Below.refl _ _⟩
  have p2 : ¬ (100 : Int) < n0 := by omega
  by_cases e1 : ¬ n1 = n0
  · have e2 : ((n1 : Int) == n0) = false := by simp; omega
    have e3 : ((n1 : Int) != n0) = true := by simp; omega
    clear z1 e1
    go_wp2
    go_ret
    exact ⟨rfl, Below.refl _ _⟩
  have e4 : n0 = n1 := by omega
  clear e1
  subst e4
  have hpos : 0 < n0 := by omega
  clear z1
  have G0 : Hid (∀ x ∈ xs, x.size ≤ 2147483647) := (G0.out rfl).2
  have G1 : Hid (∀ x ∈ ys, x.size ≤ 2147483647) := (G1.out rfl).2
  go_wp2_with fail
  go_loopg [9, 10, 51] n0 (fun gk t v i wr => ∃ (k : Nat) (its : List It), gk = n0 - k ∧ k ≤ n0 ∧ i = .int .i64 k ∧ its.length = k ∧ Hid (∀ x ∈ its, x.Ok) ∧ t = .string (mk (listT its)) ∧ wr.ownsRow w.heap.size 23 2 v k (prCells (its.map itPr)) ∧ Below w.heap.size w wr)
  case atStart => exact ⟨0, [], rfl, Nat.zero_le _, rfl, rfl, Lib.hid (fun x hx => by cases hx), rfl, World.ownsRow_nil _ _ _ _, Below.refl _ _⟩
  case round =>
    obtain ⟨k, its, rfl, hk, rfl, hil, HIT, rfl, hown, hb⟩ := hrel
    have hbw := hb.size
    have HIL := Lib.hid hil
    have HO := Lib.hid hown
    have HB := Lib.hid hb
    clear hil hown
    by_cases hlt : k < n0
    · have hkl : k < xs.length := by have := L0.out; omega
      have hkl1 : k < ys.length := by have := L1.out; omega
      obtain ⟨b, o, rfl, x1⟩ := D0.out k hkl
      obtain ⟨b', o', rfl, y1⟩ := D1.out k hkl1
      have lb : b < w.heap.size := World.block_lt_of_cell? w _ x1
      have lb' : b' < w.heap.size := World.block_lt_of_cell? w _ y1
      have z1 := (hb.cell (p := ⟨b, _, none⟩) lb).trans x1
      have z2 := (hb.cell (p := ⟨b', _, none⟩) lb').trans y1
      have z3 := fun o => ((hb.alloc hbw o).cell (p := ⟨b, _, none⟩) lb).trans x1
      have z4 := fun o => ((hb.alloc hbw o).cell (p := ⟨b', _, none⟩) lb').trans y1
      have T0 : Hid (Lib.Utf8Tabs 0 1 wr.drew) := tabs_below HT.out hb.drew hsz
      have T1 : Hid (∀ o, Lib.Utf8Tabs 0 1 (wr.alloc o).drew) := fun o => tabs_below HT.out (hb.alloc hbw o).drew hsz
      have hxs := G0.out xs[k] (List.getElem_mem hkl)
      have hys := G1.out ys[k] (List.getElem_mem hkl1)
      clear x1 y1 lb lb' hb
      generalize xs[k] = n at *
      generalize ys[k] = l at *
      have hd3 : d.size ≤ 2147483647 := by omega
      have hlt2 : (k : Int) < n0 := by omega
      clear hkl hkl1
      go_upto_region 10 with fail
      go_cut [12, 13] (fun p bv wx => MeetR n l d wr p bv wx)
      case first =>
        go_region_with (first
          | (go_at_call 6; refine (f6 n l d hxs hys hd3 T0.out).mono ?_; rintro e w1 ⟨⟨x, y, bb, rfl, hm⟩, hb1⟩)
          | (go_at_call 6; refine (f6 n l d hxs hys hd3 (T1.out _)).mono ?_; rintro e w1 ⟨⟨x, y, bb, rfl, hm⟩, hb1⟩; have hz : w1.heap[wr.heap.size]? = some (.cells #[.string ⟨#[]⟩, .string ⟨#[]⟩] 23 (0, 0)) := (hb1.block _ (by simp [World.drew])).trans (heap_alloc_new wr _); obtain ⟨c0, c1, f0, f1⟩ := cells2 hz))
        all_goals (go_wp2_with fail; go_meet)
        all_goals first
          | exact meetRA hm hb1
          | exact meetRB hm hb1 hz
      case rest =>
        obtain ⟨K, x, y, bb, rfl, rfl, hr, hK, hm, hbx⟩ := hcut
        clear hxs hys hd3 z1 z2 z3 z4 T0 T1
        generalize wc = w2 at *
        obtain ⟨cc0, cc1, ff0, ff1⟩ := cells2 hr
        have hb2 := HB.out.trans (hbx.mono hbw)
        cases bb with
        | false =>
          clear hm hbx hr HB HO
          go_wp2
          go_ret
          exact ⟨rfl, hb2⟩
        | true =>
          obtain ⟨hx, rfl, hok1, hok2, hok3, hok4⟩ := hm rfl
          have hx := hx.symm
          subst hx
          have HM1 := Lib.hid hok1
          have HM2 := Lib.hid hok2
          have HM4 := Lib.hid hok4
          have hsl : l.size ≤ 4096 := by omega
          have hsn : n.size ≤ 4096 := by omega
          have hsd : d.size ≤ 4096 := by omega
          have HR := Lib.hid hr
          have HBX := Lib.hid hbx
          have HB2 := Lib.hid hb2
          clear hm hok1 hok2 hok3 hok4 hr hbx hb2 HB cc0 cc1 ff0 ff1
          obtain ⟨y, hy⟩ : ∃ y, y = l ++ ⟨#[64]⟩ ++ d := ⟨_, rfl⟩
          rw [← hy] at HR
          have HY := Lib.hid hy
          clear hy
          go_upto_if 70 with fail
          go_cut [9] (fun t wx => ∃ b1 b2, Blank b1 ∧ Blank b2 ∧ t = .string (mk (pfx its b1 b2)) ∧ Below w2.heap.size w2 wx)
          case first =>
            by_cases kz : k = 0
            · have kz2 : ¬ (0 : Int) < k := by omega
              have hp : listT its = pfx its [] [] := by
                have : its.length = 0 := by have := HIL.out; omega
                unfold pfx; rw [if_pos this, List.length_eq_zero_iff.1 this]; rfl
              clear kz
              go_wp2_with fail
              go_meet
              exact ⟨[], [], blank_lit.1, blank_lit.1, rfl, Below.refl _ _⟩
            · have kz2 : (0 : Int) < k := by omega
              have hp : ∀ b1 b2, listT its ++ (b1 ++ 44 :: b2) = pfx its b1 b2 := by
                have : ¬ its.length = 0 := by have := HIL.out; omega
                intro b1 b2; unfold pfx; rw [if_neg this]
              have HPF := Lib.hid hp
              have hnl : ns.length ≤ 2147483647 := by have := L3.out; omega
              have H10 := f10 _ ns (2 * k) (H3.out.below HB2.out) hnl (by omega)
              have e1 : ((2 * k : Nat) : Int) = 2 * (k : Int) := by omega
              rw [e1] at H10
              have hls : (mk (listT its)).size ≤ 30000000 := by rw [mk_size]; have := listT_len its HIT.out; have := HIL.out; omega
              clear kz hp
              go_wp2_with fail
              refine H10.mono ?_
              rintro e w3 ⟨bl1, rfl, hbl1, hb3⟩
              have H10b := f10 _ ns (2 * k + 1) ((H3.out.below HB2.out).below hb3) hnl (by omega)
              have e2 : ((2 * k + 1 : Nat) : Int) = 2 * (k : Int) + 1 := by omega
              rw [e2] at H10b
              have hz1 : (mk bl1).size ≤ 3 := by rw [mk_size]; exact hbl1.2
              clear H10
              go_wp2_with fail
              refine H10b.mono ?_
              rintro e w4 ⟨bl2, rfl, hbl2, hb4⟩
              have B4 := hb3.trans (hb4.mono hb3.size)
              have hz2 : (mk bl2).size ≤ 3 := by rw [mk_size]; exact hbl2.2
              clear H10b hb3 hb4
              go_wp2_with fail
              go_meet
              refine ⟨bl1, bl2, hbl1, hbl2, ?_, B4⟩
              rw [← HPF.out, show (⟨#[44]⟩ : ByteArray) = mk [44] from rfl, mk_append, mk_append, mk_append]
              simp
          case rest =>
            obtain ⟨b1, b2, hB1, hB2, rfl, hb3⟩ := hcut
            generalize wc = w3 at *
            have hKlt : K < w2.heap.size := (Array.getElem?_eq_some_iff.1 HR.out).1
            have hr3 : w3.heap[K]? = some (.cells #[.string n, .string y] 23 (0, 0)) := by rw [hb3.block _ hKlt]; exact HR.out
            have hw2 := HB2.out.size
            have hw3 := hb3.size
            have B3 := HB2.out.trans (hb3.mono hw2)
            have BX3 := HBX.out.trans (hb3.mono HBX.out.size)
            have H8 := rt8a n l d HM1.out HM2.out (by omega) (by omega) (by omega) HM4.out (tabs_below HT.out B3 hsz)
            rw [← HY.out] at H8
            obtain ⟨cc0, cc1, ff0, ff1⟩ := cells2 hr3
            have HR3 := Lib.hid hr3
            have HB3 := Lib.hid B3
            have HBX3 := Lib.hid BX3
            clear hr3 B3 BX3 hb3 HR HBX HB2 ff0 ff1
            go_wp2_with fail
            refine H8.mono ?_
            rintro e w4 ⟨⟨F, rfl, hA, hF⟩, hb4⟩
            have hr4 : w4.heap[K]? = some (.cells #[.string n, .string y] 23 (0, 0)) := by rw [hb4.block _ (by omega)]; exact HR3.out
            have B4 := HB3.out.trans (hb4.mono HB3.out.size)
            have BX4 := HBX3.out.trans (hb4.mono HBX3.out.size)
            have hO4 := HO.out.kept (grownBy_of_below none BX4) (Classical.em _)
            have hw4 := B4.size
            have HO4 := Lib.hid hO4
            have HB4 := Lib.hid B4
            have HA := Lib.hid hA
            clear H8 cc0 cc1 HR3 HB3 HBX3 hb4 BX4 hO4 HO B4 hA
            obtain ⟨cc0, cc1, -, -⟩ := cells2 hr4
            clear hr4
            have hpz : (mk (pfx its b1 b2)).size ≤ 30000000 := by rw [mk_size]; have := pfx_len its b1 b2 HIT.out hB1 hB2; have := HIL.out; omega
            have hFz : (mk F).size ≤ 200000 := by rw [mk_size]; exact hF
            have hpl : (its.map itPr).length = k := by rw [List.length_map]; exact HIL.out
            have hszk := prCells_len (its.map itPr)
            have HPL := Lib.hid hpl
            have HSZ := Lib.hid hszk
            clear hpl hszk
            go_wp2_with (at_builtin; refine wpList_append_own _ rfl _ _ 32 rfl w.heap.size 23 ti (.agg #[.string ⟨#[]⟩, .string ⟨#[]⟩]) 2 32 Tryz.underlying32 hi hz0 hz1 hz2 rfl (by decide) _ _ _ rfl (HO4.out.alloc _) ⟨w4.heap.size, 0, none⟩ 1 1 [.string n, .string y] rfl rfl ?c1 ?c2 ?c3 ?c4 ?c5 ?_)
            case c1 =>
              intro j u hj
              match j, hj with
              | 0, hj => simp at hj; subst hj; simp [Addr.add]
              | 1, hj => simp at hj; subst hj; simp [Addr.add]
            case c2 => intro u hu; simp at hu; rcases hu with rfl | rfl <;> rfl
            case c3 => unfold maxLen; omega
            case c4 => omega
            case c5 => simp; omega
            intro v' w5 hown' hgrow _
            have hb5 := (HB4.out.alloc hw4 (.cells #[.string n, .string y] 23)).trans (below_of_grownBy hgrow (by simp; omega) (fun g hg => (HO4.out.lt g hg).1))
            have HO5 := Lib.hid hown'
            have HB5 := Lib.hid hb5
            clear hown' hgrow hb5 HO4 HB4 cc0 cc1 hpz hFz
            go_wp2_with fail
            go_roundg (n0 - (k + 1))
            case measure => omega
            case rel =>
              have e2 : mk (l.data.toList ++ 64 :: d.data.toList) = y := by
                rw [HY.out]; apply ByteArray.ext; simp [mk]
              refine ⟨k + 1, its ++ [⟨b1, b2, F, n.data.toList, l.data.toList ++ 64 :: d.data.toList⟩], rfl, by omega, by go_num, by rw [List.length_append, HIL.out]; rfl, Lib.hid ?_, ?_, ?_, HB5.out⟩
              · intro x hx
                rcases List.mem_append.1 hx with h | h
                · exact HIT.out x h
                · simp at h; subst h
                  exact ⟨hB1, hB2, HA.out, hF⟩
              · rw [mk_append]
                exact congrArg (fun t => Value.string (mk t)) (pfx_next its ⟨b1, b2, F, n.data.toList, l.data.toList ++ 64 :: d.data.toList⟩)
              · rw [List.map_append, prCells_append]
                have : prCells ([(⟨b1, b2, F, n.data.toList, l.data.toList ++ 64 :: d.data.toList⟩ : It)].map itPr) = [.string n, .string y] := by
                  simp [prCells, itPr, mk_of, e2]
                rw [this]; exact HO5.out
    · obtain rfl : k = n0 := by omega
      have hpr := own_prs HO.out (by rw [List.length_map]; exact HIL.out.symm)
      have hok := HIT.out
      have hn1000 : its.length ≤ 1000 := by have := HIL.out; omega
      have hnl : (its.map itPr).length ≤ 1000 := by rw [List.length_map]; exact hn1000
      obtain ⟨i0, r0, hits⟩ : ∃ i0 r0, its = i0 :: r0 := by
        cases its with
        | nil => have := HIL.out; simp at this; omega
        | cons i r => exact ⟨i, r, rfl⟩
      have H11 := f11 (w := wr) its i0 r0 hits hok hn1000
      have e0 : listT its = i0.F ++ tailT r0 := by rw [hits]; rfl
      rw [← e0] at H11
      clear hits e0 hok HIT HO HIL
      generalize listT its = L at *
      generalize its.map itPr = ps at *
      go_wp2_with fail
      refine H11.mono ?_
      rintro e w1 ⟨v1, rfl, hp1, hb1⟩
      have hpr1 := hpr.below hb1
      have B1 := HB.out.trans (hb1.mono hbw)
      clear hpr H11 hb1
      go_wp2_with fail
      refine (f13 _ ps hpr1 hnl).mono ?_
      rintro e w2 ⟨v2, rfl, hp2, hb2⟩
      have hp3 := hp1.below hb2
      have B2 := B1.trans (hb2.mono B1.size)
      clear hpr1 hp1 hb2
      go_wp2_with fail
      refine (f12 _ _ ps hp3 hp2 hnl).mono ?_
      rintro e w3 ⟨rfl, hb3⟩
      have B3 := B2.trans (hb3.mono B2.size)
      clear hp3 hp2 hb3
      go_wp2
      go_ret
      exact ⟨rfl, B3⟩
end Go.Proofs.YtbigjdlcmlopcaaGreatDoor
