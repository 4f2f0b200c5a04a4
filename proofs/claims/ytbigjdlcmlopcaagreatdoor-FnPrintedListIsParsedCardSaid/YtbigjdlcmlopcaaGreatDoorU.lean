import Derived.Test.YtbigjdlcmlopcaaGreatDoorT
import Derived.Deep.DeepCutAuto
namespace Go.Proofs.YtbigjdlcmlopcaaGreatDoor
open Go.RowKit

/-- A sign of the part ahead of the sign @ that needs no quotes, at its place. -/
def fine (l : List UInt8) (j : Nat) : Prop := ∃ c, l[j]? = some c ∧ (atx c.toNat false = true ∨ (c = 46 ∧ 0 < j ∧ l[j - 1]? ≠ some 46 ∧ j + 1 < l.length))
/-- What is printed ahead of and behind the sign @. -/
def LocS (loc dom S : List UInt8) : Prop := (S = loc ++ 64 :: dom ∧ ∀ j, j < loc.length → fine loc j) ∨ S = 34 :: (esc loc ++ [34]) ++ 64 :: dom
/-- What is printed of a name. -/
def NameT (nm T : List UInt8) : Prop := (nm = [] ∧ T = []) ∨ (nm ≠ [] ∧ (∀ c ∈ nm, okc c = true) ∧ T = 34 :: (esc nm ++ [34]) ++ [32]) ∨
  ((∃ x ∈ nm, okc x = false) ∧ ∃ (cs : List (List UInt8)) (cur : List UInt8), nm = cs.flatten ++ cur ∧ 0 < cur.length ∧ (∀ c ∈ cs, 0 < c.length) ∧ (T = hdr 98 ++ wtext b64 98 cs cur ++ [63, 61] ++ [32] ∨ (T = hdr 113 ++ wtext qenc 113 cs cur ++ [63, 61] ++ [32] ∧ ∀ x ∈ nm, x ∉ nameSp)))

set_option maxRecDepth 100000 in
set_option maxHeartbeats 6400000 in
/-- Address.String. -/
theorem f18 {w : World} (k : Nat) (nm loc dom : List UInt8) (hk : w.heap[k]? = some (.cells #[.string (mk nm), .string (mk (loc ++ 64 :: dom))] 46 (0, 0))) (hd : (64 : UInt8) ∉ dom) (hloc : ∀ x ∈ loc, 32 ≤ x.toNat ∧ x.toNat ≤ 126) (hn1 : nm.length ≤ 5000) (hn2 : loc.length ≤ 5000) (hn3 : dom.length ≤ 5000) (hT : Lib.Utf8Tabs 0 1 w) :
    Calls Tryz.prog 18 #[.pointer (some ⟨k, 0, none⟩)] w fun r w' => (∃ S T, LocS loc dom S ∧ NameT nm T ∧ r = .returned (.string (mk (T ++ 60 :: (S ++ [62]))))) ∧ Below w.heap.size w w' := by
  have c0 : w.cell? ⟨k, 0, none⟩ = some (.string (mk nm)) := by rw [Lib.cell_of_heap hk]; rfl
  have hsz := tabs_size hT
  obtain ⟨s, hs⟩ : ∃ s, s = mk (loc ++ 64 :: dom) := ⟨_, rfl⟩
  rw [← hs] at hk
  have c1 : w.cell? ⟨k, 1, none⟩ = some (.string s) := by rw [Lib.cell_of_heap hk]; rfl
  have hx1 : s.extract 0 loc.length = mk loc := by rw [hs, mk_extract]; simp
  have hss : s.size = loc.length + dom.length + 1 := by rw [hs, mk_size]; simp; omega
  have hx2 : s.extract (loc.length + 1) s.size = mk dom := by
    rw [hss, hs, mk_extract]
    rw [show loc ++ 64 :: dom = (loc ++ [64]) ++ dom by simp, List.drop_left' (by simp), List.take_of_length_le (by omega)]
  have HA := f24at (w := w) loc dom hd (by omega)
  rw [← hs] at HA
  have HTT := Lib.hid hT
  have HLOC := Lib.hid hloc
  have hl1 : (0 : Int) ≤ loc.length := by omega
  have hl2 : (loc.length : Int) + 1 ≤ s.size := by omega
  have hl3 : loc.length + 1 ≤ s.size := by omega
  have hl4 : loc.length ≤ s.size := by omega
  have hl5 : (loc.length : Int) ≤ s.size := by omega
  have hwr : IntKind.i64.wrap ((loc.length : Int) + 1) = (loc.length : Int) + 1 := IntWalk.i64_in _ (by omega)
  obtain ⟨sl, hsl⟩ : ∃ sl, sl = mk loc := ⟨_, rfl⟩
  rw [← hsl] at hx1
  have hslz : sl.size = loc.length := by rw [hsl, mk_size]
  have HSL := Lib.hid hsl
  clear hs hT hloc hd hss hsl
  go_enter Tryz.func18, Tryz.ntmps18
  go_wp2_with fail
  refine HA.mono ?_
  rintro r w1 ⟨rfl, rfl⟩
  go_wp2_with fail
  go_region
  go_upto_block 0 with fail
  have hb0 : Below w.heap.size w (w.drew.iter sl 0) := (Below.refl _ _).drew.alloc (Nat.le_refl _) _
  have hit0 : (w.drew.iter sl 0).heap[w.heap.size]? = some (.stringIter sl 0) := World.iter_heap w.drew sl 0
  generalize w.drew.iter sl 0 = w1 at *
  go_cut [6] (fun qv wx => Below w.heap.size w wx ∧ (qv = .bool true ∨ (qv = .bool false ∧ ∀ j, j < loc.length → fine loc j)))
  case first =>
    go_wp2_with fail
    go_loopw [6] (fun qv wr => qv = .bool false ∧ ∃ p : Nat, p ≤ loc.length ∧ wr.heap[w.heap.size]? = some (.stringIter sl p) ∧ Below w.heap.size w wr ∧ ∀ j, j < p → fine loc j) (fun _ wr => sl.size - wr.iterPos w.heap.size)
    case atStart => exact ⟨rfl, 0, Nat.zero_le _, hit0, hb0, fun j hj => by omega⟩
    case round =>
      clear hit0 hb0
      obtain ⟨rfl, p, hp, hit, hb, hfi⟩ := hrel
      have HFI := Lib.hid hfi
      clear hfi
      by_cases hlt : p < loc.length
      · have hp2 : p < sl.size := by omega
        have hslp : sl[p] = loc[p] := by have h := HSL.out; subst h; rw [mk_get]
        have hok := HLOC.out loc[p] (List.getElem_mem hlt)
        rw [← hslp] at hok
        have hnx : ∀ ty, (Instr.next (.pointer (some ⟨w.heap.size, 0, none⟩)) true ty).run Tryz.prog wr = _ := fun ty => Lib.run_next_ascii_at wr w.heap.size sl p ty hit hp2 (by omega)
        have hit1 := Lib.iterAt_heap wr w.heap.size sl p (p + 1) hit
        have hb1 := Lib.below_iterAt hb (Nat.le_refl _) sl (p + 1)
        have hm1 : sl.size - (p + 1) < sl.size - wr.iterPos w.heap.size := by simp only [World.iterPos, hit]; omega
        clear hit hb
        generalize hW : wr.iterAt w.heap.size sl (p + 1) = wi at *
        clear hW
        have hgp : loc[p]? = some sl[p] := by rw [List.getElem?_eq_getElem hlt, hslp]
        have HGP := Lib.hid hgp
        clear hgp hslp
        obtain ⟨av, hav⟩ : ∃ av, av = atx (sl[p].toNat : Int) false := ⟨_, rfl⟩
        have HAV := Lib.hid hav
        have H25 := f25 (sl[p].toNat : Int) false wi
        rw [← hav] at H25
        clear hav
        go_wp2_with fail
        refine H25.mono ?_
        rintro r w2 ⟨rfl, rfl⟩
        cases av with
        | true =>
          go_wp2_with fail
          go_roundw
          case rel => exact ⟨rfl, p + 1, by omega, hit1, hb1, fun j hj => by
            by_cases hjp : j < p
            · exact HFI.out j hjp
            · obtain rfl : j = p := by omega
              exact ⟨_, HGP.out, .inl HAV.out.symm⟩⟩
          case measure => simp only [World.iterPos, hit1]; exact hm1
        | false =>
          by_cases h46 : sl[p].toNat = 46
          · have b1 : ((sl[p].toNat : Int) == 46) = true := by simp; omega
            by_cases hp0 : 0 < p
            · have hp1 : p - 1 < sl.size := by omega
              have hpi : (0 : Int) < p := by omega
              have hpi2 : (0 : Int) ≤ (p : Int) - 1 := by omega
              have hpi3 : ((p : Int) - 1) < sl.size := by omega
              have hix : ∀ w, (Instr.index 9 (.string sl) (.int .i64 ((p : Int) - 1))).run Tryz.prog w = .ok (.int .u8 (sl[p - 1].toNat : Int)) w := by
                intro w
                have := run_index_string (P := Tryz.prog) w 9 sl .i64 ((p : Int) - 1) Tryz.underlying9
                rw [this]
                have e : ((p : Int) - 1).toNat = p - 1 := by omega
                simp only [e]
                rw [dif_pos ⟨hpi2, hpi3⟩]
              have hslq : sl[p - 1] = loc[p - 1] := by have h := HSL.out; subst h; rw [mk_get]
              have HQ : Hid (loc[p - 1]? = some sl[p - 1]) := by show _ = _; rw [List.getElem?_eq_getElem (by omega), hslq]
              clear hslq
              have H46 := Lib.hid h46
              clear h46
              obtain ⟨y, hy⟩ : ∃ y, y = sl[p - 1].toNat := ⟨_, rfl⟩
              rw [← hy] at hix
              have HY := Lib.hid hy
              clear hy
              by_cases hy46 : y = 46
              · have b2 : ((y : Int) != 46) = false := by simp; omega
                clear hy46
                go_wp2_with fail
                go_meet
                exact ⟨hb1, .inl rfl⟩
              · have b2 : ((y : Int) != 46) = true := by simp; omega
                have HYN := Lib.hid hy46
                clear hy46
                by_cases hpe : p + 1 < loc.length
                · have hpe2 : (p : Int) < (loc.length : Int) - 1 := by omega
                  go_wp2_with fail
                  go_roundw
                  case rel =>
                    refine ⟨rfl, p + 1, by omega, hit1, hb1, fun j hj => ?_⟩
                    by_cases hjp : j < p
                    · exact HFI.out j hjp
                    · obtain rfl : j = p := by omega
                      refine ⟨_, HGP.out, .inr ⟨?_, hp0, ?_, hpe⟩⟩
                      · apply UInt8.toNat_inj.1; exact H46.out
                      · rw [HQ.out]
                        intro h
                        have := Option.some.inj h
                        rw [this] at HY
                        exact HYN.out HY.out
                  case measure => simp only [World.iterPos, hit1]; exact hm1
                · have hpe2 : ¬ (p : Int) < (loc.length : Int) - 1 := by omega
                  go_wp2_with fail
                  go_meet
                  exact ⟨hb1, .inl rfl⟩
            · have hp1 : ¬ (0 : Int) < p := by omega
              go_wp2_with fail
              go_meet
              exact ⟨hb1, .inl rfl⟩
          · have b1 : ((sl[p].toNat : Int) == 46) = false := by simp; omega
            clear h46
            go_wp2_with fail
            go_meet
            exact ⟨hb1, .inl rfl⟩
      · obtain rfl : p = loc.length := by omega
        have hnx : ∀ ty, (Instr.next (.pointer (some ⟨w.heap.size, 0, none⟩)) true ty).run Tryz.prog wr = _ := fun ty => Lib.run_next_end_at wr w.heap.size sl loc.length ty hit (by omega)
        go_wp2_with fail
        go_meet
        exact ⟨hb, .inr ⟨rfl, HFI.out⟩⟩
  case rest =>
    obtain ⟨hb, hq⟩ := hcut
    have HOK : Hid (∀ x ∈ loc, okc x = true) := by
      show ∀ x ∈ loc, okc x = true
      intro x hx
      have := HLOC.out x hx
      exact decide_eq_true (by omega)
    go_upto_region 16 with fail
    go_cut [4] (fun v wx => Below w.heap.size w wx ∧ ∃ L, v = .string (mk L) ∧ LocS loc dom (L ++ 64 :: dom) ∧ L.length ≤ 10100)
    case first =>
      rcases hq with rfl | ⟨rfl, hf⟩
      · have H26 := f26 (w := wc) loc HOK.out (by omega)
        rw [← HSL.out] at H26
        go_wp2_with fail
        refine H26.mono ?_
        rintro r w2 ⟨rfl, hb2⟩
        go_wp2_with fail
        go_meet
        have := esc_le loc
        exact ⟨hb.trans (hb2.mono hb.size), 34 :: (esc loc ++ [34]), rfl, .inr rfl, by simp; omega⟩
      · have HF := Lib.hid hf
        clear hf
        go_wp2_with fail
        go_meet
        exact ⟨hb, loc, by rw [HSL.out], .inl ⟨rfl, HF.out⟩, by omega⟩
    case rest =>
      clear hb hq hx1 hslz HSL
      obtain ⟨hb, L, rfl, hL, hLl⟩ := hcut
      have c0' : _ := hb.cell (p := ⟨k, 0, none⟩) (Array.getElem?_eq_some_iff.1 hk).1
      rw [c0] at c0'
      have HL := Lib.hid hL
      have zL : (mk L).size ≤ 10100 := by rw [mk_size]; exact hLl
      have zd : (mk dom).size ≤ 5000 := by rw [mk_size]; exact hn3
      clear hL hk c0 c1
      go_upto_region 17 with fail
      have hX : (⟨#[60]⟩ : ByteArray) ++ mk L ++ ⟨#[64]⟩ ++ mk dom ++ ⟨#[62]⟩ = mk (60 :: (L ++ 64 :: dom ++ [62])) := by
        show mk [60] ++ mk L ++ mk [64] ++ mk dom ++ mk [62] = _
        rw [mk_append, mk_append, mk_append, mk_append]
        congr 1
        simp
      rw [hX]
      obtain ⟨X, hXX⟩ : ∃ X, X = mk (60 :: (L ++ 64 :: dom ++ [62])) := ⟨_, rfl⟩
      rw [← hXX]
      have zX : X.size ≤ 15200 := by rw [hXX, mk_size]; simp; omega
      have HXX := Lib.hid hXX
      clear hX hXX
      by_cases hnm : nm = []
      · subst hnm
        have c0'' : wc.cell? ⟨k, 0, none⟩ = some (.string ⟨#[]⟩) := c0'
        clear c0'
        go_wp2
        go_ret
        exact ⟨⟨L ++ 64 :: dom, [], HL.out, .inl ⟨rfl, rfl⟩, by rw [HXX.out]; rfl⟩, hb⟩
      · have hne : (mk nm).toList.isEmpty = false := by
          rw [Lib.toList_data, mk_data]
          cases nm with
          | nil => exact absurd rfl hnm
          | cons => rfl
        obtain ⟨sn, hsn⟩ : ∃ sn, sn = mk nm := ⟨_, rfl⟩
        rw [← hsn] at hne c0'
        have hsnz : sn.size = nm.length := by rw [hsn, mk_size]
        have HSN := Lib.hid hsn
        clear hsn
        go_upto_block 2 with fail
        have hb0' : Below w.heap.size w (wc.iter sn 0) := hb.alloc hb.size _
        have hit0' : (wc.iter sn 0).heap[wc.heap.size]? = some (.stringIter sn 0) := World.iter_heap wc sn 0
        have c2 : (wc.iter sn 0).cell? ⟨k, 0, none⟩ = some (.string sn) := by
          rw [← c0']
          exact ((Below.refl wc.heap.size wc).alloc (Nat.le_refl _) (.stringIter sn 0)).cell (p := ⟨k, 0, none⟩) (World.block_lt_of_cell? wc _ c0')
        have hbs := hb.size
        have hkw := World.block_lt_of_cell? wc _ c0'
        generalize wc.iter sn 0 = w2 at *
        clear c0' hb
        generalize wc.heap.size = H at *
        go_cut [10] (fun av wx => Below w.heap.size w wx ∧ wx.cell? ⟨k, 0, none⟩ = some (.string sn) ∧ ((av = .bool true ∧ ∀ c ∈ nm, okc c = true) ∨ (av = .bool false ∧ ∃ d c q, nm = d ++ c :: q ∧ (∀ y ∈ d, okc y = true) ∧ okc c = false)))
        case first =>
          go_wp2_with fail
          go_loopw [10] (fun av wr => av = .bool true ∧ ∃ p : Nat, p ≤ nm.length ∧ wr.heap[H]? = some (.stringIter sn p) ∧ Below w.heap.size w wr ∧ wr.cell? ⟨k, 0, none⟩ = some (.string sn) ∧ ∀ j (hj : j < nm.length), j < p → okc nm[j] = true) (fun _ wr => sn.size - wr.iterPos H)
          case atStart => exact ⟨rfl, 0, Nat.zero_le _, hit0', hb0', c2, fun j _ hj => by omega⟩
          case round =>
            clear hit0' hb0' c2
            obtain ⟨rfl, p, hp, hit, hb, hc2, hfi⟩ := hrel
            have HFI := Lib.hid hfi
            clear hfi
            by_cases hlt : p < nm.length
            · have hp2 : p < sn.size := by omega
              have hsnp : sn[p] = nm[p] := by have h := HSN.out; subst h; rw [mk_get]
              have HSP := Lib.hid hsnp
              cases hokc : okc nm[p] with
              | true =>
                have hok2 := of_decide_eq_true hokc
                rw [← hsnp] at hok2
                have hnx : ∀ ty, (Instr.next (.pointer (some ⟨H, 0, none⟩)) true ty).run Tryz.prog wr = _ := fun ty => Lib.run_next_ascii_at wr H sn p ty hit hp2 (by omega)
                have hit1 := Lib.iterAt_heap wr H sn p (p + 1) hit
                have hb1 := Lib.below_iterAt hb hbs sn (p + 1)
                have hm1 : sn.size - (p + 1) < sn.size - wr.iterPos H := by simp only [World.iterPos, hit]; omega
                have hc3 : (wr.iterAt H sn (p + 1)).cell? ⟨k, 0, none⟩ = some (.string sn) := by
                  rw [← hc2]; unfold World.cell?; rw [Lib.iterAt_other _ _ _ _ _ (by simp only; omega)]
                clear hit hb hc2 hsnp
                generalize hW : wr.iterAt H sn (p + 1) = wi at *
                clear hW
                have H27 := f27 (sn[p].toNat : Int) wi
                have H28 := f28 (sn[p].toNat : Int) wi
                have H29 := f29 (sn[p].toNat : Int) wi
                have h29 : decide ((128 : Int) ≤ (sn[p].toNat : Int)) = false := decide_eq_false (by omega)
                rw [h29] at H29
                have HOKC := Lib.hid hokc
                by_cases hv : vch (sn[p].toNat : Int) = true
                · rw [hv] at H27
                  clear hok2 hv h29 hokc
                  go_wp2_with fail
                  refine H27.mono ?_
                  rintro r w4 ⟨rfl, rfl⟩
                  go_wp2_with fail
                  refine H29.mono ?_
                  rintro r w4 ⟨rfl, rfl⟩
                  go_wp2_with fail
                  go_roundw
                  case rel => exact ⟨rfl, p + 1, by omega, hit1, hb1, hc3, fun j hj hjp => by
                    by_cases h : j < p
                    · exact HFI.out j hj h
                    · obtain rfl : j = p := by omega
                      exact HOKC.out⟩
                  case measure => simp only [World.iterPos, hit1]; exact hm1
                · have hv : vch (sn[p].toNat : Int) = false := by simpa using hv
                  have hw : wsp (sn[p].toNat : Int) = true := by
                    have h1 := of_decide_eq_false hv
                    unfold wsp
                    exact decide_eq_true (by omega)
                  rw [hv] at H27
                  rw [hw] at H28
                  clear hok2 hv hw h29 hokc
                  go_wp2_with fail
                  refine H27.mono ?_
                  rintro r w4 ⟨rfl, rfl⟩
                  go_wp2_with fail
                  refine H28.mono ?_
                  rintro r w4 ⟨rfl, rfl⟩
                  go_wp2_with fail
                  refine H29.mono ?_
                  rintro r w4 ⟨rfl, rfl⟩
                  go_wp2_with fail
                  go_roundw
                  case rel => exact ⟨rfl, p + 1, by omega, hit1, hb1, hc3, fun j hj hjp => by
                    by_cases h : j < p
                    · exact HFI.out j hj h
                    · obtain rfl : j = p := by omega
                      exact HOKC.out⟩
                  case measure => simp only [World.iterPos, hit1]; exact hm1
              | false =>
                have hbad : (vch (((Utf8.decode sn p).1 : Nat) : Int) = false ∧ wsp (((Utf8.decode sn p).1 : Nat) : Int) = false) ∨ (128 : Int) ≤ (((Utf8.decode sn p).1 : Nat) : Int) := by
                  rcases (bad_rune sn p hp2 (by rw [hsnp]; exact hokc)).2 with h | h
                  · exact .inl h
                  · exact .inr (by omega)
                have hnx : ∀ ty, (Instr.next (.pointer (some ⟨H, 0, none⟩)) true ty).run Tryz.prog wr = _ := fun ty => Lib.run_next_any_at wr H sn p ty hit hp2
                have hb1 := Lib.below_iterAt hb hbs sn (p + (Utf8.decode sn p).2)
                have hc3 : (wr.iterAt H sn (p + (Utf8.decode sn p).2)).cell? ⟨k, 0, none⟩ = some (.string sn) := by
                  rw [← hc2]; unfold World.cell?; rw [Lib.iterAt_other _ _ _ _ _ (by simp only; omega)]
                have HFIN : Hid (∃ d c q, nm = d ++ c :: q ∧ (∀ y ∈ d, okc y = true) ∧ okc c = false) := by
                  refine ⟨nm.take p, nm[p], nm.drop (p + 1), ?_, ?_, hokc⟩
                  · rw [← List.drop_eq_getElem_cons hlt]; exact (List.take_append_drop p nm).symm
                  · intro y hy
                    obtain ⟨j, hj, rfl⟩ := List.getElem_of_mem hy
                    rw [List.getElem_take]
                    exact HFI.out j _ (by simp at hj; omega)
                clear hit hb hc2 hsnp
                generalize hW : wr.iterAt H sn (p + (Utf8.decode sn p).2) = wi at *
                clear hW hokc
                generalize hR : (((Utf8.decode sn p).1 : Nat) : Int) = R at *
                clear hR
                have H27 := f27 R wi
                have H28 := f28 R wi
                have H29 := f29 R wi
                rcases hbad with ⟨h1, h2⟩ | h1
                · rw [h1] at H27
                  rw [h2] at H28
                  clear h1 h2
                  go_wp2_with fail
                  refine H27.mono ?_
                  rintro r w4 ⟨rfl, rfl⟩
                  go_wp2_with fail
                  refine H28.mono ?_
                  rintro r w4 ⟨rfl, rfl⟩
                  go_wp2_with fail
                  go_meet
                  exact ⟨hb1, hc3, .inr ⟨rfl, HFIN.out⟩⟩
                · rw [decide_eq_true h1] at H29
                  have hw : wsp R = false := by unfold wsp; exact decide_eq_false (by omega)
                  rw [hw] at H28
                  clear h1 hw
                  cases hv : vch R with
                  | true =>
                    rw [hv] at H27
                    clear hv
                    go_wp2_with fail
                    refine H27.mono ?_
                    rintro r w4 ⟨rfl, rfl⟩
                    go_wp2_with fail
                    refine H29.mono ?_
                    rintro r w4 ⟨rfl, rfl⟩
                    go_wp2_with fail
                    go_meet
                    exact ⟨hb1, hc3, .inr ⟨rfl, HFIN.out⟩⟩
                  | false =>
                    rw [hv] at H27
                    clear hv
                    go_wp2_with fail
                    refine H27.mono ?_
                    rintro r w4 ⟨rfl, rfl⟩
                    go_wp2_with fail
                    refine H28.mono ?_
                    rintro r w4 ⟨rfl, rfl⟩
                    go_wp2_with fail
                    go_meet
                    exact ⟨hb1, hc3, .inr ⟨rfl, HFIN.out⟩⟩
            · obtain rfl : p = nm.length := by omega
              have hnx : ∀ ty, (Instr.next (.pointer (some ⟨H, 0, none⟩)) true ty).run Tryz.prog wr = _ := fun ty => Lib.run_next_end_at wr H sn nm.length ty hit (by omega)
              go_wp2_with fail
              go_meet
              exact ⟨hb, hc2, .inl ⟨rfl, fun c hc => by
                obtain ⟨j, hj, rfl⟩ := List.getElem_of_mem hc
                exact HFI.out j hj hj⟩⟩
        case rest =>
          clear hit0' hb0' c2 hbs hkw
          obtain ⟨hb, hc2, hcase⟩ := hcut
          have hkw := World.block_lt_of_cell? wc _ hc2
          have z1 : ∀ T : List UInt8, T.length ≤ 100000 → (mk T).size ≤ 100000 := fun T h => by rw [mk_size]; exact h
          rcases hcase with ⟨rfl, hok⟩ | ⟨rfl, d, c, q, hnd, hdo, hco⟩
          · have H26 := f26 (w := wc) nm hok (by omega)
            rw [← HSN.out] at H26
            have HOKN := Lib.hid hok
            clear hok
            obtain ⟨T, hT⟩ : ∃ T, T = 34 :: (esc nm ++ [34]) := ⟨_, rfl⟩
            rw [← hT] at H26
            have zT : (mk T).size ≤ 100000 := z1 T (by rw [hT]; have := esc_le nm; simp; omega)
            have HT := Lib.hid hT
            clear hT z1
            go_wp2_with fail
            refine H26.mono ?_
            rintro r w4 ⟨rfl, hb4⟩
            go_wp2
            go_ret
            refine ⟨⟨L ++ 64 :: dom, T ++ [32], HL.out, .inr (.inl ⟨hnm, HOKN.out, by rw [HT.out]⟩), ?_⟩, hb.trans (hb4.mono hb.size)⟩
            rw [HXX.out]
            show Ending.returned (Value.string (mk T ++ mk [32] ++ mk _)) = _
            rw [mk_append, mk_append]
          · have H30 := f30 (w := wc) nm (by omega)
            rw [← HSN.out] at H30
            have HND := Lib.hid hnd
            have HDO := Lib.hid hdo
            have HCO := Lib.hid hco
            clear hnd hdo hco
            go_wp2_with fail
            refine H30.mono ?_
            rintro r w4 ⟨b, rfl, hsp, hb4⟩
            have HSP := Lib.hid hsp
            have hc4 : w4.cell? ⟨k, 0, none⟩ = some (.string sn) := by rw [hb4.cell (p := ⟨k, 0, none⟩) hkw]; exact hc2
            have hT4 := tabs_below (tabs_below HTT.out hb hsz) hb4 (Nat.le_trans hsz hb.size)
            have hb5 := hb.trans (hb4.mono hb.size)
            cases b with
            | true =>
              have H31 := f31b nm d c q HND.out HDO.out HCO.out (by omega) hT4
              rw [← HSN.out] at H31
              clear hsp hb4 hc2 hb hT4 H30
              go_wp2_with fail
              refine H31.mono ?_
              rintro r w5 ⟨⟨cs, cur, h1, h2, h3, rfl⟩, hb6⟩
              have H1 := Lib.hid h1
              have H3 := Lib.hid h3
              have hw := wtext_le64 cs cur h3
              have hlen : cs.flatten.length + cur.length = nm.length := by rw [h1, List.length_append]
              obtain ⟨T, hT⟩ : ∃ T, T = hdr 98 ++ wtext b64 98 cs cur ++ [63, 61] := ⟨_, rfl⟩
              rw [← hT]
              have zT : (mk T).size ≤ 100000 := z1 T (by
                have hh : (hdr 98).length = 10 := rfl
                rw [hT, List.length_append, List.length_append, hh]
                simp only [List.length_cons, List.length_nil]
                omega)
              have HT := Lib.hid hT
              clear hT z1 h1 h3 hw hlen
              go_wp2
              go_ret
              refine ⟨⟨L ++ 64 :: dom, T ++ [32], HL.out, .inr (.inr ⟨⟨c, by rw [HND.out]; simp, HCO.out⟩, cs, cur, H1.out, h2, H3.out, .inl (by rw [HT.out])⟩), ?_⟩, hb5.trans (hb6.mono hb5.size)⟩
              rw [HXX.out]
              show Ending.returned (Value.string (mk T ++ mk [32] ++ mk _)) = _
              rw [mk_append, mk_append]
            | false =>
              have H31 := f31q nm d c q HND.out HDO.out HCO.out (by omega) hT4
              rw [← HSN.out] at H31
              clear hsp hb4 hc2 hb hT4 H30
              go_wp2_with fail
              refine H31.mono ?_
              rintro r w5 ⟨⟨cs, cur, h1, h2, h3, rfl⟩, hb6⟩
              have H1 := Lib.hid h1
              have H3 := Lib.hid h3
              have hw := wtext_le cs cur h3
              have hlen : cs.flatten.length + cur.length = nm.length := by rw [h1, List.length_append]
              obtain ⟨T, hT⟩ : ∃ T, T = hdr 113 ++ wtext qenc 113 cs cur ++ [63, 61] := ⟨_, rfl⟩
              rw [← hT]
              have zT : (mk T).size ≤ 100000 := z1 T (by
                have hh : (hdr 113).length = 10 := rfl
                rw [hT, List.length_append, List.length_append, hh]
                simp only [List.length_cons, List.length_nil]
                omega)
              have HT := Lib.hid hT
              clear hT z1 h1 h3 hw hlen
              go_wp2
              go_ret
              refine ⟨⟨L ++ 64 :: dom, T ++ [32], HL.out, .inr (.inr ⟨⟨c, by rw [HND.out]; simp, HCO.out⟩, cs, cur, H1.out, h2, H3.out, .inr ⟨by rw [HT.out], HSP.out trivial⟩⟩), ?_⟩, hb5.trans (hb6.mono hb5.size)⟩
              rw [HXX.out]
              show Ending.returned (Value.string (mk T ++ mk [32] ++ mk _)) = _
              rw [mk_append, mk_append]

set_option maxRecDepth 100000 in
/-- impl.Print. -/
theorem f8 {w : World} (nm loc dom : List UInt8) (hd : (64 : UInt8) ∉ dom) (hloc : ∀ x ∈ loc, 32 ≤ x.toNat ∧ x.toNat ≤ 126) (hn1 : nm.length ≤ 5000) (hn2 : loc.length ≤ 5000) (hn3 : dom.length ≤ 5000) (hT : Lib.Utf8Tabs 0 1 w) :
    Calls Tryz.prog 8 #[.agg #[.string (mk nm), .string (mk (loc ++ 64 :: dom))]] w fun r w' => (∃ S T, LocS loc dom S ∧ NameT nm T ∧ r = .returned (.string (mk (T ++ 60 :: (S ++ [62]))))) ∧ Below w.heap.size w w' := by
  have hsz := tabs_size hT
  obtain ⟨s, hs⟩ : ∃ s, s = mk (loc ++ 64 :: dom) := ⟨_, rfl⟩
  obtain ⟨sn, hsn⟩ : ∃ s, s = mk nm := ⟨_, rfl⟩
  rw [← hs, ← hsn]
  have HS := Lib.hid hs
  have HSN := Lib.hid hsn
  have HTT := Lib.hid hT
  clear hs hsn hT
  go_enter Tryz.func8, Tryz.ntmps8
  go_wp2_with fail
  have hb1 : Below w.heap.size w ((w.alloc (.cells #[.string sn, .string s] 23)).alloc (.cells #[.string sn, .string s] 46)) := ((Below.refl _ _).alloc (Nat.le_refl _) _).alloc (by simp) _
  have hk : ((w.alloc (.cells #[.string sn, .string s] 23)).alloc (.cells #[.string sn, .string s] 46)).heap[w.heap.size + 1]? = some (.cells #[.string (mk nm), .string (mk (loc ++ 64 :: dom))] 46 (0, 0)) := by
    have := heap_alloc_new (w.alloc (.cells #[.string sn, .string s] 23)) (.cells #[.string sn, .string s] 46)
    rw [← HS.out, ← HSN.out]
    simpa using this
  refine (f18 (w.heap.size + 1) nm loc dom hk hd hloc hn1 hn2 hn3 (tabs_below HTT.out hb1 hsz)).mono ?_
  rintro r w2 ⟨⟨S, T, h1, h2, rfl⟩, hb2⟩
  go_wp2
  go_ret
  exact ⟨⟨S, T, h1, h2, rfl⟩, hb1.trans (hb2.mono hb1.size)⟩
end Go.Proofs.YtbigjdlcmlopcaaGreatDoor
