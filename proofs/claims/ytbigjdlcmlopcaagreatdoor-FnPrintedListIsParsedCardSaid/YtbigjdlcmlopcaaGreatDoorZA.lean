import Derived.Test.YtbigjdlcmlopcaaGreatDoorZ
namespace Go.Proofs.YtbigjdlcmlopcaaGreatDoor
open Go.RowKit

/-- decode. -/
theorem f111q {w : World} (t : List UInt8) (ht0 : t.length ≤ 10000) : Calls Tryz.prog 111 #[.int .u8 113, .string (mk (qenc t))] w fun r w' => DecTo t w r w' := by
  have H := f120 (w := w) t ht0
  generalize mk (qenc t) = s at *
  go_enter Tryz.func111, Tryz.ntmps111
  go_wp2_with fail
  refine H.mono ?_
  rintro r w' ⟨⟨D, n, h1, rfl, h2, h3⟩, hb⟩
  have HR := Lib.hid (And.intro h1 (And.intro h2 (And.intro h3 hb)))
  clear h1 h2 h3 hb H
  go_wp2
  go_ret2
  obtain ⟨h1, h2, h3, hb⟩ := HR.out
  exact ⟨⟨D, n, h1, rfl, h2, h3⟩, hb⟩
theorem f111b {w : World} (p : List UInt8) (hp0 : 0 < p.length) (hp : p.length ≤ 5000) : Calls Tryz.prog 111 #[.int .u8 98, .string (mk (b64 p))] w fun r w' => DecTo p w r w' := by
  have H := fun (w : World) c (hc : EncAt c w) => f119 c p hp0 hp hc
  generalize mk (b64 p) = s at *
  go_enter Tryz.func111, Tryz.ntmps111
  go_wp2_with fail
  refine (f79 w).mono ?_
  rintro r w1 ⟨c, rfl, hcw, hc1, hb1⟩
  go_wp2_with fail
  refine (H w1 c hc1).mono ?_
  rintro r w2 hd
  have hd2 := hd.below hb1
  obtain ⟨⟨D, n, h1, rfl, h2, h3⟩, hb⟩ := hd2
  have HR := Lib.hid (And.intro h1 (And.intro h2 (And.intro h3 hb)))
  clear h1 h2 h3 hb H hd hb1 hc1 hcw
  go_wp2
  go_ret2
  obtain ⟨h1, h2, h3, hb⟩ := HR.out
  exact ⟨⟨D, n, h1, rfl, h2, h3⟩, hb⟩

theorem ef_utf8 (w : World) : Calls Tryz.prog 98 #[.string ⟨#[117, 116, 102, 45, 56]⟩, .string (mk utf8n)] w fun e w' => e = .returned (.bool true) ∧ w = w' := by
  have h := Tryz.strings_EqualFold ⟨#[117, 116, 102, 45, 56]⟩ (mk utf8n) w (by decide) (by
    intro j b hb
    have := List.mem_of_getElem? hb
    simp at this; rcases this with rfl | rfl | rfl | rfl | rfl <;> decide) (by
    intro j b hb; rw [mk_data] at hb
    have := List.mem_of_getElem? hb
    simp [utf8n] at this; rcases this with rfl | rfl | rfl | rfl | rfl <;> decide)
  have e : Lib.equalFold (⟨#[117, 116, 102, 45, 56]⟩ : ByteArray).data.toList (mk utf8n).data.toList = true := by rw [mk_data]; decide
  rw [e] at h
  exact h.mono fun _ _ h => ⟨h.1, h.2.symm⟩

/-- convert, of UTF-8. -/
theorem f112 {B bb : Nat} {w : World} (v : Value) (h : Lib.IsBuilderF 81 5 B bb (Lib.byteCells []) w) (D sc : Nat) (d : List UInt8) (hs : SrcAt w D 0 d) (hD : D ≠ bb) (hd : 0 < d.length) (hlen : d.length ≤ 1073741820) (hBw : B ≤ w.heap.size) :
    Calls Tryz.prog 112 #[v, .pointer (some ⟨bb, 0, none⟩), .string (mk utf8n), .slice (some ⟨D, 0, none⟩) d.length sc] w fun r w' => r = .returned .nilIface ∧ Wrote B bb d w w' := by
  have H := ef_utf8 w
  have H2 := f121 h D 0 sc d hs hD hd (by simpa using hlen) hBw
  generalize mk utf8n = s at *
  clear h hs
  go_enter Tryz.func112, Tryz.ntmps112
  go_wp2_with fail
  refine H.mono ?_
  rintro r w1 ⟨rfl, rfl⟩
  clear H
  go_wp2_with fail
  refine H2.mono ?_
  rintro r w1 ⟨rfl, hw, -⟩
  clear H2
  go_wp2
  go_ret
  exact ⟨rfl, by simpa using hw⟩

set_option maxRecDepth 100000 in
set_option maxHeartbeats 3200000 in
/-- Decode, of one encoded word. -/
theorem f95 {w : World} (v : Value) (e : UInt8) (ct t : List UInt8) (hct : (63 : UInt8) ∉ ct) (he : e ≠ 63) (hc0 : ct.length ≤ 100000) (hdec : ∀ w, Calls Tryz.prog 111 #[.int .u8 (e.toNat : Int), .string (mk ct)] w fun r w' => DecTo t w r w') (ht0 : 0 < t.length) (ht1 : t.length ≤ 100000) :
    Calls Tryz.prog 95 #[v, .string (mk (hdr e ++ ct ++ [63, 61]))] w fun r w' => r = .returned (.tuple #[.string (mk t), .nilIface]) ∧ Below w.heap.size w w' := by
  have hl : hdr e ++ ct ++ [63, 61] = 61 :: 63 :: (utf8n ++ 63 :: e :: 63 :: ct) ++ [63, 61] := by simp [hdr]
  have H109 := f109 (w := w) (hdr e ++ ct ++ [63, 61]) ⟨#[63]⟩ rfl (by rw [hl]; simp [utf8n]; omega)
  have hcount : (hdr e ++ ct ++ [63, 61]).count 63 = 4 := by
    have h0 : ct.count 63 = 0 := List.count_eq_zero.2 hct
    have h1 : (hdr e).count 63 = 3 := by
      unfold hdr utf8n
      simp [he]
    rw [List.count_append, List.count_append, h0, h1]; rfl
  rw [hcount] at H109
  obtain ⟨S, hS⟩ : ∃ S, S = mk (hdr e ++ ct ++ [63, 61]) := ⟨_, rfl⟩
  have hz : S.size = (ct.length + 10) + 2 := by rw [hS, mk_size, hl]; simp [utf8n]
  have hx : S.extract 2 (ct.length + 10) = mk (utf8n ++ 63 :: e :: 63 :: ct) := by
    rw [hS, hl, mk_extract]
    rw [show (61 :: 63 :: (utf8n ++ 63 :: e :: 63 :: ct) ++ [63, 61] : List UInt8).drop 2 = (utf8n ++ 63 :: e :: 63 :: ct) ++ [63, 61] from rfl, show ct.length + 10 - 2 = (utf8n ++ 63 :: e :: 63 :: ct).length by simp [utf8n], List.take_left]
  have Hpre := Tryz.strings_HasPrefix S ⟨#[61, 63]⟩ w
  have hpre : Lib.hasPrefix S.data.toList (⟨#[61, 63]⟩ : ByteArray).data.toList = true := by
    rw [hS, mk_data, hl]; simp [Lib.hasPrefix]
  rw [hpre] at Hpre
  have Hsuf := Tryz.strings_HasSuffix S ⟨#[63, 61]⟩ w (by omega)
  have hsuf : Lib.hasSuffix S.data.toList (⟨#[63, 61]⟩ : ByteArray).data.toList = true := by
    rw [hS, mk_data]; simp [Lib.hasSuffix]; exact ⟨hdr e ++ ct, by simp⟩
  rw [hsuf] at Hsuf
  rw [← hS] at H109 ⊢
  have H110 := f110 (w := w) utf8n (e :: 63 :: ct) ⟨#[63]⟩ rfl (by decide) (by simp [utf8n]; omega)
  have H110b := fun w => f110 (w := w) [e] ct ⟨#[63]⟩ rfl (by simp; exact fun h => he h.symm) (by simp; omega)
  rw [← hx] at H110
  obtain ⟨M, hM⟩ : ∃ M, M = ct.length + 10 := ⟨_, rfl⟩
  rw [← hM] at hz hx H110
  have hM1 : 10 ≤ M := by omega
  have hM2 : M ≤ 100010 := by omega
  obtain ⟨ey, hey⟩ : ∃ y : Int, y = (e.toNat : Int) := ⟨_, rfl⟩
  rw [← hey] at hdec
  have hE : ∀ w, (Instr.index 9 (.string (mk [e])) (.int .i64 0)).run Tryz.prog w = .ok (.int .u8 ey) w := by
    intro w
    have := run_index_string (P := Tryz.prog) w 9 (mk [e]) .i64 0 Tryz.underlying9
    rw [this, hey]
    rfl
  have hEs : (mk [e]).size = 1 := rfl
  have hue : (mk utf8n).toList = utf8n := by unfold mk; rw [ByteArray.toList_mk]
  have hue2 : (utf8n == []) = false := rfl
  obtain ⟨cs, hcs⟩ : ∃ cs, cs = mk ct := ⟨_, rfl⟩
  have h2 : [e] ++ 63 :: ct = e :: 63 :: ct := rfl
  rw [h2] at H110b
  obtain ⟨r1, hr1⟩ : ∃ r1, r1 = mk (e :: 63 :: ct) := ⟨_, rfl⟩
  rw [← hcs] at H110b hdec
  rw [← hr1] at H110b H110
  have hC := fun (w : World) (B bb D sc : Nat) (h : Lib.IsBuilderF 81 5 B bb (Lib.byteCells []) w) (hs : SrcAt w D 0 t) (hD : D ≠ bb) (hBw : B ≤ w.heap.size) => f112 (w := w) v h D sc t hs hD ht0 (by omega) hBw
  generalize mk [e] = E1 at *
  clear hl hcount hS hx hpre hsuf hM hey hcs h2 hr1 hct he hc0
  generalize mk utf8n = u at *
  go_enter Tryz.func95, Tryz.ntmps95
  go_wp2_with fail
  refine Hpre.mono ?_
  rintro r w1 ⟨rfl, rfl⟩
  go_wp2_with fail
  refine Hsuf.mono ?_
  rintro r w1 ⟨rfl, rfl⟩
  go_wp2_with fail
  refine H109.mono ?_
  rintro r w1 ⟨rfl, rfl⟩
  clear Hpre Hsuf H109
  go_wp2_with fail
  refine H110.mono ?_
  rintro r w1 ⟨rfl, hb1⟩
  go_wp2_with fail
  refine (H110b w1).mono ?_
  rintro r w2 ⟨rfl, hb2⟩
  have B2 := hb1.trans (hb2.mono hb1.size)
  clear H110 H110b hb1 hb2
  go_wp2_with fail
  refine (hdec w2).mono ?_
  rintro r w3 ⟨⟨D, n, hD, rfl, hs, hn⟩, hb3⟩
  have hw3 : D < w3.heap.size := World.block_lt_of_cell? w3 _ (hs 0 ht0)
  have B3 := B2.trans (hb3.mono B2.size)
  have HS := Lib.hid hs
  clear hdec B2 hb3 hs
  go_wp2_with fail
  have hI := Lib.IsBuilderF.of (Lib.fresh_isBuilder 81 5 w3)
  have hs4 := srcAt_of_block HS.out (w' := w3.alloc (.cells #[.pointer none, .slice none 0 0] 81)) (Below.heap_alloc _ _ _ hw3)
  have B4 := B3.alloc B3.size (.cells #[.pointer none, .slice none 0 0] 81)
  have hz4 : w3.heap.size ≤ (w3.alloc (.cells #[.pointer none, .slice none 0 0] 81)).heap.size := by simp
  have hbbw := B3.size
  clear B3 HS
  generalize w3.alloc (.cells #[.pointer none, .slice none 0 0] 81) = w4 at *
  have hDne : D ≠ w3.heap.size := by omega
  generalize w3.heap.size = bb at *
  have HC := hC w4 bb bb D n hI hs4 hDne hz4
  clear hC hI hs4
  refine HC.mono ?_
  rintro r w5 ⟨rfl, hw5⟩
  have hb5 := hw5.2.1
  have B5 := B4.trans (hb5.mono hbbw)
  have hz5 := Nat.le_trans hz4 hb5.size
  have HB := bStr hw5.1 hz5
  clear HC B4 hw5 hb5 hz4
  go_wp2_with fail
  refine HB.mono ?_
  rintro r w6 ⟨rfl, -, hb6, -⟩
  have B6 := B5.trans (hb6.mono hbbw)
  clear HB hb6 B5
  go_wp2
  go_ret2
  exact ⟨rfl, B6⟩
end Go.Proofs.YtbigjdlcmlopcaaGreatDoor
