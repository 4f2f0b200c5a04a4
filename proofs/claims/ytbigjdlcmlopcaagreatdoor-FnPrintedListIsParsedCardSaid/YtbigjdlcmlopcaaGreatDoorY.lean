import Derived.Test.YtbigjdlcmlopcaaGreatDoorX
namespace Go.Proofs.YtbigjdlcmlopcaaGreatDoor
open Go.RowKit

/-- The signs of one quantum. -/
theorem quad {w : World} {K : Nat} {d q : List UInt8} {a b c : UInt8} (h : SrcAt w K 0 (b64 (d ++ a :: b :: c :: q))) (hd : d.length % 3 = 0) :
    w.cell? ⟨K, (b64 d).length, none⟩ = some (.int .u8 ((b64c (a.toNat / 4)).toNat : Int)) ∧
    w.cell? ⟨K, (b64 d).length + 1, none⟩ = some (.int .u8 ((b64c (a.toNat % 4 * 16 + b.toNat / 16)).toNat : Int)) ∧
    w.cell? ⟨K, (b64 d).length + 2, none⟩ = some (.int .u8 ((b64c (b.toNat % 16 * 4 + c.toNat / 64)).toNat : Int)) ∧
    w.cell? ⟨K, (b64 d).length + 3, none⟩ = some (.int .u8 ((b64c (c.toNat % 64)).toNat : Int)) := by
  have e : b64 (d ++ a :: b :: c :: q) = b64 d ++ (b64c (a.toNat / 4) :: b64c (a.toNat % 4 * 16 + b.toNat / 16) :: b64c (b.toNat % 16 * 4 + c.toNat / 64) :: b64c (c.toNat % 64) :: b64 q) := by
    rw [b64_append _ _ hd]; rfl
  rw [e] at h
  have g : ∀ k (hk : k < 4), w.cell? ⟨K, (b64 d).length + k, none⟩ = some (.int .u8 (((b64c (a.toNat / 4) :: b64c (a.toNat % 4 * 16 + b.toNat / 16) :: b64c (b.toNat % 16 * 4 + c.toNat / 64) :: b64c (c.toNat % 64) :: b64 q)[k]'(by simp; omega)).toNat : Int)) := fun k hk => by
    have := h ((b64 d).length + k) (by simp; omega)
    rw [Nat.zero_add] at this
    rw [this, List.getElem_append_right (by omega)]
    simp only [Nat.add_sub_cancel_left]
  exact ⟨g 0 (by omega), g 1 (by omega), g 2 (by omega), g 3 (by omega)⟩

theorem GrowD.drew {D : Nat} {w w' : World} (h : GrowD D w w') : GrowD D w w'.drew := ⟨h.os, h.tape, h.output, h.size, h.block⟩
theorem GrowD.drewN {D : Nat} {w w' : World} (h : GrowD D w w') (n : Nat) : GrowD D w (w'.drewN n) := ⟨h.os, h.tape, h.output, h.size, h.block⟩
theorem GrowD.upd {D : Nat} {w w' w'' : World} (h : GrowD D w w') (u : Upd D w' w'') : GrowD D w w'' := ⟨u.os.trans h.os, u.tape.trans h.tape, u.output.trans h.output, by rw [u.size]; exact h.size, fun k hk hD => (u.other k hD).trans (h.block k hk hD)⟩
theorem GrowD.by {D : Nat} {w w' w'' : World} (h : GrowD D w w') (u : w'.grownBy w'' (some D)) : GrowD D w w'' := ⟨u.os.trans h.os, u.tape.trans h.tape, u.output.trans h.output, Nat.le_trans h.size u.size, fun k hk hD => (u.block k (Nat.lt_of_lt_of_le hk h.size) (fun e => hD (Option.some.inj e))).trans (h.block k hk hD)⟩

/-- How far the decoder is. -/
def DS (p : List UInt8) (c D K N : Nat) (w : World) (b : Nat) (nv sv : Value) (wr : World) : Prop :=
  ∃ (d q : List UInt8) (n si : Nat) (G : Nat → Value), p = d ++ q ∧ q.length < b ∧ d.length % 3 = 0 ∧ n = d.length ∧ si = (b64 d).length ∧ nv = .int .i64 n ∧ sv = .int .i64 si ∧ wr.rowIs D 5 N G ∧ (∀ j (h : j < d.length), G j = .int .u8 (d[j].toNat : Int)) ∧ GrowD D w wr ∧ EncAt c wr ∧ SrcAt wr K 0 (b64 p)

theorem ext_bytes (G' G : Nat → Value) (d ext : List UInt8) (hG : ∀ j (h : j < d.length), G j = .int .u8 (d[j].toNat : Int)) (hlow : ∀ j, j < d.length → G' j = G j) (hext : ∀ i (h : i < ext.length), G' (d.length + i) = .int .u8 (ext[i].toNat : Int)) :
    ∀ j (h : j < (d ++ ext).length), G' j = .int .u8 ((d ++ ext)[j].toNat : Int) := by
  intro j h
  by_cases hj : j < d.length
  · rw [hlow j hj, hG j hj, List.getElem_append_left hj]
  · rw [List.getElem_append_right (by omega), ← hext (j - d.length) (by rw [List.length_append] at h; omega)]
    congr 1
    omega
theorem byte_lt (a : UInt8) : a.toNat < 256 := a.toNat_lt

/-- The four numbers of the last quantum. -/
def lastV (A B C : Nat) (j : Nat) : Nat := if j = 0 then A / 4 else if j = 1 then A % 4 * 16 + B / 16 else if j = 2 then B % 16 * 4 + C / 64 else if j = 3 then C % 64 else 0
theorem last_quad {w : World} {K : Nat} {d q : List UInt8} (A B C : Nat) (hA : A < 256) (hB : B < 256) (hC : C < 256)
    (hq : ∃ a : UInt8, A = a.toNat ∧ ((q = [a] ∧ B = 0 ∧ C = 0) ∨ (∃ b : UInt8, B = b.toNat ∧ ((q = [a, b] ∧ C = 0) ∨ (∃ c : UInt8, C = c.toNat ∧ q = [a, b, c])))))
    (h : SrcAt w K 0 (b64 (d ++ q))) (hd : d.length % 3 = 0) :
    (∀ j, j < q.length + 1 → w.cell? ⟨K, 0 + ((b64 d).length + j), none⟩ = some (.int .u8 ((b64c (lastV A B C j)).toNat : Int))) ∧
    (∀ j, q.length + 1 ≤ j → j < 4 → w.cell? ⟨K, 0 + ((b64 d).length + j), none⟩ = some (.int .u8 61)) ∧ (∀ j, lastV A B C j < 64) ∧ (∀ j, q.length + 1 ≤ j → lastV A B C j = 0) := by
  rw [b64_append _ _ hd] at h
  have g : ∀ k (hk : k < (b64 q).length), w.cell? ⟨K, 0 + ((b64 d).length + k), none⟩ = some (.int .u8 ((b64 q)[k].toNat : Int)) := fun k hk => by
    have := h ((b64 d).length + k) (by rw [List.length_append]; omega)
    rw [this, List.getElem_append_right (by omega)]
    simp only [Nat.add_sub_cancel_left]
  have hv : ∀ j, lastV A B C j < 64 := by
    intro j; unfold lastV
    split
    · omega
    · split
      · omega
      · split
        · omega
        · split <;> omega
  obtain ⟨a, ha, hcase⟩ := hq
  rcases hcase with ⟨rfl, hb, hc⟩ | ⟨b, hb, hcase⟩
  · subst ha hb hc
    refine ⟨fun j hj => ?_, fun j hj hj4 => ?_, hv, fun j hj => ?_⟩
    · have hj2 : j < 2 := hj
      match j, hj2 with
      | 0, _ => exact g 0 (by simp [b64])
      | 1, _ => exact g 1 (by simp [b64])
    · have hj2 : 2 ≤ j := hj
      match j, hj2, hj4 with
      | 2, _, _ => exact g 2 (by simp [b64])
      | 3, _, _ => exact g 3 (by simp [b64])
    · have hj2 : 2 ≤ j := hj
      unfold lastV
      rw [if_neg (by omega), if_neg (by omega)]
      split
      · rfl
      · split <;> rfl
  · rcases hcase with ⟨rfl, hc⟩ | ⟨c, hc, rfl⟩
    · subst ha hb hc
      refine ⟨fun j hj => ?_, fun j hj hj4 => ?_, hv, fun j hj => ?_⟩
      · have hj2 : j < 3 := hj
        match j, hj2 with
        | 0, _ => exact g 0 (by simp [b64])
        | 1, _ => exact g 1 (by simp [b64])
        | 2, _ => exact g 2 (by simp [b64])
      · have hj2 : 3 ≤ j := hj
        match j, hj2, hj4 with
        | 3, _, _ => exact g 3 (by simp [b64])
      · have hj2 : 3 ≤ j := hj
        unfold lastV
        rw [if_neg (by omega), if_neg (by omega), if_neg (by omega)]
        split <;> rfl
    · subst ha hb hc
      refine ⟨fun j hj => ?_, fun j hj hj4 => ?_, hv, fun j hj => ?_⟩
      · have hj2 : j < 4 := hj
        match j, hj2 with
        | 0, _ => exact g 0 (by simp [b64])
        | 1, _ => exact g 1 (by simp [b64])
        | 2, _ => exact g 2 (by simp [b64])
        | 3, _ => exact g 3 (by simp [b64])
      · have hj2 : 4 ≤ j := hj
        omega
      · have hj2 : 4 ≤ j := hj
        unfold lastV
        rw [if_neg (by omega), if_neg (by omega), if_neg (by omega), if_neg (by omega)]

set_option maxRecDepth 100000 in
set_option maxHeartbeats 12800000 in
/-- base64 Decode of what was encoded. -/
theorem f134 {w : World} (c D K N M sc : Nat) (G : Nat → Value) (p : List UInt8) (hp0 : 0 < p.length) (hp : p.length ≤ 5000) (hc : EncAt c w) (hr : w.rowIs D 5 N G) (hs : SrcAt w K 0 (b64 p)) (hM : M = (b64 p).length) (hN : N = (p.length + 2) / 3 * 3) (hKD : K ≠ D) (hcD : c ≠ D) (hsc : M ≤ sc) :
    Calls Tryz.prog 134 #[.pointer (some ⟨c, 0, none⟩), .slice (some ⟨D, 0, none⟩) N N, .slice (some ⟨K, 0, none⟩) M sc] w fun r w' => r = .returned (.tuple #[.int .i64 p.length, .nilIface]) ∧ SrcAt w' D 0 p ∧ w.grownBy w' (some D) := by
  have hKw : K < w.heap.size := World.block_lt_of_cell? w _ (hs 0 (by rw [b64_len]; omega))
  have hcw : c < w.heap.size := World.rowIs.lt hc
  have hbl := b64_len p
  have hM0 : 0 < M := by omega
  have hMz : ((M : Int) == 0) = false := by rw [beq_eq_false_iff_ne]; omega
  have HM := Lib.hid hM
  have HN := Lib.hid hN
  have HBL := Lib.hid hbl
  have hMb : M ≤ 10000 := by omega
  have hNb : N ≤ 10000 := by omega
  clear hM hN hbl
  go_enter Tryz.func134, Tryz.ntmps134
  go_wp2_with (with_reducible refine wpList_load_dec rfl _ rfl c rfl hc ?_)
  intro av
  go_upto_block 0 with fail
  go_cut [6, 7, 8] (fun nv ev sv wx => ev = .nilIface ∧ DS p c D K N w 7 nv sv wx)
  case first =>
   go_wp2_with fail
   go_loopw [6, 7, 8] (fun nv ev sv wr => ev = .nilIface ∧ DS p c D K N w 10000 nv sv wr) (fun _ _ sv _ => M - (intOf sv).toNat)
   case atStart => exact ⟨rfl, [], p, 0, 0, G, rfl, by omega, rfl, rfl, rfl, rfl, rfl, hr, fun j h => by simp at h, ⟨rfl, rfl, rfl, Nat.le_refl _, fun _ _ _ => rfl⟩, hc, hs⟩
   case round =>
     clear hr hc hs
     obtain ⟨rfl, hDS⟩ := hrel
     obtain ⟨d, q, n, si, G, hpq, hqb, hd3, hn, hsi, rfl, rfl, hr, hG, hgr, hc, hs⟩ := hDS
     have hbd := b64_len d
     have hpl : p.length = d.length + q.length := by rw [hpq, List.length_append]
     have hMs : M = si + (q.length + 2) / 3 * 4 := by have := HM.out; have := HBL.out; omega
     have hNs : N = n + (q.length + 2) / 3 * 3 := by have := HN.out; omega
     by_cases h7 : 7 ≤ q.length
     · obtain ⟨a0, a1, a2, a3, a4, a5, q', hq'⟩ : ∃ a0 a1 a2 a3 a4 a5 q', q = a0 :: a1 :: a2 :: a3 :: a4 :: a5 :: q' := by
         match q, h7 with
         | a0 :: a1 :: a2 :: a3 :: a4 :: a5 :: q', _ => exact ⟨a0, a1, a2, a3, a4, a5, q', rfl⟩
       have hpq2 : p = d ++ a0 :: a1 :: a2 :: (a3 :: a4 :: a5 :: q') := by rw [hpq, hq']
       have hpq3 : p = (d ++ [a0, a1, a2]) ++ a3 :: a4 :: a5 :: q' := by rw [hpq2]; simp
       have hd33 : (d ++ [a0, a1, a2]).length % 3 = 0 := by rw [List.length_append]; simp; omega
       have hbd3 : (b64 (d ++ [a0, a1, a2])).length = si + 4 := by rw [b64_append _ _ hd3, List.length_append, hsi]; rfl
       obtain ⟨s0, s1, s2, s3⟩ := quad (hpq2 ▸ hs) hd3
       obtain ⟨s4, s5, s6, s7⟩ := quad (hpq3 ▸ hs) hd33
       rw [← hsi] at s0 s1 s2 s3
       rw [hbd3] at s4 s5 s6 s7
       obtain ⟨i0, hi0⟩ : ∃ i, i = a0.toNat / 4 := ⟨_, rfl⟩
       obtain ⟨i1, hi1⟩ : ∃ i, i = a0.toNat % 4 * 16 + a1.toNat / 16 := ⟨_, rfl⟩
       obtain ⟨i2, hi2⟩ : ∃ i, i = a1.toNat % 16 * 4 + a2.toNat / 64 := ⟨_, rfl⟩
       obtain ⟨i3, hi3⟩ : ∃ i, i = a2.toNat % 64 := ⟨_, rfl⟩
       obtain ⟨i4, hi4⟩ : ∃ i, i = a3.toNat / 4 := ⟨_, rfl⟩
       obtain ⟨i5, hi5⟩ : ∃ i, i = a3.toNat % 4 * 16 + a4.toNat / 16 := ⟨_, rfl⟩
       obtain ⟨i6, hi6⟩ : ∃ i, i = a4.toNat % 16 * 4 + a5.toNat / 64 := ⟨_, rfl⟩
       obtain ⟨i7, hi7⟩ : ∃ i, i = a5.toNat % 64 := ⟨_, rfl⟩
       have t0 := byte_lt a0
       have t1 := byte_lt a1
       have t2 := byte_lt a2
       have t3 := byte_lt a3
       have t4 := byte_lt a4
       have t5 := byte_lt a5
       have u0 : i0 < 64 := by omega
       have u1 : i1 < 64 := by omega
       have u2 : i2 < 64 := by omega
       have u3 : i3 < 64 := by omega
       have u4 : i4 < 64 := by omega
       have u5 : i5 < 64 := by omega
       have u6 : i6 < 64 := by omega
       have u7 : i7 < 64 := by omega
       rw [← hi0] at s0
       rw [← hi1] at s1
       rw [← hi2] at s2
       rw [← hi3] at s3
       rw [← hi4] at s4
       rw [← hi5] at s5
       rw [← hi6] at s6
       rw [← hi7] at s7
       obtain ⟨x0, hx0⟩ : ∃ x, x = (b64c i0).toNat := ⟨_, rfl⟩
       have m0 := hc.dec i0 u0
       have r0 := alph_idx i0 u0
       rw [← hx0] at s0 m0 r0
       have y0 : x0 < 256 := by omega
       have yi0 : (x0 : Int) < 256 := by omega
       have yj0 : (0 : Int) ≤ (x0 : Int) := by omega
       clear r0 hx0
       obtain ⟨x1, hx1⟩ : ∃ x, x = (b64c i1).toNat := ⟨_, rfl⟩
       have m1 := hc.dec i1 u1
       have r1 := alph_idx i1 u1
       rw [← hx1] at s1 m1 r1
       have y1 : x1 < 256 := by omega
       have yi1 : (x1 : Int) < 256 := by omega
       have yj1 : (0 : Int) ≤ (x1 : Int) := by omega
       clear r1 hx1
       obtain ⟨x2, hx2⟩ : ∃ x, x = (b64c i2).toNat := ⟨_, rfl⟩
       have m2 := hc.dec i2 u2
       have r2 := alph_idx i2 u2
       rw [← hx2] at s2 m2 r2
       have y2 : x2 < 256 := by omega
       have yi2 : (x2 : Int) < 256 := by omega
       have yj2 : (0 : Int) ≤ (x2 : Int) := by omega
       clear r2 hx2
       obtain ⟨x3, hx3⟩ : ∃ x, x = (b64c i3).toNat := ⟨_, rfl⟩
       have m3 := hc.dec i3 u3
       have r3 := alph_idx i3 u3
       rw [← hx3] at s3 m3 r3
       have y3 : x3 < 256 := by omega
       have yi3 : (x3 : Int) < 256 := by omega
       have yj3 : (0 : Int) ≤ (x3 : Int) := by omega
       clear r3 hx3
       obtain ⟨x4, hx4⟩ : ∃ x, x = (b64c i4).toNat := ⟨_, rfl⟩
       have m4 := hc.dec i4 u4
       have r4 := alph_idx i4 u4
       rw [← hx4] at s4 m4 r4
       have y4 : x4 < 256 := by omega
       have yi4 : (x4 : Int) < 256 := by omega
       have yj4 : (0 : Int) ≤ (x4 : Int) := by omega
       clear r4 hx4
       obtain ⟨x5, hx5⟩ : ∃ x, x = (b64c i5).toNat := ⟨_, rfl⟩
       have m5 := hc.dec i5 u5
       have r5 := alph_idx i5 u5
       rw [← hx5] at s5 m5 r5
       have y5 : x5 < 256 := by omega
       have yi5 : (x5 : Int) < 256 := by omega
       have yj5 : (0 : Int) ≤ (x5 : Int) := by omega
       clear r5 hx5
       obtain ⟨x6, hx6⟩ : ∃ x, x = (b64c i6).toNat := ⟨_, rfl⟩
       have m6 := hc.dec i6 u6
       have r6 := alph_idx i6 u6
       rw [← hx6] at s6 m6 r6
       have y6 : x6 < 256 := by omega
       have yi6 : (x6 : Int) < 256 := by omega
       have yj6 : (0 : Int) ≤ (x6 : Int) := by omega
       clear r6 hx6
       obtain ⟨x7, hx7⟩ : ∃ x, x = (b64c i7).toNat := ⟨_, rfl⟩
       have m7 := hc.dec i7 u7
       have r7 := alph_idx i7 u7
       rw [← hx7] at s7 m7 r7
       have y7 : x7 < 256 := by omega
       have yi7 : (x7 : Int) < 256 := by omega
       have yj7 : (0 : Int) ≤ (x7 : Int) := by omega
       clear r7 hx7
       have H142 := fun w => f142 (w := w) i0 i1 i2 i3 i4 i5 i6 i7 u0 u1 u2 u3 u4 u5 u6 u7
       obtain ⟨V, hV⟩ : ∃ V, V = i0 * 288230376151711744 + i1 * 4503599627370496 + i2 * 70368744177664 + i3 * 1099511627776 + i4 * 17179869184 + i5 * 268435456 + i6 * 4194304 + i7 * 65536 := ⟨_, rfl⟩
       rw [← hV] at H142
       have hVb : V < 18446744073709551616 := by omega
       have v0 : V / 72057594037927936 = a0.toNat := by omega
       have v1 : V / 281474976710656 % 256 = a1.toNat := by omega
       have v2 : V / 1099511627776 % 256 = a2.toNat := by omega
       have v3 : V / 4294967296 % 256 = a3.toNat := by omega
       have v4 : V / 16777216 % 256 = a4.toNat := by omega
       have v5 : V / 65536 % 256 = a5.toNat := by omega
       have HVV := Lib.hid (And.intro v0 (And.intro v1 (And.intro v2 (And.intro v3 (And.intro v4 v5)))))
       have hql : q.length = q'.length + 6 := by rw [hq']; rfl
       have w1 : (8 : Int) ≤ (M : Int) - si := by omega
       have w2 : (8 : Int) ≤ (N : Int) - n := by omega
       have w3 : si + 8 ≤ sc := by omega
       have w4 : (si : Int) + 8 ≤ sc := by omega
       have w5 : n ≤ N := by omega
       have w6 : (n : Int) ≤ N := by omega
       have w7 : ¬ sc = si := by omega
       have w8 : ¬ N = n := by omega
       have w9 : (si : Int) ≤ (si : Int) + 8 := by omega
       have hn' : n = d.length := hn
       have HPQ := Lib.hid hpq3
       have HND := Lib.hid hn
       have HBD : Hid (si = (n + 2) / 3 * 4) := by show _ = _; omega
       have HSI := Lib.hid hbd3
       have HD33 := Lib.hid hd33
       have HG := Lib.hid hG
       have HGR := Lib.hid hgr
       have hN8 : n + 8 ≤ N := by omega
       have hNn : 8 ≤ N - n := by omega
       have HS := Lib.hid hs
       clear hi0 hi1 hi2 hi3 hi4 hi5 hi6 hi7 hV v0 v1 v2 v3 v4 v5 hpq2 hpq3 hbd3 hd33 hq' hs hG hgr hn hn' hpq hsi hbd hpl hMs hNs t0 t1 t2 t3 t4 t5
       go_wp2_with fail
       go_quiet ((go_at_call 142; exact Calls.quiet_of_same (H142 _)))
       have hrd : (wr.drewN nq).rowIs D 5 N G := hr
       have hcd : EncAt c (wr.drewN nq) := hc
       have hsd : SrcAt (wr.drewN nq) K 0 (b64 p) := HS.out
       have hgd : GrowD D w (wr.drewN nq) := HGR.out.drewN nq
       clear H142 hr hc s0 s1 s2 s3 s4 s5 s6 s7 m0 m1 m2 m3 m4 m5 m6 m7
       generalize wr.drewN nq = wd at *
       go_wp2_with fail
       refine (f143 D n (N - n) (N - n) N G V hVb hrd hNn hN8).mono ?_
       rintro r w3 ⟨rfl, hu, G', hr', g0, g1, g2, g3, g4, g5, gG⟩
       have hc3 : EncAt c w3 := hu.row hcD hcd
       have hs3 := srcAt_upd hsd hu hKD
       have hg3 := hgd.upd hu
       have HGG := Lib.hid (And.intro g0 (And.intro g1 (And.intro g2 (And.intro g3 (And.intro g4 (And.intro g5 gG))))))
       clear g0 g1 g2 g3 g4 g5 gG hrd hcd hsd hgd hu
       go_wp2_with fail
       go_roundw
       case rel =>
         obtain ⟨v0, v1, v2, v3, v4, v5⟩ := HVV.out
         obtain ⟨g0, g1, g2, g3, g4, g5, gG⟩ := HGG.out
         have hn := HND.out
         have hbd := HBD.out
         refine ⟨rfl, d ++ [a0, a1, a2, a3, a4, a5], q', n + 6, si + 8, G', by rw [HPQ.out]; simp, by omega, ?_, ?_, ?_, by go_num, by go_num, hr', ?_, hg3, hc3, hs3⟩
         · rw [List.length_append]; simp; omega
         · rw [List.length_append, hn]; rfl
         · rw [b64_len, List.length_append]; simp; omega
         · refine ext_bytes G' G d _ HG.out (fun j hj => gG j (by omega)) (fun i hi => ?_)
           rw [← hn]
           have hi6 : i < 6 := hi
           match i, hi6 with
           | 0, _ => rw [Nat.add_zero, g0, v0]; rfl
           | 1, _ => rw [g1, v1]; rfl
           | 2, _ => rw [g2, v2]; rfl
           | 3, _ => rw [g3, v3]; rfl
           | 4, _ => rw [g4, v4]; rfl
           | 5, _ => rw [g5, v5]; rfl
       case measure => simp [intOf]; omega
     · have hlt : ¬ ((8 : Int) ≤ (N : Int) - n) := by omega
       have hsM : si ≤ M := by omega
       have hnN : n ≤ N := by omega
       have HR : Hid (DS p c D K N w 7 (.int .i64 n) (.int .i64 si) wr) := ⟨d, q, n, si, G, hpq, by omega, hd3, hn, hsi, rfl, rfl, hr, hG, hgr, hc, hs⟩
       clear hr hG hgr hc hs hpq hsi hbd hpl hn hd3 hMs hNs
       by_cases hm : (8 : Int) ≤ (M : Int) - si
       · go_wp2_with fail
         go_meet
         exact ⟨rfl, HR.out⟩
       · go_wp2_with fail
         go_meet
         exact ⟨rfl, HR.out⟩
  case rest =>
   clear hr hc hs
   obtain ⟨rfl, hDS1⟩ := hcut
   have HDS1 := Lib.hid hDS1
   clear hDS1
   go_upto_block 2 with fail
   go_cut [6, 7, 8] (fun nv ev sv wx => ev = .nilIface ∧ DS p c D K N w 4 nv sv wx)
   case first =>
    go_wp2_with fail
    go_loopw [6, 7, 8] (fun nv ev sv wr => ev = .nilIface ∧ DS p c D K N w 7 nv sv wr) (fun _ _ sv _ => M - (intOf sv).toNat)
    case atStart => exact ⟨rfl, HDS1.out⟩
    case round =>
      clear HDS1
      obtain ⟨rfl, hDS⟩ := hrel
      obtain ⟨d, q, n, si, G, hpq, hqb, hd3, hn, hsi, rfl, rfl, hr, hG, hgr, hc, hs⟩ := hDS
      have hbd := b64_len d
      have hpl : p.length = d.length + q.length := by rw [hpq, List.length_append]
      have hMs : M = si + (q.length + 2) / 3 * 4 := by have := HM.out; have := HBL.out; omega
      have hNs : N = n + (q.length + 2) / 3 * 3 := by have := HN.out; omega
      by_cases h4 : 4 ≤ q.length
      · obtain ⟨a0, a1, a2, q', hq'⟩ : ∃ a0 a1 a2 q', q = a0 :: a1 :: a2 :: q' := by
          match q, h4 with
          | a0 :: a1 :: a2 :: q', _ => exact ⟨a0, a1, a2, q', rfl⟩
        have hpq2 : p = d ++ a0 :: a1 :: a2 :: q' := by rw [hpq, hq']
        obtain ⟨s0, s1, s2, s3⟩ := quad (hpq2 ▸ hs) hd3
        rw [← hsi] at s0 s1 s2 s3
        obtain ⟨i0, hi0⟩ : ∃ i, i = a0.toNat / 4 := ⟨_, rfl⟩
        obtain ⟨i1, hi1⟩ : ∃ i, i = a0.toNat % 4 * 16 + a1.toNat / 16 := ⟨_, rfl⟩
        obtain ⟨i2, hi2⟩ : ∃ i, i = a1.toNat % 16 * 4 + a2.toNat / 64 := ⟨_, rfl⟩
        obtain ⟨i3, hi3⟩ : ∃ i, i = a2.toNat % 64 := ⟨_, rfl⟩
        have t0 := byte_lt a0
        have t1 := byte_lt a1
        have t2 := byte_lt a2
        have u0 : i0 < 64 := by omega
        have u1 : i1 < 64 := by omega
        have u2 : i2 < 64 := by omega
        have u3 : i3 < 64 := by omega
        rw [← hi0] at s0
        rw [← hi1] at s1
        rw [← hi2] at s2
        rw [← hi3] at s3
        obtain ⟨x0, hx0⟩ : ∃ x, x = (b64c i0).toNat := ⟨_, rfl⟩
        have m0 := hc.dec i0 u0
        have r0 := alph_idx i0 u0
        rw [← hx0] at s0 m0 r0
        have y0 : x0 < 256 := by omega
        have yi0 : (x0 : Int) < 256 := by omega
        have yj0 : (0 : Int) ≤ (x0 : Int) := by omega
        clear r0 hx0
        obtain ⟨x1, hx1⟩ : ∃ x, x = (b64c i1).toNat := ⟨_, rfl⟩
        have m1 := hc.dec i1 u1
        have r1 := alph_idx i1 u1
        rw [← hx1] at s1 m1 r1
        have y1 : x1 < 256 := by omega
        have yi1 : (x1 : Int) < 256 := by omega
        have yj1 : (0 : Int) ≤ (x1 : Int) := by omega
        clear r1 hx1
        obtain ⟨x2, hx2⟩ : ∃ x, x = (b64c i2).toNat := ⟨_, rfl⟩
        have m2 := hc.dec i2 u2
        have r2 := alph_idx i2 u2
        rw [← hx2] at s2 m2 r2
        have y2 : x2 < 256 := by omega
        have yi2 : (x2 : Int) < 256 := by omega
        have yj2 : (0 : Int) ≤ (x2 : Int) := by omega
        clear r2 hx2
        obtain ⟨x3, hx3⟩ : ∃ x, x = (b64c i3).toNat := ⟨_, rfl⟩
        have m3 := hc.dec i3 u3
        have r3 := alph_idx i3 u3
        rw [← hx3] at s3 m3 r3
        have y3 : x3 < 256 := by omega
        have yi3 : (x3 : Int) < 256 := by omega
        have yj3 : (0 : Int) ≤ (x3 : Int) := by omega
        clear r3 hx3
        have H145 := fun w => f145 (w := w) i0 i1 i2 i3 u0 u1 u2 u3
        obtain ⟨V, hV⟩ : ∃ V, V = i0 * 67108864 + i1 * 1048576 + i2 * 16384 + i3 * 256 := ⟨_, rfl⟩
        rw [← hV] at H145
        have hVb : V < 4294967296 := by omega
        have v0 : V / 16777216 = a0.toNat := by omega
        have v1 : V / 65536 % 256 = a1.toNat := by omega
        have v2 : V / 256 % 256 = a2.toNat := by omega
        have HVV := Lib.hid (And.intro v0 (And.intro v1 v2))
        have hql : q.length = q'.length + 3 := by rw [hq']; rfl
        have w1 : (4 : Int) ≤ (M : Int) - si := by omega
        have w2 : (4 : Int) ≤ (N : Int) - n := by omega
        have w3 : si + 4 ≤ sc := by omega
        have w4 : (si : Int) + 4 ≤ sc := by omega
        have w5 : n ≤ N := by omega
        have w6 : (n : Int) ≤ N := by omega
        have w7 : ¬ sc = si := by omega
        have w8 : ¬ N = n := by omega
        have w9 : (si : Int) ≤ (si : Int) + 4 := by omega
        have HPQ := Lib.hid hpq2
        have HND := Lib.hid hn
        have HBD : Hid (si = (n + 2) / 3 * 4) := by show _ = _; omega
        have HG := Lib.hid hG
        have HGR := Lib.hid hgr
        have hN8 : n + 4 ≤ N := by omega
        have hNn : 4 ≤ N - n := by omega
        have HS := Lib.hid hs
        clear hi0 hi1 hi2 hi3 hV v0 v1 v2 hpq2 hq' hs hG hgr hn hpq hsi hbd hpl hMs hNs t0 t1 t2
        go_wp2_with fail
        go_quiet ((go_at_call 145; exact Calls.quiet_of_same (H145 _)))
        have hrd : (wr.drewN nq).rowIs D 5 N G := hr
        have hcd : EncAt c (wr.drewN nq) := hc
        have hsd : SrcAt (wr.drewN nq) K 0 (b64 p) := HS.out
        have hgd : GrowD D w (wr.drewN nq) := HGR.out.drewN nq
        clear H145 hr hc s0 s1 s2 s3 m0 m1 m2 m3
        generalize wr.drewN nq = wd at *
        go_wp2_with fail
        refine (f146 D n (N - n) (N - n) N G V hVb hrd hNn hN8).mono ?_
        rintro r w3 ⟨rfl, hu, G', hr', g0, g1, g2, gG⟩
        have hc3 : EncAt c w3 := hu.row hcD hcd
        have hs3 := srcAt_upd hsd hu hKD
        have hg3 := hgd.upd hu
        have HGG := Lib.hid (And.intro g0 (And.intro g1 (And.intro g2 gG)))
        clear g0 g1 g2 gG hrd hcd hsd hgd hu
        go_wp2_with fail
        go_roundw
        case rel =>
          obtain ⟨v0, v1, v2⟩ := HVV.out
          obtain ⟨g0, g1, g2, gG⟩ := HGG.out
          have hn := HND.out
          have hbd := HBD.out
          refine ⟨rfl, d ++ [a0, a1, a2], q', n + 3, si + 4, G', by rw [HPQ.out]; simp, by omega, ?_, ?_, ?_, by go_num, by go_num, hr', ?_, hg3, hc3, hs3⟩
          · rw [List.length_append]; simp; omega
          · rw [List.length_append, hn]; rfl
          · rw [b64_len, List.length_append]; simp; omega
          · refine ext_bytes G' G d _ HG.out (fun j hj => gG j (by omega)) (fun i hi => ?_)
            rw [← hn]
            have hi6 : i < 3 := hi
            match i, hi6 with
            | 0, _ => rw [Nat.add_zero, g0, v0]; rfl
            | 1, _ => rw [g1, v1]; rfl
            | 2, _ => rw [g2, v2]; rfl
        case measure => simp [intOf]; omega
      · have hlt : ¬ ((4 : Int) ≤ (N : Int) - n) := by omega
        have hsM : si ≤ M := by omega
        have hnN : n ≤ N := by omega
        have HR : Hid (DS p c D K N w 4 (.int .i64 n) (.int .i64 si) wr) := ⟨d, q, n, si, G, hpq, by omega, hd3, hn, hsi, rfl, rfl, hr, hG, hgr, hc, hs⟩
        clear hr hG hgr hc hs hpq hsi hbd hpl hn hd3 hMs hNs
        by_cases hm : (4 : Int) ≤ (M : Int) - si
        · go_wp2_with fail
          go_meet
          exact ⟨rfl, HR.out⟩
        · go_wp2_with fail
          go_meet
          exact ⟨rfl, HR.out⟩
   case rest =>
    clear HDS1
    obtain ⟨rfl, hDS2⟩ := hcut
    have HDS2 := Lib.hid hDS2
    clear hDS2
    go_wp2_with fail
    go_loopw [6, 7, 8] (fun nv ev sv wr => ev = .nilIface ∧ (DS p c D K N w 4 nv sv wr ∨ (nv = .int .i64 p.length ∧ sv = .int .i64 M ∧ SrcAt wr D 0 p ∧ GrowD D w wr))) (fun _ _ sv _ => M - (intOf sv).toNat)
    case atStart => exact ⟨rfl, .inl HDS2.out⟩
    case round =>
      clear HDS2
      obtain ⟨rfl, hDS⟩ := hrel
      rcases hDS with ⟨d, q, n, si, G, hpq, hq3, hd3, hn, hsi, rfl, rfl, hr, hG, hgr, hc, hs⟩ | ⟨rfl, rfl, hs, hgr⟩
      · have hbd := b64_len d
        have hpl : p.length = d.length + q.length := by rw [hpq, List.length_append]
        have hMs : M = si + (q.length + 2) / 3 * 4 := by have := HM.out; have := HBL.out; omega
        have hNs : N = n + (q.length + 2) / 3 * 3 := by have := HN.out; omega
        by_cases h0 : q.length = 0
        · have hlt : ¬ (si : Int) < M := by omega
          have hqn : q = [] := List.length_eq_zero_iff.1 h0
          have hpd : p = d := by rw [hpq, hqn]; simp
          have hsp : SrcAt wr D 0 p := by
            rw [hpd]
            intro j hj
            rw [Nat.zero_add, hr.cell (by omega), hG j hj]
          have hnp : n = p.length := by rw [hpd]; exact hn
          clear hr hG hc hs hpq hsi hbd hpl hMs hNs hn hpd hqn
          go_wp2
          go_ret2
          exact ⟨by first | rfl | (rw [hnp]; rfl), hsp, hgr.grown⟩
        · obtain ⟨A, B, C, hA, hB, hC, hqf⟩ : ∃ A B C : Nat, A < 256 ∧ B < 256 ∧ C < 256 ∧ (∃ a : UInt8, A = a.toNat ∧ ((q = [a] ∧ B = 0 ∧ C = 0) ∨ (∃ b : UInt8, B = b.toNat ∧ ((q = [a, b] ∧ C = 0) ∨ (∃ c : UInt8, C = c.toNat ∧ q = [a, b, c]))))) := by
            match q, h0, hq3 with
            | [a], _, _ => exact ⟨a.toNat, 0, 0, byte_lt a, by omega, by omega, a, rfl, .inl ⟨rfl, rfl, rfl⟩⟩
            | [a, b], _, _ => exact ⟨a.toNat, b.toNat, 0, byte_lt a, byte_lt b, by omega, a, rfl, .inr ⟨b, rfl, .inl ⟨rfl, rfl⟩⟩⟩
            | [a, b, c], _, _ => exact ⟨a.toNat, b.toNat, c.toNat, byte_lt a, byte_lt b, byte_lt c, a, rfl, .inr ⟨b, rfl, .inr ⟨c, rfl, rfl⟩⟩⟩
          have hlast := last_quad (K := K) (w := wr) (d := d) (q := q) A B C hA hB hC hqf (hpq ▸ hs) hd3
          rw [← hsi] at hlast
          obtain ⟨hch, hpad, hv, hv0⟩ := hlast
          have H144 := f144 (w := wr) c D n (N - n) (N - n) N K 0 si sc G (lastV A B C) (q.length + 1) (by omega) (by omega) hv hv0 hc hr hch hpad (by omega) (by omega) hcD (by omega)
          rw [show si + 4 = M by omega, show q.length + 1 - 1 = q.length by omega] at H144
          have hVs : lastV A B C 0 * 262144 + lastV A B C 1 * 4096 + lastV A B C 2 * 64 + lastV A B C 3 = A * 65536 + B * 256 + C := by
            simp only [lastV]; simp; omega
          rw [hVs] at H144
          have w1 : (si : Int) < M := by omega
          have w5 : n ≤ N := by omega
          have w6 : (n : Int) ≤ N := by omega
          have w8 : ¬ N = n := by omega
          have HG := Lib.hid hG
          have HGR := Lib.hid hgr
          have HPQ := Lib.hid hpq
          have HND := Lib.hid hn
          have HQF := Lib.hid hqf
          have hnq : n + q.length = p.length := by omega
          have hnq2 : (n : Int) + q.length = p.length := by omega
          have hNq : n + q.length ≤ N := by omega
          clear hch hpad hv hv0 hVs hs hG hgr hn hpq hsi hbd hpl hMs hNs hc hr hqf
          go_wp2_with fail
          refine H144.mono ?_
          rintro r w3 ⟨rfl, hgb, G', hr', gG, g0, g1, g2⟩
          have hg3 := HGR.out.by hgb
          have hsp : SrcAt w3 D 0 p := by
            have hn := HND.out
            rw [HPQ.out]
            intro j hj
            have hjl : j < d.length + q.length := by rw [List.length_append] at hj; exact hj
            rw [Nat.zero_add, hr'.cell (by omega)]
            congr 1
            refine ext_bytes G' G d q HG.out (fun j hj => gG j (by omega)) (fun i hi => ?_) j hj
            rw [← hn]
            obtain ⟨a, ha, hcase⟩ := HQF.out
            rcases hcase with ⟨rfl, hb, hcc⟩ | ⟨b, hb, hcase⟩
            · match i, hi with
              | 0, _ => rw [Nat.add_zero, g0]; simp; omega
            · rcases hcase with ⟨rfl, hcc⟩ | ⟨cc, hcc, rfl⟩
              · match i, hi with
                | 0, _ => rw [Nat.add_zero, g0]; simp; omega
                | 1, _ => rw [g1 (by simp)]; simp; omega
              · match i, hi with
                | 0, _ => rw [Nat.add_zero, g0]; simp; omega
                | 1, _ => rw [g1 (by simp)]; simp; omega
                | 2, _ => rw [g2 (by simp)]; simp; omega
          clear hgb hr' gG g0 g1 g2 H144
          go_wp2_with fail
          go_roundw
          case rel => exact ⟨rfl, .inr ⟨rfl, rfl, hsp, hg3⟩⟩
          case measure => simp [intOf]; omega
      · have hlt : ¬ (M : Int) < M := by omega
        go_wp2
        go_ret2
        exact ⟨rfl, hs, hgr.grown⟩
end Go.Proofs.YtbigjdlcmlopcaaGreatDoor
