import Derived.Test.YtbigjdlcmlopcaaGreatDoorU
import Derived.Deep.QuietTactic
import Derived.BigQuiet
namespace Go.Proofs.YtbigjdlcmlopcaaGreatDoor
open Go.RowKit

theorem hexd_val (n : Nat) (hn : n < 16) : (n < 10 ∧ (hexd n).toNat = 48 + n) ∨ (10 ≤ n ∧ (hexd n).toNat = 55 + n) := by
  have h : ∀ i : Fin 16, (i.1 < 10 ∧ (hexd i.1).toNat = 48 + i.1) ∨ (10 ≤ i.1 ∧ (hexd i.1).toNat = 55 + i.1) := by decide
  exact h ⟨n, hn⟩

/-- fromHex. -/
theorem f147 {w : World} (n : Nat) (hn : n < 16) (c : Int) (hc : c = (hexd n).toNat) : Calls Tryz.prog 147 #[.int .u8 c] w fun r w' => r = .returned (.tuple #[.int .u8 n, .nilIface]) ∧ w = w' := by
  rcases hexd_val n hn with ⟨h1, h2⟩ | ⟨h1, h2⟩
  · have hcn : c = 48 + (n : Int) := by omega
    have b1 : (48 : Int) ≤ c := by omega
    have b2 : c ≤ 57 := by omega
    have b3 : c - 48 = n := by omega
    clear hc h2 hcn
    go_enter Tryz.func147, Tryz.ntmps147
    go_wp2
    go_ret2
    simp
  · have b1 : ¬ c ≤ 57 := by omega
    have b4 : (48 : Int) ≤ c := by omega
    have b2 : (65 : Int) ≤ c := by omega
    have b3 : c ≤ 70 := by omega
    have b5 : c - 65 + 10 = n := by omega
    clear hc h2
    go_enter Tryz.func147, Tryz.ntmps147
    go_wp2
    go_ret2
    simp

theorem wraps_u8_8 (n : Int) (h₀ : 0 ≤ n) (h₁ : n < 2 ^ 8) : IntKind.u8.wrap n = n := by rw [IntKind.wrap_u8]; omega
theorem or8 (a b : Nat) (ha : a < 16) (hb : b < 16) : bits .or .u8 ((a : Int) * 16) (b : Int) = ((a * 16 + b : Nat) : Int) := by
  have h := (bits_nat .u8 8 (by decide) wraps_u8_8 (a * 16) b (by omega) (by omega)).2
  have h2 := Nat.two_pow_add_eq_or_of_lt (i := 4) (b := b) (by omega) a
  rw [show 2 ^ 4 * a = a * 16 by omega] at h2
  rw [← h2] at h
  simpa using h

/-- readHexByte. -/
theorem f135 {w : World} (x : Nat) (hx : x < 256) (a b : Int) (ha : a = (hexd (x / 16)).toNat) (hb : b = (hexd (x % 16)).toNat) : Calls Tryz.prog 135 #[.int .u8 a, .int .u8 b] w fun r w' => r = .returned (.tuple #[.int .u8 x, .nilIface]) ∧ w = w' := by
  have h1 := f147 (w := w) (x / 16) (by omega) a ha
  have h2 := f147 (w := w) (x % 16) (by omega) b hb
  have h3 := or8 (x / 16) (x % 16) (by omega) (by omega)
  rw [show x / 16 * 16 + x % 16 = x by omega] at h3
  obtain ⟨m, hm⟩ : ∃ m, m = x / 16 := ⟨_, rfl⟩
  obtain ⟨k, hk⟩ : ∃ k, k = x % 16 := ⟨_, rfl⟩
  rw [← hm] at h1 h3
  rw [← hk] at h2 h3
  have hm2 : m < 16 := by omega
  clear ha hb hm hk
  go_enter Tryz.func135, Tryz.ntmps135
  go_wp2_with fail
  refine h1.mono ?_
  rintro r w1 ⟨rfl, rfl⟩
  go_wp2_with fail
  refine h2.mono ?_
  rintro r w1 ⟨rfl, rfl⟩
  go_wp2
  go_ret2
  simp

theorem qB_ne (c : UInt8) : ∃ y l, qB c = y :: l := by
  unfold qB
  split
  · exact ⟨_, _, rfl⟩
  · split
    · exact ⟨_, _, rfl⟩
    · exact ⟨_, _, rfl⟩

set_option maxRecDepth 100000 in
set_option maxHeartbeats 6400000 in
/-- qDecode of what writeQString wrote. -/
theorem f120 {w : World} (t : List UInt8) (ht0 : t.length ≤ 10000) : Calls Tryz.prog 120 #[.string (mk (qenc t))] w fun r w' => (∃ D n, w.heap.size ≤ D ∧ r = .returned (.tuple #[.slice (some ⟨D, 0, none⟩) t.length n, .nilIface]) ∧ SrcAt w' D 0 t ∧ t.length ≤ n) ∧ Below w.heap.size w w' := by
  have hq := qenc_le t
  obtain ⟨s, hs⟩ : ∃ s, s = mk (qenc t) := ⟨_, rfl⟩
  rw [← hs]
  have hz : s.size = (qenc t).length := by rw [hs, mk_size]
  have hlen : ∀ d : List UInt8, d.length ≤ (qenc d).length := by
    intro d
    induction d with
    | nil => simp
    | cons c d ih =>
      have : qenc (c :: d) = qB c ++ qenc d := by simp [qenc]
      rw [this, List.length_append, List.length_cons]
      have := (qB_le c).1
      omega
  have hzt := hlen t
  have HS := Lib.hid hs
  have HLEN := Lib.hid hlen
  have hz1 : s.size ≤ (qenc t).length := by omega
  have hz2 : (qenc t).length ≤ s.size := by omega
  clear hs hlen hz
  have hmk := run_make_row' (P := Tryz.prog) 74 5 (.int .u8 0) 1 Tryz.underlying74 (by kernel_rfl) rfl .i64 .i64 s.size (by omega) (by omega) w
  have hr0 := World.rowIs_made w (.int .u8 0) s.size 5
  have hb0 : Below w.heap.size w (w.alloc (.cells (madeCells #[.int .u8 0] s.size) 5)) := (Below.refl _ _).alloc (Nat.le_refl _) _
  obtain ⟨D, hD⟩ : ∃ D, w.heap.size = D := ⟨_, rfl⟩
  rw [hD] at hmk hr0 hb0 ⊢
  go_enter Tryz.func120, Tryz.ntmps120
  go_wp2_with fail
  go_loopw [5, 6] (fun nv iv wr => ∃ (d q : List UInt8) (i : Nat), t = d ++ q ∧ i = (qenc d).length ∧ nv = .int .i64 d.length ∧ iv = .int .i64 i ∧ wr.rowIs D 5 s.size (put (fun _ => .int .u8 0) 0 d) ∧ Below D w wr) (fun _ iv _ => s.size - (intOf iv).toNat)
  case atStart => exact ⟨[], t, 0, rfl, rfl, rfl, rfl, hr0.congr (fun j _ => by unfold put; rw [if_neg (by simp)]), hb0⟩
  case round =>
    clear hr0 hb0 hmk
    obtain ⟨d, q, i, ht, hi, rfl, rfl, hr, hb⟩ := hrel
    have hdl := HLEN.out d
    have hsplit : (qenc t).length = (qenc d).length + (qenc q).length := by rw [ht, qenc_append, List.length_append]
    have htl : t.length = d.length + q.length := by rw [ht, List.length_append]
    have hi1 : i ≤ (qenc d).length := by omega
    have hi2 : (qenc d).length ≤ i := by omega
    have HT := Lib.hid ht
    have HI := Lib.hid hi
    clear ht hi
    cases q with
    | nil =>
      have h0 : (qenc []).length = 0 := rfl
      have h00 : ([] : List UInt8).length = 0 := rfl
      have hend : ¬ i < s.size := by omega
      have hdn : d.length ≤ s.size := by omega
      have hdn2 : (d.length : Int) ≤ s.size := by omega
      have htd : t = d := by rw [HT.out]; simp
      clear hsplit
      go_wp2
      go_ret2
      refine ⟨⟨D, s.size, Nat.le_refl _, by rw [htd]; rfl, ?_, by omega⟩, hb⟩
      rw [htd]
      exact fun j hj => by
        rw [Nat.zero_add, hr.cell (by omega)]; unfold put
        rw [if_pos (by omega), Nat.sub_zero, List.getElem?_eq_getElem hj]; rfl
    | cons c q =>
      have hqc : qenc (c :: q) = qB c ++ qenc q := by simp [qenc]
      have hd' : t = (d ++ [c]) ++ q := by rw [HT.out]; simp
      have hqd' : qenc (d ++ [c]) = qenc d ++ qB c := by rw [qenc_append]; simp [qenc]
      have hB := qB_le c
      have hl1 : (qenc (c :: q)).length = (qB c).length + (qenc q).length := by rw [hqc, List.length_append]
      have hsp : s = mk (qenc d ++ (qB c ++ qenc q)) := by rw [HS.out, HT.out, qenc_append, hqc]
      have hnd : d.length < s.size := by omega
      have hnd2 : (d.length : Int) < s.size := by omega
      have hip : i < s.size := by omega
      have cN : wr.cell? ⟨D, d.length, none⟩ = some (put (fun _ => .int .u8 0) 0 d d.length) := hr.cell hnd
      have fN := hr.frozen d.length
      have hcl : (c :: q).length = q.length + 1 := rfl
      have hrs := (hr.set d.length (.int .u8 (c.toNat : Int))).congr (fun j _ => put_set (fun _ => Value.int .u8 0) 0 d.length d c (by omega) j)
      have hbs := hb.setCell (p := ⟨D, d.length, none⟩) (Nat.le_refl _) (.int .u8 (c.toNat : Int))
      have HD' := Lib.hid hd'
      have HQD := Lib.hid hqd'
      have HSP := Lib.hid hsp
      have hfin : (qenc (d ++ [c])).length = i + (qB c).length := by rw [hqd', List.length_append]; omega
      have HFIN := Lib.hid hfin
      clear hqc hd' hqd' hsp hfin hsplit hl1
      by_cases c1 : c.toNat = 32
      · have hqb : qB c = [95] := by unfold qB; rw [if_pos c1]
        obtain ⟨hp, hx⟩ : ∃ h : i < s.size, s[i] = 95 := by
          have e := HI.out
          subst e
          exact at_mid (by rw [HSP.out, hqb]; rfl)
        have hix : ∀ w, (Instr.index 9 (.string s) (.int .i64 i)).run Tryz.prog w = .ok (.int .u8 95) w := by
          intro w
          rw [run_index_string w 9 s .i64 i Tryz.underlying9]
          simp [hp, hx]
        have HQB := Lib.hid hqb
        rw [c1] at hrs hbs
        clear hqb hx
        go_wp2_with fail
        go_roundw
        case rel =>
          refine ⟨d ++ [c], q, i + 1, HD'.out, ?_, by rw [List.length_append]; go_num, by go_num, hrs, hbs⟩
          rw [HFIN.out, HQB.out]; rfl
        case measure => simp [intOf]; omega
      · by_cases c2 : qraw c = true
        · have h2 := of_decide_eq_true c2
          have hqb : qB c = [c] := by unfold qB; rw [if_neg c1, if_pos c2]
          obtain ⟨hp, hx⟩ : ∃ h : i < s.size, s[i] = c := by
            have e := HI.out
            subst e
            exact at_mid (by rw [HSP.out, hqb]; rfl)
          obtain ⟨x, hxx⟩ : ∃ x : Int, x = c.toNat := ⟨_, rfl⟩
          have hix : ∀ w, (Instr.index 9 (.string s) (.int .i64 i)).run Tryz.prog w = .ok (.int .u8 x) w := by
            intro w
            rw [run_index_string w 9 s .i64 i Tryz.underlying9]
            simp [hp, hx, hxx]
          have r1 : 32 ≤ x := by omega
          have r2 : x ≤ 126 := by omega
          have b1 : (x == 95) = false := by simp; omega
          have b2 : (x == 61) = false := by simp; omega
          rw [← hxx] at hrs hbs
          have HQB := Lib.hid hqb
          clear hqb hx hxx c1 c2 h2
          go_wp2_with fail
          go_roundw
          case rel =>
            refine ⟨d ++ [c], q, i + 1, HD'.out, ?_, by rw [List.length_append]; go_num, by go_num, hrs, hbs⟩
            rw [HFIN.out, HQB.out]; rfl
          case measure => simp [intOf]; omega
        · have c2 : qraw c = false := by simpa using c2
          have hqb : qB c = [61, hexd (c.toNat / 16), hexd (c.toNat % 16)] := by unfold qB; rw [if_neg c1, if_neg (by simp [c2])]
          have hq3 : (qB c).length = 3 := by rw [hqb]; rfl
          have hp0 : i + 2 < s.size := by
            have := HSP.out
            have h3 := congrArg ByteArray.size this
            rw [mk_size] at h3
            simp only [List.length_append] at h3
            omega
          have g0 : s[i] = 61 := by
            have e := HI.out
            subst e
            exact (at_mid (by rw [HSP.out, hqb]; rfl)).2
          have hx1 : s[i + 1] = hexd (c.toNat / 16) := by
            have e : i + 1 = (qenc d ++ [61]).length := by rw [List.length_append]; have := HI.out; simp; omega
            have h : s = mk ((qenc d ++ [61]) ++ hexd (c.toNat / 16) :: (hexd (c.toNat % 16) :: qenc q)) := by rw [HSP.out, hqb]; simp
            obtain ⟨_, h2⟩ := at_mid h
            simp only [← e] at h2
            exact h2
          have hx2 : s[i + 2] = hexd (c.toNat % 16) := by
            have e : i + 2 = (qenc d ++ [61, hexd (c.toNat / 16)]).length := by rw [List.length_append]; have := HI.out; simp; omega
            have h : s = mk ((qenc d ++ [61, hexd (c.toNat / 16)]) ++ hexd (c.toNat % 16) :: qenc q) := by rw [HSP.out, hqb]; simp
            obtain ⟨_, h2⟩ := at_mid h
            simp only [← e] at h2
            exact h2
          obtain ⟨a, ha⟩ : ∃ a : Int, a = (hexd (c.toNat / 16)).toNat := ⟨_, rfl⟩
          obtain ⟨b, hb'⟩ : ∃ b : Int, b = (hexd (c.toNat % 16)).toNat := ⟨_, rfl⟩
          have H135 := fun w => f135 (w := w) c.toNat c.toNat_lt a b ha hb'
          obtain ⟨x, hxx⟩ : ∃ x : Nat, x = c.toNat := ⟨_, rfl⟩
          rw [← hxx] at H135 hrs hbs
          have HXX := Lib.hid hxx
          have hix : ∀ w, (Instr.index 9 (.string s) (.int .i64 i)).run Tryz.prog w = .ok (.int .u8 61) w := by
            intro w
            rw [run_index_string w 9 s .i64 i Tryz.underlying9]
            simp [hip, g0]
          have hp1 : i + 1 < s.size := by omega
          have hix1 : ∀ w, (Instr.index 9 (.string s) (.int .i64 ((i : Int) + 1))).run Tryz.prog w = .ok (.int .u8 a) w := by
            intro w
            have := run_index_string (P := Tryz.prog) w 9 s .i64 ((i : Int) + 1) Tryz.underlying9
            rw [this]
            have e : ((i : Int) + 1).toNat = i + 1 := by omega
            simp only [e]
            rw [dif_pos ⟨by omega, by omega⟩, hx1, ha]
          have hix2 : ∀ w, (Instr.index 9 (.string s) (.int .i64 ((i : Int) + 2))).run Tryz.prog w = .ok (.int .u8 b) w := by
            intro w
            have := run_index_string (P := Tryz.prog) w 9 s .i64 ((i : Int) + 2) Tryz.underlying9
            rw [this]
            have e : ((i : Int) + 2).toNat = i + 2 := by omega
            simp only [e]
            rw [dif_pos ⟨by omega, by omega⟩, hx2, hb']
          have hw1 : IntKind.i64.wrap ((i : Int) + 1) = (i : Int) + 1 := IntWalk.i64_in _ (by omega)
          have hw2 : IntKind.i64.wrap ((i : Int) + 2) = (i : Int) + 2 := IntWalk.i64_in _ (by omega)
          have hp3 : ¬ (s.size : Int) ≤ (i : Int) + 2 := by omega
          have HQ3 := Lib.hid hq3
          clear g0 hx1 hx2 ha hb' hxx hqb hq3 c1 c2
          go_wp2_with fail
          go_quiet ((go_at_call 135; exact Calls.quiet_of_same ((H135 _).mono (fun _ _ h => ⟨h.1, h.2.symm⟩))))
          have hrd : (wr.drewN nq).rowIs D 5 s.size (put (fun _ => .int .u8 0) 0 d) := hr
          have hbd : Below D w (wr.drewN nq) := hb.trans ⟨rfl, rfl, rfl, Nat.le_refl _, fun _ _ => rfl⟩
          have hrs2 := (hrd.set d.length (.int .u8 ((c.toNat : Nat) : Int))).congr (fun j _ => put_set (fun _ => Value.int .u8 0) 0 d.length d c (by omega) j)
          have hbs2 := hbd.setCell (p := ⟨D, d.length, none⟩) (Nat.le_refl _) (.int .u8 ((c.toNat : Nat) : Int))
          rw [← HXX.out] at hrs2 hbs2
          have cN2 := hrd.cell hnd
          have fN2 := hrd.frozen d.length
          clear hrs hbs hr hb cN fN hrd hbd hix1 hix2 H135
          generalize wr.drewN nq = wd at *
          go_wp2_with fail
          go_roundw
          case rel =>
            refine ⟨d ++ [c], q, i + 3, HD'.out, ?_, by rw [List.length_append]; go_num, by go_num, hrs2, hbs2⟩
            rw [HFIN.out, HQ3.out]
          case measure => simp [intOf]; omega
end Go.Proofs.YtbigjdlcmlopcaaGreatDoor
