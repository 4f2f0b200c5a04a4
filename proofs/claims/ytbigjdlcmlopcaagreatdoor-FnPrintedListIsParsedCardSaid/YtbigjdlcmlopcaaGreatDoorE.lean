import Derived.Test.YtbigjdlcmlopcaaGreatDoorD
import Derived.Laws.Cover4
namespace Go.Proofs.YtbigjdlcmlopcaaGreatDoor
open Go.RowKit

theorem at_mid {s : ByteArray} {p q : List UInt8} {c : UInt8} (hs : s = mk (p ++ c :: q)) : ∃ h : p.length < s.size, s[p.length] = c := by
  have h : p.length < s.size := by rw [hs, mk_size]; simp
  refine ⟨h, ?_⟩
  have := split_hd hs h
  simpa using this.symm

def okc (c : UInt8) : Bool := decide ((32 ≤ c.toNat ∧ c.toNat ≤ 126) ∨ c.toNat = 9)
def pln (c : UInt8) : Bool := qtx c.toNat || wsp c.toNat
def escB (c : UInt8) : List UInt8 := if pln c then [c] else [92, c]
def esc (l : List UInt8) : List UInt8 := l.flatMap escB
theorem esc_append (a b : List UInt8) : esc (a ++ b) = esc a ++ esc b := by simp [esc]
theorem esc_one (a : List UInt8) (c : UInt8) : esc (a ++ [c]) = esc a ++ escB c := by simp [esc]
theorem esc_cons (c : UInt8) (a : List UInt8) : esc (c :: a) = escB c ++ esc a := by simp [esc]

theorem runes_ascii (l : List UInt8) (h : ∀ c ∈ l, c.toNat < 128) : runesBytes (l.map (fun c => (c.toNat : Int))) = mk l := by
  have key : ∀ (l : List UInt8) (a : List UInt8), (∀ c ∈ l, c.toNat < 128) → (l.map (fun c => (c.toNat : Int))).foldl (fun r n => r ++ Utf8.encode n) (mk a) = mk (a ++ l) := by
    intro l
    induction l with
    | nil => intro a _; simp
    | cons c l ih =>
      intro a h
      have hc := h c (by simp)
      have he : Utf8.encode (c.toNat : Int) = mk [c] := by
        unfold Utf8.encode
        have hv : Utf8.valid (c.toNat : Int) = true := by unfold Utf8.valid; simp; omega
        simp only [hv, if_true, Int.toNat_natCast, if_pos hc]
        simp [mk]
      simp only [List.map_cons, List.foldl_cons, he]
      have hm : mk a ++ mk [c] = mk (a ++ [c]) := by
        apply ByteArray.ext; simp [mk]
      rw [hm, ih (a ++ [c]) (fun x hx => h x (by simp [hx]))]
      simp
  have := key l [] h
  exact this

theorem Tryz_info21 : (Tryz.prog.info? 21).map (fun i => (i.zero, i.size, i.bytes)) = some (some (.int .i32 0), 1, 4) := by kernel_rfl
def zero10 : Obj := .cells #[.int .i32 0, .int .i32 0, .int .i32 0, .int .i32 0, .int .i32 0, .int .i32 0, .int .i32 0, .int .i32 0, .int .i32 0, .int .i32 0] 21

def i32s (d : List UInt8) : List Value := d.map (fun c => Value.int .i32 c.toNat)

/-- The loop's state in consumeQuotedString. -/
def QSt (t : List UInt8) (B : Nat) (w : World) (i v e : Value) (wr : World) : Prop :=
  ∃ (d r : List UInt8) (k : Nat) (g cap : Nat), t = d ++ r ∧ i = .int .i64 k ∧ v = .slice (some ⟨g, 0, none⟩) d.length cap ∧ wr.ownsRow B 21 1 v d.length (i32s d) ∧ w.grownBy wr none ∧
    ((e = .bool false ∧ k = 1 + (esc d).length) ∨ (e = .bool true ∧ k = 1 + (esc d).length + 1 ∧ ∃ c r', r = c :: r' ∧ pln c = false))

theorem i32s_one (d : List UInt8) (c : UInt8) : i32s (d ++ [c]) = i32s d ++ [Value.int .i32 c.toNat] := by simp [i32s]

/-- One rune more. -/
theorem QSt.push {t d q : List UInt8} {c : UInt8} {B : Nat} {w wr w1 : World} {g cap : Nat} {v' : Value} (hB : w.heap.size = B) (hd : t = d ++ c :: q) (k : Nat) (hk : k = 1 + (esc (d ++ [c])).length)
    (hown : wr.ownsRow B 21 1 (.slice (some ⟨g, 0, none⟩) d.length cap) d.length (i32s d)) (hg : w.grownBy wr none)
    (hown' : w1.ownsRow B 21 1 v' (d.length + 1) (i32s d ++ [Value.int .i32 c.toNat])) (hgrow : (wr.alloc (.cells #[.int .i32 c.toNat] 21)).grownBy w1 (Value.slice (some ⟨g, 0, none⟩) d.length cap).ownBlock)
    (i : Value) (hi : i = .int .i64 k) : QSt t B w i v' (.bool false) w1 := by
  obtain ⟨g', cap', hv⟩ : ∃ g' cap', v' = .slice (some ⟨g', 0, none⟩) (d.length + 1) cap' := by
    rcases hown'.2 with ⟨_, h0⟩ | ⟨g', cap', cur, hv, _⟩
    · omega
    · exact ⟨g', cap', hv⟩
  subst hv
  refine ⟨d ++ [c], q, k, g', cap', by simp [hd], hi, by simp, by rw [i32s_one]; simpa using hown', ?_, .inl ⟨rfl, hk⟩⟩
  have hb : Below w.heap.size w w1 := by
    refine ((below_of_grownBy hg (Nat.le_refl _) (by simp)).alloc hg.size _).grown hgrow (by simpa using Nat.le_succ_of_le hg.size) ?_
    intro k hk
    have := (hown.lt k hk).1
    omega
  exact grownBy_of_below _ hb

set_option maxHeartbeats 6400000 in
/-- consumeQuotedString. -/
theorem f65 {b : Nat} {w : World} (t r : List UInt8) (h : PAt b (mk (34 :: (esc t ++ 34 :: r))) w) (ht : ∀ c ∈ t, okc c = true) (hn : (esc t).length + r.length ≤ 1073741824) (hn2 : t.length ≤ 1073741824) :
    Calls Tryz.prog 65 #[.pointer (some ⟨b, 0, none⟩)] w fun e w' => e = .returned (.tuple #[.string (mk t), .nilIface]) ∧ PAt b (mk r) w' ∧ w.grownBy w' (some b) := by
  obtain ⟨s, hs⟩ : ∃ s, s = mk (34 :: (esc t ++ 34 :: r)) := ⟨_, rfl⟩
  rw [← hs] at h
  have hsz : s.size ≤ 1073741826 := by rw [hs, mk_size]; simp; omega
  have hlt := h.lt
  have HS := Lib.hid hs
  have HP := Lib.hid h
  have HT := Lib.hid ht
  have hmk : ∀ w, (Instr.makeSlice 122 (.int .i64 0) (.int .i64 10)).run Tryz.prog w = .ok (.slice (some ⟨w.heap.size, 0, none⟩) 0 10) (w.alloc zero10) := fun _ => by kernel_rfl
  obtain ⟨i0, hi, hz0, hz1, hz2⟩ := info_parts Tryz_info21
  clear hs h ht hn
  go_enter Tryz.func65, Tryz.ntmps65
  go_wp2
  go_step3
  go_wp2
  go_step3
  go_wp2
  go_loopw [4, 5, 6] (fun i v e wr => QSt t w.heap.size w i v e wr) (fun i _ _ _ => s.size - (intOf i).toNat)
  case atStart =>
    refine ⟨[], t, 1, w.heap.size, 10, rfl, rfl, rfl, ?_, grownBy_of_below _ ((Below.refl _ _).alloc (Nat.le_refl _) _), .inl ⟨rfl, rfl⟩⟩
    exact World.ownsRow_made w _ 10 (Nat.le_refl _) (by unfold maxLen; omega) rfl
  case round =>
    obtain ⟨d, q, k, g, cap, hd, rfl, rfl, hown, hg, hst⟩ := hrel
    have hP := HP.out.kept hg (by simp)
    have h0 := hP.c0
    have hf := hP.f0
    have hdl : d.length ≤ t.length := by rw [hd]; simp
    rcases hst with ⟨rfl, hk⟩ | ⟨rfl, hk, c, q', rfl, hpl⟩
    · cases q with
      | nil =>
        obtain ⟨hp, hc⟩ : ∃ h : k < s.size, s[k] = 34 := by
          obtain rfl : k = (34 :: esc d).length := by simp; omega
          exact at_mid (q := r) (by rw [HS.out, hd]; simp)
        have hdc := f82a (s.extract k s.size) 34 (by rw [ext_size]; omega) (by rw [ext_get _ _ hp, hc]; rfl) (by omega)
        have hx : s.extract (k + 1) s.size = mk r := by
          have := split_tail (a := 34 :: (esc d ++ [34])) (r := r) (s := s) (by rw [HS.out, hd]; simp)
          have e : (34 :: (esc d ++ [34])).length = k + 1 := by simp; omega
          rw [e] at this; exact this
        have hgB : w.heap.size ≤ g := (hown.lt g rfl).1
        have hconv : ∀ x, (convert 122 9 (.slice (some ⟨g, 0, none⟩) d.length cap)).run Tryz.prog (wr.setCell ⟨b, 0, none⟩ x) = .ok (.string (mk t)) (wr.setCell ⟨b, 0, none⟩ x) := by
          intro x
          have hz : d.length = (d.map (fun c => (c.toNat : Int))).length := by simp
          have := run_convert_runes (P := Tryz.prog) (wr.setCell ⟨b, 0, none⟩ x) 122 9 21 ⟨g, 0, none⟩ d.length cap (d.map (fun c => (c.toNat : Int))) (by simp) Tryz.underlying122 Tryz.underlying21 Tryz.underlying9 ?_
          · rw [this]
            rw [List.take_of_length_le (by simp), runes_ascii d (fun c hc => by have := of_decide_eq_true (HT.out c (by rw [hd]; simp [hc])); omega)]
            rw [hd, List.append_nil]
          · intro j hj
            have hj' : j < d.length := by simpa using hj
            have h1 : (wr.setCell ⟨b, 0, none⟩ x).cell? (Addr.add ⟨g, 0, none⟩ j) = wr.cell? ⟨g, j, none⟩ := by
              have : (wr.setCell ⟨b, 0, none⟩ x).heap[g]? = wr.heap[g]? := Below.heap_setCell _ _ _ _ (by simp; omega)
              rw [show Addr.add ⟨g, 0, none⟩ j = ⟨g, j, none⟩ from by simp [Addr.add]; exact fun h => h.symm]
              exact World.cell?_of_block (w := wr) (a := ⟨g, j, none⟩) this
            rw [h1, hown.cellAt j (by omega)]
            simp [i32s, hj']
        have HD := Lib.hid hdc
        have HG := Lib.hid hg
        have hq : qtx 34 = false := by decide
        have hw : wsp 34 = false := by decide
        clear hdc hk hd hc hown hg hgB
        go_wp2_with (first
          | (go_at_call 82; refine (HD.out _).mono ?_; rintro e w' ⟨rfl, rfl⟩)
          | (go_at_call 40; refine (f40 _ _).mono ?_; rintro e w' ⟨rfl, rfl⟩)
          | (go_at_call 28; refine (f28 _ _).mono ?_; rintro e w' ⟨rfl, rfl⟩))
        try rw [Exit.noGoto_ret]
        go_ret2
        exact ⟨rfl, hP.set _, grownBy_trans (grownBy_of_below _ (below_of_grownBy HG.out (Nat.le_refl _) (by simp))) (grownBy_set _ _ _)⟩
      | cons c q =>
        have hok := HT.out c (by rw [hd]; simp)
        have hc128 : c.toNat < 128 := by have := of_decide_eq_true hok; omega
        by_cases hpl : pln c = true
        · obtain ⟨hp, hc⟩ : ∃ h : k < s.size, s[k] = c := by
            obtain rfl : k = (34 :: esc d).length := by simp; omega
            exact at_mid (q := esc q ++ 34 :: r) (by rw [HS.out, hd]; simp [esc_append, esc_cons, escB, hpl])
          have hdc := f82a (s.extract k s.size) c.toNat (by rw [ext_size]; omega) (by rw [ext_get _ _ hp, hc]) (by omega)
          have HD := Lib.hid hdc
          have HK := Lib.hid hk
          have HDD := Lib.hid hd
          have hb1 : ((c.toNat : Int) == 65533) = false := by simp; omega
          have hOW := Lib.hid hown
          have hG := Lib.hid hg
          have hsz0 := hg.size
          clear hdc hk hd hok hc
          by_cases hq : qtx c.toNat = true
          · have HPl := Lib.hid hpl
            clear hpl
            go_wp2_with (first
              | (go_at_call 82; refine (HD.out _).mono ?_; rintro e w' ⟨rfl, rfl⟩)
              | (go_at_call 40; refine (f40 _ _).mono ?_; rintro e w' ⟨rfl, rfl⟩)
              | (at_builtin; refine wpList_append_own _ rfl _ _ 122 rfl w.heap.size 21 i0 (.int .i32 0) 1 4 Tryz.underlying122 hi hz0 hz1 hz2 rfl (by decide) _ _ _ rfl (hOW.out.alloc _) ⟨wr.heap.size, 0, none⟩ 1 1 [.int .i32 c.toNat] rfl rfl ?c1 ?c2 ?c3 ?c4 ?c5 ?_))
            case c1 =>
              intro j u hj
              match j, hj with
              | 0, hj => simp at hj; subst hj; simp [Addr.add]
            case c2 => intro u hu; simp at hu; subst hu; rfl
            case c3 => unfold maxLen; omega
            case c4 => omega
            case c5 => simp; omega
            intro v' w1 hown' hgrow _
            have hQ := QSt.push (k := k + 1) rfl HDD.out (by have := HK.out; rw [esc_one]; simp [escB, HPl.out]; omega) hOW.out hG.out hown' hgrow (.int .i64 (k + 1)) (by simp)
            have HQ := Lib.hid hQ
            clear hQ hown' hgrow
            go_wp2
            go_roundw
            case rel => exact HQ.out
            case measure => simp [intOf]; omega
          · have hq : qtx c.toNat = false := by simpa using hq
            have hw : wsp c.toNat = true := by simpa [pln, hq] using hpl
            have HPl := Lib.hid hpl
            clear hpl
            go_wp2_with (first
              | (go_at_call 82; refine (HD.out _).mono ?_; rintro e w' ⟨rfl, rfl⟩)
              | (go_at_call 40; refine (f40 _ _).mono ?_; rintro e w' ⟨rfl, rfl⟩)
              | (go_at_call 28; refine (f28 _ _).mono ?_; rintro e w' ⟨rfl, rfl⟩)
              | (at_builtin; refine wpList_append_own _ rfl _ _ 122 rfl w.heap.size 21 i0 (.int .i32 0) 1 4 Tryz.underlying122 hi hz0 hz1 hz2 rfl (by decide) _ _ _ rfl (hOW.out.alloc _) ⟨wr.heap.size, 0, none⟩ 1 1 [.int .i32 c.toNat] rfl rfl ?d1 ?d2 ?d3 ?d4 ?d5 ?_))
            case d1 =>
              intro j u hj
              match j, hj with
              | 0, hj => simp at hj; subst hj; simp [Addr.add]
            case d2 => intro u hu; simp at hu; subst hu; rfl
            case d3 => unfold maxLen; omega
            case d4 => omega
            case d5 => simp; omega
            intro v' w1 hown' hgrow _
            have hQ := QSt.push (k := k + 1) rfl HDD.out (by have := HK.out; rw [esc_one]; simp [escB, HPl.out]; omega) hOW.out hG.out hown' hgrow (.int .i64 (k + 1)) (by simp)
            have HQ := Lib.hid hQ
            clear hQ hown' hgrow
            go_wp2
            go_roundw
            case rel => exact HQ.out
            case measure => simp [intOf]; omega
        · have hpl : pln c = false := by simpa using hpl
          obtain ⟨hp, hc⟩ : ∃ h : k < s.size, s[k] = 92 := by
            obtain rfl : k = (34 :: esc d).length := by simp; omega
            exact at_mid (q := c :: (esc q ++ 34 :: r)) (by rw [HS.out, hd]; simp [esc_append, esc_cons, escB, hpl])
          have hdc := f82a (s.extract k s.size) 92 (by rw [ext_size]; omega) (by rw [ext_get _ _ hp, hc]; rfl) (by omega)
          have HD := Lib.hid hdc
          have HQ := Lib.hid (show QSt t w.heap.size w (.int .i64 (k + 1)) (.slice (some ⟨g, 0, none⟩) d.length cap) (.bool true) wr from ⟨d, c :: q, k + 1, g, cap, hd, by simp, rfl, hown, hg, .inr ⟨rfl, by omega, c, q, rfl, hpl⟩⟩)
          have hq : qtx 92 = false := by decide
          have hw : wsp 92 = false := by decide
          clear hdc hk hd hok hc hpl hown hg
          go_wp2_with (first
            | (go_at_call 82; refine (HD.out _).mono ?_; rintro e w' ⟨rfl, rfl⟩)
            | (go_at_call 40; refine (f40 _ _).mono ?_; rintro e w' ⟨rfl, rfl⟩)
            | (go_at_call 28; refine (f28 _ _).mono ?_; rintro e w' ⟨rfl, rfl⟩))
          go_roundw
          case rel => exact HQ.out
          case measure => simp [intOf]; omega
    · have hok := HT.out c (by rw [hd]; simp)
      have hc128 : c.toNat < 128 := by have := of_decide_eq_true hok; omega
      obtain ⟨hp, hc⟩ : ∃ h : k < s.size, s[k] = c := by
        obtain rfl : k = (34 :: (esc d ++ [92])).length := by simp; omega
        exact at_mid (q := esc q' ++ 34 :: r) (by rw [HS.out, hd]; simp [esc_append, esc_cons, escB, hpl])
      have hdc := f82a (s.extract k s.size) c.toNat (by rw [ext_size]; omega) (by rw [ext_get _ _ hp, hc]) (by omega)
      have HD := Lib.hid hdc
      have HK := Lib.hid hk
      have HDD := Lib.hid hd
      have hb1 : ((c.toNat : Int) == 65533) = false := by simp; omega
      have hv : vch c.toNat = true := by
        have h1 := of_decide_eq_true hok
        unfold pln at hpl
        rw [Bool.or_eq_false_iff] at hpl
        have h2 := hpl.2
        unfold wsp at h2
        have h2 := of_decide_eq_false h2
        unfold vch
        exact decide_eq_true (by omega)
      have hOW := Lib.hid hown
      have hG := Lib.hid hg
      have hsz0 := hg.size
      have HPl := Lib.hid hpl
      have hdl2 : d.length + 1 ≤ t.length := by rw [hd]; simp
      clear hdc hk hd hok hc hpl
      go_wp2_with (first
        | (go_at_call 82; refine (HD.out _).mono ?_; rintro e w' ⟨rfl, rfl⟩)
        | (go_at_call 27; refine (f27 _ _).mono ?_; rintro e w' ⟨rfl, rfl⟩)
        | (at_builtin; refine wpList_append_own _ rfl _ _ 122 rfl w.heap.size 21 i0 (.int .i32 0) 1 4 Tryz.underlying122 hi hz0 hz1 hz2 rfl (by decide) _ _ _ rfl (hOW.out.alloc _) ⟨wr.heap.size, 0, none⟩ 1 1 [.int .i32 c.toNat] rfl rfl ?e1 ?e2 ?e3 ?e4 ?e5 ?_))
      case e1 =>
        intro j u hj
        match j, hj with
        | 0, hj => simp at hj; subst hj; simp [Addr.add]
      case e2 => intro u hu; simp at hu; subst hu; rfl
      case e3 => unfold maxLen; omega
      case e4 => omega
      case e5 => simp; omega
      intro v' w1 hown' hgrow _
      have hQ := QSt.push (k := k + 1) rfl HDD.out (by have := HK.out; rw [esc_one]; simp [escB, HPl.out]; omega) hOW.out hG.out hown' hgrow (.int .i64 (k + 1)) (by simp)
      have HQ := Lib.hid hQ
      clear hQ hown' hgrow
      go_wp2
      go_roundw
      case rel => exact HQ.out
      case measure => simp [intOf]; omega
end Go.Proofs.YtbigjdlcmlopcaaGreatDoor
