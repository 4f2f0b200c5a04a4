import Derived.Test.YtbigjdlcmlopcaaGreatDoorK
namespace Go.Proofs.YtbigjdlcmlopcaaGreatDoor
open Go.RowKit

theorem dec82 (s : ByteArray) (k : Nat) (h : k < s.size) (w : World) (hT : Lib.Utf8Tabs 0 1 w) :
    Calls Tryz.prog 82 #[.string (s.extract k s.size)] w fun e w' => (∃ (r : Int) (n : Nat), e = .returned (.tuple #[.int .i32 r, .int .i64 n]) ∧ 1 ≤ n ∧ n ≤ 4 ∧ k + n ≤ s.size) ∧ Below w.heap.size w w' := by
  refine (Tryz.utf8_DecodeRuneInString (s.extract k s.size) w hT).mono ?_
  rintro e w' ⟨rfl, hb⟩
  have hz : (s.extract k s.size).size = s.size - k := ext_size s k
  obtain ⟨h1, h2, h3, -⟩ := dec_facts (s.extract k s.size) 0 (by omega)
  have hd : Lib.decodeGo (s.extract k s.size) = Utf8.decode (s.extract k s.size) 0 := by unfold Lib.decodeGo; rw [if_neg (by omega)]
  rw [hd]
  exact ⟨⟨_, _, rfl, h1, h2, by omega⟩, hb⟩

theorem Wrote.below {B bb : Nat} {l : List UInt8} {w w' w'' : World} (h : Wrote B bb l w w') (hb : Below w'.heap.size w' w'') (hB : B ≤ w'.heap.size) : Wrote B bb l w w'' := by
  refine ⟨?_, h.2.1.trans (hb.mono hB), fun k o hk h1 h2 => ?_⟩
  · have key : ∀ p, Lib.BuilderAtF 81 5 B bb p (Lib.byteCells l) w' → Lib.BuilderAtF 81 5 B bb p (Lib.byteCells l) w'' := by
      intro p h
      have hlt := h.lt
      obtain ⟨hB, v, hv, hown, hne⟩ := h
      exact ⟨hB, v, (hb.block bb hlt).trans hv, hown.kept (row := none) ⟨hb.os, hb.tape, hb.output, hb.size, fun k hk _ => hb.block k hk⟩ (Classical.em _), hne⟩
    exact h.1.elim (fun x => .inl (key _ x)) (fun x => .inr (key _ x))
  · have h3 := h.2.2 k o hk h1 h2
    rw [hb.block k (Array.getElem?_eq_some_iff.1 h3).1]; exact h3

/-- Encoded words so far: whole ones, and the one that is being written. -/
def wtext (f : List UInt8 → List UInt8) (e : UInt8) (cs : List (List UInt8)) (cur : List UInt8) : List UInt8 := cs.flatMap (fun c => f c ++ ([63, 61, 32] ++ hdr e)) ++ f cur
theorem wtext_le (cs : List (List UInt8)) (cur : List UInt8) (hc : ∀ c ∈ cs, 0 < c.length) : (wtext qenc 113 cs cur).length ≤ 16 * (cs.flatten.length + cur.length) := by
  have h1 := qenc_le cur
  have h2 : (cs.flatMap (fun c => qenc c ++ ([63, 61, 32] ++ hdr 113))).length ≤ 16 * cs.flatten.length := by
    clear h1
    induction cs with
    | nil => simp
    | cons c cs ih =>
      have h3 := qenc_le c
      have h4 := hc c (by simp)
      have h5 := ih (fun x hx => hc x (by simp [hx]))
      have h6 : (hdr 113).length = 10 := rfl
      simp only [List.flatMap_cons, List.length_append, List.flatten_cons, h6] at *
      simp only [List.length_cons, List.length_nil] at *
      omega
  unfold wtext
  rw [List.length_append]; omega

/-- The state of qEncode's loop. -/
def QE (t : List UInt8) (B bb : Nat) (l : List UInt8) (w : World) (cl : Value) (i : Value) (wr : World) : Prop :=
  ∃ (cs : List (List UInt8)) (cur q : List UInt8) (k n : Nat), t = cs.flatten ++ cur ++ q ∧ k = cs.flatten.length + cur.length ∧ i = .int .i64 k ∧ cl = .int .i64 n ∧ n ≤ 63 ∧ (cur = [] → n = 0 ∧ cs = []) ∧ (∀ c ∈ cs, 0 < c.length) ∧ Wrote B bb (l ++ wtext qenc 113 cs cur) w wr

theorem QE.go {t l : List UInt8} {B bb : Nat} {w wr : World} {cs : List (List UInt8)} {cur p q : List UInt8} {k n : Nat} (ht : t = cs.flatten ++ cur ++ (p ++ q)) (hk : k = cs.flatten.length + cur.length) (hp : 0 < p.length)
    (hn : n ≤ 63) (hcs : ∀ c ∈ cs, 0 < c.length) (W : Wrote B bb (l ++ wtext qenc 113 cs cur ++ qenc p) w wr) (i : Value) (hi : i = .int .i64 ((k : Int) + p.length)) (cl : Value) (hcl : cl = .int .i64 n) : QE t B bb l w cl i wr := by
  refine ⟨cs, cur ++ p, q, k + p.length, n, by rw [ht]; simp, by rw [List.length_append]; omega, by rw [hi]; simp, hcl, hn, ?_, hcs, ?_⟩
  · intro h; simp at h; rw [h.2] at hp; simp at hp
  · have : wtext qenc 113 cs (cur ++ p) = wtext qenc 113 cs cur ++ qenc p := by simp [wtext, qenc_append]
    rw [this, ← List.append_assoc]; exact W
theorem QE.split {t l : List UInt8} {B bb : Nat} {w wr : World} {cs : List (List UInt8)} {cur p q : List UInt8} {k n : Nat} (ht : t = cs.flatten ++ cur ++ (p ++ q)) (hk : k = cs.flatten.length + cur.length) (hp : 0 < p.length)
    (hn : n ≤ 63) (hc : 0 < cur.length) (hcs : ∀ c ∈ cs, 0 < c.length) (W : Wrote B bb (l ++ wtext qenc 113 cs cur ++ ([63, 61, 32] ++ hdr 113) ++ qenc p) w wr) (i : Value) (hi : i = .int .i64 ((k : Int) + p.length)) (cl : Value) (hcl : cl = .int .i64 n) : QE t B bb l w cl i wr := by
  refine ⟨cs ++ [cur], p, q, k + p.length, n, by rw [ht]; simp, by rw [List.flatten_append, List.length_append, List.flatten_singleton]; omega, by rw [hi]; simp, hcl, hn, ?_, ?_, ?_⟩
  · intro h; rw [h] at hp; simp at hp
  · intro c h
    rcases List.mem_append.1 h with h | h
    · exact hcs c h
    · simp at h; subst h; exact hc
  · have : wtext qenc 113 (cs ++ [cur]) p = wtext qenc 113 cs cur ++ ([63, 61, 32] ++ hdr 113) ++ qenc p := by simp [wtext]
    rw [this, ← List.append_assoc, ← List.append_assoc]
    simpa using W

def qsafe (c : UInt8) : Bool := decide (32 ≤ c.toNat ∧ c.toNat ≤ 126 ∧ c.toNat ≠ 61 ∧ c.toNat ≠ 63 ∧ c.toNat ≠ 95)

set_option maxHeartbeats 6400000 in
/-- qEncode. -/
theorem f61 {B bb : Nat} {l : List UInt8} {w : World} (t : List UInt8) (h : Lib.IsBuilderF 81 5 B bb (Lib.byteCells l) w) (hl : l.length ≤ 1000) (ht0 : t.length ≤ 10000) (hB : B ≤ w.heap.size) (hB2 : 2 ≤ B) (hT : Lib.Utf8Tabs 0 1 w) (hne : 0 < t.length) :
    Calls Tryz.prog 61 #[.int .u8 113, .pointer (some ⟨bb, 0, none⟩), .string (mk utf8n), .string (mk t)] w fun r w' => r = .returned (.tuple #[]) ∧
      ∃ (cs : List (List UInt8)) (cur : List UInt8), t = cs.flatten ++ cur ∧ 0 < cur.length ∧ (∀ c ∈ cs, 0 < c.length) ∧ Wrote B bb (l ++ wtext qenc 113 cs cur) w w' := by
  obtain ⟨s, hs⟩ : ∃ s, s = mk t := ⟨_, rfl⟩
  rw [← hs]
  have hz1 : s.size ≤ t.length := by rw [hs, mk_size]; omega
  have hz2 : t.length ≤ s.size := by rw [hs, mk_size]; omega
  have HS := Lib.hid hs
  have HT := Lib.hid hT
  clear hs hT
  go_enter Tryz.func61, Tryz.ntmps61
  go_wp2_with (go_at_call 80; refine (f80 _).mono ?_; rintro e w' ⟨rfl, rfl⟩)
  go_loopw [8, 10] (fun cl i wr => QE t B bb l w cl i wr) (fun _ i _ => s.size - (intOf i).toNat)
  case atStart => exact ⟨[], [], t, 0, 0, rfl, rfl, rfl, rfl, by omega, fun _ => ⟨rfl, rfl⟩, by simp, by simpa [wtext, qenc] using Wrote.self h⟩
  case round =>
    clear h
    obtain ⟨cs, cur, q, k, n, ht, hk, rfl, rfl, hn, hcur, hcs, W⟩ := hrel
    have hq := wtext_le cs cur hcs
    have hdl : cs.flatten.length + cur.length + q.length = t.length := by rw [ht]; simp [Nat.add_assoc]
    have B1 := W.size hB
    have hk1 : k ≤ cs.flatten.length + cur.length := by omega
    have hk2 : cs.flatten.length + cur.length ≤ k := by omega
    have HK := Lib.hid hk
    have HTT := Lib.hid ht
    have HCUR := Lib.hid hcur
    have HCS := Lib.hid hcs
    clear ht hk hcur hcs
    cases q with
    | nil =>
      have h0 : ([] : List UInt8).length = 0 := rfl
      have hend : ¬ k < s.size := by omega
      go_wp2
      go_end0
      have htt : t = cs.flatten ++ cur := by have := HTT.out; simpa using this
      refine ⟨rfl, cs, cur, htt, ?_, HCS.out, W⟩
      cases cur with
      | nil =>
        have h1 := (HCUR.out rfl).2
        rw [htt, h1] at hne; simp at hne
      | cons c r => simp
    | cons c q =>
      have hql : (c :: q).length = q.length + 1 := rfl
      obtain ⟨hp, hc⟩ : ∃ h : k < s.size, s[k] = c := by
        have e := HK.out
        have e2 : k = (cs.flatten ++ cur).length := by rw [List.length_append]; exact e
        subst e2
        exact at_mid (by rw [HS.out, HTT.out])
      obtain ⟨x, hx⟩ : ∃ x : Int, x = c.toNat := ⟨_, rfl⟩
      have hx0 : 0 ≤ x := by omega
      have hx1 : x ≤ 255 := by have := c.toNat_lt; omega
      have hix : ∀ w, (Instr.index 9 (.string s) (.int .i64 k)).run Tryz.prog w = .ok (.int .u8 x) w := by
        intro w
        rw [run_index_string w 9 s .i64 k Tryz.underlying9]
        simp [hp, hc, hx]
      have HX := Lib.hid hx
      have HPC : ∀ m, k + m ≤ s.size → s.extract k (k + m) = mk ((c :: q).take m) := by
        intro m hm
        have e := HK.out
        have e2 : k = (cs.flatten ++ cur).length := by rw [List.length_append]; exact e
        rw [HS.out, HTT.out, mk_extract, e2, List.drop_left]
        simp
      have HPCH := Lib.hid HPC
      clear hc hql hx HPC
      by_cases hsafe : qsafe c = true
      · have hs := of_decide_eq_true hsafe
        have r1 : 32 ≤ x := by have := HX.out; omega
        have r2 : x ≤ 126 := by have := HX.out; omega
        have b2 : (x != 61) = true := by have := HX.out; simp; omega
        have b3 : (x != 63) = true := by have := HX.out; simp; omega
        have b4 : (x != 95) = true := by have := HX.out; simp; omega
        have hpx : s.extract k (k + 1) = mk [c] := by have := HPCH.out 1 (by omega); simpa using this
        clear hs hsafe
        by_cases hsp : (63 : Int) < (n : Int) + 1
        · have hcl : 0 < cur.length := by
            cases cur with
            | nil => have := (HCUR.out rfl).1; omega
            | cons => simp
          go_wp2_with fail
          refine (f83 113 W.1 (by simp; omega) B1).mono ?_
          rintro r w1 ⟨rfl, W1⟩
          have W2 := W.then W1
          have B2 := W2.size hB
          have hh : (hdr 113).length = 10 := rfl
          go_wp2_with fail
          refine (f84 [c] W1.1 (by simp [hh]; omega) B2).mono ?_
          rintro r w2 ⟨rfl, W3⟩
          have W4 := W2.then W3
          have HQ := Lib.hid (QE.split (k := k) (n := 1) (p := [c]) HTT.out HK.out (by simp) (by omega) hcl HCS.out (by simpa using W4) (.int .i64 (k + 1)) (by simp) (.int .i64 1) rfl)
          clear W W1 W2 W3 W4 hh
          go_wp2
          go_roundw
          case rel => exact HQ.out
          case measure => simp [intOf]; omega
        · go_wp2_with fail
          refine (f84 [c] W.1 (by simp; omega) B1).mono ?_
          rintro r w2 ⟨rfl, W3⟩
          have W4 := W.then W3
          have HQ := Lib.hid (QE.go (k := k) (n := n + 1) (p := [c]) HTT.out HK.out (by simp) (by omega) HCS.out (by simpa using W4) (.int .i64 (k + 1)) (by simp) (.int .i64 (n + 1)) (by simp))
          clear W W3 W4
          go_wp2
          go_roundw
          case rel => exact HQ.out
          case measure => simp [intOf]; omega
      · have hs := of_decide_eq_false (by simpa using hsafe : qsafe c = false)
        have hor : x < 32 ∨ 126 < x ∨ x = 61 ∨ x = 63 ∨ x = 95 := by have := HX.out; omega
        clear hs hsafe
        have hTr := tabs_below HT.out W.2.1 hB2
        have D82 := Lib.hid (fun k h => dec82 s k h wr hTr)
        clear hTr
        rcases hor with a1 | a1 | a1 | a1 | a1
        · have b9 : True := trivial
          go_wp2_with fail
          refine (D82.out k hp).mono ?_
          rintro r w1 ⟨⟨ru, m, rfl, m1, m4, mk4⟩, hbw⟩
          have WB := W.below hbw B1
          have BB1 := WB.size hB
          have hql2 : ((c :: q).take m).length = m := by rw [List.length_take]; omega
          have hpx := HPCH.out m mk4
          obtain ⟨p, hpp⟩ : ∃ p, p = (c :: q).take m := ⟨_, rfl⟩
          rw [← hpp] at hpx hql2
          have hsplit : c :: q = p ++ (c :: q).drop m := by rw [hpp]; exact (List.take_append_drop m _).symm
          generalize (c :: q).drop m = q' at hsplit
          have HTT2 : Hid (t = cs.flatten ++ cur ++ (p ++ q')) := by show _ = _; rw [← hsplit]; exact HTT.out
          have hpl : p.length ≤ t.length := by rw [HTT2.out]; simp; omega
          clear hpp hsplit
          by_cases hsp : (63 : Int) < (n : Int) + 3 * m
          · have hcl : 0 < cur.length := by
              cases cur with
              | nil => have := (HCUR.out rfl).1; omega
              | cons => simp
            go_wp2_with fail
            refine (f83 113 WB.1 (by simp; omega) BB1).mono ?_
            rintro r w2 ⟨rfl, W1⟩
            have W2 := WB.then W1
            have B2 := W2.size hB
            have hh : (hdr 113).length = 10 := rfl
            go_wp2_with fail
            refine (f84 p W1.1 (by simp [hh]; omega) B2).mono ?_
            rintro r w3 ⟨rfl, W3⟩
            have W4 := W2.then W3
            have HQ := Lib.hid (QE.split (k := k) (n := 3 * m) (p := p) HTT2.out HK.out (by omega) (by omega) hcl HCS.out (by simpa using W4) (.int .i64 (k + m)) (by rw [hql2]) (.int .i64 (3 * m)) (by simp))
            clear W WB W1 W2 W3 W4 hh
            go_wp2
            go_roundw
            case rel => exact HQ.out
            case measure => simp [intOf]; omega
          · go_wp2_with fail
            refine (f84 p WB.1 (by simp; omega) BB1).mono ?_
            rintro r w3 ⟨rfl, W3⟩
            have W4 := WB.then W3
            have HQ := Lib.hid (QE.go (k := k) (n := n + 3 * m) (p := p) HTT2.out HK.out (by omega) (by omega) HCS.out (by simpa using W4) (.int .i64 (k + m)) (by rw [hql2]) (.int .i64 (n + 3 * m)) (by simp))
            clear W WB W3 W4
            go_wp2
            go_roundw
            case rel => exact HQ.out
            case measure => simp [intOf]; omega
        · have b9 : True := trivial
          go_wp2_with fail
          refine (D82.out k hp).mono ?_
          rintro r w1 ⟨⟨ru, m, rfl, m1, m4, mk4⟩, hbw⟩
          have WB := W.below hbw B1
          have BB1 := WB.size hB
          have hql2 : ((c :: q).take m).length = m := by rw [List.length_take]; omega
          have hpx := HPCH.out m mk4
          obtain ⟨p, hpp⟩ : ∃ p, p = (c :: q).take m := ⟨_, rfl⟩
          rw [← hpp] at hpx hql2
          have hsplit : c :: q = p ++ (c :: q).drop m := by rw [hpp]; exact (List.take_append_drop m _).symm
          generalize (c :: q).drop m = q' at hsplit
          have HTT2 : Hid (t = cs.flatten ++ cur ++ (p ++ q')) := by show _ = _; rw [← hsplit]; exact HTT.out
          have hpl : p.length ≤ t.length := by rw [HTT2.out]; simp; omega
          clear hpp hsplit
          by_cases hsp : (63 : Int) < (n : Int) + 3 * m
          · have hcl : 0 < cur.length := by
              cases cur with
              | nil => have := (HCUR.out rfl).1; omega
              | cons => simp
            go_wp2_with fail
            refine (f83 113 WB.1 (by simp; omega) BB1).mono ?_
            rintro r w2 ⟨rfl, W1⟩
            have W2 := WB.then W1
            have B2 := W2.size hB
            have hh : (hdr 113).length = 10 := rfl
            go_wp2_with fail
            refine (f84 p W1.1 (by simp [hh]; omega) B2).mono ?_
            rintro r w3 ⟨rfl, W3⟩
            have W4 := W2.then W3
            have HQ := Lib.hid (QE.split (k := k) (n := 3 * m) (p := p) HTT2.out HK.out (by omega) (by omega) hcl HCS.out (by simpa using W4) (.int .i64 (k + m)) (by rw [hql2]) (.int .i64 (3 * m)) (by simp))
            clear W WB W1 W2 W3 W4 hh
            go_wp2
            go_roundw
            case rel => exact HQ.out
            case measure => simp [intOf]; omega
          · go_wp2_with fail
            refine (f84 p WB.1 (by simp; omega) BB1).mono ?_
            rintro r w3 ⟨rfl, W3⟩
            have W4 := WB.then W3
            have HQ := Lib.hid (QE.go (k := k) (n := n + 3 * m) (p := p) HTT2.out HK.out (by omega) (by omega) HCS.out (by simpa using W4) (.int .i64 (k + m)) (by rw [hql2]) (.int .i64 (n + 3 * m)) (by simp))
            clear W WB W3 W4
            go_wp2
            go_roundw
            case rel => exact HQ.out
            case measure => simp [intOf]; omega
        · have b2 : (x != 61) = false := by simp [a1]
          have b3 : 32 ≤ x := by omega
          have b4 : x ≤ 126 := by omega
          clear a1
          go_wp2_with fail
          refine (D82.out k hp).mono ?_
          rintro r w1 ⟨⟨ru, m, rfl, m1, m4, mk4⟩, hbw⟩
          have WB := W.below hbw B1
          have BB1 := WB.size hB
          have hql2 : ((c :: q).take m).length = m := by rw [List.length_take]; omega
          have hpx := HPCH.out m mk4
          obtain ⟨p, hpp⟩ : ∃ p, p = (c :: q).take m := ⟨_, rfl⟩
          rw [← hpp] at hpx hql2
          have hsplit : c :: q = p ++ (c :: q).drop m := by rw [hpp]; exact (List.take_append_drop m _).symm
          generalize (c :: q).drop m = q' at hsplit
          have HTT2 : Hid (t = cs.flatten ++ cur ++ (p ++ q')) := by show _ = _; rw [← hsplit]; exact HTT.out
          have hpl : p.length ≤ t.length := by rw [HTT2.out]; simp; omega
          clear hpp hsplit
          by_cases hsp : (63 : Int) < (n : Int) + 3 * m
          · have hcl : 0 < cur.length := by
              cases cur with
              | nil => have := (HCUR.out rfl).1; omega
              | cons => simp
            go_wp2_with fail
            refine (f83 113 WB.1 (by simp; omega) BB1).mono ?_
            rintro r w2 ⟨rfl, W1⟩
            have W2 := WB.then W1
            have B2 := W2.size hB
            have hh : (hdr 113).length = 10 := rfl
            go_wp2_with fail
            refine (f84 p W1.1 (by simp [hh]; omega) B2).mono ?_
            rintro r w3 ⟨rfl, W3⟩
            have W4 := W2.then W3
            have HQ := Lib.hid (QE.split (k := k) (n := 3 * m) (p := p) HTT2.out HK.out (by omega) (by omega) hcl HCS.out (by simpa using W4) (.int .i64 (k + m)) (by rw [hql2]) (.int .i64 (3 * m)) (by simp))
            clear W WB W1 W2 W3 W4 hh
            go_wp2
            go_roundw
            case rel => exact HQ.out
            case measure => simp [intOf]; omega
          · go_wp2_with fail
            refine (f84 p WB.1 (by simp; omega) BB1).mono ?_
            rintro r w3 ⟨rfl, W3⟩
            have W4 := WB.then W3
            have HQ := Lib.hid (QE.go (k := k) (n := n + 3 * m) (p := p) HTT2.out HK.out (by omega) (by omega) HCS.out (by simpa using W4) (.int .i64 (k + m)) (by rw [hql2]) (.int .i64 (n + 3 * m)) (by simp))
            clear W WB W3 W4
            go_wp2
            go_roundw
            case rel => exact HQ.out
            case measure => simp [intOf]; omega
        · have b2 : (x != 61) = true := by simp [a1]
          have b5 : (x != 63) = false := by simp [a1]
          have b3 : 32 ≤ x := by omega
          have b4 : x ≤ 126 := by omega
          clear a1
          go_wp2_with fail
          refine (D82.out k hp).mono ?_
          rintro r w1 ⟨⟨ru, m, rfl, m1, m4, mk4⟩, hbw⟩
          have WB := W.below hbw B1
          have BB1 := WB.size hB
          have hql2 : ((c :: q).take m).length = m := by rw [List.length_take]; omega
          have hpx := HPCH.out m mk4
          obtain ⟨p, hpp⟩ : ∃ p, p = (c :: q).take m := ⟨_, rfl⟩
          rw [← hpp] at hpx hql2
          have hsplit : c :: q = p ++ (c :: q).drop m := by rw [hpp]; exact (List.take_append_drop m _).symm
          generalize (c :: q).drop m = q' at hsplit
          have HTT2 : Hid (t = cs.flatten ++ cur ++ (p ++ q')) := by show _ = _; rw [← hsplit]; exact HTT.out
          have hpl : p.length ≤ t.length := by rw [HTT2.out]; simp; omega
          clear hpp hsplit
          by_cases hsp : (63 : Int) < (n : Int) + 3 * m
          · have hcl : 0 < cur.length := by
              cases cur with
              | nil => have := (HCUR.out rfl).1; omega
              | cons => simp
            go_wp2_with fail
            refine (f83 113 WB.1 (by simp; omega) BB1).mono ?_
            rintro r w2 ⟨rfl, W1⟩
            have W2 := WB.then W1
            have B2 := W2.size hB
            have hh : (hdr 113).length = 10 := rfl
            go_wp2_with fail
            refine (f84 p W1.1 (by simp [hh]; omega) B2).mono ?_
            rintro r w3 ⟨rfl, W3⟩
            have W4 := W2.then W3
            have HQ := Lib.hid (QE.split (k := k) (n := 3 * m) (p := p) HTT2.out HK.out (by omega) (by omega) hcl HCS.out (by simpa using W4) (.int .i64 (k + m)) (by rw [hql2]) (.int .i64 (3 * m)) (by simp))
            clear W WB W1 W2 W3 W4 hh
            go_wp2
            go_roundw
            case rel => exact HQ.out
            case measure => simp [intOf]; omega
          · go_wp2_with fail
            refine (f84 p WB.1 (by simp; omega) BB1).mono ?_
            rintro r w3 ⟨rfl, W3⟩
            have W4 := WB.then W3
            have HQ := Lib.hid (QE.go (k := k) (n := n + 3 * m) (p := p) HTT2.out HK.out (by omega) (by omega) HCS.out (by simpa using W4) (.int .i64 (k + m)) (by rw [hql2]) (.int .i64 (n + 3 * m)) (by simp))
            clear W WB W3 W4
            go_wp2
            go_roundw
            case rel => exact HQ.out
            case measure => simp [intOf]; omega
        · have b2 : (x != 61) = true := by simp [a1]
          have b5 : (x != 63) = true := by simp [a1]
          have b6 : (x != 95) = false := by simp [a1]
          have b3 : 32 ≤ x := by omega
          have b4 : x ≤ 126 := by omega
          clear a1
          go_wp2_with fail
          refine (D82.out k hp).mono ?_
          rintro r w1 ⟨⟨ru, m, rfl, m1, m4, mk4⟩, hbw⟩
          have WB := W.below hbw B1
          have BB1 := WB.size hB
          have hql2 : ((c :: q).take m).length = m := by rw [List.length_take]; omega
          have hpx := HPCH.out m mk4
          obtain ⟨p, hpp⟩ : ∃ p, p = (c :: q).take m := ⟨_, rfl⟩
          rw [← hpp] at hpx hql2
          have hsplit : c :: q = p ++ (c :: q).drop m := by rw [hpp]; exact (List.take_append_drop m _).symm
          generalize (c :: q).drop m = q' at hsplit
          have HTT2 : Hid (t = cs.flatten ++ cur ++ (p ++ q')) := by show _ = _; rw [← hsplit]; exact HTT.out
          have hpl : p.length ≤ t.length := by rw [HTT2.out]; simp; omega
          clear hpp hsplit
          by_cases hsp : (63 : Int) < (n : Int) + 3 * m
          · have hcl : 0 < cur.length := by
              cases cur with
              | nil => have := (HCUR.out rfl).1; omega
              | cons => simp
            go_wp2_with fail
            refine (f83 113 WB.1 (by simp; omega) BB1).mono ?_
            rintro r w2 ⟨rfl, W1⟩
            have W2 := WB.then W1
            have B2 := W2.size hB
            have hh : (hdr 113).length = 10 := rfl
            go_wp2_with fail
            refine (f84 p W1.1 (by simp [hh]; omega) B2).mono ?_
            rintro r w3 ⟨rfl, W3⟩
            have W4 := W2.then W3
            have HQ := Lib.hid (QE.split (k := k) (n := 3 * m) (p := p) HTT2.out HK.out (by omega) (by omega) hcl HCS.out (by simpa using W4) (.int .i64 (k + m)) (by rw [hql2]) (.int .i64 (3 * m)) (by simp))
            clear W WB W1 W2 W3 W4 hh
            go_wp2
            go_roundw
            case rel => exact HQ.out
            case measure => simp [intOf]; omega
          · go_wp2_with fail
            refine (f84 p WB.1 (by simp; omega) BB1).mono ?_
            rintro r w3 ⟨rfl, W3⟩
            have W4 := WB.then W3
            have HQ := Lib.hid (QE.go (k := k) (n := n + 3 * m) (p := p) HTT2.out HK.out (by omega) (by omega) HCS.out (by simpa using W4) (.int .i64 (k + m)) (by rw [hql2]) (.int .i64 (n + 3 * m)) (by simp))
            clear W WB W3 W4
            go_wp2
            go_roundw
            case rel => exact HQ.out
            case measure => simp [intOf]; omega
end Go.Proofs.YtbigjdlcmlopcaaGreatDoor
