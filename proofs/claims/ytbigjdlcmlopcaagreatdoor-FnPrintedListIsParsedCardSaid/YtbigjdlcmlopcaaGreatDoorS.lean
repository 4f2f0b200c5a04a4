import Derived.Test.YtbigjdlcmlopcaaGreatDoorR
import Derived.Laws.IdiomStrings
namespace Go.Proofs.YtbigjdlcmlopcaaGreatDoor
open Go.RowKit

/-- The row that a conversion of a text to bytes lays. -/
def convRow (w : World) (l : List UInt8) : Obj := .cells (bytesRow (mk l) (grownCap w l.length 0 5)) 5 ((bytesRow (mk l) (grownCap w l.length 0 5)).size, (bytesRow (mk l) (grownCap w l.length 0 5)).size + 1)
theorem conv_run (w : World) (l : List UInt8) : (convert 9 74 (.string (mk l))).run Tryz.prog w = .ok (.slice (some ⟨w.heap.size, 0, none⟩) l.length (grownCap w l.length 0 5)) (w.alloc (convRow w l)).drew := by
  have h := run_bytes_of_string (P := Tryz.prog) w 9 74 5 (mk l) Tryz.underlying9 Tryz.underlying74 Tryz.underlying5
  rw [mk_size] at h
  exact h
theorem conv_below (w : World) (l : List UInt8) : Below w.heap.size w (w.alloc (convRow w l)).drew := ((Below.refl _ _).alloc (Nat.le_refl _) _).drew
theorem conv_marked (w : World) (l : List UInt8) : Marked w.heap.size (w.alloc (convRow w l)).drew := by
  refine ⟨_, _, heap_alloc_new w _, ?_⟩
  simp
theorem conv_src (w : World) (l : List UInt8) : SrcAt (w.alloc (convRow w l)).drew w.heap.size 0 l := by
  intro j hj
  have h : (w.alloc (convRow w l)).drew.heap[w.heap.size]? = some (convRow w l) := heap_alloc_new w _
  unfold World.cell? convRow at *
  rw [h]
  simp only [bytesRow, Array.getElem?_append, Option.isSome_none, Bool.false_eq_true, if_false, Nat.zero_add]
  rw [if_pos (by simp only [Array.size_map]; exact Nat.lt_of_lt_of_eq hj (mk_size l).symm), Array.getElem?_map]
  show Option.map _ (l.toArray[j]?) = _
  simp [hj]
theorem conv_cap (w : World) (l : List UInt8) : l.length ≤ grownCap w l.length 0 5 := grownCap_ge w l.length 0 5
theorem rowIs_below {w w' : World} {B b : Nat} {t : TypeId} {n : Nat} {f : Nat → Value} (h : w.rowIs b t n f) (hb : Below B w w') (hB : b < B) : w'.rowIs b t n f := h.of_block (hb.block b hB)

theorem bld_below {B bb : Nat} {bs : List Value} {w w' : World} (h : Lib.IsBuilderF 81 5 B bb bs w) (hb : Below w.heap.size w w') : Lib.IsBuilderF 81 5 B bb bs w' := by
  have key : ∀ p, Lib.BuilderAtF 81 5 B bb p bs w → Lib.BuilderAtF 81 5 B bb p bs w' := by
    intro p h
    have hlt := h.lt
    obtain ⟨hB, v, hv, hown, hne⟩ := h
    exact ⟨hB, v, (hb.block bb hlt).trans hv, hown.kept (row := none) ⟨hb.os, hb.tape, hb.output, hb.size, fun k hk _ => hb.block k hk⟩ (Classical.em _), hne⟩
  exact h.elim (fun x => .inl (key _ x)) (fun x => .inr (key _ x))

/-- The stream writer at rest. -/
structure Enc (B bb c e : Nat) (l : List UInt8) (w w' : World) : Prop where
  bld : Lib.IsBuilderF 81 5 B bb (Lib.byteCells l) w'
  below : Below B w w'
  enc : EncAt c w'
  row : ∃ F, w'.rowIs e 143 1031 F ∧ EncdF F c bb 0
  eb : e ≠ bb
  Be : B ≤ e

theorem Enc.step {B bb c e : Nat} {l : List UInt8} {w w' w'' : World} (h : Enc B bb c e l w w') (hb : Below w'.heap.size w' w'') (hB : B ≤ w'.heap.size) : Enc B bb c e l w w'' := by
  obtain ⟨F, hr, hF⟩ := h.row
  exact ⟨bld_below h.bld hb, h.below.trans (hb.mono hB), rowIs_below h.enc hb (World.rowIs.lt h.enc), ⟨F, rowIs_below hr hb hr.lt, hF⟩, h.eb, h.Be⟩

theorem Enc.drew {B bb c e : Nat} {l : List UInt8} {w w' : World} (h : Enc B bb c e l w w') : Enc B bb c e l w w'.drew :=
  ⟨h.bld, h.below.drew, h.enc, h.row, h.eb, h.Be⟩

/-- encoder.Write and encoder.Close at one piece. -/
theorem enc_write {B bb c e : Nat} {l : List UInt8} {w W : World} (h : Enc B bb c e l w W) (p : List UInt8) (hp : p.length ≤ 45) (hl : l.length ≤ 1073741000) (hB : B ≤ W.heap.size) :
    Calls Tryz.prog 170 #[.pointer (some ⟨e, 0, none⟩), .slice (some ⟨W.heap.size, 0, none⟩) p.length (grownCap W p.length 0 5)] (W.alloc (convRow W p)).drew fun r w' => r = .returned (.tuple #[.int .i64 p.length, .nilIface]) ∧ ∃ d q F', p = d ++ q ∧ d.length % 3 = 0 ∧ q.length < 3 ∧ Lib.IsBuilderF 81 5 B bb (Lib.byteCells (l ++ b64 d)) w' ∧ Below B w w' ∧ EncAt c w' ∧ w'.rowIs e 143 1031 F' ∧ EncdF F' c bb q.length ∧ ∀ j (h : j < q.length), F' (3 + j) = .int .u8 (q[j].toNat : Int) := by
  obtain ⟨F, hr, hF⟩ := h.row
  have hb := conv_below W p
  have hB2 : B ≤ (W.alloc (convRow W p)).drew.heap.size := Nat.le_trans hB hb.size
  refine (f170 c e W.heap.size _ F p (bld_below h.bld hb) (rowIs_below hr hb hr.lt) hF (rowIs_below h.enc hb (World.rowIs.lt h.enc)) (conv_src W p) (conv_marked W p) (conv_cap W p) hp hl hB2 h.eb h.Be).mono ?_
  rintro r w' ⟨rfl, d, q, F', h1, h2, h3, h4, h5, h6, h7, h8, h9⟩
  exact ⟨rfl, d, q, F', h1, h2, h3, h4, (h.below.trans (hb.mono hB)).trans h5, h6, h7, h8, h9⟩

theorem enc_write_d {B bb c e : Nat} {l : List UInt8} {w W : World} (h : Enc B bb c e l w W) (p : List UInt8) (n : Nat) (hn : p.length = n) (hp : n ≤ 45) (hl : l.length ≤ 1073741000) (hB : B ≤ W.heap.size) :
    Calls Tryz.prog 170 #[.pointer (some ⟨e, 0, none⟩), .slice (some ⟨W.heap.size, 0, none⟩) n (grownCap W.drew n 0 5)] (W.alloc (convRow W.drew p)).drew.drew fun r w' => r = .returned (.tuple #[.int .i64 n, .nilIface]) ∧ ∃ d q F', p = d ++ q ∧ d.length % 3 = 0 ∧ q.length < 3 ∧ Lib.IsBuilderF 81 5 B bb (Lib.byteCells (l ++ b64 d)) w' ∧ Below B w w' ∧ EncAt c w' ∧ w'.rowIs e 143 1031 F' ∧ EncdF F' c bb q.length ∧ ∀ j (h : j < q.length), F' (3 + j) = .int .u8 (q[j].toNat : Int) := by
  subst hn
  exact enc_write h.drew p hp hl hB

theorem enc_close {B bb c e : Nat} {l : List UInt8} {w W : World} {p : List UInt8} (h : ∃ d q F', p = d ++ q ∧ d.length % 3 = 0 ∧ q.length < 3 ∧ Lib.IsBuilderF 81 5 B bb (Lib.byteCells (l ++ b64 d)) W ∧ Below B w W ∧ EncAt c W ∧ W.rowIs e 143 1031 F' ∧ EncdF F' c bb q.length ∧ ∀ j (h : j < q.length), F' (3 + j) = .int .u8 (q[j].toNat : Int))
    (hp : p.length ≤ 45) (hl : l.length ≤ 1073740000) (hB : B ≤ w.heap.size) (heb : e ≠ bb) (hBe : B ≤ e) :
    Calls Tryz.prog 169 #[.pointer (some ⟨e, 0, none⟩)] W fun r w' => r = .returned .nilIface ∧ Enc B bb c e (l ++ b64 p) w w' := by
  obtain ⟨d, q, F', h1, h2, h3, h4, h5, h6, h7, h8, h9⟩ := h
  have hd := b64_len d
  have hpl : p.length = d.length + q.length := by rw [h1]; simp
  refine (f169 (l := l ++ b64 d) c e F' q h4 h7 h8 h6 h9 h3 (by simp; omega) (Nat.le_trans hB h5.size) heb hBe).mono ?_
  rintro r w' ⟨rfl, F2, k1, k2, k3, k4, k5⟩
  refine ⟨rfl, ⟨?_, h5.trans k2, k3, ⟨F2, k4, k5⟩, heb, hBe⟩⟩
  rw [h1, b64_append _ _ h2, ← List.append_assoc]; exact k1

theorem nil_ahead_139 (a : Addr) (w : World) : (nilAhead 342 139 (.pointer (some a)) "Write").run Tryz.prog w = .ok (some false) w := by kernel_rfl

theorem Enc.wrote {B bb c e : Nat} {l m : List UInt8} {w w' w'' : World} (h : Enc B bb c e l w w') (W : Wrote B bb m w' w'') : Enc B bb c e m w w'' := by
  obtain ⟨F, hr, hF⟩ := h.row
  have hcb : c ≠ bb := by
    intro h2; subst h2
    obtain ⟨c1, h1, -⟩ := h.enc
    rcases h.bld with ⟨_, v, h2, -⟩ | ⟨_, v, h2, -⟩ <;> (rw [h1] at h2; simp at h2)
  exact ⟨W.1, h.below.trans W.2.1, World.rowIs.of_block h.enc (othersKept_row W.2.2 h.enc (by decide) hcb), ⟨F, hr.of_block (othersKept_row W.2.2 hr (by decide) h.eb), hF⟩, h.eb, h.Be⟩

/-- The state of bEncode's loop. -/
def BE (t : List UInt8) (B bb c e : Nat) (l : List UInt8) (w : World) (cl la i : Value) (wr : World) : Prop :=
  ∃ (cs : List (List UInt8)) (cur q : List UInt8) (k0 k n : Nat), t = cs.flatten ++ cur ++ q ∧ k0 = cs.flatten.length ∧ n = cur.length ∧ k = k0 + n ∧ i = .int .i64 k ∧ la = .int .i64 k0 ∧ cl = .int .i64 n ∧ n ≤ 45 ∧ (cur = [] → cs = []) ∧ (∀ c ∈ cs, 0 < c.length) ∧ Enc B bb c e (l ++ wtext b64 98 cs []) w wr

theorem b64_le (c : List UInt8) : (b64 c).length ≤ 4 * c.length := by rw [b64_len]; omega
theorem wtext_le64 (cs : List (List UInt8)) (cur : List UInt8) (hc : ∀ c ∈ cs, 0 < c.length) : (wtext b64 98 cs cur).length ≤ 17 * (cs.flatten.length + cur.length) := by
  have h1 := b64_le cur
  have h2 : (cs.flatMap (fun c => b64 c ++ ([63, 61, 32] ++ hdr 98))).length ≤ 17 * cs.flatten.length := by
    clear h1
    induction cs with
    | nil => simp
    | cons c cs ih =>
      have h3 := b64_le c
      have h4 := hc c (by simp)
      have h5 := ih (fun x hx => hc x (by simp [hx]))
      have h6 : (hdr 98).length = 10 := rfl
      simp only [List.flatMap_cons, List.length_append, List.flatten_cons, h6] at *
      simp only [List.length_cons, List.length_nil] at *
      omega
  unfold wtext
  rw [List.length_append]; omega

set_option maxRecDepth 100000 in
set_option maxHeartbeats 6400000 in
/-- bEncode. -/
theorem f60 {B bb : Nat} {l : List UInt8} {w : World} (t : List UInt8) (h : Lib.IsBuilderF 81 5 B bb (Lib.byteCells l) w) (hl : l.length ≤ 1000) (ht0 : t.length ≤ 10000) (hB : B ≤ w.heap.size) (hB2 : 2 ≤ B) (hbb : bb < w.heap.size) (hT : Lib.Utf8Tabs 0 1 w) (hne : 0 < t.length) :
    Calls Tryz.prog 60 #[.int .u8 98, .pointer (some ⟨bb, 0, none⟩), .string (mk utf8n), .string (mk t)] w fun r w' => r = .returned (.tuple #[]) ∧
      ∃ (cs : List (List UInt8)) (cur : List UInt8), t = cs.flatten ++ cur ∧ 0 < cur.length ∧ (∀ c ∈ cs, 0 < c.length) ∧ Lib.IsBuilderF 81 5 B bb (Lib.byteCells (l ++ wtext b64 98 cs cur)) w' ∧ Below B w w' := by
  obtain ⟨s, hs⟩ : ∃ s, s = mk t := ⟨_, rfl⟩
  rw [← hs]
  have hz1 : s.size ≤ t.length := by rw [hs, mk_size]; omega
  have hz2 : t.length ≤ s.size := by rw [hs, mk_size]; omega
  have HS := Lib.hid hs
  have HT := Lib.hid hT
  clear hs hT
  go_enter Tryz.func60, Tryz.ntmps60
  go_wp2_with fail
  refine (f79 w).mono ?_
  rintro r w1 ⟨c, rfl, hcw, hc1, hb1⟩
  go_wp2_with fail
  refine (f78 c bb).mono ?_
  rintro r w2 ⟨rfl, hb2, F, hr2, hF2⟩
  have E2 : Enc B bb c w1.heap.size l w w2 := ⟨bld_below (bld_below h hb1) hb2, (hb1.mono hB).trans (hb2.mono (Nat.le_trans hB hb1.size)), rowIs_below hc1 hb2 (World.rowIs.lt hc1), ⟨F, hr2, hF2⟩, by have := hb1.size; omega, Nat.le_trans hB hb1.size⟩
  have B2 := Nat.le_trans (Nat.le_trans hB hb1.size) hb2.size
  have T2 := tabs_below HT.out E2.below hB2
  clear hr2 hF2 hb1 hb2 hc1 hcw F
  generalize w1.heap.size = e at *
  go_wp2_with fail
  refine (f80 w2).mono ?_
  rintro r w3 ⟨rfl, rfl⟩
  go_wp2_with fail
  refine (f79 w2).mono ?_
  rintro r w3 ⟨c2, rfl, hc2, hcc, hb3⟩
  have E3 := E2.step hb3 B2
  have B3 := Nat.le_trans B2 hb3.size
  have T3 := tabs_below T2 hb3 (Nat.le_trans hB2 B2)
  clear E2 hb3 B2 T2 hc2 h
  go_wp2_with fail
  refine (f81 c2 s.size hcc (by omega)).mono ?_
  rintro r w4 ⟨rfl, rfl⟩
  clear hcc
  have hmk : s = mk t := HS.out
  by_cases hshort : (s.size + 2) / 3 * 4 ≤ 63
  · have hsh : (((s.size + 2) / 3 * 4 : Nat) : Int) ≤ 63 := by omega
    subst hmk
    have hcv := conv_run w3 t
    go_wp2_with fail
    refine (enc_write E3 t (by rw [mk_size] at hshort; omega) (by omega) B3).mono ?_
    rintro r w4 ⟨rfl, hq⟩
    have HQ := Lib.hid hq
    clear hq
    go_wp2_with fail
    refine (enc_close HQ.out (by rw [mk_size] at hshort; omega) (by omega) hB E3.eb E3.Be).mono ?_
    rintro r w5 ⟨rfl, E5⟩
    go_wp2
    try rw [Exit.noGoto_ret]
    refine bodyPost_ret (results_none rfl _ _ _) rfl ?_
    exact ⟨rfl, [], t, rfl, hne, by simp, by simpa [wtext] using E5.bld, E5.below⟩
  · have hsh : ¬ (((s.size + 2) / 3 * 4 : Nat) : Int) ≤ 63 := by omega
    clear hshort hmk
    go_wp2_with fail
    go_loopw [9, 10, 12] (fun cl la i wr => BE t B bb c e l w cl la i wr) (fun _ _ i _ => s.size - (intOf i).toNat)
    case atStart => exact ⟨[], [], t, 0, 0, 0, rfl, rfl, rfl, rfl, rfl, rfl, rfl, by omega, fun _ => rfl, by simp, by simpa [wtext, b64] using E3⟩
    case round =>
      clear hsh
      obtain ⟨cs, cur, q, k0, k, n, ht, hk0, hn, hk, rfl, rfl, rfl, hn45, hcur, hcs, E⟩ := hrel
      have hq := wtext_le64 cs [] hcs
      have hdl : cs.flatten.length + cur.length + q.length = t.length := by rw [ht]; simp [Nat.add_assoc]
      have hwl : (wtext b64 98 cs []).length ≤ 170000 := by simp only [List.length_nil] at hq; omega
      have B4 : B ≤ wr.heap.size := Nat.le_trans hB E.below.size
      have HK := Lib.hid hk
      have HK0 := Lib.hid hk0
      have HN := Lib.hid hn
      have HTT := Lib.hid ht
      have HCUR := Lib.hid hcur
      have HCS := Lib.hid hcs
      have HDL := Lib.hid hdl
      have hkq : k + q.length = s.size := by omega
      have hks : k0 ≤ k := by omega
      have hks2 : (k0 : Int) ≤ k := by omega
      have hks3 : (k : Int) ≤ s.size := by omega
      clear ht hk hk0 hn hcur hcs hq hdl
      have hcx : s.extract k0 k = mk cur := by
        rw [HS.out, HTT.out, mk_extract, HK0.out, List.append_assoc, List.drop_left, show k - cs.flatten.length = cur.length by have := HK.out; have := HK0.out; have := HN.out; omega, List.take_left]
      have hcurl : cur.length = n := HN.out.symm
      cases q with
      | nil =>
        have hend : ¬ k < s.size := by have : ([] : List UInt8).length = 0 := rfl; omega
        have hke : k = s.size := by have : ([] : List UInt8).length = 0 := rfl; omega
        subst hke
        have hcv := conv_run wr.drew cur
        have hna := nil_ahead_139
        have HW := enc_write_d E cur n hcurl hn45 (by simp; omega) B4
        go_wp2_with fail
        go_region_held (fun _ => True) (trivial)
          (first | (go_at_call 170; refine HW.mono ?_; rintro r w4 ⟨rfl, hq⟩))
        all_goals
          have HQ := Lib.hid hq
          clear hq HW hcv hna
          go_wp2_with fail
          refine (enc_close HQ.out (by omega) (by simp; omega) hB E.eb E.Be).mono ?_
          rintro r w5 ⟨rfl, E5⟩
          go_wp2
          go_end0
          have htt : t = cs.flatten ++ cur := by have := HTT.out; simpa using this
          refine ⟨rfl, cs, cur, htt, ?_, HCS.out, ?_, E5.below⟩
          · cases cur with
            | nil =>
              rw [htt, HCUR.out rfl] at hne; simp at hne
            | cons => simp
          · have e1 : l ++ wtext b64 98 cs [] ++ b64 cur = l ++ wtext b64 98 cs cur := by simp [wtext, b64]
            rw [← e1]; exact E5.bld
      | cons x q =>
        have hp : k < s.size := by have : (x :: q).length = q.length + 1 := rfl; omega
        have hTr := tabs_below HT.out E.below hB2
        have D82 := Lib.hid (dec82 s k hp wr hTr)
        clear hTr
        go_wp2_with fail
        refine D82.out.mono ?_
        rintro r w4 ⟨⟨ru, m, rfl, m1, m4, mk4⟩, hbw⟩
        have E4 := E.step hbw B4
        have B5 := Nat.le_trans B4 hbw.size
        clear E hbw B4
        by_cases hle : n + m ≤ 45
        · have hle2 : (n : Int) + m ≤ 45 := by omega
          go_wp2
          go_roundw
          case rel =>
            refine ⟨cs, cur ++ (x :: q).take m, (x :: q).drop m, k0, k + m, n + m, ?_, HK0.out, ?_, ?_, by go_num, rfl, by go_num, hle, ?_, HCS.out, E4⟩
            · rw [HTT.out]; simp
            · rw [List.length_append, List.length_take]; omega
            · have := HK.out; omega
            · intro h; simp at h; have := h.2; omega
          case measure => simp [intOf]; omega
        · have hle2 : ¬ (n : Int) + m ≤ 45 := by omega
          have hcv := conv_run w4.drew cur
          have hna := nil_ahead_139
          have HW := enc_write_d E4 cur n hcurl hn45 (by simp; omega) B5
          go_wp2_with fail
          go_region_held (fun _ => True) (trivial)
            (first | (go_at_call 170; refine HW.mono ?_; rintro r w5 ⟨rfl, hq⟩))
          all_goals
            have HQ := Lib.hid hq
            clear hq HW hcv hna
            go_wp2_with fail
            refine (enc_close HQ.out (by omega) (by simp; omega) hB E4.eb E4.Be).mono ?_
            rintro r w6 ⟨rfl, E5⟩
            have hb64 := b64_le cur
            go_wp2_with fail
            refine (f83 98 E5.bld (by simp; omega) (Nat.le_trans hB E5.below.size)).mono ?_
            rintro r w7 ⟨rfl, W7⟩
            have E7 := E5.wrote W7
            have e1 : l ++ wtext b64 98 cs [] ++ b64 cur ++ ([63, 61, 32] ++ hdr 98) = l ++ wtext b64 98 (cs ++ [cur]) [] := by simp [wtext, b64]
            rw [e1] at E7
            clear E4 E5 W7 HQ
            go_wp2
            go_roundw
            case rel =>
              have hcf : (cs ++ [cur]).flatten.length = k0 + n := by rw [List.flatten_append, List.flatten_singleton, List.length_append, hcurl, HK0.out]
              refine ⟨cs ++ [cur], (x :: q).take m, (x :: q).drop m, k, k + m, m, ?_, ?_, ?_, rfl, by go_num, rfl, rfl, by omega, ?_, ?_, E7⟩
              · rw [HTT.out]; simp
              · rw [hcf]; exact HK.out
              · rw [List.length_take]; omega
              · intro h; simp at h; omega
              · intro c' hc'
                rcases List.mem_append.1 hc' with h | h
                · exact HCS.out c' h
                · simp at h; subst h; omega
            case measure => simp [intOf]; omega
end Go.Proofs.YtbigjdlcmlopcaaGreatDoor
