import Derived.Test.YtbigjdlcmlopcaaGreatDoorZA
import Derived.Laws.EntriesVeiled
import Derived.Test.YtbigjdlcmlopcaaGreatDoorH
namespace Go.Proofs.YtbigjdlcmlopcaaGreatDoor
open Go.RowKit
set_option maxRecDepth 100000 in
theorem f93 {w : World} : Calls Tryz.prog 93 #[] w fun r w' => r = .returned (.pointer (some ⟨w.heap.size, 0, none⟩)) ∧ w' = w.alloc (.cells #[.func (.func 108) #[] #[]] 130) := by
  go_enter Tryz.func93, Tryz.ntmps93
  go_wp2
  go_ret
  exact ⟨rfl, rfl⟩

set_option maxRecDepth 100000 in
set_option maxHeartbeats 3200000 in
theorem f70 {w : World} {b : Nat} {s : ByteArray} (wd ck : List UInt8) (h : PAt b s w) (H95 : ∀ (w : World) (v : Value), Calls Tryz.prog 95 #[v, .string (mk wd)] w fun r w' => r = .returned (.tuple #[.string (mk ck), .nilIface]) ∧ Below w.heap.size w w') :
    Calls Tryz.prog 70 #[.pointer (some ⟨b, 0, none⟩), .string (mk wd)] w fun e w' => e = .returned (.tuple #[.string (mk ck), .bool true, .nilIface]) ∧ Below w.heap.size w w' := by
  have c1 := h.c1
  have f0 := h.f0
  clear h
  go_enter Tryz.func70, Tryz.ntmps70
  go_wp2_with fail
  refine f93.mono ?_
  rintro r w1 ⟨rfl, rfl⟩
  go_wp2_with fail
  refine (H95 _ _).mono ?_
  rintro r w2 ⟨rfl, hb⟩
  have B2 : Below w.heap.size w w2 := by
    refine Below.trans ?_ (hb.mono ?_)
    · refine (((((Below.refl _ _).alloc (Nat.le_refl _) _).alloc ?_ _).alloc ?_ _).alloc ?_ _)
      all_goals simp
      all_goals omega
    · simp; omega
  clear hb
  go_wp2
  go_ret3
  exact ⟨rfl, B2⟩


/-- The signs of encoded texts. -/
def wch (c : UInt8) : Prop := atx c.toNat true = true ∧ c.toNat < 128 ∧ c ≠ 63 ∧ c ≠ 46
instance (c : UInt8) : Decidable (wch c) := by unfold wch; infer_instance
theorem hexd_w : ∀ i : Fin 16, wch (hexd i.1) := by decide
theorem alph_w : ∀ i : Fin 64, wch (b64c i.1) := by decide
theorem b64c_w (n : Nat) (h : n < 64) : wch (b64c n) := alph_w ⟨n, h⟩
theorem b64_w : ∀ (l : List UInt8), ∀ c ∈ b64 l, wch c
  | a :: b :: c :: r => by
    intro x hx
    have ha := a.toNat_lt; have hb := b.toNat_lt; have hc := c.toNat_lt
    simp only [b64, List.mem_cons] at hx
    rcases hx with rfl | rfl | rfl | rfl | hx
    · exact b64c_w _ (by omega)
    · exact b64c_w _ (by omega)
    · exact b64c_w _ (by omega)
    · exact b64c_w _ (by omega)
    · exact b64_w r x hx
  | [a, b] => by
    intro x hx
    have ha := a.toNat_lt; have hb := b.toNat_lt
    simp only [b64, List.mem_cons, List.not_mem_nil, or_false] at hx
    rcases hx with rfl | rfl | rfl | rfl
    · exact b64c_w _ (by omega)
    · exact b64c_w _ (by omega)
    · exact b64c_w _ (by omega)
    · decide
  | [a] => by
    intro x hx
    have ha := a.toNat_lt
    simp only [b64, List.mem_cons, List.not_mem_nil, or_false] at hx
    rcases hx with rfl | rfl | rfl | rfl
    · exact b64c_w _ (by omega)
    · exact b64c_w _ (by omega)
    · decide
    · decide
  | [] => by intro x hx; simp [b64] at hx
set_option maxRecDepth 100000 in
/-- A sign that may stand raw. -/
theorem qraw_w (c : UInt8) (h : qraw c = true) (h92 : c ≠ 92) (hs : c ∉ nameSp) : wch c := by
  have key : ∀ i : Fin 256, qraw (UInt8.ofNat i.1) = true → UInt8.ofNat i.1 ≠ 92 → UInt8.ofNat i.1 ∉ nameSp → wch (UInt8.ofNat i.1) := by decide
  have := key ⟨c.toNat, c.toNat_lt⟩
  simp only [UInt8.ofNat_toNat] at this
  exact this h h92 hs
theorem qenc_w (l : List UInt8) (h : ∀ c ∈ l, c ≠ 92 ∧ c ∉ nameSp) : ∀ c ∈ qenc l, wch c := by
  intro x hx
  obtain ⟨c, hc, hxc⟩ := List.mem_flatMap.1 hx
  have ⟨h1, h2⟩ := h c hc
  have hlt := c.toNat_lt
  unfold qB at hxc
  split at hxc
  · simp at hxc; subst hxc; decide
  · split at hxc
    · next hq => simp at hxc; subst hxc; exact qraw_w _ hq h1 h2
    · simp only [List.mem_cons, List.not_mem_nil, or_false] at hxc
      rcases hxc with rfl | rfl | rfl
      · decide
      · exact hexd_w ⟨c.toNat / 16, by omega⟩
      · exact hexd_w ⟨c.toNat % 16, by omega⟩
theorem qraw_63 : ∀ c : UInt8, (63 : UInt8) ∉ qB c := by
  intro c hx
  have hlt := c.toNat_lt
  unfold qB at hx
  split at hx
  · simp at hx
  · split at hx
    · next hq => simp at hx; subst hx; revert hq; decide
    · simp only [List.mem_cons, List.not_mem_nil, or_false] at hx
      rcases hx with h | h | h
      · exact absurd h (by decide)
      · exact (hexd_w ⟨c.toNat / 16, by omega⟩).2.2.1 h.symm
      · exact (hexd_w ⟨c.toNat % 16, by omega⟩).2.2.1 h.symm

/-- The two kinds of words are decoded. -/
theorem dec_b (t : List UInt8) (h0 : 0 < t.length) (h1 : t.length ≤ 5000) : Decodes (hdr 98 ++ b64 t ++ [63, 61]) t := fun b s w h =>
  f70 _ t h (fun w v => f95 v 98 (b64 t) t (fun hx => (b64_w t _ hx).2.2.1 rfl) (by decide) (by have := b64_le t; omega) (fun w => f111b t h0 h1) h0 (by omega))
theorem dec_q (t : List UInt8) (h0 : 0 < t.length) (h1 : t.length ≤ 10000) : Decodes (hdr 113 ++ qenc t ++ [63, 61]) t := fun b s w h =>
  f70 _ t h (fun w v => f95 v 113 (qenc t) t (fun hx => by obtain ⟨c, hc, hxc⟩ := List.mem_flatMap.1 hx; exact qraw_63 c hxc) (by decide) (by have := qenc_le t; omega) (fun w => f111q t h1) h0 (by omega))

/-- The printed words, one by one. -/
def word (f : List UInt8 → List UInt8) (e : UInt8) (c : List UInt8) : List UInt8 × List UInt8 := (hdr e ++ f c ++ [63, 61], c)
theorem encs_words (f : List UInt8 → List UInt8) (e : UInt8) (cs : List (List UInt8)) (cur r : List UInt8) : hdr e ++ wtext f e cs cur ++ [63, 61] ++ [32] ++ 60 :: r = encs ((cs ++ [cur]).map (word f e)) r := by
  unfold wtext
  induction cs with
  | nil => simp [encs, word]
  | cons c cs ih =>
    show _ = encs (word f e c :: (cs ++ [cur]).map (word f e)) r
    rw [encs_cons, ← ih]
    simp [word]
theorem cks_words (f : List UInt8 → List UInt8) (e : UInt8) (l : List (List UInt8)) : cks (l.map (word f e)) = l.flatten := by
  unfold cks
  induction l with
  | nil => rfl
  | cons c l ih => rw [List.map_cons, List.flatMap_cons, ih]; rfl
theorem hdr_w (e : UInt8) (he : wch e) : ∀ c ∈ hdr e ++ ([] : List UInt8), atx c.toNat true = true ∧ c.toNat < 128 ∧ c ≠ 46 := by
  intro c hc
  simp only [hdr, utf8n, List.mem_append, List.mem_cons, List.not_mem_nil, or_false] at hc
  rcases hc with ((rfl | rfl) | (rfl | rfl | rfl | rfl | rfl)) | (rfl | rfl | rfl)
  all_goals first | exact ⟨he.1, he.2.1, he.2.2.2⟩ | decide
theorem word_w (f : List UInt8 → List UInt8) (e : UInt8) (c : List UInt8) (he : wch e) (hf : ∀ x ∈ f c, wch x) : ∀ x ∈ (word f e c).1, atx x.toNat true = true ∧ x.toNat < 128 ∧ x ≠ 46 := by
  intro x hx
  simp only [word, List.mem_append] at hx
  rcases hx with (hx | hx) | hx
  · exact hdr_w e he x (by simpa using hx)
  · exact ⟨(hf x hx).1, (hf x hx).2.1, (hf x hx).2.2.2⟩
  · simp at hx
    rcases hx with rfl | rfl <;> decide
theorem noDots_none {l : List UInt8} (h : ∀ x ∈ l, x ≠ 46) : NoDots l :=
  ⟨fun e => h 46 (List.mem_of_mem_head? (by rw [e]; rfl)) rfl, fun e => h 46 (List.mem_of_getLast? e) rfl, fun i hi => h 46 (List.mem_of_getElem? hi.1) rfl⟩
theorem atx_32 : atx ((32 : UInt8).toNat : Int) true = false := by decide

/-- Encoded words are a name. -/
theorem nameOk_e (f : List UInt8 → List UInt8) (e : UInt8) (he : wch e) (cs : List (List UInt8)) (cur : List UInt8) (hf : ∀ c ∈ cs ++ [cur], ∀ x ∈ f c, wch x) (hw : ∀ c ∈ cs ++ [cur], 0 < c.length ∧ Decodes (hdr e ++ f c ++ [63, 61]) c) (hn : (cs.flatten ++ cur).length ≤ 100000) :
    NameOk (hdr e ++ wtext f e cs cur ++ [63, 61] ++ [32]) (cs.flatten ++ cur) := by
  have hW : ∀ p ∈ (cs ++ [cur]).map (word f e), WOk p := by
    intro p hp
    obtain ⟨c, hc, rfl⟩ := List.mem_map.1 hp
    exact ⟨⟨_, rfl⟩, fun x hx => ⟨(word_w f e c he (hf c hc) x hx).1, (word_w f e c he (hf c hc) x hx).2.1⟩, (hw c hc).1, (hw c hc).2⟩
  have hc0 : 0 < ((cs ++ [cur]).map (word f e)).length := by simp
  have hk : cks ((cs ++ [cur]).map (word f e)) = cs.flatten ++ cur := by rw [cks_words]; simp
  refine ⟨⟨61, _, rfl, by decide, by decide, by decide, by decide, by decide⟩, ?_, ?_⟩
  · intro b w r hl hP
    obtain ⟨c1, l1, hcl⟩ : ∃ c1 l1, cs ++ [cur] = c1 :: l1 := by
      cases cs with
      | nil => exact ⟨_, _, rfl⟩
      | cons c cs => exact ⟨_, _, rfl⟩
    have hx := encs_words f e cs cur r
    have hlen : (hdr e ++ wtext f e cs cur ++ [63, 61] ++ [32] ++ 60 :: r).length ≤ 1073741001 := by rw [List.length_append, List.length_cons]; omega
    rw [hx] at hP hlen ⊢
    rw [hcl, List.map_cons, encs_cons] at hP hlen ⊢
    have h1 := word_w f e c1 he (hf c1 (by rw [hcl]; simp))
    have hw1 : (word f e c1).1 = 61 :: ([63] ++ utf8n ++ [63, e, 63] ++ f c1 ++ [63, 61]) := by simp [word, hdr]
    rw [hw1] at hP hlen h1 ⊢
    exact f49w 61 _ 32 _ hP (fun x hx => ⟨(h1 x hx).1, (h1 x hx).2.1⟩) (noDots_none fun x hx => (h1 x hx).2.2) (by decide) atx_32 (by decide) (by simp only [List.cons_append, List.length_cons, List.length_append] at hlen ⊢; omega)
  · intro b w r hl hP
    have hx := encs_words f e cs cur r
    have hlen : (hdr e ++ wtext f e cs cur ++ [63, 61] ++ [32] ++ 60 :: r).length ≤ 1073741001 := by rw [List.length_append, List.length_cons]; omega
    rw [hx] at hP hlen
    have := f51e _ r hP hW hc0 (by omega) (by rw [hk]; omega)
    rw [hk] at this
    exact this
/-- A text in quotes is a name. -/
theorem nameOk_q (nm : List UInt8) (h0 : nm ≠ []) (hok : ∀ c ∈ nm, okc c = true) (hn : nm.length ≤ 100000) : NameOk (34 :: (esc nm ++ [34]) ++ [32]) nm := by
  have he := esc_le nm
  have hx : ∀ r : List UInt8, 34 :: (esc nm ++ [34]) ++ [32] ++ 60 :: r = 34 :: (esc nm ++ 34 :: (32 :: 60 :: r)) := by intro r; simp
  refine ⟨⟨34, _, rfl, by decide, by decide, by decide, by decide, by decide⟩, ?_, ?_⟩
  · intro b w r hl hP
    rw [hx] at hP ⊢
    have hl3 : (34 :: (esc nm ++ [34]) ++ [32]).length = (esc nm).length + 3 := by simp
    rw [hl3] at hl
    clear hl3 hx
    cases nm with
    | nil => exact absurd rfl h0
    | cons x t => exact f49q x t 32 (60 :: r) hP hok (by decide) (by simp only [List.length_cons]; omega) (by simp at hn; omega)
  · intro b w r hl hP
    rw [hx] at hP
    have hl2 : r.length ≤ 1073741000 := by omega
    have hl3 : (34 :: (esc nm ++ [34]) ++ [32]).length = (esc nm).length + 3 := by simp
    exact f51q nm r hP hok (by omega) (by omega)
end Go.Proofs.YtbigjdlcmlopcaaGreatDoor
