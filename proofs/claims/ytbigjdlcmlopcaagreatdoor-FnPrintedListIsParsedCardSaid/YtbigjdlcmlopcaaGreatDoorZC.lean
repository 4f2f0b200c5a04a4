import Derived.Test.YtbigjdlcmlopcaaGreatDoorZB
import Derived.Test.YtbigjdlcmlopcaaGreatDoorL2
namespace Go.Proofs.YtbigjdlcmlopcaaGreatDoor
open Go.RowKit

theorem atx_up (r : Int) (h : atx r false = true) : atx r true = true := by
  unfold atx at *
  split at h
  · cases h
  · next h2 => rw [if_neg h2]; exact h
theorem DotOk.atx {l : List UInt8} (h : DotOk l) : ∀ x ∈ l, atx x.toNat true = true ∧ x.toNat < 128 := by
  intro x hx
  obtain ⟨j, hj, rfl⟩ := List.getElem_of_mem hx
  rcases h.2 j hj with ⟨h1, h2⟩ | ⟨h1, -⟩
  · exact ⟨atx_up _ h1, h2⟩
  · rw [h1]; decide
theorem DotOk.noDots {l : List UInt8} (h : DotOk l) : NoDots l := by
  have key : ∀ j (hj : j < l.length), l[j] = 46 → 0 < j ∧ l[j - 1]? ≠ some 46 ∧ j + 1 < l.length := by
    intro j hj e
    rcases h.2 j hj with ⟨h1, -⟩ | ⟨-, h2⟩
    · rw [e] at h1; exact absurd h1 (by decide)
    · exact h2
  refine ⟨fun e => ?_, fun e => ?_, fun i ⟨h1, h2⟩ => ?_⟩
  · rw [List.head?_eq_getElem?, List.getElem?_eq_getElem h.1] at e
    have := (key 0 h.1 (Option.some.inj e)).1
    omega
  · have h0 := h.1
    rw [List.getLast?_eq_getElem?, List.getElem?_eq_getElem (by omega)] at e
    have := (key _ (by omega) (Option.some.inj e)).2.2
    omega
  · obtain ⟨hi, e⟩ := List.getElem?_eq_some_iff.1 h2
    have := (key (i + 1) hi e).2.1
    simp only [Nat.add_sub_cancel] at this
    exact this h1
theorem DotOk.not64 {l : List UInt8} (h : DotOk l) : (64 : UInt8) ∉ l := fun hx => by
  have := (h.atx 64 hx).1
  revert this; decide
theorem DotOk.ascii {l : List UInt8} (h : DotOk l) : ∀ x ∈ l, 32 ≤ x.toNat ∧ x.toNat ≤ 126 := by
  intro x hx
  have ⟨h1, h2⟩ := h.atx x hx
  unfold YtbigjdlcmlopcaaGreatDoor.atx vch at h1
  split at h1
  · next e => omega
  · split at h1
    · cases h1
    · have := of_decide_eq_true h1
      omega
theorem dotOk_fine {l : List UInt8} (h0 : 0 < l.length) (hl : ∀ x ∈ l, 32 ≤ x.toNat ∧ x.toNat ≤ 126) (h : ∀ j, j < l.length → fine l j) : DotOk l := by
  refine ⟨h0, fun j hj => ?_⟩
  obtain ⟨c, hc, h1⟩ := h j hj
  rw [List.getElem?_eq_getElem hj] at hc
  have hc := Option.some.inj hc
  rcases h1 with h1 | h1
  · exact .inl ⟨by rw [hc]; exact h1, by have := hl _ (List.getElem_mem hj); omega⟩
  · exact .inr (by rw [hc]; exact h1)

theorem specOk {loc dom S : List UInt8} (h : LocS loc dom S) (h0 : 0 < loc.length) (hl : ∀ x ∈ loc, 32 ≤ x.toNat ∧ x.toNat ≤ 126) (hd : DotOk dom) (hn : loc.length ≤ 100000) : SpecOk S (loc ++ 64 :: dom) := by
  have h62 : ∀ r : List UInt8, ∀ x ∈ (62 :: r : List UInt8).head?, atx x.toNat true = false ∧ x.toNat < 128 := by
    intro r x hx; simp at hx; subst hx; decide
  obtain ⟨c2, d, rfl⟩ : ∃ c2 d, dom = c2 :: d := by
    cases dom with
    | nil => exact absurd hd.1 (by simp)
    | cons c d => exact ⟨c, d, rfl⟩
  obtain ⟨c, a, rfl⟩ : ∃ c a, loc = c :: a := by
    cases loc with
    | nil => exact absurd h0 (by simp)
    | cons c d => exact ⟨c, d, rfl⟩
  rcases h with ⟨rfl, hf⟩ | rfl
  · have hL := dotOk_fine h0 hl hf
    refine ⟨⟨_, _, rfl⟩, fun b w r hlen hP => ?_⟩
    have e : (c :: a) ++ 64 :: c2 :: d ++ 62 :: r = c :: (a ++ 64 :: (c2 :: (d ++ 62 :: r))) := by simp
    rw [e] at hP
    exact f49a c a c2 d (62 :: r) hP hL.atx hL.noDots hd.atx hd.noDots (h62 r) (by simp only [List.length_cons, List.length_append] at hlen ⊢; omega)
  · refine ⟨⟨_, _, rfl⟩, fun b w r hlen hP => ?_⟩
    have e : 34 :: (esc (c :: a) ++ [34]) ++ 64 :: c2 :: d ++ 62 :: r = 34 :: (esc (c :: a) ++ 34 :: (64 :: (c2 :: (d ++ 62 :: r)))) := by simp
    rw [e] at hP
    exact f49s c a c2 d (62 :: r) hP (fun x hx => decide_eq_true (.inl (hl x hx))) hd.atx hd.noDots (h62 r) (by simp only [List.length_cons, List.length_append] at hlen ⊢; omega) (by simp at hn; omega)

theorem mem_flat_le {l : List (List UInt8)} {c : List UInt8} (h : c ∈ l) : c.length ≤ l.flatten.length := by
  induction l with
  | nil => cases h
  | cons a l ih =>
    rw [List.flatten_cons, List.length_append]
    rcases List.mem_cons.1 h with rfl | h
    · omega
    · have := ih h; omega
theorem addrOk {nm T loc dom S : List UInt8} (hT : NameT nm T) (hn92 : (∀ c ∈ nm, okc c = true) ∨ ∀ c ∈ nm, c ≠ 92) (h : LocS loc dom S) (h0 : 0 < loc.length) (hl : ∀ x ∈ loc, 32 ≤ x.toNat ∧ x.toNat ≤ 126) (hd : DotOk dom) (hn : loc.length ≤ 5000) (hm : nm.length ≤ 5000) :
    AddrOk (T ++ 60 :: (S ++ [62])) nm (loc ++ 64 :: dom) := by
  have hS := specOk h h0 hl hd (by omega)
  rcases hT with ⟨rfl, rfl⟩ | ⟨h1, h2, rfl⟩ | ⟨⟨xb, hxb, hxo⟩, cs, cur, rfl, h1, h2, hT⟩
  · exact addrOk_n hS
  · exact addrOk_m (nameOk_q nm h1 h2 (by omega)) hS
  · have hcl : ∀ c ∈ cs ++ [cur], 0 < c.length ∧ c.length ≤ 5000 ∧ ∀ x ∈ c, x ∈ cs.flatten ++ cur := by
      intro c hc
      rcases List.mem_append.1 hc with h | h
      · have := mem_flat_le h
        exact ⟨h2 c h, by rw [List.length_append] at hm; omega, fun x hx => List.mem_append.2 (.inl (List.mem_flatten.2 ⟨c, h, hx⟩))⟩
      · simp at h; subst h
        exact ⟨h1, by rw [List.length_append] at hm; omega, fun x hx => List.mem_append.2 (.inr hx)⟩
    rcases hT with rfl | ⟨rfl, hsp⟩
    · exact addrOk_m (nameOk_e b64 98 (by decide) cs cur (fun c _ => b64_w c) (fun c hc => ⟨(hcl c hc).1, dec_b c (hcl c hc).1 (hcl c hc).2.1⟩) (by omega)) hS
    · refine addrOk_m (nameOk_e qenc 113 (by decide) cs cur (fun c hc => qenc_w c fun x hx => ⟨?_, hsp x ((hcl c hc).2.2 x hx)⟩) (fun c hc => ⟨(hcl c hc).1, dec_q c (hcl c hc).1 (by have := (hcl c hc).2.1; omega)⟩) (by omega)) hS
      rcases hn92 with h | h
      · exact absurd (h xb hxb) (by rw [hxo]; decide)
      · exact h x ((hcl c hc).2.2 x hx)

theorem locS_len {loc dom S : List UInt8} (h : LocS loc dom S) : S.length ≤ 2 * loc.length + dom.length + 3 := by
  rcases h with ⟨rfl, -⟩ | rfl
  · simp; omega
  · have := esc_le loc
    simp; omega
theorem nameT_len {nm T : List UInt8} (h : NameT nm T) : T.length ≤ 17 * nm.length + 20 := by
  rcases h with ⟨rfl, rfl⟩ | ⟨-, -, rfl⟩ | ⟨-, cs, cur, rfl, -, h2, rfl | ⟨rfl, -⟩⟩
  · simp
  · have := esc_le nm
    simp; omega
  · have := wtext_le64 cs cur h2
    have hh : (hdr 98).length = 10 := rfl
    simp only [List.length_append, hh, List.length_cons, List.length_nil] at *
    omega
  · have := wtext_le cs cur h2
    have hh : (hdr 113).length = 10 := rfl
    simp only [List.length_append, hh, List.length_cons, List.length_nil] at *
    omega

/-- What is printed is parsed to the address. -/
theorem rt8 {w : World} (n l d : ByteArray) (hl0 : 0 < l.size) (hl : ∀ x ∈ l.data.toList, 32 ≤ x.toNat ∧ x.toNat ≤ 126) (hd : DotOk d.data.toList) (hn : n.size ≤ 5000) (hm : l.size ≤ 5000) (ho : d.size ≤ 5000) (h92 : (∀ c ∈ n.data.toList, okc c = true) ∨ ∀ c ∈ n.data.toList, c ≠ 92) (hT : Lib.Utf8Tabs 0 1 w) :
    Calls Tryz.prog 8 #[.agg #[.string n, .string (l ++ ⟨#[64]⟩ ++ d)]] w fun r w' => (∃ F, r = .returned (.string F) ∧ ∀ w, Calls Tryz.prog 7 #[.string F] w fun e w' => e = .returned (.tuple #[.agg #[.string n, .string (l ++ ⟨#[64]⟩ ++ d)], .bool true]) ∧ Below w.heap.size w w') ∧ Below w.heap.size w w' := by
  have e1 : mk n.data.toList = n := mk_of n
  have e2 : mk (l.data.toList ++ 64 :: d.data.toList) = l ++ ⟨#[64]⟩ ++ d := by
    apply ByteArray.ext; simp [mk]
  have H := f8 (w := w) n.data.toList l.data.toList d.data.toList hd.not64 hl hn hm ho hT
  rw [e1, e2] at H
  refine H.mono ?_
  rintro r w1 ⟨⟨S, T, hS, hTn, rfl⟩, hb⟩
  refine ⟨⟨_, rfl, fun w2 => ?_⟩, hb⟩
  have hA := addrOk hTn h92 hS hl0 hl hd hm hn
  have l1 := locS_len hS
  have l2 := nameT_len hTn
  have l3 : n.data.toList.length = n.size := rfl
  have l4 : l.data.toList.length = l.size := rfl
  have l5 : d.data.toList.length = d.size := rfl
  have := f7 (w := w2) _ _ _ hA (by simp only [List.length_append, List.length_cons, List.length_nil]; omega)
  rw [e1, e2] at this
  exact this
end Go.Proofs.YtbigjdlcmlopcaaGreatDoor
