import Derived.Test.YtbigjdlcmlopcaaGreatDoorG
namespace Go.Proofs.YtbigjdlcmlopcaaGreatDoor
open Go.RowKit

/-- A text that consumeAddrSpec takes ahead of a closing angle bracket. -/
def SpecOk (S adr : List UInt8) : Prop := (∃ c tl, S = c :: tl) ∧ ∀ (b : Nat) (w : World) (r : List UInt8), S.length + r.length ≤ 1073741000 → PAt b (mk (S ++ 62 :: r)) w →
  Calls Tryz.prog 49 #[.pointer (some ⟨b, 0, none⟩)] w fun e w' => e = .returned (.tuple #[.string (mk adr), .nilIface]) ∧ PAt b (mk (62 :: r)) w' ∧ w.grownBy w' (some b)
/-- A text that is the name ahead of an angle bracket. -/
def NameOk (T nm : List UInt8) : Prop := (∃ c tl, T = c :: tl ∧ c.toNat ≠ 60 ∧ c.toNat < 128 ∧ wsp c.toNat = false ∧ c.toNat ≠ 40 ∧ c.toNat ≠ 44) ∧
  (∀ (b : Nat) (w : World) (r : List UInt8), T.length + r.length ≤ 1073741000 → PAt b (mk (T ++ 60 :: r)) w →
    Calls Tryz.prog 49 #[.pointer (some ⟨b, 0, none⟩)] w fun e w' => (∃ v, IsErr v ∧ e = .returned (.tuple #[.string ⟨#[]⟩, v])) ∧ PAt b (mk (T ++ 60 :: r)) w' ∧ w.grownBy w' (some b)) ∧
  (∀ (b : Nat) (w : World) (r : List UInt8), T.length + r.length ≤ 1073741000 → PAt b (mk (T ++ 60 :: r)) w →
    Calls Tryz.prog 51 #[.pointer (some ⟨b, 0, none⟩)] w fun e w' => e = .returned (.tuple #[.string (mk nm), .nilIface]) ∧ PAt b (mk (60 :: r)) w' ∧ w.grownBy w' (some b))

/-- A slice of one pointer to an address. -/
def OneAddr (nm adr : ByteArray) (n : Nat) (v : Value) (w : World) : Prop :=
  ∃ g h, n ≤ g ∧ n ≤ h ∧ v = .slice (some ⟨g, 0, none⟩) 1 1 ∧ w.heap[g]? = some (.cells #[.pointer (some ⟨h, 0, none⟩)] 41 (0, 0)) ∧ w.heap[h]? = some (.cells #[.string nm, .string adr] 46 (0, 0))

theorem oneAddr_new (nm adr : ByteArray) (n : Nat) (w : World) (hn : n ≤ w.heap.size) :
    OneAddr nm adr n (.slice (some ⟨w.heap.size + 1, 0, none⟩) 1 1) ((w.alloc (.cells #[.string nm, .string adr] 46)).alloc (.cells #[.pointer (some ⟨w.heap.size, 0, none⟩)] 41)) := by
  refine ⟨w.heap.size + 1, w.heap.size, by omega, hn, rfl, ?_, ?_⟩
  · have := heap_alloc_new (w.alloc (.cells #[.string nm, .string adr] 46)) (.cells #[.pointer (some ⟨w.heap.size, 0, none⟩)] 41)
    simpa using this
  · rw [Below.heap_alloc _ _ _ (by simp)]; exact heap_alloc_new w _

theorem grown2_new (w : World) (a b : Obj) (row : Option Nat) : w.grownBy ((w.alloc a).alloc b) row :=
  grownBy_of_below _ (((Below.refl _ _).alloc (Nat.le_refl _) _).alloc (by simp) _)

set_option maxRecDepth 100000 in
set_option maxHeartbeats 6400000 in
/-- parseAddress: an address in angle brackets, without a name. -/
theorem f33n {b : Nat} {w : World} (pre S adr r : List UInt8) (h : PAt b (mk (pre ++ 60 :: (S ++ 62 :: r))) w) (hpre : ∀ c ∈ pre, wsp c.toNat = true) (hS : SpecOk S adr) (hn : pre.length + S.length + r.length ≤ 1073740000) :
    Calls Tryz.prog 33 #[.pointer (some ⟨b, 0, none⟩), .bool true] w fun e w' => ∃ v, e = .returned (.tuple #[v, .nilIface]) ∧ OneAddr (mk []) (mk adr) w.heap.size v w' ∧ PAt b (mk r) w' ∧ w.grownBy w' (some b) := by
  have hlt := h.lt
  have HP := Lib.hid h
  have HPre := Lib.hid hpre
  have HS := Lib.hid hS
  clear h hpre hS
  go_enter Tryz.func33, Tryz.ntmps33
  go_wp2_with fail
  refine (f46 pre (60 :: (S ++ 62 :: r)) HP.out HPre.out (by intro x hx; simp at hx; subst hx; decide) (by simp; omega)).mono ?_
  rintro e w1 ⟨rfl, hP1, G1⟩
  go_wp2_with fail
  refine (f36c hP1).mono ?_
  rintro e w' ⟨rfl, rfl⟩
  go_wp2_with fail
  refine (f49lt (S ++ 62 :: r) hP1 (by simp; omega)).mono ?_
  rintro e w2 ⟨⟨v, ⟨av, rfl⟩, rfl⟩, hP2, hg2⟩
  have G2 := grownBy_trans G1 hg2
  clear hP1 G1 hg2
  go_wp2_with fail
  refine (f48 hP2).mono ?_
  rintro e w' ⟨rfl, rfl⟩
  go_wp2_with fail
  refine (f46_0 _ hP2 (by intro x hx; simp at hx; subst hx; decide) (by simp; omega)).mono ?_
  rintro e w3 ⟨rfl, hP3, hg3⟩
  have G3 := grownBy_trans G2 hg3
  clear hP2 G2 hg3
  go_wp2_with fail
  refine (f47n hP3 _ (by decide)).mono ?_
  rintro e w' ⟨rfl, rfl⟩
  go_wp2_with fail
  refine (f47y hP3 _ (by decide)).mono ?_
  rintro e w4 ⟨rfl, hP4, hg4⟩
  have G4 := grownBy_trans G3 hg4
  clear hP3 G3 hg4
  go_wp2_with fail
  refine (HS.out.2 b w4 r (by omega) hP4).mono ?_
  rintro e w5 ⟨rfl, hP5, hg5⟩
  have G5 := grownBy_trans G4 hg5
  clear hP4 G4 hg5
  go_wp2_with fail
  refine (f47y hP5 _ (by decide)).mono ?_
  rintro e w6 ⟨rfl, hP6, hg6⟩
  have G6 := grownBy_trans G5 hg6
  clear hP5 G5 hg6
  go_wp2
  go_ret2
  exact ⟨_, rfl, oneAddr_new _ _ _ _ G6.size, hP6.kept (grown2_new w6 _ _ none) (by simp), grownBy_trans G6 (grown2_new w6 _ _ _)⟩

set_option maxRecDepth 100000 in
set_option maxHeartbeats 6400000 in
/-- parseAddress: an address in angle brackets behind a name. -/
theorem f33m {b : Nat} {w : World} (pre T nm S adr r : List UInt8) (h : PAt b (mk (pre ++ (T ++ 60 :: (S ++ 62 :: r)))) w) (hpre : ∀ c ∈ pre, wsp c.toNat = true) (hT : NameOk T nm) (hS : SpecOk S adr) (hn : pre.length + T.length + S.length + r.length ≤ 1073740000) :
    Calls Tryz.prog 33 #[.pointer (some ⟨b, 0, none⟩), .bool true] w fun e w' => ∃ v, e = .returned (.tuple #[v, .nilIface]) ∧ OneAddr (mk nm) (mk adr) w.heap.size v w' ∧ PAt b (mk r) w' ∧ w.grownBy w' (some b) := by
  have hlt := h.lt
  have HP := Lib.hid h
  have HPre := Lib.hid hpre
  have HS := Lib.hid hS
  obtain ⟨⟨c, tl, htl, hc60, hc128, hcw, -⟩, hf49, hf51⟩ := hT
  have HF49 := Lib.hid hf49
  have HF51 := Lib.hid hf51
  have HTL := Lib.hid htl
  have hc60' : ((c.toNat : Int) != 60) = true := by simp; omega
  clear h hpre hS hf49 hf51 htl
  go_enter Tryz.func33, Tryz.ntmps33
  go_wp2_with fail
  refine (f46 pre (T ++ 60 :: (S ++ 62 :: r)) HP.out HPre.out (by rw [HTL.out]; intro x hx; simp at hx; subst hx; exact ⟨hcw, hc128⟩) (by simp; omega)).mono ?_
  rintro e w1 ⟨rfl, hP1, G1⟩
  go_wp2_with fail
  have hP1c : PAt b (mk (c :: (tl ++ 60 :: (S ++ 62 :: r)))) w1 := by have h := hP1; rw [HTL.out] at h; exact h
  refine (f36c hP1c).mono ?_
  rintro e w' ⟨rfl, rfl⟩
  clear hP1c
  go_wp2_with fail
  refine (HF49.out b w1 (S ++ 62 :: r) (by simp; omega) hP1).mono ?_
  rintro e w2 ⟨⟨v, ⟨av, rfl⟩, rfl⟩, hP2, hg2⟩
  have G2 := grownBy_trans G1 hg2
  clear hP1 G1 hg2
  go_wp2_with fail
  have hP2c : PAt b (mk (c :: (tl ++ 60 :: (S ++ 62 :: r)))) w2 := by have h := hP2; rw [HTL.out] at h; exact h
  refine (f48 hP2c).mono ?_
  rintro e w' ⟨rfl, rfl⟩
  clear hP2c
  go_wp2_with fail
  refine (HF51.out b w2 (S ++ 62 :: r) (by simp; omega) hP2).mono ?_
  rintro e w2' ⟨rfl, hP2', hg2'⟩
  have G2' := grownBy_trans G2 hg2'
  clear hP2 G2 hg2'
  go_wp2_with fail
  refine (f46_0 _ hP2' (by intro x hx; simp at hx; subst hx; decide) (by simp; omega)).mono ?_
  rintro e w3 ⟨rfl, hP3, hg3⟩
  have G3 := grownBy_trans G2' hg3
  clear hP2' G2' hg3
  go_wp2_with fail
  refine (f47n hP3 _ (by decide)).mono ?_
  rintro e w' ⟨rfl, rfl⟩
  go_wp2_with fail
  refine (f47y hP3 _ (by decide)).mono ?_
  rintro e w4 ⟨rfl, hP4, hg4⟩
  have G4 := grownBy_trans G3 hg4
  clear hP3 G3 hg4
  go_wp2_with fail
  refine (HS.out.2 b w4 r (by omega) hP4).mono ?_
  rintro e w5 ⟨rfl, hP5, hg5⟩
  have G5 := grownBy_trans G4 hg5
  clear hP4 G4 hg5
  go_wp2_with fail
  refine (f47y hP5 _ (by decide)).mono ?_
  rintro e w6 ⟨rfl, hP6, hg6⟩
  have G6 := grownBy_trans G5 hg6
  clear hP5 G5 hg6
  go_wp2
  go_ret2
  exact ⟨_, rfl, oneAddr_new _ _ _ _ G6.size, hP6.kept (grown2_new w6 _ _ none) (by simp), grownBy_trans G6 (grown2_new w6 _ _ _)⟩

/-- A text that parseAddress takes. -/
def AddrOk (F nm adr : List UInt8) : Prop := (∃ c tl, F = c :: tl ∧ c.toNat < 128 ∧ wsp c.toNat = false ∧ c.toNat ≠ 40 ∧ c.toNat ≠ 44) ∧
  ∀ (b : Nat) (w : World) (pre r : List UInt8), (∀ c ∈ pre, wsp c.toNat = true) → pre.length + F.length + r.length ≤ 1073740000 → PAt b (mk (pre ++ (F ++ r))) w →
    Calls Tryz.prog 33 #[.pointer (some ⟨b, 0, none⟩), .bool true] w fun e w' => ∃ v, e = .returned (.tuple #[v, .nilIface]) ∧ OneAddr (mk nm) (mk adr) w.heap.size v w' ∧ PAt b (mk r) w' ∧ w.grownBy w' (some b)
theorem addrOk_n {S adr : List UInt8} (hS : SpecOk S adr) : AddrOk (60 :: (S ++ [62])) [] adr := by
  refine ⟨⟨60, S ++ [62], rfl, by decide, by decide, by decide, by decide⟩, ?_⟩
  intro b w pre r hpre hn h
  have h' : PAt b (mk (pre ++ 60 :: (S ++ 62 :: r))) w := by simpa using h
  exact f33n pre S adr r h' hpre hS (by simp at hn; omega)
theorem addrOk_m {T nm S adr : List UInt8} (hT : NameOk T nm) (hS : SpecOk S adr) : AddrOk (T ++ 60 :: (S ++ [62])) nm adr := by
  obtain ⟨c, tl, htl, h1, h2, h3, h4, h5⟩ := hT.1
  refine ⟨⟨c, tl ++ 60 :: (S ++ [62]), by rw [htl]; rfl, h2, h3, h4, h5⟩, ?_⟩
  intro b w pre r hpre hn h
  have h' : PAt b (mk (pre ++ (T ++ 60 :: (S ++ 62 :: r)))) w := by simpa using h
  exact f33m pre T nm S adr r h' hpre hT hS (by simp at hn; omega)

theorem OneAddr.kept {nm adr : ByteArray} {n b : Nat} {v : Value} {w w' : World} (h : OneAddr nm adr n v w) (hg : w.grownBy w' (some b)) (hb : b < n) : OneAddr nm adr n v w' := by
  obtain ⟨g, k, h1, h2, h3, h4, h5⟩ := h
  refine ⟨g, k, h1, h2, h3, ?_, ?_⟩
  · rw [hg.block _ (Array.getElem?_eq_some_iff.1 h4).1 (by simp; omega)]; exact h4
  · rw [hg.block _ (Array.getElem?_eq_some_iff.1 h5).1 (by simp; omega)]; exact h5

set_option maxHeartbeats 3200000 in
/-- parseSingleAddress. -/
theorem f23 {b : Nat} {w : World} (F nm adr : List UInt8) (h : PAt b (mk F) w) (hF : AddrOk F nm adr) (hn : F.length ≤ 1073740000) :
    Calls Tryz.prog 23 #[.pointer (some ⟨b, 0, none⟩)] w fun e w' => ∃ k, e = .returned (.tuple #[.pointer (some ⟨k, 0, none⟩), .nilIface]) ∧ w'.heap[k]? = some (.cells #[.string (mk nm), .string (mk adr)] 46 (0, 0)) ∧ w.grownBy w' (some b) := by
  have hlt := h.lt
  have HP := Lib.hid h
  have HF := Lib.hid hF
  clear h hF
  go_enter Tryz.func23, Tryz.ntmps23
  go_wp2_with fail
  refine (HF.out.2 b w [] [] (by simp) (by simp; omega) (by simpa using HP.out)).mono ?_
  rintro e w1 ⟨v, rfl, hA, hP1, G1⟩
  go_wp2_with fail
  refine (f34 [] [] hP1 (by simp) (by simp) (by simp)).mono ?_
  rintro e w2 ⟨rfl, hP2, hg2⟩
  have hA2 := hA.kept hg2 hlt
  have G2 := grownBy_trans G1 hg2
  clear hP1 G1 hg2 hA
  go_wp2_with fail
  refine (f36e hP2).mono ?_
  rintro e w' ⟨rfl, rfl⟩
  obtain ⟨g, k, h1, h2, rfl, h4, h5⟩ := hA2
  have hc : w2.cell? ⟨g, 0, none⟩ = some (.pointer (some ⟨k, 0, none⟩)) := by simp [World.cell?, h4]
  have H5 := Lib.hid h5
  clear h4 h5
  go_wp2
  go_ret2
  exact ⟨k, rfl, H5.out, G2⟩

/-- mail.ParseAddress. -/
theorem f17 {w : World} (F nm adr : List UInt8) (hF : AddrOk F nm adr) (hn : F.length ≤ 1073740000) :
    Calls Tryz.prog 17 #[.string (mk F)] w fun e w' => ∃ k, e = .returned (.tuple #[.pointer (some ⟨k, 0, none⟩), .nilIface]) ∧ w'.heap[k]? = some (.cells #[.string (mk nm), .string (mk adr)] 46 (0, 0)) ∧ Below w.heap.size w w' := by
  go_enter Tryz.func17, Tryz.ntmps17
  go_wp2_with fail
  have hP : PAt w.heap.size (mk F) (w.alloc (.cells #[.string (mk F), .pointer none] 63)) := heap_alloc_new w _
  have hb : Below w.heap.size w (w.alloc (.cells #[.string (mk F), .pointer none] 63)) := (Below.refl _ _).alloc (Nat.le_refl _) _
  refine (f23 F nm adr hP hF hn).mono ?_
  rintro e w1 ⟨k, rfl, hk, hg⟩
  have hb1 : Below w.heap.size w w1 := hb.trans (below_of_grownBy hg (by simp) (by intro k hk; simp at hk; omega))
  go_wp2
  go_ret2
  exact ⟨k, rfl, hk, hb1⟩

set_option maxHeartbeats 1600000 in
/-- impl.Parse. -/
theorem f7 {w : World} (F nm adr : List UInt8) (hF : AddrOk F nm adr) (hn : F.length ≤ 1073740000) :
    Calls Tryz.prog 7 #[.string (mk F)] w fun e w' => e = .returned (.tuple #[.agg #[.string (mk nm), .string (mk adr)], .bool true]) ∧ Below w.heap.size w w' := by
  go_enter Tryz.func7, Tryz.ntmps7
  go_wp2_with fail
  refine (f17 F nm adr hF hn).mono ?_
  rintro e w1 ⟨k, rfl, hk, hb⟩
  have hn1 : w1.heap[w.heap.size]? = some (.cells #[.string ⟨#[]⟩, .string ⟨#[]⟩] 23 (0, 0)) := by
    rw [hb.block _ (by simp)]; exact heap_alloc_new w _
  have k0 : w1.cell? ⟨k, 0, none⟩ = some (.string (mk nm)) := by simp [World.cell?, hk]
  have k1 : w1.cell? ⟨k, 1, none⟩ = some (.string (mk adr)) := by simp [World.cell?, hk]
  have n0 : w1.cell? ⟨w.heap.size, 0, none⟩ = some (.string ⟨#[]⟩) := by simp [World.cell?, hn1]
  have n1 : w1.cell? ⟨w.heap.size, 1, none⟩ = some (.string ⟨#[]⟩) := by simp [World.cell?, hn1]
  have z0 : w1.frozen? ⟨w.heap.size, 0, none⟩ = false := by simp [World.frozen?, hn1]
  have z1 : w1.frozen? ⟨w.heap.size, 1, none⟩ = false := by simp [World.frozen?, hn1]
  have hb1 : Below w.heap.size w w1 := ((Below.refl _ w).alloc (Nat.le_refl _) (.cells #[.string ⟨#[]⟩, .string ⟨#[]⟩] 23)).trans (hb.mono (by simp))
  have hb2 : Below w.heap.size w ((w1.setCell ⟨w.heap.size, 0, none⟩ (.string (mk nm))).setCell ⟨w.heap.size, 1, none⟩ (.string (mk adr))) := (hb1.setCell (Nat.le_refl _) _).setCell (Nat.le_refl _) _
  have HB := Lib.hid hb2
  clear hb hb1 hb2 hk hn1
  go_wp2
  refine bodyPost_ret (v := .tuple #[.agg #[.string (mk nm), .string (mk adr)], .bool true]) ?_ rfl ⟨rfl, HB.out⟩
  simp [results, Tryz.results7, go_sem, n0, n1]
end Go.Proofs.YtbigjdlcmlopcaaGreatDoor
