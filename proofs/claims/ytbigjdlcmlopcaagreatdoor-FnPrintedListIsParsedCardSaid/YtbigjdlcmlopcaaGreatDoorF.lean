import Derived.Test.YtbigjdlcmlopcaaGreatDoorE
import Derived.Defers
namespace Go.Proofs.YtbigjdlcmlopcaaGreatDoor
open Go.RowKit

theorem f64n (ne no np : Nat) (u : FrameMode) (w : World) (he : w.cell? ⟨ne, 0, none⟩ = some .nilIface) :
    CallsD Tryz.prog 64 #[.pointer (some ⟨ne, 0, none⟩), .pointer (some ⟨no, 0, none⟩), .pointer (some ⟨np, 0, none⟩)] u w fun e u' w' => u' = u ∧ (e = .returned (.tuple #[]) ∧ w = w') := by
  go_enter_d Tryz.func64, Tryz.ntmps64
  go_wp2
  go_end0
  exact ⟨rfl, rfl⟩

theorem PAt.set1 {b : Nat} {s : ByteArray} {w : World} (h : PAt b s w) : PAt b s (w.setCell ⟨b, 1, none⟩ (.pointer none)) := by
  unfold PAt at h ⊢
  simp [World.setCell, Array.getElem?_modify, h]

theorem f64e (ne no np b : Nat) (s : ByteArray) (v : Value) (hv : IsErr v) (u : FrameMode) (w : World) (he : w.cell? ⟨ne, 0, none⟩ = some v)
    (ho0 : w.cell? ⟨no, 0, none⟩ = some (.string s)) (ho1 : w.cell? ⟨no, 1, none⟩ = some (.pointer none)) (hp : w.cell? ⟨np, 0, none⟩ = some (.pointer (some ⟨b, 0, none⟩)))
    (t : ByteArray) (hb : PAt b t w) :
    CallsD Tryz.prog 64 #[.pointer (some ⟨ne, 0, none⟩), .pointer (some ⟨no, 0, none⟩), .pointer (some ⟨np, 0, none⟩)] u w fun e u' w' => u' = u ∧ (e = .returned (.tuple #[]) ∧ PAt b s w' ∧ w.grownBy w' (some b)) := by
  obtain ⟨a, rfl⟩ := hv
  have h0 := hb.c0
  have h1 := hb.c1
  have hf := hb.f0
  have hf1 : w.frozen? ⟨b, 1, none⟩ = false := by unfold PAt at hb; simp [World.frozen?, hb]
  have HB := Lib.hid hb
  clear hb
  go_enter_d Tryz.func64, Tryz.ntmps64
  go_wp2
  go_end0
  exact ⟨rfl, (HB.out.set _).set1, grownBy_trans (grownBy_set _ _ _) (grownBy_set _ _ _)⟩

/-- consumeAddrSpec's own blocks from n on: the receiver's variable, the error, the copy. -/
def Own3 (n b : Nat) (s : ByteArray) (v : Value) (w : World) : Prop :=
  w.heap[n]? = some (.cells #[.pointer (some ⟨b, 0, none⟩)] 60 (0, 0)) ∧ w.heap[n + 1]? = some (.cells #[v] 43 (0, 0)) ∧ w.heap[n + 1 + 1]? = some (.cells #[.string s, .pointer none] 63 (0, 0))
theorem Own3.facts {n b : Nat} {s : ByteArray} {v : Value} {w : World} (h : Own3 n b s v w) :
    w.cell? ⟨n, 0, none⟩ = some (.pointer (some ⟨b, 0, none⟩)) ∧ w.cell? ⟨n + 1, 0, none⟩ = some v ∧ w.frozen? ⟨n + 1, 0, none⟩ = false ∧ w.cell? ⟨n + 1 + 1, 0, none⟩ = some (.string s) ∧ w.cell? ⟨n + 1 + 1, 1, none⟩ = some (.pointer none) := by
  obtain ⟨h1, h2, h3⟩ := h
  refine ⟨?_, ?_, ?_, ?_, ?_⟩ <;> simp [World.cell?, World.frozen?, h1, h2, h3]
theorem Own3.kept {n b : Nat} {s : ByteArray} {v : Value} {w w' : World} (h : Own3 n b s v w) (hg : w.grownBy w' (some b)) (hb : b < n) : Own3 n b s v w' := by
  obtain ⟨h1, h2, h3⟩ := h
  refine ⟨?_, ?_, ?_⟩
  · rw [hg.block _ (Array.getElem?_eq_some_iff.1 h1).1 (by simp; omega)]; exact h1
  · rw [hg.block _ (Array.getElem?_eq_some_iff.1 h2).1 (by simp; omega)]; exact h2
  · rw [hg.block _ (Array.getElem?_eq_some_iff.1 h3).1 (by simp; omega)]; exact h3
theorem Own3.put {n b : Nat} {s : ByteArray} {v : Value} {w : World} (h : Own3 n b s v w) (u : Value) : Own3 n b s u (w.setCell ⟨n + 1, 0, none⟩ u) := by
  obtain ⟨h1, h2, h3⟩ := h
  refine ⟨?_, ?_, ?_⟩
  · rw [Below.heap_setCell _ _ _ _ (by simp)]; exact h1
  · simp [World.setCell, Array.getElem?_modify, h2]
  · rw [Below.heap_setCell _ _ _ _ (by simp)]; exact h3
theorem PAt.other {b : Nat} {s : ByteArray} {w : World} (h : PAt b s w) (n o : Nat) (hn : b ≠ n) (u : Value) : PAt b s (w.setCell ⟨n, o, none⟩ u) := by
  unfold PAt at h ⊢
  rw [Below.heap_setCell _ _ _ _ (by simpa using hn)]; exact h

theorem mk_append (a b : List UInt8) : mk a ++ mk b = mk (a ++ b) := by apply ByteArray.ext; simp [mk]

/-- skipSpace where there is none. -/
theorem f46_0 {b : Nat} {w : World} (r : List UInt8) (h : PAt b (mk r) w) (hr : ∀ c ∈ r.head?, wsp c.toNat = false ∧ c.toNat < 128) (hn : r.length ≤ 140737488351232) :
    Calls Tryz.prog 46 #[.pointer (some ⟨b, 0, none⟩)] w fun e w' => e = .returned (.tuple #[]) ∧ PAt b (mk r) w' ∧ w.grownBy w' (some b) :=
  f46 [] r h (by simp) hr (by simpa using hn)

theorem atx_facts (c : UInt8) (h : atx c.toNat true = true) (_h2 : c.toNat < 128) : wsp c.toNat = false ∧ ((c.toNat : Int) == 34) = false ∧ ((c.toNat : Int) == 91) = false ∧ c.toNat ≠ 60 ∧ c.toNat ≠ 40 ∧ c.toNat ≠ 58 ∧ c.toNat ≠ 64 := by
  have h3 := h
  unfold atx at h
  by_cases e : (c.toNat : Int) = 46
  · refine ⟨?_, ?_, ?_, ?_, ?_, ?_, ?_⟩
    · unfold wsp; exact decide_eq_false (by omega)
    all_goals first | (simp; omega) | omega
  · rw [if_neg e] at h
    by_cases s : spc c.toNat = true
    · rw [if_pos s] at h; exact absurd h (by simp)
    · rw [if_neg s] at h
      have s' : spc c.toNat = false := by simpa using s
      unfold spc at s'
      have s' := of_decide_eq_false s'
      unfold vch at h
      have h := of_decide_eq_true h
      refine ⟨?_, ?_, ?_, ?_, ?_, ?_, ?_⟩
      · unfold wsp; exact decide_eq_false (by omega)
      all_goals first | (simp; omega) | omega

theorem own3_new (w : World) (b : Nat) (s : ByteArray) (v : Value) :
    Own3 w.heap.size b s v (((w.alloc (.cells #[.pointer (some ⟨b, 0, none⟩)] 60)).alloc (.cells #[v] 43)).alloc (.cells #[.string s, .pointer none] 63)) := by
  refine ⟨?_, ?_, ?_⟩
  · rw [Below.heap_alloc _ _ _ (by simp; omega), Below.heap_alloc _ _ _ (by simp)]; exact heap_alloc_new w _
  · rw [Below.heap_alloc _ _ _ (by simp)]
    have := heap_alloc_new (w.alloc (.cells #[.pointer (some ⟨b, 0, none⟩)] 60)) (.cells #[v] 43)
    simpa using this
  · have := heap_alloc_new ((w.alloc (.cells #[.pointer (some ⟨b, 0, none⟩)] 60)).alloc (.cells #[v] 43)) (.cells #[.string s, .pointer none] 63)
    simpa using this
theorem grown3_new (w : World) (a b c : Obj) (row : Option Nat) : w.grownBy (((w.alloc a).alloc b).alloc c) row :=
  grownBy_of_below _ ((((Below.refl _ _).alloc (Nat.le_refl _) _).alloc (by simp) _).alloc (by simp; omega) _)
theorem grownBy_far {w w1 : World} {b : Nat} (h : w.grownBy w1 (some b)) {n : Nat} (hn : w.heap.size ≤ n) (o : Nat) (v : Value) : w.grownBy (w1.setCell ⟨n, o, none⟩ v) (some b) :=
  ⟨h.os, h.tape, h.output, by simpa [World.setCell] using h.size, fun k hk hr => by rw [Below.heap_setCell _ _ _ _ (by simp; omega)]; exact h.block k hk hr⟩

set_option maxHeartbeats 3200000 in
theorem f49a {b : Nat} {w : World} (c : UInt8) (a : List UInt8) (c2 : UInt8) (d r : List UInt8) (h : PAt b (mk (c :: (a ++ 64 :: (c2 :: (d ++ r))))) w)
    (hat : ∀ x ∈ c :: a, atx x.toNat true = true ∧ x.toNat < 128) (had : NoDots (c :: a))
    (hdt : ∀ x ∈ c2 :: d, atx x.toNat true = true ∧ x.toNat < 128) (hdd : NoDots (c2 :: d))
    (hr : ∀ x ∈ r.head?, atx x.toNat true = false ∧ x.toNat < 128) (hn : a.length + d.length + r.length ≤ 1073741824) :
    Calls Tryz.prog 49 #[.pointer (some ⟨b, 0, none⟩)] w fun e w' => e = .returned (.tuple #[.string (mk ((c :: a) ++ 64 :: (c2 :: d))), .nilIface]) ∧ PAt b (mk r) w' ∧ w.grownBy w' (some b) := by
  have hlt := h.lt
  have h0 := h.c0
  have h1 := h.c1
  have hmf : ∀ (fn : Fn) (first cap : Array Value) (w : World), (Instr.makeFunc fn first cap).run Tryz.prog w = .ok (.func fn first cap) w := fun _ _ _ _ => rfl
  have HP := Lib.hid h
  have HA := Lib.hid hat
  have HD := Lib.hid hdt
  have HAD := Lib.hid had
  have HDD := Lib.hid hdd
  have HR := Lib.hid hr
  have e64 : (64 : UInt8).toNat = 64 := rfl
  obtain ⟨w1c, q1c, -, -⟩ := atx_facts c (hat c (by simp)).1 (hat c (by simp)).2
  obtain ⟨w2c, -, q2c, -⟩ := atx_facts c2 (hdt c2 (by simp)).1 (hdt c2 (by simp)).2
  have l1 := (hat c (by simp)).2
  have l2 := (hdt c2 (by simp)).2
  clear h hat hdt had hdd hr
  go_enter_defers Tryz.func49, Tryz.ntmps49
  go_wp2_with fail
  obtain ⟨S, hS⟩ : ∃ S, S = mk (c :: (a ++ 64 :: (c2 :: (d ++ r)))) := ⟨_, rfl⟩
  have hO := own3_new w b S .nilIface
  have hP := HP.out.kept (grown3_new w (.cells #[.pointer (some ⟨b, 0, none⟩)] 60) (.cells #[.nilIface] 43) (.cells #[.string S, .pointer none] 63) none) (by simp)
  have hg := grown3_new w (.cells #[.pointer (some ⟨b, 0, none⟩)] 60) (.cells #[.nilIface] 43) (.cells #[.string S, .pointer none] 63) (some b)
  rw [← hS]
  generalize (((w.alloc (.cells #[.pointer (some ⟨b, 0, none⟩)] 60)).alloc (.cells #[.nilIface] 43)).alloc (.cells #[.string S, .pointer none] 63)) = W at *
  have hsz := hg.size
  clear hS h0 h1
  refine (f46_0 _ hP (by intro x hx; simp at hx; subst hx; exact ⟨w1c, l1⟩) (by simp; omega)).mono ?_
  rintro e w1 ⟨rfl, hP1, hg1⟩
  have hO1 := hO.kept hg1 hlt
  have G1 := grownBy_trans hg hg1
  clear hO hP hg hg1
  obtain ⟨f1, f2, f3, f4, f5⟩ := hO1.facts
  go_wp2_with fail
  refine (f36c hP1).mono ?_
  rintro e w' ⟨rfl, rfl⟩
  go_wp2_with fail
  refine (f48 hP1).mono ?_
  rintro e w' ⟨rfl, rfl⟩
  go_wp2_with fail
  refine (f66y (c :: a) (64 :: (c2 :: (d ++ r))) false hP1 (by simp) HA.out (by intro x hx; simp at hx; subst hx; exact ⟨by decide, by decide⟩) (by simp; omega) (.inr HAD.out)).mono ?_
  rintro e w2 ⟨rfl, hP2, hg2⟩
  have hO2 := hO1.kept hg2 hlt
  have G2 := grownBy_trans G1 hg2
  clear hO1 hP1 G1 hg2 f1 f2 f3 f4 f5
  obtain ⟨f1, f2, f3, f4, f5⟩ := hO2.facts
  go_wp2_with fail
  have hP3 := hP2.other (w.heap.size + 1) 0 (by omega) .nilIface
  have hO3 := hO2.put .nilIface
  have G3 := grownBy_far G2 (n := w.heap.size + 1) (by omega) 0 .nilIface
  generalize w2.setCell ⟨w.heap.size + 1, 0, none⟩ .nilIface = w3 at *
  clear hO2 hP2 G2 f1 f2 f3 f4 f5
  obtain ⟨f1, f2, f3, f4, f5⟩ := hO3.facts
  refine (f47y hP3 _ (by decide)).mono ?_
  rintro e w4 ⟨rfl, hP4, hg4⟩
  have hO4 := hO3.kept hg4 hlt
  have G4 := grownBy_trans G3 hg4
  clear hO3 hP3 G3 hg4 f1 f2 f3 f4 f5
  obtain ⟨f1, f2, f3, f4, f5⟩ := hO4.facts
  go_wp2_with fail
  refine (f46_0 _ hP4 (by intro x hx; simp at hx; subst hx; exact ⟨w2c, l2⟩) (by simp; omega)).mono ?_
  rintro e w5 ⟨rfl, hP5, hg5⟩
  have hO5 := hO4.kept hg5 hlt
  have G5 := grownBy_trans G4 hg5
  clear hO4 hP4 G4 hg5 f1 f2 f3 f4 f5
  obtain ⟨f1, f2, f3, f4, f5⟩ := hO5.facts
  go_wp2_with fail
  refine (f36c hP5).mono ?_
  rintro e w' ⟨rfl, rfl⟩
  go_wp2_with fail
  refine (f48 hP5).mono ?_
  rintro e w' ⟨rfl, rfl⟩
  go_wp2_with fail
  refine (f66y (c2 :: d) r false hP5 (by simp) HD.out HR.out (by simp; omega) (.inr HDD.out)).mono ?_
  rintro e w6 ⟨rfl, hP6, hg6⟩
  have hO6 := hO5.kept hg6 hlt
  have G6 := grownBy_trans G5 hg6
  clear hO5 hP5 G5 hg6 f1 f2 f3 f4 f5
  obtain ⟨f1, f2, f3, f4, f5⟩ := hO6.facts
  have z1 : (mk (c :: a)).size ≤ 1073741825 := by rw [mk_size]; simp; omega
  have z2 : (mk (c2 :: d)).size ≤ 1073741825 := by rw [mk_size]; simp; omega
  go_wp2_with fail
  have hP7 := (hP6.other (w.heap.size + 1) 0 (by omega) .nilIface).other (w.heap.size + 1) 0 (by omega) .nilIface
  have hO7 := (hO6.put .nilIface).put .nilIface
  have G7 := grownBy_far (grownBy_far G6 (n := w.heap.size + 1) (by omega) 0 .nilIface) (n := w.heap.size + 1) (by omega) 0 .nilIface
  generalize (w6.setCell ⟨w.heap.size + 1, 0, none⟩ .nilIface).setCell ⟨w.heap.size + 1, 0, none⟩ .nilIface = w7 at *
  clear hO6 hP6 G6 f1 f2 f3 f4 f5
  obtain ⟨f1, f2, f3, f4, f5⟩ := hO7.facts
  refine leaves_cons (f := 64) (args := #[.pointer (some ⟨w.heap.size + 1, 0, none⟩), .pointer (some ⟨w.heap.size + 1 + 1, 0, none⟩), .pointer (some ⟨w.heap.size, 0, none⟩)]) (by simp) (by simp [go_sem]) ?_
  refine (f64n _ _ _ .returning _ f2).mono ?_
  rintro e u' w'' ⟨rfl, rfl, rfl⟩
  refine ⟨.tuple #[.string (mk (c :: a) ++ ⟨#[64]⟩ ++ mk (c2 :: d)), .nilIface], by simp [results, Tryz.results49, go_sem, f2], ?_, hP7, G7⟩
  have e1 : mk (c :: a) ++ ⟨#[64]⟩ ++ mk (c2 :: d) = mk ((c :: a) ++ 64 :: (c2 :: d)) := by
    have : (⟨#[64]⟩ : ByteArray) = mk [64] := rfl
    rw [this, mk_append, mk_append]; simp
  rw [e1]; rfl
set_option maxHeartbeats 3200000 in
/-- consumeAddrSpec at an angle bracket: an error, the text as it was. -/
theorem f49lt {b : Nat} {w : World} (r : List UInt8) (h : PAt b (mk (60 :: r)) w) (hn : r.length ≤ 1073741824) :
    Calls Tryz.prog 49 #[.pointer (some ⟨b, 0, none⟩)] w fun e w' => (∃ v, IsErr v ∧ e = .returned (.tuple #[.string ⟨#[]⟩, v])) ∧ PAt b (mk (60 :: r)) w' ∧ w.grownBy w' (some b) := by
  have hlt := h.lt
  have h0 := h.c0
  have h1 := h.c1
  have hmf : ∀ (fn : Fn) (first cap : Array Value) (w : World), (Instr.makeFunc fn first cap).run Tryz.prog w = .ok (.func fn first cap) w := fun _ _ _ _ => rfl
  have HP := Lib.hid h
  clear h
  go_enter_defers Tryz.func49, Tryz.ntmps49
  go_wp2_with fail
  obtain ⟨S, hS⟩ : ∃ S, S = mk (60 :: r) := ⟨_, rfl⟩
  have hO := own3_new w b S .nilIface
  have hP := HP.out.kept (grown3_new w (.cells #[.pointer (some ⟨b, 0, none⟩)] 60) (.cells #[.nilIface] 43) (.cells #[.string S, .pointer none] 63) none) (by simp)
  have hg := grown3_new w (.cells #[.pointer (some ⟨b, 0, none⟩)] 60) (.cells #[.nilIface] 43) (.cells #[.string S, .pointer none] 63) (some b)
  rw [← hS]
  generalize (((w.alloc (.cells #[.pointer (some ⟨b, 0, none⟩)] 60)).alloc (.cells #[.nilIface] 43)).alloc (.cells #[.string S, .pointer none] 63)) = W at *
  have hsz := hg.size
  have HS := Lib.hid hS
  clear hS h0 h1
  refine (f46_0 _ hP (by intro x hx; simp at hx; subst hx; exact ⟨by decide, by decide⟩) (by simp; omega)).mono ?_
  rintro e w1 ⟨rfl, hP1, hg1⟩
  have hO1 := hO.kept hg1 hlt
  have G1 := grownBy_trans hg hg1
  clear hO hP hg hg1
  obtain ⟨f1, f2, f3, f4, f5⟩ := hO1.facts
  go_wp2_with fail
  refine (f36c hP1).mono ?_
  rintro e w' ⟨rfl, rfl⟩
  go_wp2_with fail
  refine (f48 hP1).mono ?_
  rintro e w' ⟨rfl, rfl⟩
  go_wp2_with fail
  refine (f66n 60 r false hP1 (by decide) (by decide)).mono ?_
  rintro e w2 ⟨⟨v, ⟨av, rfl⟩, rfl⟩, hP2, hg2⟩
  have hO2 := hO1.kept hg2 hlt
  have G2 := grownBy_trans G1 hg2
  clear hO1 hP1 G1 hg2 f1 f2 f3 f4 f5
  obtain ⟨f1, f2, f3, f4, f5⟩ := hO2.facts
  go_wp2_with fail
  go_region
  go_wp2
  have hP9 := (hP2.other (w.heap.size + 1) 0 (by omega) (.iface 90 (.pointer (some av)))).other (w.heap.size + 1) 0 (by omega) (.iface 90 (.pointer (some av)))
  have hO9 := (hO2.put (.iface 90 (.pointer (some av)))).put (.iface 90 (.pointer (some av)))
  have G9 := grownBy_far (grownBy_far G2 (n := w.heap.size + 1) (by omega) 0 (.iface 90 (.pointer (some av)))) (n := w.heap.size + 1) (by omega) 0 (.iface 90 (.pointer (some av)))
  clear hO2 hP2 G2 f1 f2 f3 f4 f5
  have hP10 : PAt b _ (((w2.setCell ⟨w.heap.size + 1, 0, none⟩ (.iface 90 (.pointer (some av)))).setCell ⟨w.heap.size + 1, 0, none⟩ (.iface 90 (.pointer (some av)))).drew) := hP9
  have hO10 : Own3 w.heap.size b S (.iface 90 (.pointer (some av))) (((w2.setCell ⟨w.heap.size + 1, 0, none⟩ (.iface 90 (.pointer (some av)))).setCell ⟨w.heap.size + 1, 0, none⟩ (.iface 90 (.pointer (some av)))).drew) := hO9
  have G10 := grownBy_drew G9
  clear hP9 hO9 G9
  generalize ((w2.setCell ⟨w.heap.size + 1, 0, none⟩ (.iface 90 (.pointer (some av)))).setCell ⟨w.heap.size + 1, 0, none⟩ (.iface 90 (.pointer (some av)))).drew = w10 at *
  obtain ⟨f1, f2, f3, f4, f5⟩ := hO10.facts
  refine leaves_cons (f := 64) (args := #[.pointer (some ⟨w.heap.size + 1, 0, none⟩), .pointer (some ⟨w.heap.size + 1 + 1, 0, none⟩), .pointer (some ⟨w.heap.size, 0, none⟩)]) (by simp) (by simp [go_sem]) ?_
  refine (f64e _ _ _ b S _ ⟨av, rfl⟩ .returning _ f2 f4 f5 f1 _ hP10).mono ?_
  rintro e u' w'' ⟨rfl, rfl, hPz, hgz⟩
  have hOz := hO10.kept hgz hlt
  obtain ⟨-, f2, -, -, -⟩ := hOz.facts
  exact ⟨.tuple #[.string ⟨#[]⟩, .iface 90 (.pointer (some av))], by simp [results, Tryz.results49, go_sem, f2], ⟨_, ⟨av, rfl⟩, rfl⟩, HS.out ▸ hPz, grownBy_trans G10 hgz⟩

set_option maxHeartbeats 3200000 in
/-- consumeAddrSpec at a text in quotes that no sign @ follows: an error, the text as it was. -/
theorem f49q {b : Nat} {w : World} (x : UInt8) (t : List UInt8) (c : UInt8) (r : List UInt8) (h : PAt b (mk (34 :: (esc (x :: t) ++ 34 :: c :: r))) w) (ht : ∀ c ∈ x :: t, okc c = true) (hc : c.toNat ≠ 64) (hn : (esc (x :: t)).length + r.length ≤ 1073741820) (hn2 : t.length ≤ 1073741820) :
    Calls Tryz.prog 49 #[.pointer (some ⟨b, 0, none⟩)] w fun e w' => (∃ v, IsErr v ∧ e = .returned (.tuple #[.string ⟨#[]⟩, v])) ∧ PAt b (mk (34 :: (esc (x :: t) ++ 34 :: c :: r))) w' ∧ w.grownBy w' (some b) := by
  have hlt := h.lt
  have h0 := h.c0
  have h1 := h.c1
  have hmf : ∀ (fn : Fn) (first cap : Array Value) (w : World), (Instr.makeFunc fn first cap).run Tryz.prog w = .ok (.func fn first cap) w := fun _ _ _ _ => rfl
  have HP := Lib.hid h
  have HT := Lib.hid ht
  have hne : (mk (x :: t)).toList.isEmpty = false := by rw [Lib.toList_data, mk_data]; rfl
  have hn2 : (x :: t).length ≤ 1073741824 := by simp; omega
  clear h ht
  go_enter_defers Tryz.func49, Tryz.ntmps49
  go_wp2_with fail
  obtain ⟨S, hS⟩ : ∃ S, S = mk (34 :: (esc (x :: t) ++ 34 :: c :: r)) := ⟨_, rfl⟩
  have hO := own3_new w b S .nilIface
  have hP := HP.out.kept (grown3_new w (.cells #[.pointer (some ⟨b, 0, none⟩)] 60) (.cells #[.nilIface] 43) (.cells #[.string S, .pointer none] 63) none) (by simp)
  have hg := grown3_new w (.cells #[.pointer (some ⟨b, 0, none⟩)] 60) (.cells #[.nilIface] 43) (.cells #[.string S, .pointer none] 63) (some b)
  rw [← hS]
  generalize (((w.alloc (.cells #[.pointer (some ⟨b, 0, none⟩)] 60)).alloc (.cells #[.nilIface] 43)).alloc (.cells #[.string S, .pointer none] 63)) = W at *
  have hsz := hg.size
  have HS := Lib.hid hS
  clear hS h0 h1
  refine (f46_0 _ hP (by intro x hx; simp at hx; subst hx; exact ⟨by decide, by decide⟩) (by simp; omega)).mono ?_
  rintro e w1 ⟨rfl, hP1, hg1⟩
  have hO1 := hO.kept hg1 hlt
  have G1 := grownBy_trans hg hg1
  clear hO hP hg hg1
  obtain ⟨f1, f2, f3, f4, f5⟩ := hO1.facts
  go_wp2_with fail
  refine (f36c hP1).mono ?_
  rintro e w' ⟨rfl, rfl⟩
  go_wp2_with fail
  refine (f48 hP1).mono ?_
  rintro e w' ⟨rfl, rfl⟩
  go_wp2_with fail
  refine (f65 (x :: t) (c :: r) hP1 HT.out (by simp; omega) hn2).mono ?_
  rintro e w2 ⟨rfl, hP2, hg2⟩
  have hO2 := hO1.kept hg2 hlt
  have G2 := grownBy_trans G1 hg2
  clear hO1 hP1 G1 hg2 f1 f2 f3 f4 f5
  obtain ⟨f1, f2, f3, f4, f5⟩ := hO2.facts
  go_wp2_with fail
  have hP3 := hP2.other (w.heap.size + 1) 0 (by omega) .nilIface
  have hO3 := hO2.put .nilIface
  have G3 := grownBy_far G2 (n := w.heap.size + 1) (by omega) 0 .nilIface
  generalize w2.setCell ⟨w.heap.size + 1, 0, none⟩ .nilIface = w3 at *
  clear hO2 hP2 G2 f1 f2 f3 f4 f5
  obtain ⟨f1, f2, f3, f4, f5⟩ := hO3.facts
  go_wp2_with fail
  refine (f47n hP3 _ (by omega)).mono ?_
  rintro e w' ⟨rfl, rfl⟩
  go_wp2_with fail
  refine (f35 _ _).mono ?_
  rintro e w4 ⟨⟨v, ⟨av, rfl⟩, rfl⟩, hb4⟩
  have hP4 := hP3.kept (grownBy_of_below none hb4) (by simp)
  have hO4 := hO3.kept (grownBy_of_below _ hb4) hlt
  have G4 := grownBy_trans G3 (grownBy_of_below _ hb4)
  clear hO3 hP3 G3 hb4 f1 f2 f3 f4 f5
  obtain ⟨f1, f2, f3, f4, f5⟩ := hO4.facts
  go_wp2_with fail
  have hP9 := hP4.other (w.heap.size + 1) 0 (by omega) (.iface 90 (.pointer (some av)))
  have hO9 := hO4.put (.iface 90 (.pointer (some av)))
  have G9 := grownBy_far G4 (n := w.heap.size + 1) (by omega) 0 (.iface 90 (.pointer (some av)))
  clear hO4 hP4 G4 f1 f2 f3 f4 f5
  generalize w4.setCell ⟨w.heap.size + 1, 0, none⟩ (.iface 90 (.pointer (some av))) = w10 at *
  obtain ⟨f1, f2, f3, f4, f5⟩ := hO9.facts
  refine leaves_cons (f := 64) (args := #[.pointer (some ⟨w.heap.size + 1, 0, none⟩), .pointer (some ⟨w.heap.size + 1 + 1, 0, none⟩), .pointer (some ⟨w.heap.size, 0, none⟩)]) (by simp) (by simp [go_sem]) ?_
  refine (f64e _ _ _ b S _ ⟨av, rfl⟩ .returning _ f2 f4 f5 f1 _ hP9).mono ?_
  rintro e u' w'' ⟨rfl, rfl, hPz, hgz⟩
  have hOz := hO9.kept hgz hlt
  obtain ⟨-, f2, -, -, -⟩ := hOz.facts
  exact ⟨.tuple #[.string ⟨#[]⟩, .iface 90 (.pointer (some av))], by simp [results, Tryz.results49, go_sem, f2], ⟨_, ⟨av, rfl⟩, rfl⟩, HS.out ▸ hPz, grownBy_trans G9 hgz⟩

set_option maxHeartbeats 3200000 in
/-- consumeAddrSpec at an atom that no sign @ follows: an error, the text as it was. -/
theorem f49w {b : Nat} {w : World} (c0 : UInt8) (a : List UInt8) (c : UInt8) (r : List UInt8) (h : PAt b (mk (c0 :: (a ++ c :: r))) w) (hat : ∀ x ∈ c0 :: a, atx x.toNat true = true ∧ x.toNat < 128) (had : NoDots (c0 :: a)) (hc : c.toNat ≠ 64) (hc2 : atx c.toNat true = false) (hc3 : c.toNat < 128) (hn : a.length + r.length ≤ 1073741820) :
    Calls Tryz.prog 49 #[.pointer (some ⟨b, 0, none⟩)] w fun e w' => (∃ v, IsErr v ∧ e = .returned (.tuple #[.string ⟨#[]⟩, v])) ∧ PAt b (mk (c0 :: (a ++ c :: r))) w' ∧ w.grownBy w' (some b) := by
  have hlt := h.lt
  have h0 := h.c0
  have h1 := h.c1
  have hmf : ∀ (fn : Fn) (first cap : Array Value) (w : World), (Instr.makeFunc fn first cap).run Tryz.prog w = .ok (.func fn first cap) w := fun _ _ _ _ => rfl
  have HP := Lib.hid h
  have HA := Lib.hid hat
  have HAD := Lib.hid had
  have HC2 := Lib.hid hc2
  obtain ⟨w1c, q1c, -, -⟩ := atx_facts c0 (hat c0 (by simp)).1 (hat c0 (by simp)).2
  have l1 := (hat c0 (by simp)).2
  clear h hat had hc2
  go_enter_defers Tryz.func49, Tryz.ntmps49
  go_wp2_with fail
  obtain ⟨S, hS⟩ : ∃ S, S = mk (c0 :: (a ++ c :: r)) := ⟨_, rfl⟩
  have hO := own3_new w b S .nilIface
  have hP := HP.out.kept (grown3_new w (.cells #[.pointer (some ⟨b, 0, none⟩)] 60) (.cells #[.nilIface] 43) (.cells #[.string S, .pointer none] 63) none) (by simp)
  have hg := grown3_new w (.cells #[.pointer (some ⟨b, 0, none⟩)] 60) (.cells #[.nilIface] 43) (.cells #[.string S, .pointer none] 63) (some b)
  rw [← hS]
  generalize (((w.alloc (.cells #[.pointer (some ⟨b, 0, none⟩)] 60)).alloc (.cells #[.nilIface] 43)).alloc (.cells #[.string S, .pointer none] 63)) = W at *
  have hsz := hg.size
  have HS := Lib.hid hS
  clear hS h0 h1
  refine (f46_0 _ hP (by intro x hx; simp at hx; subst hx; exact ⟨w1c, l1⟩) (by simp; omega)).mono ?_
  rintro e w1 ⟨rfl, hP1, hg1⟩
  have hO1 := hO.kept hg1 hlt
  have G1 := grownBy_trans hg hg1
  clear hO hP hg hg1
  obtain ⟨f1, f2, f3, f4, f5⟩ := hO1.facts
  go_wp2_with fail
  refine (f36c hP1).mono ?_
  rintro e w' ⟨rfl, rfl⟩
  go_wp2_with fail
  refine (f48 hP1).mono ?_
  rintro e w' ⟨rfl, rfl⟩
  go_wp2_with fail
  refine (f66y (c0 :: a) (c :: r) false hP1 (by simp) HA.out (by intro x hx; simp at hx; subst hx; exact ⟨HC2.out, hc3⟩) (by simp; omega) (.inr HAD.out)).mono ?_
  rintro e w2 ⟨rfl, hP2, hg2⟩
  have hO2 := hO1.kept hg2 hlt
  have G2 := grownBy_trans G1 hg2
  clear hO1 hP1 G1 hg2 f1 f2 f3 f4 f5
  obtain ⟨f1, f2, f3, f4, f5⟩ := hO2.facts
  go_wp2_with fail
  go_wp2_with fail
  have hP3 := hP2.other (w.heap.size + 1) 0 (by omega) .nilIface
  have hO3 := hO2.put .nilIface
  have G3 := grownBy_far G2 (n := w.heap.size + 1) (by omega) 0 .nilIface
  generalize w2.setCell ⟨w.heap.size + 1, 0, none⟩ .nilIface = w3 at *
  clear hO2 hP2 G2 f1 f2 f3 f4 f5
  obtain ⟨f1, f2, f3, f4, f5⟩ := hO3.facts
  refine (f47n hP3 _ (by omega)).mono ?_
  rintro e w' ⟨rfl, rfl⟩
  go_wp2_with fail
  refine (f35 _ _).mono ?_
  rintro e w4 ⟨⟨v, ⟨av, rfl⟩, rfl⟩, hb4⟩
  have hP4 := hP3.kept (grownBy_of_below none hb4) (by simp)
  have hO4 := hO3.kept (grownBy_of_below _ hb4) hlt
  have G4 := grownBy_trans G3 (grownBy_of_below _ hb4)
  clear hO3 hP3 G3 hb4 f1 f2 f3 f4 f5
  obtain ⟨f1, f2, f3, f4, f5⟩ := hO4.facts
  go_wp2_with fail
  have hP9 := hP4.other (w.heap.size + 1) 0 (by omega) (.iface 90 (.pointer (some av)))
  have hO9 := hO4.put (.iface 90 (.pointer (some av)))
  have G9 := grownBy_far G4 (n := w.heap.size + 1) (by omega) 0 (.iface 90 (.pointer (some av)))
  clear hO4 hP4 G4 f1 f2 f3 f4 f5
  generalize w4.setCell ⟨w.heap.size + 1, 0, none⟩ (.iface 90 (.pointer (some av))) = w10 at *
  obtain ⟨f1, f2, f3, f4, f5⟩ := hO9.facts
  refine leaves_cons (f := 64) (args := #[.pointer (some ⟨w.heap.size + 1, 0, none⟩), .pointer (some ⟨w.heap.size + 1 + 1, 0, none⟩), .pointer (some ⟨w.heap.size, 0, none⟩)]) (by simp) (by simp [go_sem]) ?_
  refine (f64e _ _ _ b S _ ⟨av, rfl⟩ .returning _ f2 f4 f5 f1 _ hP9).mono ?_
  rintro e u' w'' ⟨rfl, rfl, hPz, hgz⟩
  have hOz := hO9.kept hgz hlt
  obtain ⟨-, f2, -, -, -⟩ := hOz.facts
  exact ⟨.tuple #[.string ⟨#[]⟩, .iface 90 (.pointer (some av))], by simp [results, Tryz.results49, go_sem, f2], ⟨_, ⟨av, rfl⟩, rfl⟩, HS.out ▸ hPz, grownBy_trans G9 hgz⟩

set_option maxHeartbeats 3200000 in
/-- consumeAddrSpec takes an address with a text in quotes ahead of the sign @. -/
theorem f49s {b : Nat} {w : World} (x : UInt8) (t : List UInt8) (c2 : UInt8) (d r : List UInt8) (h : PAt b (mk (34 :: (esc (x :: t) ++ 34 :: (64 :: (c2 :: (d ++ r)))))) w) (ht : ∀ c ∈ x :: t, okc c = true)
    (hdt : ∀ x ∈ c2 :: d, atx x.toNat true = true ∧ x.toNat < 128) (hdd : NoDots (c2 :: d))
    (hr : ∀ x ∈ r.head?, atx x.toNat true = false ∧ x.toNat < 128) (hn : (esc (x :: t)).length + d.length + r.length ≤ 1073741820) (hn2 : t.length ≤ 1073741820) :
    Calls Tryz.prog 49 #[.pointer (some ⟨b, 0, none⟩)] w fun e w' => e = .returned (.tuple #[.string (mk ((x :: t) ++ 64 :: (c2 :: d))), .nilIface]) ∧ PAt b (mk r) w' ∧ w.grownBy w' (some b) := by
  have hlt := h.lt
  have h0 := h.c0
  have h1 := h.c1
  have hmf : ∀ (fn : Fn) (first cap : Array Value) (w : World), (Instr.makeFunc fn first cap).run Tryz.prog w = .ok (.func fn first cap) w := fun _ _ _ _ => rfl
  have HP := Lib.hid h
  have HT := Lib.hid ht
  have hne : (mk (x :: t)).toList.isEmpty = false := by rw [Lib.toList_data, mk_data]; rfl
  have hn3 : (x :: t).length ≤ 1073741824 := by simp; omega
  have HD := Lib.hid hdt
  have HDD := Lib.hid hdd
  have HR := Lib.hid hr
  obtain ⟨w2c, -, q2c, -⟩ := atx_facts c2 (hdt c2 (by simp)).1 (hdt c2 (by simp)).2
  have l2 := (hdt c2 (by simp)).2
  clear h ht hdt hdd hr
  go_enter_defers Tryz.func49, Tryz.ntmps49
  go_wp2_with fail
  obtain ⟨S, hS⟩ : ∃ S, S = mk (34 :: (esc (x :: t) ++ 34 :: (64 :: (c2 :: (d ++ r))))) := ⟨_, rfl⟩
  have hO := own3_new w b S .nilIface
  have hP := HP.out.kept (grown3_new w (.cells #[.pointer (some ⟨b, 0, none⟩)] 60) (.cells #[.nilIface] 43) (.cells #[.string S, .pointer none] 63) none) (by simp)
  have hg := grown3_new w (.cells #[.pointer (some ⟨b, 0, none⟩)] 60) (.cells #[.nilIface] 43) (.cells #[.string S, .pointer none] 63) (some b)
  rw [← hS]
  generalize (((w.alloc (.cells #[.pointer (some ⟨b, 0, none⟩)] 60)).alloc (.cells #[.nilIface] 43)).alloc (.cells #[.string S, .pointer none] 63)) = W at *
  have hsz := hg.size
  have HS := Lib.hid hS
  clear hS h0 h1
  refine (f46_0 _ hP (by intro x hx; simp at hx; subst hx; exact ⟨by decide, by decide⟩) (by simp; omega)).mono ?_
  rintro e w1 ⟨rfl, hP1, hg1⟩
  have hO1 := hO.kept hg1 hlt
  have G1 := grownBy_trans hg hg1
  clear hO hP hg hg1
  obtain ⟨f1, f2, f3, f4, f5⟩ := hO1.facts
  go_wp2_with fail
  refine (f36c hP1).mono ?_
  rintro e w' ⟨rfl, rfl⟩
  go_wp2_with fail
  refine (f48 hP1).mono ?_
  rintro e w' ⟨rfl, rfl⟩
  go_wp2_with fail
  refine (f65 (x :: t) (64 :: (c2 :: (d ++ r))) hP1 HT.out (by simp; omega) hn3).mono ?_
  rintro e w2 ⟨rfl, hP2, hg2⟩
  have hO2 := hO1.kept hg2 hlt
  have G2 := grownBy_trans G1 hg2
  clear hO1 hP1 G1 hg2 f1 f2 f3 f4 f5
  obtain ⟨f1, f2, f3, f4, f5⟩ := hO2.facts
  go_wp2_with fail
  have hP3 := hP2.other (w.heap.size + 1) 0 (by omega) .nilIface
  have hO3 := hO2.put .nilIface
  have G3 := grownBy_far G2 (n := w.heap.size + 1) (by omega) 0 .nilIface
  generalize w2.setCell ⟨w.heap.size + 1, 0, none⟩ .nilIface = w3 at *
  clear hO2 hP2 G2 f1 f2 f3 f4 f5
  obtain ⟨f1, f2, f3, f4, f5⟩ := hO3.facts
  go_wp2_with fail
  refine (f47y hP3 _ (by decide)).mono ?_
  rintro e w4 ⟨rfl, hP4, hg4⟩
  have hO4 := hO3.kept hg4 hlt
  have G4 := grownBy_trans G3 hg4
  clear hO3 hP3 G3 hg4 f1 f2 f3 f4 f5
  obtain ⟨f1, f2, f3, f4, f5⟩ := hO4.facts
  go_wp2_with fail
  refine (f46_0 _ hP4 (by intro x hx; simp at hx; subst hx; exact ⟨w2c, l2⟩) (by simp; omega)).mono ?_
  rintro e w5 ⟨rfl, hP5, hg5⟩
  have hO5 := hO4.kept hg5 hlt
  have G5 := grownBy_trans G4 hg5
  clear hO4 hP4 G4 hg5 f1 f2 f3 f4 f5
  obtain ⟨f1, f2, f3, f4, f5⟩ := hO5.facts
  go_wp2_with fail
  refine (f36c hP5).mono ?_
  rintro e w' ⟨rfl, rfl⟩
  go_wp2_with fail
  refine (f48 hP5).mono ?_
  rintro e w' ⟨rfl, rfl⟩
  go_wp2_with fail
  refine (f66y (c2 :: d) r false hP5 (by simp) HD.out HR.out (by simp; omega) (.inr HDD.out)).mono ?_
  rintro e w6 ⟨rfl, hP6, hg6⟩
  have hO6 := hO5.kept hg6 hlt
  have G6 := grownBy_trans G5 hg6
  clear hO5 hP5 G5 hg6 f1 f2 f3 f4 f5
  obtain ⟨f1, f2, f3, f4, f5⟩ := hO6.facts
  have z1 : (mk (x :: t)).size ≤ 1073741825 := by rw [mk_size]; simp; omega
  have z2 : (mk (c2 :: d)).size ≤ 1073741825 := by rw [mk_size]; simp; omega
  go_wp2_with fail
  have hP7 := (hP6.other (w.heap.size + 1) 0 (by omega) .nilIface).other (w.heap.size + 1) 0 (by omega) .nilIface
  have hO7 := (hO6.put .nilIface).put .nilIface
  have G7 := grownBy_far (grownBy_far G6 (n := w.heap.size + 1) (by omega) 0 .nilIface) (n := w.heap.size + 1) (by omega) 0 .nilIface
  generalize (w6.setCell ⟨w.heap.size + 1, 0, none⟩ .nilIface).setCell ⟨w.heap.size + 1, 0, none⟩ .nilIface = w7 at *
  clear hO6 hP6 G6 f1 f2 f3 f4 f5
  obtain ⟨f1, f2, f3, f4, f5⟩ := hO7.facts
  refine leaves_cons (f := 64) (args := #[.pointer (some ⟨w.heap.size + 1, 0, none⟩), .pointer (some ⟨w.heap.size + 1 + 1, 0, none⟩), .pointer (some ⟨w.heap.size, 0, none⟩)]) (by simp) (by simp [go_sem]) ?_
  refine (f64n _ _ _ .returning _ f2).mono ?_
  rintro e u' w'' ⟨rfl, rfl, rfl⟩
  refine ⟨.tuple #[.string (mk (x :: t) ++ ⟨#[64]⟩ ++ mk (c2 :: d)), .nilIface], by simp [results, Tryz.results49, go_sem, f2], ?_, hP7, G7⟩
  have e1 : mk (x :: t) ++ ⟨#[64]⟩ ++ mk (c2 :: d) = mk ((x :: t) ++ 64 :: (c2 :: d)) := by
    have : (⟨#[64]⟩ : ByteArray) = mk [64] := rfl
    rw [this, mk_append, mk_append]; simp
  rw [e1]; rfl
end Go.Proofs.YtbigjdlcmlopcaaGreatDoor
