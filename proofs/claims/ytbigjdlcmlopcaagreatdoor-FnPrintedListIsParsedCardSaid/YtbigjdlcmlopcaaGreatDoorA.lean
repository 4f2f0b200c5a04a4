import Derived.Test.YtbigjdlcmlopcaaGreatDoorProg
import Derived.WalkKit
import Derived.Handy
import Derived.BigQuiet
import Derived.Deep.QuietTactic
import Derived.WalkSpells
import Derived.WalkLawsBesides
import Derived.Lib.OthersKept
import Derived.Lib.Hide
import Derived.Laws.Strings2
namespace Go.Proofs.YtbigjdlcmlopcaaGreatDoor
open Go.RowKit

def vch (r : Int) : Bool := decide ((33 ≤ r ∧ r ≤ 126) ∨ 128 ≤ r)
def wsp (r : Int) : Bool := decide (r = 32 ∨ r = 9)
def spc (r : Int) : Bool := decide (r = 40 ∨ r = 41 ∨ r = 60 ∨ r = 62 ∨ r = 91 ∨ r = 93 ∨ r = 58 ∨ r = 59 ∨ r = 64 ∨ r = 92 ∨ r = 44 ∨ r = 34)
def atx (r : Int) (dot : Bool) : Bool := if r = 46 then dot else if spc r then false else vch r
def qtx (r : Int) : Bool := decide (r ≠ 92 ∧ r ≠ 34) && vch r

theorem ret_bool {a b : Bool} (h : a = b) : Ending.returned (.bool a) = .returned (.bool b) := by rw [h]

theorem f29 (r : Int) (w : World) : Calls Tryz.prog 29 #[.int .i32 r] w fun e w' => e = .returned (.bool (decide (128 ≤ r))) ∧ w = w' := by
  go_enter Tryz.func29, Tryz.ntmps29
  go_wp2
  go_ret
  simp

theorem f27 (r : Int) (w : World) : Calls Tryz.prog 27 #[.int .i32 r] w fun e w' => e = .returned (.bool (vch r)) ∧ w = w' := by
  go_enter Tryz.func27, Tryz.ntmps27
  go_wp2
  all_goals (go_ret; refine ⟨ret_bool ?_, rfl⟩; unfold vch; rw [Bool.eq_iff_iff]; simp; omega)

theorem f28 (r : Int) (w : World) : Calls Tryz.prog 28 #[.int .i32 r] w fun e w' => e = .returned (.bool (wsp r)) ∧ w = w' := by
  go_enter Tryz.func28, Tryz.ntmps28
  go_wp2
  all_goals (go_ret; refine ⟨ret_bool ?_, rfl⟩; unfold wsp; rw [Bool.eq_iff_iff]; simp_all)

theorem f40 (r : Int) (w : World) : Calls Tryz.prog 40 #[.int .i32 r] w fun e w' => e = .returned (.bool (qtx r)) ∧ w = w' := by
  go_enter Tryz.func40, Tryz.ntmps40
  go_wp2_with (go_at_call 27; refine (f27 r _).mono ?_; rintro e w' ⟨rfl, rfl⟩)
  all_goals (go_ret; refine ⟨ret_bool ?_, rfl⟩; simp_all [qtx])

theorem f25 (r : Int) (d : Bool) (w : World) : Calls Tryz.prog 25 #[.int .i32 r, .bool d] w fun e w' => e = .returned (.bool (atx r d)) ∧ w = w' := by
  go_enter Tryz.func25, Tryz.ntmps25
  go_wp2_with (go_at_call 27; refine (f27 r _).mono ?_; rintro e w' ⟨rfl, rfl⟩)
  all_goals (go_ret; refine ⟨ret_bool ?_, rfl⟩; simp_all [atx, spc])

/-- The parser's block: the text that is left, no decoder. -/
def PAt (b : Nat) (s : ByteArray) (w : World) : Prop := w.heap[b]? = some (.cells #[.string s, .pointer none] 63 (0, 0))
theorem PAt.c0 {b : Nat} {s : ByteArray} {w : World} (h : PAt b s w) : w.cell? ⟨b, 0, none⟩ = some (.string s) := by
  unfold PAt at h; simp [World.cell?, h]
theorem PAt.c1 {b : Nat} {s : ByteArray} {w : World} (h : PAt b s w) : w.cell? ⟨b, 1, none⟩ = some (.pointer none) := by
  unfold PAt at h; simp [World.cell?, h]
theorem PAt.f0 {b : Nat} {s : ByteArray} {w : World} (h : PAt b s w) : w.frozen? ⟨b, 0, none⟩ = false := by
  unfold PAt at h; simp [World.frozen?, h]
theorem PAt.lt {b : Nat} {s : ByteArray} {w : World} (h : PAt b s w) : b < w.heap.size := (Array.getElem?_eq_some_iff.1 h).1
theorem PAt.set {b : Nat} {s : ByteArray} {w : World} (h : PAt b s w) (t : ByteArray) : PAt b t (w.setCell ⟨b, 0, none⟩ (.string t)) := by
  unfold PAt at h ⊢
  simp [World.setCell, Array.getElem?_modify, h]
theorem PAt.kept {b : Nat} {s : ByteArray} {w w' : World} {row : Option Nat} (h : PAt b s w) (hg : w.grownBy w' row) (hr : row ≠ some b) : PAt b s w' := by
  unfold PAt at h ⊢
  rw [hg.block b (Array.getElem?_eq_some_iff.1 h).1 (Ne.symm hr)]; exact h

theorem grownBy_set {b : Nat} (w : World) (o : Nat) (v : Value) : w.grownBy (w.setCell ⟨b, o, none⟩ v) (some b) :=
  ⟨rfl, rfl, rfl, by simp [World.setCell], fun k _ hk => Below.heap_setCell _ _ _ _ (fun e => hk (by simp [e]))⟩
theorem grownBy_refl (w : World) (row : Option Nat) : w.grownBy w row := ⟨rfl, rfl, rfl, Nat.le_refl _, fun _ _ _ => rfl⟩
theorem grownBy_trans {a b c : World} {row : Option Nat} (h : a.grownBy b row) (k : b.grownBy c row) : a.grownBy c row :=
  ⟨k.os.trans h.os, k.tape.trans h.tape, k.output.trans h.output, Nat.le_trans h.size k.size, fun i hi hr => (k.block i (Nat.lt_of_lt_of_le hi h.size) hr).trans (h.block i hi hr)⟩
theorem grownBy_of_below {a b : World} (row : Option Nat) (h : Below a.heap.size a b) : a.grownBy b row := ⟨h.os, h.tape, h.output, h.size, fun k hk _ => h.block k hk⟩
theorem below_of_grownBy {a b : World} {row : Option Nat} {B : Nat} (h : a.grownBy b row) (hB : B ≤ a.heap.size) (hr : ∀ k, row = some k → B ≤ k) : Below B a b :=
  (Below.refl _ _).grown h hB hr


/-- A text out of its bytes. -/
def mk (l : List UInt8) : ByteArray := ⟨l.toArray⟩
theorem mk_size (l : List UInt8) : (mk l).size = l.length := by simp [mk, ByteArray.size]
theorem mk_data (l : List UInt8) : (mk l).data.toList = l := by simp [mk]
theorem mk_get (l : List UInt8) (i : Nat) (h : i < (mk l).size) : (mk l)[i] = l[i]'(by rw [← mk_size l]; exact h) := by
  simp [mk, ByteArray.getElem_eq_getElem_data]
theorem mk_extract (l : List UInt8) (a b : Nat) : (mk l).extract a b = mk ((l.drop a).take (b - a)) := ByteArray.extract_mk l a b
theorem mk_tail (l : List UInt8) (a : Nat) : (mk l).extract a (mk l).size = mk (l.drop a) := by
  rw [mk_extract, mk_size, List.take_of_length_le (by simp)]
theorem mk_of (s : ByteArray) : mk s.data.toList = s := by simp [mk]

theorem f54 {b : Nat} {s : ByteArray} {w : World} (h : PAt b s w) : Calls Tryz.prog 54 #[.pointer (some ⟨b, 0, none⟩)] w fun e w' => e = .returned (.int .i64 s.size) ∧ w = w' := by
  have h0 := h.c0
  clear h
  go_enter Tryz.func54, Tryz.ntmps54
  go_wp2
  go_ret
  simp
theorem f36e {b : Nat} {w : World} (h : PAt b (mk []) w) : Calls Tryz.prog 36 #[.pointer (some ⟨b, 0, none⟩)] w fun e w' => e = .returned (.bool true) ∧ w = w' := by
  go_enter Tryz.func36, Tryz.ntmps36
  go_wp2_with (go_at_call 54; refine (f54 h).mono ?_; rintro e w' ⟨rfl, rfl⟩; rw [mk_size])
  go_ret
  exact ⟨rfl, rfl⟩
theorem f36c {b : Nat} {c : UInt8} {l : List UInt8} {w : World} (h : PAt b (mk (c :: l)) w) : Calls Tryz.prog 36 #[.pointer (some ⟨b, 0, none⟩)] w fun e w' => e = .returned (.bool false) ∧ w = w' := by
  have hb : ((((c :: l).length : Nat) : Int) == 0) = false := by simp; omega
  go_enter Tryz.func36, Tryz.ntmps36
  go_wp2_with (go_at_call 54; refine (f54 h).mono ?_; rintro e w' ⟨rfl, rfl⟩; rw [mk_size])
  go_ret
  exact ⟨by simpa using hb, rfl⟩
theorem f48 {b : Nat} {c : UInt8} {l : List UInt8} {w : World} (h : PAt b (mk (c :: l)) w) : Calls Tryz.prog 48 #[.pointer (some ⟨b, 0, none⟩)] w fun e w' => e = .returned (.int .u8 c.toNat) ∧ w = w' := by
  have h0 := h.c0
  obtain ⟨s, hs⟩ : ∃ s, s = mk (c :: l) := ⟨_, rfl⟩
  have h1 : 0 < s.size := by rw [hs, mk_size]; simp
  have h2 : s[0] = c := by subst hs; rw [mk_get]; rfl
  rw [← hs] at h0
  have H2 := Lib.hid h2
  clear h hs h2
  go_enter Tryz.func48, Tryz.ntmps48
  go_wp2
  go_ret
  simp [H2.out]

theorem f47y {b : Nat} {c : UInt8} {l : List UInt8} {w : World} (h : PAt b (mk (c :: l)) w) (d : Int) (hd : (c.toNat : Int) = d) : Calls Tryz.prog 47 #[.pointer (some ⟨b, 0, none⟩), .int .u8 d] w fun e w' => e = .returned (.bool true) ∧ PAt b (mk l) w' ∧ w.grownBy w' (some b) := by
  have h0 := h.c0
  have hf := h.f0
  have h1 : 1 ≤ (mk (c :: l)).size := by rw [mk_size]; simp
  have hn : ((c.toNat : Int) != d) = false := by simp [hd]
  have ht := Lib.hid (mk_tail (c :: l) 1)
  clear hd
  go_enter Tryz.func47, Tryz.ntmps47
  go_wp2_with (first | (go_at_call 36; refine (f36c h).mono ?_; rintro e w' ⟨rfl, rfl⟩) | (go_at_call 48; refine (f48 h).mono ?_; rintro e w' ⟨rfl, rfl⟩))
  go_ret
  rw [ht.out]
  exact ⟨rfl, h.set _, grownBy_set _ _ _⟩
theorem f47e {b : Nat} {w : World} (h : PAt b (mk []) w) (d : Int) : Calls Tryz.prog 47 #[.pointer (some ⟨b, 0, none⟩), .int .u8 d] w fun e w' => e = .returned (.bool false) ∧ w = w' := by
  go_enter Tryz.func47, Tryz.ntmps47
  go_wp2_with (first | (go_at_call 36; refine (f36e h).mono ?_; rintro e w' ⟨rfl, rfl⟩))
  go_ret
  exact ⟨rfl, rfl⟩
theorem f47n {b : Nat} {c : UInt8} {l : List UInt8} {w : World} (h : PAt b (mk (c :: l)) w) (d : Int) (hd : (c.toNat : Int) ≠ d) : Calls Tryz.prog 47 #[.pointer (some ⟨b, 0, none⟩), .int .u8 d] w fun e w' => e = .returned (.bool false) ∧ w = w' := by
  have hn : ((c.toNat : Int) != d) = true := by simp [hd]
  clear hd
  go_enter Tryz.func47, Tryz.ntmps47
  go_wp2_with (first | (go_at_call 36; refine (f36c h).mono ?_; rintro e w' ⟨rfl, rfl⟩) | (go_at_call 48; refine (f48 h).mono ?_; rintro e w' ⟨rfl, rfl⟩))
  go_ret
  exact ⟨rfl, rfl⟩

/-- zzInSet over blank and tab. -/
theorem f85 (r : Int) (w : World) : Calls Tryz.prog 85 #[.int .i32 r, .string ⟨#[32, 9]⟩] w fun e w' => e = .returned (.bool (wsp r)) ∧ Below w.heap.size w w' := by
  have n0 : ∀ ty, (Instr.next (.pointer (some ⟨w.heap.size, 0, none⟩)) true ty).run Tryz.prog (w.iter ⟨#[32, 9]⟩ 0) = .ok (.tuple #[.bool true, .int .i64 0, .int .i32 32]) (w.iter ⟨#[32, 9]⟩ 1) := fun ty => run_next_ascii w ⟨#[32, 9]⟩ 0 ty (by decide) (by decide)
  have n1 : ∀ ty, (Instr.next (.pointer (some ⟨w.heap.size, 0, none⟩)) true ty).run Tryz.prog (w.iter ⟨#[32, 9]⟩ 1) = .ok (.tuple #[.bool true, .int .i64 1, .int .i32 9]) (w.iter ⟨#[32, 9]⟩ 2) := fun ty => run_next_ascii w ⟨#[32, 9]⟩ 1 ty (by decide) (by decide)
  have n2 : ∀ ty, (Instr.next (.pointer (some ⟨w.heap.size, 0, none⟩)) true ty).run Tryz.prog (w.iter ⟨#[32, 9]⟩ 2) = .ok (.tuple #[.bool false]) (w.iter ⟨#[32, 9]⟩ 2) := fun ty => run_next_end w ⟨#[32, 9]⟩ 2 ty (by decide)
  have hb : ∀ p, Below w.heap.size w (w.iter ⟨#[32, 9]⟩ p) := fun p => (Below.refl _ _).alloc (Nat.le_refl _) _
  go_enter Tryz.func85, Tryz.ntmps85
  go_wp2
  refine wp_loop_rounds 3 ?_
  rw [rounds_succ]
  go_wp2
  · go_ret; refine ⟨ret_bool ?_, hb _⟩; unfold wsp; simp_all
  rw [rounds_succ]
  go_wp2
  · go_ret; refine ⟨ret_bool ?_, hb _⟩; unfold wsp; simp_all
  rw [rounds_succ]
  go_wp2
  go_ret; refine ⟨ret_bool ?_, hb _⟩; unfold wsp; simp_all
end Go.Proofs.YtbigjdlcmlopcaaGreatDoor
