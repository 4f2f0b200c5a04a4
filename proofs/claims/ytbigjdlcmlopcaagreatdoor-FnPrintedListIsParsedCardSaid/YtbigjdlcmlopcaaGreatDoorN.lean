import Derived.Test.YtbigjdlcmlopcaaGreatDoorM
import Derived.Lib.LazyBuf
namespace Go.Proofs.YtbigjdlcmlopcaaGreatDoor
open Go.RowKit

/-- Block g alone is changed. -/
structure Upd (g : Nat) (w w' : World) : Prop where
  other : ∀ k, k ≠ g → w'.heap[k]? = w.heap[k]?
  size : w'.heap.size = w.heap.size
  os : w'.os = w.os
  tape : w'.tape = w.tape
  output : w'.output = w.output
theorem Upd.refl (g : Nat) (w : World) : Upd g w w := ⟨fun _ _ => rfl, rfl, rfl, rfl, rfl⟩
theorem Upd.trans {g : Nat} {a b c : World} (h : Upd g a b) (k : Upd g b c) : Upd g a c := ⟨fun i hi => (k.other i hi).trans (h.other i hi), k.size.trans h.size, k.os.trans h.os, k.tape.trans h.tape, k.output.trans h.output⟩
theorem Upd.setCell {g : Nat} {a w : World} (h : Upd g a w) (p : Addr) (hp : p.block = g) (v : Value) : Upd g a (w.setCell p v) :=
  ⟨fun k hk => by rw [Below.heap_setCell _ _ _ _ (fun e => hk (by rw [e, hp]))]; exact h.other k hk, by rw [← h.size]; simp [World.setCell], h.os, h.tape, h.output⟩
theorem Upd.drew {g : Nat} {a w : World} (h : Upd g a w) : Upd g a w.drew := ⟨h.other, h.size, h.os, h.tape, h.output⟩
theorem Upd.setCells {g : Nat} {a : World} : ∀ (vs : List Value) (o : Nat) {w : World}, Upd g a w → Upd g a (w.setCells g o vs)
  | [], _, _, h => h
  | v :: r, o, _, h => Upd.setCells r (o + 1) (h.setCell ⟨g, o, none⟩ rfl v)
theorem Upd.below {g B : Nat} {a w : World} (h : Upd g a w) (hB : B ≤ g) : Below B a w := ⟨h.os, h.tape, h.output, by rw [h.size]; exact Nat.le_refl _, fun k hk => h.other k (by omega)⟩
theorem Upd.row {g b : Nat} {a w : World} (h : Upd g a w) (hb : b ≠ g) {t : TypeId} {n : Nat} {f : Nat → Value} (hr : a.rowIs b t n f) : w.rowIs b t n f := hr.of_block (h.other b hb)

/-- copy(dst, s), s a string. -/
theorem wpList_copy_str {P : Program} {w : World} {ops : Array Oper} {rest : List Oper} {o : Oper} {a : Act} {Q : Exit → Act → World → Prop} (hgd : o.guard = none) (d x : Operand) (dT sT : TypeId)
    (ho : o.op = .call { callee := .builtin .copy, args := #[d, x], argTypes := #[dT, sT] }) (elem : TypeId) (hu : P.underlying dT = some (.slice elem)) (hz : ∀ w, (Go.sizeOf elem).run P w = .ok 1 w)
    (b off dLen dCap : Nat) (hd : a.eval d = .slice (some ⟨b, off, none⟩) dLen dCap) (t : ByteArray) (hx : a.eval x = .string t) (l : List UInt8) (hl : t.data.toList = l) (ty : TypeId) (n : Nat) (f : Nat → Value) (hle : l.length ≤ dLen)
    (hr : w.rowIs b ty n f) (hn : off + l.length ≤ n)
    (h : ∀ w', w'.rowIs b ty n (fun j => if off ≤ j ∧ j < off + l.length then .int .u8 ((l[j - off]?.getD 0).toNat : Int) else f j) → Upd b w w' → wpList P ops Q rest (a.put o.dst (.int .i64 (l.length : Int))) w') : wpList P ops Q (o :: rest) a w := by
  refine wpList_plain hgd fun K hK => ?_
  have hs : t.size = l.length := by rw [Lib.size_eq, hl]
  have hrun := run_copy_string (P := P) w dT sT o.type elem b off dLen dCap t hu hz (by omega) (fun j hj => by rw [hr.cell (by omega)]; rfl) (fun j _ => hr.frozen _)
  have hK2 := hK _ _ (h _ ((rowIs_setCells (l.map fun x => Value.int .u8 (x.toNat : Int)) off w f hr).congr (fun i hi => by
    simp only [List.length_map]
    by_cases h1 : off ≤ i ∧ i < off + l.length
    · rw [if_pos h1, if_pos h1, List.getElem?_map, List.getElem?_eq_getElem (by omega)]; rfl
    · rw [if_neg h1, if_neg h1])) (Upd.setCells _ off (Upd.refl b w)))
  rw [hl, hs] at hrun
  unfold Oper.wp execOp
  simp only [ho, resolve, invoke, builtin, Sem.run_bind, Sem.run_pure, Result.andThen_ok, List.map_toArray, List.map_cons, List.map_nil, hd, hx, hrun]
  exact hK2

def alph : List UInt8 := [65, 66, 67, 68, 69, 70, 71, 72, 73, 74, 75, 76, 77, 78, 79, 80, 81, 82, 83, 84, 85, 86, 87, 88, 89, 90, 97, 98, 99, 100, 101, 102, 103, 104, 105, 106, 107, 108, 109, 110, 111, 112, 113, 114, 115, 116, 117, 118, 119, 120, 121, 122, 48, 49, 50, 51, 52, 53, 54, 55, 56, 57, 43, 47]
def aidx (j : Nat) : Nat := alph.findIdx (fun c => c.toNat == j)
def encF (i k : Nat) : Value := if k < 64 then .int .u8 ((alph[k]?.getD 0).toNat : Int) else if k < 320 then .int .u8 ((if aidx (k - 64) < i then aidx (k - 64) else 255 : Nat) : Int) else if k = 320 then .int .i32 61 else .bool false
def EncAt (c : Nat) (w : World) : Prop := w.rowIs c 147 322 (encF 64)
theorem alph_lo : ∀ i : Fin 64, 43 ≤ (alph[i.1]'(by have := i.2; simp [alph])).toNat ∧ (alph[i.1]'(by have := i.2; simp [alph])).toNat ≤ 122 ∧ aidx (alph[i.1]'(by have := i.2; simp [alph])).toNat = i.1 := by decide

theorem encF_set (k x i : Nat) (hx : 43 ≤ x ∧ x ≤ 122 ∧ aidx x = k) (hd : ∀ j, j < 256 → j ≠ x → aidx j ≠ k) : (if i = 64 + x then .int .u8 (k : Int) else encF k i) = encF (k + 1) i := by
  unfold encF
  by_cases h1 : i < 64
  · rw [if_neg (by omega), if_pos h1, if_pos h1]
  · rw [if_neg h1, if_neg h1]
    by_cases h2 : i < 320
    · rw [if_pos h2, if_pos h2]
      by_cases h3 : i = 64 + x
      · subst h3
        rw [if_pos rfl, Nat.add_sub_cancel_left, hx.2.2, if_pos (by omega)]
      · rw [if_neg h3]
        have := hd (i - 64) (by omega) (by omega)
        by_cases h4 : aidx (i - 64) < k
        · rw [if_pos h4, if_pos (by omega)]
        · rw [if_neg h4, if_neg (by omega)]
    · rw [if_neg (by omega), if_neg h2, if_neg h2]
set_option maxRecDepth 100000 in
theorem aidx_inj : ∀ j : Fin 256, aidx j.1 < 64 → (alph[aidx j.1]?.getD 0).toNat = j.1 := by decide

set_option maxRecDepth 100000 in
set_option maxHeartbeats 3200000 in
theorem f97 (w : World) : Calls Tryz.prog 97 #[.string (mk alph)] w fun e w' => ∃ b, e = .returned (.pointer (some ⟨b, 0, none⟩)) ∧ w.heap.size ≤ b ∧ EncAt b w' ∧ Below w.heap.size w w' := by
  generalize hs : mk alph = s
  have hz : s.size = 64 := by rw [← hs]; rfl
  have HS := Lib.hid hs
  clear hs
  obtain ⟨B, hB⟩ : ∃ B, w.heap.size = B := ⟨_, rfl⟩
  rw [hB]
  have hr : (w.alloc (Obj.cells (Tryz.zeroCells147.setIfInBounds 320 (Value.int IntKind.i32 61)) 147)).rowIs B 147 322 (fun i => (Tryz.zeroCells147.setIfInBounds 320 (Value.int IntKind.i32 61))[i]?.getD default) := by
    have := World.rowIs_alloc w (Tryz.zeroCells147.setIfInBounds 320 (Value.int IntKind.i32 61)) 147 (fun i => (Tryz.zeroCells147.setIfInBounds 320 (Value.int IntKind.i32 61))[i]?.getD default) (fun i hi => by rw [Array.getElem?_eq_getElem hi]; rfl)
    rw [hB] at this; exact this
  have hb : Below B w (w.alloc (Obj.cells (Tryz.zeroCells147.setIfInBounds 320 (Value.int IntKind.i32 61)) 147)) := (Below.refl _ _).alloc (by omega) _
  go_enter Tryz.func97, Tryz.ntmps97
  go_wp2_with (with_reducible refine wpList_copy_str rfl _ _ _ _ rfl 5 Tryz.underlying74 Tryz.sizeOf5 B 0 64 64 rfl s rfl alph (by rw [← HS.out, mk_data]) 147 322 _ (by decide) hr (by decide) ?_)
  intro W hr2 hu
  have hb2 := hb.trans (hu.below (Nat.le_refl _))
  clear hr hb hu
  obtain ⟨L, hL⟩ : ∃ L : List UInt8, L = List.replicate 256 255 := ⟨_, rfl⟩
  have hLl : L.length = 256 := by rw [hL]; rfl
  have HL := Lib.hid hL
  clear hL
  go_wp2_with (refine wpList_copy_str rfl _ _ _ _ rfl 5 Tryz.underlying74 Tryz.sizeOf5 B 64 256 256 rfl _ rfl L (by rw [HL.out]; rfl) 147 322 _ (Nat.le_of_eq hLl) hr2 (by rw [hLl]; decide) ?_)
  intro W2 hr3 hu
  have hb3 := hb2.trans (hu.below (Nat.le_refl _))
  have hr4 : W2.rowIs B 147 322 (encF 0) := by
    refine hr3.congr (fun i hi => ?_)
    have hl2 : alph.length = 64 := rfl
    have hz1 : (Tryz.zeroCells147.setIfInBounds 320 (Value.int IntKind.i32 61))[320]? = some (.int .i32 61) := by rfl
    have hz2 : (Tryz.zeroCells147.setIfInBounds 320 (Value.int IntKind.i32 61))[321]? = some (.bool false) := by rfl
    simp only [hl2, encF]
    by_cases h1 : i < 64
    · rw [if_neg (by omega), if_pos h1, if_pos h1]
    · by_cases h2 : i < 320
      · rw [if_pos (by omega), if_neg h1, if_pos h2, if_neg (by omega), HL.out, List.getElem?_replicate_of_lt (by omega)]; rfl
      · rw [if_neg (by omega), if_neg h1, if_neg h1, if_neg h2]
        obtain rfl | rfl : i = 320 ∨ i = 321 := by omega
        · rw [hz1]; rfl
        · rw [hz2]; rfl
  clear hr2 hb2 hr3 hu
  go_wp2_with fail
  go_loopw [4] (fun i wr => ∃ k : Nat, k ≤ 64 ∧ i = .int .i64 k ∧ wr.rowIs B 147 322 (encF k) ∧ Below B w wr) (fun i _ => 64 - (intOf i).toNat)
  case atStart => exact ⟨0, by omega, rfl, hr4, hb3⟩
  case round =>
    clear hr4 hb3
    obtain ⟨k, hk, rfl, hr, hb⟩ := hrel
    by_cases hlt : k < 64
    · have hp : k < s.size := by omega
      have hx2 : 43 ≤ s[k].toNat ∧ s[k].toNat ≤ 122 ∧ aidx s[k].toNat = k := by
        have := alph_lo ⟨k, hlt⟩
        have e : s[k]'hp = alph[k]'(by simp [alph]; omega) := by have h := HS.out; subst h; rw [mk_get]
        rw [e]; exact this
      have hc1 : wr.cell? ⟨B, 64 + s[k].toNat, none⟩ = some (.int .u8 255) := by
        rw [hr.cell (by omega)]
        congr 1
        unfold encF
        rw [if_neg (by omega), if_pos (by omega), Nat.add_sub_cancel_left, hx2.2.2, if_neg (by omega)]; rfl
      have hf1 := hr.frozen (64 + s[k].toNat)
      have b1 : ((s[k].toNat : Int) == 10) = false := by simp; omega
      have b2 : ((s[k].toNat : Int) == 13) = false := by simp; omega
      have hxx : 0 ≤ (s[k].toNat : Int) := by omega
      have hxx2 : (s[k].toNat : Int) < 256 := by omega
      have HX := Lib.hid hx2
      clear hx2
      go_wp2_with fail
      go_region
      go_wp2_with fail
      go_region
      have hr1 := hr.set (64 + s[k].toNat) (.int .u8 k)
      have hb1 := hb.setCell (p := ⟨B, 64 + s[k].toNat, none⟩) (Nat.le_refl _) (.int .u8 k)
      go_wp2_with fail
      go_roundw
      case rel => 
        refine ⟨k + 1, by omega, by go_num, ?_, hb1.drew.drew⟩
        refine hr1.congr (fun i hi => ?_)
        exact encF_set k _ i HX.out (fun j hj hne e => by
          have h1 := aidx_inj ⟨j, hj⟩ (by simp only; omega)
          simp only [e] at h1
          have h2 : s[k] = alph[k]'(by simp [alph]; omega) := by have h := HS.out; subst h; rw [mk_get]
          rw [List.getElem?_eq_getElem (by simp [alph]; omega)] at h1
          apply hne
          rw [h2, ← h1]; rfl)
      case measure => simp [intOf]; omega
    · obtain rfl : k = 64 := by omega
      go_wp2
      go_ret
      exact ⟨B, rfl, Nat.le_refl _, hr, hb⟩

theorem f79 (w : World) : Calls Tryz.prog 79 #[] w fun e w' => ∃ b, e = .returned (.pointer (some ⟨b, 0, none⟩)) ∧ w.heap.size ≤ b ∧ EncAt b w' ∧ Below w.heap.size w w' := by
  go_enter Tryz.func79, Tryz.ntmps79
  go_wp2_with fail
  refine (f97 w).mono ?_
  rintro e w' ⟨b, rfl, h1, h2, h3⟩
  go_wp2
  go_ret
  exact ⟨b, rfl, h1, h2, h3⟩

theorem EncAt.below {c : Nat} {w w' : World} {B : Nat} (h : EncAt c w) (hb : Below B w w') (hB : c < B) : EncAt c w' := World.rowIs.of_block h (hb.block c hB)
theorem EncAt.pad {c : Nat} {w : World} (h : EncAt c w) : w.cell? ⟨c, 320, none⟩ = some (.int .i32 61) := World.rowIs.cell h (by omega)

/-- EncodedLen. -/
theorem f81 {w : World} (c n : Nat) (h : EncAt c w) (hn : n ≤ 1073741820) : Calls Tryz.prog 81 #[.pointer (some ⟨c, 0, none⟩), .int .i64 n] w fun e w' => e = .returned (.int .i64 ((n + 2) / 3 * 4 : Nat)) ∧ w = w' := by
  have hp := h.pad
  go_enter Tryz.func81, Tryz.ntmps81
  go_wp2
  go_ret
  exact ⟨by first | rfl | (congr 1; simp), rfl⟩
end Go.Proofs.YtbigjdlcmlopcaaGreatDoor
