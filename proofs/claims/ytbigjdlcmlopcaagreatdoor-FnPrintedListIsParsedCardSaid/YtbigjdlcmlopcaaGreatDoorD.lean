import Derived.Test.YtbigjdlcmlopcaaGreatDoorC
import Derived.Test.YtbigjdlcmlopcaaGreatDoorShelf
import Derived.Test.YtbigjdlcmlopcaaGreatDoorShelfB
import Derived.Deep.DeepCutAuto
import Derived.Deep.LoopGhost
namespace Go.Proofs.YtbigjdlcmlopcaaGreatDoor
open Go.RowKit

theorem grownBy_drew {a b : World} {row : Option Nat} (h : a.grownBy b row) : a.grownBy b.drew row := ⟨h.os, h.tape, h.output, h.size, h.block⟩
theorem ext_get (s : ByteArray) (i : Nat) (h : i < s.size) (h' : 0 < (s.extract i s.size).size) : (s.extract i s.size)[0] = s[i] := by
  simp [ByteArray.getElem_eq_getElem_data]
theorem ext_size (s : ByteArray) (i : Nat) : (s.extract i s.size).size = s.size - i := by simp

/-- No dot at either end, no two dots together. -/
def NoDots (a : List UInt8) : Prop := a.head? ≠ some 46 ∧ a.getLast? ≠ some 46 ∧ ∀ i : Nat, ¬ (a[i]? = some 46 ∧ a[i + 1]? = some 46)

theorem ret_strnil {a b : ByteArray} (h : a = b) : Ending.returned (.tuple #[.string a, .nilIface]) = .returned (.tuple #[.string b, .nilIface]) := by rw [h]

theorem f86n (a : List UInt8) (h : a.head? ≠ some 46) (w : World) : Calls Tryz.prog 86 #[.string (mk a), .string ⟨#[46]⟩] w fun e w' => e = .returned (.bool false) ∧ w = w' := by
  refine (Tryz.strings_HasPrefix (mk a) ⟨#[46]⟩ w).mono ?_
  rintro e w' ⟨rfl, rfl⟩
  refine ⟨ret_bool ?_, rfl⟩
  rw [mk_data]
  cases a with
  | nil => rfl
  | cons c l =>
    have hc : c ≠ 46 := by simpa using h
    show ((46 == c) && true) = false
    simp
    intro e
    exact hc e.symm

theorem f88n (a : List UInt8) (h : a.getLast? ≠ some 46) (hn : a.length ≤ 140737488351232) (w : World) : Calls Tryz.prog 88 #[.string (mk a), .string ⟨#[46]⟩] w fun e w' => e = .returned (.bool false) ∧ w = w' := by
  refine (Tryz.strings_HasSuffix (mk a) ⟨#[46]⟩ w (by rw [mk_size]; omega)).mono ?_
  rintro e w' ⟨rfl, rfl⟩
  refine ⟨ret_bool ?_, rfl⟩
  rw [mk_data]
  unfold Lib.hasSuffix
  rw [Bool.eq_false_iff]
  intro hs
  rw [List.isSuffixOf_iff_suffix] at hs
  obtain ⟨t, rfl⟩ := hs
  exact h (by simp)

theorem f87d (a : List UInt8) (h : ∀ i : Nat, ¬ (a[i]? = some 46 ∧ a[i + 1]? = some 46)) (hn : a.length ≤ 140737488351232) (w : World) : Calls Tryz.prog 87 #[.string (mk a), .string ⟨#[46, 46]⟩] w fun e w' => e = .returned (.bool false) ∧ w = w' := by
  refine f87n (mk a) ⟨#[46, 46]⟩ (by rw [mk_size]; exact hn) (by decide) ?_ w
  intro i hi
  rw [Bool.eq_false_iff]
  intro he
  have he := eq_of_beq he
  rw [mk_extract, mk, ByteArray.toList_mk] at he
  have h1 : ((a.drop i).take (i + (ByteArray.mk #[46, 46]).size - i))[0]? = some 46 := by rw [he, Lib.toList_data]; rfl
  have h2 : ((a.drop i).take (i + (ByteArray.mk #[46, 46]).size - i))[1]? = some 46 := by rw [he, Lib.toList_data]; rfl
  have hz : (ByteArray.mk #[46, 46]).size = 2 := by decide
  rw [hz] at h1 h2
  exact h i ⟨by simpa [List.getElem?_take, List.getElem?_drop] using h1, by simpa [List.getElem?_take, List.getElem?_drop] using h2⟩

set_option maxHeartbeats 3200000 in
/-- consumeAtom takes an atom. -/
theorem f66y {b : Nat} {w : World} (a r : List UInt8) (perm : Bool) (h : PAt b (mk (a ++ r)) w) (ha : 0 < a.length) (hat : ∀ c ∈ a, atx c.toNat true = true ∧ c.toNat < 128) (hr : ∀ c ∈ r.head?, atx c.toNat true = false ∧ c.toNat < 128) (hn : a.length + r.length ≤ 140737488351232) (hperm : perm = true ∨ NoDots a) :
    Calls Tryz.prog 66 #[.pointer (some ⟨b, 0, none⟩), .bool true, .bool perm] w fun e w' => e = .returned (.tuple #[.string (mk a), .nilIface]) ∧ PAt b (mk r) w' ∧ w.grownBy w' (some b) := by
  obtain ⟨s, hs⟩ : ∃ s, s = mk (a ++ r) := ⟨_, rfl⟩
  rw [← hs] at h
  have h0 := h.c0
  have hf := h.f0
  have hsz1 : s.size ≤ a.length + r.length := by rw [split_size hs]; omega
  have hsz2 : a.length + r.length ≤ s.size := by rw [split_size hs]; omega
  have HS := Lib.hid hs
  have HA := Lib.hid hat
  have HR := Lib.hid hr
  have HP := Lib.hid h
  have HM := Lib.hid hperm
  clear hs hat hr h hperm
  go_enter Tryz.func66, Tryz.ntmps66
  go_wp2
  go_step3
  go_wp2
  go_step3
  go_wp2
  go_loop [8] (fun i => ∃ k : Nat, k ≤ a.length ∧ i = .int .i64 k) (fun i => a.length - (intOf i).toNat)
  case atStart => exact ⟨0, by omega, rfl⟩
  case round =>
    obtain ⟨k, hk, rfl⟩ := hrel
    by_cases hlt : k < a.length
    · have hp : k < s.size := by omega
      have ho : atx s[k].toNat true = true ∧ s[k].toNat < 128 := by rw [split_lo HS.out k hlt hp]; exact HA.out _ (List.getElem_mem hlt)
      obtain ⟨ho1, ho2⟩ := ho
      have hd := f82a (s.extract k s.size) s[k].toNat (by rw [ext_size]; omega) (by rw [ext_get _ _ hp]) (by omega)
      have HD := Lib.hid hd
      clear hd
      go_wp2_with (first | (go_at_call 82; refine (HD.out _).mono ?_; rintro e w' ⟨rfl, rfl⟩) | (go_at_call 25; refine (f25 _ _ _).mono ?_; rintro e w' ⟨rfl, rfl⟩))
      go_round
      case rel => exact ⟨k + 1, by omega, by go_num⟩
      case measure => simp [intOf]; omega
    · obtain ⟨rfl⟩ : k = a.length := by omega
      clear hlt hk
      have hi := split_init HS.out
      have ht := split_tail HS.out
      obtain ⟨c, z, hz, hd, ho⟩ : ∃ (c : Int) (z : Int), (z = 0 ∨ z = 1) ∧ (∀ w, Calls Tryz.prog 82 #[.string (mk r)] w fun e w' => e = .returned (.tuple #[.int .i32 c, .int .i64 z]) ∧ w = w') ∧ ((z == 1) = true → (c == 65533) = false ∧ atx c true = false) := by
        by_cases hp : a.length < s.size
        · have ho := HR.out _ (split_hd HS.out hp)
          obtain ⟨ho1, ho2⟩ := ho
          rw [← ht]
          exact ⟨_, 1, .inr rfl, f82a (s.extract a.length s.size) s[a.length].toNat (by rw [ext_size]; omega) (by rw [ext_get _ _ hp]) (by omega), fun _ => ⟨by simp; omega, ho1⟩⟩
        · rw [← ht]
          exact ⟨65533, 0, .inl rfl, f82e _ (by rw [ext_size]; omega), fun h => by simp at h⟩
      have HD := Lib.hid hd
      clear hd
      rcases hz with rfl | rfl
      · clear ho
        go_wp2_with (first | (go_at_call 82; refine (HD.out _).mono ?_; rintro e w' ⟨rfl, rfl⟩) | (go_at_call 25; refine (f25 _ _ _).mono ?_; rintro e w' ⟨rfl, rfl⟩))
        go_region
        cases perm
        · have HN := HM.out.resolve_left (by simp)
          obtain ⟨n1, n2, n3⟩ := HN
          have N1 := Lib.hid n1
          have N2 := Lib.hid n2
          have N3 := Lib.hid n3
          clear n1 n2 n3
          go_wp2_with (first | (go_at_call 86; refine (f86n a N1.out _).mono ?_; rintro e w' ⟨rfl, rfl⟩) | (go_at_call 87; refine (f87d a N3.out (by omega) _).mono ?_; rintro e w' ⟨rfl, rfl⟩) | (go_at_call 88; refine (f88n a N2.out (by omega) _).mono ?_; rintro e w' ⟨rfl, rfl⟩))
          try rw [Exit.noGoto_ret]
          go_ret2
          exact ⟨rfl, HP.out.set _, grownBy_drew (grownBy_set _ _ _)⟩
        · go_wp2
          try rw [Exit.noGoto_ret]
          go_ret2
          exact ⟨rfl, HP.out.set _, grownBy_drew (grownBy_set _ _ _)⟩
      · obtain ⟨ho1, ho2⟩ := ho rfl
        go_wp2_with (first | (go_at_call 82; refine (HD.out _).mono ?_; rintro e w' ⟨rfl, rfl⟩) | (go_at_call 25; refine (f25 _ _ _).mono ?_; rintro e w' ⟨rfl, rfl⟩))
        go_region
        cases perm
        · have HN := HM.out.resolve_left (by simp)
          obtain ⟨n1, n2, n3⟩ := HN
          have N1 := Lib.hid n1
          have N2 := Lib.hid n2
          have N3 := Lib.hid n3
          clear n1 n2 n3
          go_wp2_with (first | (go_at_call 86; refine (f86n a N1.out _).mono ?_; rintro e w' ⟨rfl, rfl⟩) | (go_at_call 87; refine (f87d a N3.out (by omega) _).mono ?_; rintro e w' ⟨rfl, rfl⟩) | (go_at_call 88; refine (f88n a N2.out (by omega) _).mono ?_; rintro e w' ⟨rfl, rfl⟩))
          try rw [Exit.noGoto_ret]
          go_ret2
          exact ⟨rfl, HP.out.set _, grownBy_drew (grownBy_set _ _ _)⟩
        · go_wp2
          try rw [Exit.noGoto_ret]
          go_ret2
          exact ⟨rfl, HP.out.set _, grownBy_drew (grownBy_set _ _ _)⟩

set_option maxHeartbeats 1600000 in
/-- consumeAtom finds none: an error, the text as it was. -/
theorem f66n {b : Nat} {w : World} (c : UInt8) (r : List UInt8) (perm : Bool) (h : PAt b (mk (c :: r)) w) (hc : atx c.toNat true = false) (hc2 : c.toNat < 128) :
    Calls Tryz.prog 66 #[.pointer (some ⟨b, 0, none⟩), .bool true, .bool perm] w fun e w' => (∃ v, IsErr v ∧ e = .returned (.tuple #[.string ⟨#[]⟩, v])) ∧ PAt b (mk (c :: r)) w' ∧ w.grownBy w' (some b) := by
  have h0 := h.c0
  have HP := Lib.hid h
  clear h
  have hx : (mk (c :: r)).extract 0 (mk (c :: r)).size = mk (c :: r) := by rw [mk_tail]; rfl
  have hd := f82a (mk (c :: r)) c.toNat (by rw [mk_size]; simp) (by rw [mk_get]; rfl) (by omega)
  have HD := Lib.hid hd
  clear hd
  have h1 : ((c.toNat : Int) == 65533) = false := by simp; omega
  go_enter Tryz.func66, Tryz.ntmps66
  go_wp2
  go_step3
  go_wp2
  go_step3
  go_wp2
  refine wp_loop_rounds 1 ?_
  rw [rounds_succ]
  go_wp2_with (first | (go_at_call 82; refine (HD.out _).mono ?_; rintro e w' ⟨rfl, rfl⟩) | (go_at_call 25; refine (f25 _ _ _).mono ?_; rintro e w' ⟨rfl, rfl⟩) | (go_at_call 35; refine (f35 _ _).mono ?_; rintro e w1 ⟨⟨v, hv, rfl⟩, hb⟩))
  rw [Exit.noGoto_ret]
  go_ret2
  exact ⟨⟨v, hv, rfl⟩, HP.out.kept (grownBy_of_below none hb) (by simp), grownBy_of_below _ hb⟩
end Go.Proofs.YtbigjdlcmlopcaaGreatDoor
