import Derived.Test.YtbigjdlcmlopcaaGreatDoorB
namespace Go.Proofs.YtbigjdlcmlopcaaGreatDoor
open Go.RowKit

/-- A value that is an error of errors.New's make. -/
def IsErr (v : Value) : Prop := ∃ a, v = .iface 90 (.pointer (some a))

theorem f35 (t : ByteArray) (w : World) : Calls Tryz.prog 35 #[.string t] w fun e w' => (∃ v, IsErr v ∧ e = .returned v) ∧ Below w.heap.size w w' := by
  go_enter Tryz.func35, Tryz.ntmps35
  go_wp2
  go_ret
  exact ⟨⟨_, ⟨_, rfl⟩, rfl⟩, (Below.refl _ _).alloc (Nat.le_refl _) _⟩

theorem ret_int {k : IntKind} {a b : Int} (h : a = b) : Ending.returned (.int k a) = .returned (.int k b) := by rw [h]

set_option maxHeartbeats 400000 in
/-- zzIndex: no such piece. -/
theorem f101n (s t : ByteArray) (hs : s.size ≤ 140737488351232) (ht : t.size ≤ 140737488351232) (hno : ∀ i, i + t.size ≤ s.size → ((s.extract i (i + t.size)).toList == t.toList) = false) (w : World) :
    Calls Tryz.prog 101 #[.string s, .string t] w fun e w' => e = .returned (.int .i64 (-1)) ∧ w = w' := by
  have HN := Lib.hid hno
  clear hno
  go_enter Tryz.func101, Tryz.ntmps101
  go_wp2
  go_loop [5] (fun i => ∃ k : Nat, k ≤ s.size + 1 ∧ i = .int .i64 k) (fun i => s.size + 1 - (intOf i).toNat)
  case atStart => exact ⟨0, by omega, rfl⟩
  case round =>
    obtain ⟨k, hk, rfl⟩ := hrel
    by_cases hlt : k + t.size ≤ s.size
    · have hno := HN.out k hlt
      go_wp2
      go_round
      case rel => exact ⟨k + 1, by omega, by go_num⟩
      case measure => simp [intOf]; omega
    · go_wp2
      go_ret
      exact ⟨rfl, rfl⟩

set_option maxHeartbeats 400000 in
theorem f118n (s t : ByteArray) (hs : s.size ≤ 140737488351232) (ht : t.size ≤ 140737488351232) (hno : ∀ i, i + t.size ≤ s.size → ((s.extract i (i + t.size)).toList == t.toList) = false) (w : World) :
    Calls Tryz.prog 118 #[.string s, .string t] w fun e w' => e = .returned (.int .i64 (-1)) ∧ w = w' := by
  have HN := Lib.hid hno
  clear hno
  go_enter Tryz.func118, Tryz.ntmps118
  go_wp2
  go_loop [5] (fun i => ∃ k : Nat, k ≤ s.size + 1 ∧ i = .int .i64 k) (fun i => s.size + 1 - (intOf i).toNat)
  case atStart => exact ⟨0, by omega, rfl⟩
  case round =>
    obtain ⟨k, hk, rfl⟩ := hrel
    by_cases hlt : k + t.size ≤ s.size
    · have hno := HN.out k hlt
      go_wp2
      go_round
      case rel => exact ⟨k + 1, by omega, by go_num⟩
      case measure => simp [intOf]; omega
    · go_wp2
      go_ret
      exact ⟨rfl, rfl⟩

set_option maxHeartbeats 400000 in
/-- zzIndex: the first place of a piece. -/
theorem f118y (s t : ByteArray) (n : Nat) (hs : s.size ≤ 140737488351232) (ht : t.size ≤ 140737488351232) (hn : n + t.size ≤ s.size) (hno : ∀ i, i < n → ((s.extract i (i + t.size)).toList == t.toList) = false) (hyes : ((s.extract n (n + t.size)).toList == t.toList) = true) (w : World) :
    Calls Tryz.prog 118 #[.string s, .string t] w fun e w' => e = .returned (.int .i64 n) ∧ w = w' := by
  have HN := Lib.hid hno
  have HY := Lib.hid hyes
  clear hno hyes
  go_enter Tryz.func118, Tryz.ntmps118
  go_wp2
  go_loop [5] (fun i => ∃ k : Nat, k ≤ n ∧ i = .int .i64 k) (fun i => n - (intOf i).toNat)
  case atStart => exact ⟨0, by omega, rfl⟩
  case round =>
    obtain ⟨k, hk, rfl⟩ := hrel
    by_cases hlt : k < n
    · have hno := HN.out k hlt
      go_wp2
      go_round
      case rel => exact ⟨k + 1, by omega, by go_num⟩
      case measure => simp [intOf]; omega
    · obtain rfl : k = n := by omega
      have hno := HY.out
      go_wp2
      go_ret
      exact ⟨rfl, rfl⟩

theorem f87n (s t : ByteArray) (hs : s.size ≤ 140737488351232) (ht : t.size ≤ 140737488351232) (hno : ∀ i, i + t.size ≤ s.size → ((s.extract i (i + t.size)).toList == t.toList) = false) (w : World) :
    Calls Tryz.prog 87 #[.string s, .string t] w fun e w' => e = .returned (.bool false) ∧ w = w' := by
  go_enter Tryz.func87, Tryz.ntmps87
  go_wp2_with (go_at_call 101; refine (f101n s t hs ht hno _).mono ?_; rintro e w' ⟨rfl, rfl⟩)
  go_ret
  exact ⟨rfl, rfl⟩

set_option maxHeartbeats 400000 in
/-- skipCFWS where no comment follows. -/
theorem f34 {b : Nat} {w : World} (ws r : List UInt8) (h : PAt b (mk (ws ++ r)) w) (hws : ∀ c ∈ ws, wsp c.toNat = true) (hr : ∀ c ∈ r.head?, (wsp c.toNat = false ∧ c.toNat < 128) ∧ c.toNat ≠ 40) (hn : ws.length + r.length ≤ 140737488351232) :
    Calls Tryz.prog 34 #[.pointer (some ⟨b, 0, none⟩)] w fun e w' => e = .returned (.bool true) ∧ PAt b (mk r) w' ∧ w.grownBy w' (some b) := by
  go_enter Tryz.func34, Tryz.ntmps34
  go_wp2_with (go_at_call 46; refine (f46 ws r h hws (fun c hc => (hr c hc).1) hn).mono ?_)
  rintro e w1 ⟨rfl, hP, hg⟩
  go_wp2_with fail
  refine wp_loop_rounds 1 ?_
  rw [rounds_succ]
  go_wp2_with fail
  cases r with
  | nil =>
    refine (f47e hP _).mono ?_
    rintro e w' ⟨rfl, rfl⟩
    go_wp2
    go_ret
    exact ⟨rfl, hP, hg⟩
  | cons c l =>
    refine (f47n hP _ (by have := (hr c (by simp)).2; omega)).mono ?_
    rintro e w' ⟨rfl, rfl⟩
    go_wp2
    go_ret
    exact ⟨rfl, hP, hg⟩
end Go.Proofs.YtbigjdlcmlopcaaGreatDoor
