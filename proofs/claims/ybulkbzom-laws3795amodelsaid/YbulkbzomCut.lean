/- Cut and its model: both give s[:k] for the one k that 'IsCut' says. -/
import Derived.Test.YbulkbzomRows
import Derived.WalkKit
import Derived.WalkSpells
import Derived.Deep.LoopGhost
namespace Go.Proofs.Ybulkbzom.Cut
open Go.RowKit

/-- May a character begin at place i? -/
def start (s : ByteArray) (i : Nat) : Bool := if h : i < s.size then bits BinOp.and IntKind.u8 (s[i].toNat : Int) 192 != 128 else false

structure IsCut (s : ByteArray) (n k : Nat) : Prop where
  le : k ≤ n
  here : k = 0 ∨ start s k = true
  none : ∀ j, k < j → j ≤ n → start s j = false

theorem IsCut.one {s : ByteArray} {n k l : Nat} (h : IsCut s n k) (g : IsCut s n l) : k = l := by
  rcases Nat.lt_trichotomy k l with c | c | c
  · rcases g.here with e | e
    · omega
    · rw [h.none l c g.le] at e; cases e
  · exact c
  · rcases h.here with e | e
    · omega
    · rw [g.none k c h.le] at e; cases e

theorem some_cut (s : ByteArray) : ∀ n, ∃ k, IsCut s n k
  | 0 => ⟨0, Nat.le_refl _, .inl rfl, fun j a b => by omega⟩
  | n + 1 => by
    cases h : start s (n + 1) with
    | true => exact ⟨n + 1, Nat.le_refl _, .inr h, fun j a b => by omega⟩
    | false =>
      obtain ⟨k, hk⟩ := some_cut s n
      exact ⟨k, Nat.le_succ_of_le hk.le, hk.here, fun j a b => by
        by_cases e : j = n + 1
        · rw [e]; exact h
        · exact hk.none j a (by omega)⟩

theorem runeStart (b : Int) (w : World) : Calls Yba.prog 6 #[.int .u8 b] w fun e w' => e = .returned (.bool (bits BinOp.and IntKind.u8 b 192 != 128)) ∧ w' = w := by
  go_enter Yba.func6, Yba.ntmps6
  go_wp2
  go_ret
  exact ⟨rfl, rfl⟩

set_option maxHeartbeats 1000000 in
theorem cut_any (s : ByteArray) (n : Nat) (w : World) (hs : s.size ≤ 4096) (hn : n < s.size) :
    Calls Yba.prog 4 #[.string s, .int .i64 n] w fun e w' => (∃ k, IsCut s n k ∧ e = .returned (.string (s.extract 0 k))) ∧ w' = w := by
  have hnot : ∀ (x : Bool) (w : World), (Op.unary .not (.bool x)).run Yba.prog w = .ok (.bool (!x)) w := fun _ _ => rfl
  have hle : decide (s.size ≤ n) = false := by simpa using hn
  go_enter Yba.func4, Yba.ntmps4
  go_wp2
  go_loopg [1] n (fun gk v wr => ∃ c : Nat, gk = c ∧ c ≤ n ∧ v = .int .i64 c ∧ wr = w ∧ ∀ j, c < j → j ≤ n → start s j = false)
  case atStart => exact ⟨n, rfl, Nat.le_refl _, rfl, rfl, fun j a b => by omega⟩
  case round =>
    obtain ⟨c, hgk, hc, rfl, rfl, hno⟩ := hrel
    have HGK : Hid (gk = c) := hgk
    clear hgk
    have HNO : Hid (∀ j, c < j → j ≤ n → start s j = false) := hno
    clear hno
    by_cases hc0 : 0 < c
    · have hlt : c < s.size := by omega
      have hd : start s c = (bits BinOp.and IntKind.u8 (s[c].toNat : Int) 192 != 128) := by simp [start, hlt]
      cases hst : start s c
      · have hb : (bits BinOp.and IntKind.u8 (s[c].toNat : Int) 192 != 128) = false := by rw [← hd]; exact hst
        have HST : Hid (start s c = false) := hst
        clear hd hst
        go_wp2_with (go_at_call 6; refine (runeStart _ _).mono ?_; rintro e w' ⟨rfl, rfl⟩)
        go_roundg (c - 1)
        case measure => have := HGK.out; omega
        case rel => exact ⟨c - 1, rfl, by omega, congrArg (Value.int .i64) (by omega), rfl, fun j a b => by
          by_cases e : j = c
          · subst e; exact HST.out
          · exact HNO.out j (by omega) b⟩
      · have hb : (bits BinOp.and IntKind.u8 (s[c].toNat : Int) 192 != 128) = true := by rw [← hd]; exact hst
        have HST : Hid (start s c = true) := hst
        clear hd hst
        go_wp2_with (go_at_call 6; refine (runeStart _ _).mono ?_; rintro e w' ⟨rfl, rfl⟩)
        go_ret
        exact ⟨⟨c, ⟨hc, .inr HST.out, HNO.out⟩, rfl⟩, rfl⟩
    · obtain rfl : c = 0 := by omega
      go_wp2
      go_ret
      exact ⟨⟨0, ⟨hc, .inl rfl, HNO.out⟩, by simp⟩, rfl⟩

set_option maxHeartbeats 1000000 in
theorem model_any (s : ByteArray) (n : Nat) (w : World) (hs : s.size ≤ 4096) (hn : n < s.size) :
    Calls Yba.prog 5 #[.string s, .int .i64 n] w fun e w' => (∃ k, IsCut s n k ∧ e = .returned (.string (s.extract 0 k))) ∧ w' = w := by
  go_enter Yba.func5, Yba.ntmps5
  go_wp2
  go_loop [5, 6] (fun v i => ∃ k c : Nat, v = .int .i64 k ∧ i = .int .i64 c ∧ 1 ≤ c ∧ c ≤ n + 1 ∧ k < c ∧ (k = 0 ∨ start s k = true) ∧ ∀ j, k < j → j < c → start s j = false) (fun _ i => n + 1 - (intOf i).toNat)
  case atStart => exact ⟨0, 1, rfl, rfl, by omega, by omega, by omega, .inl rfl, fun j a b => by omega⟩
  case round =>
    obtain ⟨k, c, rfl, rfl, hc1, hc2, hkc, hk, hno⟩ := hrel
    have HNO : Hid (∀ j, k < j → j < c → start s j = false) := hno
    have HK : Hid (k = 0 ∨ start s k = true) := hk
    clear hno hk
    by_cases hcn : c ≤ n
    · have hlt : c < s.size := by omega
      have hd : start s c = (bits BinOp.and IntKind.u8 (s[c].toNat : Int) 192 != 128) := by simp [start, hlt]
      cases hst : start s c
      · have hb : (bits BinOp.and IntKind.u8 (s[c].toNat : Int) 192 != 128) = false := by rw [← hd]; exact hst
        have HST : Hid (start s c = false) := hst
        clear hd hst
        go_wp2
        go_round
        case rel => exact ⟨k, c + 1, rfl, by go_num, by omega, by omega, by omega, HK.out, fun j a b => by
          by_cases e : j = c
          · subst e; exact HST.out
          · exact HNO.out j a (by omega)⟩
        case measure => simp [intOf]; omega
      · have hb : (bits BinOp.and IntKind.u8 (s[c].toNat : Int) 192 != 128) = true := by rw [← hd]; exact hst
        have HST : Hid (start s c = true) := hst
        clear hd hst
        go_wp2
        go_round
        case rel => exact ⟨c, c + 1, rfl, by go_num, by omega, by omega, by omega, .inr HST.out, fun j a b => by omega⟩
        case measure => simp [intOf]; omega
    · go_wp2
      go_ret
      exact ⟨⟨k, ⟨by omega, HK.out, fun j a b => HNO.out j a (by omega)⟩, rfl⟩, rfl⟩

theorem cut_whole (s : ByteArray) (n : Int) (w : World) (_hs : s.size ≤ 4096) (hn : (s.size : Int) ≤ n) :
    Calls Yba.prog 4 #[.string s, .int .i64 n] w fun e w' => e = .returned (.string s) ∧ w' = w := by
  go_enter Yba.func4, Yba.ntmps4
  go_wp2
  go_ret
  exact ⟨rfl, rfl⟩

theorem model_whole (s : ByteArray) (n : Int) (w : World) (_hs : s.size ≤ 4096) (hn : (s.size : Int) ≤ n) :
    Calls Yba.prog 5 #[.string s, .int .i64 n] w fun e w' => e = .returned (.string s) ∧ w' = w := by
  go_enter Yba.func5, Yba.ntmps5
  go_wp2
  go_ret
  exact ⟨rfl, rfl⟩

/-- Both callees at one number: they hand back one string. -/
theorem both (s : ByteArray) (n : Int) (h0 : 0 ≤ n) (hs : s.size ≤ 4096) : ∃ r : ByteArray, (∀ w, Calls Yba.prog 4 #[.string s, .int .i64 n] w fun e w' => e = .returned (.string r) ∧ w' = w) ∧ (∀ w, Calls Yba.prog 5 #[.string s, .int .i64 n] w fun e w' => e = .returned (.string r) ∧ w' = w) := by
  by_cases h : (s.size : Int) ≤ n
  · exact ⟨s, fun w => cut_whole s n w hs h, fun w => model_whole s n w hs h⟩
  · obtain ⟨m, rfl⟩ := Int.eq_ofNat_of_zero_le h0
    obtain ⟨k, hk⟩ := some_cut s m
    refine ⟨s.extract 0 k, fun w => (cut_any s m w hs (by omega)).mono ?_, fun w => (model_any s m w hs (by omega)).mono ?_⟩
    · rintro e w' ⟨⟨l, hl, rfl⟩, rfl⟩
      exact ⟨by rw [hl.one hk], rfl⟩
    · rintro e w' ⟨⟨l, hl, rfl⟩, rfl⟩
      exact ⟨by rw [hl.one hk], rfl⟩

set_option maxHeartbeats 1000000 in
theorem law_any (s : ByteArray) (n : Int) (w : World) (hs : s.size ≤ maxLen) (h1 : -9223372036854775808 ≤ n) (h2 : n ≤ 9223372036854775807) :
    Calls Yba.prog 3 #[.string s, .int .i64 n] w fun e w' => e = .returned (.bool true) ∧ w' = w := by
  unfold maxLen at hs
  by_cases hbig : s.size ≤ 4096
  · by_cases hneg : n < 0
    · obtain ⟨r, hc, hm⟩ := both s (-(n + 1)) (by omega) hbig
      have HC : Hid _ := hc
      have HM : Hid _ := hm
      clear hc hm
      go_enter Yba.func3, Yba.ntmps3
      go_wp2_with (first | (go_at_call 4; refine (HC.out _).mono ?_; rintro e w' ⟨rfl, rfl⟩) | (go_at_call 5; refine (HM.out _).mono ?_; rintro e w' ⟨rfl, rfl⟩))
      go_ret
      exact ⟨by simp, rfl⟩
    · obtain ⟨r, hc, hm⟩ := both s n (by omega) hbig
      have HC : Hid _ := hc
      have HM : Hid _ := hm
      clear hc hm
      go_enter Yba.func3, Yba.ntmps3
      go_wp2_with (first | (go_at_call 4; refine (HC.out _).mono ?_; rintro e w' ⟨rfl, rfl⟩) | (go_at_call 5; refine (HM.out _).mono ?_; rintro e w' ⟨rfl, rfl⟩))
      go_ret
      exact ⟨by simp, rfl⟩
  · have hb : ¬ (s.size : Int) ≤ 4096 := by omega
    go_enter Yba.func3, Yba.ntmps3
    go_wp2
    go_ret
    exact ⟨rfl, rfl⟩
end Go.Proofs.Ybulkbzom.Cut
