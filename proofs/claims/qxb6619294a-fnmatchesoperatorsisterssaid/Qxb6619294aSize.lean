/-
  FnMatchesOperatorSisters: the two guards on sizes: zzAddStrings (9), zzBytes (14). They only read.
-/
import Derived.Test.Qxb6619294aSel
namespace Go.Proofs.Qxb6619294a.Sel
open Go.ChangeShapes Go.WideShapes Go.ChangeAt Go.RowKit

theorem StrSl.at {w : World} {a : Option Addr} {len : Nat} {S : Nat → ByteArray} (h : StrSl w a len S) (k : Nat) (hk : k < len) : ∃ b off, a = some ⟨b, off, none⟩ ∧ w.cell? ⟨b, off + k, none⟩ = some (.string (S k)) := by
  obtain ⟨_, h2, _⟩ := h
  rcases h2 with h2 | ⟨b, off, e, _, hc⟩
  · omega
  · exact ⟨b, off, e, hc k hk⟩

theorem StrSl.size {w : World} {a : Option Addr} {len : Nat} {S : Nat → ByteArray} (h : StrSl w a len S) (k : Nat) (hk : k < len) : (S k).size ≤ 9223372036854775807 := h.2.2 k hk

set_option maxHeartbeats 400000 in
theorem add_any (n : Int) (a : Option Addr) (len cap : Nat) (S : Nat → ByteArray) (w : World) (h : StrSl w a len S) (h0 : 0 ≤ n) (h1 : n ≤ 1048577) :
    Calls Try.prog 9 #[.int .i64 n, .slice a len cap] w fun e w' => (∃ m : Int, e = .returned (.int .i64 m) ∧ 0 ≤ m ∧ m ≤ 1048577) ∧ w' = w := by
  have HS : Hid (StrSl w a len S) := h
  have hl := h.1
  clear h
  go_enter Try.func9, Try.ntmps9
  go_wp2
  · go_ret
    exact ⟨⟨_, rfl, by decide, by decide⟩, rfl⟩
  · go_loop [0, 5] (fun n i => ∃ (k : Nat) (m : Int), k ≤ len ∧ i = .int .i64 k ∧ n = .int .i64 m ∧ 0 ≤ m ∧ m ≤ 1048576) (fun _ i => len - (intOf i).toNat)
    case atStart => exact ⟨0, _, Nat.zero_le _, rfl, rfl, by omega, by omega⟩
    case round =>
      obtain ⟨k, m, hk, rfl, rfl, hm0, hm1⟩ := hrel
      by_cases hlt : k < len
      · obtain ⟨b, off, ea, hcx⟩ := HS.out.at k hlt
        have hsz := HS.out.size k hlt
        clear HS
        subst ea
        generalize S k = s at hcx hsz
        by_cases hb : (s.size : Int) ≤ 1048576 - m
        · go_wp2
          go_round
          case rel => exact ⟨k + 1, _, by omega, by go_num, rfl, by omega, by omega⟩
          case measure => simp [intOf]; omega
        · go_wp2
          go_ret
          exact ⟨⟨_, rfl, by decide, by decide⟩, rfl⟩
      · go_wp2
        go_ret
        exact ⟨⟨_, rfl, by omega, by omega⟩, rfl⟩
  · go_ret
    exact ⟨⟨_, rfl, by decide, by decide⟩, rfl⟩

/-- it returned a bool -/
def SomeBool (e : Ending) : Prop := ∃ r : Bool, e = .returned (.bool r)

set_option maxHeartbeats 1000000 in
theorem bytes_any (a0 a1 a3 : Option Addr) (l0 c0 l1 c1 l3 c3 : Nat) (S0 S1 S3 : Nat → ByteArray) (x v : ByteArray) (w : World) (h0 : StrSl w a0 l0 S0) (h1 : StrSl w a1 l1 S1) (h3 : StrSl w a3 l3 S3) (hx : x.size ≤ maxLen) (hv : v.size ≤ maxLen) :
    Calls Try.prog 14 #[.slice a0 l0 c0, .slice a1 l1 c1, .string x, .slice a3 l3 c3, .string v] w fun e w' => SomeBool e ∧ w' = w := by
  have H0 : Hid (StrSl w a0 l0 S0) := h0
  have H1 : Hid (StrSl w a1 l1 S1) := h1
  have H3 : Hid (StrSl w a3 l3 S3) := h3
  have hl0 := h0.1
  have hl1 := h1.1
  have hl3 := h3.1
  unfold maxLen at hx hv
  clear h0 h1 h3
  go_enter Try.func14, Try.ntmps14
  go_wp2
  any_goals (go_ret; exact ⟨⟨_, rfl⟩, rfl⟩)
  go_loop [11, 12] (fun n i => ∃ (k : Nat) (m : Int), k ≤ l0 ∧ i = .int .i64 k ∧ n = .int .i64 m ∧ 0 ≤ m ∧ m ≤ 1048576) (fun _ i => l0 - (intOf i).toNat)
  case atStart => exact ⟨0, _, Nat.zero_le _, rfl, rfl, by omega, by omega⟩
  case round =>
    obtain ⟨k, m, hk, rfl, rfl, hm0, hm1⟩ := hrel
    by_cases hlt : k < l0
    · obtain ⟨b, off, ea, hcx⟩ := H0.out.at k hlt
      have hsz := H0.out.size k hlt
      clear H0 H1 H3
      subst ea
      generalize S0 k = s at hcx hsz
      by_cases hb : (s.size : Int) ≤ 1048576
      · by_cases hb2 : m + (s.size : Int) ≤ 1048576
        · go_wp2
          go_round
          case rel => exact ⟨k + 1, _, by omega, by go_num, rfl, by omega, by omega⟩
          case measure => simp [intOf]; omega
        · go_wp2
          go_ret
          exact ⟨⟨_, rfl⟩, rfl⟩
      · go_wp2
        go_ret
        exact ⟨⟨_, rfl⟩, rfl⟩
    · clear H0 hk
      go_wp2
      any_goals (go_ret; exact ⟨⟨_, rfl⟩, rfl⟩)
      go_loop [11, 13] (fun n i => ∃ (k : Nat) (m : Int), k ≤ l1 ∧ i = .int .i64 k ∧ n = .int .i64 m ∧ 0 ≤ m ∧ m ≤ 1048576) (fun _ i => l1 - (intOf i).toNat)
      case atStart => exact ⟨0, _, Nat.zero_le _, rfl, rfl, by omega, by omega⟩
      case round =>
        obtain ⟨k, m, hk, rfl, rfl, hm0, hm1⟩ := hrel
        by_cases hlt : k < l1
        · obtain ⟨b, off, ea, hcx⟩ := H1.out.at k hlt
          have hsz := H1.out.size k hlt
          clear H1 H3
          subst ea
          generalize S1 k = s at hcx hsz
          by_cases hb : (s.size : Int) ≤ 1048576
          · by_cases hb2 : m + (s.size : Int) ≤ 1048576
            · go_wp2
              go_round
              case rel => exact ⟨k + 1, _, by omega, by go_num, rfl, by omega, by omega⟩
              case measure => simp [intOf]; omega
            · go_wp2
              go_ret
              exact ⟨⟨_, rfl⟩, rfl⟩
          · go_wp2
            go_ret
            exact ⟨⟨_, rfl⟩, rfl⟩
        · clear H1 hk
          go_wp2
          any_goals (go_ret; exact ⟨⟨_, rfl⟩, rfl⟩)
          go_loop [11, 14] (fun n i => ∃ (k : Nat) (m : Int), k ≤ l3 ∧ i = .int .i64 k ∧ n = .int .i64 m ∧ 0 ≤ m ∧ m ≤ 1048576) (fun _ i => l3 - (intOf i).toNat)
          case atStart => exact ⟨0, _, Nat.zero_le _, rfl, rfl, by omega, by omega⟩
          case round =>
            obtain ⟨k, m, hk, rfl, rfl, hm0, hm1⟩ := hrel
            by_cases hlt : k < l3
            · obtain ⟨b, off, ea, hcx⟩ := H3.out.at k hlt
              have hsz := H3.out.size k hlt
              clear H3
              subst ea
              generalize S3 k = s at hcx hsz
              by_cases hb : (s.size : Int) ≤ 1048576
              · by_cases hb2 : m + (s.size : Int) ≤ 1048576
                · go_wp2
                  go_round
                  case rel => exact ⟨k + 1, _, by omega, by go_num, rfl, by omega, by omega⟩
                  case measure => simp [intOf]; omega
                · go_wp2
                  go_ret
                  exact ⟨⟨_, rfl⟩, rfl⟩
              · go_wp2
                go_ret
                exact ⟨⟨_, rfl⟩, rfl⟩
            · clear H3 hk
              go_wp2
              any_goals (go_ret; exact ⟨⟨_, rfl⟩, rfl⟩)

end Go.Proofs.Qxb6619294a.Sel
