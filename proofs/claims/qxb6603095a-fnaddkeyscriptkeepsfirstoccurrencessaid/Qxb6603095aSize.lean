import Derived.Test.Qxb6603095aZz3
namespace Go.Proofs.Qxb6603095a.Wl
open Go.RowKit Go.Maps Go.WideMaps
open Go.Proofs.Qxb6603095a.Pl Go.Proofs.Qxb6603095a.Bs
set_option linter.unusedVariables false

def AnyBool (e : Ending) : Prop := ∃ b, e = .returned (.bool b)

set_option maxRecDepth 100000 in
set_option maxHeartbeats 4000000 in
theorem zzBytes22_any (B : Nat) (aO : Option Addr) (n cO : Nat) (O : List (List Int)) (aS : Option Addr) (m cS : Nat) (S : List (List Int)) (w : World) (hn : n ≤ maxLen) (hm : m ≤ maxLen) (hO : ListIn w B aO n O) (hS : ListIn w B aS m S) :
    Calls Try.prog 22 #[.slice aO n cO, .slice aS m cS] w fun e w' => AnyBool e ∧ w' = w := by
  have HO := hidIt hO
  have HS := hidIt hS
  clear hO hS
  unfold maxLen at hn hm
  go_enter Try.func22, Try.ntmps22
  by_cases h1 : n ≤ 1048576
  case neg =>
    go_wp2
    go_ret
    exact ⟨⟨_, rfl⟩, rfl⟩
  go_wp2
  go_loop [5, 6] (fun z i => ∃ (s : Int) (k : Nat), z = .int .i64 s ∧ 0 ≤ s ∧ s ≤ 1048576 ∧ k ≤ n ∧ i = .int .i64 k) (fun _ i => n - (intOf i).toNat)
  case atStart => exact ⟨n, 0, rfl, by omega, by omega, Nat.zero_le _, rfl⟩
  case round =>
    obtain ⟨s, k, rfl, hs0, hs1, hk, rfl⟩ := hrel
    by_cases hlt : k < n
    · obtain ⟨b, off, rfl, _, hcl⟩ := HO.out.2 (by omega)
      obtain ⟨a1, n1, c1, g1, m1, t1⟩ := hcl k hlt
      clear hcl t1
      unfold maxLen at m1
      by_cases h2 : n1 ≤ 1048576
      case neg =>
        go_wp2
        go_ret
        exact ⟨⟨_, rfl⟩, rfl⟩
      by_cases h3 : s + n1 ≤ 1048576
      case neg =>
        go_wp2
        go_ret
        exact ⟨⟨_, rfl⟩, rfl⟩
      go_wp2
      go_round
      case rel => exact ⟨s + n1, k + 1, rfl, by omega, by omega, by omega, by go_num⟩
      case measure => simp [intOf]; omega
    · by_cases h4 : m ≤ 1048576
      case neg =>
        go_wp2
        go_ret
        exact ⟨⟨_, rfl⟩, rfl⟩
      by_cases h5 : s + m ≤ 1048576
      case neg =>
        go_wp2
        go_ret
        exact ⟨⟨_, rfl⟩, rfl⟩
      go_wp2
      go_loop [5, 7] (fun z i => ∃ (s : Int) (k : Nat), z = .int .i64 s ∧ 0 ≤ s ∧ s ≤ 1048576 ∧ k ≤ m ∧ i = .int .i64 k) (fun _ i => m - (intOf i).toNat)
      case atStart => exact ⟨s + m, 0, rfl, by omega, by omega, Nat.zero_le _, rfl⟩
      case round =>
        clear hs0 hs1 h5
        obtain ⟨s, k, rfl, hs0, hs1, hk, rfl⟩ := hrel
        by_cases hlt : k < m
        · obtain ⟨b, off, rfl, _, hcl⟩ := HS.out.2 (by omega)
          obtain ⟨a1, n1, c1, g1, m1, t1⟩ := hcl k hlt
          clear hcl t1
          unfold maxLen at m1
          by_cases h2 : n1 ≤ 1048576
          case neg =>
            go_wp2
            go_ret
            exact ⟨⟨_, rfl⟩, rfl⟩
          by_cases h3 : s + n1 ≤ 1048576
          case neg =>
            go_wp2
            go_ret
            exact ⟨⟨_, rfl⟩, rfl⟩
          go_wp2
          go_round
          case rel => exact ⟨s + n1, k + 1, rfl, by omega, by omega, by omega, by go_num⟩
          case measure => simp [intOf]; omega
        · go_wp2
          go_ret
          exact ⟨⟨_, rfl⟩, rfl⟩
end Go.Proofs.Qxb6603095a.Wl
