/-
  THE CONTRACTS OF zzBytes_FnJoinEntryPrefixExactlyWhenCommandsPrefix (10) AND zzBytes_FnJoinEntryInsertAnyPlace (5): each answers a bool and only reads. Which bool, the laws do not need.
-/
import Derived.Test.Qxb6628526aJoin
namespace Go.Proofs.Qxb6628526a
open Go.RowKit Go.WideShapes Plain

/-- It returns some bool. -/
def AnyBool (e : Ending) : Prop := ∃ r : Bool, e = .returned (.bool r)
theorem anyBool (r : Bool) : AnyBool (.returned (.bool r)) := ⟨r, rfl⟩

set_option maxHeartbeats 400000 in
theorem zzBytes_any (a b : Option Addr) (n m ca cb : Nat) (us vs : List (List Int)) (w : World) (ha : Rws w a n us) (hb : Rws w b m vs) :
    Calls Try.prog 10 #[.slice a n ca, .slice b m cb] w fun e w' => AnyBool e ∧ w' = w := by
  by_cases hn : n ≤ 1048576
  · go_enter Try.func10, Try.ntmps10
    go_wp2_with fail
    go_loop [5, 6] (fun s i => ∃ (k : Nat) (r : Int), k ≤ n ∧ i = .int .i64 k ∧ s = .int .i64 r) (fun _ i => n - (intOf i).toNat)
    case atStart => exact ⟨0, _, Nat.zero_le _, rfl, rfl⟩
    case round =>
      obtain ⟨k, r, hk, rfl, rfl⟩ := hrel
      by_cases hlt : k < n
      · obtain ⟨x, off, hx, hrow⟩ := ha.at (by omega)
        subst hx
        obtain ⟨A, L, C, hcell, hA, hB⟩ := hrow k hlt
        clear hrow ha hb hA hB
        go_wp2
        · go_ret
          exact ⟨anyBool _, rfl⟩
        · go_ret
          exact ⟨anyBool _, rfl⟩
        · go_round
          case rel => exact ⟨k + 1, _, by omega, by go_num, rfl⟩
          case measure => simp [intOf]; omega
      · by_cases hm : m ≤ 1048576
        · go_wp2
          · go_ret
            exact ⟨anyBool _, rfl⟩
          · go_loop [5, 7] (fun s i => ∃ (j : Nat) (r : Int), j ≤ m ∧ i = .int .i64 j ∧ s = .int .i64 r) (fun _ i => m - (intOf i).toNat)
            case atStart => exact ⟨0, _, Nat.zero_le _, rfl, rfl⟩
            case round =>
              obtain ⟨j, r, hj, rfl, rfl⟩ := hrel
              by_cases hlt : j < m
              · obtain ⟨x, off, hx, hrow⟩ := hb.at (by omega)
                subst hx
                obtain ⟨A, L, C, hcell, hA, hB⟩ := hrow j hlt
                clear hrow ha hb hA hB
                go_wp2
                · go_ret
                  exact ⟨anyBool _, rfl⟩
                · go_ret
                  exact ⟨anyBool _, rfl⟩
                · go_round
                  case rel => exact ⟨j + 1, _, by omega, by go_num, rfl⟩
                  case measure => simp [intOf]; omega
              · go_wp2
                go_ret
                exact ⟨anyBool _, rfl⟩
        · go_wp2
          go_ret
          exact ⟨anyBool _, rfl⟩
  · go_enter Try.func10, Try.ntmps10
    go_wp2
    go_ret
    exact ⟨anyBool _, rfl⟩

end Go.Proofs.Qxb6628526a
