import Derived.Test.Qxb6612657aProg
import Derived.Test.Qxb6612657aA
import Derived.WalkSpells
import Derived.BigQuiet
import Derived.Deep.QuietTactic
import Derived.Deep.RegionHeld3
import Derived.Deep.LoopGhost
namespace Go.Proofs.Qxb6612657a
open Go.RowKit

/-- What the walks are told of the strings that came in. -/
def IsStrs (w : World) (a : Option Addr) (len cap : Nat) (ss : List ByteArray) : Prop :=
  ss.length = len ∧ (∀ s ∈ ss, s.size ≤ maxLen) ∧ ((a = none ∧ len = 0 ∧ cap = 0) ∨ ∃ x, a = some x ∧ ∀ k, k < len → ∃ b off, x = ⟨b, off, none⟩ ∧ w.cell? ⟨b, off + k, none⟩ = some (.string (ss.getD k ByteArray.empty)))

/-- The k-th of them. -/
theorem IsStrs.at {w : World} {a : Option Addr} {len cap : Nat} {ss : List ByteArray} (h : IsStrs w a len cap ss) {k : Nat} (hk : k < len) :
    ∃ b off s, a = some ⟨b, off, none⟩ ∧ ss[k]? = some s ∧ s.size ≤ maxLen ∧ w.cell? ⟨b, off + k, none⟩ = some (.string s) := by
  obtain ⟨hl, hz, ⟨_, h0, _⟩ | ⟨x, rfl, hc⟩⟩ := h
  · omega
  obtain ⟨b, off, rfl, hcell⟩ := hc k hk
  have hm : ss[k]? = some (ss[k]'(by omega)) := List.getElem?_eq_getElem _
  refine ⟨b, off, _, rfl, hm, hz _ (List.mem_of_getElem? hm), ?_⟩
  rw [hcell, List.getD_eq_getElem?_getD, hm]; rfl
theorem IsStrs.kept {w w' : World} {a : Option Addr} {len cap : Nat} {ss : List ByteArray} (h : IsStrs w a len cap ss) (hb : Below w.heap.size w w') : IsStrs w' a len cap ss := by
  obtain ⟨hl, hz, h' | ⟨x, rfl, hc⟩⟩ := h
  · exact ⟨hl, hz, .inl h'⟩
  · refine ⟨hl, hz, .inr ⟨x, rfl, fun k hk => ?_⟩⟩
    obtain ⟨b, off, rfl, hcell⟩ := hc k hk
    exact ⟨b, off, rfl, (hb.cell (p := ⟨b, off + k, none⟩) (World.block_lt_of_cell? w _ hcell)).trans hcell⟩

set_option maxHeartbeats 1000000 in
/-- zzBytes: some bool; nothing turns. -/
theorem zz_any (a : Option Addr) (len cap : Nat) (ss : List ByteArray) (id : ByteArray) (w : World) (hss : IsStrs w a len cap ss) (hid : id.size ≤ maxLen) :
    Calls Try.prog 4 #[.slice a len cap, .string id] w fun e w' => (∃ b, e = .returned (.bool b)) ∧ w = w' := by
  unfold maxLen at hid
  by_cases hlen : len ≤ 1048576
  · go_enter Try.func4, Try.ntmps4
    go_wp2
    go_loopg [5, 6] len (fun gk zn i wr => ∃ k z : Nat, k ≤ len ∧ z ≤ 1048576 ∧ gk = len - k ∧ zn = .int .i64 z ∧ i = .int .i64 k ∧ w = wr)
    case atStart => exact ⟨0, len, Nat.zero_le _, hlen, rfl, rfl, rfl, rfl⟩
    case round =>
      obtain ⟨k, z, hk, hz, hgk, rfl, rfl, rfl⟩ := hrel
      by_cases hlt : k < len
      · obtain ⟨b, off, s, rfl, _, hs, hcell⟩ := hss.at hlt
        unfold maxLen at hs
        go_wp2
        · go_ret; exact ⟨⟨_, rfl⟩, rfl⟩
        · go_ret; exact ⟨⟨_, rfl⟩, rfl⟩
        · go_roundg (len - (k + 1))
          case measure => omega
          case rel => exact ⟨k + 1, z + s.size, by omega, by omega, rfl, by go_num, by go_num, rfl⟩
      · go_wp2
        all_goals (go_ret; exact ⟨⟨_, rfl⟩, rfl⟩)
  · go_enter Try.func4, Try.ntmps4
    go_wp2
    go_ret
    exact ⟨⟨_, rfl⟩, rfl⟩

set_option maxHeartbeats 1000000 in
/-- zzB1AddLens: some int; nothing turns. -/
theorem addLens_any (n : Int) (a : Option Addr) (len cap : Nat) (ss : List ByteArray) (w : World) (hss : IsStrs w a len cap ss) (hlen : len ≤ 65536) :
    Calls Try.prog 5 #[.int .i64 n, .slice a len cap] w fun e w' => (∃ n, e = .returned (.int .i64 n)) ∧ w = w' := by
  go_enter Try.func5, Try.ntmps5
  go_wp2
  go_loopg [0, 5] len (fun gk zn i wr => ∃ (k : Nat) (z : Int), k ≤ len ∧ gk = len - k ∧ zn = .int .i64 z ∧ i = .int .i64 k ∧ w = wr)
  case atStart => exact ⟨0, n, Nat.zero_le _, rfl, rfl, rfl, rfl⟩
  case round =>
    obtain ⟨k, z, hk, hgk, rfl, rfl, rfl⟩ := hrel
    by_cases hlt : k < len
    · obtain ⟨b, off, s, rfl, _, hs, hcell⟩ := hss.at hlt
      unfold maxLen at hs
      go_wp2
      · go_ret
        exact ⟨⟨_, rfl⟩, rfl⟩
      · go_roundg (len - (k + 1))
        case measure => omega
        case rel => exact ⟨k + 1, _, by omega, rfl, rfl, by go_num, rfl⟩
    · go_wp2
      go_ret
      exact ⟨⟨_, rfl⟩, rfl⟩

end Go.Proofs.Qxb6612657a
