import Derived.Test.Qxb6609472aFmtProg
import Derived.Test.Qxb6609472aFmtA
import Derived.WalkSpells
import Derived.BigQuiet
import Derived.Deep.QuietTactic
import Derived.Deep.RegionHeld3
import Derived.Deep.LoopGhost
namespace Go.Proofs.Qxb6609472aFmt
open Go.RowKit

/-- What the walks are told of the strings that came in. -/
def IsStrs (w : World) (a : Option Addr) (len cap : Nat) (ss : List ByteArray) : Prop :=
  ss.length = len ∧ (∀ s ∈ ss, s.size ≤ maxLen) ∧ ((a = none ∧ len = 0 ∧ cap = 0) ∨ ∃ x, a = some x ∧ ∀ k, k < len → ∃ b off, x = ⟨b, off, none⟩ ∧ w.cell? ⟨b, off + k, none⟩ = some (.string (ss.getD k ByteArray.empty)))

/-- The k-th of them. -/
theorem IsStrs.at {w : World} {a : Option Addr} {len cap : Nat} {ss : List ByteArray} (h : IsStrs w a len cap ss) {k : Nat} (hk : k < len) :
    ∃ b off s, a = some ⟨b, off, none⟩ ∧ ss[k]? = some s ∧ s.size ≤ maxLen ∧ w.cell? ⟨b, off + k, none⟩ = some (.string s) := by
  obtain ⟨hl, hz, ⟨_, h0, _⟩ | ⟨x, rfl, hc⟩⟩ := h
  · omega
  obtain ⟨b, off, rfl, hcell⟩ := hc k hk
  have hm : ss[k]? = some (ss[k]'(by omega)) := List.getElem?_eq_getElem _
  refine ⟨b, off, _, rfl, hm, hz _ (List.mem_of_getElem? hm), ?_⟩
  rw [hcell, List.getD_eq_getElem?_getD, hm]; rfl
theorem IsStrs.kept {w w' : World} {a : Option Addr} {len cap : Nat} {ss : List ByteArray} (h : IsStrs w a len cap ss) (hb : Below w.heap.size w w') : IsStrs w' a len cap ss := by
  obtain ⟨hl, hz, h' | ⟨x, rfl, hc⟩⟩ := h
  · exact ⟨hl, hz, .inl h'⟩
  · refine ⟨hl, hz, .inr ⟨x, rfl, fun k hk => ?_⟩⟩
    obtain ⟨b, off, rfl, hcell⟩ := hc k hk
    exact ⟨b, off, rfl, (hb.cell (p := ⟨b, off + k, none⟩) (World.block_lt_of_cell? w _ hcell)).trans hcell⟩

set_option maxHeartbeats 1000000 in
/-- zzBytes: some bool; nothing turns. -/
theorem zz_any (a : Option Addr) (len cap : Nat) (ss : List ByteArray) (id : ByteArray) (w : World) (hss : IsStrs w a len cap ss) (hid : id.size ≤ maxLen) :
    Calls Tryf.prog 13 #[.slice a len cap, .string id] w fun e w' => (∃ b, e = .returned (.bool b)) ∧ w = w' := by
  unfold maxLen at hid
  by_cases hlen : len ≤ 1048576
  · go_enter Tryf.func13, Tryf.ntmps13
    go_wp2
    go_loopg [5, 6] len (fun gk zn i wr => ∃ k z : Nat, k ≤ len ∧ z ≤ 1048576 ∧ gk = len - k ∧ zn = .int .i64 z ∧ i = .int .i64 k ∧ w = wr)
    case atStart => exact ⟨0, len, Nat.zero_le _, hlen, rfl, rfl, rfl, rfl⟩
    case round =>
      obtain ⟨k, z, hk, hz, hgk, rfl, rfl, rfl⟩ := hrel
      by_cases hlt : k < len
      · obtain ⟨b, off, s, rfl, _, hs, hcell⟩ := hss.at hlt
        unfold maxLen at hs
        go_wp2
        · go_ret; exact ⟨⟨_, rfl⟩, rfl⟩
        · go_ret; exact ⟨⟨_, rfl⟩, rfl⟩
        · go_roundg (len - (k + 1))
          case measure => omega
          case rel => exact ⟨k + 1, z + s.size, by omega, by omega, rfl, by go_num, by go_num, rfl⟩
      · go_wp2
        all_goals (go_ret; exact ⟨⟨_, rfl⟩, rfl⟩)
  · go_enter Tryf.func13, Tryf.ntmps13
    go_wp2
    go_ret
    exact ⟨⟨_, rfl⟩, rfl⟩

set_option maxHeartbeats 1000000 in
/-- zzStringsBytes: some int; nothing turns. -/
theorem strsBytes_any (a : Option Addr) (len cap : Nat) (ss : List ByteArray) (w : World) (hss : IsStrs w a len cap ss) (hlen : len ≤ 65536) :
    Calls Tryf.prog 7 #[.slice a len cap] w fun e w' => (∃ n, e = .returned (.int .i64 n)) ∧ w = w' := by
  go_enter Tryf.func7, Tryf.ntmps7
  go_wp2
  go_loopg [3, 4] len (fun gk zn i wr => ∃ (k : Nat) (z : Int), k ≤ len ∧ gk = len - k ∧ zn = .int .i64 z ∧ i = .int .i64 k ∧ w = wr)
  case atStart => exact ⟨0, 0, Nat.zero_le _, rfl, rfl, rfl, rfl⟩
  case round =>
    obtain ⟨k, z, hk, hgk, rfl, rfl, rfl⟩ := hrel
    by_cases hlt : k < len
    · obtain ⟨b, off, s, rfl, _, hs, hcell⟩ := hss.at hlt
      unfold maxLen at hs
      go_wp2
      go_roundg (len - (k + 1))
      case measure => omega
      case rel => exact ⟨k + 1, _, by omega, rfl, rfl, by go_num, rfl⟩
    · go_wp2
      go_ret
      exact ⟨⟨_, rfl⟩, rfl⟩

set_option maxHeartbeats 1000000 in
/-- zzHas. -/
theorem has_any (a : Option Addr) (len cap : Nat) (ss : List ByteArray) (x : ByteArray) (w : World) (hss : IsStrs w a len cap ss) (hlen : len ≤ 65536) :
    Calls Tryf.prog 10 #[.slice a len cap, .string x] w fun e w' => e = .returned (.bool (hasB ss x)) ∧ w = w' := by
  go_enter Tryf.func10, Tryf.ntmps10
  go_wp2
  go_loopg [5] len (fun gk i wr => ∃ k : Nat, k ≤ len ∧ gk = len - k ∧ i = .int .i64 k ∧ w = wr ∧ Hid (hasB (ss.take k) x = false))
  case atStart => exact ⟨0, Nat.zero_le _, rfl, rfl, rfl, rfl⟩
  case round =>
    obtain ⟨k, hk, hgk, rfl, rfl, hno⟩ := hrel
    by_cases hlt : k < len
    · obtain ⟨b, off, s, rfl, hsk, hs, hcell⟩ := hss.at hlt
      by_cases hsx : s = x
      · have hq : (s.toList == x.toList) = true := by rw [toList_beq, hsx]; simp
        have hh : Hid (hasB ss x = true) := by
          show hasB ss x = true
          unfold hasB
          rw [List.any_eq_true]
          exact ⟨s, List.mem_of_getElem? hsk, by simpa using hsx⟩
        clear hsx hsk
        go_wp2
        go_ret
        exact ⟨by rw [hh.out]; rfl, rfl⟩
      · have hq : (s.toList == x.toList) = false := by rw [toList_beq]; simpa using hsx
        have hh : Hid (hasB (ss.take (k + 1)) x = false) := by
          show hasB _ x = false
          have h1 := hno.out
          unfold hasB at h1 ⊢
          have hkl : k < ss.length := (List.getElem?_eq_some_iff.1 hsk).1
          have e : ss[k] = s := (List.getElem?_eq_some_iff.1 hsk).2
          rw [List.take_succ_eq_append_getElem hkl, List.any_append, h1, e]
          simpa using hsx
        clear hsx hsk
        go_wp2
        go_roundg (len - (k + 1))
        case measure => omega
        case rel => exact ⟨k + 1, by omega, rfl, by go_num, rfl, hh⟩
    · have hh : Hid (hasB ss x = false) := by
        have h1 := hno.out
        rw [List.take_of_length_le (by have := hss.1; omega)] at h1
        exact h1
      go_wp2
      go_ret
      exact ⟨by rw [hh.out]; rfl, rfl⟩

end Go.Proofs.Qxb6609472aFmt
