import Derived.Test.Qxb6609416aDoorG
import Derived.Deep.LoopGhost
import Derived.LaidEql
namespace Go.Proofs.Qxb6609416aDoor
open Go.RowKit

/-- The same, in one form: how many bytes, and the error. -/
theorem read_one (d : Rd) (g off n m pos : Nat) (row : List Value) (eT : Nat) (ea : Option Addr) (w : World) (ok : d.Ok g) (hs : St d pos w) (hg : Blk w g 5 row) (hfit : off + n ≤ row.length) (hn0 : 0 < n) (hn : n ≤ 65536)
    (he : w.cell? ⟨1, 0, none⟩ = some (.iface eT (.pointer ea))) :
    Calls Tryd.prog 32 #[.pointer (some ⟨d.bR, 0, none⟩), .slice (some ⟨g, off, none⟩) n m] w fun e w' => ∃ (k : Nat) (ev : Value), e = .returned (.tuple #[.int .i64 k, ev]) ∧ Only (d.T g) w w' ∧ k ≤ n ∧ pos + k ≤ d.N ∧
      St d (pos + k) w' ∧ Blk w' g 5 (splice row off ((d.D.drop pos).take k)) ∧ ((0 < k ∧ ev = .nilIface) ∨ (k = 0 ∧ pos = d.N ∧ ev = .iface eT (.pointer ea))) := by
  refine (read_any d g off n m pos row eT ea w ok hs hg hfit hn0 hn he).mono ?_
  rintro e w' ⟨ho, ⟨hp, rfl, hs', hg'⟩ | ⟨k, hk0, hkn, hpk, rfl, hs', hg'⟩⟩
  · refine ⟨0, _, rfl, ho, by omega, by omega, hs', ?_, .inr ⟨rfl, hp, rfl⟩⟩
    have e : splice row off ((d.D.drop pos).take 0) = row := by simp [splice]
    rw [e]; exact hg'
  · exact ⟨k, _, rfl, ho, hkn, hpk, hs', hg', .inl ⟨hk0, rfl⟩⟩

theorem splice_next {α : Type} (row D : List α) (pos j k : Nat) (hj : j + k ≤ row.length) (hD : pos + j + k ≤ D.length) :
    splice (splice row 0 ((D.drop pos).take j)) j ((D.drop (pos + j)).take k) = splice row 0 ((D.drop pos).take (j + k)) := by
  have l1 : ((D.drop pos).take j).length = j := by rw [List.length_take, List.length_drop]; omega
  have l2 : ((D.drop (pos + j)).take k).length = k := by rw [List.length_take, List.length_drop]; omega
  have l3 : ((D.drop pos).take (j + k)).length = j + k := by rw [List.length_take, List.length_drop]; omega
  have e1 : splice row 0 ((D.drop pos).take j) = (D.drop pos).take j ++ row.drop j := by simp [splice]; omega
  have e3 : splice row 0 ((D.drop pos).take (j + k)) = (D.drop pos).take (j + k) ++ row.drop (j + k) := by simp [splice]; omega
  rw [e1, e3]
  unfold splice
  have t1 : ((D.drop pos).take j ++ row.drop j).take j = (D.drop pos).take j := List.take_left' l1
  have t2 : ((D.drop pos).take j ++ row.drop j).drop (j + k) = row.drop (j + k) := by
    rw [← List.drop_drop, List.drop_left' l1, List.drop_drop]
  rw [l2, t1, t2, List.take_add, List.drop_drop, List.append_assoc]

theorem comp52 : (Tryd.prog.info? 52).map (·.comparable) = some true := by kernel_rfl
theorem ptr52 : ∃ te, Tryd.prog.underlying 52 = some (.pointer te) ∧ ((Tryd.prog.info? te).map (·.size)) = some 1 := ⟨_, Tryd.underlying52, by kernel_rfl⟩

/-- 'err == io.EOF', the two one pointer. -/
theorem eql_eof (a : Addr) (w : World) : (binOp .eql 30 (.iface 52 (.pointer (some a))) (.iface 52 (.pointer (some a)))).run Tryd.prog w = .ok (.bool true) w := by
  obtain ⟨i, hi, hc⟩ := Option.map_eq_some_iff.1 comp52
  obtain ⟨te, ht, hs⟩ := ptr52
  obtain ⟨j, hj, _⟩ := Option.map_eq_some_iff.1 hs
  exact run_eql_iface_ptr_same w a Tryd.underlying30 ht hi hc hj

set_option maxHeartbeats 1000000 in
set_option maxRecDepth 100000 in
/-- 'io.ReadAtLeast(r, buf, len(buf))'. -/
theorem readAtLeast_any (d : Rd) (g size pos : Nat) (row : List Value) (ea : Addr) (uT : Nat) (ua : Option Addr) (w : World) (ok : d.Ok g) (hs : St d pos w) (hp : pos ≤ d.N) (hg : Blk w g 5 row) (hrow : row.length = size) (hn : size ≤ 65536)
    (he : w.cell? ⟨1, 0, none⟩ = some (.iface 52 (.pointer (some ea)))) (hu : w.cell? ⟨2, 0, none⟩ = some (.iface uT (.pointer ua))) :
    Calls Tryd.prog 14 #[.iface 33 (.pointer (some ⟨d.bR, 0, none⟩)), .slice (some ⟨g, 0, none⟩) size size, .int .i64 size] w fun e w' => ∃ (k : Int) (ev : Value), e = .returned (.tuple #[.int .i64 k, ev]) ∧ Only (d.T g) w w' ∧
      ((pos + size ≤ d.N ∧ ev = .nilIface ∧ St d (pos + size) w' ∧ Blk w' g 5 ((d.D.drop pos).take size)) ∨
       (d.N < pos + size ∧ (∃ t a, ev = .iface t (.pointer a)) ∧ St d d.N w' ∧ ∃ row', row'.length = size ∧ Blk w' g 5 row')) := by
  go_enter Tryd.func14, Tryd.ntmps14
  go_wp2
  go_loopg [6, 7, 8] (2 * size + 1) (fun gk n err _ wr => ∃ j : Nat, j ≤ size ∧ pos + j ≤ d.N ∧ n = .int .i64 j ∧ Only (d.T g) w wr ∧ St d (pos + j) wr ∧ Blk wr g 5 (splice row 0 ((d.D.drop pos).take j)) ∧
    ((err = .nilIface ∧ gk = 2 * (size - j) + 1) ∨ (err = .iface 52 (.pointer (some ea)) ∧ pos + j = d.N ∧ j < size ∧ gk = 2 * (size - j))))
  case atStart =>
    refine ⟨0, Nat.zero_le _, hp, rfl, Only.refl _ _, hs, ?_, .inl ⟨rfl, by omega⟩⟩
    have e : splice row 0 ((d.D.drop pos).take 0) = row := by simp [splice]
    rw [e]; exact hg
  case round =>
    obtain ⟨j, hj, hjN, rfl, ho, hst, hgr, hcase⟩ := hrel
    rcases hcase with ⟨rfl, hgk⟩ | ⟨rfl, hjE, hjs, hgk⟩
    · by_cases hlt : j < size
      · -- one read more
        go_wp2_with fail
        have har := ahead_r
        have hmr := method_r
        have hi1 : (j : Int) ≤ (size : Int) := by omega
        have hi2 : ¬ size = j := by omega
        have HE : Hid (Calls Tryd.prog 32 #[.pointer (some ⟨d.bR, 0, none⟩), .slice (some ⟨g, j, none⟩) (size - j) (size - j)] wr.drew fun e w' => ∃ (k : Nat) (ev : Value), e = .returned (.tuple #[.int .i64 k, ev]) ∧ Only (d.T g) wr.drew w' ∧ k ≤ size - j ∧ pos + j + k ≤ d.N ∧
            St d (pos + j + k) w' ∧ Blk w' g 5 (splice (splice row 0 ((d.D.drop pos).take j)) j ((d.D.drop (pos + j)).take k)) ∧ ((0 < k ∧ ev = .nilIface) ∨ (k = 0 ∧ pos + j = d.N ∧ ev = .iface 52 (.pointer (some ea))))) :=
          read_one d g j (size - j) (size - j) (pos + j) _ 52 (some ea) wr.drew ok hst hgr (by rw [length_splice _ _ _ (by rw [List.length_take, List.length_drop, ok.hDl]; omega), hrow]; omega) (by omega) (by omega)
            ((ho.cell (p := ⟨1, 0, none⟩) (by have := ok.R1; have := ok.B1; have := ok.Y1; have := ok.g1; unfold Rd.T; simp; omega)).trans he)
        go_region_held3 (fun _ => True) (trivial) ((go_at_call 32; refine HE.out.mono ?_; rintro e w1 ⟨k, ev, rfl, ho1, hk, hkN, hst1, hg1, hev⟩))
        have o1 : Only (d.T g) w w1 := ho.trans ((Only.drew _ _).trans ho1)
        rw [splice_next row d.D pos j k (by omega) (by rw [ok.hDl]; omega)] at hg1
        clear HE har hmr hgr hst
        rcases hev with ⟨hk0, rfl⟩ | ⟨rfl, hjE, rfl⟩
        · go_wp2
          go_roundg (2 * (size - (j + k)) + 1)
          case measure => omega
          case rel => exact ⟨j + k, by omega, by omega, by go_num, o1, by rw [← Nat.add_assoc]; exact hst1, hg1, .inl ⟨rfl, rfl⟩⟩
        · go_wp2
          go_roundg (2 * (size - j))
          case measure => omega
          case rel => exact ⟨j, by omega, by omega, by go_num, o1, hst1, hg1, .inr ⟨rfl, hjE, hlt, rfl⟩⟩
      · -- all is there
        have hjs : j = size := by omega
        go_wp2
        go_ret2
        refine ⟨_, _, rfl, ho, .inl ⟨by omega, rfl, hjs ▸ hst, ?_⟩⟩
        have e : splice row 0 ((d.D.drop pos).take j) = (d.D.drop pos).take size := by
          subst hjs
          have l : ((d.D.drop pos).take j).length = j := by rw [List.length_take, List.length_drop, ok.hDl]; omega
          have z : row.drop (0 + j) = [] := List.drop_eq_nil_of_le (by omega)
          unfold splice
          rw [l, List.take_zero, List.nil_append, z, List.append_nil]
        rw [← e]; exact hgr
    · -- the end
      have he' : wr.cell? ⟨1, 0, none⟩ = some (.iface 52 (.pointer (some ea))) := (ho.cell (p := ⟨1, 0, none⟩) (by have := ok.R1; have := ok.B1; have := ok.Y1; have := ok.g1; unfold Rd.T; simp; omega)).trans he
      have hu' : wr.cell? ⟨2, 0, none⟩ = some (.iface uT (.pointer ua)) := (ho.cell (p := ⟨2, 0, none⟩) (by have := ok.R1; have := ok.B1; have := ok.Y1; have := ok.g1; unfold Rd.T; simp; omega)).trans hu
      have hq := eql_eof
      have hst' : St d d.N wr := hjE ▸ hst
      have hlen : (splice row 0 ((d.D.drop pos).take j)).length = size := by rw [length_splice _ _ _ (by rw [List.length_take, List.length_drop, ok.hDl]; omega), hrow]
      clear he hu
      by_cases hj0 : 0 < j
      · go_wp2
        go_ret2
        exact ⟨_, _, rfl, ho, .inr ⟨by omega, ⟨_, _, rfl⟩, hst', _, hlen, hgr⟩⟩
      · go_wp2
        go_ret2
        exact ⟨_, _, rfl, ho, .inr ⟨by omega, ⟨_, _, rfl⟩, hst', _, hlen, hgr⟩⟩

end Go.Proofs.Qxb6609416aDoor
