import Derived.Test.Qxb6609416aDoorL
namespace Go.Proofs.Qxb6609416aDoor
open Go.RowKit

theorem zz2_yes (a0 a1 : Int) (b2 b3 : Bool) (a : Option Addr) (len cap : Nat) (h : len ≤ 1048576) (w : World) :
    Calls Tryd.prog 9 #[.int .i64 a0, .int .i64 a1, .bool b2, .bool b3, .slice a len cap] w fun e w' => e = .returned (.bool true) ∧ w = w' := by
  go_enter Tryd.func9, Tryd.ntmps9
  go_wp2
  go_ret
  exact ⟨rfl, rfl⟩
theorem zz2_no (a0 a1 : Int) (b2 b3 : Bool) (a : Option Addr) (len cap : Nat) (h : 1048576 < len) (w : World) :
    Calls Tryd.prog 9 #[.int .i64 a0, .int .i64 a1, .bool b2, .bool b3, .slice a len cap] w fun e w' => e = .returned (.bool false) ∧ w = w' := by
  go_enter Tryd.func9, Tryd.ntmps9
  go_wp2
  go_ret
  exact ⟨rfl, rfl⟩

set_option maxHeartbeats 1000000 in
set_option maxRecDepth 100000 in
theorem law2_long (a0 a1 : Int) (b2 b3 : Bool) (a : Option Addr) (len cap : Nat) (w : World) (h : 1048576 < len) :
    Calls Tryd.prog 4 #[.int .i64 a0, .int .i64 a1, .bool b2, .bool b3, .slice a len cap] w fun e w' => e = .returned (.bool true) ∧ Below w.heap.size w w' := by
  go_enter Tryd.func4, Tryd.ntmps4
  go_wp2_with (go_at_call 9; refine (zz2_no _ _ _ _ _ _ _ h _).mono ?_; rintro e w1 ⟨rfl, rfl⟩)
  go_ret
  exact ⟨rfl, Below.refl _ _⟩

set_option maxHeartbeats 1000000 in
set_option maxRecDepth 100000 in
theorem law2_size (a0 a1 : Int) (b2 b3 : Bool) (a : Option Addr) (len cap : Nat) (w : World) (h : len ≤ 1048576) (hs : a0 < 1 ∨ 65536 < a0) :
    Calls Tryd.prog 4 #[.int .i64 a0, .int .i64 a1, .bool b2, .bool b3, .slice a len cap] w fun e w' => e = .returned (.bool true) ∧ Below w.heap.size w w' := by
  rcases hs with hs | hs
  · go_enter Tryd.func4, Tryd.ntmps4
    go_wp2_with (go_at_call 9; refine (zz2_yes _ _ _ _ _ _ _ h _).mono ?_; rintro e w1 ⟨rfl, rfl⟩)
    go_ret
    exact ⟨rfl, Below.refl _ _⟩
  · have h0 : ¬ a0 < 1 := by omega
    go_enter Tryd.func4, Tryd.ntmps4
    go_wp2_with (go_at_call 9; refine (zz2_yes _ _ _ _ _ _ _ h _).mono ?_; rintro e w1 ⟨rfl, rfl⟩)
    go_ret
    exact ⟨rfl, Below.refl _ _⟩

set_option maxHeartbeats 1000000 in
set_option maxRecDepth 100000 in
theorem law2_short (size : Nat) (a1 : Int) (b2 b3 : Bool) (a : Option Addr) (len cap : Nat) (w : World) (h : len ≤ 1048576) (h1 : 1 ≤ size) (hs : size ≤ 65536) (hl : len < 2 * size) :
    Calls Tryd.prog 4 #[.int .i64 size, .int .i64 a1, .bool b2, .bool b3, .slice a len cap] w fun e w' => e = .returned (.bool true) ∧ Below w.heap.size w w' := by
  go_enter Tryd.func4, Tryd.ntmps4
  go_wp2_with (go_at_call 9; refine (zz2_yes _ _ _ _ _ _ _ h _).mono ?_; rintro e w1 ⟨rfl, rfl⟩)
  go_ret
  exact ⟨rfl, Below.refl _ _⟩

set_option maxHeartbeats 4000000 in
set_option maxRecDepth 100000 in
theorem law2_main (size : Nat) (a1 : Int) (b2 b3 : Bool) (a : Option Addr) (len cap : Nat) (zs : List Int) (ea : Addr) (uT : Nat) (ua : Option Addr) (w : World) (hd : IsBytes w a len cap zs) (h : len ≤ 1048576) (h1 : 1 ≤ size) (hs : size ≤ 65536) (hl : 2 * size ≤ len)
    (he : w.cell? ⟨1, 0, none⟩ = some (.iface 52 (.pointer (some ea)))) (hu : w.cell? ⟨2, 0, none⟩ = some (.iface uT (.pointer ua))) :
    Calls Tryd.prog 4 #[.int .i64 size, .int .i64 a1, .bool b2, .bool b3, .slice a len cap] w fun e w' => e = .returned (.bool true) ∧ Below w.heap.size w w' := by
  have h3 : 2 < w.heap.size := World.block_lt_of_cell? w ⟨2, 0, none⟩ hu
  have HC := hid (clone_any a len cap zs w hd h (by omega))
  have he' := hid he
  have hu' := hid hu
  clear he hu
  go_enter Tryd.func4, Tryd.ntmps4
  go_wp2_with (go_at_call 9; refine (zz2_yes _ _ _ _ _ _ _ h _).mono ?_; rintro e w1 ⟨rfl, rfl⟩)
  refine HC.out.mono ?_
  rintro e w1 ⟨s', c', bD, rfl, hc', hb1, hD1, hs1⟩
  have h4 : 2 < w1.heap.size := by have := hb1.size; omega
  clear HC
  go_wp2_with fail
  refine (zzNew_any size a1 b2 b3 s' len c' hs _).mono ?_
  rintro e w2 ⟨bS, bR, bB, bY, g, rfl, hm⟩
  have cx := ctx_of_made w w1 w2 size a1 b2 b3 s' len c' bD bS bR bB bY g zs _ ea uT ua hm hb1 hd.1 hd.2.1 h hs hc' hD1 hs1 he'.out hu'.out
  obtain ⟨d, hd0⟩ : ∃ d : Rd, d = ⟨bR, bB, bY, bD, s', len, c', bytesV zs⟩ := ⟨_, rfl⟩
  rw [← hd0] at cx
  have CX := hid cx
  clear cx hd0 hm hs1 hD1 hb1 h4 he' hu'
  obtain ⟨n, Hn⟩ : ∃ n, Hid (n = len / size) := ⟨_, rfl⟩
  have hnl : n * size ≤ len := by rw [Hn.out]; exact Nat.div_mul_le_self _ _
  have hnu : len < n * size + size := by rw [Hn.out]; exact Nat.lt_div_mul_add (by omega)
  have hn1 : n ≤ len := by rw [Hn.out]; exact Nat.div_le_self _ _
  have hn2 : 2 ≤ n := by rw [Hn.out]; exact (Nat.le_div_iff_mul_le (by omega)).2 hl
  -- the first entry
  go_wp2_with fail
  refine (CX.out.next w2 0 _ (Only.refl _ _) CX.out.st (Nat.zero_le _) CX.out.row List.length_replicate).mono ?_
  rintro e w3 ⟨gv, ev, rfl, hdl, hy, hn⟩
  rcases hdl.2 with ⟨hle, rfl, hst3, hg3⟩ | ⟨hlt', _⟩
  case inr => rw [CX.out.hN] at hlt'; omega
  obtain rfl := hy rfl
  have ho3 := hdl.1
  have hlen3 : ((d.D.drop 0).take size).length = size := by rw [List.length_take, List.length_drop, CX.out.hD]; have := hd.1; unfold bytesV; rw [List.length_map]; omega
  have HO3 := hid ho3
  have HST := hid hst3
  have HG := hid hg3
  have HL := hid hlen3
  clear hdl hy hn hst3 hg3 hlen3 ho3
  -- the second
  go_wp2_with fail
  refine (CX.out.next w3 (0 + size) _ HO3.out HST.out (by omega) HG.out HL.out).mono ?_
  rintro e w4 ⟨gv, ev, rfl, hdl, hy, hn⟩
  rcases hdl.2 with ⟨hle4, rfl, hst4, hg4⟩ | ⟨hlt', _⟩
  case inr => rw [CX.out.hN] at hlt'; omega
  obtain rfl := hy rfl
  have ho4 := HO3.out.trans hdl.1
  have hlen4 : ((d.D.drop (0 + size)).take size).length = size := by rw [List.length_take, List.length_drop, CX.out.hD]; have := hd.1; unfold bytesV; rw [List.length_map]; omega
  clear HO3 HST HG HL
  obtain ⟨b, off, rfl, hcell⟩ := entry_at CX.out hd ho4 (0 + size) hg4 (by omega) (by omega)
  have HCL := hid hcell
  have HO4 := hid ho4
  have HST := hid hst4
  have HG := hid hg4
  have HL := hid hlen4
  clear hdl hy hn hst4 hg4 hlen4 ho4 hcell
  go_wp2_with fail
  go_loopg [18] size (fun gk2 jv wi => ∃ (j nq : Nat), j ≤ size ∧ gk2 = size - j ∧ jv = .int .i64 j ∧ wi = w4.drewN nq)
  case atStart => exact ⟨0, 0, Nat.zero_le _, rfl, rfl, rfl⟩
  case round =>
    obtain ⟨j, nq, hj, hgk2, rfl, rfl⟩ := hrel
    by_cases hjs : j < size
    · obtain ⟨z, hz1, hz2⟩ := HCL.out j hjs
      rw [Nat.zero_add] at hz2
      have hw2 : IntKind.i64.wrap ((size : Int) + (j : Int)) = (size : Int) + (j : Int) := by rw [IntKind.wrap_i64]; omega
      have ht : ((size : Int) + (j : Int)).toNat = size + j := by omega
      have b0 : (0 : Int) ≤ (size : Int) + (j : Int) := by omega
      have b1 : (size : Int) + (j : Int) < (len : Int) := by omega
      have b4 : (j : Int) < (size : Int) := by omega
      clear hnl hnu
      go_wp2_with fail
      go_quiet (fail)
      go_wp2_with fail
      go_roundg (size - (j + 1))
      case measure => omega
      case rel => exact ⟨j + 1, _, by omega, rfl, by go_num, rfl⟩
    · have hq : wrap64 ((len : Int) / (size : Int)) = (n : Int) := by
        have e : (len : Int) / (size : Int) = (n : Int) := by rw [Hn.out]; exact (Int.natCast_ediv len size).symm
        rw [e]; unfold wrap64; omega
      go_wp2_with fail
      rw [hq]
      clear hq
      go_loopg [20, 21, 22] (n - 2) (fun gk i _ _ wr => ∃ q : Nat, 2 ≤ q ∧ q ≤ n ∧ gk = n - q ∧ i = .int .i64 q ∧ Only (d.T g) w2 wr ∧ St d (q * size) wr ∧ ∃ row, row.length = size ∧ Blk wr g 5 row)
      case atStart =>
        refine ⟨2, Nat.le_refl _, hn2, ?_, rfl, HO4.out.trans (Only.drewN _ _ _), ?_, _, HL.out, HG.out.drewN nq⟩
        · rfl
        · have e : 2 * size = 0 + size + size := by omega
          rw [e]; exact HST.out
      case round =>
        obtain ⟨q, hq2, hqn, hgk, rfl, ho, hst, row, hrow, hg⟩ := hrel
        by_cases hlt : q < n
        · have hqs : q * size + size ≤ n * size := by
            have := Nat.mul_le_mul_right size (show q + 1 ≤ n by omega)
            rw [Nat.add_mul, Nat.one_mul] at this
            exact this
          go_wp2_with fail
          refine (CX.out.next wr (q * size) row ho hst (by omega) hg hrow).mono ?_
          rintro e w5 ⟨gv, ev, rfl, hdl, hy, hn⟩
          rcases hdl.2 with ⟨hle, rfl, hst5, hg5⟩ | ⟨hlt', _⟩
          · obtain rfl := hy rfl
            have HO5 := hid (ho.trans hdl.1)
            have HST5 := hid hst5
            have HG5 := hid hg5
            have hlen5 : ((d.D.drop (q * size)).take size).length = size := by rw [List.length_take, List.length_drop, CX.out.hD]; have := hd.1; unfold bytesV; rw [List.length_map]; omega
            have HL5 := hid hlen5
            clear hdl hy hn hst hg hst5 hg5 hlen5
            go_wp2_with fail
            go_roundg (n - (q + 1))
            case measure => omega
            case rel =>
              refine ⟨q + 1, by omega, by omega, rfl, by go_num, HO5.out, ?_, _, HL5.out, HG5.out⟩
              have e : (q + 1) * size = q * size + size := by rw [Nat.add_mul, Nat.one_mul]
              rw [e]; exact HST5.out
          · rw [CX.out.hN] at hlt'; omega
        · have hqn' : q = n := by omega
          go_wp2_with fail
          refine (CX.out.next wr (q * size) row ho hst (by rw [hqn']; exact hnl) hg hrow).mono ?_
          rintro e w5 ⟨gv, ev, rfl, hdl, hy, hn⟩
          rcases hdl.2 with ⟨hle, rfl, _⟩ | ⟨_, ⟨t, x, rfl⟩, hst5, row5, hrow5, hg5⟩
          · rw [CX.out.hN, hqn'] at hle; omega
          · obtain rfl := hn (by simp)
            have HO5 := hid (ho.trans hdl.1)
            have HST5 := hid hst5
            have HG5 := hid hg5
            clear hdl hy hn hst hg hst5 hg5 hqn' hnl hnu
            go_wp2_with fail
            refine (CX.out.next w5 d.N row5 HO5.out HST5.out (by rw [CX.out.hN]; exact Nat.le_refl _) HG5.out hrow5).mono ?_
            rintro e w6 ⟨gv, ev, rfl, hdl, hy, hn⟩
            rcases hdl.2 with ⟨hle, rfl, _⟩ | ⟨_, ⟨t', x', rfl⟩, _⟩
            · omega
            · obtain rfl := hn (by simp)
              have hb6 : Below w.heap.size w w6 := CX.out.below.trans ((HO5.out.trans hdl.1).below CX.out.hT)
              have hq := fun w => Lib.run_eql_slice_nil (P := Tryd.prog) w 22 5 none 0 0 0 0 Tryd.underlying22
              clear hdl hy hn CX HO5 HST5 HG5
              go_wp2_with fail
              go_ret
              exact ⟨rfl, hb6⟩

theorem law2 (a0 a1 : Int) (b2 b3 : Bool) (a : Option Addr) (len cap : Nat) (zs : List Int) (ea : Addr) (uT : Nat) (ua : Option Addr) (w : World) (hd : IsBytes w a len cap zs)
    (he : w.cell? ⟨1, 0, none⟩ = some (.iface 52 (.pointer (some ea)))) (hu : w.cell? ⟨2, 0, none⟩ = some (.iface uT (.pointer ua))) :
    Calls Tryd.prog 4 #[.int .i64 a0, .int .i64 a1, .bool b2, .bool b3, .slice a len cap] w fun e w' => e = .returned (.bool true) ∧ Below w.heap.size w w' := by
  by_cases h : 1048576 < len
  · exact law2_long a0 a1 b2 b3 a len cap w h
  · by_cases hs : a0 < 1 ∨ 65536 < a0
    · exact law2_size a0 a1 b2 b3 a len cap w (by omega) hs
    · obtain ⟨n, rfl⟩ : ∃ n : Nat, a0 = n := ⟨a0.toNat, by omega⟩
      by_cases hl : len < 2 * n
      · exact law2_short n a1 b2 b3 a len cap w (by omega) (by omega) (by omega) hl
      · exact law2_main n a1 b2 b3 a len cap zs ea uT ua w hd (by omega) (by omega) (by omega) (by omega) he hu

end Go.Proofs.Qxb6609416aDoor
