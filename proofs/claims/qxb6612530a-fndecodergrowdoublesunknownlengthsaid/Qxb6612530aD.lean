import Derived.Test.Qxb6612530aC
import Derived.Deep.Cut
namespace Go.Proofs.Qxb6612530a
open Go.RowKit

set_option maxHeartbeats 1000000 in
set_option maxRecDepth 100000 in
theorem law_early (a : Option Addr) (len cap : Nat) (k : Int) (w : World) (h : 1048576 < len ∨ (len ≤ 1048576 ∧ (1048576 < cap ∨ (cap ≤ 1048576 ∧ (k < 1 ∨ 4 < k))))) :
    Calls Try.prog 4 #[.slice a len cap, .int .i64 k] w fun e w' => e = .returned (.bool true) ∧ Below w.heap.size w w' := by
  rcases h with h | ⟨h, h2 | ⟨h2, h3 | h3⟩⟩
  · go_enter Try.func4, Try.ntmps4
    go_wp2_with (go_at_call 9; refine (zz_no _ _ _ _ h _).mono ?_; rintro e w1 ⟨rfl, rfl⟩)
    go_ret
    exact ⟨rfl, Below.refl _ _⟩
  · go_enter Try.func4, Try.ntmps4
    go_wp2_with (go_at_call 9; refine (zz_yes _ _ _ _ h _).mono ?_; rintro e w1 ⟨rfl, rfl⟩)
    go_ret
    exact ⟨rfl, Below.refl _ _⟩
  · go_enter Try.func4, Try.ntmps4
    go_wp2_with (go_at_call 9; refine (zz_yes _ _ _ _ h _).mono ?_; rintro e w1 ⟨rfl, rfl⟩)
    go_ret
    exact ⟨rfl, Below.refl _ _⟩
  · have h4 : ¬ k < 1 := by omega
    go_enter Try.func4, Try.ntmps4
    go_wp2_with (go_at_call 9; refine (zz_yes _ _ _ _ h _).mono ?_; rintro e w1 ⟨rfl, rfl⟩)
    go_ret
    exact ⟨rfl, Below.refl _ _⟩

theorem newDec_any (g n c : Nat) (w : World) : Calls Try.prog 10 #[.slice (some ⟨g, 0, none⟩) n c, .int .i64 0] w fun e w' => e = .returned (.pointer (some ⟨w.heap.size, 0, none⟩)) ∧ w.alloc (.cells (decC g n c).toArray 45) = w' := by
  go_enter Try.func10, Try.ntmps10
  go_wp2
  go_ret
  exact ⟨rfl, rfl⟩
theorem decText_any (bd g n c : Nat) (w : World) (h : Blk w bd 45 (decC g n c)) : Calls Try.prog 12 #[.pointer (some ⟨bd, 0, none⟩)] w fun e w' => e = .returned (.slice (some ⟨g, 0, none⟩) n c) ∧ w = w' := by
  have h0 := h.cell (i := 0) (by rfl)
  go_enter Try.func12, Try.ntmps12
  go_wp2
  go_ret
  exact ⟨rfl, rfl⟩

theorem shl_small (cap j c : Nat) (h1 : 1 ≤ j) (h4 : j ≤ 4) (hb : cap < 32768) (hc : capAt cap j = c) : wrap64 (32768 * 2 ^ j) = (c : Int) := by
  subst hc
  obtain rfl | rfl | rfl | rfl : j = 1 ∨ j = 2 ∨ j = 3 ∨ j = 4 := by omega
  · rw [(capAt_one cap).1 hb]; unfold wrap64; rfl
  · rw [(capAt_two cap).1 hb]; unfold wrap64; rfl
  · rw [(capAt_three cap).1 hb]; unfold wrap64; rfl
  · rw [(capAt_four cap).1 hb]; unfold wrap64; rfl
theorem shl_large (cap j c : Nat) (h1 : 1 ≤ j) (h4 : j ≤ 4) (hb : ¬ cap < 32768) (hm : cap ≤ 1048576) (hc : capAt cap j = c) : wrap64 ((cap : Int) * 2 ^ j) = (c : Int) := by
  subst hc
  have hb' : 32768 ≤ cap := by omega
  have e : wrap64 ((cap : Int) * 2 ^ j) = (cap : Int) * 2 ^ j ∧ (cap : Int) * 2 ^ j = (capAt cap j : Int) := by
    obtain rfl | rfl | rfl | rfl : j = 1 ∨ j = 2 ∨ j = 3 ∨ j = 4 := by omega
    · rw [(capAt_one cap).2 hb', show (2 : Int) ^ 1 = 2 from rfl]
      exact ⟨by unfold wrap64; omega, by omega⟩
    · rw [(capAt_two cap).2 hb', show (2 : Int) ^ 2 = 4 from rfl]
      exact ⟨by unfold wrap64; omega, by omega⟩
    · rw [(capAt_three cap).2 hb', show (2 : Int) ^ 3 = 8 from rfl]
      exact ⟨by unfold wrap64; omega, by omega⟩
    · rw [(capAt_four cap).2 hb', show (2 : Int) ^ 4 = 16 from rfl]
      exact ⟨by unfold wrap64; omega, by omega⟩
  rw [e.1, e.2]

set_option maxHeartbeats 4000000 in
set_option maxRecDepth 100000 in
theorem law_main (a : Option Addr) (len cap kn : Nat) (zs : List Int) (w : World) (hz : IsBytes w a len cap zs) (h1 : len ≤ 1048576) (h2 : cap ≤ 1048576) (hk : 1 ≤ kn ∧ kn ≤ 4) :
    Calls Try.prog 4 #[.slice a len cap, .int .i64 kn] w fun e w' => e = .returned (.bool true) ∧ Below w.heap.size w w' := by
  obtain ⟨w2, hcopy, hB, hO⟩ := copy_any a len cap zs w hz
  have hlc := hz.2.1
  have hzl := hz.1
  have hm := make_bytes len cap hlc (by omega)
  obtain ⟨hk1, hk4⟩ := hk
  go_enter Try.func4, Try.ntmps4
  go_wp2_with (first | (go_at_call 9; refine (zz_yes _ _ _ _ h1 _).mono ?_; rintro e w1 ⟨rfl, rfl⟩) | (go_at_call 10; refine (newDec_any _ _ _ _).mono ?_; rintro e w1 ⟨rfl, rfl⟩))
  clear hcopy hm
  have hs0 : w2.heap.size = w.heap.size + 1 := by rw [hO.size]; simp
  have hbel2 : Below w.heap.size w w2 := ((Below.refl _ _).alloc (Nat.le_refl _) _).trans (hO.below (fun k hk => by omega))
  have hcl0 : (bytesV zs ++ (zeros cap).drop len).length = cap := by unfold bytesV zeros; rw [List.length_append, List.length_map, List.length_drop, List.length_replicate]; omega
  have hct0 : (bytesV zs ++ (zeros cap).drop len).take len = bytesV zs := List.take_left' (by unfold bytesV; rw [List.length_map, hzl])
  have hone0 : ∀ v ∈ bytesV zs ++ (zeros cap).drop len, v.oneCell' = true := by
    intro v hv
    rcases List.mem_append.1 hv with h | h
    · exact bytesV_one zs v h
    · exact zeros_one cap v (List.mem_of_mem_drop h)
  have HS0 := hid hs0
  have HI0 : Hid (Below w.heap.size w (w2.alloc (.cells (decC w.heap.size len cap).toArray 45)) ∧ Blk (w2.alloc (.cells (decC w.heap.size len cap).toArray 45)) w2.heap.size 45 (decC w.heap.size len cap) ∧ Blk (w2.alloc (.cells (decC w.heap.size len cap).toArray 45)) w.heap.size 5 (bytesV zs ++ (zeros cap).drop len)) :=
    ⟨hbel2.alloc (by omega) _, Blk.new w2 45 _, hB.alloc _⟩
  have HC0 := hid hcl0
  have HT0 := hid hct0
  have HN0 := hid hone0
  clear hs0 hbel2 hcl0 hct0 hone0 hB hO
  go_loopg [8] kn (fun gk i wr => ∃ (j g : Nat) (cs : List Value), j ≤ kn ∧ gk = kn - j ∧ i = .int .i64 j ∧ Below w.heap.size w wr ∧ Blk wr w2.heap.size 45 (decC g len (capAt cap j)) ∧ Blk wr g 5 cs ∧ cs.length = capAt cap j ∧ cs.take len = bytesV zs ∧ (∀ v ∈ cs, v.oneCell' = true) ∧ len ≤ capAt cap j)
  case atStart => exact ⟨0, w.heap.size, _, Nat.zero_le _, rfl, rfl, HI0.out.1, HI0.out.2.1, HI0.out.2.2, HC0.out, HT0.out, HN0.out, hlc⟩
  case round =>
    obtain ⟨j, g, cs, hj, hgk, rfl, hbel, hd, hg, hcl, hct, hone, hlcj⟩ := hrel
    clear HI0 HC0 HT0 HN0
    by_cases hlt : j < kn
    · have HG := hid (zzgrow_any w2.heap.size g len (capAt cap j) (capAt cap (j + 1)) cs wr hd hg hcl hlcj (capAt_le cap j h2 (by omega)) hone rfl)
      have HB := hid hbel
      clear hd hg hbel hcl
      go_wp2_with fail
      refine HG.out.mono ?_
      rintro e w3 ⟨rfl, g', hg', hd', hr', hb', hk'⟩
      have HR : Hid (Below w.heap.size w w3) := HB.out.trans (hb'.mono (by have := HS0.out; omega))
      have HD := hid hd'
      have HX := hid hr'
      have HCT := hid hct
      clear hd' hr' hb' hk' HG HB hct
      go_wp2_with fail
      go_roundg (kn - (j + 1))
      case measure => omega
      case rel =>
        have hcap : len ≤ capAt cap (j + 1) := by simp only [capAt]; omega
        refine ⟨j + 1, g', _, by omega, rfl, by go_num, HR.out, HD.out, HX.out, ?_, ?_, ?_, hcap⟩
        · rw [HCT.out]; unfold bytesV zeros; rw [List.length_append, List.length_map, List.length_drop, List.length_replicate]; omega
        · rw [HCT.out]; exact List.take_left' (by unfold bytesV; rw [List.length_map, hzl])
        · intro v hv
          rw [HCT.out] at hv
          rcases List.mem_append.1 hv with h | h
          · exact bytesV_one zs v h
          · exact zeros_one _ v (List.mem_of_mem_drop h)
    · have hjk : j = kn := by omega
      subst hjk
      have HT := hid (decText_any w2.heap.size g len (capAt cap j) wr hd)
      have HG := hid hg
      have HCT := hid hct
      clear hd hg hcl hct hone HS0
      go_wp2_with fail
      refine HT.out.mono ?_
      rintro e w3 ⟨rfl, rfl⟩
      generalize hcj : capAt cap j = c at hlcj ⊢
      have HCJ := hid hcj
      clear hcj HT hlt hj
      have HM := hid h2
      have HLN := hid h1
      have HZ := hid hz
      clear h1 h2 hz
      have hwk : IntKind.u64.wrap (j : Int) = (j : Int) := by
        obtain rfl | rfl | rfl | rfl : j = 1 ∨ j = 2 ∨ j = 3 ∨ j = 4 := by omega
        all_goals rfl
      have hjn : ((j : Int)).toNat = j := Int.toNat_natCast j
      rename ((1 : Int) ≤ (j : Int) ∧ (j : Int) ≤ 4) => hx3
      rename ((1 : Int) ≤ (j : Int)) => hx2
      rename ((len : Int) ≤ 1048576 ∧ (cap : Int) ≤ 1048576) => hx1
      rename ((len : Int) ≤ 1048576) => hx0
      clear hx0 hx1 hx2 hx3
      by_cases hb : cap < 32768
      · have hbI : (cap : Int) < 32768 := by omega
        go_upto_region 19 with (fail)
        have hj0 : (0 : Int) ≤ (j : Int) := Int.natCast_nonneg j
        have hsh : wrap64 (32768 * 2 ^ j) = (c : Int) := shl_small cap j c hk1 hk4 hb HCJ.out
        clear hb hbI HCJ
        go_wp2_with fail
        go_loopg [12] len (fun gk2 iv wi => ∃ (q nq : Nat), q ≤ len ∧ gk2 = len - q ∧ iv = .int .i64 q ∧ wi = wr.drewN nq)
        case atStart => exact ⟨0, 0, Nat.zero_le _, rfl, rfl, rfl⟩
        case round =>
          obtain ⟨q, nq, hq, hgk2, rfl, rfl⟩ := hrel
          by_cases hqs : q < len
          · have hgc : wr.cell? ⟨g, q, none⟩ = some (.int .u8 (zs.getD q 0)) := HG.out.cell (by
              have := bytesV_at zs q (by omega)
              rw [← HCT.out, List.getElem?_take_of_lt hqs] at this
              exact this)
            obtain ⟨b, off, rfl, hzc⟩ : ∃ b off, a = some ⟨b, off, none⟩ ∧ wr.cell? ⟨b, off + q, none⟩ = some (.int .u8 (zs.getD q 0)) := by
              rcases HZ.out.2.2 with ⟨_, h0, _⟩ | ⟨x, rfl, hc⟩
              · omega
              · obtain ⟨b, off, rfl, hcell⟩ := hc q hqs
                exact ⟨b, off, rfl, (hbel.cell (World.block_lt_of_cell? w _ hcell)).trans hcell⟩
            generalize zs.getD q 0 = z at hgc hzc
            have b4 : (q : Int) < (len : Int) := by omega
            have hbc : q < c := by omega
            go_wp2_with fail
            go_quiet (fail)
            go_wp2_with fail
            go_roundg (len - (q + 1))
            case measure => omega
            case rel =>
              have := HLN.out
              exact ⟨q + 1, _, by omega, rfl, by rw [IntWalk.wrap64_in _ (by omega)]; rfl, rfl⟩
          · go_wp2_with fail
            go_ret
            exact ⟨rfl, (Only.drewN (fun _ => False) wr nq).below (fun _ h => h.elim) |> hbel.trans⟩
      · have hbI : ((cap : Int) < 32768) = False := eq_false (by omega)
        go_upto_region 19 with (fail)
        have hj0 : (0 : Int) ≤ (j : Int) := Int.natCast_nonneg j
        have hsh : wrap64 ((cap : Int) * 2 ^ j) = (c : Int) := shl_large cap j c hk1 hk4 hb HM.out HCJ.out
        clear hb hbI HCJ
        go_wp2_with fail
        go_loopg [12] len (fun gk2 iv wi => ∃ (q nq : Nat), q ≤ len ∧ gk2 = len - q ∧ iv = .int .i64 q ∧ wi = wr.drewN nq)
        case atStart => exact ⟨0, 0, Nat.zero_le _, rfl, rfl, rfl⟩
        case round =>
          obtain ⟨q, nq, hq, hgk2, rfl, rfl⟩ := hrel
          by_cases hqs : q < len
          · have hgc : wr.cell? ⟨g, q, none⟩ = some (.int .u8 (zs.getD q 0)) := HG.out.cell (by
              have := bytesV_at zs q (by omega)
              rw [← HCT.out, List.getElem?_take_of_lt hqs] at this
              exact this)
            obtain ⟨b, off, rfl, hzc⟩ : ∃ b off, a = some ⟨b, off, none⟩ ∧ wr.cell? ⟨b, off + q, none⟩ = some (.int .u8 (zs.getD q 0)) := by
              rcases HZ.out.2.2 with ⟨_, h0, _⟩ | ⟨x, rfl, hc⟩
              · omega
              · obtain ⟨b, off, rfl, hcell⟩ := hc q hqs
                exact ⟨b, off, rfl, (hbel.cell (World.block_lt_of_cell? w _ hcell)).trans hcell⟩
            generalize zs.getD q 0 = z at hgc hzc
            have b4 : (q : Int) < (len : Int) := by omega
            have hbc : q < c := by omega
            go_wp2_with fail
            go_quiet (fail)
            go_wp2_with fail
            go_roundg (len - (q + 1))
            case measure => omega
            case rel =>
              have := HLN.out
              exact ⟨q + 1, _, by omega, rfl, by rw [IntWalk.wrap64_in _ (by omega)]; rfl, rfl⟩
          · go_wp2_with fail
            go_ret
            exact ⟨rfl, (Only.drewN (fun _ => False) wr nq).below (fun _ h => h.elim) |> hbel.trans⟩

/-- The whole law. -/
theorem law_any (a : Option Addr) (len cap : Nat) (k : Int) (zs : List Int) (w : World) (hz : IsBytes w a len cap zs) :
    Calls Try.prog 4 #[.slice a len cap, .int .i64 k] w fun e w' => e = .returned (.bool true) ∧ Below w.heap.size w w' := by
  by_cases h1 : 1048576 < len
  · exact law_early a len cap k w (.inl h1)
  by_cases h2 : 1048576 < cap
  · exact law_early a len cap k w (.inr ⟨by omega, .inl h2⟩)
  by_cases h3 : k < 1
  · exact law_early a len cap k w (.inr ⟨by omega, .inr ⟨by omega, .inl h3⟩⟩)
  by_cases h4 : 4 < k
  · exact law_early a len cap k w (.inr ⟨by omega, .inr ⟨by omega, .inr h4⟩⟩)
  obtain ⟨kn, rfl⟩ := Int.eq_ofNat_of_zero_le (show 0 ≤ k by omega)
  exact law_main a len cap kn zs w hz (by omega) (by omega) ⟨by omega, by omega⟩

end Go.Proofs.Qxb6612530a
