import Derived.Test.Qxb6609472aFmtF
namespace Go.Proofs.Qxb6609472aFmt
open Go.RowKit

theorem roleWorld_kept {w w' : World} {bW len : Nat} {ss : List ByteArray} (h : RoleWorld w bW len ss) (hb : Below w.heap.size w w') : RoleWorld w' bW len ss := by
  obtain ⟨bR, bI, bO, cs, h1, h7, h6, hi, ho, hr, hc⟩ := h
  have k : ∀ {p : Addr} {v : Value}, w.cell? p = some v → w'.cell? p = some v := fun {p v} hp => (hb.cell (World.block_lt_of_cell? w p hp)).trans hp
  exact ⟨bR, bI, bO, cs, k h1, k h7, k h6, below_smap hb hi hi.lt, below_smap hb ho ho.lt, by unfold Blk; rw [hb.block bR hr.lt]; exact hr, hc⟩

set_option maxHeartbeats 2000000 in
set_option maxRecDepth 100000 in
theorem law (a : Option Addr) (len cap : Nat) (ss : List ByteArray) (id s : ByteArray) (ea : Addr) (w : World) (hss : IsStrs w a len cap ss) (hsz : id.size ≤ maxLen)
    (hg : w.cell? ⟨0, 0, none⟩ = some (.iface 128 (.pointer (some ea)))) (hs : w.cell? ea = some (.string s)) :
    Calls Tryf.prog 4 #[.slice a len cap, .string id] w fun e w' => e = .returned (.bool true) ∧ Below w.heap.size w w' := by
  have hidl := hsz
  unfold maxLen at hidl
  go_enter Tryf.func4, Tryf.ntmps4
  go_wp2_with fail
  refine (zz_any a len cap ss id w hss hsz).mono ?_
  rintro e w1 ⟨⟨b, rfl⟩, rfl⟩
  cases b with
  | false =>
    go_wp2
    go_ret
    exact ⟨rfl, Below.refl _ _⟩
  | true =>
    by_cases hlen : len ≤ 65536
    · go_wp2_with fail
      refine (strsBytes_any a len cap ss w hss hlen).mono ?_
      rintro e w1 ⟨⟨n, rfl⟩, rfl⟩
      go_wp2_with fail
      · go_ret
        exact ⟨rfl, Below.refl _ _⟩
      · refine (roleWorld_any a len cap ss w hss hlen).mono ?_
        rintro e w1 ⟨hb1, rfl | ⟨bW, rfl, hrw⟩⟩
        · go_wp2
          go_ret
          exact ⟨rfl, hb1⟩
        · go_wp2_with fail
          refine (has_any a len cap ss id w1 (hss.kept hb1) hlen).mono ?_
          rintro e w2 ⟨rfl, rfl⟩
          obtain ⟨bR, bI, bO, cs, h1, h7, h6, hi, ho, hr, hc⟩ := hrw
          rcases assoc_idx id ss 0 with ⟨has, hh⟩ | ⟨j, hj, has, hh⟩
          · -- no such role
            rw [hh]
            have hRole := hid (role_of bW bR len bI id _ w1 h1 h7 (lookup_no bR len bI _ id w1.drew hi.drew has) ⟨_, _, rfl⟩)
            have hg' : w1.drew.cell? ⟨0, 0, none⟩ = some (.iface 128 (.pointer (some ea))) := (hb1.cell (p := ⟨0, 0, none⟩) (World.block_lt_of_cell? w _ hg)).trans hg
            have hs' : w1.drew.cell? ea = some (.string s) := (hb1.cell (World.block_lt_of_cell? w ea hs)).trans hs
            have hChk := hid (check_no bW bI _ id s ea w1.drew h7 hi.drew has hg' hs')
            clear hg' hs' hr hc hi ho h1 h7 h6 has hh
            go_wp2_with fail
            refine hRole.out.mono ?_
            rintro e w2 ⟨rfl, rfl⟩
            go_wp2_with fail
            refine hChk.out.mono ?_
            rintro e w3 ⟨⟨x, rfl⟩, hb3⟩
            have hb4 : Below w.heap.size w w3 := hb1.drew.trans (hb3.mono (by simpa using hb1.size))
            clear hRole hChk hb3
            go_wp2
            go_ret
            exact ⟨rfl, hb4⟩
          · -- the role is there
            rw [hh]
            rw [Nat.zero_add] at has
            have hjl : j < len := by have := (List.getElem?_eq_some_iff.1 hj).1; have := hss.1; omega
            obtain ⟨s', hs1, hs2⟩ := hc j hjl
            obtain rfl : id = s' := Option.some.inj (hj.symm.trans hs1)
            have hRole := hid (role_of bW bR len bI id _ w1 h1 h7 (lookup_yes bR len bI j _ id w1.drew hi.drew has hjl) ⟨_, _, rfl⟩)
            have hChk := hid (check_yes bW bI bO _ _ id w1.drew h7 h6 hi.drew has ho.drew)
            have hcell := hr.cell hs2
            have hb4 : Below w.heap.size w w1.drew := hb1.drew
            clear hr hc hi ho h1 h7 h6 has hh hs1 hs2 hj
            go_wp2_with fail
            refine hRole.out.mono ?_
            rintro e w2 ⟨rfl, rfl⟩
            go_wp2_with fail
            refine hChk.out.mono ?_
            rintro e w3 ⟨rfl, rfl⟩
            clear hRole hChk
            go_wp2
            go_ret
            exact ⟨rfl, hb4⟩
    · go_wp2
      go_ret
      exact ⟨rfl, Below.refl _ _⟩

end Go.Proofs.Qxb6609472aFmt
