import Derived.Test.Qxb6609472aFmtD
namespace Go.Proofs.Qxb6609472aFmt
open Go.RowKit

theorem lookup_yes (bRoles len bIdx j : Nat) (l : List (ByteArray × Value)) (id : ByteArray) (w : World) (hm : SMap w bIdx l) (ha : assoc l id = some (.int .i64 j)) (hj : j < len) :
    Calls Tryf.prog 31 #[.slice (some ⟨bRoles, 0, none⟩) len len, .map (some bIdx), .string id] w fun e w' => e = .returned (.tuple #[.pointer (some ⟨bRoles, j * 5, none⟩), .bool true]) ∧ w = w' := by
  have hlook := hm.lookup (P := Tryf.prog) Tryf.underlying28 Tryf.underlying9 (zero3 w) id true
  simp only [ha, Option.getD_some, Option.isSome_some, if_true] at hlook
  have i1 : (j : Int) < (len : Int) := by omega
  clear hm ha
  go_enter Tryf.func31, Tryf.ntmps31
  go_wp2
  go_ret2
  exact ⟨rfl, rfl⟩
theorem lookup_no (bRoles len bIdx : Nat) (l : List (ByteArray × Value)) (id : ByteArray) (w : World) (hm : SMap w bIdx l) (ha : assoc l id = none) :
    Calls Tryf.prog 31 #[.slice (some ⟨bRoles, 0, none⟩) len len, .map (some bIdx), .string id] w fun e w' => e = .returned (.tuple #[.pointer none, .bool false]) ∧ w = w' := by
  have hlook := hm.lookup (P := Tryf.prog) Tryf.underlying28 Tryf.underlying9 (zero3 w) id true
  simp only [ha, Option.getD_none, Option.isSome_none, if_true] at hlook
  clear hm ha
  go_enter Tryf.func31, Tryf.ntmps31
  go_wp2
  go_ret2
  exact ⟨rfl, rfl⟩

set_option maxHeartbeats 1000000 in
theorem role_of (bW bRoles len bIdx : Nat) (id : ByteArray) (r : Value) (w : World) (h1 : w.cell? ⟨bW, 1, none⟩ = some (.slice (some ⟨bRoles, 0, none⟩) len len)) (h7 : w.cell? ⟨bW, 7, none⟩ = some (.map (some bIdx)))
    (hc : Calls Tryf.prog 31 #[.slice (some ⟨bRoles, 0, none⟩) len len, .map (some bIdx), .string id] w.drew fun e w' => e = .returned r ∧ w.drew = w') (hr : ∃ p b, r = .tuple #[.pointer p, .bool b]) :
    Calls Tryf.prog 15 #[.pointer (some ⟨bW, 0, none⟩), .string id] w fun e w' => e = .returned r ∧ w.drew = w' := by
  obtain ⟨p, b, rfl⟩ := hr
  have HC := hid hc
  clear hc
  go_enter Tryf.func15, Tryf.ntmps15
  go_wp2
  go_region_held3 (fun w' => w'.cell? ⟨bW, 1, none⟩ = some (.slice (some ⟨bRoles, 0, none⟩) len len) ∧ w'.cell? ⟨bW, 7, none⟩ = some (.map (some bIdx))) (exact ⟨h1, h7⟩)
    ((go_at_call 31; refine HC.out.mono ?_; rintro e w1 ⟨rfl, rfl⟩))
  go_wp2
  go_ret2
  exact ⟨rfl, rfl⟩

/-- CheckOrganisation at the one organisation. -/
theorem checkOrg_root (bW bOrg : Nat) (w : World) (h6 : w.cell? ⟨bW, 6, none⟩ = some (.map (some bOrg))) (hm : SMap w bOrg [(rootS, .int .i64 0)]) :
    Calls Tryf.prog 32 #[.pointer (some ⟨bW, 0, none⟩), .string rootS] w fun e w' => e = .returned .nilIface ∧ w = w' := by
  have hlook := hm.lookup (P := Tryf.prog) Tryf.underlying28 Tryf.underlying9 (zero3 w) rootS true
  have ha : assoc [(rootS, .int .i64 0)] rootS = some (.int .i64 0) := by simp [assoc]
  simp only [ha, Option.getD_some, Option.isSome_some, if_true] at hlook
  clear hm ha
  go_enter Tryf.func32, Tryf.ntmps32
  go_wp2
  go_ret
  exact ⟨rfl, rfl⟩

theorem check_yes (bW bIdx bOrg : Nat) (l : List (ByteArray × Value)) (v : Value) (id : ByteArray) (w : World) (h7 : w.cell? ⟨bW, 7, none⟩ = some (.map (some bIdx))) (h6 : w.cell? ⟨bW, 6, none⟩ = some (.map (some bOrg))) (hm : SMap w bIdx l) (ha : assoc l id = some v) (ho : SMap w bOrg [(rootS, .int .i64 0)]) :
    Calls Tryf.prog 16 #[.pointer (some ⟨bW, 0, none⟩), .string id, .string rootS] w fun e w' => e = .returned .nilIface ∧ w = w' := by
  have hlook := hm.lookup (P := Tryf.prog) Tryf.underlying28 Tryf.underlying9 (zero3 w) id true
  simp only [ha, Option.getD_some, Option.isSome_some, if_true] at hlook
  clear hm ha
  go_enter Tryf.func16, Tryf.ntmps16
  go_wp2_with (go_at_call 32; refine (checkOrg_root bW bOrg _ h6 ho).mono ?_; rintro e w1 ⟨rfl, rfl⟩)
  go_ret
  exact ⟨rfl, rfl⟩

end Go.Proofs.Qxb6609472aFmt
