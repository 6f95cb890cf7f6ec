import Derived.Test.Qxb6609416aDoorH
namespace Go.Proofs.Qxb6609416aDoor
open Go.RowKit

/-- What 'Next', and all beneath it, leaves: the next entry, or an error at the end. -/
def Dealt (d : Rd) (g size pos : Nat) (w w' : World) (ev : Value) : Prop := Only (d.T g) w w' ∧
  ((pos + size ≤ d.N ∧ ev = .nilIface ∧ St d (pos + size) w' ∧ Blk w' g 5 ((d.D.drop pos).take size)) ∨
   (d.N < pos + size ∧ (∃ t a, ev = .iface t (.pointer a)) ∧ St d d.N w' ∧ ∃ row', row'.length = size ∧ Blk w' g 5 row'))

theorem readFull_any (d : Rd) (g size pos : Nat) (row : List Value) (ea : Addr) (uT : Nat) (ua : Option Addr) (w : World) (ok : d.Ok g) (hs : St d pos w) (hp : pos ≤ d.N) (hg : Blk w g 5 row) (hrow : row.length = size) (hn : size ≤ 65536)
    (he : w.cell? ⟨1, 0, none⟩ = some (.iface 52 (.pointer (some ea)))) (hu : w.cell? ⟨2, 0, none⟩ = some (.iface uT (.pointer ua))) :
    Calls Tryd.prog 12 #[.iface 33 (.pointer (some ⟨d.bR, 0, none⟩)), .slice (some ⟨g, 0, none⟩) size size] w fun e w' => ∃ (k : Int) (ev : Value), e = .returned (.tuple #[.int .i64 k, ev]) ∧ Dealt d g size pos w w' ev := by
  go_enter Tryd.func12, Tryd.ntmps12
  go_wp2_with (go_at_call 14; refine (readAtLeast_any d g size pos row ea uT ua w ok hs hp hg hrow hn he hu).mono ?_; rintro e w1 ⟨k, ev, rfl, hd⟩)
  go_ret2
  exact ⟨_, _, rfl, hd⟩

/-- The six cells of a spill.Reader. -/
def spC (bR g size : Nat) (f0 f1 f2 f3 : Value) : List Value := [f0, f1, f2, f3, .pointer (some ⟨bR, 0, none⟩), .slice (some ⟨g, 0, none⟩) size size]

set_option maxHeartbeats 1000000 in
theorem next_any (d : Rd) (bS g size pos : Nat) (f0 f1 f2 f3 : Value) (row : List Value) (ea : Addr) (uT : Nat) (ua : Option Addr) (w : World) (ok : d.Ok g) (hS : Blk w bS 38 (spC d.bR g size f0 f1 f2 f3)) (hST : ¬ d.T g bS)
    (hs : St d pos w) (hp : pos ≤ d.N) (hg : Blk w g 5 row) (hrow : row.length = size) (hn : size ≤ 65536)
    (he : w.cell? ⟨1, 0, none⟩ = some (.iface 52 (.pointer (some ea)))) (hu : w.cell? ⟨2, 0, none⟩ = some (.iface uT (.pointer ua))) :
    Calls Tryd.prog 8 #[.pointer (some ⟨bS, 0, none⟩)] w fun e w' => ∃ (gv ev : Value), e = .returned (.tuple #[gv, ev]) ∧ Dealt d g size pos w w' ev ∧ (ev = .nilIface → gv = .slice (some ⟨g, 0, none⟩) size size) ∧ (ev ≠ .nilIface → gv = .slice none 0 0) := by
  have HS : Hid (∀ w', Only (d.T g) w.drew w' → w'.cell? ⟨bS, 4, none⟩ = some (.pointer (some ⟨d.bR, 0, none⟩)) ∧ w'.cell? ⟨bS, 5, none⟩ = some (.slice (some ⟨g, 0, none⟩) size size)) := fun w' ho =>
    ⟨(ho.blk hS.drew hST).cell (i := 4) rfl, (ho.blk hS.drew hST).cell (i := 5) rfl⟩
  have HE : Hid (Calls Tryd.prog 12 #[.iface 33 (.pointer (some ⟨d.bR, 0, none⟩)), .slice (some ⟨g, 0, none⟩) size size] w.drew fun e w' => ∃ (k : Int) (ev : Value), e = .returned (.tuple #[.int .i64 k, ev]) ∧ Dealt d g size pos w.drew w' ev) :=
    readFull_any d g size pos row ea uT ua w.drew ok hs hp hg hrow hn he hu
  go_enter Tryd.func8, Tryd.ntmps8
  go_wp2
  go_region_held3 (fun w' => w'.cell? ⟨bS, 4, none⟩ = some (.pointer (some ⟨d.bR, 0, none⟩)) ∧ w'.cell? ⟨bS, 5, none⟩ = some (.slice (some ⟨g, 0, none⟩) size size)) (first | exact HS.out _ (Only.refl _ _) | exact HS.out _ (And.left ‹Dealt _ _ _ _ _ _ _›))
    ((go_at_call 12; refine HE.out.mono ?_; rintro e w1 ⟨k, ev, rfl, hd⟩))
  have hd' : Dealt d g size pos w w1 ev := ⟨(Only.drew _ _).trans hd.1, hd.2⟩
  have h5 := (HS.out _ hd.1).2
  clear HS HE hd
  rcases hd'.2 with ⟨_, rfl, _⟩ | ⟨_, ⟨t, a, rfl⟩, _⟩
  · go_wp2
    go_ret2
    exact ⟨_, _, rfl, hd', fun _ => rfl, fun h => (h rfl).elim⟩
  · go_wp2
    go_ret2
    exact ⟨_, _, rfl, hd', (fun h => by cases h), fun _ => rfl⟩

end Go.Proofs.Qxb6609416aDoor
