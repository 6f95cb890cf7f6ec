import Derived.Test.Qxb6609416aDoorK
namespace Go.Proofs.Qxb6609416aDoor
open Go.RowKit

theorem hid {p : Prop} (h : p) : Hid p := h

/-- What the walk is told of the bytes that came in: nil; or 'len' cells, the numbers zs, each from 0 to 255. -/
def IsBytes (w : World) (a : Option Addr) (len cap : Nat) (zs : List Int) : Prop :=
  zs.length = len ∧ (∀ z ∈ zs, 0 ≤ z ∧ z ≤ 255) ∧ ((a = none ∧ len = 0 ∧ cap = 0) ∨ ∃ x, a = some x ∧ ∀ k, k < len → ∃ b off, x = ⟨b, off, none⟩ ∧ w.cell? ⟨b, off + k, none⟩ = some (.int .u8 (zs.getD k 0)))

theorem clone_any (a : Option Addr) (len cap : Nat) (zs : List Int) (w : World) (hd : IsBytes w a len cap zs) (hlen : len ≤ 1048576) (h1 : 0 < w.heap.size) :
    Calls Tryd.prog 6 #[.slice a len cap] w fun e w' => ∃ s' c' bD, e = .returned (.slice s' len c') ∧ len ≤ c' ∧ Below w.heap.size w w' ∧ bD < w'.heap.size ∧ (0 < len → s' = some ⟨bD, 0, none⟩ ∧ Blk w' bD 5 (bytesV zs)) := by
  obtain ⟨hl, _, ⟨rfl, rfl, rfl⟩ | ⟨x, rfl, hc⟩⟩ := hd
  · refine (clone_nil w).mono ?_
    rintro e w' ⟨rfl, rfl⟩
    exact ⟨none, 0, 0, rfl, Nat.le_refl _, Below.refl _ _, h1, fun h => absurd h (Nat.lt_irrefl 0)⟩
  · refine (clone_some x len cap zs hl hlen w hc).mono ?_
    rintro e w' ⟨rfl, hb, hs, hB⟩
    exact ⟨_, len, w.heap.size, rfl, Nat.le_refl _, hb, by omega, fun _ => ⟨rfl, hB⟩⟩

theorem zz_yes (a0 a1 : Int) (b2 b3 : Bool) (a : Option Addr) (len cap : Nat) (h : len ≤ 1048576) (w : World) :
    Calls Tryd.prog 5 #[.int .i64 a0, .int .i64 a1, .bool b2, .bool b3, .slice a len cap] w fun e w' => e = .returned (.bool true) ∧ w = w' := by
  go_enter Tryd.func5, Tryd.ntmps5
  go_wp2
  go_ret
  exact ⟨rfl, rfl⟩
theorem zz_no (a0 a1 : Int) (b2 b3 : Bool) (a : Option Addr) (len cap : Nat) (h : 1048576 < len) (w : World) :
    Calls Tryd.prog 5 #[.int .i64 a0, .int .i64 a1, .bool b2, .bool b3, .slice a len cap] w fun e w' => e = .returned (.bool false) ∧ w = w' := by
  go_enter Tryd.func5, Tryd.ntmps5
  go_wp2
  go_ret
  exact ⟨rfl, rfl⟩

/-- From what ZZnewReader has laid to the reader's state at its start. -/
theorem st_of_made (w w' : World) (size : Nat) (f1 : Int) (f2 f3 : Bool) (s' : Option Addr) (len c' bD bS bR bB bY g : Nat) (zs : List Int) (hm : Made w w' size f1 f2 f3 s' len c' bS bR bB bY g) (hl : zs.length = len) (hz : ∀ z ∈ zs, 0 ≤ z ∧ z ≤ 255) (hlen : len ≤ 1048576) (hc : len ≤ c') (hD : bD < w.heap.size) (h3 : 2 < w.heap.size)
    (hs : 0 < len → s' = some ⟨bD, 0, none⟩ ∧ Blk w bD 5 (bytesV zs)) :
    (⟨bR, bB, bY, bD, s', len, c', bytesV zs⟩ : Rd).Ok g ∧ St ⟨bR, bB, bY, bD, s', len, c', bytesV zs⟩ 0 w' ∧ ¬ (⟨bR, bB, bY, bD, s', len, c', bytesV zs⟩ : Rd).T g bS ∧ (∀ k, (⟨bR, bB, bY, bD, s', len, c', bytesV zs⟩ : Rd).T g k → w.heap.size ≤ k) := by
  obtain ⟨hb, hS, hR, hB, hY, hg, gt, ne⟩ := hm
  have hu : ∀ v ∈ bytesV zs, ∃ z : Nat, z ≤ 255 ∧ v = .int .u8 z := by
    intro v hv
    obtain ⟨z, hz', rfl⟩ := List.mem_map.1 hv
    have := hz z hz'
    exact ⟨z.toNat, by omega, by rw [Int.toNat_of_nonneg this.1]⟩
  have hst : St ⟨bR, bB, bY, bD, s', len, c', bytesV zs⟩ 0 w' := by
    refine ⟨fun h => ?_, 0, 0, -1, -1, .int .i64 (-1), zeros 4096, hR, hB, List.length_replicate, ?_, hY, Nat.le_refl _, by omega, Nat.zero_le _, rfl⟩
    · have h0 := (hs h).2
      show Blk w' bD 5 (bytesV zs)
      unfold Blk; rw [hb.block bD hD]; exact h0
    · intro v hv
      obtain ⟨_, rfl⟩ := List.mem_replicate.1 hv
      exact ⟨0, by omega, rfl⟩
  refine ⟨⟨?_, ?_, ?_, ?_, ?_, ?_, ?_, ?_, ?_, ?_, ?_, ?_, ?_, ?_, hlen, hc, by simp [bytesV, hl], hu, fun h => (hs h).1⟩, hst, ?_, ?_⟩
  all_goals try (first | omega | (dsimp only; omega))
  · unfold Rd.T; dsimp only; omega
  · intro k hk
    unfold Rd.T at hk; dsimp only at hk; omega

/-- All that the laws' walks need of the world in which the reader has just been made. -/
structure Ctx (w w2 : World) (d : Rd) (bS g size len : Nat) (zs : List Int) : Prop where
  ok : d.Ok g
  hST : ¬ d.T g bS
  hT : ∀ k, d.T g k → w.heap.size ≤ k
  hN : d.N = len
  hD : d.D = bytesV zs
  below : Below w.heap.size w w2
  st : St d 0 w2
  row : Blk w2 g 5 (zeros size)
  next : ∀ wr pos row, Only (d.T g) w2 wr → St d pos wr → pos ≤ len → Blk wr g 5 row → row.length = size →
    Calls Tryd.prog 8 #[.pointer (some ⟨bS, 0, none⟩)] wr fun e w' => ∃ (gv ev : Value), e = .returned (.tuple #[gv, ev]) ∧ Dealt d g size pos wr w' ev ∧ (ev = .nilIface → gv = .slice (some ⟨g, 0, none⟩) size size) ∧ (ev ≠ .nilIface → gv = .slice none 0 0)

theorem ctx_of_made (w w1 w2 : World) (size : Nat) (a1 : Int) (b2 b3 : Bool) (s' : Option Addr) (len c' bD bS bR bB bY g : Nat) (zs : List Int) (F : Obj) (ea : Addr) (uT : Nat) (ua : Option Addr) (hm : Made (w1.alloc F) w2 size a1 b2 b3 s' len c' bS bR bB bY g)
    (hb1 : Below w.heap.size w w1) (hl : zs.length = len) (hz : ∀ z ∈ zs, 0 ≤ z ∧ z ≤ 255) (hlen : len ≤ 1048576) (hsz : size ≤ 65536) (hc : len ≤ c') (hD : bD < w1.heap.size) (hs : 0 < len → s' = some ⟨bD, 0, none⟩ ∧ Blk w1 bD 5 (bytesV zs))
    (he : w.cell? ⟨1, 0, none⟩ = some (.iface 52 (.pointer (some ea)))) (hu : w.cell? ⟨2, 0, none⟩ = some (.iface uT (.pointer ua))) :
    Ctx w w2 ⟨bR, bB, bY, bD, s', len, c', bytesV zs⟩ bS g size len zs := by
  have h3 : 2 < w.heap.size := World.block_lt_of_cell? w ⟨2, 0, none⟩ hu
  have h4 := hb1.size
  obtain ⟨ok, hst, hST, hT⟩ := st_of_made (w1.alloc F) w2 size a1 b2 b3 s' len c' bD bS bR bB bY g zs hm hl hz hlen hc (by simp; omega) (by simp; omega) (fun h => ⟨(hs h).1, (hs h).2.alloc _⟩)
  have hbel : Below w.heap.size w w2 := (hb1.alloc h4 F).trans (hm.below.mono (by simp; omega))
  have hT' : ∀ k, (⟨bR, bB, bY, bD, s', len, c', bytesV zs⟩ : Rd).T g k → w.heap.size ≤ k := fun k hk => by have := hT k hk; simp at this; omega
  refine ⟨ok, hST, hT', rfl, rfl, hbel, hst, hm.hg, ?_⟩
  intro wr pos row ho hs' hp hg hrow
  have c1 : wr.cell? ⟨1, 0, none⟩ = some (.iface 52 (.pointer (some ea))) := (ho.cell (p := ⟨1, 0, none⟩) (fun hk => by have := hT' _ hk; dsimp only at this; omega)).trans ((hbel.cell (p := ⟨1, 0, none⟩) (by dsimp only; omega)).trans he)
  have c2 : wr.cell? ⟨2, 0, none⟩ = some (.iface uT (.pointer ua)) := (ho.cell (p := ⟨2, 0, none⟩) (fun hk => by have := hT' _ hk; dsimp only at this; omega)).trans ((hbel.cell (p := ⟨2, 0, none⟩) (by dsimp only; omega)).trans hu)
  exact next_any ⟨bR, bB, bY, bD, s', len, c', bytesV zs⟩ bS g size pos (.int .i64 size) (.int .i64 a1) (.bool b2) (.bool b3) row ea uT ua wr ok (ho.blk hm.hS hST) hST hs' hp hg hrow hsz c1 c2

/-- The j-th byte of the q-th entry, in the entry's buffer and in the bytes that came in. -/
theorem entry_at {w w2 w3 : World} {d : Rd} {bS g size len : Nat} {zs : List Int} {a : Option Addr} {cap : Nat} (cx : Ctx w w2 d bS g size len zs) (hd : IsBytes w a len cap zs) (ho : Only (d.T g) w2 w3) (pos : Nat) (hg : Blk w3 g 5 ((d.D.drop pos).take size)) (hp : pos + size ≤ len) (h0 : 0 < size) :
    ∃ b off, a = some ⟨b, off, none⟩ ∧ ∀ j, j < size → ∃ z : Int, w3.cell? ⟨g, j, none⟩ = some (.int .u8 z) ∧ w3.cell? ⟨b, off + (pos + j), none⟩ = some (.int .u8 z) := by
  obtain ⟨hl, _, ⟨rfl, rfl, rfl⟩ | ⟨x, rfl, hc⟩⟩ := hd
  · omega
  obtain ⟨b, off, rfl, _⟩ := hc 0 (by omega)
  refine ⟨b, off, rfl, fun j hj => ⟨zs.getD (pos + j) 0, ?_, ?_⟩⟩
  · refine hg.cell ?_
    rw [cx.hD, List.getElem?_take, if_pos hj, List.getElem?_drop]
    unfold bytesV
    rw [List.getElem?_map, List.getElem?_eq_getElem (by omega), List.getD_eq_getElem?_getD, List.getElem?_eq_getElem (by omega)]
    rfl
  · obtain ⟨b', off', e, hcell⟩ := hc (pos + j) (by omega)
    cases e
    have hlt := World.block_lt_of_cell? w ⟨b, off + (pos + j), none⟩ hcell
    refine (ho.cell (p := ⟨b, off + (pos + j), none⟩) (fun hk => ?_)).trans ((cx.below.cell (p := ⟨b, off + (pos + j), none⟩) hlt).trans hcell)
    have := cx.hT _ hk
    exact absurd hlt (by omega)

end Go.Proofs.Qxb6609416aDoor
