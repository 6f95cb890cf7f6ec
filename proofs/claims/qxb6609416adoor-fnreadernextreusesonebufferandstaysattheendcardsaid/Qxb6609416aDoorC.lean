import Derived.Test.Qxb6609416aDoorB
namespace Go.Proofs.Qxb6609416aDoor
open Go.RowKit

/-- The seven cells of a bufio.Reader over a bytes.Reader. -/
def rdC (bB bY r wr : Nat) (err : Value) (lb lrs : Int) : List Value := [.slice (some ⟨bB, 0, none⟩) 4096 4096, .iface 35 (.pointer (some ⟨bY, 0, none⟩)), .int .i64 r, .int .i64 wr, err, .int .i64 lb, .int .i64 lrs]

theorem method_y (a : Addr) (w : World) : (method 174 35 (.pointer (some a)) "Read").run Tryd.prog w = .ok (37, .pointer (some a)) w := by kernel_rfl
theorem method_r (a : Addr) (w : World) : (method 174 33 (.pointer (some a)) "Read").run Tryd.prog w = .ok (32, .pointer (some a)) w := by kernel_rfl
theorem ahead_y (a : Addr) (w : World) : (nilAhead 174 35 (.pointer (some a)) "Read").run Tryd.prog w = .ok (some false) w := by kernel_rfl
theorem ahead_r (a : Addr) (w : World) : (nilAhead 174 33 (.pointer (some a)) "Read").run Tryd.prog w = .ok (some false) w := by kernel_rfl

set_option maxRecDepth 100000 in
/-- 'Read' into a long slice, the buffer empty, at the end: io.EOF. -/
theorem read_large_end (bR bB bY : Nat) (r i n m : Nat) (aD p : Option Addr) (N cN : Nat) (pv : Value) (lb lrs : Int) (eT : Nat) (ea : Option Addr) (w : World)
    (hR : Blk w bR 49 (rdC bB bY r r .nilIface lb lrs)) (hY : Blk w bY 45 [.slice aD N cN, .int .i64 i, pv]) (hi : N ≤ i) (hn : 4096 ≤ n) (hn2 : n ≤ 65536) (he : w.cell? ⟨1, 0, none⟩ = some (.iface eT (.pointer ea))) :
    Calls Tryd.prog 32 #[.pointer (some ⟨bR, 0, none⟩), .slice p n m] w fun e w' => e = .returned (.tuple #[.int .i64 0, .iface eT (.pointer ea)]) ∧ Only (· = bR) w w' ∧ Blk w' bR 49 (rdC bB bY r r .nilIface lb lrs) := by
  have h0 := hR.cell (i := 0) (by rfl)
  have h1 := hR.cell (i := 1) (by rfl)
  have h2 := hR.cell (i := 2) (by rfl)
  have h3 := hR.cell (i := 3) (by rfl)
  have h4 := hR.cell (i := 4) (by rfl)
  have f4 := hR.frozen 4
  have hmy := method_y
  go_enter Tryd.func32, Tryd.ntmps32
  go_wp2_with fail
  go_quiet (fail)
  go_wp2_with fail
  refine (bytesRead_end bY i n aD N cN pv p m eT ea _ (hY.drewN nq) hi he).mono ?_
  rintro e w1 ⟨rfl, ho1⟩
  have a0 : Blk w1 bR 49 (rdC bB bY r r .nilIface lb lrs) := ho1.blk (hR.drewN nq) (by simp)
  clear h0 h1 h2 h3 h4 f4 hmy he
  have h4 := a0.cell (i := 4) (by rfl)
  have f4 := a0.frozen 4
  have a1 : Blk (w1.setCell ⟨bR, 4, none⟩ (.iface eT (.pointer ea))) bR 49 (rdC bB bY r r (.iface eT (.pointer ea)) lb lrs) := a0.set 4 _
  have c4 := a1.cell (i := 4) (by rfl)
  have g4 := a1.frozen 4
  go_wp2_with (go_at_call 35; refine (readErr_some bR eT ea _ c4 g4).mono ?_; rintro e w' ⟨rfl, rfl⟩)
  go_ret2
  have o1 : Only (· = bR) w w1 := (Only.drewN _ _ _).trans (ho1.mono (by simp))
  exact ⟨rfl, (o1.set (p := ⟨bR, 4, none⟩) rfl _).set (p := ⟨bR, 4, none⟩) rfl _, a1.set 4 _⟩

set_option maxHeartbeats 1000000 in
set_option maxRecDepth 100000 in
/-- 'Read' into a long slice, the buffer empty, ahead of the end: straight into the slice. -/
theorem read_large_some (bR bB bY bD g off : Nat) (r i n m k : Nat) (N cN : Nat) (D cur : List Value) (tg : TypeId) (pv : Value) (lb lrs : Int) (w : World)
    (hR : Blk w bR 49 (rdC bB bY r r .nilIface lb lrs)) (hY : Blk w bY 45 [.slice (some ⟨bD, 0, none⟩) N cN, .int .i64 i, pv]) (hi : i < N) (hNc : N ≤ cN) (hN : N ≤ 1048576) (hD : Blk w bD 5 D) (hDl : D.length = N) (hD1 : ∀ v ∈ D, ∃ z : Nat, z ≤ 255 ∧ v = .int .u8 z)
    (hg : Blk w g tg cur) (hfit : off + n ≤ cur.length) (hn : 4096 ≤ n) (hn2 : n ≤ 65536) (hk : k = min n (N - i)) (hRY : bR ≠ bY) (hRg : bR ≠ g) (hgY : g ≠ bY) (hYD : bY ≠ bD) :
    Calls Tryd.prog 32 #[.pointer (some ⟨bR, 0, none⟩), .slice (some ⟨g, off, none⟩) n m] w fun e w' => e = .returned (.tuple #[.int .i64 k, .nilIface]) ∧ Only (fun k => k = bR ∨ k = g ∨ k = bY) w w' ∧
      (∃ lb lrs, Blk w' bR 49 (rdC bB bY r r .nilIface lb lrs)) ∧ Blk w' bY 45 [.slice (some ⟨bD, 0, none⟩) N cN, .int .i64 (i + k : Nat), .int .i64 (-1)] ∧ Blk w' g tg (splice cur off ((D.drop i).take k)) := by
  have hkn : k ≤ n := by omega
  have hk0 : 0 < k := by omega
  have hkN : i + k ≤ N := by omega
  have Hk := (show Hid (k = min n (N - i)) from hk)
  clear hk
  have h0 := hR.cell (i := 0) (by rfl)
  have h1 := hR.cell (i := 1) (by rfl)
  have h2 := hR.cell (i := 2) (by rfl)
  have h3 := hR.cell (i := 3) (by rfl)
  have h4 := hR.cell (i := 4) (by rfl)
  have f4 := hR.frozen 4
  have hmy := method_y
  go_enter Tryd.func32, Tryd.ntmps32
  go_wp2_with fail
  go_quiet (fail)
  go_wp2_with fail
  refine (bytesRead_some bY bD g off i n N cN D cur pv m k tg _ (hY.drewN nq) hi hNc hN (hD.drewN nq) hDl (fun v hv => by obtain ⟨z, _, rfl⟩ := hD1 v hv; rfl) (hg.drewN nq) hfit hgY hYD Hk.out).mono ?_
  rintro e w1 ⟨rfl, ho1, hy1, hg1⟩
  have a0 : Blk w1 bR 49 (rdC bB bY r r .nilIface lb lrs) := ho1.blk (hR.drewN nq) (by simp [hRg, hRY])
  have o1 : Only (fun k => k = bR ∨ k = g ∨ k = bY) w w1 := (Only.drewN _ _ _).trans (ho1.mono (fun _ h => .inr h))
  clear h0 h1 h2 h3 h4 f4 hmy ho1
  have h4 := a0.cell (i := 4) (by rfl)
  have f4 := a0.frozen 4
  have h5 := a0.cell (i := 5) (by rfl)
  have f5 := a0.frozen 5
  have h6 := a0.cell (i := 6) (by rfl)
  have f6 := a0.frozen 6
  obtain ⟨z, hz255, hz⟩ : ∃ z : Nat, z ≤ 255 ∧ (splice cur off ((D.drop i).take k))[off + (k - 1)]? = some (.int .u8 z) := by
    have hlen : ((D.drop i).take k).length = k := by rw [List.length_take, List.length_drop, hDl]; omega
    have hm : ((D.drop i).take k)[k - 1]? = some (((D.drop i).take k)[k - 1]'(by omega)) := List.getElem?_eq_getElem _
    obtain ⟨z, hz255, hz⟩ := hD1 _ (List.mem_of_mem_drop (List.mem_of_mem_take (List.mem_of_getElem? hm)))
    refine ⟨z, hz255, ?_⟩
    unfold splice
    rw [List.getElem?_append_right (by simp; omega), List.getElem?_append_left (by simp [hlen]; omega)]
    rw [show off + (k - 1) - (cur.take off).length = k - 1 by simp; omega, hm, hz]
  have hcz := hg1.cell hz
  have ek : ((k : Int) - 1).toNat = k - 1 := by omega
  clear hz hD1 hDl
  have eR := fun (x : Value) => readErr_nil bR (((w1.setCell ⟨bR, 4, none⟩ .nilIface).setCell ⟨bR, 5, none⟩ x).setCell ⟨bR, 6, none⟩ (.int .i64 (-1))) (by rw [World.cell?_setCell_other _ _ _ _ (by simp), World.cell?_setCell_other _ _ _ _ (by simp)]; exact World.cell?_setCell_same _ _ _ h4) (by simp [f4])
  have ER := (show Hid _ from eR)
  clear eR
  go_wp2_with (go_at_call 35; refine (ER.out _).mono ?_; rintro e w' ⟨rfl, rfl⟩)
  go_ret2
  refine ⟨rfl, ?_, ?_, ?_, ?_⟩
  · exact ((((o1.set (p := ⟨bR, 4, none⟩) (.inl rfl) _).set (p := ⟨bR, 5, none⟩) (.inl rfl) _).set (p := ⟨bR, 6, none⟩) (.inl rfl) _).set (p := ⟨bR, 4, none⟩) (.inl rfl) _)
  · exact ⟨_, _, (((a0.set 4 _).set 5 _).set 6 _).set 4 _⟩
  · exact (((hy1.other hRY.symm _).other hRY.symm _).other hRY.symm _).other hRY.symm _
  · exact (((hg1.other hRg.symm _).other hRg.symm _).other hRg.symm _).other hRg.symm _

end Go.Proofs.Qxb6609416aDoor
