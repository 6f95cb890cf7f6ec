import Derived.Test.Qxb6609416aDoorD
import Derived.Test.Qxb6609416aDoorE
import Derived.Test.Qxb6609416aDoorF
namespace Go.Proofs.Qxb6609416aDoor
open Go.RowKit

/-- A bufio.Reader (block bR, its buffer bB) over a bytes.Reader (block bY) over N bytes D (block bD). -/
structure Rd where
  bR : Nat
  bB : Nat
  bY : Nat
  bD : Nat
  aD : Option Addr
  N : Nat
  cN : Nat
  D : List Value

structure Rd.Ok (d : Rd) (g : Nat) : Prop where
  RB : d.bR ≠ d.bB
  RY : d.bR ≠ d.bY
  RD : d.bR ≠ d.bD
  Rg : d.bR ≠ g
  BY : d.bB ≠ d.bY
  BD : d.bB ≠ d.bD
  YD : d.bY ≠ d.bD
  gB : g ≠ d.bB
  gY : g ≠ d.bY
  gD : g ≠ d.bD
  R1 : 2 < d.bR
  B1 : 2 < d.bB
  Y1 : 2 < d.bY
  g1 : 2 < g
  hN : d.N ≤ 1048576
  hNc : d.N ≤ d.cN
  hDl : d.D.length = d.N
  hD1 : ∀ v ∈ d.D, ∃ z : Nat, z ≤ 255 ∧ v = .int .u8 z
  haD : 0 < d.N → d.aD = some ⟨d.bD, 0, none⟩

/-- What a Read may turn. -/
def Rd.T (d : Rd) (g : Nat) (k : Nat) : Prop := k = d.bR ∨ k = g ∨ k = d.bB ∨ k = d.bY

/-- 'pos' bytes have been dealt. -/
def St (d : Rd) (pos : Nat) (w : World) : Prop :=
  (0 < d.N → Blk w d.bD 5 d.D) ∧ ∃ (r wr : Nat) (lb lrs : Int) (pv : Value) (cur : List Value), Blk w d.bR 49 (rdC d.bB d.bY r wr .nilIface lb lrs) ∧ Blk w d.bB 5 cur ∧ cur.length = 4096 ∧ (∀ v ∈ cur, ∃ z : Nat, z ≤ 255 ∧ v = .int .u8 z) ∧
    Blk w d.bY 45 [.slice d.aD d.N d.cN, .int .i64 ((pos + (wr - r) : Nat) : Int), pv] ∧ r ≤ wr ∧ wr ≤ 4096 ∧ pos + (wr - r) ≤ d.N ∧ (cur.drop r).take (wr - r) = (d.D.drop pos).take (wr - r)

theorem take_of_take {α : Type} {A B : List α} {n k : Nat} (h : A.take n = B.take n) (hk : k ≤ n) : A.take k = B.take k := by
  have := congrArg (List.take k) h
  simpa [List.take_take, Nat.min_eq_left hk] using this
theorem drop_of_take {α : Type} {A B : List α} {n k : Nat} (h : A.take n = B.take n) : (A.drop k).take (n - k) = (B.drop k).take (n - k) := by
  have := congrArg (List.drop k) h
  simpa [List.drop_take] using this
theorem take_splice0 {α : Type} (cur X : List α) (k n : Nat) (hX : X.length = n) (hk : k ≤ n) : ((splice cur 0 X).drop 0).take k = X.take k := by
  unfold splice
  rw [List.drop_zero, List.take_zero, List.nil_append, List.take_append_of_le_length (by omega)]

theorem read_any (d : Rd) (g off n m pos : Nat) (row : List Value) (eT : Nat) (ea : Option Addr) (w : World) (ok : d.Ok g) (hs : St d pos w) (hg : Blk w g 5 row) (hfit : off + n ≤ row.length) (hn0 : 0 < n) (hn : n ≤ 65536)
    (he : w.cell? ⟨1, 0, none⟩ = some (.iface eT (.pointer ea))) :
    Calls Tryd.prog 32 #[.pointer (some ⟨d.bR, 0, none⟩), .slice (some ⟨g, off, none⟩) n m] w fun e w' => Only (d.T g) w w' ∧
      ((pos = d.N ∧ e = .returned (.tuple #[.int .i64 0, .iface eT (.pointer ea)]) ∧ St d pos w' ∧ Blk w' g 5 row) ∨
       ∃ k : Nat, 0 < k ∧ k ≤ n ∧ pos + k ≤ d.N ∧ e = .returned (.tuple #[.int .i64 k, .nilIface]) ∧ St d (pos + k) w' ∧ Blk w' g 5 (splice row off ((d.D.drop pos).take k))) := by
  obtain ⟨hD, r, wr, lb, lrs, pv, cur, hR, hB, hcl, hc1, hY, hrw, hw4, hpN, hcur⟩ := hs
  by_cases hlt : r < wr
  · -- out of the buffer
    refine (read_buffered d.bR d.bB d.bY g off r wr n m (min n (wr - r)) cur row 5 lb lrs w hR hB hcl hc1 hlt hw4 hg hfit hn0 hn rfl ok.RB ok.Rg ok.gB).mono ?_
    rintro e w' ⟨rfl, ho, ⟨lb', lrs', hR'⟩, hg'⟩
    have hk : min n (wr - r) ≤ wr - r := Nat.min_le_right _ _
    refine ⟨ho.mono (fun x hx => hx.elim (fun h => .inl h) (fun h => .inr (.inl h))), .inr ⟨min n (wr - r), by omega, by omega, by omega, rfl, ?_, ?_⟩⟩
    · refine ⟨fun h0 => ho.blk (hD h0) (by simp [ok.RD.symm, ok.gD.symm]), r + min n (wr - r), wr, lb', lrs', pv, cur, hR', ho.blk hB (by simp [ok.RB.symm, ok.gB.symm]), hcl, hc1, ?_, by omega, hw4, by omega, ?_⟩
      · have e : pos + min n (wr - r) + (wr - (r + min n (wr - r))) = pos + (wr - r) := by omega
        rw [e]; exact ho.blk hY (by simp [ok.RY.symm, ok.gY.symm])
      · have := drop_of_take (k := min n (wr - r)) hcur
        rw [List.drop_drop, List.drop_drop] at this
        rw [show wr - (r + min n (wr - r)) = wr - r - min n (wr - r) by omega]
        exact this
    · rw [← take_of_take hcur hk]; exact hg'
  · obtain rfl : r = wr := by omega
    have hz : r - r = 0 := by omega
    rw [hz] at hY hcur hpN
    simp only [Nat.add_zero] at hY hpN
    by_cases hend : pos < d.N
    · have haD := ok.haD (by omega)
      rw [haD] at hY
      by_cases hbig : 4096 ≤ n
      · -- straight into the slice
        refine (read_large_some d.bR d.bB d.bY d.bD g off r pos n m (min n (d.N - pos)) d.N d.cN d.D row 5 pv lb lrs w hR hY hend ok.hNc ok.hN (hD (by omega)) ok.hDl ok.hD1 hg hfit hbig hn rfl ok.RY ok.Rg ok.gY ok.YD).mono ?_
        rintro e w' ⟨rfl, ho, ⟨lb', lrs', hR'⟩, hY', hg'⟩
        refine ⟨ho.mono (fun x hx => hx.elim (fun h => .inl h) (fun h => h.elim (fun h => .inr (.inl h)) (fun h => .inr (.inr (.inr h))))), .inr ⟨min n (d.N - pos), by omega, by omega, by omega, rfl, ?_, hg'⟩⟩
        refine ⟨fun h0 => ho.blk (hD h0) (by simp [ok.RD.symm, ok.gD.symm, ok.YD.symm]), r, r, lb', lrs', .int .i64 (-1), cur, hR', ho.blk hB (by simp [ok.RB.symm, ok.gB.symm, ok.BY]), hcl, hc1, ?_, by omega, hw4, by omega, by simp⟩
        rw [hz, haD]; exact hY'
      · -- the buffer is filled, then read
        refine (read_small_some d.bR d.bB d.bY d.bD g off r pos n m (min 4096 (d.N - pos)) (min n (min 4096 (d.N - pos))) d.N d.cN d.D cur row 5 pv lb lrs w hR hY hend ok.hNc ok.hN (hD (by omega)) ok.hDl ok.hD1 hB hcl hc1 hg hfit hn0 (by omega) rfl rfl ok.RY ok.RB ok.Rg ok.RD ok.gB ok.gY ok.BY ok.YD).mono ?_
        rintro e w' ⟨rfl, ho, ⟨lb', lrs', hR'⟩, hB', hY', hg'⟩
        generalize hwr : min 4096 (d.N - pos) = wr at *
        generalize hk : min n wr = k at *
        have hXl : ((d.D.drop pos).take wr).length = wr := by rw [List.length_take, List.length_drop, ok.hDl]; omega
        refine ⟨ho, .inr ⟨k, by omega, by omega, by omega, rfl, ?_, ?_⟩⟩
        · refine ⟨fun h0 => ho.blk (hD h0) (by simp [ok.RD.symm, ok.gD.symm, ok.YD.symm, ok.BD.symm]), k, wr, lb', lrs', .int .i64 (-1), splice cur 0 ((d.D.drop pos).take wr), hR', hB', ?_, ?_, ?_, by omega, by omega, by omega, ?_⟩
          · rw [length_splice _ _ _ (by rw [hXl]; omega), hcl]
          · intro v hv
            unfold splice at hv
            rcases List.mem_append.1 hv with h | h
            · exact hc1 v (List.mem_of_mem_take h)
            · rcases List.mem_append.1 h with h | h
              · exact ok.hD1 v (List.mem_of_mem_drop (List.mem_of_mem_take h))
              · exact hc1 v (List.mem_of_mem_drop h)
          · rw [haD, show pos + k + (wr - k) = pos + wr by omega]; exact hY'
          · have h1 := take_splice0 cur ((d.D.drop pos).take wr) wr wr hXl (Nat.le_refl _)
            rw [List.drop_zero, List.take_take, Nat.min_self] at h1
            have h2 := drop_of_take (k := k) h1
            rw [List.drop_drop] at h2
            exact h2
        · rw [take_splice0 cur _ k wr hXl (by omega), List.take_take, Nat.min_eq_left (by omega)] at hg'
          exact hg'
    · obtain rfl : pos = d.N := by omega
      by_cases hbig : 4096 ≤ n
      · refine (read_large_end d.bR d.bB d.bY r d.N n m d.aD _ d.N d.cN pv lb lrs eT ea w hR hY (Nat.le_refl _) hbig hn he).mono ?_
        rintro e w' ⟨rfl, ho, hR'⟩
        refine ⟨ho.mono (fun x hx => .inl hx), .inl ⟨rfl, rfl, ⟨fun h0 => ho.blk (hD h0) ok.RD.symm, r, r, lb, lrs, pv, cur, hR', ho.blk hB ok.RB.symm, hcl, hc1, ?_, by omega, hw4, by omega, by simp⟩, ho.blk hg ok.Rg.symm⟩⟩
        rw [hz]; exact ho.blk hY ok.RY.symm
      · refine (read_small_end d.bR d.bB d.bY r d.N n m d.aD _ d.N d.cN pv lb lrs eT ea w hR hY (Nat.le_refl _) hn0 (by omega) he (by have := ok.R1; omega) ok.RY).mono ?_
        rintro e w' ⟨rfl, ho, hR'⟩
        refine ⟨ho.mono (fun x hx => .inl hx), .inl ⟨rfl, rfl, ⟨fun h0 => ho.blk (hD h0) ok.RD.symm, 0, 0, lb, lrs, pv, cur, hR', ho.blk hB ok.RB.symm, hcl, hc1, ?_, by omega, by omega, by omega, by simp⟩, ho.blk hg ok.Rg.symm⟩⟩
        exact ho.blk hY ok.RY.symm

end Go.Proofs.Qxb6609416aDoor
