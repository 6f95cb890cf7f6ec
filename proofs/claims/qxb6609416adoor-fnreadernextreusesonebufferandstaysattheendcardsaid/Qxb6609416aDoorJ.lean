import Derived.Test.Qxb6609416aDoorI
import Derived.Deep.OwnRows
namespace Go.Proofs.Qxb6609416aDoor
open Go.RowKit

theorem newBytes_any (s : Option Addr) (n c : Nat) (w : World) :
    Calls Tryd.prog 11 #[.slice s n c] w fun e w' => e = .returned (.pointer (some ⟨w.heap.size, 0, none⟩)) ∧ w' = w.alloc (.cells #[.slice s n c, .int .i64 0, .int .i64 (-1)] 45) := by
  go_enter Tryd.func11, Tryd.ntmps11
  go_wp2
  go_ret
  exact ⟨rfl, rfl⟩

/-- n zero bytes. -/
def zeros (n : Nat) : List Value := List.replicate n (.int .u8 0)
theorem info5 : (Tryd.prog.info? 5).map (fun i => (i.zero, i.size, i.bytes)) = some (some (.int .u8 0), 1, 1) := by kernel_rfl
theorem made_zeros (n : Nat) : madeCells #[.int .u8 0] n = (zeros n).toArray := by
  apply Array.ext
  · simp [madeCells, zeros]
  · intro i h1 h2
    simp [madeCells, zeros]
    rw [Nat.mod_one]; rfl
theorem make_bytes (n : Nat) (h : n ≤ 281474976710656) (w : World) : (Instr.makeSlice 22 (.int .i64 n) (.int .i64 n)).run Tryd.prog w = .ok (.slice (some ⟨w.heap.size, 0, none⟩) n n) (w.alloc (.cells (zeros n).toArray 5)) := by
  rw [run_make_row' 22 5 (.int .u8 0) 1 Tryd.underlying22 info5 rfl .i64 .i64 n (by omega) (by omega) w, made_zeros]
theorem assert_no (a : Addr) (w : World) : (Instr.typeAssert (.iface 35 (.pointer (some a))) 42 33 true).run Tryd.prog w = .ok (.tuple #[.pointer none, .bool false]) w := by kernel_rfl

/-- What bufio.NewReader lays: the struct and its buffer. -/
def wNew (bY : Nat) (w : World) : World := (w.alloc (.cells #[.slice (some ⟨w.heap.size + 1, 0, none⟩) 4096 4096, .iface 35 (.pointer (some ⟨bY, 0, none⟩)), .int .i64 0, .int .i64 0, .nilIface, .int .i64 (-1), .int .i64 (-1)] 49)).alloc (.cells (zeros 4096).toArray 5)

set_option maxHeartbeats 1000000 in
theorem newReaderSize_any (bY : Nat) (w : World) :
    Calls Tryd.prog 13 #[.iface 35 (.pointer (some ⟨bY, 0, none⟩)), .int .i64 4096] w fun e w' => e = .returned (.pointer (some ⟨w.heap.size, 0, none⟩)) ∧ w' = wNew bY w := by
  have ha := assert_no
  have hm : ∀ w : World, (Instr.makeSlice 22 (.int .i64 4096) (.int .i64 4096)).run Tryd.prog w = .ok (.slice (some ⟨w.heap.size, 0, none⟩) 4096 4096) (w.alloc (.cells (zeros 4096).toArray 5)) := fun w => make_bytes 4096 (by omega) w
  go_enter Tryd.func13, Tryd.ntmps13
  go_wp2
  go_end0
  go_wp2
  go_ret
  exact ⟨rfl, rfl⟩

theorem newReader_any (bY : Nat) (w : World) :
    Calls Tryd.prog 10 #[.iface 35 (.pointer (some ⟨bY, 0, none⟩))] w fun e w' => e = .returned (.pointer (some ⟨w.heap.size, 0, none⟩)) ∧ w' = wNew bY w := by
  go_enter Tryd.func10, Tryd.ntmps10
  go_wp2_with (go_at_call 13; refine (newReaderSize_any bY _).mono ?_; rintro e w1 ⟨rfl, rfl⟩)
  go_ret
  exact ⟨rfl, rfl⟩

theorem size_wNew (bY : Nat) (w : World) : (wNew bY w).heap.size = w.heap.size + 2 := by simp [wNew]
theorem wNew_R (bY : Nat) (w : World) : Blk (wNew bY w) w.heap.size 49 (rdC (w.heap.size + 1) bY 0 0 .nilIface (-1) (-1)) := (Blk.new w 49 _).alloc _
theorem wNew_B (bY : Nat) (w : World) : Blk (wNew bY w) (w.heap.size + 1) 5 (zeros 4096) := by
  have := Blk.new (w.alloc (.cells #[.slice (some ⟨w.heap.size + 1, 0, none⟩) 4096 4096, .iface 35 (.pointer (some ⟨bY, 0, none⟩)), .int .i64 0, .int .i64 0, .nilIface, .int .i64 (-1), .int .i64 (-1)] 49)) 5 (zeros 4096)
  rw [World.size_alloc] at this
  exact this
theorem wNew_old {bY : Nat} {w : World} {g : Nat} {t : TypeId} {cs : List Value} (h : Blk w g t cs) : Blk (wNew bY w) g t cs := (h.alloc _).alloc _
theorem wNew_below (bY : Nat) (w : World) {B : Nat} (h : B ≤ w.heap.size) : Below B w (wNew bY w) := ((Below.refl _ _).alloc h _).alloc (by simp; omega) _

/-- What ZZnewReader lays: five blocks of its own. -/
structure Made (w w' : World) (size : Nat) (f1 : Int) (f2 f3 : Bool) (s : Option Addr) (n c : Nat) (bS bR bB bY g : Nat) : Prop where
  below : Below w.heap.size w w'
  hS : Blk w' bS 38 (spC bR g size (.int .i64 size) (.int .i64 f1) (.bool f2) (.bool f3))
  hR : Blk w' bR 49 (rdC bB bY 0 0 .nilIface (-1) (-1))
  hB : Blk w' bB 5 (zeros 4096)
  hY : Blk w' bY 45 [.slice s n c, .int .i64 0, .int .i64 (-1)]
  hg : Blk w' g 5 (zeros size)
  gt : w.heap.size ≤ bS ∧ w.heap.size ≤ bR ∧ w.heap.size ≤ bB ∧ w.heap.size ≤ bY ∧ w.heap.size ≤ g
  ne : bS ≠ bR ∧ bS ≠ bB ∧ bS ≠ bY ∧ bS ≠ g ∧ bR ≠ bB ∧ bR ≠ bY ∧ bR ≠ g ∧ bB ≠ bY ∧ bB ≠ g ∧ bY ≠ g

theorem made_after (w Wi : World) (size : Nat) (f1 : Int) (f2 f3 : Bool) (s : Option Addr) (n c : Nat) (bR bY g : Nat) (eR : Wi.heap.size = bR) (hb : Below w.heap.size w Wi) (hY : Blk Wi bY 45 [.slice s n c, .int .i64 0, .int .i64 (-1)]) (hg : Blk Wi g 5 (zeros size)) (h1 : w.heap.size ≤ bY) (h2 : w.heap.size ≤ g) (h3 : bY ≠ g) :
    Made w ((wNew bY Wi).alloc (.cells (spC bR g size (.int .i64 size) (.int .i64 f1) (.bool f2) (.bool f3)).toArray 38)) size f1 f2 f3 s n c (wNew bY Wi).heap.size bR (bR + 1) bY g := by
  have l1 := hY.lt
  have l2 := hg.lt
  have l3 := hb.size
  subst eR
  refine ⟨(hb.trans (wNew_below _ _ hb.size)).alloc (by rw [size_wNew]; omega) _, Blk.new _ _ _, (wNew_R bY Wi).alloc _, (wNew_B bY Wi).alloc _, (wNew_old hY).alloc _, (wNew_old hg).alloc _, ?_, ?_⟩ <;> rw [size_wNew] <;> omega
theorem made_last (w Wi : World) (size : Nat) (f1 : Int) (f2 f3 : Bool) (s : Option Addr) (n c : Nat) (bR bY : Nat) (eR : Wi.heap.size = bR) (hb : Below w.heap.size w Wi) (hY : Blk Wi bY 45 [.slice s n c, .int .i64 0, .int .i64 (-1)]) (h1 : w.heap.size ≤ bY) :
    Made w (((wNew bY Wi).alloc (.cells (zeros size).toArray 5)).alloc (.cells (spC bR (wNew bY Wi).heap.size size (.int .i64 size) (.int .i64 f1) (.bool f2) (.bool f3)).toArray 38)) size f1 f2 f3 s n c ((wNew bY Wi).heap.size + 1) bR (bR + 1) bY (wNew bY Wi).heap.size := by
  have l1 := hY.lt
  have l3 := hb.size
  subst eR
  have z2 := Blk.new ((wNew bY Wi).alloc (.cells (zeros size).toArray 5)) 38 (spC Wi.heap.size (wNew bY Wi).heap.size size (.int .i64 size) (.int .i64 f1) (.bool f2) (.bool f3))
  rw [World.size_alloc] at z2
  refine ⟨((hb.trans (wNew_below _ _ hb.size)).alloc (by rw [size_wNew]; omega) _).alloc (by rw [World.size_alloc, size_wNew]; omega) _, z2, ((wNew_R bY Wi).alloc _).alloc _, ((wNew_B bY Wi).alloc _).alloc _, ((wNew_old hY).alloc _).alloc _, (Blk.new _ _ _).alloc _, ?_, ?_⟩ <;> rw [size_wNew] <;> omega

set_option maxHeartbeats 2000000 in
theorem zzNew_any (size : Nat) (f1 : Int) (f2 f3 : Bool) (s : Option Addr) (n c : Nat) (hsz : size ≤ 65536) (w : World) :
    Calls Tryd.prog 7 #[.agg #[.int .i64 size, .int .i64 f1, .bool f2, .bool f3], .slice s n c] w fun e w' => ∃ bS bR bB bY g, e = .returned (.pointer (some ⟨bS, 0, none⟩)) ∧ Made w w' size f1 f2 f3 s n c bS bR bB bY g := by
  have hm := make_bytes size (by omega)
  go_enter Tryd.func7, Tryd.ntmps7
  go_wp2
  have hF := Blk.new w 26 [.int .i64 size, .int .i64 f1, .bool f2, .bool f3]
  have HS : Hid (∀ w', Blk w' w.heap.size 26 [.int .i64 size, .int .i64 f1, .bool f2, .bool f3] → w'.cell? ⟨w.heap.size, 0, none⟩ = some (.int .i64 size) ∧ w'.cell? ⟨w.heap.size, 1, none⟩ = some (.int .i64 f1) ∧ w'.cell? ⟨w.heap.size, 2, none⟩ = some (.bool f2) ∧ w'.cell? ⟨w.heap.size, 3, none⟩ = some (.bool f3)) := fun w' hb =>
    ⟨hb.cell rfl, hb.cell rfl, hb.cell rfl, hb.cell rfl⟩
  go_region_held3 (fun w' => w'.cell? ⟨w.heap.size, 0, none⟩ = some (.int .i64 size) ∧ w'.cell? ⟨w.heap.size, 1, none⟩ = some (.int .i64 f1) ∧ w'.cell? ⟨w.heap.size, 2, none⟩ = some (.bool f2) ∧ w'.cell? ⟨w.heap.size, 3, none⟩ = some (.bool f3))
    ((refine HS.out _ ?_; repeat (first | exact hF | apply Blk.drew | apply wNew_old | apply Blk.alloc)))
    ((first | (go_at_call 11; refine (newBytes_any _ _ _ _).mono ?_; rintro e w1 ⟨rfl, rfl⟩) | (go_at_call 10; refine (newReader_any _ _).mono ?_; rintro e w1 ⟨rfl, rfl⟩)))
  clear HS
  all_goals go_wp2
  all_goals go_ret
  · refine ⟨_, _, _, _, _, rfl, made_last w _ size f1 f2 f3 s n c _ (w.heap.size + 1) ?_ ?_ ?_ ?_⟩
    · simp
    · exact ((((Below.refl _ _).alloc (Nat.le_refl _) _).alloc (by simp) _)).drew
    · have h := Blk.new (w.alloc (.cells #[.int .i64 size, .int .i64 f1, .bool f2, .bool f3] 26)) 45 [.slice s n c, .int .i64 0, .int .i64 (-1)]
      rw [World.size_alloc] at h
      exact h.drew
    · omega
  · refine ⟨_, _, _, _, _, rfl, made_after w _ size f1 f2 f3 s n c _ (w.heap.size + 1) _ ?_ ?_ ?_ ?_ ?_ ?_ ?_⟩
    · simp
    · exact ((((Below.refl _ _).alloc (Nat.le_refl _) _).alloc (by simp) _).alloc (by simp; omega) _).drew
    · have h := (Blk.new (w.alloc (.cells #[.int .i64 size, .int .i64 f1, .bool f2, .bool f3] 26)) 45 [.slice s n c, .int .i64 0, .int .i64 (-1)]).alloc (.cells (zeros size).toArray 5)
      rw [World.size_alloc] at h
      exact h.drew
    · have h := Blk.new ((w.alloc (.cells #[.int .i64 size, .int .i64 f1, .bool f2, .bool f3] 26)).alloc (.cells #[.slice s n c, .int .i64 0, .int .i64 (-1)] 45)) 5 (zeros size)
      rw [World.size_alloc, World.size_alloc] at h
      exact h.drew
    · omega
    · omega
    · omega
  · refine ⟨_, _, _, _, _, rfl, made_after w _ size f1 f2 f3 s n c _ (w.heap.size + 1 + 1) _ ?_ ?_ ?_ ?_ ?_ ?_ ?_⟩
    · simp
    · exact ((((Below.refl _ _).alloc (Nat.le_refl _) _).alloc (by simp) _).alloc (by simp; omega) _).drew
    · have h := Blk.new ((w.alloc (.cells #[.int .i64 size, .int .i64 f1, .bool f2, .bool f3] 26)).alloc (.cells (zeros size).toArray 5)) 45 [.slice s n c, .int .i64 0, .int .i64 (-1)]
      rw [World.size_alloc, World.size_alloc] at h
      exact h.drew
    · have h := (Blk.new (w.alloc (.cells #[.int .i64 size, .int .i64 f1, .bool f2, .bool f3] 26)) 5 (zeros size)).alloc (.cells #[.slice s n c, .int .i64 0, .int .i64 (-1)] 45)
      rw [World.size_alloc] at h
      exact h.drew
    · omega
    · omega
    · omega

end Go.Proofs.Qxb6609416aDoor
