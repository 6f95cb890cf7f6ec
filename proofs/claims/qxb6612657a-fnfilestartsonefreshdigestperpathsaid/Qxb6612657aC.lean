import Derived.Test.Qxb6612657aB
namespace Go.Proofs.Qxb6612657a
open Go.RowKit

abbrev Ptr (g : Nat) : Value := .pointer (some ⟨g, 0, none⟩)
def dayC : List Value := [.map none, .nilIface, .string ⟨#[]⟩, .slice none 0 0]
def recC (mv : Option Nat) (cur : Value) : List Value := [.map mv, cur]
/-- What r.files holds: nil and nothing, or a map of just these entries. -/
def FM (w : World) (mv : Option Nat) (l : List (ByteArray × Value)) : Prop := (mv = none ∧ l = []) ∨ ∃ m, mv = some m ∧ SMap w m l

theorem zero28 (w : World) : (zeroValue 28).run Try.prog w = .ok (.pointer none) w := by kernel_rfl
theorem makeMap34 (w : World) : (Instr.makeMap 34 none).run Try.prog w = .ok (.map (some w.heap.size)) (w.alloc (.map #[] 0)) := by kernel_rfl
theorem makeMap30 (w : World) : (Instr.makeMap 30 none).run Try.prog w = .ok (.map (some w.heap.size)) (w.alloc (.map #[] 0)) := by kernel_rfl

theorem newRec (w : World) : Calls Try.prog 6 #[] w fun e w' => e = .returned (Ptr w.heap.size) ∧ w.alloc (.cells (recC none (.pointer none)).toArray 36) = w' := by
  go_enter Try.func6, Try.ntmps6
  go_wp2
  go_ret
  exact ⟨rfl, rfl⟩

theorem fileAt (r : Nat) (mv : Option Nat) (cur : Value) (l : List (ByteArray × Value)) (s : ByteArray) (w : World) (hr : Blk w r 36 (recC mv cur)) (hf : FM w mv l) :
    Calls Try.prog 8 #[Ptr r, .string s] w fun e w' => e = .returned ((assoc l s).getD (.pointer none)) ∧ w = w' := by
  have h0 := hr.cell (i := 0) (by rfl)
  have hlook : (Instr.lookup 34 (.map mv) (.string s) false).run Try.prog w = .ok ((assoc l s).getD (.pointer none)) w := by
    rcases hf with ⟨rfl, rfl⟩ | ⟨m, rfl, hm⟩
    · exact lookup_nil_map Try.underlying34 Try.underlying9 (zero28 w) s false
    · exact hm.lookup Try.underlying34 Try.underlying9 (zero28 w) s false
  clear hf hr
  go_enter Try.func8, Try.ntmps8
  go_wp2
  go_ret
  exact ⟨rfl, rfl⟩

theorem fileCount (r m : Nat) (cur : Value) (l : List (ByteArray × Value)) (w : World) (hr : Blk w r 36 (recC (some m) cur)) (hm : SMap w m l) :
    Calls Try.prog 9 #[Ptr r] w fun e w' => e = .returned (.int .i64 l.length) ∧ w = w' := by
  have h0 := hr.cell (i := 0) (by rfl)
  have hlen := hm.len (P := Try.prog) Try.underlying34 3
  clear hm hr
  go_enter Try.func9, Try.ntmps9
  go_wp2
  go_ret
  exact ⟨rfl, rfl⟩

theorem current (r : Nat) (mv : Option Nat) (g : Nat) (w : World) (hr : Blk w r 36 (recC mv (Ptr g))) :
    Calls Try.prog 10 #[Ptr r] w fun e w' => e = .returned (Ptr g) ∧ w = w' := by
  have h1 := hr.cell (i := 1) (by rfl)
  clear hr
  go_enter Try.func10, Try.ntmps10
  go_wp2
  go_ret
  exact ⟨rfl, rfl⟩

theorem dayCount (g : Nat) (w : World) (hg : Blk w g 42 dayC) :
    Calls Try.prog 11 #[Ptr g] w fun e w' => e = .returned (.int .i64 0) ∧ w = w' := by
  have h0 := hg.cell (i := 0) (by rfl)
  clear hg
  go_enter Try.func11, Try.ntmps11
  go_wp2
  go_ret
  exact ⟨rfl, rfl⟩

theorem eqMap_nil (w : World) : (binOp .eql 34 (.map none) (.map none)).run Try.prog w = .ok (.bool true) w := by kernel_rfl
theorem eqMap_some (m : Nat) (w : World) : (binOp .eql 34 (.map (some m)) (.map none)).run Try.prog w = .ok (.bool false) w := by kernel_rfl

/-- What File leaves. -/
def Filed (w w' : World) (r : Nat) (mv : Option Nat) (l : List (ByteArray × Value)) (s : ByteArray) : Prop :=
  ∃ m g, w.heap.size ≤ g ∧ m ≠ r ∧ m ≠ g ∧ r ≠ g ∧ (mv = some m ∨ w.heap.size ≤ m) ∧ Blk w' r 36 (recC (some m) (Ptr g)) ∧ SMap w' m (putAt s (Ptr g) l) ∧ Blk w' g 42 dayC ∧
    (∀ k, k < w.heap.size → k ≠ r → mv ≠ some k → w'.heap[k]? = w.heap[k]?) ∧
    ∀ B, B ≤ r → (∀ m0, mv = some m0 → B ≤ m0) → B ≤ w.heap.size → Below B w w'

theorem file_none (r : Nat) (cur : Value) (s : ByteArray) (w : World) (hr : Blk w r 36 (recC none cur)) :
    Calls Try.prog 7 #[Ptr r, .string s] w fun e w' => e = .returned (.tuple #[]) ∧ Filed w w' r none [] s := by
  have h0 := hr.cell (i := 0) (by rfl)
  have h1 := hr.cell (i := 1) (by rfl)
  have f0 := hr.frozen 0
  have f1 := hr.frozen 1
  have hlt := hr.lt
  have hmk := makeMap34
  have heq := eqMap_nil
  obtain ⟨w1, hw1⟩ : ∃ w1, w1 = (w.setCell ⟨r, 0, none⟩ (.map (some w.heap.size))).setCell ⟨r, 1, none⟩ (Ptr (w.heap.size + 1)) := ⟨_, rfl⟩
  obtain ⟨w3, hw3⟩ : ∃ w3, w3 = (w1.alloc (.map #[] 0)).alloc (.cells dayC.toArray 42) := ⟨_, rfl⟩
  have hs1 : w1.heap.size = w.heap.size := by rw [hw1]; simp
  have ho1 : Only (· = r) w w1 := by
    rw [hw1]
    exact ((Only.refl (· = r) w).set (p := ⟨r, 0, none⟩) rfl _).set (p := ⟨r, 1, none⟩) rfl _
  have hr1 : Blk w1 r 36 (recC (some w.heap.size) (Ptr (w.heap.size + 1))) := by rw [hw1]; exact (hr.set 0 _).set 1 _
  have hr3 : Blk w3 r 36 (recC (some w.heap.size) (Ptr (w.heap.size + 1))) := by rw [hw3]; exact (hr1.alloc _).alloc _
  have hm3 : SMap w3 w.heap.size [] := by
    rw [hw3, ← hs1]
    exact (SMap.new w1).alloc _
  have hg3 : Blk w3 (w.heap.size + 1) 42 dayC := by
    have := Blk.new (w1.alloc (.map #[] 0)) 42 dayC
    rw [World.size_alloc, hs1, ← hw3] at this
    exact this
  obtain ⟨w4, hup, hm4, ho4⟩ := hm3.drew.update (P := Try.prog) Try.underlying34 Try.underlying9 s (Ptr (w.heap.size + 1))
  have hr4 : Blk w4 r 36 (recC (some w.heap.size) (Ptr (w.heap.size + 1))) := ho4.blk hr3.drew (by omega)
  have d0 := hr4.cell (i := 0) (by rfl)
  have d1 := hr4.cell (i := 1) (by rfl)
  have D0 := hid d0
  have D1 := hid d1
  clear hr4 d0 d1
  have HR : Hid (Filed w w4 r none [] s) := by
    refine ⟨w.heap.size, w.heap.size + 1, by omega, by omega, by omega, by omega, .inr (Nat.le_refl _), ?_, hm4, ?_, ?_, ?_⟩
    · exact ho4.blk hr3.drew (by omega)
    · exact ho4.blk hg3.drew (by omega)
    · intro k hk hkr _
      rw [ho4.block k (by omega)]
      show w3.heap[k]? = _
      rw [hw3, Below.heap_alloc _ _ k (by rw [World.size_alloc]; omega), Below.heap_alloc _ _ k (by omega), ho1.block k hkr]
    · intro B hB _ hBs
      refine (ho1.below (fun k hk => by omega)).trans ?_
      have h2 : Below B w1 w3 := by
        rw [hw3]
        exact ((Below.refl _ _).alloc (by omega) _).alloc (by rw [World.size_alloc]; omega) _
      exact h2.trans (((Only.drew (fun _ => False) w3).below (fun _ h => h.elim)).trans (ho4.below (fun k hk => by omega)))
  have c0 := hr3.cell (i := 0) (by rfl)
  have c1 := hr3.cell (i := 1) (by rfl)
  have HW3 := hid hw3
  have HW1 := hid hw1
  clear hm3 hm4 hg3 ho4 hr3 hr1 hs1 ho1 hr hw3 hw1
  have C0 := hid c0
  have C1 := hid c1
  clear c0 c1
  go_enter Try.func7, Try.ntmps7
  go_wp2_with fail
  have e3 := HW3.out
  rw [HW1.out] at e3
  unfold dayC at e3
  rw [← e3]
  have c0 := C0.out
  have c1 := C1.out
  clear e3 HW3 HW1 C0 C1 h0 h1 f0 f1 hmk heq
  go_region_held3 (fun w' => w'.cell? ⟨r, 0, none⟩ = some (.map (some w.heap.size)) ∧ w'.cell? ⟨r, 1, none⟩ = some (Ptr (w.heap.size + 1))) (first | exact ⟨c0, c1⟩ | exact ⟨D0.out, D1.out⟩) ((fail))
  go_end0
  exact ⟨rfl, HR.out⟩

theorem file_some (r m : Nat) (cur : Value) (l : List (ByteArray × Value)) (s : ByteArray) (w : World) (hr : Blk w r 36 (recC (some m) cur)) (hm : SMap w m l) (hmr : m ≠ r) :
    Calls Try.prog 7 #[Ptr r, .string s] w fun e w' => e = .returned (.tuple #[]) ∧ Filed w w' r (some m) l s := by
  have h0 := hr.cell (i := 0) (by rfl)
  have h1 := hr.cell (i := 1) (by rfl)
  have f1 := hr.frozen 1
  have hlt := hr.lt
  have hlm := hm.lt
  have heq := eqMap_some
  obtain ⟨w1, hw1⟩ : ∃ w1, w1 = w.setCell ⟨r, 1, none⟩ (Ptr w.heap.size) := ⟨_, rfl⟩
  obtain ⟨w3, hw3⟩ : ∃ w3, w3 = w1.alloc (.cells dayC.toArray 42) := ⟨_, rfl⟩
  have hs1 : w1.heap.size = w.heap.size := by rw [hw1]; simp
  have ho1 : Only (· = r) w w1 := by
    rw [hw1]
    exact (Only.refl (· = r) w).set (p := ⟨r, 1, none⟩) rfl _
  have hr1 : Blk w1 r 36 (recC (some m) (Ptr w.heap.size)) := by rw [hw1]; exact hr.set 1 _
  have hr3 : Blk w3 r 36 (recC (some m) (Ptr w.heap.size)) := by rw [hw3]; exact hr1.alloc _
  have hm3 : SMap w3 m l := by
    rw [hw3]
    exact (ho1.smap hm hmr).alloc _
  have hg3 : Blk w3 w.heap.size 42 dayC := by
    have := Blk.new w1 42 dayC
    rw [hs1, ← hw3] at this
    exact this
  obtain ⟨w4, hup, hm4, ho4⟩ := hm3.drew.update (P := Try.prog) Try.underlying34 Try.underlying9 s (Ptr w.heap.size)
  have hr4 : Blk w4 r 36 (recC (some m) (Ptr w.heap.size)) := ho4.blk hr3.drew (by omega)
  have d0 := hr4.cell (i := 0) (by rfl)
  have d1 := hr4.cell (i := 1) (by rfl)
  have D0 := hid d0
  have D1 := hid d1
  clear hr4 d0 d1
  have HR : Hid (Filed w w4 r (some m) l s) := by
    refine ⟨m, w.heap.size, Nat.le_refl _, hmr, by omega, by omega, .inl rfl, ?_, hm4, ?_, ?_, ?_⟩
    · exact ho4.blk hr3.drew (by omega)
    · exact ho4.blk hg3.drew (by omega)
    · intro k hk hkr hkm
      rw [ho4.block k (fun e => hkm (by rw [e]))]
      show w3.heap[k]? = _
      rw [hw3, Below.heap_alloc _ _ k (by omega), ho1.block k hkr]
    · intro B hB hBm hBs
      have hBm' := hBm m rfl
      refine (ho1.below (fun k hk => by omega)).trans ?_
      have h2 : Below B w1 w3 := by
        rw [hw3]
        exact (Below.refl _ _).alloc (by omega) _
      exact h2.trans (((Only.drew (fun _ => False) w3).below (fun _ h => h.elim)).trans (ho4.below (fun k hk => by omega)))
  have c0 := hr3.cell (i := 0) (by rfl)
  have c1 := hr3.cell (i := 1) (by rfl)
  have HW3 := hid hw3
  have HW1 := hid hw1
  clear hm3 hm4 hg3 ho4 hr3 hr1 hs1 ho1 hr hw3 hw1 hm
  have C0 := hid c0
  have C1 := hid c1
  clear c0 c1
  go_enter Try.func7, Try.ntmps7
  go_wp2_with fail
  have e3 := HW3.out
  rw [HW1.out] at e3
  unfold dayC at e3
  rw [← e3]
  have c0 := C0.out
  have c1 := C1.out
  clear e3 HW3 HW1 C0 C1 h0 h1 f1 heq
  go_region_held3 (fun w' => w'.cell? ⟨r, 0, none⟩ = some (.map (some m)) ∧ w'.cell? ⟨r, 1, none⟩ = some (Ptr w.heap.size)) (first | exact ⟨c0, c1⟩ | exact ⟨D0.out, D1.out⟩) ((fail))
  go_end0
  exact ⟨rfl, HR.out⟩

theorem file_any (r : Nat) (mv : Option Nat) (cur : Value) (l : List (ByteArray × Value)) (s : ByteArray) (w : World) (hr : Blk w r 36 (recC mv cur)) (hf : FM w mv l) (hmr : mv ≠ some r) :
    Calls Try.prog 7 #[Ptr r, .string s] w fun e w' => e = .returned (.tuple #[]) ∧ Filed w w' r mv l s := by
  rcases hf with ⟨rfl, rfl⟩ | ⟨m, rfl, hm⟩
  · exact file_none r cur s w hr
  · exact file_some r m cur l s w hr hm (fun e => hmr (by rw [e]))

end Go.Proofs.Qxb6612657a
