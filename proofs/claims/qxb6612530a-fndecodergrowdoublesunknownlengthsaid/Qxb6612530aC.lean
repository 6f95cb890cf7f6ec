import Derived.Test.Qxb6612530aB
namespace Go.Proofs.Qxb6612530a
open Go.RowKit

/-- What the walk is told of the bytes that came in. -/
def IsBytes (w : World) (a : Option Addr) (len cap : Nat) (zs : List Int) : Prop :=
  zs.length = len ∧ len ≤ cap ∧ ((a = none ∧ len = 0 ∧ cap = 0) ∨ ∃ x, a = some x ∧ ∀ k, k < len → ∃ b off, x = ⟨b, off, none⟩ ∧ w.cell? ⟨b, off + k, none⟩ = some (.int .u8 (zs.getD k 0)))
def bytesV (zs : List Int) : List Value := zs.map (Value.int .u8)
theorem bytesV_one (zs : List Int) : ∀ v ∈ bytesV zs, v.oneCell' = true := by
  intro v hv
  obtain ⟨_, _, rfl⟩ := List.mem_map.1 hv
  rfl
theorem zeros_one (n : Nat) : ∀ v ∈ zeros n, v.oneCell' = true := by
  intro v hv
  obtain ⟨_, rfl⟩ := List.mem_replicate.1 hv
  rfl
theorem bytesV_at (zs : List Int) (k : Nat) (h : k < zs.length) : (bytesV zs)[k]? = some (.int .u8 (zs.getD k 0)) := by
  unfold bytesV
  rw [List.getElem?_map, List.getElem?_eq_getElem h, List.getD_eq_getElem?_getD, List.getElem?_eq_getElem h]
  rfl

/-- 'copy(t, text)' into the new row. -/
theorem copy_any (a : Option Addr) (len cap : Nat) (zs : List Int) (w : World) (hz : IsBytes w a len cap zs) :
    ∃ w2, (Builtin.copy_ #[23, 23] 3 #[.slice (some ⟨w.heap.size, 0, none⟩) len cap, .slice a len cap]).run Try.prog (w.alloc (.cells (zeros cap).toArray 5)) = .ok (.int .i64 len) w2 ∧
      Blk w2 w.heap.size 5 (bytesV zs ++ (zeros cap).drop len) ∧ Only (· = w.heap.size) (w.alloc (.cells (zeros cap).toArray 5)) w2 := by
  have hb := Blk.new w 5 (zeros cap)
  obtain ⟨hl, hlc, ⟨rfl, rfl, rfl⟩ | ⟨x, rfl, hc⟩⟩ := hz
  · refine ⟨_, run_copy_nil Try.prog _ 23 23 3 5 _ 0 0 Try.underlying23 (by rw [size5]; rfl), ?_, Only.refl _ _⟩
    have : zs = [] := List.eq_nil_of_length_eq_zero hl
    subst this
    exact hb
  · have hlen : (bytesV zs).length = Nat.min len len := by unfold bytesV; rw [List.length_map, hl]; show len = min len len; omega
    have hlen' : (bytesV zs).length = len := by unfold bytesV; rw [List.length_map, hl]
    have hsrc : ∀ j v, (bytesV zs)[j]? = some v → (w.alloc (.cells (zeros cap).toArray 5)).cell? (x.add j) = some v := by
      intro j v hv
      have hj : j < len := by have := (List.getElem?_eq_some_iff.1 hv).1; omega
      obtain ⟨b, off, rfl, hcell⟩ := hc j hj
      rw [bytesV_at zs j (by omega)] at hv
      rw [Addr.add_lit, World.cell?_alloc_lt _ _ _ (World.block_lt_of_cell? w _ hcell), hcell]
      exact hv
    have hfit : 0 + (bytesV zs).length ≤ (zeros cap).toArray.size := by rw [hlen']; simp [zeros]; omega
    have hrun := run_copy_row Try.prog (w.alloc (.cells (zeros cap).toArray 5)) 23 23 3 5 w.heap.size 0 len cap x len cap (zeros cap).toArray 5 (bytesV zs) Try.underlying23 size5 hb hlen hsrc hfit (bytesV_one zs)
    have e : (zeros cap).toArray.toList.take 0 ++ bytesV zs ++ (zeros cap).toArray.toList.drop (0 + (bytesV zs).length) = bytesV zs ++ (zeros cap).drop len := by rw [hlen']; simp
    rw [e, hlen'] at hrun
    refine ⟨(w.alloc (.cells (zeros cap).toArray 5)).setRow w.heap.size (bytesV zs ++ (zeros cap).drop len).toArray, hrun, ?_, ⟨rfl, rfl, rfl, by simp, fun k hk => setRow_other _ _ k _ hk⟩⟩
    exact setRow_heap (w.alloc (.cells (zeros cap).toArray 5)) w.heap.size _ _ 5 _ hb

/-- The room behind i grows. -/
def capAt (c : Nat) : Nat → Nat
  | 0 => c
  | i + 1 => max (2 * capAt c i) 65536
theorem capAt_le (c i : Nat) (hc : c ≤ 1048576) (hi : i ≤ 4) : capAt c i ≤ 33554432 := by
  match i, hi with
  | 0, _ => unfold capAt; omega
  | 1, _ => simp only [capAt]; omega
  | 2, _ => simp only [capAt]; omega
  | 3, _ => simp only [capAt]; omega
  | 4, _ => simp only [capAt]; omega
theorem capAt_one (c : Nat) : (c < 32768 → capAt c 1 = 65536) ∧ (32768 ≤ c → capAt c 1 = c * 2) := by simp only [capAt]; omega
theorem capAt_two (c : Nat) : (c < 32768 → capAt c 2 = 131072) ∧ (32768 ≤ c → capAt c 2 = c * 4) := by simp only [capAt]; omega
theorem capAt_three (c : Nat) : (c < 32768 → capAt c 3 = 262144) ∧ (32768 ≤ c → capAt c 3 = c * 8) := by simp only [capAt]; omega
theorem capAt_four (c : Nat) : (c < 32768 → capAt c 4 = 524288) ∧ (32768 ≤ c → capAt c 4 = c * 16) := by simp only [capAt]; omega

theorem zz_yes (a : Option Addr) (len cap : Nat) (k : Int) (h : len ≤ 1048576) (w : World) : Calls Try.prog 9 #[.slice a len cap, .int .i64 k] w fun e w' => e = .returned (.bool true) ∧ w = w' := by
  go_enter Try.func9, Try.ntmps9
  go_wp2
  go_ret
  exact ⟨rfl, rfl⟩
theorem zz_no (a : Option Addr) (len cap : Nat) (k : Int) (h : 1048576 < len) (w : World) : Calls Try.prog 9 #[.slice a len cap, .int .i64 k] w fun e w' => e = .returned (.bool false) ∧ w = w' := by
  go_enter Try.func9, Try.ntmps9
  go_wp2
  go_ret
  exact ⟨rfl, rfl⟩

end Go.Proofs.Qxb6612530a
