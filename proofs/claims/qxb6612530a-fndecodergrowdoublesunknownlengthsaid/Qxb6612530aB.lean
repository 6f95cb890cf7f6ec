import Derived.Test.Qxb6612530aA
namespace Go.Proofs.Qxb6612530a
open Go.RowKit

/-- The seven cells of a decoder with no source and no known length. -/
def decC (g n c : Nat) : List Value := [.slice (some ⟨g, 0, none⟩) n c, .int .i64 0, .slice none 0 0, .nilIface, .int .i64 0, .int .i64 0, .nilIface]

set_option maxHeartbeats 1000000 in
set_option maxRecDepth 100000 in
/-- '(*decoder).grow'. -/
theorem grow_any (bd g n c c' : Nat) (cs : List Value) (w : World) (hd : Blk w bd 45 (decC g n c)) (hg : Blk w g 5 cs) (hcl : cs.length = c) (hn : n ≤ c) (hc : c ≤ 33554432) (h1 : ∀ v ∈ cs, v.oneCell' = true) (hc' : c' = max (2 * c) 65536) :
    Calls Try.prog 15 #[.pointer (some ⟨bd, 0, none⟩)] w fun e w' => e = .returned (.tuple #[]) ∧ ∃ g', w.heap.size ≤ g' ∧ Blk w' bd 45 (decC g' n c') ∧ Blk w' g' 5 (cs.take n ++ (zeros c').drop n) ∧ Below bd w w' ∧ (∀ k, k < w.heap.size → k ≠ bd → w'.heap[k]? = w.heap[k]?) := by
  have hn' : n ≤ c' := by omega
  have hm := make_bytes 0 c' (by omega) (by omega)
  rw [Int.natCast_zero] at hm
  have HM := hid hm
  have hw : wrap64 ((2 : Int) * (c : Int)) = (2 : Int) * (c : Int) := by unfold wrap64; omega
  have hcases : ((2 : Int) * (c : Int) < 65536 ∧ Hid ((65536 : Int) = (c' : Int))) ∨ (¬ (2 : Int) * (c : Int) < 65536 ∧ Hid ((2 : Int) * (c : Int) = (c' : Int))) := by
    by_cases h : (2 : Int) * (c : Int) < 65536
    · exact .inl ⟨h, show _ = _ by omega⟩
    · exact .inr ⟨h, show _ = _ by omega⟩
  have HB := hid hc
  have HC := hid hc'
  clear hc' hc hm
  have d0 := hd.cell (i := 0) (by rfl)
  have d5 := hd.cell (i := 5) (by rfl)
  have f0 := hd.frozen 0
  have hlt := hd.lt
  rcases hcases with ⟨hA, hE⟩ | ⟨hA, hE⟩
  all_goals
    go_enter Try.func15, Try.ntmps15
    go_wp2_with fail
    rw [hE.out]
    clear hA hw
    go_quiet (fail)
    go_wp2_with fail
    have e1 : Blk (w.drewN nq) bd 45 (decC g n c) := hd
    have e2 : Blk (w.drewN nq) g 5 cs := hg
    have e3 : Only (· = bd) w (w.drewN nq) := Only.drewN _ _ _
    have hm := HM.out
    generalize w.drewN nq = W at *
    clear d0 d5 f0 hlt
    have hlt := e1.lt
    have hltg := e2.lt
    have x0 := e1.cell (i := 0) (by rfl)
    have f0 := e1.frozen 0
    have hgn : Blk (W.alloc (.cells (zeros c').toArray 5)).drew W.heap.size 5 (zeros c') := (Blk.new W 5 (zeros c')).drew
    have hlen : (cs.take n).length = n := by rw [List.length_take]; omega
    have hsrc : ∀ j v, (cs.take n)[j]? = some v → (W.alloc (.cells (zeros c').toArray 5)).drew.cell? ((⟨g, 0, none⟩ : Addr).add j) = some v := by
      intro j v hv
      rw [Addr.add_lit, Nat.zero_add]
      refine ((e2.alloc _).drew).cell ?_
      rw [List.getElem?_take] at hv
      split at hv
      · exact hv
      · cases hv
    have hfit : n ≤ (zeros c').length := by unfold zeros; rw [List.length_replicate]; exact hn'
    have hone : ∀ v ∈ cs.take n, v.oneCell' = true := fun v hv => h1 v (List.mem_of_mem_take hv)
    have HG := hid hgn
    have HS := hid hsrc
    have HL := hid hlen
    have HO := hid hone
    have HF := hid hfit
    have E1 := hid e1
    clear hgn hsrc hlen hone hfit h1 hcl e2 hg hd e1
    go_region_law ((refine step_append_blk rfl (.tmp 26) (.tmp 30) 23 rfl 5 Try.underlying23 size5 W.heap.size c' ⟨g, 0, none⟩ n c rfl rfl (zeros c') 5 HG.out (cs.take n) HL.out HS.out HF.out hn' HO.out ?_; intro w2 hB2 hO2; have y0 := (hO2.blk (E1.out.alloc _).drew (by omega)).cell (i := 0) (by rfl); have y1 := (hO2.blk (E1.out.alloc _).drew (by omega)).frozen 0))
    all_goals
      go_end0
      have hz : W.heap.size = w.heap.size := e3.size
      have b0 := hO2.blk (E1.out.alloc (.cells (zeros c').toArray 5)).drew (by omega)
      have b1 : Below bd w w2 := (((e3.below (fun k hk => by omega)).alloc (by omega) (.cells (zeros c').toArray 5)).drew).trans (hO2.below (fun k hk => by omega))
      refine ⟨rfl, W.heap.size, by omega, b0.set 0 _, hB2.out.other (by dsimp only; omega) _, b1.setCell (by dsimp only; omega) _, fun k hk hne => ?_⟩
      rw [heap_setCell_other _ _ k _ (by dsimp only; omega), hO2.block k (by omega)]
      exact (Below.heap_alloc W _ k (by omega)).trans (e3.block k hne)

/-- 'ZZgrow': the same. -/
theorem zzgrow_any (bd g n c c' : Nat) (cs : List Value) (w : World) (hd : Blk w bd 45 (decC g n c)) (hg : Blk w g 5 cs) (hcl : cs.length = c) (hn : n ≤ c) (hc : c ≤ 33554432) (h1 : ∀ v ∈ cs, v.oneCell' = true) (hc' : c' = max (2 * c) 65536) :
    Calls Try.prog 11 #[.pointer (some ⟨bd, 0, none⟩)] w fun e w' => e = .returned (.tuple #[]) ∧ ∃ g', w.heap.size ≤ g' ∧ Blk w' bd 45 (decC g' n c') ∧ Blk w' g' 5 (cs.take n ++ (zeros c').drop n) ∧ Below bd w w' ∧ (∀ k, k < w.heap.size → k ≠ bd → w'.heap[k]? = w.heap[k]?) := by
  have HG := hid (grow_any bd g n c c' cs w hd hg hcl hn hc h1 hc')
  clear hd hg hcl hn hc h1 hc'
  go_enter Try.func11, Try.ntmps11
  go_wp2_with fail
  refine HG.out.mono ?_
  rintro e w1 ⟨rfl, hx⟩
  have HX := hid hx
  clear hx
  go_wp2
  go_end0
  exact ⟨rfl, HX.out⟩

end Go.Proofs.Qxb6612530a
