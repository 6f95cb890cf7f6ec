import Derived.Test.Qxb6612657aC
import Derived.LaidEqlPtr
namespace Go.Proofs.Qxb6612657a
open Go.RowKit

/-! ### The keys -/
def addK : List ByteArray → ByteArray → List ByteArray
  | [], s => [s]
  | k :: r, s => if s = k then k :: r else k :: addK r s
def keysOf (ts : List ByteArray) : List ByteArray := ts.foldl addK []
theorem keys_putAt (s : ByteArray) (v : Value) : ∀ l : List (ByteArray × Value), (putAt s v l).map (·.1) = addK (l.map (·.1)) s
  | [] => rfl
  | p :: r => by
    by_cases he : s = p.1
    · simp [putAt, addK, he]
    · simp [putAt, addK, he, keys_putAt s v r]
theorem keysOf_snoc (ts : List ByteArray) (s : ByteArray) : keysOf (ts ++ [s]) = addK (keysOf ts) s := by simp [keysOf]
theorem keysOf_take (ss : List ByteArray) (k : Nat) (s : ByteArray) (h : ss[k]? = some s) : keysOf (ss.take (k + 1)) = addK (keysOf (ss.take k)) s := by
  have hkl : k < ss.length := (List.getElem?_eq_some_iff.1 h).1
  have e : ss[k] = s := (List.getElem?_eq_some_iff.1 h).2
  rw [List.take_succ_eq_append_getElem hkl, e, keysOf_snoc]
theorem addK_mem {s x : ByteArray} : ∀ {ks : List ByteArray}, (x ∈ ks ∨ x = s) → x ∈ addK ks s
  | [], h => by simpa [addK] using h
  | k :: r, h => by
    by_cases he : s = k
    · simp only [addK, he, if_true]
      rcases h with h | h
      · exact h
      · rw [h, he]; exact List.mem_cons_self ..
    · simp only [addK, he, if_false]
      rcases h with h | h
      · rcases List.mem_cons.1 h with h | h
        · rw [h]; exact List.mem_cons_self ..
        · exact List.mem_cons_of_mem _ (addK_mem (.inl h))
      · exact List.mem_cons_of_mem _ (addK_mem (.inr h))
theorem foldl_mem (x : ByteArray) : ∀ (ts ks : List ByteArray), (x ∈ ks ∨ x ∈ ts) → x ∈ ts.foldl addK ks
  | [], ks, h => by simpa using h
  | t :: ts, ks, h => by
    refine foldl_mem x ts (addK ks t) ?_
    rcases h with h | h
    · exact .inl (addK_mem (.inl h))
    · rcases List.mem_cons.1 h with h | h
      · exact .inl (addK_mem (.inr h))
      · exact .inr h
theorem keysOf_mem {x : ByteArray} {ts : List ByteArray} (h : x ∈ ts) : x ∈ keysOf ts := foldl_mem x ts [] (.inr h)

theorem assoc_putAt (s : ByteArray) (v : Value) : ∀ l : List (ByteArray × Value), assoc (putAt s v l) s = some v
  | [] => by simp [putAt, assoc]
  | p :: r => by
    by_cases he : s = p.1
    · simp [putAt, assoc, he]
    · have h := assoc_putAt s v r
      have e : assoc (p :: putAt s v r) s = assoc (putAt s v r) s := by simp [assoc, he]
      simp only [putAt, he, if_false]
      rw [e, h]
theorem mem_putAt {s : ByteArray} {v : Value} {q : ByteArray × Value} : ∀ {l : List (ByteArray × Value)}, q ∈ putAt s v l → q = (s, v) ∨ q ∈ l
  | [], h => .inl (by simpa [putAt] using h)
  | p :: r, h => by
    by_cases he : s = p.1
    · simp only [putAt, he, if_true] at h
      rcases List.mem_cons.1 h with h | h
      · exact .inl (by rw [h, he])
      · exact .inr (List.mem_cons_of_mem _ h)
    · simp only [putAt, he, if_false] at h
      rcases List.mem_cons.1 h with h | h
      · exact .inr (by rw [h]; exact List.mem_cons_self ..)
      · rcases mem_putAt h with h | h
        · exact .inl h
        · exact .inr (List.mem_cons_of_mem _ h)
theorem assoc_mem {s : ByteArray} {v : Value} {l : List (ByteArray × Value)} (h : assoc l s = some v) : ∃ q ∈ l, q.2 = v := by
  unfold assoc at h
  cases hf : l.find? (fun p => decide (s = p.1)) with
  | none => rw [hf] at h; cases h
  | some q => rw [hf] at h; exact ⟨q, List.mem_of_find?_eq_some hf, by simpa using h⟩
theorem assoc_some {s : ByteArray} : ∀ {l : List (ByteArray × Value)}, s ∈ l.map (·.1) → ∃ v, assoc l s = some v
  | [], h => by cases h
  | p :: r, h => by
    by_cases he : s = p.1
    · exact ⟨p.2, by simp [assoc, he]⟩
    · have h' : s ∈ r.map (·.1) := by
        rcases List.mem_cons.1 h with h | h
        · exact absurd h he
        · exact h
      obtain ⟨v, hv⟩ := assoc_some h'
      exact ⟨v, by rw [← hv]; simp [assoc, he]⟩

/-! ### Pointers to digests -/
theorem info42 : ∃ j, Try.prog.info? 42 = some j ∧ j.size ≠ 0 := by
  have h : ((Try.prog.info? 42).map fun j => decide (j.size ≠ 0)) = some true := by kernel_rfl
  cases hj : Try.prog.info? 42 with
  | none => rw [hj] at h; cases h
  | some j => rw [hj] at h; exact ⟨j, rfl, by simpa using h⟩
theorem eql_other {g g' : Nat} {w : World} (hne : g ≠ g') (h : Blk w g 42 dayC) (h' : Blk w g' 42 dayC) : (binOp .eql 28 (Ptr g) (Ptr g')).run Try.prog w = .ok (.bool false) w := by
  obtain ⟨j, hj, hs⟩ := info42
  exact run_eql_ptr_other w Try.underlying28 hj hs (fun e => hne (by injection e)) h h'
theorem neq_same (g : Nat) (w : World) : (binOp .neq 28 (Ptr g) (Ptr g)).run Try.prog w = .ok (.bool false) w := by
  obtain ⟨j, hj, hs⟩ := info42
  have h : ∀ d : Nat, (Op.equalIn (d + 1) 28 (Ptr g) (Ptr g)).run Try.prog w = .ok true w := fun d => by
    simp [Op.equalIn, run_underlying Try.underlying28, sizeOf, typeInfo, hj, run_sameAddr_same]
  simp only [binOp]
  simp [Op.equal, Op.maxDepth, h 9999]

/-! ### What stands between two calls of File -/
structure Inv (w0 w : World) (r : Nat) (mv : Option Nat) (cur : Value) (l : List (ByteArray × Value)) (ks : List ByteArray) : Prop where
  bel : Below w0.heap.size w0 w
  hr : w0.heap.size ≤ r
  blk : Blk w r 36 (recC mv cur)
  fm : FM w mv l
  hmr : mv ≠ some r
  hm : ∀ m, mv = some m → w0.heap.size ≤ m
  keys : l.map (·.1) = ks
  vals : ∀ q ∈ l, ∃ g, q.2 = Ptr g ∧ Blk w g 42 dayC

theorem Inv.step {w0 w w' : World} {r : Nat} {mv : Option Nat} {cur : Value} {l : List (ByteArray × Value)} {ks : List ByteArray} (h : Inv w0 w r mv cur l ks) {s : ByteArray} (hf : Filed w w' r mv l s) :
    ∃ m g, Inv w0 w' r (some m) (Ptr g) (putAt s (Ptr g) l) (addK ks s) ∧ SMap w' m (putAt s (Ptr g) l) ∧ w.heap.size ≤ g ∧ Blk w' g 42 dayC ∧ ∀ g', Blk w g' 42 dayC → Blk w' g' 42 dayC := by
  obtain ⟨m, g, hg, hmr, hmg, hrg, hmv, hb, hs, hd, hk, hbel⟩ := hf
  have hkeep : ∀ g', Blk w g' 42 dayC → Blk w' g' 42 dayC := by
    intro g' hb'
    unfold Blk
    rw [hk g' hb'.lt ?_ ?_]
    · exact hb'
    · rintro rfl
      have := h.blk
      unfold Blk at this hb'
      rw [hb'] at this
      injection this with this
      injection this with _ h2
      cases h2
    · rintro rfl
      rcases h.fm with ⟨h1, _⟩ | ⟨m', h1, h2⟩
      · cases h1
      · injection h1 with h1
        subst h1
        obtain ⟨es, clock, hm', _⟩ := h2
        unfold Blk at hb'
        rw [hb'] at hm'
        injection hm' with hm'
        cases hm'
  have hsz := h.bel.size
  refine ⟨m, g, ⟨h.bel.trans (hbel _ h.hr h.hm hsz), h.hr, hb, .inr ⟨m, rfl, hs⟩, fun e => hmr (by injection e), ?_, ?_, ?_⟩, hs, hg, hd, hkeep⟩
  · intro m' e
    injection e with e
    subst e
    rcases hmv with e | e
    · exact h.hm _ e
    · omega
  · rw [keys_putAt, h.keys]
  · intro q hq
    rcases mem_putAt hq with rfl | hq
    · exact ⟨g, rfl, hd⟩
    · obtain ⟨g', e, hb'⟩ := h.vals q hq
      exact ⟨g', e, hkeep g' hb'⟩

end Go.Proofs.Qxb6612657a
