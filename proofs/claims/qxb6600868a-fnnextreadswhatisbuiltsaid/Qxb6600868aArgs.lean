/-
  What a law is told of a slice of bytes that came in; the copy of it that the law makes first; the bound on the total length.
-/
import Derived.Test.Qxb6600868aBase
namespace Go.Proofs.Qxb6600868a
open Go.RowKit Pl

def Row8 (w : World) (a : Option Addr) (len cap : Nat) (zs : List Int) : Prop :=
  (a = none ∧ len = 0 ∧ cap = 0 ∧ zs = []) ∨
  ∃ x, a = some x ∧ len ≤ cap ∧ cap ≤ maxLen ∧ zs.length = cap ∧ (∀ i, i < zs.length → w.cell? (x.add i) = some (.int .u8 (zs.getD i 0))) ∧ ∀ n ∈ zs, (Lit.int .u8 n).wf = true

theorem block_of_cell {w : World} {p : Addr} {v : Value} (h : w.cell? p = some v) : p.block < w.heap.size := by
  rcases Nat.lt_or_ge p.block w.heap.size with h' | h'
  · exact h'
  · simp [World.cell?, Array.getElem?_eq_none h'] at h

/-- What there is to read behind a slice that came in. -/
theorem Row8.view {w : World} {a : Option Addr} {len cap : Nat} {zs : List Int} (h : Row8 w a len cap zs) :
    len ≤ cap ∧ len ≤ maxLen ∧ (zs.take len).length = len ∧ (∀ z ∈ zs.take len, 0 ≤ z ∧ z ≤ 255) ∧
    (0 < len → ∃ b off, a = some ⟨b, off, none⟩ ∧ b < w.heap.size ∧ ∀ j, j < len → w.cell? ⟨b, off + j, none⟩ = some (.int .u8 ((zs.take len).getD j 0))) := by
  rcases h with ⟨rfl, rfl, rfl, rfl⟩ | ⟨x, rfl, hl, hm, hz, hc, hw⟩
  · simp
  · refine ⟨hl, by omega, by simp; omega, fun z hz => ?_, fun hp => ?_⟩
    · have := hw z (List.mem_of_mem_take hz)
      have b := bounds_u8 this
      exact ⟨b.1, by omega⟩
    · obtain ⟨b, off, spot⟩ := x
      have hc0 := hc 0 (by omega)
      have hs : spot = none := by simpa [Addr.add] using World.cell?_spot hc0
      subst hs
      refine ⟨b, off, rfl, by simpa [Addr.add] using block_of_cell hc0, fun j hj => ?_⟩
      have := hc j (by omega)
      have e : (zs.take len).getD j 0 = zs.getD j 0 := by
        simp only [List.getD_eq_getElem?_getD, List.getElem?_take]; rw [if_pos hj]
      have ea : (⟨b, off, none⟩ : Addr).add j = ⟨b, off + j, none⟩ := by unfold Addr.add; split <;> simp_all
      rw [e, ← ea]
      exact this

theorem info5 : (Try.prog.info? 5).map (fun i => (i.zero, i.size, i.bytes)) = some (some (.int .u8 0), 1, 1) := by kernel_rfl
theorem size5 : (Try.prog.info? 5).map (·.size) = some 1 := by kernel_rfl

/-- The cells of a list of bytes. -/
def bcells (zs : List Int) : List Value := zs.map (Value.int .u8)
theorem bcells_length (zs : List Int) : (bcells zs).length = zs.length := by simp [bcells]
theorem bcells_get {zs : List Int} {j : Nat} {v : Value} (h : (bcells zs)[j]? = some v) : j < zs.length ∧ v = .int .u8 (zs.getD j 0) := by
  simp [bcells] at h
  obtain ⟨z, hz, rfl⟩ := h
  obtain ⟨h1, h2⟩ := List.getElem?_eq_some_iff.1 hz
  exact ⟨h1, by simp [List.getD_eq_getElem?_getD, hz]⟩
theorem bcells_one (zs : List Int) : ∀ v ∈ bcells zs, v.oneCell' = true := ints_oneCell _ _

theorem cell_of_bcells {w : World} {g : Nat} {t : TypeId} {zs : List Int} (h : w.heap[g]? = some (.cells (bcells zs).toArray t (0, 0))) (k : Nat) (hk : k < zs.length) : w.cell? ⟨g, k, none⟩ = some (.int .u8 (zs.getD k 0)) := by
  simp [World.cell?, h, bcells, hk]

theorem splice_whole (n : Nat) (zs : List Int) (z : Value) (h : zs.length = n) : splice (List.replicate n z) 0 (bcells zs) = bcells zs := by
  simp [splice, bcells_length, h]

/-- The block that 'make([]byte, n)' lays, as a list. -/
theorem made_block (w : World) (n : Nat) : (w.alloc (.cells (madeCells #[.int .u8 0] n) 5)).heap[w.heap.size]? = some (.cells (List.replicate n (Value.int .u8 0)).toArray 5 (0, 0)) := by
  rw [heap_alloc_new, ← toList_madeCells_one]

/-- Behind the copy: the text is there, in a block of the call's own. -/
theorem txt_of_copy {w : World} {g n : Nat} {zs : List Int} (h : w.heap[g]? = some (.cells (splice (List.replicate n (Value.int .u8 0)) 0 (bcells zs)).toArray 5 (0, 0))) (hl : zs.length = n) (hn : n ≤ 4194304) :
    Txt w (some ⟨g, 0, none⟩) g n zs := by
  rw [splice_whole n zs _ hl] at h
  exact ⟨hl, fun _ => rfl, fun k hk => cell_of_bcells h k (by omega), hn⟩

/-- The source of the copy, as the law on copy wants it, in a world behind the make. -/
theorem src_of_view {w w' : World} {a : Option Addr} {len : Nat} {zs : List Int} (hz : zs.length = len)
    (hv : 0 < len → ∃ b off, a = some ⟨b, off, none⟩ ∧ b < w.heap.size ∧ ∀ j, j < len → w.cell? ⟨b, off + j, none⟩ = some (.int .u8 (zs.getD j 0))) (hb : Below w.heap.size w w') :
    0 < (bcells zs).length → ∃ ad, a = some ad ∧ ∀ j v, (bcells zs)[j]? = some v → w'.cell? (ad.add j) = some v := by
  intro hp
  rw [bcells_length] at hp
  obtain ⟨b, off, rfl, hlt, hc⟩ := hv (by omega)
  refine ⟨_, rfl, fun j v hj => ?_⟩
  obtain ⟨hj1, rfl⟩ := bcells_get hj
  have ea : (⟨b, off, none⟩ : Addr).add j = ⟨b, off + j, none⟩ := by unfold Addr.add; split <;> simp_all
  rw [ea, hb.cell (p := ⟨b, off + j, none⟩) hlt]
  exact hc j (by omega)

/-- The three side facts of the law on copy, for 'zzc := make([]byte, len(text)); copy(zzc, text)'. -/
structure CopySides (w : World) (a : Option Addr) (len : Nat) (zs : List Int) : Prop where
  n : (bcells zs).length = Nat.min len len
  pos : 0 < (bcells zs).length → (some ⟨w.heap.size, 0, none⟩ : Option Addr) = some ⟨w.heap.size, 0, none⟩ ∧ ∃ ad, a = some ad ∧ ∀ j v, (bcells zs)[j]? = some v → (w.alloc (.cells (madeCells #[.int .u8 0] len) 5)).cell? (ad.add j) = some v
  fit : 0 + (bcells zs).length ≤ (List.replicate len (Value.int .u8 0)).length
theorem copy_sides {w : World} {a : Option Addr} {len : Nat} {zs : List Int} (hz : zs.length = len)
    (hv : 0 < len → ∃ b off, a = some ⟨b, off, none⟩ ∧ b < w.heap.size ∧ ∀ j, j < len → w.cell? ⟨b, off + j, none⟩ = some (.int .u8 (zs.getD j 0))) : CopySides w a len zs :=
  ⟨by rw [bcells_length, hz]; exact (Nat.min_self len).symm, fun hp => ⟨rfl, src_of_view hz hv ((Below.refl _ _).alloc (Nat.le_refl _) _) hp⟩, by rw [bcells_length, hz]; simp⟩

/-- A text cut at its end. -/
theorem Txt.cut {w : World} {g n : Nat} {zs : List Int} (h : Txt w (some ⟨g, 0, none⟩) g n zs) (m : Nat) (hm : m ≤ n) : Txt w (some ⟨g, 0, none⟩) g m (zs.take m) := by
  refine ⟨by have := h.len; simp; omega, fun _ => rfl, fun k hk => ?_, by have := h.small; omega⟩
  have e : (zs.take m).getD k 0 = zs.getD k 0 := by
    simp only [List.getD_eq_getElem?_getD, List.getElem?_take]; rw [if_pos hk]
  rw [e]; exact h.cell k (by omega)

/-- The bound on the total length, of the functions over one text and a place. -/
def okLen (n : Nat) : Bool := decide (n ≤ 1048576)

theorem zzb26 (a : Option Addr) (len cap : Nat) (i : Int) (w : World) (hm : len ≤ maxLen) : Calls Try.prog 26 #[.slice a len cap, .int .i64 i] w fun e w' => e = .returned (.bool (okLen len)) ∧ w' = w := by
  unfold maxLen at hm
  by_cases h : len ≤ 1048576
  · have h' : ¬ (1048576 : Int) < (len : Int) := by omega
    go_enter Try.func26, Try.ntmps26
    go_wp2
    go_ret
    exact ⟨ret_bool (by simp [okLen, h]), rfl⟩
  · have h' : (1048576 : Int) < (len : Int) := by omega
    go_enter Try.func26, Try.ntmps26
    go_wp2
    go_ret
    exact ⟨ret_bool (by simp [okLen, h]), rfl⟩
theorem zzb20 (a : Option Addr) (len cap : Nat) (i : Int) (w : World) (hm : len ≤ maxLen) : Calls Try.prog 20 #[.slice a len cap, .int .i64 i] w fun e w' => e = .returned (.bool (okLen len)) ∧ w' = w := by
  unfold maxLen at hm
  by_cases h : len ≤ 1048576
  · have h' : ¬ (1048576 : Int) < (len : Int) := by omega
    go_enter Try.func20, Try.ntmps20
    go_wp2
    go_ret
    exact ⟨ret_bool (by simp [okLen, h]), rfl⟩
  · have h' : (1048576 : Int) < (len : Int) := by omega
    go_enter Try.func20, Try.ntmps20
    go_wp2
    go_ret
    exact ⟨ret_bool (by simp [okLen, h]), rfl⟩
theorem zzb12 (a : Option Addr) (len cap : Nat) (i : Int) (w : World) (hm : len ≤ maxLen) : Calls Try.prog 12 #[.slice a len cap, .int .i64 i] w fun e w' => e = .returned (.bool (okLen len)) ∧ w' = w := by
  unfold maxLen at hm
  by_cases h : len ≤ 1048576
  · have h' : ¬ (1048576 : Int) < (len : Int) := by omega
    go_enter Try.func12, Try.ntmps12
    go_wp2
    go_ret
    exact ⟨ret_bool (by simp [okLen, h]), rfl⟩
  · have h' : (1048576 : Int) < (len : Int) := by omega
    go_enter Try.func12, Try.ntmps12
    go_wp2
    go_ret
    exact ⟨ret_bool (by simp [okLen, h]), rfl⟩

end Go.Proofs.Qxb6600868a
