/-
  A text that a law builds by append: what is known of it, and what each kind of append does to it.
-/
import Derived.Test.Qxb6600868aArgs
import Derived.Laws.AppendOwnNone
namespace Go.Proofs.Qxb6600868a
open Go.RowKit Pl

/-- The slice at a, of n bytes zs, was built since the world w0; nothing that was there in w0 has turned. -/
structure Bt (w0 w : World) (a : Option Addr) (n cap : Nat) (zs : List Int) : Prop where
  own : w.ownsRow w0.heap.size 5 1 (.slice a n cap) n (bcells zs)
  bel : Below w0.heap.size w0 w
  len : zs.length = n

theorem Bt.start (w : World) : Bt w w none 0 0 [] := ⟨World.ownsRow_nil _ _ _ _, Below.refl _ _, rfl⟩

theorem Bt.drewN {w0 w : World} {a : Option Addr} {n cap : Nat} {zs : List Int} (h : Bt w0 w a n cap zs) (m : Nat) : Bt w0 (w.drewN m) a n cap zs :=
  ⟨h.own, h.bel.trans (below_drewN m), h.len⟩

theorem slice_form {w : World} {base n : Nat} {v : Value} {xs : List Value} (h : w.ownsRow base 5 1 v n xs) : ∃ a cap, v = .slice a n cap := by
  rcases h.2 with ⟨rfl, rfl⟩ | ⟨g, cap, cur, rfl, _⟩
  · exact ⟨none, 0, rfl⟩
  · exact ⟨_, _, rfl⟩

theorem own_ge {w : World} {base n : Nat} {v : Value} {xs : List Value} (h : w.ownsRow base 5 1 v n xs) : ∀ k, v.ownBlock = some k → base ≤ k := fun k hk => (h.lt k hk).1

/-- A built text as a text to read. -/
theorem Bt.txt {w0 w : World} {a : Option Addr} {n cap : Nat} {zs : List Int} (h : Bt w0 w a n cap zs) (hn : n ≤ 4194304) : ∃ g, Txt w a g n zs ∧ (0 < n → g < w.heap.size) := by
  rcases h.own.2 with ⟨hv, hn0⟩ | ⟨g, cap', cur, hv, _, hg, _⟩
  · subst hn0
    exact ⟨0, ⟨h.len, fun h => by omega, fun k hk => by omega, by omega⟩, fun h => by omega⟩
  · obtain ⟨rfl, rfl⟩ : a = some ⟨g, 0, none⟩ ∧ cap = cap' := by simpa using hv
    refine ⟨g, ⟨h.len, fun _ => rfl, fun k hk => ?_, hn⟩, fun _ => lt_of_block hg⟩
    rw [h.own.cellAt k (by omega)]
    have := h.len
    simp [bcells, List.getElem?_eq_getElem (show k < zs.length by omega)]

theorem bcells_append (xs ys : List Int) : bcells (xs ++ ys) = bcells xs ++ bcells ys := by simp [bcells]

/-- 'append(text, ys...)', ys a slice behind an address. -/
theorem wpList_app {w0 w : World} {ops : Array Oper} {rest : List Oper} {o : Oper} {a : Act} {Q : Exit → Act → World → Prop} (hgd : o.guard = none) (s x : Operand)
    (ho : o.op = .call { callee := .builtin .append, args := #[s, x], argTypes := #[22, 22] })
    (ad : Option Addr) (n cap : Nat) (zs : List Int) (hb : Bt w0 w ad n cap zs) (hs : a.eval s = .slice ad n cap)
    (src : Addr) (m c : Nat) (ys : List Int) (hx : a.eval x = .slice (some src) m c) (hl : ys.length = m) (hnews : ∀ j u, (bcells ys)[j]? = some u → w.cell? (src.add j) = some u) (hbd : n + m ≤ 4194304) (N : Nat) (Z : List Int) (hN : n + m = N) (hZ : zs ++ ys = Z)
    (h : ∀ ad' cap' w', Bt w0 w' ad' N cap' Z → wpList Try.prog ops Q rest (a.put o.dst (.slice ad' N cap')) w') : wpList Try.prog ops Q (o :: rest) a w := by
  subst hN hZ
  obtain ⟨i0, hi, hz0, hz1, hz2⟩ := info_parts info5
  refine wpList_append_own w hgd s x 22 ho w0.heap.size 5 i0 (.int .u8 0) 1 1 Try.underlying22 hi hz0 hz1 hz2 rfl (by omega) (.slice ad n cap) n (bcells zs) hs hb.own src m c (bcells ys) hx (by rw [bcells_length]; omega) hnews (bcells_one ys)
    (by unfold maxLen; omega) (by omega) hb.bel.size ?_
  intro v' w' hown hg _
  obtain ⟨a', cap', rfl⟩ := slice_form hown
  refine h a' cap' w' ⟨?_, hb.bel.grown hg hb.bel.size (own_ge hb.own), ?_⟩
  · rw [bcells_append]; exact hown
  · rw [List.length_append, hl, hb.len]

/-- 'append(text, y1, y2, ..)': the elements are laid in a block of their own first. -/
theorem wpList_push {w0 w : World} {ops : Array Oper} {rest : List Oper} {o : Oper} {a : Act} {Q : Exit → Act → World → Prop} (hgd : o.guard = none) (s x : Operand)
    (ho : o.op = .call { callee := .builtin .append, args := #[s, x], argTypes := #[22, 22] })
    (ad : Option Addr) (n cap : Nat) (zs : List Int) (hb : Bt w0 w ad n cap zs) (hs : a.eval s = .slice ad n cap)
    (m : Nat) (ys : List Int) (hx : a.eval x = .slice (some ⟨w.heap.size, 0, none⟩) m m) (hl : ys.length = m) (hbd : n + m ≤ 4194304) (N : Nat) (Z : List Int) (hN : n + m = N) (hZ : zs ++ ys = Z)
    (h : ∀ ad' cap' w', Bt w0 w' ad' N cap' Z → wpList Try.prog ops Q rest (a.put o.dst (.slice ad' N cap')) w') : wpList Try.prog ops Q (o :: rest) a (w.alloc (.cells (bcells ys).toArray 5)) := by
  subst hN hZ
  refine wpList_app hgd s x ho ad n cap zs ⟨hb.own.alloc _, hb.bel.alloc hb.bel.size _, hb.len⟩ hs ⟨w.heap.size, 0, none⟩ m m ys hx hl ?_ hbd _ _ rfl rfl h
  intro j u hj
  obtain ⟨hj1, rfl⟩ := bcells_get hj
  have ea : (⟨w.heap.size, 0, none⟩ : Addr).add j = ⟨w.heap.size, j, none⟩ := by unfold Addr.add; split <;> simp_all
  rw [ea]
  exact cell_of_bcells (heap_alloc_new w _) j hj1

/-- What is known of a slice of bytes that is only read. -/
structure View (w : World) (a : Option Addr) (m cap : Nat) (ys : List Int) : Prop where
  len : ys.length = m
  nil : a = none → m = 0 ∧ cap = 0
  at_ : 0 < m → ∃ b off, a = some ⟨b, off, none⟩ ∧ b < w.heap.size ∧ ∀ j, j < m → w.cell? ⟨b, off + j, none⟩ = some (.int .u8 (ys.getD j 0))
  byte : ∀ z ∈ ys, 0 ≤ z ∧ z ≤ 255

theorem View.carry {w w' : World} {a : Option Addr} {len cap : Nat} {ys : List Int} (h : View w a len cap ys) (hb : Below w.heap.size w w') : View w' a len cap ys := by
  refine ⟨h.len, h.nil, fun hp => ?_, h.byte⟩
  obtain ⟨b, off, rfl, hlt, hc⟩ := h.at_ hp
  exact ⟨b, off, rfl, Nat.lt_of_lt_of_le hlt hb.size, fun j hj => (hb.cell (p := ⟨b, off + j, none⟩) hlt).trans (hc j hj)⟩

theorem Row8.look {w : World} {a : Option Addr} {len cap : Nat} {zs : List Int} (h : Row8 w a len cap zs) : View w a len cap (zs.take len) := by
  obtain ⟨_, _, h3, h4, h5⟩ := h.view
  refine ⟨h3, fun ha => ?_, h5, h4⟩
  rcases h with ⟨_, rfl, rfl, _⟩ | ⟨x, rfl, _⟩
  · exact ⟨rfl, rfl⟩
  · cases ha

/-- 'append(text, ys...)', ys whatever slice that is only read. -/
theorem wpList_appView {w0 w : World} {ops : Array Oper} {rest : List Oper} {o : Oper} {a : Act} {Q : Exit → Act → World → Prop} (hgd : o.guard = none) (s x : Operand)
    (ho : o.op = .call { callee := .builtin .append, args := #[s, x], argTypes := #[22, 22] })
    (ad : Option Addr) (n cap : Nat) (zs : List Int) (hb : Bt w0 w ad n cap zs) (hs : a.eval s = .slice ad n cap)
    (src : Option Addr) (m c : Nat) (ys : List Int) (hx : a.eval x = .slice src m c) (hv : View w src m c ys) (hbd : n + m ≤ 4194304) (N : Nat) (Z : List Int) (hN : n + m = N) (hZ : zs ++ ys = Z)
    (h : ∀ ad' cap' w', Bt w0 w' ad' N cap' Z → wpList Try.prog ops Q rest (a.put o.dst (.slice ad' N cap')) w') : wpList Try.prog ops Q (o :: rest) a w := by
  subst hN hZ
  cases src with
  | none =>
    obtain ⟨rfl, rfl⟩ := hv.nil rfl
    obtain rfl : ys = [] := List.eq_nil_of_length_eq_zero hv.len
    obtain ⟨i0, hi, hz0, hz1, hz2⟩ := info_parts info5
    exact wpList_append_own_none hgd s x 22 ho w0.heap.size 5 i0 1 Try.underlying22 hi (.slice ad n cap) n (bcells zs) hs hb.own hx (h ad cap w (by simpa using hb))
  | some src =>
    refine wpList_app hgd s x ho ad n cap zs hb hs src m c ys hx hv.len ?_ hbd _ _ rfl rfl h
    intro j u hj
    obtain ⟨hj1, rfl⟩ := bcells_get hj
    have hl := hv.len
    obtain ⟨b, off, e, hlt, hc⟩ := hv.at_ (by omega)
    obtain rfl : src = ⟨b, off, none⟩ := by simpa using e
    have ea : (⟨b, off, none⟩ : Addr).add j = ⟨b, off + j, none⟩ := by unfold Addr.add; split <;> simp_all
    rw [ea]
    exact hc j (by omega)

end Go.Proofs.Qxb6600868a
