/-
  build: a node in the making.
-/
import Derived.Test.Qxb6613185aBuild0
namespace Go.Proofs.Qxb6613185a
open Go.RowKit
set_option linter.unusedVariables false

theorem one_one {x : Value} (h : x.oneCell' = true) : ∀ u ∈ [x], u.oneCell' = true := by
  intro u hu; simp at hu; subst hu; exact h

/-- A NODE IN THE MAKING: y (in block nb) has come to 'want'; behind it ls, what the operands ks built so far spell; lb: the block of its list, where it has one (else nb itself). -/
structure Mid (I : In) (w : World) (p : Nat) (a : Option Addr) (xs : List Value) (y : Value) (nb lb : Nat) (no lo : Obj) (w4 : World) (q : Nat) (a4 : Option Addr) (c4 : Nat) (ls ks : List Value) : Prop where
  st : St I w4 q a4 c4 (xs ++ (y :: ls))
  fr : Fr I.bb w a w4 a4
  nge : w.heap.size ≤ nb
  lge : nb ≤ lb
  node : w4.heap[nb]? = some no
  list : w4.heap[lb]? = some lo
  nrow : some nb ≠ a4.map (·.block)
  lrow : some lb ≠ a4.map (·.block)
  le : p + 1 ≤ q
  leK : q ≤ I.K
  len : ls.length ≤ 256 * (q - (p + 1)) + ks.length
  sp : Spell w4 (fun k => Cl (nb + 1) w4.heap.size a4 k ∧ k ≠ lb) ls ks
  kE : ∀ k ∈ ks, IsE k
  bbn : I.bb < nb

section
variable {I : In} {w : World} {p : Nat} {a : Option Addr} {xs : List Value} {y : Value} {nb lb : Nat} {no lo : Obj} {w4 : World} {q : Nat} {a4 : Option Addr} {c4 : Nat} {ls ks : List Value}

theorem Mid.nlt (h : Mid I w p a xs y nb lb no lo w4 q a4 c4 ls ks) : nb < w4.heap.size := (Array.getElem?_eq_some_iff.1 h.node).1
theorem Mid.llt (h : Mid I w p a xs y nb lb no lo w4 q a4 c4 ls ks) : lb < w4.heap.size := (Array.getElem?_eq_some_iff.1 h.list).1

/-- The bound that the next call of build asks. -/
theorem Mid.bound (h : Mid I w p a xs y nb lb no lo w4 q a4 c4 ls ks) (hk : ks.length ≤ 255) (hb : xs.length + 256 * (I.K - p) + 1 ≤ 2000000) : (xs ++ (y :: ls)).length + 256 * (I.K - q) + 1 ≤ 2000000 := by
  have h1 := h.len
  have h2 := h.le
  have h3 := h.leK
  simp
  omega

/-- An operand more is built. -/
theorem Mid.res (h : Mid I w p a xs y nb lb no lo w4 q a4 c4 ls ks) {w5 : World} {x : Value} {q' : Nat} {a5 : Option Addr} {c5 : Nat} {l : List Value} (r : Res I w4 q a4 (xs ++ (y :: ls)) w5 x q' a5 c5 l) :
    Mid I w p a xs y nb lb no lo w5 q' a5 c5 (ls ++ l) (ks ++ [x]) := by
  have hbl : I.bb < lb := Nat.lt_of_lt_of_le h.bbn h.lge
  obtain ⟨n1, n2⟩ := r.fr.keep nb h.nlt (by have := h.bbn; omega) h.nrow
  obtain ⟨l1, l2⟩ := r.fr.keep lb h.llt (by omega) h.lrow
  refine ⟨?_, h.fr.trans r.fr, h.nge, h.lge, n2.trans h.node, l2.trans h.list, n1, l1, Nat.le_trans h.le r.le, r.leK, ?_, ?_, ?_, h.bbn⟩
  · have := r.st
    simpa using this
  · have h1 := h.len
    have h2 := r.len
    have h3 := r.le
    have h4 := h.le
    simp
    omega
  · have A1 : Spell w5 (fun k => Cl (nb + 1) w5.heap.size a5 k ∧ k ≠ lb) l [x] := r.sp.mono fun k hk =>
      ⟨⟨⟨by have := hk.1; have := h.nlt; omega, hk.2.1, hk.2.2⟩, by have := hk.1; have := h.llt; omega⟩, rfl⟩
    have A2 : Spell w5 (fun k => Cl (nb + 1) w5.heap.size a5 k ∧ k ≠ lb) ls ks := h.sp.mono fun k hk => by
      obtain ⟨k1, k2⟩ := r.fr.keep k hk.1.2.1 (by have := hk.1.1; have := h.bbn; omega) hk.1.2.2
      exact ⟨⟨⟨hk.1.1, Nat.lt_of_lt_of_le hk.1.2.1 r.fr.size, k1⟩, hk.2⟩, k2⟩
    exact Spell.append A1 A2
  · intro k hk
    rcases List.mem_append.1 hk with hk | hk
    · exact h.kE k hk
    · simp at hk; subst hk; exact r.isE

/-- A store into the node or into its list. -/
theorem Mid.put (h : Mid I w p a xs y nb lb no lo w4 q a4 c4 ls ks) {b o : Nat} {u : Value} {no' lo' : Obj} (hb : b = nb ∨ b = lb) (hn : (w4.setCell ⟨b, o, none⟩ u).heap[nb]? = some no') (hl : (w4.setCell ⟨b, o, none⟩ u).heap[lb]? = some lo') :
    Mid I w p a xs y nb lb no' lo' (w4.setCell ⟨b, o, none⟩ u) q a4 c4 ls ks := by
  have hbb : I.bb < b := by have := h.bbn; have := h.lge; omega
  have hr : some b ≠ a4.map (·.block) := by rcases hb with rfl | rfl; exact h.nrow; exact h.lrow
  have hge : w.heap.size ≤ b := by have := h.nge; have := h.lge; omega
  refine ⟨h.st.put hbb hr u, h.fr.put hge u, h.nge, h.lge, hn, hl, h.nrow, h.lrow, h.le, h.leK, h.len, ?_, h.kE, h.bbn⟩
  exact h.sp.mono fun k hk => ⟨⟨⟨hk.1.1, by simp [World.setCell]; exact hk.1.2.1, hk.1.2.2⟩, hk.2⟩, Below.heap_setCell _ _ _ _ (by show k ≠ b; have := hk.1.1; have := hk.2; omega)⟩

/-- The node's store where there is no list. -/
theorem Mid.putn {cs : Array Value} {t : Nat} (h : Mid I w p a xs y nb nb (.cells cs t (0, 0)) (.cells cs t (0, 0)) w4 q a4 c4 ls ks) (o : Nat) (u : Value) :
    Mid I w p a xs y nb nb (.cells (cs.setIfInBounds o u) t (0, 0)) (.cells (cs.setIfInBounds o u) t (0, 0)) (w4.setCell ⟨nb, o, none⟩ u) q a4 c4 ls ks :=
  h.put (.inl rfl) (heap_setCell_self _ _ _ _ _ _ _ h.node) (heap_setCell_self _ _ _ _ _ _ _ h.node)

/-- The node is done. -/
theorem Mid.done (h : Mid I w p a xs y nb lb no lo w4 q a4 c4 ls ks) (hk5 : ks.length ≤ 256) (hy : IsE y) (hn : y ≠ .nilIface) (hk : ∀ C : Nat → Prop, C nb → C lb → Kids w4 C y ks) : Res I w p a xs w4 y q a4 c4 (y :: ls) := by
  refine ⟨hy, by have := h.le; omega, h.leK, ?_, h.st, h.fr, ?_, fun e => absurd e hn⟩
  · have h1 := h.len
    have h2 := h.le
    simp
    omega
  · refine Spell.node hy (hk _ ⟨h.nge, h.nlt, h.nrow⟩ ⟨Nat.le_trans h.nge h.lge, h.llt, h.lrow⟩) h.kE (h.sp.mono fun k hk => ⟨⟨?_, hk.1.2.1, hk.1.2.2⟩, rfl⟩)
    have := hk.1.1
    have := h.nge
    omega
end

theorem owns_take {w : World} {B e n c : Nat} {a : Option Addr} {xs l : List Value} (h : w.ownsRow B e 1 (.slice a (xs ++ l).length c) (xs ++ l).length (xs ++ l)) (ha : a ≠ none) : w.ownsRow B e 1 (.slice a xs.length c) xs.length xs ∧ (xs ++ l).length ≤ c := by
  obtain ⟨h1, ⟨h2, h3⟩ | ⟨g, cap, cur, hv, hbg, hh, hnc, hmax, hsz, htake⟩⟩ := h
  · simp only [Value.slice.injEq] at h2; exact absurd h2.1 ha
  · simp only [Value.slice.injEq, true_and] at hv
    obtain ⟨rfl, rfl⟩ := hv
    refine ⟨⟨by simp, .inr ⟨g, c, cur, rfl, hbg, hh, ?_, hmax, hsz, ?_⟩⟩, hnc⟩
    · simp at hnc; omega
    · have := congrArg (List.take xs.length) htake
      rw [List.take_take] at this
      simpa using this

/-- The last of 'want' falls off again. -/
theorem St.trunc {I : In} {w : World} {p c : Nat} {a : Option Addr} {xs l : List Value} (h : St I w p a c (xs ++ l)) (hl : 0 < l.length) : St I (w.setCell ⟨I.bb, 3, none⟩ (.slice a xs.length c)) p a c xs ∧ (xs ++ l).length ≤ c := by
  have ha : a ≠ none := by
    rintro rfl
    obtain ⟨_, ⟨h2, h3⟩ | ⟨g, cap, cur, hv, _⟩⟩ := h.row
    · simp at h3; simp [h3.2] at hl
    · cases hv
  obtain ⟨h1, h2⟩ := owns_take (n := 0) h.row ha
  refine ⟨⟨h.ok.keep fun k hk => Below.heap_setCell _ _ _ _ (by show k ≠ I.bb; omega), ?_, ownsRow_setCell_below h1 (by show I.bb < I.bb + 1; omega) _⟩, h2⟩
  rw [heap_setCell_self _ _ _ _ _ _ _ h.self]; simp

/-- An operand that came out nil, and its nil struck off 'want' again. -/
theorem Mid.back {I : In} {w : World} {p : Nat} {a : Option Addr} {xs : List Value} {y : Value} {nb : Nat} {no : Obj} {w4 : World} {q : Nat} {a4 : Option Addr} {c4 : Nat} (h : Mid I w p a xs y nb nb no no w4 q a4 c4 [] [])
    {w5 : World} {x : Value} {q' : Nat} {a5 : Option Addr} {c5 : Nat} (r : Res I w4 q a4 (xs ++ [y]) w5 x q' a5 c5 [.nilIface]) :
    Mid I w p a xs y nb nb no no (w5.setCell ⟨I.bb, 3, none⟩ (.slice a5 (xs.length + 1) c5)) q' a5 c5 [] [] ∧ xs.length + 1 ≤ c5 := by
  obtain ⟨n1, n2⟩ := r.fr.keep nb h.nlt (by have := h.bbn; omega) h.nrow
  have hn : (w5.setCell ⟨I.bb, 3, none⟩ (.slice a5 (xs.length + 1) c5)).heap[nb]? = some no := (Below.heap_setCell _ _ _ _ (by show nb ≠ I.bb; have := h.bbn; omega)).trans (n2.trans h.node)
  obtain ⟨t1, t2⟩ := r.st.trunc (by simp)
  have e : (xs ++ [y]).length = xs.length + 1 := by simp
  rw [e] at t1
  refine ⟨⟨t1, (h.fr.trans r.fr).setSelf _ _, h.nge, Nat.le_refl _, hn, hn, n1, n1, Nat.le_trans h.le r.le, r.leK, by simp, rfl, by simp, h.bbn⟩, ?_⟩
  simp at t2
  omega

/-- New blocks alone. -/
theorem St.grown {I : In} {w w' : World} {p c : Nat} {a : Option Addr} {xs : List Value} (h : St I w p a c xs) (hg : w.grownBy w' none) : St I w' p a c xs :=
  ⟨h.ok.keep fun k hk => hg.block k (by have := h.lt; omega) (by simp), (hg.block _ h.lt (by simp)).trans h.self, h.row.kept hg (by cases hv : (Value.slice a xs.length c).ownBlock <;> simp)⟩
theorem Fr.grown {bb : Nat} {w w1 w2 : World} {a a1 : Option Addr} (h : Fr bb w a w1 a1) (hg : w1.grownBy w2 none) : Fr bb w a w2 a1 :=
  h.trans ⟨hg.os, hg.tape, hg.output, hg.size, fun k hk _ hr => ⟨hr, hg.block k hk (by simp)⟩⟩

/-- The node's list is made. -/
theorem Mid.make {I : In} {w : World} {p : Nat} {a : Option Addr} {xs : List Value} {y : Value} {nb : Nat} {no lo : Obj} {w4 w5 : World} {q : Nat} {a4 : Option Addr} {c4 : Nat} {ls ks : List Value} (h : Mid I w p a xs y nb nb no no w4 q a4 c4 ls ks)
    (hg : w4.grownBy w5 none) {lb : Nat} (hlb : lb = w4.heap.size) (hl : w5.heap[lb]? = some lo) : Mid I w p a xs y nb lb no lo w5 q a4 c4 ls ks := by
  subst hlb
  refine ⟨h.st.grown hg, h.fr.grown hg, h.nge, Nat.le_of_lt h.nlt, (hg.block _ h.nlt (by simp)).trans h.node, hl, h.nrow, ?_, h.le, h.leK, h.len, ?_, h.kE, h.bbn⟩
  · intro e; have := h.st.rowlt _ e; omega
  · exact h.sp.mono fun k hk => ⟨⟨⟨hk.1.1, Nat.lt_of_lt_of_le hk.1.2.1 hg.size, hk.1.2.2⟩, by have := hk.1.2.1; omega⟩, hg.block k hk.1.2.1 (by simp)⟩

/-- An element of the node's list. -/
theorem Mid.putl {I : In} {w : World} {p : Nat} {a : Option Addr} {xs : List Value} {y : Value} {nb lb : Nat} {no : Obj} {arr : Array Value} {t : Nat} {w4 : World} {q : Nat} {a4 : Option Addr} {c4 : Nat} {ls ks : List Value} (h : Mid I w p a xs y nb lb no (.cells arr t (0, 0)) w4 q a4 c4 ls ks) (hne : nb < lb) (o : Nat) (u : Value) :
    Mid I w p a xs y nb lb no (.cells (arr.setIfInBounds o u) t (0, 0)) (w4.setCell ⟨lb, o, none⟩ u) q a4 c4 ls ks :=
  h.put (.inr rfl) ((Below.heap_setCell _ _ _ _ (by show nb ≠ lb; omega)).trans h.node) (heap_setCell_self _ _ _ _ _ _ _ h.list)

/-- A field of a node that has a list. -/
theorem Mid.putm {I : In} {w : World} {p : Nat} {a : Option Addr} {xs : List Value} {y : Value} {nb lb : Nat} {lo : Obj} {cs : Array Value} {t : Nat} {w4 : World} {q : Nat} {a4 : Option Addr} {c4 : Nat} {ls ks : List Value} (h : Mid I w p a xs y nb lb (.cells cs t (0, 0)) lo w4 q a4 c4 ls ks) (hne : nb < lb) (o : Nat) (u : Value) :
    Mid I w p a xs y nb lb (.cells (cs.setIfInBounds o u) t (0, 0)) lo (w4.setCell ⟨nb, o, none⟩ u) q a4 c4 ls ks :=
  h.put (.inl rfl) (heap_setCell_self _ _ _ _ _ _ _ h.node) ((Below.heap_setCell _ _ _ _ (by show lb ≠ nb; omega)).trans h.list)

/-- The list's array, j elements laid: the operands behind the first d. -/
def Laid (arr : Array Value) (m d j : Nat) (ks : List Value) : Prop := ks.length = d + j ∧ arr.size = m ∧ ∀ i, i < j → arr[i]? = ks[d + i]?

theorem Laid.step {arr : Array Value} {m d j : Nat} {ks : List Value} (h : Laid arr m d j ks) (hj : j < m) (x : Value) : Laid (arr.setIfInBounds j x) m d (j + 1) (ks ++ [x]) := by
  obtain ⟨h1, h2, h3⟩ := h
  refine ⟨by simp [h1]; omega, by simp [h2], fun i hi => ?_⟩
  by_cases e : i = j
  · subst e
    rw [Array.getElem?_setIfInBounds]
    simp [h2, hj, ← h1]
  · rw [Array.getElem?_setIfInBounds]
    have : i < j := by omega
    rw [if_neg (by omega), h3 i this, List.getElem?_append_left (by omega)]

theorem Laid.row {w : World} {C : Nat → Prop} {arr : Array Value} {m d lb : Nat} {ks : List Value} (h : Laid arr m d m ks) (hm : m ≤ maxLen) (hw : w.heap[lb]? = some (.cells arr 25 (0, 0))) (hC : C lb) : RowAt w C (.slice (some ⟨lb, 0, none⟩) m m) (ks.drop d) := by
  obtain ⟨h1, h2, h3⟩ := h
  have hl : (ks.drop d).length = m := by simp [h1]
  refine .inr ⟨lb, m, by rw [hl], hC, by omega, hm, fun j x hj => ?_⟩
  rw [List.getElem?_drop] at hj
  have hj' : j < m := by
    have := (List.getElem?_eq_some_iff.1 hj).1
    omega
  have := h3 j hj'
  rw [hj] at this
  simp only [World.cell?, hw]
  simpa using this

/-- The node has come to 'want'. -/
theorem mid_start {I : In} {w W W3 : World} {p c' : Nat} {a a' : Option Addr} {xs : List Value} {y : Value} {nb : Nat} {no : Obj} (hp : p < I.K) (hF : Fr I.bb w a W a) (hW : W.heap.size = nb) (hrow : some nb ≠ a.map (·.block)) (hbb : I.bb < nb)
    (hS2 : St I W3 (p + 1) a' c' (xs ++ [y])) (hF2 : Fr I.bb (W.alloc no) a W3 a') : Mid I w p a xs y nb nb no no W3 (p + 1) a' c' [] [] := by
  obtain ⟨n1, n2, n3⟩ := node_kept (w0 := w) hF2 hW hbb hrow
  refine ⟨hS2, (hF.alloc no).trans hF2, ?_, Nat.le_refl _, n1, n1, n2, n2, Nat.le_refl _, hp, by simp, rfl, by simp, hbb⟩
  have := hF.size
  omega
end Go.Proofs.Qxb6613185a
