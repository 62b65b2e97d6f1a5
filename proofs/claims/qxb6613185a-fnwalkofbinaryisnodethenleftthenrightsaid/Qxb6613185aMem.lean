/-
  THE MEMORY's WORDS: expressions, their operands, what a walk over them visits ('Spell'); the builder's state; what a step keeps.
-/
import Derived.Test.Qxb6613185aRows
import Derived.WalkKit
import Derived.Below
import Derived.Maps.AppendAt
import Derived.Deep.QuietTactic
import Derived.BigQuiet
namespace Go.Proofs.Qxb6613185a
open Go.RowKit
set_option linter.unusedVariables false

theorem hid {p : Prop} (h : p) : Hid p := h

/-- The node of type T in block b, as an interface value. -/
def nd (T b : Nat) : Value := .iface T (.pointer (some ⟨b, 0, none⟩))

/-- An expression: nil, or a node. -/
def IsE (v : Value) : Prop := v = .nilIface ∨ ∃ T b, v = .iface T (.pointer (some ⟨b, 0, none⟩))

theorem isE_nil : IsE .nilIface := .inl rfl
theorem isE_nd (T b : Nat) : IsE (nd T b) := .inr ⟨T, b, rfl⟩

/-- A row of expressions behind a slice value, in a block that C allows. -/
def RowAt (w : World) (C : Nat → Prop) (v : Value) (xs : List Value) : Prop :=
  (v = .slice none 0 0 ∧ xs = []) ∨ ∃ g c, v = .slice (some ⟨g, 0, none⟩) xs.length c ∧ C g ∧ xs.length ≤ c ∧ c ≤ maxLen ∧ ∀ j x, xs[j]? = some x → w.cell? ⟨g, j, none⟩ = some x

/-- WHAT Walk PUSHES BEHIND x: its operands from the left. -/
def Kids (w : World) (C : Nat → Prop) (x : Value) (ks : List Value) : Prop :=
  (x = .nilIface ∧ ks = []) ∨
  (∃ b u, x = nd 42 b ∧ C b ∧ w.cell? ⟨b, 1, none⟩ = some u ∧ ks = [u]) ∨
  (∃ b l r, x = nd 32 b ∧ C b ∧ w.cell? ⟨b, 1, none⟩ = some l ∧ w.cell? ⟨b, 2, none⟩ = some r ∧ ks = [l, r]) ∨
  (∃ b u l h, x = nd 45 b ∧ C b ∧ w.cell? ⟨b, 0, none⟩ = some u ∧ w.cell? ⟨b, 1, none⟩ = some l ∧ w.cell? ⟨b, 2, none⟩ = some h ∧ ks = [u, l, h]) ∨
  (∃ b u v xs, x = nd 48 b ∧ C b ∧ w.cell? ⟨b, 0, none⟩ = some u ∧ w.cell? ⟨b, 1, none⟩ = some v ∧ RowAt w C v xs ∧ ks = u :: xs) ∨
  (∃ b u, x = nd 51 b ∧ C b ∧ w.cell? ⟨b, 0, none⟩ = some u ∧ ks = [u]) ∨
  (∃ b u, x = nd 54 b ∧ C b ∧ w.cell? ⟨b, 1, none⟩ = some u ∧ ((u = .nilIface ∧ ks = []) ∨ (u ≠ .nilIface ∧ ks = [u]))) ∨
  (∃ b v xs, x = nd 58 b ∧ C b ∧ w.cell? ⟨b, 1, none⟩ = some v ∧ RowAt w C v xs ∧ ks = xs)

/-- Walk, its stack being s (the top first), visits 'out'. -/
def Spell (w : World) (C : Nat → Prop) : List Value → List Value → Prop
  | [], s => s = []
  | y :: out, s => ∃ s' ks, s = y :: s' ∧ IsE y ∧ Kids w C y ks ∧ (∀ k ∈ ks, IsE k) ∧ Spell w C out (ks ++ s')

theorem RowAt.mono {w w' : World} {C C' : Nat → Prop} (h : ∀ k, C k → C' k ∧ w'.heap[k]? = w.heap[k]?) {v : Value} {xs : List Value} (hr : RowAt w C v xs) : RowAt w' C' v xs := by
  rcases hr with hr | ⟨g, c, h1, h2, h3, h4, h5⟩
  · exact .inl hr
  · exact .inr ⟨g, c, h1, (h g h2).1, h3, h4, fun j x hj => (World.cell?_of_block (w := w) (h g h2).2).trans (h5 j x hj)⟩

theorem Kids.mono {w w' : World} {C C' : Nat → Prop} (h : ∀ k, C k → C' k ∧ w'.heap[k]? = w.heap[k]?) {x : Value} {ks : List Value} (hk : Kids w C x ks) : Kids w' C' x ks := by
  have cell : ∀ {b o : Nat} {u : Value}, C b → w.cell? ⟨b, o, none⟩ = some u → w'.cell? ⟨b, o, none⟩ = some u := fun hb hu => (World.cell?_of_block (w := w) (h _ hb).2).trans hu
  rcases hk with hk | ⟨b, u, h1, h2, h3, h4⟩ | ⟨b, l, r, h1, h2, h3, h4, h5⟩ | ⟨b, u, l, r, h1, h2, h3, h4, h5, h6⟩ | ⟨b, u, v, xs, h1, h2, h3, h4, h5, h6⟩ | ⟨b, u, h1, h2, h3, h4⟩ | ⟨b, u, h1, h2, h3, h4⟩ | ⟨b, v, xs, h1, h2, h3, h4, h5⟩
  · exact .inl hk
  · exact .inr (.inl ⟨b, u, h1, (h b h2).1, cell h2 h3, h4⟩)
  · exact .inr (.inr (.inl ⟨b, l, r, h1, (h b h2).1, cell h2 h3, cell h2 h4, h5⟩))
  · exact .inr (.inr (.inr (.inl ⟨b, u, l, r, h1, (h b h2).1, cell h2 h3, cell h2 h4, cell h2 h5, h6⟩)))
  · exact .inr (.inr (.inr (.inr (.inl ⟨b, u, v, xs, h1, (h b h2).1, cell h2 h3, cell h2 h4, h5.mono h, h6⟩))))
  · exact .inr (.inr (.inr (.inr (.inr (.inl ⟨b, u, h1, (h b h2).1, cell h2 h3, h4⟩)))))
  · exact .inr (.inr (.inr (.inr (.inr (.inr (.inl ⟨b, u, h1, (h b h2).1, cell h2 h3, h4⟩))))))
  · exact .inr (.inr (.inr (.inr (.inr (.inr (.inr ⟨b, v, xs, h1, (h b h2).1, cell h2 h3, h4.mono h, h5⟩))))))

theorem Spell.mono {w w' : World} {C C' : Nat → Prop} (h : ∀ k, C k → C' k ∧ w'.heap[k]? = w.heap[k]?) : ∀ {out s : List Value}, Spell w C out s → Spell w' C' out s
  | [], _, hs => hs
  | y :: out, s, ⟨s', ks, h1, h2, h3, h4, h5⟩ => ⟨s', ks, h1, h2, h3.mono h, h4, Spell.mono h h5⟩

theorem Spell.append {w : World} {C : Nat → Prop} {l2 s2 : List Value} (h2 : Spell w C l2 s2) : ∀ {l1 s1 : List Value}, Spell w C l1 s1 → Spell w C (l1 ++ l2) (s1 ++ s2)
  | [], s1, h => by
    have : s1 = [] := h
    subst this
    exact h2
  | y :: out, s, ⟨s', ks, h1, hE, h3, h4, h5⟩ => by
    subst h1
    refine ⟨s' ++ s2, ks, rfl, hE, h3, h4, ?_⟩
    have := Spell.append h2 h5
    rwa [List.append_assoc] at this

theorem Spell.node {w : World} {C : Nat → Prop} {x : Value} {ks l : List Value} (hx : IsE x) (hk : Kids w C x ks) (hE : ∀ k ∈ ks, IsE k) (h : Spell w C l ks) : Spell w C (x :: l) [x] :=
  ⟨[], ks, rfl, hx, hk, hE, by simpa using h⟩

theorem Spell.nil {w : World} {C : Nat → Prop} : Spell w C [.nilIface] [.nilIface] := Spell.node isE_nil (.inl ⟨rfl, rfl⟩) (by simp) rfl

theorem Spell.allE {w : World} {C : Nat → Prop} : ∀ {out s : List Value}, Spell w C out s → ∀ y ∈ out, IsE y
  | [], _, _, _, hy => by cases hy
  | y :: out, s, ⟨s', ks, h1, h2, h3, h4, h5⟩, z, hz => by
    rcases List.mem_cons.1 hz with rfl | hz
    · exact h2
    · exact Spell.allE h5 z hz

/-- WHAT A STEP KEEPS: every block that lay there but the builder's own and the row's; no such block is the new row's. -/
structure Fr (bb : Nat) (w : World) (a : Option Addr) (w' : World) (a' : Option Addr) : Prop where
  os : w'.os = w.os
  tape : w'.tape = w.tape
  output : w'.output = w.output
  size : w.heap.size ≤ w'.heap.size
  keep : ∀ k, k < w.heap.size → k ≠ bb → some k ≠ a.map (·.block) → some k ≠ a'.map (·.block) ∧ w'.heap[k]? = w.heap[k]?

theorem Fr.refl (bb : Nat) (w : World) (a : Option Addr) : Fr bb w a w a := ⟨rfl, rfl, rfl, Nat.le_refl _, fun k _ _ h => ⟨h, rfl⟩⟩

theorem Fr.trans {bb : Nat} {w w1 w2 : World} {a a1 a2 : Option Addr} (h : Fr bb w a w1 a1) (k : Fr bb w1 a1 w2 a2) : Fr bb w a w2 a2 :=
  ⟨k.os.trans h.os, k.tape.trans h.tape, k.output.trans h.output, Nat.le_trans h.size k.size, fun j hj hb hr => by
    obtain ⟨h1, h2⟩ := h.keep j hj hb hr
    obtain ⟨h3, h4⟩ := k.keep j (Nat.lt_of_lt_of_le hj h.size) hb h1
    exact ⟨h3, h4.trans h2⟩⟩

/-- The blocks from lo to hi that are not the row's. -/
def Cl (lo hi : Nat) (a : Option Addr) (k : Nat) : Prop := lo ≤ k ∧ k < hi ∧ some k ≠ a.map (·.block)

theorem Fr.spell {bb lo lo' hi hi' : Nat} {w w' : World} {a a' : Option Addr} (h : Fr bb w a w' a') (hlo : bb < lo) (hl : lo' ≤ lo) (hhi : hi ≤ w.heap.size) (hh : hi ≤ hi') {out s : List Value} (hs : Spell w (Cl lo hi a) out s) : Spell w' (Cl lo' hi' a') out s :=
  hs.mono fun k hk => by
    obtain ⟨h1, h2⟩ := h.keep k (Nat.lt_of_lt_of_le hk.2.1 hhi) (by have := hk.1; omega) hk.2.2
    exact ⟨⟨Nat.le_trans hl hk.1, Nat.lt_of_lt_of_le hk.2.1 hh, h1⟩, h2⟩

/-- The two byte slices that came in, and the builder's block. -/
structure In where
  bb : Nat
  ka : Option Addr
  K : Nat
  kc : Nat
  zk : List Int
  aa : Option Addr
  A : Nat
  ac : Nat
  za : List Int

/-- They lie below the builder and read as numbers. -/
structure In.Ok (I : In) (w : World) : Prop where
  K4 : I.K ≤ 4096
  A4 : I.A ≤ 4096
  kinds : ∀ j, j < I.K → ∃ b o, I.ka = some ⟨b, o, none⟩ ∧ b < I.bb ∧ w.cell? ⟨b, o + j, none⟩ = some (.int .u8 (I.zk.getD j 0)) ∧ 0 ≤ I.zk.getD j 0 ∧ I.zk.getD j 0 ≤ 255
  arity : ∀ j, j < I.A → ∃ b o, I.aa = some ⟨b, o, none⟩ ∧ b < I.bb ∧ w.cell? ⟨b, o + j, none⟩ = some (.int .u8 (I.za.getD j 0)) ∧ 0 ≤ I.za.getD j 0 ∧ I.za.getD j 0 ≤ 255

/-- THE BUILDER's STATE: the place p; 'want' the slice value at a, holding xs. -/
structure St (I : In) (w : World) (p : Nat) (a : Option Addr) (c : Nat) (xs : List Value) : Prop where
  ok : I.Ok w
  self : w.heap[I.bb]? = some (.cells #[.slice I.ka I.K I.kc, .slice I.aa I.A I.ac, .int .i64 p, .slice a xs.length c] 38 (0, 0))
  row : w.ownsRow (I.bb + 1) 25 1 (.slice a xs.length c) xs.length xs

theorem In.Ok.keep {I : In} {w w' : World} (h : I.Ok w) (hk : ∀ k, k < I.bb → w'.heap[k]? = w.heap[k]?) : I.Ok w' :=
  ⟨h.K4, h.A4, fun j hj => by
    obtain ⟨b, o, h1, h2, h3, h4⟩ := h.kinds j hj
    exact ⟨b, o, h1, h2, (World.cell?_of_block (w := w) (hk b h2)).trans h3, h4⟩, fun j hj => by
    obtain ⟨b, o, h1, h2, h3, h4⟩ := h.arity j hj
    exact ⟨b, o, h1, h2, (World.cell?_of_block (w := w) (hk b h2)).trans h3, h4⟩⟩

theorem ownBlock_slice (a : Option Addr) (n c : Nat) : (Value.slice a n c).ownBlock = a.map (·.block) := by cases a <;> rfl

theorem St.lt {I : In} {w : World} {p c : Nat} {a : Option Addr} {xs : List Value} (h : St I w p a c xs) : I.bb < w.heap.size := (Array.getElem?_eq_some_iff.1 h.self).1

theorem St.rowlt {I : In} {w : World} {p c : Nat} {a : Option Addr} {xs : List Value} (h : St I w p a c xs) (k : Nat) (hk : some k = a.map (·.block)) : I.bb < k ∧ k < w.heap.size := by
  have := h.row.lt k (by rw [ownBlock_slice, ← hk])
  omega

/-- A new block. -/
theorem St.alloc {I : In} {w : World} {p c : Nat} {a : Option Addr} {xs : List Value} (h : St I w p a c xs) (o : Obj) : St I (w.alloc o) p a c xs :=
  ⟨h.ok.keep fun k hk => Below.heap_alloc _ _ _ (by have := h.lt; omega), (Below.heap_alloc _ _ _ h.lt).trans h.self, h.row.alloc o⟩
theorem Fr.alloc {bb : Nat} {w w1 : World} {a a1 : Option Addr} (h : Fr bb w a w1 a1) (o : Obj) : Fr bb w a (w1.alloc o) a1 :=
  h.trans ⟨rfl, rfl, rfl, by simp, fun k hk _ hr => ⟨hr, Below.heap_alloc _ _ _ hk⟩⟩

/-- Draws. -/
theorem St.drewN {I : In} {w : World} {p c : Nat} {a : Option Addr} {xs : List Value} (h : St I w p a c xs) (n : Nat) : St I (w.drewN n) p a c xs :=
  ⟨h.ok.keep fun k hk => rfl, h.self, h.row.kept (row := none) ⟨rfl, rfl, rfl, Nat.le_refl _, fun _ _ _ => rfl⟩ (by cases hv : (Value.slice a xs.length c).ownBlock <;> simp)⟩
theorem Fr.drewN {bb : Nat} {w w1 : World} {a a1 : Option Addr} (h : Fr bb w a w1 a1) (n : Nat) : Fr bb w a (w1.drewN n) a1 :=
  h.trans ⟨rfl, rfl, rfl, Nat.le_refl _, fun k hk _ hr => ⟨hr, rfl⟩⟩

theorem heap_setCell_self (w : World) (b o : Nat) (u : Value) (cs : Array Value) (t : Nat) (m : Nat × Nat) (h : w.heap[b]? = some (.cells cs t m)) : (w.setCell ⟨b, o, none⟩ u).heap[b]? = some (.cells (cs.setIfInBounds o u) t m) := by
  simp [World.setCell, Array.getElem?_modify, h]

/-- The place moves on. -/
theorem St.pos {I : In} {w : World} {p c : Nat} {a : Option Addr} {xs : List Value} (h : St I w p a c xs) (q : Nat) : St I (w.setCell ⟨I.bb, 2, none⟩ (.int .i64 q)) q a c xs := by
  refine ⟨h.ok.keep fun k hk => Below.heap_setCell _ _ _ _ (by show k ≠ I.bb; omega), ?_, ?_⟩
  · rw [heap_setCell_self _ _ _ _ _ _ _ h.self]; simp
  · exact ownsRow_setCell_below h.row (by show I.bb < I.bb + 1; omega) _
theorem Fr.setSelf {bb : Nat} {w w1 : World} {a a1 : Option Addr} (h : Fr bb w a w1 a1) (o : Nat) (u : Value) : Fr bb w a (w1.setCell ⟨bb, o, none⟩ u) a1 :=
  h.trans ⟨rfl, rfl, rfl, by simp [World.setCell], fun k hk hb hr => ⟨hr, Below.heap_setCell _ _ _ _ hb⟩⟩

/-- An element more, its row stored back. -/
theorem St.push {I : In} {w w2 : World} {p c c' : Nat} {a a' : Option Addr} {xs : List Value} {y : Value} (h : St I w p a c xs)
    (hown : w2.ownsRow (I.bb + 1) 25 1 (.slice a' (xs.length + 1) c') (xs.length + 1) (xs ++ [y])) (hg : w.grownBy w2 (a.map (·.block))) : St I (w2.setCell ⟨I.bb, 3, none⟩ (.slice a' (xs.length + 1) c')) p a' c' (xs ++ [y]) := by
  have hne : ∀ k, k ≤ I.bb → some k ≠ a.map (·.block) := fun k hk e => by have := h.rowlt k e; omega
  have hs : w2.heap[I.bb]? = some (.cells #[.slice I.ka I.K I.kc, .slice I.aa I.A I.ac, .int .i64 p, .slice a xs.length c] 38 (0, 0)) := (hg.block _ h.lt (hne _ (Nat.le_refl _))).trans h.self
  have el : (xs ++ [y]).length = xs.length + 1 := by simp
  refine ⟨h.ok.keep fun k hk => (Below.heap_setCell _ _ _ _ (by show k ≠ I.bb; omega)).trans (hg.block k (by have := h.lt; omega) (hne k (by omega))), ?_, ?_⟩
  · rw [heap_setCell_self _ _ _ _ _ _ _ hs, el]; simp
  · rw [el]; exact ownsRow_setCell_below hown (by show I.bb < I.bb + 1; omega) _
theorem Fr.push {bb : Nat} {w w1 w2 : World} {a a1 a2 : Option Addr} (h : Fr bb w a w1 a1) (hg : w1.grownBy w2 (a1.map (·.block))) (hat : a2.map (·.block) = a1.map (·.block) ∨ a2.map (·.block) = some w1.heap.size) : Fr bb w a w2 a2 :=
  h.trans ⟨hg.os, hg.tape, hg.output, hg.size, fun k hk hb hr => ⟨by
    rcases hat with e | e
    · rw [e]; exact hr
    · rw [e]; intro h; cases h; omega, hg.block k hk hr⟩⟩

/-- A store into a block that is neither the builder's nor the row's, above the builder. -/
theorem St.put {I : In} {w : World} {p c : Nat} {a : Option Addr} {xs : List Value} (h : St I w p a c xs) {b o : Nat} (hb : I.bb < b) (hr : some b ≠ a.map (·.block)) (u : Value) : St I (w.setCell ⟨b, o, none⟩ u) p a c xs := by
  refine ⟨h.ok.keep fun k hk => Below.heap_setCell _ _ _ _ (by show k ≠ b; omega), (Below.heap_setCell _ _ _ _ (by show I.bb ≠ b; omega)).trans h.self, ?_⟩
  refine h.row.kept (row := some b) ⟨rfl, rfl, rfl, by simp [World.setCell], fun k hk hne => Below.heap_setCell _ _ _ _ (fun e => hne (by rw [e]))⟩ (.inr ?_)
  rw [ownBlock_slice]; exact fun e => hr e.symm
theorem Fr.put {bb : Nat} {w w1 : World} {a a1 : Option Addr} (h : Fr bb w a w1 a1) {b o : Nat} (hb : w.heap.size ≤ b) (u : Value) : Fr bb w a (w1.setCell ⟨b, o, none⟩ u) a1 :=
  ⟨h.os, h.tape, h.output, by simp [World.setCell]; exact h.size, fun k hk hbb hr => by
    obtain ⟨h1, h2⟩ := h.keep k hk hbb hr
    exact ⟨h1, (Below.heap_setCell _ _ _ _ (by show k ≠ b; omega)).trans h2⟩⟩
end Go.Proofs.Qxb6613185a
