/-
  WALK's STATE: two boxed slices (the stack, what was visited) and the boxed number of the stop.
-/
import Derived.Test.Qxb6613185aVisit
namespace Go.Proofs.Qxb6613185a
open Go.RowKit
set_option linter.unusedVariables false

structure Two (B : Nat) (w0 w : World) (P G S : Nat) (stop : Int) (pa : Option Addr) (pc : Nat) (st : List Value) (ga : Option Addr) (gc : Nat) (got : List Value) : Prop where
  p : Bx B w P pa pc st
  g : Bx B w G ga gc got
  s : w.heap[S]? = some (.cells #[.int .i64 stop] 3 (0, 0))
  pg : P ≠ G
  sp : S ≠ P
  sg : S ≠ G
  pr : some P ≠ ga.map (·.block)
  gr : some G ≠ pa.map (·.block)
  spr : some S ≠ pa.map (·.block)
  sgr : some S ≠ ga.map (·.block)
  rr : ∀ k, some k = pa.map (·.block) → some k ≠ ga.map (·.block)
  be : Below B w0 w
  le : B ≤ w.heap.size

theorem owns_some {w : World} {B e n c : Nat} {a : Option Addr} {xs : List Value} (h : w.ownsRow B e 1 (.slice a n c) n xs) (hn : 0 < n) : ∃ r, a = some ⟨r, 0, none⟩ := by
  rcases h.2 with ⟨_, h0⟩ | ⟨g, cap, _, hv, _⟩
  · omega
  · simp only [Value.slice.injEq] at hv
    exact ⟨g, hv.1⟩

section
variable {B : Nat} {w0 w w' : World} {P G S : Nat} {stop : Int} {pa ga : Option Addr} {pc gc : Nat} {st got : List Value}

theorem Two.slt (h : Two B w0 w P G S stop pa pc st ga gc got) : S < w.heap.size := (Array.getElem?_eq_some_iff.1 h.s).1

theorem Two.symm (h : Two B w0 w P G S stop pa pc st ga gc got) : Two B w0 w G P S stop ga gc got pa pc st :=
  ⟨h.g, h.p, h.s, h.pg.symm, h.sg, h.sp, h.gr, h.pr, h.sgr, h.spr, fun k hk hn => h.rr k hn hk, h.be, h.le⟩

/-- A step on G. -/
theorem Two.fr (h : Two B w0 w P G S stop pa pc st ga gc got) {ga' : Option Addr} {gc' : Nat} {got' : List Value} (f : Fr G w ga w' ga') (hb : Bx B w' G ga' gc' got') : Two B w0 w' P G S stop pa pc st ga' gc' got' := by
  obtain ⟨p1, p2⟩ := f.keep P h.p.lt h.pg h.pr
  obtain ⟨s1, s2⟩ := f.keep S h.slt h.sg h.sgr
  have hr : ∀ k, some k = pa.map (·.block) → some k ≠ ga'.map (·.block) ∧ w'.heap[k]? = w.heap[k]? := fun k hk => f.keep k (h.p.rowlt k hk).2 (by rintro rfl; exact h.gr hk) (h.rr k hk)
  refine ⟨h.p.keep p2 fun k hk => (hr k hk).2, hb, s2.trans h.s, h.pg, h.sp, h.sg, p1, h.gr, h.spr, s1, fun k hk => (hr k hk).1, ?_, Nat.le_trans h.le f.size⟩
  refine ⟨f.os.trans h.be.os, f.tape.trans h.be.tape, f.output.trans h.be.output, Nat.le_trans h.be.size f.size, fun k hk => (f.keep k (Nat.lt_of_lt_of_le hk h.le) (by rintro rfl; have := h.g.ge; omega) ?_).2.trans (h.be.block k hk)⟩
  intro e
  have := (h.g.rowlt k e).1
  omega

theorem Two.alloc (h : Two B w0 w P G S stop pa pc st ga gc got) (o : Obj) : Two B w0 (w.alloc o) P G S stop pa pc st ga gc got :=
  ⟨h.p.keep (Below.heap_alloc _ _ _ h.p.lt) fun k hk => Below.heap_alloc _ _ _ (h.p.rowlt k hk).2, h.g.keep (Below.heap_alloc _ _ _ h.g.lt) fun k hk => Below.heap_alloc _ _ _ (h.g.rowlt k hk).2,
    (Below.heap_alloc _ _ _ h.slt).trans h.s, h.pg, h.sp, h.sg, h.pr, h.gr, h.spr, h.sgr, h.rr, h.be.alloc h.le o, by have := h.le; simp; omega⟩

theorem Two.drewN (h : Two B w0 w P G S stop pa pc st ga gc got) (n : Nat) : Two B w0 (w.drewN n) P G S stop pa pc st ga gc got :=
  ⟨h.p.keep rfl fun _ _ => rfl, h.g.keep rfl fun _ _ => rfl, h.s, h.pg, h.sp, h.sg, h.pr, h.gr, h.spr, h.sgr, h.rr, ⟨h.be.os, h.be.tape, h.be.output, h.be.size, h.be.block⟩, h.le⟩

/-- The top of the stack: where it lies; and the stack without it. -/
theorem Two.pop {y : Value} (h : Two B w0 w P G S stop pa pc (st ++ [y]) ga gc got) : ∃ r, pa = some ⟨r, 0, none⟩ ∧ st.length + 1 ≤ pc ∧ w.cell? ⟨r, st.length, none⟩ = some y ∧ w.cell? ⟨P, 0, none⟩ = some (.slice (some ⟨r, 0, none⟩) (st.length + 1) pc) ∧ w.frozen? ⟨P, 0, none⟩ = false ∧
    Two B w0 (w.setCell ⟨P, 0, none⟩ (.slice (some ⟨r, 0, none⟩) st.length pc)) P G S stop (some ⟨r, 0, none⟩) pc st ga gc got := by
  have el : (st ++ [y]).length = st.length + 1 := by simp
  have hr := h.p.row
  obtain ⟨r, rfl⟩ := owns_some hr (by rw [el]; omega)
  obtain ⟨t1, t2⟩ := owns_take (n := 0) hr (by simp)
  refine ⟨r, rfl, by rw [el] at t2; exact t2, ?_, by rw [← el]; simp [World.cell?, h.p.box], by simp [World.frozen?, h.p.box], ?_⟩
  · obtain ⟨_, ⟨h2, _⟩ | ⟨g, c2, cur, hv, hbg, hh, hnc, hmax, hsz, htake⟩⟩ := hr
    · cases h2
    · simp only [Value.slice.injEq, Option.some.injEq, Addr.mk.injEq, and_true, true_and] at hv
      obtain ⟨rfl, rfl⟩ := hv
      have e2 : cur[st.length]? = some y := by
        have := congrArg (fun l => l[st.length]?) htake
        simp at this
        exact this
      simp [World.cell?, hh, e2]
  · have hset : ∀ k, k ≠ P → (w.setCell ⟨P, 0, none⟩ (.slice (some ⟨r, 0, none⟩) st.length pc)).heap[k]? = w.heap[k]? := fun k hk => Below.heap_setCell _ _ _ _ hk
    have hsz : (w.setCell ⟨P, 0, none⟩ (.slice (some ⟨r, 0, none⟩) st.length pc)).heap.size = w.heap.size := by simp [World.setCell]
    refine ⟨⟨?_, ?_, h.p.ne, h.p.ge⟩, h.g.keep (hset _ h.pg.symm) fun k hk => hset k (by rintro rfl; exact h.pr hk), (hset _ h.sp).trans h.s, h.pg, h.sp, h.sg, h.pr, h.gr, h.spr, h.sgr, h.rr, h.be.setCell h.p.ge _, by rw [hsz]; exact h.le⟩
    · rw [heap_setCell_self _ _ _ _ _ _ _ h.p.box]; simp
    · exact ownsRow_setCell_other t1 (by rw [ownBlock_slice]; exact fun e => h.p.ne e.symm) _

theorem Two.empty (h : Two B w0 w P G S stop pa pc [] ga gc got) : w.cell? ⟨P, 0, none⟩ = some (.slice pa 0 pc) := by simp [World.cell?, h.p.box]

/-- What the walk leaves in 'got'. -/
def cutAt (stop : Int) (L : List Value) : List Value := if 1 ≤ stop ∧ stop < L.length then L.take stop.toNat else L

/-- THE LOOP's STATE. -/
structure Wk (B : Nat) (w0 w : World) (P G S : Nat) (stop : Int) (L : List Value) (pa : Option Addr) (pc : Nat) (s : List Value) (ga : Option Addr) (gc : Nat) (got out : List Value) : Prop where
  two : Two B w0 w P G S stop pa pc s.reverse ga gc got
  eq : got ++ out = L
  sp : Spell w0 (· < B) out s
  going : stop < 1 ∨ (got.length : Int) < stop

theorem Spell.len {w : World} {C : Nat → Prop} : ∀ {out s : List Value}, Spell w C out s → s.length ≤ out.length
  | [], s, h => by
    have : s = [] := h
    simp [this]
  | y :: out, s, ⟨s', ks, h1, h2, h3, h4, h5⟩ => by
    have := Spell.len h5
    subst h1
    simp at this ⊢
    omega

theorem cut_all {stop : Int} {L : List Value} (h : stop < 1 ∨ (L.length : Int) < stop) : cutAt stop L = L := by
  unfold cutAt
  rw [if_neg (by omega)]

theorem cut_at {stop : Int} {got out : List Value} {y : Value} (h : (got.length : Int) + 1 = stop) : cutAt stop (got ++ y :: out) = got ++ [y] := by
  subst h
  have e : got ++ y :: out = (got ++ [y]) ++ out := by simp
  unfold cutAt
  split
  · rw [e]
    have : ((got.length : Int) + 1).toNat = (got ++ [y]).length := by simp
    rw [this, List.take_left]
  · rename_i hn
    have : out = [] := by
      cases out with
      | nil => rfl
      | cons z zs => exfalso; apply hn; simp; omega
    rw [this]

def gotLen (G : Nat) (w : World) : Nat := match w.cell? ⟨G, 0, none⟩ with
  | some (.slice _ n _) => n
  | _ => 0

theorem Two.gotLen (h : Two B w0 w P G S stop pa pc st ga gc got) : gotLen G w = got.length := by
  have : w.cell? ⟨G, 0, none⟩ = some (.slice ga got.length gc) := by simp [World.cell?, h.g.box]
  simp [Qxb6613185a.gotLen, this]
end
end Go.Proofs.Qxb6613185a
