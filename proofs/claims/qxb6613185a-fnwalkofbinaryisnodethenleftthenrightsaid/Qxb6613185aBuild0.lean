/-
  build: the contract; the end of the description; a kind that is nil.
-/
import Derived.Test.Qxb6613185aMem
import Derived.Outline
import Derived.WalkLawsBesides
namespace Go.Proofs.Qxb6613185a
open Go.RowKit
set_option linter.unusedVariables false

theorem Try.info25 : (Try.prog.info? 25).map (fun i => (i.zero, i.size, i.bytes)) = some (some .nilIface, 1, 16) := by kernel_rfl

/-- WHAT A CALL OF build LEAVES: x is built; l has come to 'want'; Walk over x visits l. -/
structure Res (I : In) (w : World) (p : Nat) (a : Option Addr) (xs : List Value) (w' : World) (x : Value) (p' : Nat) (a' : Option Addr) (c' : Nat) (l : List Value) : Prop where
  isE : IsE x
  le : p ≤ p'
  leK : p' ≤ I.K
  len : l.length ≤ 256 * (p' - p) + 1
  st : St I w' p' a' c' (xs ++ l)
  fr : Fr I.bb w a w' a'
  sp : Spell w' (Cl w.heap.size w'.heap.size a') l [x]
  nil : x = .nilIface → l = [.nilIface]

/-- build's contract at the place p. -/
def Builds (I : In) (p : Nat) : Prop := ∀ (w : World) (a : Option Addr) (c : Nat) (xs : List Value), St I w p a c xs → p ≤ I.K → xs.length + 256 * (I.K - p) + 1 ≤ 2000000 →
  Calls Try.prog 10 #[.pointer (some ⟨I.bb, 0, none⟩)] w fun e w' => ∃ x p' a' c' l, e = .returned x ∧ Hid (Res I w p a xs w' x p' a' c' l)

theorem slice_of_owns {w : World} {B e n : Nat} {v : Value} {xs : List Value} (h : w.ownsRow B e 1 v n xs) : ∃ a c, v = .slice a n c := by
  rcases h.2 with ⟨rfl, rfl⟩ | ⟨g, cap, cur, rfl, _⟩
  · exact ⟨_, _, rfl⟩
  · exact ⟨_, _, rfl⟩

theorem St.cell {I : In} {w : World} {p c : Nat} {a : Option Addr} {xs : List Value} (h : St I w p a c xs) :
    w.cell? ⟨I.bb, 0, none⟩ = some (.slice I.ka I.K I.kc) ∧ w.cell? ⟨I.bb, 1, none⟩ = some (.slice I.aa I.A I.ac) ∧ w.cell? ⟨I.bb, 2, none⟩ = some (.int .i64 p) ∧ w.cell? ⟨I.bb, 3, none⟩ = some (.slice a xs.length c) ∧ ∀ o, w.frozen? ⟨I.bb, o, none⟩ = false := by
  refine ⟨?_, ?_, ?_, ?_, fun o => ?_⟩ <;> simp [World.cell?, World.frozen?, h.self]

theorem St.next {I : In} {w : World} {p c : Nat} {a : Option Addr} {xs : List Value} (h : St I w p a c xs) : St I (w.setCell ⟨I.bb, 2, none⟩ (.int .i64 ((p : Int) + 1))) (p + 1) a c xs := by
  have := h.pos (p + 1)
  rwa [show ((p + 1 : Nat) : Int) = (p : Int) + 1 from by omega] at this

/-- A store into a block below all that is read. -/
theorem Spell.put {w : World} {lo lo' hi hi' nb o : Nat} {a : Option Addr} {l s : List Value} (u : Value) (h : Spell w (Cl lo hi a) l s) (hn : nb < lo ∨ hi ≤ nb) (hl : lo' ≤ lo) (hh : hi ≤ hi') : Spell (w.setCell ⟨nb, o, none⟩ u) (Cl lo' hi' a) l s :=
  h.mono fun k hk => ⟨⟨Nat.le_trans hl hk.1, Nat.lt_of_lt_of_le hk.2.1 hh, hk.2.2⟩, Below.heap_setCell _ _ _ _ (by show k ≠ nb; have := hk.1; have := hk.2.1; omega)⟩

theorem cell_new1 (w : World) (x : Value) (t s : Nat) (hs : s = w.heap.size) : ∀ j u, [x][j]? = some u → (w.alloc (.cells #[x] t)).cell? ((⟨s, 0, none⟩ : Addr).add j) = some u := by
  subst hs; exact cell_one_new w x t

/-- The node's block, behind a step. -/
theorem node_kept {bb nb : Nat} {w0 W w4 : World} {a a4 : Option Addr} {o : Obj} (hF : Fr bb (W.alloc o) a w4 a4) (hW : W.heap.size = nb) (hb : bb < nb) (hr : some nb ≠ a.map (·.block)) :
    w4.heap[nb]? = some o ∧ some nb ≠ a4.map (·.block) ∧ nb < w4.heap.size := by
  subst hW
  obtain ⟨h1, h2⟩ := hF.keep W.heap.size (by simp) (by omega) hr
  refine ⟨h2.trans (by show (W.heap.push o)[W.heap.size]? = some o; simp), h1, ?_⟩
  have := hF.size
  simp at this
  omega

/-- Behind 'append(b.want, y)': what the store back leaves. -/
theorem after_push {I : In} {W w' : World} {p c sz : Nat} {a : Option Addr} {xs : List Value} {y v' : Value} {o : Obj} (h : St I W p a c xs) (hsz : sz = W.heap.size + 1)
    (hown : w'.ownsRow (I.bb + 1) 25 1 v' (xs.length + 1) (xs ++ [y])) (hg : (W.alloc o).grownBy w' (Value.slice a xs.length c).ownBlock)
    (hat : v'.ownBlock = (Value.slice a xs.length c).ownBlock ∨ v'.ownBlock = some sz) :
    ∃ a' c', v' = .slice a' (xs.length + 1) c' ∧ w'.cell? ⟨I.bb, 3, none⟩ = some (.slice a xs.length c) ∧ w'.frozen? ⟨I.bb, 3, none⟩ = false ∧
      Hid (St I (w'.setCell ⟨I.bb, 3, none⟩ (.slice a' (xs.length + 1) c')) p a' c' (xs ++ [y])) ∧ Hid (Fr I.bb W a (w'.setCell ⟨I.bb, 3, none⟩ (.slice a' (xs.length + 1) c')) a') := by
  subst hsz
  obtain ⟨a', c', rfl⟩ := slice_of_owns hown
  rw [ownBlock_slice] at hg
  rw [ownBlock_slice, ownBlock_slice] at hat
  have h1 := h.alloc o
  have hs : w'.heap[I.bb]? = some (.cells #[.slice I.ka I.K I.kc, .slice I.aa I.A I.ac, .int .i64 p, .slice a xs.length c] 38 (0, 0)) :=
    (hg.block _ h1.lt (fun e => by have := h.rowlt _ e; omega)).trans h1.self
  refine ⟨a', c', rfl, by simp [World.cell?, hs], by simp [World.frozen?, hs], h1.push hown hg, ?_⟩
  exact (((Fr.refl I.bb W a).alloc o).push hg (by simpa using hat)).setSelf _ _

set_option maxRecDepth 100000 in
set_option maxHeartbeats 2000000 in
/-- The description has run out: nil. -/
theorem build_end (I : In) (p : Nat) (hp : I.K ≤ p) : Builds I p := by
  intro w a c xs hst hpK hbd
  obtain ⟨h0, h1, h2, h3, hf⟩ := hst.cell
  have hK4 := hst.ok.K4
  obtain ⟨i0, hinfo, hz0, hz1, hz2⟩ := info_parts Try.info25
  have Hi := hid hinfo
  have Hz0 := hid hz0
  have Hz1 := hid hz1
  have Hz2 := hid hz2
  have HS := hid hst
  have hge : (I.K : Int) ≤ (p : Int) := by omega
  have hbb := hst.lt
  clear hinfo hz0 hz1 hz2 hst h1
  go_enter Try.func10, Try.ntmps10
  go_wp2
  go_quiet (fail)
  obtain ⟨w0, hw0⟩ : ∃ w0, w.drewN nq = w0 := ⟨_, rfl⟩
  rw [hw0]
  have HS0 := hid (HS.out.drewN nq)
  have HF0 := hid ((Fr.refl I.bb w a).drewN nq)
  have hsz : w0.heap.size = w.heap.size := by rw [← hw0]; rfl
  rw [hw0] at HS0 HF0
  have Hsz := hid hsz
  obtain ⟨g0, g1, g2, g3, gf⟩ := HS0.out.cell
  clear h0 h2 h3 hf hw0 hsz
  go_wp2_with (at_builtin; refine wpList_append_own_at _ rfl _ _ 26 rfl (I.bb + 1) 25 i0 .nilIface 1 16 Try.underlying26 Hi.out Hz0.out Hz1.out Hz2.out rfl (by decide) _ _ _ rfl (HS0.out.row.alloc _) ⟨w0.heap.size, 0, none⟩ 1 1 [.nilIface] rfl rfl ?c1 ?c2 ?c3 ?c4 ?c5 ?_)
  case c1 => exact cell_one_new _ _ _
  case c2 => intro u hu; simp at hu; subst hu; rfl
  case c3 => unfold maxLen; omega
  case c4 => omega
  case c5 => have := Hsz.out; simp; omega
  intro v' w' hown' hgrow _ hat
  obtain ⟨a', c', rfl, hc3, hf3, HS1, HF1⟩ := after_push HS0.out rfl hown' hgrow hat
  have HF := hid (HF0.out.trans HF1.out)
  clear hown' hgrow hat
  go_wp2_with fail
  go_ret
  refine ⟨_, p, a', c', [.nilIface], rfl, isE_nil, Nat.le_refl _, hpK, by simp, HS1.out, HF.out, Spell.nil, fun _ => rfl⟩
end Go.Proofs.Qxb6613185a
