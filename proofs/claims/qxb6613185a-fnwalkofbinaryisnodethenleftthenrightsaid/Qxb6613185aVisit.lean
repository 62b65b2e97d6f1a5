/-
  The two closures: visit (zzWalkAll$1), push (Walk$1).
-/
import Derived.Test.Qxb6613185aTree
import Derived.Deep.RegionLaw
namespace Go.Proofs.Qxb6613185a
open Go.RowKit
set_option linter.unusedVariables false

/-- A BOXED SLICE OF EXPRESSIONS, the call's own (from B on): block G holds the slice value; its row holds xs. -/
structure Bx (B : Nat) (w : World) (G : Nat) (a : Option Addr) (c : Nat) (xs : List Value) : Prop where
  box : w.heap[G]? = some (.cells #[.slice a xs.length c] 26 (0, 0))
  row : w.ownsRow B 25 1 (.slice a xs.length c) xs.length xs
  ne : some G ≠ a.map (·.block)
  ge : B ≤ G

theorem Bx.lt {B : Nat} {w : World} {G c : Nat} {a : Option Addr} {xs : List Value} (h : Bx B w G a c xs) : G < w.heap.size := (Array.getElem?_eq_some_iff.1 h.box).1
theorem Bx.rowlt {B : Nat} {w : World} {G c : Nat} {a : Option Addr} {xs : List Value} (h : Bx B w G a c xs) (k : Nat) (hk : some k = a.map (·.block)) : B ≤ k ∧ k < w.heap.size :=
  h.row.lt k (by rw [ownBlock_slice, ← hk])

/-- A step that leaves the box and its row alone. -/
theorem Bx.keep {B : Nat} {w w' : World} {G c : Nat} {a : Option Addr} {xs : List Value} (h : Bx B w G a c xs) (hG : w'.heap[G]? = w.heap[G]?) (hr : ∀ k, some k = a.map (·.block) → w'.heap[k]? = w.heap[k]?) : Bx B w' G a c xs := by
  refine ⟨hG.trans h.box, ?_, h.ne, h.ge⟩
  obtain ⟨h1, h2 | ⟨g, cap, cur, hv, hbg, hh, rest⟩⟩ := h.row
  · exact ⟨h1, .inl h2⟩
  · refine ⟨h1, .inr ⟨g, cap, cur, hv, hbg, (hr g ?_).trans hh, rest⟩⟩
    simp only [Value.slice.injEq] at hv
    rw [hv.1]; rfl

/-- Behind 'append(s, y)' on a boxed slice: what the store back leaves. -/
theorem Bx.push {B G : Nat} {W w' : World} {c sz : Nat} {a : Option Addr} {xs : List Value} {y v' : Value} {o : Obj} (h : Bx B W G a c xs) (hsz : sz = W.heap.size + 1)
    (hown : w'.ownsRow B 25 1 v' (xs.length + 1) (xs ++ [y])) (hg : (W.alloc o).grownBy w' (Value.slice a xs.length c).ownBlock)
    (hat : v'.ownBlock = (Value.slice a xs.length c).ownBlock ∨ v'.ownBlock = some sz) :
    ∃ a' c', v' = .slice a' (xs.length + 1) c' ∧ w'.cell? ⟨G, 0, none⟩ = some (.slice a xs.length c) ∧ w'.frozen? ⟨G, 0, none⟩ = false ∧
      Hid (Bx B (w'.setCell ⟨G, 0, none⟩ (.slice a' (xs.length + 1) c')) G a' c' (xs ++ [y])) ∧ Hid (Fr G W a (w'.setCell ⟨G, 0, none⟩ (.slice a' (xs.length + 1) c')) a') := by
  subst hsz
  obtain ⟨a', c', rfl⟩ := slice_of_owns hown
  rw [ownBlock_slice] at hg
  rw [ownBlock_slice, ownBlock_slice] at hat
  have hGl : G < (W.alloc o).heap.size := by have := h.lt; simp; omega
  have hs : w'.heap[G]? = some (.cells #[.slice a xs.length c] 26 (0, 0)) := (hg.block _ hGl h.ne).trans ((Below.heap_alloc _ _ _ h.lt).trans h.box)
  have hne : some G ≠ a'.map (·.block) := by
    rcases hat with e | e
    · rw [e]; exact h.ne
    · rw [e]; intro e2; cases e2; have := h.lt; omega
  refine ⟨a', c', rfl, by simp [World.cell?, hs], by simp [World.frozen?, hs], ⟨?_, ?_, hne, h.ge⟩, ?_⟩
  · rw [heap_setCell_self _ _ _ _ _ _ _ hs]; simp
  · have el : (xs ++ [y]).length = xs.length + 1 := by simp
    rw [el]
    refine hown.kept (row := some G) ⟨rfl, rfl, rfl, by simp [World.setCell], fun k hk hne => Below.heap_setCell _ _ _ _ (fun e => hne (by rw [e]))⟩ (.inr ?_)
    rw [ownBlock_slice]; exact fun e => hne e.symm
  · exact (((Fr.refl G W a).alloc o).push hg (by simpa using hat)).setSelf _ _

set_option maxHeartbeats 1000000 in
/-- visit: y comes to 'got'; it says whether it is not yet the stop-th. -/
theorem visit_any (B G S : Nat) (a : Option Addr) (c : Nat) (got : List Value) (stop : Int) (y : Value) (hy : IsE y) (w : World) (h : Bx B w G a c got) (hB : B ≤ w.heap.size) (hS : w.heap[S]? = some (.cells #[.int .i64 stop] 3 (0, 0))) (hGS : S ≠ G) (hSr : some S ≠ a.map (·.block)) (hn : got.length ≤ 4000000) :
    Calls Try.prog 12 #[y, .pointer (some ⟨G, 0, none⟩), .pointer (some ⟨S, 0, none⟩)] w fun e w' => ∃ a' c', e = .returned (.bool (((got.length : Int) + 1) != stop)) ∧ Hid (Bx B w' G a' c' (got ++ [y])) ∧ Hid (Fr G w a w' a') := by
  have hc : w.cell? ⟨G, 0, none⟩ = some (.slice a got.length c) := by simp [World.cell?, h.box]
  have hSl : S < w.heap.size := (Array.getElem?_eq_some_iff.1 hS).1
  obtain ⟨i0, hinfo, hz0, hz1, hz2⟩ := info_parts Try.info25
  have Hi := hid hinfo
  have Hz0 := hid hz0
  have Hz1 := hid hz1
  have Hz2 := hid hz2
  have HB := hid h
  have HS := hid hS
  have HSr := hid hSr
  clear hinfo hz0 hz1 hz2 h hS hSr
  rcases hy with rfl | ⟨T, b, rfl⟩
  all_goals
    go_enter Try.func12, Try.ntmps12
    go_wp2_with (at_builtin; refine wpList_append_own_at _ rfl (.tmp 5) (.tmp 7) 26 rfl B 25 i0 .nilIface 1 16 Try.underlying26 Hi.out Hz0.out Hz1.out Hz2.out rfl (by decide) _ _ _ rfl (HB.out.row.alloc _) ⟨_, 0, none⟩ 1 1 [_] rfl rfl (cell_new1 _ _ _ _ (by simp)) (one_one rfl) (by unfold maxLen; omega) (by omega) (by simp; omega) ?_)
    intro v' w' hown' hgrow _ hat
    obtain ⟨a', c', rfl, hc3, hf3, HB1, HF1⟩ := HB.out.push rfl hown' hgrow hat
    have hS1 : (w'.setCell ⟨G, 0, none⟩ (.slice a' (got.length + 1) c')).cell? ⟨S, 0, none⟩ = some (.int .i64 stop) := by
      have := (HF1.out.keep S hSl hGS HSr.out).2.trans HS.out
      simp [World.cell?, this]
    clear hown' hgrow hat
    go_wp2_with fail
    go_ret
    exact ⟨a', c', rfl, HB1.out, HF1.out⟩

theorem grown_undrew {w w' : World} {r : Option Nat} (h : w.drew.grownBy w' r) : w.grownBy w' r := ⟨h.os, h.tape, h.output, h.size, h.block⟩

theorem cell_lt {w : World} {a : Addr} {v : Value} (h : w.cell? a = some v) : a.block < w.heap.size := by
  unfold World.cell? at h
  by_cases hb : a.block < w.heap.size
  · exact hb
  · simp [Array.getElem?_eq_none (Nat.le_of_not_lt hb)] at h

/-- 'append' on a row that the call owns, as one step of a region that draws its order. -/
theorem step_push {P : Program} {ops : Array Oper} {o : Oper} {a : Act} {w : World} {K : Act → World → Prop} {Q : Exit → Act → World → Prop} {E : Prop} (hg : o.guard = none) (s x : Operand) (t : TypeId)
    (hop : o.op = Op.call { callee := Callee.builtin Builtin.append, args := #[s, x], argTypes := #[t, t] }) (base : Nat) (e : TypeId) (i : TypeInfo) (z : Value) (bytes : Nat) (ht : P.underlying t = some (.slice e)) (hi : P.info? e = some i) (hz : i.zero = some z)
    (hsize : i.size = 1) (hby : i.bytes = bytes) (hzs : z.cells.size = 1) (v : Value) (n : Nat) (xs : List Value) (hs : a.eval s = v) (hown : w.ownsRow base e 1 v n xs) (ad : Addr) (c : Nat) (y : Value) (hx : a.eval x = .slice (some ad) 1 c)
    (hnew : ∀ j u, [y][j]? = some u → w.cell? (ad.add j) = some u) (h1 : ∀ u ∈ [y], u.oneCell' = true) (h63 : n + 1 ≤ maxLen) (hbytes : (n + 1) * bytes ≤ 140737488355328) (hbase : base ≤ w.heap.size)
    (hK : ∀ v' w', w'.ownsRow base e 1 v' (n + 1) (xs ++ [y]) → w.grownBy w' v.ownBlock → (v'.ownBlock = v.ownBlock ∨ v'.ownBlock = some w.heap.size) → K (a.put o.dst v') w') :
    if Region.wanted o (yielded ops a.tmps) = true then Oper.wp P o a w K Q else E := by
  have hw : Region.wanted o (yielded ops a.tmps) = true := by simp [Region.wanted, hg]
  rw [if_pos hw]
  obtain ⟨v', w', hr, h2, h3, h4, h5⟩ := run_append_own_at (P := P) w base t o.type e i z 1 bytes ht hi hz hsize hby hzs (by decide) v n xs hown ad 1 c [y] rfl hnew h1 h63 hbytes hbase
  unfold Oper.wp
  simp [execOp, hop, resolve, invoke, builtin, hs, hx, hr, Result.andThen]
  exact hK v' w' h2 h3 h5

set_option maxHeartbeats 2000000 in
/-- push: the operands come to the stack, the last first. -/
theorem push_any (B P : Nat) (a : Option Addr) (c : Nat) (st : List Value) (ga : Option Addr) (k gc : Nat) (ks : List Value) (hk : ks.length = k) (hE : ∀ x ∈ ks, IsE x) (w : World) (h : Bx B w P a c st) (hB : B ≤ w.heap.size)
    (hga : ∀ j x, ks[j]? = some x → ∃ g, ga = some ⟨g, 0, none⟩ ∧ g ≠ P ∧ some g ≠ a.map (·.block) ∧ w.cell? ⟨g, j, none⟩ = some x) (hn : st.length + k ≤ 4000000) :
    Calls Try.prog 13 #[.slice ga k gc, .pointer (some ⟨P, 0, none⟩)] w fun e w' => ∃ a' c', e = .returned (.tuple #[]) ∧ Hid (Bx B w' P a' c' (st ++ ks.reverse)) ∧ Hid (Fr P w a w' a') := by
  obtain ⟨i0, hinfo, hz0, hz1, hz2⟩ := info_parts Try.info25
  have Hi := hid hinfo
  have Hz0 := hid hz0
  have Hz1 := hid hz1
  have Hz2 := hid hz2
  have HB := hid h
  have HG := hid hga
  have HE := hid hE
  have HK := hid hk
  clear hinfo hz0 hz1 hz2 h hga hE hk
  go_enter Try.func13, Try.ntmps13
  go_wp2_with fail
  go_loopw [3] (fun iv wr => ∃ (r : Nat) (a' : Option Addr) (c' : Nat), r ≤ k ∧ iv = .int .i64 ((r : Int) - 1) ∧ Hid (Bx B wr P a' c' (st ++ (ks.drop r).reverse)) ∧ Hid (Fr P w a wr a')) (fun iv _ => (intOf iv + 1).toNat)
  case atStart => exact ⟨k, a, c, Nat.le_refl _, rfl, by have := HK.out; simp [← this]; exact HB.out, Fr.refl _ _ _⟩
  case round =>
    obtain ⟨r, a', c', hr, hiv, HBr, HFr⟩ := hrel
    cases r with
    | zero =>
      subst hiv
      go_wp2_with fail
      go_end0
      exact ⟨a', c', rfl, hid (by simpa using HBr.out), HFr.out⟩
    | succ r =>
      obtain rfl : _ = .int .i64 (r : Int) := hiv.trans (by congr 1; omega)
      obtain ⟨x, hx⟩ : ∃ x, ks[r]? = some x := ⟨_, List.getElem?_eq_getElem (by rw [HK.out]; omega)⟩
      obtain ⟨g, rfl, hgP, hgr, hgc⟩ := HG.out r x hx
      have hrk : (r : Int) < (k : Int) := by omega
      have hxE := HE.out x (List.mem_of_getElem? hx)
      have hgw : wr.cell? ⟨g, r, none⟩ = some x := (World.cell?_of_block (w := w) (HFr.out.keep g (cell_lt hgc) hgP hgr).2).trans hgc
      have hpc : wr.cell? ⟨P, 0, none⟩ = some (.slice a' (st ++ (ks.drop (r + 1)).reverse).length c') := by simp [World.cell?, HBr.out.box]
      have hpc2 : ∀ o, (wr.alloc o).cell? ⟨P, 0, none⟩ = some (.slice a' (st ++ (ks.drop (r + 1)).reverse).length c') := fun o => (World.cell?_of_block (w := wr) (Below.heap_alloc _ _ _ HBr.out.lt)).trans hpc
      have hlen : (st ++ (ks.drop (r + 1)).reverse).length ≤ 3999999 := by have := HK.out; simp; omega
      have HX : Hid (st ++ (ks.drop (r + 1)).reverse ++ [x] = st ++ (ks.drop r).reverse) := hid (by rw [List.append_assoc, List.drop_eq_getElem_cons (show r < ks.length by rw [HK.out]; omega)]; simp [(List.getElem?_eq_some_iff.1 hx).2])
      have hBw : B ≤ wr.heap.size := Nat.le_trans hB HFr.out.size
      clear hgc hx hgP hgr
      generalize hL : st ++ (ks.drop (r + 1)).reverse = L at HBr hpc hpc2 hlen HX
      clear hL
      rcases hxE with rfl | ⟨T, b, rfl⟩
      all_goals
        go_wp2_with fail
        go_region_law (refine step_push rfl (.tmp 11) (.tmp 16) 26 rfl B 25 i0 .nilIface 16 Try.underlying26 Hi.out Hz0.out Hz1.out Hz2.out rfl _ _ _ rfl ((HBr.out.row.alloc _).drew) ⟨wr.heap.size, 0, none⟩ 1 _ rfl (cell_new1 wr _ _ _ rfl) (one_one rfl) (by unfold maxLen; omega) (by omega) (by simp; omega) ?_; intro v' w' hown' hgrow hat; obtain ⟨a2, c2, rfl, hc3, hf3, HB1, HF1⟩ := HBr.out.push (by simp) hown' (grown_undrew hgrow) hat)
        all_goals
          clear hown' hgrow hat
          have HB2 : Hid (Bx B (w'.setCell ⟨P, 0, none⟩ (.slice a2 (L.length + 1) c2)) P a2 c2 (st ++ (ks.drop r).reverse)) := hid (HX.out ▸ HB1.out)
          have HF2 := hid (HFr.out.trans HF1.out)
          clear HB1 HX
          go_wp2_with fail
          go_roundw
          case rel => exact ⟨r, a2, c2, by omega, by congr 1, HB2.out, HF2.out⟩
          case measure => simp [intOf]
end Go.Proofs.Qxb6613185a
