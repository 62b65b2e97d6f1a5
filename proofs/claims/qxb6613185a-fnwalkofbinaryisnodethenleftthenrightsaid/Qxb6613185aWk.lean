/-
  WALK (func 11).
-/
import Derived.Test.Qxb6613185aAsserts
import Derived.Deep.RegionWith
namespace Go.Proofs.Qxb6613185a
open Go.RowKit
set_option linter.unusedVariables false
set_option maxRecDepth 100000
theorem IsE.cells {x : Value} (h : IsE x) : x.cells = #[x] := by
  rcases h with rfl | ⟨T, b, rfl⟩ <;> rfl

set_option maxHeartbeats 8000000 in
theorem walk_any (B : Nat) (x : Value) (hx : IsE x) (G S : Nat) (stop : Int) (L : List Value) (hL : L.length ≤ 3000000) (w0 w : World) (hbe : Below B w0 w) (hle : B ≤ w.heap.size)
    (hG : w.heap[G]? = some (.cells #[.slice none 0 0] 26 (0, 0))) (hS : w.heap[S]? = some (.cells #[.int .i64 stop] 3 (0, 0))) (hGS : S ≠ G) (hGB : B ≤ G) (hsp : Spell w0 (· < B) L [x]) :
    Calls Try.prog 11 #[x, .func (.func 12) #[] #[.pointer (some ⟨G, 0, none⟩), .pointer (some ⟨S, 0, none⟩)]] w fun e w' => ∃ ga gc, e = .returned (.tuple #[]) ∧ Hid (Bx B w' G ga gc (cutAt stop L)) ∧ Hid (Below B w0 w') ∧ B ≤ w'.heap.size := by
  have HS := hid hS
  have HG := hid hG
  have HSP := hid hsp
  have HBE := hid hbe
  clear hS hG hsp hbe
  have hxc := hx.cells
  unfold Value.cells at hxc
  clear hx
  · go_enter Try.func11, Try.ntmps11
    go_wp2_with fail
    go_loopw [6] (fun _ wr => ∃ (s : List Value) (pa : Option Addr) (pc : Nat) (ga : Option Addr) (gc : Nat) (got out : List Value), Hid (Wk B w0 wr (w.heap.size + 1) G S stop L pa pc s ga gc got out)) (fun _ wr => L.length - gotLen G wr)
    case atStart => exact ⟨_, _, _, _, _, _, _, wk_start HBE.out hle HG.out HS.out hGS hGB HSP.out⟩
    case round =>
      obtain ⟨s, pa, pc, ga, gc, got, out, HW⟩ := hrel
      cases s with
      | nil =>
        have hout : out = [] := by
          cases out with
          | nil => rfl
          | cons y o =>
            obtain ⟨s', ks, h1, _⟩ := HW.out.sp
            cases h1
        have hpc := HW.out.two.empty
        have heq := HW.out.eq
        subst hout
        rw [List.append_nil] at heq
        subst heq
        go_wp2_with fail
        go_end0
        exact ⟨ga, gc, rfl, hid (by rw [cut_all HW.out.going]; exact HW.out.two.g), HW.out.two.be, HW.out.two.le⟩
      | cons y s' =>
        cases out with
        | nil =>
          have h := HW.out.sp
          have : y :: s' = [] := h
          cases this
        | cons y2 out =>
          obtain ⟨s2, ks, h1, hyE, hk, hkE, hsp2⟩ := HW.out.sp
          simp only [List.cons.injEq] at h1
          obtain ⟨rfl, rfl⟩ := h1
          have hslen := Spell.len hsp2
          have HT : Hid (Two B w0 wr (w.heap.size + 1) G S stop pa pc (s'.reverse ++ [y]) ga gc got) := hid (by simpa using HW.out.two)
          obtain ⟨r, rfl, hpc1, hty, hpc, hpf, hTp⟩ := HT.out.pop
          rw [List.length_reverse] at hpc1 hty hpc hTp
          have heq := HW.out.eq
          have hgo := HW.out.going
          have hgl : got.length + 1 + out.length = L.length := by rw [← heq]; simp; omega
          have hms := HW.out.two.gotLen
          have HTp := hid hTp
          have HGO := hid hgo
          have HEQ := hid heq
          have HKE := hid hkE
          have HK := hid hk
          have HYE := hid hyE
          have HSP2 := hid hsp2
          have HMS := hid hms
          have hpc2 : (s'.length : Int) + 1 ≤ (pc : Int) := by omega
          have hsb : s'.length ≤ 3000000 := by simp at hslen; omega
          have hw64 : wrap64 (s'.length : Int) = (s'.length : Int) := by unfold wrap64; omega
          clear hslen
          clear hTp hgo heq hkE hk hyE hsp2 HW HT hms
          go_wp2_with fail
          refine (visit_any B G S ga gc got stop y HYE.out _ HTp.out.g HTp.out.le HTp.out.s HTp.out.sg HTp.out.sgr (by omega)).mono ?_
          rintro e wv ⟨ga', gc', rfl, HB1, HF1⟩
          have HV := hid (HTp.out.fr HF1.out HB1.out)
          clear HB1 HF1 HTp
          by_cases hstop : (got.length : Int) + 1 = stop
          · have hb : (((got.length : Int) + 1) != stop) = false := by simp [hstop]
            rw [hb]
            go_wp2_with fail
            refine bodyPost_ret (results_none rfl _ _ _) rfl ?_
            exact ⟨ga', gc', rfl, hid (by rw [← HEQ.out, cut_at hstop]; exact HV.out.g), HV.out.be, HV.out.le⟩
          · have hb : (((got.length : Int) + 1) != stop) = true := by simp [hstop]
            rw [hb]
            clear hb hty hpc hpf hw64 hpc1 hpc2
            have HN : Hid (¬ (got.length : Int) + 1 = stop) := hid hstop
            clear hstop
            have hVB := HV.out.le
            have hm : got.length + 1 ≤ L.length := by omega
            rcases HK.out with ⟨rfl, rfl⟩ | ⟨b, u, rfl, hb, hu, rfl⟩ | ⟨b, l, q, rfl, hb, hl, hq, rfl⟩ | ⟨b, u, l, q, rfl, hb, hu, hl, hq, rfl⟩ | ⟨b, u, v, xs, rfl, hb, hu, hv, hrow, rfl⟩ | ⟨b, u, rfl, hb, hu, rfl⟩ | ⟨b, u, rfl, hb, hu, ⟨rfl, rfl⟩ | ⟨hun, rfl⟩⟩ | ⟨b, v, xs, rfl, hb, hv, hrow, rfl⟩
            -- nil
            · clear HK
              have a42 := nil42
              have a32 := nil32
              have a45 := nil45
              have a48 := nil48
              have a51 := nil51
              have a54 := nil54
              have a58 := nil58
              go_wp2_with fail
              go_roundw
              case rel => exact ⟨_, _, _, _, _, _, _, wk_next (ks := []) HV.out rfl HEQ.out HSP2.out HGO.out HN.out⟩
              case measure => rw [HV.out.gotLen, HMS.out]; simp; omega
            -- Unary
            · clear HK
              unfold nd at *
              have a42 := hit42
              have hub : wv.cell? ⟨b, 1, none⟩ = some u := (HV.out.be.cell hb).trans hu
              have huc := (HKE.out u (by simp)).cells
              unfold Value.cells at huc
              ·
                go_wp2_with fail
                refine (push_any B (w.heap.size + 1) _ pc s'.reverse _ 1 1 [_] rfl HKE.out _ (HV.out.alloc _).p (HV.out.alloc _).le (HV.out.newrow #[_] 25) (by simp; omega)).mono ?_
                rintro e wx ⟨pa', pc', rfl, HB2, HF2⟩
                have HVx := hid ((HV.out.alloc _).pushed HF2.out HB2.out)
                clear HB2 HF2
                go_wp2_with fail
                go_roundw
                case rel => exact ⟨_, _, _, _, _, _, _, wk_next (ks := [_]) HVx.out (by simp) HEQ.out HSP2.out HGO.out HN.out⟩
                case measure => rw [HVx.out.gotLen, HMS.out]; simp; omega
            -- Binary
            · clear HK
              unfold nd at *
              have a42 := miss42 32 (by decide)
              have a32 := hit32
              have hlb : wv.cell? ⟨b, 1, none⟩ = some l := (HV.out.be.cell hb).trans hl
              have hqb : wv.cell? ⟨b, 2, none⟩ = some q := (HV.out.be.cell hb).trans hq
              have hlc := (HKE.out l (by simp)).cells
              have hqc := (HKE.out q (by simp)).cells
              unfold Value.cells at hlc hqc
              · go_wp2_with fail
                go_region_with (go_at_call 13; refine (push_new HV.out [l, q] 2 rfl HKE.out (by simp; omega)).mono ?_; rintro e wx ⟨pa', pc', rfl, HVx⟩)
                all_goals
                  go_wp2_with fail
                  go_roundw
                  case rel => exact ⟨_, _, _, _, _, _, _, wk_next (ks := [l, q]) HVx.out (by simp) HEQ.out HSP2.out HGO.out HN.out⟩
                  case measure => rw [HVx.out.gotLen, HMS.out]; simp; omega
            -- Between
            · clear HK
              unfold nd at *
              have a42 := miss42 45 (by decide)
              have a32 := miss32 45 (by decide)
              have a45 := hit45
              have hub : wv.cell? ⟨b, 0, none⟩ = some u := (HV.out.be.cell hb).trans hu
              have hlb : wv.cell? ⟨b, 1, none⟩ = some l := (HV.out.be.cell hb).trans hl
              have hqb : wv.cell? ⟨b, 2, none⟩ = some q := (HV.out.be.cell hb).trans hq
              have huc := (HKE.out u (by simp)).cells
              have hlc := (HKE.out l (by simp)).cells
              have hqc := (HKE.out q (by simp)).cells
              unfold Value.cells at huc hlc hqc
              · go_wp2_with fail
                go_region_with (go_at_call 13; refine (push_new HV.out [u, l, q] 3 rfl HKE.out (by simp; omega)).mono ?_; rintro e wx ⟨pa', pc', rfl, HVx⟩)
                all_goals
                  go_wp2_with fail
                  go_roundw
                  case rel => exact ⟨_, _, _, _, _, _, _, wk_next (ks := [u, l, q]) HVx.out (by simp) HEQ.out HSP2.out HGO.out HN.out⟩
                  case measure => rw [HVx.out.gotLen, HMS.out]; simp; omega
            -- InList
            · clear HK
              unfold nd at *
              have a42 := miss42 48 (by decide)
              have a32 := miss32 48 (by decide)
              have a45 := miss45 48 (by decide)
              have a48 := hit48
              have hvb : wv.cell? ⟨b, 1, none⟩ = some v := (HV.out.be.cell hb).trans hv
              obtain ⟨ra, rc, rfl, hra⟩ := HV.out.oldrow hrow
              have HRA := hid hra
              have HKL := hid (Spell.len HSP2.out)
              clear hra hrow
              have huc := (HKE.out u (by simp)).cells
              unfold Value.cells at huc
              ·
                go_wp2_with fail
                refine (push_any B (w.heap.size + 1) _ pc s'.reverse ra xs.length rc xs rfl (fun k hk => HKE.out k (List.mem_cons_of_mem _ hk)) wv HV.out.p HV.out.le HRA.out (by have := HKL.out; simp at this ⊢; omega)).mono ?_
                rintro e wx ⟨pa', pc', rfl, HB2, HF2⟩
                have HVy := hid (HV.out.pushed HF2.out HB2.out)
                clear HB2 HF2
                have hub := (HVy.out.be.cell hb).trans hu
                go_wp2_with fail
                refine (push_any B (w.heap.size + 1) _ pc' (s'.reverse ++ xs.reverse) _ 1 1 [_] rfl (fun k hk => HKE.out k (by simp at hk; simp [hk])) _ (HVy.out.alloc _).p (HVy.out.alloc _).le (HVy.out.newrow #[_] 25) (by have := HKL.out; simp at this ⊢; omega)).mono ?_
                rintro e wz ⟨pa2, pc2, rfl, HB2, HF2⟩
                have HVx := hid ((HVy.out.alloc _).pushed HF2.out HB2.out)
                clear HB2 HF2
                go_wp2_with fail
                go_roundw
                case rel => exact ⟨_, _, _, _, _, _, _, wk_next (ks := _ :: xs) HVx.out (by simp) HEQ.out HSP2.out HGO.out HN.out⟩
                case measure => rw [HVx.out.gotLen, HMS.out]; simp; omega
            -- IsNull
            · clear HK
              unfold nd at *
              have a42 := miss42 51 (by decide)
              have a32 := miss32 51 (by decide)
              have a45 := miss45 51 (by decide)
              have a48 := miss48 51 (by decide)
              have a51 := hit51
              have hub : wv.cell? ⟨b, 0, none⟩ = some u := (HV.out.be.cell hb).trans hu
              have huc := (HKE.out u (by simp)).cells
              unfold Value.cells at huc
              ·
                go_wp2_with fail
                refine (push_any B (w.heap.size + 1) _ pc s'.reverse _ 1 1 [_] rfl HKE.out _ (HV.out.alloc _).p (HV.out.alloc _).le (HV.out.newrow #[_] 25) (by simp; omega)).mono ?_
                rintro e wx ⟨pa', pc', rfl, HB2, HF2⟩
                have HVx := hid ((HV.out.alloc _).pushed HF2.out HB2.out)
                clear HB2 HF2
                go_wp2_with fail
                go_roundw
                case rel => exact ⟨_, _, _, _, _, _, _, wk_next (ks := [_]) HVx.out (by simp) HEQ.out HSP2.out HGO.out HN.out⟩
                case measure => rw [HVx.out.gotLen, HMS.out]; simp; omega
            -- Aggregate without operand
            · clear HK
              unfold nd at *
              have a42 := miss42 54 (by decide)
              have a32 := miss32 54 (by decide)
              have a45 := miss45 54 (by decide)
              have a48 := miss48 54 (by decide)
              have a51 := miss51 54 (by decide)
              have a54 := hit54
              have hub : wv.cell? ⟨b, 1, none⟩ = some .nilIface := (HV.out.be.cell hb).trans hu
              go_wp2_with fail
              go_roundw
              case rel => exact ⟨_, _, _, _, _, _, _, wk_next (ks := []) HV.out rfl HEQ.out HSP2.out HGO.out HN.out⟩
              case measure => rw [HV.out.gotLen, HMS.out]; simp; omega
            -- Aggregate
            · clear HK
              unfold nd at *
              have a42 := miss42 54 (by decide)
              have a32 := miss32 54 (by decide)
              have a45 := miss45 54 (by decide)
              have a48 := miss48 54 (by decide)
              have a51 := miss51 54 (by decide)
              have a54 := hit54
              have hub : wv.cell? ⟨b, 1, none⟩ = some u := (HV.out.be.cell hb).trans hu
              rcases HKE.out u (by simp) with rfl | ⟨T1, b1, rfl⟩
              · exact absurd rfl hun
              · clear hun
                go_wp2_with fail
                refine (push_any B (w.heap.size + 1) _ pc s'.reverse _ 1 1 [_] rfl HKE.out _ (HV.out.alloc _).p (HV.out.alloc _).le (HV.out.newrow #[_] 25) (by simp; omega)).mono ?_
                rintro e wx ⟨pa', pc', rfl, HB2, HF2⟩
                have HVx := hid ((HV.out.alloc _).pushed HF2.out HB2.out)
                clear HB2 HF2
                go_wp2_with fail
                go_roundw
                case rel => exact ⟨_, _, _, _, _, _, _, wk_next (ks := [_]) HVx.out (by simp) HEQ.out HSP2.out HGO.out HN.out⟩
                case measure => rw [HVx.out.gotLen, HMS.out]; simp; omega
            -- Call
            · clear HK
              unfold nd at *
              have a42 := miss42 58 (by decide)
              have a32 := miss32 58 (by decide)
              have a45 := miss45 58 (by decide)
              have a48 := miss48 58 (by decide)
              have a51 := miss51 58 (by decide)
              have a54 := miss54 58 (by decide)
              have a58 := hit58
              have hvb : wv.cell? ⟨b, 1, none⟩ = some v := (HV.out.be.cell hb).trans hv
              obtain ⟨ra, rc, rfl, hra⟩ := HV.out.oldrow hrow
              have HRA := hid hra
              have HKL := hid (Spell.len HSP2.out)
              clear hra hrow
              · go_wp2_with fail
                refine (push_any B (w.heap.size + 1) _ pc s'.reverse ra ks.length rc ks rfl HKE.out wv HV.out.p HV.out.le HRA.out (by have := HKL.out; simp at this ⊢; omega)).mono ?_
                rintro e wx ⟨pa', pc', rfl, HB2, HF2⟩
                have HVx := hid (HV.out.pushed HF2.out HB2.out)
                clear HB2 HF2
                go_wp2_with fail
                go_roundw
                case rel => exact ⟨_, _, _, _, _, _, _, wk_next (ks := ks) HVx.out (by simp) HEQ.out HSP2.out HGO.out HN.out⟩
                case measure => rw [HVx.out.gotLen, HMS.out]; simp; omega
end Go.Proofs.Qxb6613185a
