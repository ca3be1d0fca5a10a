/-
  FnMapOfAll: the law returns true at every input of at most 1048576 values, and changes nothing that was there.
-/
import Derived.ProofKit
import Derived.OpenShut
import Derived.JoinedCond
import Derived.Deep.CondSized
import Derived.SizedLaws
import Derived.WalkKit
import Derived.WalkLawsBesides
import Derived.Outline
import Derived.Deep.DeepMust
import Derived.Deep.RegionWith
import Derived.Test.YtcgcfenenkdhlaaOpen
import Derived.Test.YtcgcfenenkdhlaaMapL
import Derived.Test.YtcgcfenenkdhlaaPairE
import Derived.Test.YtcgcfenenkdhlaaTabL
namespace Go.Proofs.Ytcgcfenenkdhlaa.fnMapOfAll
open Go.ChangeShapes Go.WideShapes Go.ChangeAt Go.RowKit
set_option linter.unusedVariables false
set_option linter.unusedSimpArgs false

theorem rise_eq {t : List (Int × Int)} (h : t.Pairwise (fun a b => a.1 < b.1)) {p q : Int × Int} (hp : p ∈ t) (hq : q ∈ t) (e : p.1 = q.1) : p = q := by
  induction t with
  | nil => cases hp
  | cons a t ih =>
    rw [List.pairwise_cons] at h
    rcases List.mem_cons.1 hp with e1 | h1
    · rcases List.mem_cons.1 hq with e2 | h2
      · rw [e1, e2]
      · have := h.1 q h2; rw [← e1] at this; omega
    · rcases List.mem_cons.1 hq with e2 | h2
      · have := h.1 p h1; rw [← e2] at this; omega
      · exact ih h.2 h1 h2
theorem tab_rise {t : List (Int × Int)} (h : t.Pairwise (fun a b => a.1 < b.1)) : Tab t (lk t) := ⟨h, fun k v => ⟨fun hm => by
  obtain ⟨u, hu⟩ := Option.isSome_iff_exists.1 (lk_some hm)
  have := rise_eq h hm (lk_mem _ _ _ hu) rfl
  rw [hu, ← (Prod.mk.inj this).2], fun hv => lk_mem _ _ _ hv⟩⟩
theorem upto_get (f : Nat → Int × Int) {k n : Nat} (h : k < n) : (upto f n)[k]? = some (f k) := by simp [upto, h]
theorem upto_rise (zs : List Int) (n : Nat) : (upto (fwd zs) n).Pairwise (fun a b => a.1 < b.1) := by
  rw [List.pairwise_iff_getElem]
  intro i j hi hj hij
  simp [upto, fwd]
  exact hij
theorem upto_wf {zs : List Int} (n : Nat) (hn : n ≤ 1048576) (hf : ∀ x ∈ zs, (Lit.int .i64 x).wf = true) : WF (upto (fwd zs) n) := by
  intro p hp
  simp only [upto, List.mem_map, List.mem_range] at hp
  obtain ⟨k, hk, rfl⟩ := hp
  refine ⟨?_, ?_⟩
  · simp [fwd, Lit.wf, IntKind.min, IntKind.max, IntKind.signed, IntKind.bits]
    omega
  · simp only [fwd]
    cases hz : zs[k]? with
    | none => rfl
    | some x => exact hf x (List.mem_of_getElem? hz)
set_option maxRecDepth 100000 in
set_option maxHeartbeats 4000000 in
theorem walk (a0 : Option Addr) (l0 c0 : Nat) (z0 : List Int) (w : World) (k0 : l0 ≤ c0) (m0 : c0 ≤ maxLen) (r0 : Rd w w.heap.size 1 a0 l0 (ints z0)) (f0 : ∀ x ∈ z0, (Lit.int .i64 x).wf = true) (bu : l0 ≤ 1048576) :
    Calls Try.prog 14 #[.slice a0 l0 c0] w fun e w' => e = .returned (.bool true) ∧ Below w.heap.size w w' := by
  have hlen : l0 * 16 ≤ 140737488351232 := by omega
  have HZ : Hid (z0.length = l0) := hide (by have := r0.1; simpa using this)
  have HU : Hid (WF (upto (fwd z0) l0)) := hide (upto_wf l0 bu f0)
  have hq : firstN z0.length (-1) = l0 := by rw [HZ.out]; rfl
  obtain ⟨i1, hj, hy0, hy1, hy2⟩ := info_parts infoIE
  have himp := callsIn_wide.1 (implAll_in Fence.wide 3 trivial trivial trivial rfl (Nat.le_refl _) a0 l0 c0 z0 (-1) hlen w r0)
  rw [hq] at himp
  have HI := hide himp
  clear himp hq f0
  go_enter Try.func14, Try.ntmps14
  go_wp2_with fail
  refine HI.out.mono ?_
  rintro e w1 ⟨v1, rfl, own1, hb1⟩
  obtain ⟨A1, c1, rfl⟩ := own_slice own1
  have hs1 := hb1.size
  have p1 := Rd.of_own own1
  clear own1 HI
  go_wp2_with fail
  go_loopw [3, 12] (fun v i wr => ∃ k : Nat, k ≤ l0 ∧ i = .int .i64 k ∧ wr.ownsRow w1.heap.size 35 2 v k (pairs ((upto (fwd z0) l0).take k)) ∧ Below w1.heap.size w1 wr) (fun _ i _ => l0 - (RowKit.intOf i).toNat)
  case atStart => exact ⟨0, Nat.zero_le _, rfl, World.ownsRow_nil _ _ _ _, Below.refl _ _⟩
  case round =>
    obtain ⟨k, hk, rfl, hown, hB⟩ := hrel
    have hsz := hB.size
    by_cases hlt : k < l0
    · obtain ⟨b, off, x, y, rfl, hb, hx, hc1, hc2⟩ := (p1.below hB).pair hlt
      obtain ⟨A', c', rfl⟩ := own_slice hown
      go_wp2_with (at_builtin; go_must (refine wpList_append_own _ rfl _ _ 22 rfl w1.heap.size 35 i1 (.agg #[.int .i64 0, .int .i64 0]) 2 16 Try.underlying22 hj hy0 hy1 hy2 rfl (by decide) _ _ _ rfl ((hown.alloc _).alloc _) ⟨wr.heap.size + 1, 0, none⟩ 1 1 [.int .i64 x, .int .i64 y] rfl rfl (cell_two_at _ _ (by simp) _ _ _) (by simp [Value.oneCell']) (by unfold maxLen; omega) (by omega) (by simp; omega) ?_); intro v' w2 hown' hgrow _)
      have hb2 := below_append (hB.alloc hsz _) (by simp; omega) (Nat.le_refl _) (hown.alloc _) hgrow
      go_roundw
      case rel => exact ⟨k + 1, by omega, by go_num, by rw [pairs_snoc hx.out]; exact hown', hb2⟩
      case measure => simp [RowKit.intOf]; omega
    · have hkl : k = l0 := by omega
      rw [hkl, List.take_of_length_le (by rw [upto_length]; exact Nat.le_refl _)] at hown
      have hlti : ¬ ((k : Int) < (l0 : Int)) := by omega
      clear hkl
      obtain ⟨A', c', rfl⟩ := own_slice hown
      obtain ⟨w3, hw3⟩ : ∃ w0 : World, w0 = wr := ⟨_, rfl⟩
      rw [← hw3] at hown hB hsz ⊢
      clear hw3
      have G3 : Below w.heap.size w w3 := hb1.trans (hB.mono hs1)
      go_wp2_with fail
      refine (implMapCollect A' l0 c' (upto (fwd z0) l0) hlen HU.out w3 (Rd.of_own hown)).mono ?_
      rintro e w4 ⟨A4, m4, d4, ts, rfl, own4, htab4, hpl4, hml4, g4⟩
      obtain rfl := (tab_rise (upto_rise z0 l0)).unique htab4
      obtain rfl : l0 = m4 := (upto_length _ _).symm.trans hpl4
      clear htab4 hpl4 hml4
      have G4 : Below w.heap.size w w4 := G3.trans (g4.mono G3.size)
      have p4 := Rd.of_own own4
      have q4 := (r0.below G4).more G4.size
      have hnn : ((l0 : Int) != (l0 : Int)) = false := by simp
      clear own4 hown hB hsz g4 p1 hb1 hs1
      go_wp2_with fail
      go_loopw [34] (fun i wr => ∃ j : Nat, j ≤ l0 ∧ i = .int .i64 j ∧ Below w4.heap.size w4 wr) (fun i _ => l0 - (RowKit.intOf i).toNat)
      case atStart => exact ⟨0, Nat.zero_le _, rfl, Below.refl _ _⟩
      case round =>
        obtain ⟨j, hj2, rfl, hB⟩ := hrel
        have hsz := hB.size
        by_cases hlt2 : j < l0
        · obtain ⟨b, off, x, y, hA, hb, hx, hc1, hc2⟩ := (p4.below hB).pair hlt2
          obtain ⟨b', off', x', hA', hb', hx', hc'⟩ := (q4.below hB).intx hlt2
          subst hA hA'
          have hxy := (upto_get (fwd z0) hlt2).symm.trans hx.out
          rw [fwd_at hx'.out] at hxy
          obtain ⟨rfl, rfl⟩ := Prod.mk.inj (Option.some.inj hxy)
          clear hxy
          have hBa := hB.alloc hsz (.cells #[.int .i64 (j : Int), .int .i64 x'] 35)
          have hj' : ((j : Int) != (j : Int)) = false := by simp
          have hx2 : (x' != x') = false := by simp
          have hbw : b' < wr.heap.size := by omega
          have hbn : b' ≠ wr.heap.size := by omega
          have hlt3 : (j : Int) < (l0 : Int) := by omega
          go_wp2_with fail
          go_quiet (fail)
          go_wp2_with fail
          go_roundw
          case rel => exact ⟨j + 1, by omega, by go_num, hBa.trans (((Drew.refl _).drewN _).below _)⟩
          case measure => simp [RowKit.intOf]; omega
        · have hlti2 : ¬ ((j : Int) < (l0 : Int)) := by omega
          go_wp2_with fail
          go_ret
          exact ⟨rfl, G4.trans (hB.mono G4.size)⟩

set_option maxRecDepth 100000 in
theorem lifted (os : Os) (started : os.Started) (H : Type) (enc : TypeId × Value → H) (F : Stop.Interp) :
    ReturnsInHanded {} Try.checked os 14 .any ((Rows.OpenSpec.upto Rows.fnMapOfAllSpec).pre6 enc Try.prog Try.f14 Rows.fnMapOfAllUptoRow.domain false) (((Rows.OpenSpec.upto Rows.fnMapOfAllSpec).at F).post enc Try.prog Try.f14 false true false false) := by
  refine returnsInHanded_of_cond (C := Try.checked) (s := (Rows.OpenSpec.upto Rows.fnMapOfAllSpec)) (k := Rows.uptoSmall) rfl own started (by kernel_rfl) Try.func14
    (OpenSpec.witness (enc := enc) (C := Try.checked) (s := (Rows.OpenSpec.upto Rows.fnMapOfAllSpec)) (k := Rows.uptoSmall) rfl false ⟨#[], #[.slice none 0 0], []⟩ 8 (by kernel_rfl) (by kernel_rfl) (by kernel_rfl)
      (x := ([.nil], [], [])) (by kernel_rfl) rfl (by kernel_rfl)) ?_
  intro W base args ds gs before hval0 hW _ hk0 _
  have hk := bulk_bound hk0
  have hval : ∀ (j : Nat) t v, Try.f14.params[j]? = some t → args[j]? = some v → Value.okWide Try.prog W .any base t v := hval0
  have hW' := hW
  obtain ⟨p, q, hA0, hV, rfl, hfz, hnd⟩ := hW
  have hA : DataW.TrodAll enc Try.prog W 0 (fun _ => true) true Try.f14.params.toList args.toList ds p := hA0
  rw [Try.params14] at hA hval
  obtain ⟨v0, vs0, d0, ds0, p0, q0, hargs, rfl, rfl, h0, rr0⟩ := trodAll_cons hA
  obtain ⟨rfl, rfl, rfl⟩ := trodAll_nil rr0
  obtain rfl : args = #[v0] := by cases args; simp_all
  obtain ⟨rfl, rfl⟩ := trodVars_none hV
  have t0 := h0
  have lt0 : ∀ x ∈ p0, x.block < W.heap.size := by obtain ⟨m, hm⟩ := t0; exact DataW.trod_lt m _ _ _ hm
  obtain ⟨a0, l0, c0, z0, rfl, k0, m0, r0, f0, u0, s0⟩ := openInts (hval 0 24 v0 rfl rfl) h0
  simp only [List.cons_append, List.nil_append, List.append_nil, Rows.uptoBulkAll] at hk
  have bu : l0 ≤ 1048576 := by omega
  refine (walk a0 l0 c0 z0 W k0 m0 r0 f0 bu).mono fun e W' ⟨he, bel⟩ => ?_
  subst he
  exact ⟨_, rfl, _, _, _, [], _, [], hW', trodAll_mk1 (shut_bool Try.underlying4 _), (trodAll_cons_mk (Below.trod laidOut (by kernel_rfl) (of_decide_eq_true (by kernel_rfl)) t0 bel lt0) trodAll_mk0), rfl, bel.frame _, fun h => by cases h⟩

theorem over : Rows.fnMapOfAllUptoRow.holds Try.pinned (Rows.OpenSpec.upto Rows.fnMapOfAllSpec) :=
  OpenClaim.holds_of_cond 14 Try.f14 rfl rfl rfl rfl rfl rfl rfl ⟨rfl, rfl, rfl, rfl, rfl⟩ rfl rfl rfl rfl rfl (by kernel_rfl) Try.func14 (by kernel_rfl)
    (of_decide_eq_true (by kernel_rfl)) (by unfold Func.isWrapper; first | (rw [if_pos (by decide +kernel)]; kernel_rfl) | (rw [if_neg (by decide +kernel)]; exact ⟨rfl, rfl⟩))
    (fun os started H enc _ F => lifted os started H enc F)

/-- the given statement -/
theorem proved : Rows.FnMapOfAllUptoSaid := over
#print axioms proved
end Go.Proofs.Ytcgcfenenkdhlaa.fnMapOfAll
