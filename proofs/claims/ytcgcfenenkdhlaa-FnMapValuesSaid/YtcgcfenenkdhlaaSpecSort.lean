/-
  spec.Sorted: the selection of the least of what is left.
-/
import Derived.WalkKit
import Derived.WalkLawsBesides
import Derived.Outline
import Derived.Deep.DeepMust
import Derived.Deep.AppendLies
import Derived.ArgAppend
import Derived.StillTailTactics
import Derived.Test.YtcgcfenenkdhlaaPlain
import Derived.Test.YtcgcfenenkdhlaaSpec
import Derived.Test.YtcgcfenenkdhlaaAppR
namespace Go.Proofs.Ytcgcfenenkdhlaa
open Go.RowKit
set_option linter.unusedVariables false
set_option linter.unusedSimpArgs false

/-- the place of the least of the first j -/
def Least (L : List Int) (j a : Nat) : Prop := ∀ x, L[a]? = some x → ∀ i y, i < j → L[i]? = some y → x ≤ y
theorem Least.keep {L : List Int} {j a : Nat} {x y : Int} (h : Least L j a) (hx : L[a]? = some x) (hy : L[j]? = some y) (hle : x ≤ y) : Least L (j + 1) a := by
  intro x' hx' i z hi hz
  obtain rfl : x = x' := by rw [hx] at hx'; exact Option.some.inj hx'
  rcases Nat.lt_or_ge i j with h1 | h1
  · exact h x hx i z h1 hz
  · obtain rfl : i = j := by omega
    obtain rfl : y = z := by rw [hy] at hz; exact Option.some.inj hz
    exact hle
theorem Least.next {L : List Int} {j a : Nat} {x y : Int} (h : Least L j a) (hx : L[a]? = some x) (hy : L[j]? = some y) (hlt : y < x) : Least L (j + 1) j := by
  intro x' hx' i z hi hz
  obtain rfl : y = x' := by rw [hy] at hx'; exact Option.some.inj hx'
  rcases Nat.lt_or_ge i j with h1 | h1
  · have := h x hx i z h1 hz; omega
  · obtain rfl : i = j := by omega
    obtain rfl : y = z := by rw [hy] at hz; exact Option.some.inj hz
    exact Int.le_refl _
theorem Least.all {L : List Int} {a : Nat} {x : Int} (h : Least L L.length a) (hx : L[a]? = some x) : ∀ y ∈ L, x ≤ y := by
  intro y hy
  obtain ⟨i, hi, rfl⟩ := List.mem_iff_getElem.1 hy
  exact h x hx i _ hi (List.getElem?_eq_getElem hi)

/-- a slice that is read lies in another block than a row -/
def Apart (A : Option Addr) (n : Nat) (v : Value) : Prop := 0 < n → ∀ b off, A = some ⟨b, off, none⟩ → v.ownBlock ≠ some b
theorem Rd.far {w w' : World} {B sz n : Nat} {A : Option Addr} {cs : List Value} {v : Value} (h : Rd w B sz A n cs) (hB : B ≤ w.heap.size) (hg : w.grownBy w' v.ownBlock) (ha : Apart A n v) : Rd w' B sz A n cs :=
  ⟨h.1, fun hn => by
    obtain ⟨b, off, e, hb, hc⟩ := h.2 hn
    exact ⟨b, off, e, hb, fun j u hu => (hg.cell_far ⟨b, off + j, none⟩ (by show b < _; omega) (fun e' => ha hn b off e e'.symm)).trans (hc j u hu)⟩⟩

theorem own_cap {w : World} {base : Nat} {e : TypeId} {sz : Nat} {A : Option Addr} {n c n' : Nat} {xs : List Value} (h : w.ownsRow base e sz (.slice A n' c) n xs) : n ≤ c := by
  rcases h.2 with ⟨hv, rfl⟩ | ⟨g, cap, cur, hv, _, _, hnc, _⟩
  · exact Nat.zero_le _
  · injection hv with _ _ h3; omega

theorem run_append_zero {P : Program} (w : World) (t ty e : TypeId) (i : TypeInfo) (ht : P.underlying t = some (.slice e)) (hi : P.info? e = some i) (base : Option Addr) (n cap : Nat) (hle : n ≤ cap) (A : Option Addr) (c : Nat) :
    (Builtin.append_ #[t, t] ty #[.slice base n cap, .slice A 0 c]).run P w = .ok (.slice base n cap) w := by
  cases base <;> cases A <;> simp [Builtin.append_, run_underlying ht, sizeOf, typeInfo, hi, Builtin.lenOf, Builtin.firstCells, hle, storeCells, loadCells, loadCellsFrom]
theorem wpList_append_zero {P : Program} (w : World) {ops : Array Oper} {rest : List Oper} {o : Oper} {a : Act} {Q : Exit → Act → World → Prop} (hgd : o.guard = none) (s x : Operand) (t : TypeId)
    (ho : o.op = .call { callee := .builtin .append, args := #[s, x], argTypes := #[t, t] }) (e : TypeId) (i : TypeInfo) (ht : P.underlying t = some (.slice e)) (hi : P.info? e = some i)
    (base : Option Addr) (n cap : Nat) (hle : n ≤ cap) (hs : a.eval s = .slice base n cap) (A : Option Addr) (c : Nat) (hx : a.eval x = .slice A 0 c)
    (h : wpList P ops Q rest (a.put o.dst (.slice base n cap)) w) : wpList P ops Q (o :: rest) a w := by
  refine wpList_plain hgd fun K hK => ?_
  have hrun := run_append_zero (P := P) w t o.type e i ht hi base n cap hle A c
  unfold Oper.wp execOp
  simp only [ho, resolve, invoke, builtin, Sem.run_bind, Sem.run_pure, Result.andThen_ok, List.map_toArray, List.map_cons, List.map_nil, hs, hx, hrun]
  exact hK _ _ h

set_option maxRecDepth 100000 in
set_option maxHeartbeats 4000000 in
theorem specSorted (a : Option Addr) (len cap : Nat) (zs : List Int) (hreach : len * 8 ≤ 140737488351232) (w : World) (hI : Rd w w.heap.size 1 a len (ints zs)) :
    Calls Try.prog 27 #[.slice a len cap] w fun e w' => ∃ A c, e = .returned (.slice A len c) ∧ w'.ownsRow w.heap.size 3 1 (.slice A len c) len (ints (srt zs)) ∧ Below w.heap.size w w' := by
  have hzl : zs.length = len := by have := hI.1; simpa using this
  obtain ⟨S, hS⟩ : ∃ S, srt zs = S := ⟨_, rfl⟩
  have hsl : S.length = len := by rw [← hS, srt_length, hzl]
  have hval := specValues a len cap zs (-1) hreach w hI
  rw [show firstN zs.length (-1) = len by unfold firstN; simp [hzl], List.take_of_length_le (by omega)] at hval
  have HV := hide hval
  have HS := hide hS
  have HL := hide hsl
  have HZ := hide hzl
  rw [hS]
  clear hval hS hsl hzl
  obtain ⟨i0, hi, hz0, hz1, hz2⟩ := info_parts infoInt
  go_enter Try.func27, Try.ntmps27
  go_wp2_with fail
  refine HV.out.mono ?_
  rintro e w1 ⟨v1, rfl, own1, hb1⟩
  obtain ⟨A1, c1, rfl⟩ := own_slice own1
  have hc1 := own_cap own1
  go_wp2_with fail
  go_loopw [3, 4] (fun l v wr => ∃ k m : Nat, k + m = len ∧ ∃ A c L, l = .slice A m c ∧ m ≤ c ∧ Rd wr wr.heap.size 1 A m (ints L) ∧ Hid (L.Perm (S.drop k)) ∧ wr.ownsRow w.heap.size 3 1 v k (ints (S.take k)) ∧ Apart A m v ∧ Below w.heap.size w wr) (fun l _ _ => match l with | .slice _ m _ => m | _ => 0)
  case atStart => exact ⟨0, len, by omega, A1, c1, zs, rfl, hc1, Rd.of_own own1, hide (by rw [List.drop_zero, ← HS.out]; exact (srt_perm zs).symm), by simpa using World.ownsRow_nil _ _ _ _, fun _ _ _ _ => by simp [Value.ownBlock], hb1⟩
  case round =>
    obtain ⟨k, m, hkm, A, c, L, rfl, hmc, hrd, hperm, hown, hap, hB⟩ := hrel
    have hsz := hB.size
    obtain ⟨Ao, co, rfl⟩ := own_slice hown
    by_cases hm : 0 < m
    · have hm' : ((m : Int) > 0) := by omega
      have hLl : L.length = m := by have := hrd.1; simpa using this
      have HLL := hide hLl
      clear hLl
      obtain ⟨wR, hwR⟩ : ∃ w0 : World, w0 = wr := ⟨_, rfl⟩
      rw [← hwR] at hrd hown hB hsz ⊢
      clear hwR
      go_wp2_with fail
      go_loopw [5, 15] (fun at' i wr => ∃ p j : Nat, p < m ∧ j ≤ m ∧ at' = .int .i64 p ∧ i = .int .i64 j ∧ Hid (Least L j p) ∧ Hid (wr = wR)) (fun _ i _ => m - (intOf i).toNat)
      case atStart => exact ⟨0, 0, hm, Nat.zero_le _, rfl, rfl, hide (fun _ _ _ _ h => absurd h (Nat.not_lt_zero _)), by first | exact hide rfl | exact hide trivial⟩
      case round =>
        obtain ⟨p, j, hp, hj, rfl, rfl, hleast, hwr⟩ := hrel
        obtain rfl := hwr.out
        clear hwr
        by_cases hlt : j < m
        · obtain ⟨b, off, x, rfl, hb, hx, hcx⟩ := hrd.intx hp
          obtain ⟨b', off', y, hbe, hb', hy, hcy⟩ := hrd.intx hlt
          injection hbe with hbe
          injection hbe with hbe1 hbe2
          subst hbe1 hbe2
          by_cases hxy : y < x
          · go_wp2
            go_roundw
            case rel => exact ⟨j, j + 1, hlt, by omega, by go_num, by go_num, hide (hleast.out.next hx.out hy.out hxy), by first | exact hide rfl | exact hide trivial⟩
            case measure => simp [intOf]; omega
          · have hxy' : x ≤ y := by omega
            go_wp2
            go_roundw
            case rel => exact ⟨p, j + 1, hp, by omega, rfl, by go_num, hide (hleast.out.keep hx.out hy.out hxy'), by first | exact hide rfl | exact hide trivial⟩
            case measure => simp [intOf]; omega
        · obtain rfl : j = m := by omega
          obtain ⟨b, off, x, rfl, hb, hx, hcx⟩ := hrd.intx hp
          have hsel : S[k]? = some x ∧ (L.eraseIdx p).Perm (S.drop (k + 1)) := by
            have h1 := hleast.out
            rw [← HLL.out] at h1
            have h2 := hperm.out
            rw [← HS.out] at h2 ⊢
            exact select_step h2 hx.out (h1.all hx.out)
          have HSEL := hide hsel
          clear hsel
          obtain ⟨mm, rfl⟩ : ∃ mm, j = p + 1 + mm := ⟨j - (p + 1), by omega⟩
          go_wp2_with (at_builtin; go_must (refine wpList_append_lies _ rfl _ _ 24 rfl w.heap.size 3 i0 (.int .i64 0) 1 8 Try.underlying24 hi hz0 hz1 hz2 rfl (by decide) _ _ _ rfl (hown.alloc _) ⟨wr.heap.size, 0, none⟩ 1 1 [.int .i64 x] rfl rfl (cell_one_new _ _ _) (by simp [Value.oneCell']) (by decide) (by unfold maxLen; omega) (by omega) (by simp; omega) _ rfl ?_); intro g cap' w2 hown' hgrow hat hlt2)
          have hrd2 : Rd w2 wr.heap.size 1 (some ⟨b, off, none⟩) (p + 1 + mm) (ints L) := (hrd.alloc (Nat.le_refl _) (.cells #[.int .i64 x] 3)).far (by simp) hgrow hap
          have hsz2 : wr.heap.size + 1 ≤ w2.heap.size := by have := hgrow.size; simpa using this
          have hB2 : Below w.heap.size w w2 := below_append hB hsz (Nat.le_refl _) hown hgrow
          have hgb : b ≠ g := by
            rcases hat with h | h
            · intro e; subst e; exact hap hm b off rfl h
            · intro e; simp at h; omega
          have hown2 : w2.ownsRow w.heap.size 3 1 (.slice (some ⟨g, 0, none⟩) (k + 1) cap') (k + 1) (ints (S.take (k + 1))) := by rw [int_snoc HSEL.out.1]; exact hown'
          have hpc : p ≤ c := by omega
          have hpc2 : (p : Int) + 1 ≤ (p : Int) + 1 + (mm : Int) := by omega
          have hpc3 : 0 ≤ (p : Int) + 1 := by omega
          have hpc4 : ((p : Int) + 1).toNat = p + 1 := by omega
          have hwrap : IntKind.i64.wrap ((p : Int) + 1) = (p : Int) + 1 := IntWalk.i64_in _ (by omega)
          clear hcx hown hrd hown' hgrow hat
          have hd1 : Rd w2 wr.heap.size 1 (some ⟨b, off, none⟩) p ((ints L).take p) := hrd2.takeN (by omega)
          have hd2 : Rd w2 wr.heap.size 1 (some ⟨b, off + (p + 1), none⟩) mm ((ints L).drop (p + 1)) := by
            have := hrd2.dropN (k := p + 1) (by omega)
            simp only [Option.map_some, addr_add] at this
            rwa [show p + 1 + mm - (p + 1) = mm by omega] at this
          have her : ints (L.eraseIdx p) = (ints L).take p ++ (ints L).drop (p + 1) := by
            rw [List.eraseIdx_eq_take_drop_succ, ints, ints, List.map_append, List.map_take, List.map_drop]
          by_cases hmm0 : 0 < mm
          · have hcne : ¬ (c = p + 1) := by omega
            go_still_tail 8, (by kernel_rfl)
            change wpList _ _ _ _ _ w2.drew
            at_builtin
            refine wpList_append_grows w2.drew rfl (.tmp 38) (.tmp 42) 24 rfl 3 i0 (.int .i64 0) 1 8 Try.underlying24 hi hz0 hz1 hz2 rfl (by decide) (some ⟨b, off, none⟩) p p ((ints L).take p) rfl (by simp) (by have := hd1.1; simpa using this) (fun b' e => hd1.drew.src b' e) ⟨b, off + (p + 1), none⟩ mm (c - (p + 1)) ((ints L).drop (p + 1)) rfl (by have := hd2.1; simpa using this) (hd2.drew.src _ rfl) (fun u hu => ints_one L u (List.mem_of_mem_drop hu)) (by omega) (by unfold maxLen; omega) (by omega) ?_
            intro v3 w3 own3 hg3
            obtain ⟨A3, c3, rfl⟩ := own_slice own3
            have hc3 := own_cap own3
            have hown3 : w3.ownsRow w.heap.size 3 1 (.slice (some ⟨g, 0, none⟩) (k + 1) cap') (k + 1) (ints (S.take (k + 1))) := hown2.drew.kept hg3 (.inr (by simp [Value.ownBlock]))
            have hB3 : Below w.heap.size w w3 := hB2.drew.grown hg3 (by simp; omega) (by simp)
            have hap3 : Apart A3 (p + mm) (.slice (some ⟨g, 0, none⟩) (k + 1) cap') := by
              intro _ b' off' e
              subst e
              have h1 := (own3.lt b' (by
                rcases own3.2 with ⟨h, _⟩ | ⟨g3, _, _, h, _⟩
                · simp at h
                · injection h with h; injection h with h; injection h with h1 h2; subst h1; subst h2; rfl)).1
              intro h
              have h2 : g = b' := by simpa [Value.ownBlock] using h
              have h3 : w2.heap.size ≤ b' := h1
              omega
            have own3' : w3.ownsRow w2.drew.heap.size 3 1 (.slice A3 (p + mm) c3) (p + mm) (ints (L.eraseIdx p)) := by rw [her]; exact own3
            have hrd3 := Rd.of_own own3'
            clear own3 own3'
            go_wp2
            go_roundw
            case rel => exact ⟨k + 1, p + mm, by omega, A3, c3, L.eraseIdx p, rfl, hc3, hrd3, hide HSEL.out.2, hown3, hap3, hB3⟩
            case measure => first | (simp; done) | (simp; omega)
          · obtain rfl : mm = 0 := by omega
            have hdr0 : (ints L).drop (p + 1) = [] := List.eq_nil_of_length_eq_zero (by have := hd2.1; simpa using this)
            simp only [Nat.add_zero] at *
            by_cases hcne : c = p + 1
            · subst hcne
              have hpc5 : (p : Int) ≤ (p : Int) + 1 := by omega
              have hpc6 : p ≤ p + 1 := by omega
              go_still_tail 8, (by kernel_rfl)
              change wpList _ _ _ _ _ w2.drew
              at_builtin
              refine wpList_append_zero w2.drew rfl (.tmp 38) (.tmp 42) 24 rfl 3 i0 Try.underlying24 hi _ p p (Nat.le_refl _) rfl _ _ rfl ?_
              go_wp2
              go_roundw
              case rel => exact ⟨k + 1, p, by omega, some ⟨b, off, none⟩, p, L.eraseIdx p, rfl, Nat.le_refl _, by rw [her, hdr0, List.append_nil]; exact (hd1.drew.more (by simp; omega)), hide HSEL.out.2, hown2.drew, fun _ b' off' e => by injection e with e; injection e with e _; subst e; simpa [Value.ownBlock] using hgb.symm, hB2.drew⟩
              case measure => first | (simp; done) | (simp; omega)
            · go_still_tail 8, (by kernel_rfl)
              change wpList _ _ _ _ _ w2.drew
              at_builtin
              refine wpList_append_zero w2.drew rfl (.tmp 38) (.tmp 42) 24 rfl 3 i0 Try.underlying24 hi _ p p (Nat.le_refl _) rfl _ _ rfl ?_
              go_wp2
              go_roundw
              case rel => exact ⟨k + 1, p, by omega, some ⟨b, off, none⟩, p, L.eraseIdx p, rfl, Nat.le_refl _, by rw [her, hdr0, List.append_nil]; exact (hd1.drew.more (by simp; omega)), hide HSEL.out.2, hown2.drew, fun _ b' off' e => by injection e with e; injection e with e _; subst e; simpa [Value.ownBlock] using hgb.symm, hB2.drew⟩
              case measure => first | (simp; done) | (simp; omega)
    · obtain rfl : m = 0 := by omega
      obtain rfl : k = len := by omega
      rw [List.take_of_length_le (by rw [HL.out]; exact Nat.le_refl _)] at hown
      have HO := hide hown
      clear hown
      go_wp2
      go_ret
      exact ⟨Ao, co, rfl, HO.out, hB⟩
end Go.Proofs.Ytcgcfenenkdhlaa
