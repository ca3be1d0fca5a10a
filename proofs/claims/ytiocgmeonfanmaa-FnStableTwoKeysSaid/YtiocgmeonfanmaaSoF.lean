/-
  slices.SortFunc on a row of the call's own, slices.SortedFunc and impl.SortedFunc.
-/
import Derived.Deep.RegionWith
import Derived.Test.YtiocgmeonfanmaaStPj
import Derived.Test.YtiocgmeonfanmaaSoS
import Derived.Test.YtiocgmeonfanmaaSoP
import Derived.Test.YtiocgmeonfanmaaItM
namespace Go.Proofs.Ytiocgmeonfanmaa
open Go.RowKit Go.Sort Go.Shelf
set_option linter.unusedVariables false
set_option linter.unusedSimpArgs false

/-- in order: no later item is less than an earlier one -/
def SrO (s : Int) (os : List Int) (ts : List (Int × Int)) : Prop := ts.Pairwise fun x y => ¬ cmpO s os y.1 x.1 < 0
theorem SrO.nil (s : Int) (os : List Int) : SrO s os [] := List.Pairwise.nil
theorem items_sro {s : Int} {os : List Int} {zs : List (Int × Int)} {m : Nat} {d : Array (Fin (m + 1))} (hs : d.size = m + 1) (ho : SortedIn (ltOf (cfI s os (itF zs m))) 0 d.size d) : SrO s os (d.toList.map (itF zs m)) := by
  unfold SrO
  rw [List.pairwise_map, List.pairwise_iff_getElem]
  intro i j hi hj hij
  simp at hi hj
  have := ho i j (Nat.zero_le _) hij hj
  simp [hi, hj] at this
  exact of_decide_eq_false this

set_option maxHeartbeats 1000000 in
theorem pdq0 (c0 : Nat) (cv : Value) (w : World) : Calls Try.prog 40 #[.slice none 0 c0, .int .i64 0, .int .i64 0, .int .i64 0, cv] w fun e w' => e = .returned (.tuple #[]) ∧ w' = w := by
  go_enter Try.func40, Try.ntmps40
  go_wp2
  refine wp_loop_rounds 1 ?_
  rw [rounds_succ]
  go_wp2_with fail
  refine (insertion0 c0 cv w).mono ?_
  rintro _ w1 ⟨rfl, rfl⟩
  go_wp2
  (try simp only [Exit.inBlock, Exit.then]); refine bodyPost_ret (results_none rfl _ _ _) rfl ?_
  exact ⟨rfl, rfl⟩
set_option maxHeartbeats 1000000 in
theorem sortFunc0 (c0 : Nat) (cv : Value) (w : World) : Calls Try.prog 33 #[.slice none 0 c0, cv] w fun e w' => e = .returned (.tuple #[]) ∧ w' = w := by
  have hLen : ∀ w, Calls Try.prog 41 #[.int .u64 0] w fun e w' => e = .returned (.int .i64 0) ∧ w' = w := fun w => by
    have h := Try.bits_Len 0 w (by omega) (by omega)
    exact h
  go_enter Try.func33, Try.ntmps33
  go_wp2_with fail
  refine (hLen w).mono ?_
  rintro _ w1 ⟨rfl, rfl⟩
  go_wp2_with fail
  refine (pdq0 c0 cv w1).mono ?_
  rintro _ w2 ⟨rfl, rfl⟩
  go_wp2
  go_end0
  exact ⟨rfl, rfl⟩
section
variable {α : Type} [Inhabited α]
set_option maxHeartbeats 1000000 in
theorem sortFuncI (it : α → Int × Int) (s : Int) (A : Option Addr) (l c B : Nat) (zs : List Int) (blk off cap : Nat) (d0 : Array α) (w0 : World) (R : RowK (encI it) 2 w0 blk off d0) (C : CmpB s A l c B zs w0 blk) (hsz : d0.size < 2305843009213693952) :
    Calls Try.prog 33 #[.slice (some ⟨blk, off, none⟩) d0.size cap, .func (.func 26) #[.agg #[.int .i64 s, .slice A l c]] #[]] w0 fun e w' => e = .returned (.tuple #[]) ∧ ∃ d', SWK (encI it) 2 w0 blk off d' w' ∧ PermIn 0 d0.size d0 d' ∧ (SWO (ltOf (cfI s zs it)) → SortedIn (ltOf (cfI s zs it)) 0 d0.size d') := by
  have hLen : ∀ w, Calls Try.prog 41 #[.int .u64 (d0.size : Int)] w fun e w' => e = .returned (.int .i64 (bitsLen d0.size : Nat)) ∧ w' = w := fun w => by
    have h := Try.bits_Len (d0.size : Int) w (by omega) (by omega)
    rwa [Int.toNat_natCast, bitLen_eq _ (by omega)] at h
  have hk : bitsLen d0.size ≤ 62 := (bitsLen_le_iff d0.size 62).2 (by omega)
  have wr : IntKind.u64.wrap (d0.size : Int) = d0.size := by simp [IntKind.wrap, IntKind.bits, IntKind.signed]; omega
  have HC := hide (pdqI it s A l c B zs blk off cap d0 w0 R C _ rfl (d0.size + 1) 0 d0.size (bitsLen d0.size) d0 w0 (by omega) rfl (SWK.start R.hH) (Nat.zero_le _) (Nat.le_refl _) hsz (by omega))
  have HP := hide (pdq_pa (ltOf (cfI s zs it)) _ 0 d0.size (bitsLen d0.size) true true d0 (Nat.lt_succ_self _) (Nat.zero_le _) (Nat.le_refl _))
  have HSO := hide (fun hO : SWO (ltOf (cfI s zs it)) => (pdq_sorts (ltOf (cfI s zs it)) hO d0 0 d0.size (bitsLen d0.size) true true (Nat.zero_le _) (Nat.le_refl _) (Or.inl rfl)).2)
  clear R C
  go_enter Try.func33, Try.ntmps33
  go_wp2_with fail
  refine (hLen w0).mono ?_
  rintro _ w1 ⟨rfl, rfl⟩
  go_wp2_with fail
  refine HC.out.mono ?_
  rintro _ w2 ⟨rfl, h1⟩
  have h1 := hide h1
  go_wp2
  go_end0
  exact ⟨rfl, _, h1.out, HP.out, HSO.out⟩
end

/-- sorted in place: a permutation; for a weak order in order -/
theorem sortFuncOwn (s : Int) (A : Option Addr) (l c B : Nat) (os : List Int) (A' : Option Addr) (n c' : Nat) (zs : List (Int × Int)) (w : World) (hown : w.ownsRow B 36 2 (.slice A' n c') n (pairs zs)) (hrd : Rd w B 1 A l (ints os)) (hl : l ≤ 9223372036854775807) (hnil : A'.isNone = decide (zs = [])) (hn : n * 16 ≤ 140737488355328) :
    Calls Try.prog 33 #[.slice A' n c', .func (.func 26) #[.agg #[.int .i64 s, .slice A l c]] #[]] w fun e w' => e = .returned (.tuple #[]) ∧ ∃ ts, ts.Perm zs ∧ (WeakP s os zs → SrO s os ts) ∧ w'.ownsRow B 36 2 (.slice A' n c') n (pairs ts) ∧ Below B w w' := by
  have hzl : zs.length = n := by have := hown.1; rw [pairs_length] at this; omega
  cases hz : zs with
  | nil =>
    subst hz
    obtain rfl : n = 0 := by simpa using hzl.symm
    obtain rfl : A' = none := by simpa using hnil
    refine (sortFunc0 c' _ w).mono ?_
    rintro e w' ⟨rfl, rfl⟩
    exact ⟨rfl, [], List.Perm.refl _, fun _ => SrO.nil s os, hown, Below.refl _ _⟩
  | cons z zt =>
    rw [← hz]
    have hm : zs.length = zt.length + 1 := by rw [hz]; rfl
    obtain ⟨g, rfl, hBg, hns, R, back⟩ := row_of_own hm hown
    have hC : CmpB s A l c B os w g := ⟨hrd, hBg, hl⟩
    have h := sortFuncI (itF zs zt.length) s A l c B os g 0 c' (idxs zt.length) w R hC (by rw [idxs_size]; omega)
    rw [← hns] at h
    refine h.mono ?_
    rintro e w' ⟨rfl, d', hS, hP, hO⟩
    rw [hns] at hP hO
    obtain ⟨ho, hg⟩ := back d' w' hP.1 hS
    refine ⟨rfl, _, items_perm hm hP, fun hw => items_sro (by rw [hP.1, idxs_size]) (by rw [hP.1]; exact hO (hw.swo _ (itF_mem hm))), ho, ?_⟩
    exact (Below.refl _ _).grown hg (by have := R.hblk; omega) (fun j e => by cases e; exact hBg)

set_option maxHeartbeats 1000000 in
theorem sortedFuncM (gf : Nat) (lb : Array Value) (s : Int) (A : Option Addr) (l c B : Nat) (os : List Int) (zs : List (Int × Int)) (w : World) (hB : B ≤ w.heap.size) (hrd : Rd w B 1 A l (ints os)) (hl : l ≤ 9223372036854775807) (hn : zs.length * 16 ≤ 140737488351232)
    (hco : Calls Try.prog 32 #[.func (.func gf) #[] lb] w fun e W' => ∃ A' c', e = .returned (.slice A' zs.length c') ∧ W'.ownsRow B 36 2 (.slice A' zs.length c') zs.length (pairs zs) ∧ (A'.isNone = decide (zs = [])) ∧ Below B w W') :
    Calls Try.prog 24 #[.func (.func gf) #[] lb, .func (.func 26) #[.agg #[.int .i64 s, .slice A l c]] #[]] w fun e w' => ∃ A' c' ts, e = .returned (.slice A' zs.length c') ∧ ts.Perm zs ∧ (WeakP s os zs → SrO s os ts) ∧ w'.ownsRow B 36 2 (.slice A' zs.length c') zs.length (pairs ts) ∧ (A'.isNone = decide (zs = [])) ∧ Below B w w' := by
  have HCO := hide hco
  clear hco
  go_enter Try.func24, Try.ntmps24
  go_wp2_with fail
  refine HCO.out.mono ?_
  rintro _ w1 ⟨A', c', rfl, ho, hnl, hb1⟩
  have HNL := hide hnl
  have HC := hide (sortFuncOwn s A l c B os A' zs.length c' zs w1 ho (hrd.below hb1) hl hnl (by omega))
  clear hnl ho
  go_wp2_with fail
  refine HC.out.mono ?_
  rintro _ w2 ⟨rfl, ts, hp, hst, ho2, hb2⟩
  have HP := hide hp
  have HST := hide hst
  have HO2 := hide ho2
  clear hp hst ho2
  go_wp2
  go_ret
  exact ⟨A', c', ts, rfl, HP.out, HST.out, HO2.out, HNL.out, hb1.trans hb2⟩

set_option maxHeartbeats 2000000 in
theorem implSortedFunc (a : Option Addr) (len cap : Nat) (zs : List (Int × Int)) (s : Int) (A : Option Addr) (l c : Nat) (os : List Int) (hreach : len * 16 ≤ 140737488351232) (hl : l ≤ 9223372036854775807) (w : World) (hI : Rd w w.heap.size 2 a len (pairs zs)) (hO : Rd w w.heap.size 1 A l (ints os)) :
    Calls Try.prog 11 #[.slice a len cap, .agg #[.int .i64 s, .slice A l c]] w fun e w' => ∃ A' c' ts, e = .returned (.tuple #[.slice A' len c', .bool (decide (zs = []))]) ∧ ts.Perm zs ∧ (WeakP s os zs → SrO s os ts) ∧ w'.ownsRow w.heap.size 36 2 (.slice A' len c') len (pairs ts) ∧ Below w.heap.size w w' := by
  have hzl : zs.length = len := by have := hI.1; rw [pairs_length] at this; omega
  subst hzl
  have hnil := fun (w : World) (a : Option Addr) (n c : Nat) => Lib.run_eql_slice_nil (P := Try.prog) w 22 36 a n c 0 0 Try.underlying22
  have mixed := mixedI
  have hmf : ∀ (fn : Fn) (first cap : Array Value) (w : World), (Instr.makeFunc fn first cap).run Try.prog w = .ok (.func fn first cap) w := fun _ _ _ _ => rfl
  obtain ⟨w1, hw1⟩ : ∃ w1, w1 = w.alloc (.cells #[.int .i64 s, .slice A l c] 25) := ⟨_, rfl⟩
  have hB1 : Below w.heap.size w w1 := by rw [hw1]; exact (Below.refl _ w).alloc (Nat.le_refl _) _
  have b2 : Boxed2 w1 w.heap.size 25 (.int .i64 s) (.slice A l c) := by rw [hw1]; exact Boxed2.new w _ _ _
  have hs1 : w1.heap.size = w.heap.size + 1 := by rw [hw1]; simp
  have HS1 := hide hs1
  clear hs1
  have HSQ : Hid (∀ W : World, Drew w1 W → Calls Try.prog 25 #[.slice a zs.length cap] W fun e w' => e = .returned (.func (.func 34) #[] #[.pointer (some ⟨W.heap.size, 0, none⟩)]) ∧ w' = W.alloc (.cells #[.slice a zs.length cap] 22)) := hide fun W _ => callsIn_wide.1 (seqM_in 3 _ _ _ _)
  have HSO : Hid (∀ W : World, Drew w1 W → Calls Try.prog 24 #[.func (.func 34) #[] #[.pointer (some ⟨W.heap.size, 0, none⟩)], .func (.func 26) #[.agg #[.int .i64 s, .slice A l c]] #[]] (W.alloc (.cells #[.slice a zs.length cap] 22)) fun e w' => ∃ A' c' ts, e = .returned (.slice A' zs.length c') ∧ ts.Perm zs ∧ (WeakP s os zs → SrO s os ts) ∧ w'.ownsRow w.heap.size 36 2 (.slice A' zs.length c') zs.length (pairs ts) ∧ (A'.isNone = decide (zs = [])) ∧ Below w.heap.size w w') := hide fun W hD => by
    have hBW : Below w.heap.size w W := hB1.trans (hD.below _)
    have hsW : w.heap.size ≤ W.heap.size := hBW.size
    have hB0 : Below w.heap.size w (W.alloc (.cells #[.slice a zs.length cap] 22)) := hBW.alloc hsW _
    have hst := seqM_stops 1 (Nat.le_refl _) W.heap.size w.heap.size zs.length cap a zs hreach (W.alloc (.cells #[.slice a zs.length cap] 22)) (by simp) (by simp; omega) (Boxed.new W 22 (.slice a zs.length cap)).cell (hI.below hB0)
    have hco := collM_in 3 (by omega) _ _ (enters_of Try.func34 (by kernel_rfl) rfl) w.heap.size zs.length zs _ _ hst (by simp; omega) (by omega)
    refine (sortedFuncM _ _ s A l c w.heap.size os zs _ (by simp; omega) (hO.below hB0) hl hreach (callsIn_wide.1 hco)).mono ?_
    rintro e w' ⟨A', c', ts, h1, h2, h3, h4, h5, h6⟩
    exact ⟨A', c', ts, h1, h2, h3, h4, h5, hB0.trans h6⟩
  go_enter Try.func11, Try.ntmps11
  go_wp2_with fail
  rw [← hw1]
  clear hw1
  have k0 := b2.cell0
  have k1 := b2.cell1
  have HD : Hid (Drew w1 w1.drew) := hide ⟨1, rfl⟩
  have HL : Hid (w.heap.size < w1.heap.size) := hide (by have := HS1.out; omega)
  go_region_with (first
    | (go_at_call 25; refine (HSQ.out w1.drew HD.out).mono ?_; rintro _ W2 ⟨rfl, hW2⟩; have HS2 := hide (HSO.out w1.drew HD.out); rw [← hW2] at HS2; have j0 : W2.cell? ⟨w.heap.size, 0, none⟩ = some (.int .i64 s) := (by rw [hW2]; exact (World.cell?_alloc_lt w1.drew _ _ HL.out).trans k0); have j1 : W2.cell? ⟨w.heap.size, 1, none⟩ = some (.slice A l c) := (by rw [hW2]; exact (World.cell?_alloc_lt w1.drew _ _ HL.out).trans k1); clear hW2)
    | (go_at_call 24; refine HS2.out.mono ?_; rintro _ W3 ⟨A', c', ts, rfl, hp, hst, ho, hnl, hbl⟩; have HP := hide hp; have HST := hide hst; have HO := hide ho; have HNL := hide hnl; clear hp hst ho hnl))
  all_goals (go_wp2_with fail; go_ret2; exact ⟨A', c', ts, by rw [HNL.out]; rfl, HP.out, HST.out, HO.out, hbl⟩)
end Go.Proofs.Ytiocgmeonfanmaa
