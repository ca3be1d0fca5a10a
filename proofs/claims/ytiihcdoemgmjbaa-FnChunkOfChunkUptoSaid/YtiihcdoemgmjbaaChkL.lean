/-
  Laws inside a fence: append of a slice that can be read; append to a full slice; a region that draws its order, in a round.
-/
import Derived.RecoverIn
import Derived.Defers
import Derived.Recover
import Derived.ArgAppend
import Derived.OrdersHeld
import Derived.Maps.AppendAt
import Derived.Test.YtiihcdoemgmjbaaChk
namespace Go.Proofs.Ytiihcdoemgmjbaa
open Go.RowKit Go.Shelf
set_option linter.unusedVariables false
set_option linter.unusedSimpArgs false

theorem csc {w : World} {p q : Addr} {v : Value} (h : q.block ≠ p.block) : (w.setCell p v).cell? q = w.cell? q := World.cell?_of_block (w := w) (Below.heap_setCell w p v q.block h)
theorem set2 (b : Nat) (x0 x1 y0 y1 : Value) (w : World) (h0 : w.cell? ⟨b, 0, none⟩ = some x0) (h1 : w.cell? ⟨b + 1, 0, none⟩ = some x1) (W : World)
    (hW : W = (w.setCell ⟨b, 0, none⟩ y0).setCell ⟨b + 1, 0, none⟩ y1) :
    W.cell? ⟨b, 0, none⟩ = some y0 ∧ W.cell? ⟨b + 1, 0, none⟩ = some y1 ∧ Below b w W := by
  subst hW
  refine ⟨?_, ?_, ((Below.refl _ w).setCell (p := ⟨b, 0, none⟩) (Nat.le_refl _) _).setCell (p := ⟨b + 1, 0, none⟩) (Nat.le_succ _) _⟩
  · rw [csc (by show _ ≠ _; simp)]
    exact World.cell?_setCell_same _ _ _ h0
  · exact World.cell?_setCell_same _ _ _ (u := x1) (by rw [csc (by show _ ≠ _; simp)]; exact h1)
theorem own_belowC {w w' : World} {base B : Nat} {e : TypeId} {sz : Nat} {v : Value} {n : Nat} {xs : List Value} (h : w.ownsRow base e sz v n xs) (hb : Below B w w') (hB : w.heap.size ≤ B) : w'.ownsRow base e sz v n xs :=
  ⟨h.1, h.2.imp id fun ⟨g, cap, cur, e1, e2, e3, e4⟩ => ⟨g, cap, cur, e1, e2, (hb.block g (Nat.lt_of_lt_of_le (Array.getElem?_eq_some_iff.1 e3).1 hB)).trans e3, e4⟩⟩
/-- some cells out of the midst of a slice -/
theorem Rd.mid {w : World} {B len b off s m : Nat} {zs : List Int} (h : Rd w B 1 (some ⟨b, off, none⟩) len (ints zs)) (hm : 0 < m) (hs : s + m ≤ len) : ∀ j u, (ints ((zs.drop s).take m))[j]? = some u → w.cell? ⟨b, off + s + j, none⟩ = some u := by
  intro j u hu
  obtain ⟨b', off', e, _, hc⟩ := h.2 (by omega)
  injection e with e
  injection e with e1 e2
  subst e1; subst e2
  rw [Nat.add_assoc]
  refine hc (s + j) u ?_
  simp only [ints, List.map_take, List.map_drop] at hu ⊢
  rw [List.getElem?_take] at hu
  split at hu
  · rw [List.getElem?_drop] at hu; exact hu
  · cases hu
theorem mid_length {len s m : Nat} {zs : List Int} (hz : zs.length = len) (hs : s + m ≤ len) : ((zs.drop s).take m).length = m := by simp; omega

section
variable {P : Program} {F : Fence} {nn : Nat} (w : World)
theorem wpListIn_append_rd {ops : Array Oper} {rest : List Oper} {o : Oper} {a : Act} {Q : Exit → Act → World → Prop} (hgd : o.guard = none) (s x : Operand) (t : TypeId)
    (ho : o.op = .call { callee := .builtin .append, args := #[s, x], argTypes := #[t, t] })
    (base : Nat) (e : TypeId) (i : TypeInfo) (z : Value) (size bytes : Nat) (ht : P.underlying t = some (.slice e)) (hi : P.info? e = some i) (hz : i.zero = some z)
    (hsize : i.size = size) (hby : i.bytes = bytes) (hzs : z.cells.size = size) (hsz : 0 < size)
    (v : Value) (n : Nat) (xs : List Value) (hs : a.eval s = v) (hown : w.ownsRow base e size v n xs)
    (B : Nat) (A : Option Addr) (m c : Nat) (news : List Value) (hx : a.eval x = .slice A m c) (hr : Rd w B size A m news) (h1 : ∀ u ∈ news, u.oneCell' = true)
    (h63 : n + m ≤ maxLen) (hbytes : (n + m) * bytes ≤ 140737488355328) (hbase : base ≤ w.heap.size)
    (h : ∀ v' w', w'.ownsRow base e size v' (n + m) (xs ++ news) → w.grownBy w' v.ownBlock → (v' = .slice none 0 0 ↔ v = .slice none 0 0 ∧ m = 0) → wpListIn F nn P ops Q rest (a.put o.dst v') w') : wpListIn F nn P ops Q (o :: rest) a w := by
  refine wpListIn_plain hgd fun K hK => ?_
  obtain ⟨v', w', hrun, h2, h3, h4⟩ := run_append_rd (P := P) w base t o.type e i z size bytes ht hi hz hsize hby hzs hsz v n xs hown B A m c news hr h1 h63 hbytes hbase
  unfold Oper.wpIn
  refine ⟨?_, ?_⟩
  · simp [Oper.about, ho, resolve, Target.leads, Sem.run_pure]
  · rw [Oper.semAt_plain F _ _ (by rw [ho]; intro c hc'; cases hc')]
    simp [execOp, ho, resolve, invoke, builtin, hs, hx, hrun, Result.andThen]
    exact hK _ _ (h v' w' h2 h3 h4)
theorem wpListIn_append_full {ops : Array Oper} {rest : List Oper} {o : Oper} {a : Act} {Q : Exit → Act → World → Prop}
    (hg : o.guard = none) (s x : Operand) (t : TypeId) (hop : o.op = Op.call { callee := Callee.builtin Builtin.append, args := #[s, x], argTypes := #[t, t] })
    (e : TypeId) (i : TypeInfo) (z : Value) (size bytes : Nat) (h1 : P.underlying t = some (.slice e)) (h2 : P.info? e = some i) (h3 : i.zero = some z) (h4 : i.size = size) (h5 : i.bytes = bytes) (h6 : z.cells.size = size) (h7 : 0 < size)
    (b : Addr) (n cap : Nat) (olds : List Value) (hs : a.eval s = .slice (some b) n cap) (hlo : olds.length = n * size) (holds : ∀ j u, olds[j]? = some u → w.cell? (b.add j) = some u)
    (ad : Addr) (m c : Nat) (news : List Value) (hx : a.eval x = .slice (some ad) m c) (hn : news.length = m * size) (hc : ∀ j u, news[j]? = some u → w.cell? (ad.add j) = some u)
    (hfull : cap < n + m) (b1 : n + m ≤ maxLen) (b2 : (n + m) * bytes ≤ 140737488355328)
    (hK : ∀ v' w', w'.ownsRow w.heap.size e size v' (n + m) (olds ++ news) → w.grownBy w' none → wpListIn F nn P ops Q rest (a.put o.dst v') w') :
    wpListIn F nn P ops Q (o :: rest) a w := by
  refine wpListIn_plain hg fun K hK' => ?_
  obtain ⟨v', w', hrun, r1, r2⟩ := run_append_arg_grows (P := P) w t o.type e i z size bytes h1 h2 h3 h4 h5 h6 h7 b n cap olds hlo holds ad m c news hn hc hfull b1 b2
  unfold Oper.wpIn
  refine ⟨?_, ?_⟩
  · simp [Oper.about, hop, resolve, Target.leads, Sem.run_pure]
  · rw [Oper.semAt_plain F _ _ (by rw [hop]; intro c hc'; cases hc')]
    simp [execOp, hop, resolve, invoke, builtin, hs, hx, hrun, Result.andThen]
    exact hK' _ _ (hK v' w' r1 r2)
end

/-- a frame leaves: first the mark of the loop, then one deferred call that has nothing to do -/
theorem leave_mark {P : Program} {n D : Nat} {fn : Func} {tmps : Array Value} {R : Ending → World → Prop} {W : World} {f : FuncId} {cap : Array Value} (hK : W.heap[D]? = some (.deferred (some [])))
    (hi : (invoke (.fn (.func f) cap) #[]).run P (W.putObj D (.deferred none)) = .ok (.enter f cap) (W.putObj D (.deferred none)))
    (hc : CallsDIn Fence.wide (n - 1) P f cap .returning (W.putObj D (.deferred none)) fun e u' w' => e = .returned (.tuple #[]) ∧ u' = .returning ∧ w' = W.putObj D (.deferred none))
    (h : ∃ v, (results fn tmps).run P (W.putObj D (.deferred none)) = .ok v (W.putObj D (.deferred none)) ∧ R (.returned v) (W.putObj D (.deferred none))) :
    LeavesInM Fence.wide n P fn tmps R [{ target := .collected D, args := #[] }, { target := .fn (.func f) cap, args := #[] }] .returning W := by
  refine ⟨by simp, .inl ⟨_, _, rfl, run_takeDeferred hK, ?_⟩⟩
  refine ⟨by simp, .inr ⟨by simp [Fence.wide], _, _, f, cap, rfl, hi, fun _ _ => trivial, hc.mono ?_⟩⟩
  rintro e u' w' ⟨rfl, rfl, rfl⟩
  exact h

/-! ### A region that draws its order, in a round, at the wide fence: by the laws for a frame of its own -/
theorem wpOpIn_of_wpOp {P : Program} {ops : Array Oper} {Q : Exit → Act → World → Prop} {l n i : Nat} {K : Act → World → Prop} {a : Act} {w : World} (hnd : ∀ (i : Nat) (o : Oper), ops[i]? = some o → ∀ c, o.op ≠ .defer c) (hQ : ¬ LetsOut Q)
    (h : wpOp P ops Q i K a w) : wpOpIn (Fence.wide.inRound l) n P ops Q i K a w := by
  unfold wpOp at h
  unfold wpOpIn
  cases ho : ops[i]? with
  | none => simpa [ho] using h
  | some o =>
    simp only [ho] at h ⊢
    split
    · rename_i hw
      simp only [hw, if_true] at h
      have h := h.resolve_right (fun h => hQ h.2)
      unfold Oper.wp at h
      unfold Oper.wpIn
      refine ⟨fun _ _ => trivial, ?_⟩
      rw [show (Fence.wide.inRound l).round = some l from rfl, Oper.semAt_some l _ _ (hnd i o ho)]
      generalize (execOp a.eval o).run P w = r at *
      cases r with
      | ok x w' =>
        cases x <;> simp only [Oper.upon, Oper.uponIn] at h ⊢ <;> first
          | exact h
          | exact h.elim
          | exact ⟨fun e => by simp [Fence.wide, Fence.inRound] at e, CallsIn.inRound l (callsIn_wide.2 h)⟩
          | exact ⟨fun e => by simp [Fence.wide, Fence.inRound] at e, fun c cs _ => let ⟨v, w', r, s⟩ := h c cs; ⟨v, w', r, stepsIn_wide.2 s⟩⟩
      | halt x w' => cases x <;> simp only [Oper.upon, Oper.uponIn] at h ⊢ <;> exact h
    · rename_i hw
      simp only [hw] at h
      exact ⟨fun _ _ => trivial, h⟩
theorem wpAnyIn_of_wpAny {P : Program} {md : Region.Mode} {ops : Array Oper} {Q : Exit → Act → World → Prop} {l n : Nat} (hnd : ∀ (i : Nat) (o : Oper), ops[i]? = some o → ∀ c, o.op ≠ .defer c) (hQ : ¬ LetsOut Q) :
    ∀ (fuel : Nat) (listed : Array Bool) (a : Act) (w : World), wpAny P md ops Q fuel listed a w → wpAnyIn (Fence.wide.inRound l) n P md ops Q fuel listed a w
  | 0, _, _, _, h => h
  | fuel + 1, _, _, _, h => ⟨h.1, fun i hi => wpOpIn_mono (fun a' w' h' => wpAnyIn_of_wpAny hnd hQ fuel _ a' w' h') (wpOpIn_of_wpOp hnd hQ (h.2 i hi))⟩
theorem wpIn_region_held {P : Program} {ops : Array Oper} {Q : Exit → Act → World → Prop} {l n id : Nat} {S : World → Prop} {a : Act} {w : World} (hm : P.follows .mixedOrders = true) (hnd : ∀ (i : Nat) (o : Oper), ops[i]? = some o → ∀ c, o.op ≠ .defer c) (hQ : ¬ LetsOut Q)
    (h : wpAnyH P .any ops Q S ops.size (Array.replicate ops.size false) a w.drew) : (Code.region id ops true).wpIn (Fence.wide.inRound l) n P Q a w :=
  wpIn_region_any hm (wpAnyIn_of_wpAny hnd hQ _ _ _ _ (wpAny_of_held _ _ _ _ h))

/-! ### Loads taken first in a region whose last operations write the cells that were loaded -/
section
variable {P : Program} {ops : Array Oper} {Q : Exit → Act → World → Prop} {md : Region.Mode} {S : World → Prop} {E : List Nat}
/-- whatever order: S is shown anew behind each operation, but for those of E -/
def wpAnyE (P : Program) (md : Region.Mode) (ops : Array Oper) (Q : Exit → Act → World → Prop) (S : World → Prop) (E : List Nat) : Nat → Array Bool → Act → World → Prop
  | 0, listed, a, w => Region.ready md ops listed = [] ∧ Q .normal a w
  | fuel + 1, listed, a, w =>
    (Region.ready md ops listed = [] → Q .normal a w) ∧
    ∀ i ∈ Region.ready md ops listed, wpOp P ops Q i (fun a' w' => (i ∉ E → S w') ∧ wpAnyE P md ops Q S E fuel (listed.setIfInBounds i true) a' w') a w
theorem wpAny_of_E : ∀ (fuel : Nat) (listed : Array Bool) (a : Act) (w : World), wpAnyE P md ops Q S E fuel listed a w → wpAny P md ops Q fuel listed a w
  | 0, _, _, _, h => h
  | fuel + 1, _, _, _, h => ⟨h.1, fun i hi => wpOp_mono (fun a' w' h' => wpAny_of_E fuel _ a' w' h'.2) (h.2 i hi)⟩
/-- an operation that yields wherever T holds is taken first, if T holds behind whatever may come before it -/
theorem wpAnyE_core {T : World → Prop} {i : Nat} {oi : Oper} {v : Value} (hi : ops[i]? = some oi) (hsel : ∀ (j : Nat) (o : Oper) cs b, ops[j]? = some o → o.op ≠ .select cs b)
    (C : Array Bool → Prop) (hC : ∀ listed j, C listed → j ≠ i → j ∈ Region.ready md ops listed → listed.getD i true = false → C (listed.setIfInBounds j true))
    (hT : ∀ listed j w', C listed → j ≠ i → j ∈ Region.ready md ops listed → listed.getD i true = false → (j ∉ E → S w') → T w') (hQ : ∀ c a w, Q (.panic c) (a.put oi.dst v) w → Q (.panic c) a w) :
    ∀ (fuel : Nat) (listed : Array Bool) (a : Act) (w : World), C listed →
      (∀ j oj, ops[j]? = some oj → j ≠ i → listed.getD j true = false → (∀ e ∈ oj.after, Region.binds md e = true → e.on ≠ i) → oi.apart ops oj = true) →
      i ∈ Region.ready md ops listed → YieldsIf P ops T oi v a → T w → (i ∉ E → S w) →
      wpAnyE P md ops Q S E fuel (listed.setIfInBounds i true) (a.put oi.dst v) w → (∀ w', T w' → i ∉ E → S w') → wpAnyE P md ops Q S E (fuel + 1) listed a w := by
  intro fuel
  induction fuel with
  | zero =>
    intro listed a w _ _ hr hy hTw hS H hTS
    refine ⟨fun h => (by rw [h] at hr; cases hr), fun j hj => ?_⟩
    by_cases hji : j = i
    · subst hji; exact hy.wpOp hi hTw ⟨hS, H⟩
    · have := ready_mono hj hji
      rw [H.1] at this
      cases this
  | succ fuel ih =>
    intro listed a w hCl hfree hr hy hTw hS H hTS
    refine ⟨fun h => (by rw [h] at hr; cases hr), fun j hj => ?_⟩
    by_cases hji : j = i
    · subst hji; exact hy.wpOp hi hTw ⟨hS, H⟩
    · have h1 := H.2 j (ready_mono hj hji)
      obtain ⟨hjun, oj, hoj, hall⟩ := mem_ready.1 hj
      have hun := (mem_ready.1 hr).1
      have hnot : ∀ e ∈ oj.after, Region.binds md e = true → e.on ≠ i := fun e he hb heq => by
        have hl := hall e he hb
        rw [heq] at hl
        rcases Nat.lt_or_ge i listed.size with h' | h'
        · simp [h'] at hun hl; rw [hun] at hl; cases hl
        · simp [Array.getElem?_eq_none h'] at hl
      have h2 := wpOp_putIf hoj (hfree j oj hoj hji hjun hnot) (fun cs b => hsel i oi cs b hi) (fun cs b => hsel j oj cs b hoj) hQ hy h1
      refine wpOp_mono (fun a' w' h3 => ?_) h2
      have hTw' := hT listed j w' hCl hji hj hun h3.2.1
      refine ⟨h3.2.1, ih (listed.setIfInBounds j true) a' w' (hC listed j hCl hji hj hun) (fun k ok hk hki hu hno => hfree k ok hk hki ?_ hno) (ready_mono hr (Ne.symm hji)) h3.1 hTw' (hTS w' hTw') ?_ hTS⟩
      · by_cases hjk : j = k
        · subst hjk; exact hjun
        · rw [getD_set_ne true hjk] at hu; exact hu
      · rw [Array.setIfInBounds_comm _ _ hji]
        exact h3.2.2
/-- operation e waits for b -/
def waits (md : Region.Mode) (ops : Array Oper) (e b : Nat) : Bool := match ops[e]? with | some o => o.after.any fun d => Region.binds md d && d.on == b | none => true
theorem waits_spec {e b : Nat} {listed : Array Bool} (h : waits md ops e b = true) (hr : e ∈ Region.ready md ops listed) : listed.getD b false = true := by
  obtain ⟨_, o, ho, hall⟩ := mem_ready.1 hr
  simp only [waits, ho, Array.any_eq_true', Bool.and_eq_true, beq_iff_eq] at h
  obtain ⟨d, hd, hb, he⟩ := h
  rw [← he]; exact hall d hd hb
theorem unlisted_false {listed : Array Bool} {i : Nat} (h : listed.getD i true = false) : listed.getD i false = false := by
  rcases Nat.lt_or_ge i listed.size with h' | h'
  · simp [h'] at h ⊢; exact h
  · simp [Array.getElem?_eq_none h'] at h
/-- each waits for the one before it, the first one for i -/
def chainW (md : Region.Mode) (ops : Array Oper) : Nat → List Nat → Bool
  | _, [] => true
  | i, b :: l => waits md ops b i && chainW md ops b l
theorem chainW_spec : ∀ (l : List Nat) (i : Nat), chainW md ops i l = true → ∀ j ∈ l, ∃ p ∈ i :: l, waits md ops j p = true
  | [], _, _, j, hj => by cases hj
  | b :: l, i, h, j, hj => by
    simp only [chainW, Bool.and_eq_true] at h
    rcases List.mem_cons.1 hj with rfl | hj
    · exact ⟨i, List.mem_cons_self, h.1⟩
    · obtain ⟨p, hp, hw⟩ := chainW_spec l b h.2 j hj
      exact ⟨p, List.mem_cons_of_mem _ hp, hw⟩
/-- a load, or the like, is taken first: each of E waits for it through a chain of operations that have not come up yet -/
theorem wpAnyE_take {i : Nat} (ch : List Nat) (q : Nat) {oi : Oper} {v : Value} {fuel : Nat} {listed : Array Bool} {a : Act} {w : World} (hi : ops[i]? = some oi)
    (hs : Region.noSelect ops = true) (hb : chainW md ops i ch = true) (hq : (i :: ch).contains q = true) (hE : (E.all fun e => waits md ops e q) = true) (hlb : (ch.all fun b => !listed.getD b false) = true) (hf : Region.free md ops listed i = true) (hr : (Region.ready md ops listed).contains i = true)
    (hQ : ∀ c a w, Q (.panic c) (a.put oi.dst v) w → Q (.panic c) a w) (hy : YieldsIf P ops S oi v a) (hS : S w)
    (h : wpAnyE P md ops Q S E fuel (listed.setIfInBounds i true) (a.put oi.dst v) w) : wpAnyE P md ops Q S E (fuel + 1) listed a w := by
  have un : ∀ (l : Array Bool), (∀ b ∈ ch, l.getD b false = false) → l.getD i true = false → ∀ p ∈ i :: ch, l.getD p false = false := fun l hl hun p hp => by
    rcases List.mem_cons.1 hp with rfl | hp
    · exact unlisted_false hun
    · exact hl p hp
  refine wpAnyE_core (T := S) hi (Region.noSelect_spec hs) (fun l => ∀ b ∈ ch, l.getD b false = false) (fun l j hl hji hj hun b hbm => ?_) (fun l j w' hl hji hj hun h3 => h3 (fun hm => ?_)) hQ fuel listed a w (fun b hbm => by simpa using List.all_eq_true.1 hlb b hbm) (Region.free_spec hi hf) (by simpa using hr) hy hS (fun _ => hS) h (fun _ h _ => h)
  · have hjb : j ≠ b := fun e => by
      subst e
      obtain ⟨p, hp, hw⟩ := chainW_spec ch i hb j hbm
      have := waits_spec hw hj
      rw [un l hl hun p hp] at this; cases this
    rw [getD_set_ne false hjb]; exact hl b hbm
  · have := waits_spec (List.all_eq_true.1 hE j hm) hj
    rw [un l hl hun q (by simpa using hq)] at this; cases this
theorem wpAnyE_done {listed : Array Bool} {a : Act} {w : World} (hr : Region.ready md ops listed = []) (h : Q .normal a w) : ∀ fuel, wpAnyE P md ops Q S E fuel listed a w
  | 0 => ⟨hr, h⟩
  | _ + 1 => ⟨fun _ => h, by rw [hr]; simp⟩
theorem wpAnyE_one {i : Nat} {o : Oper} {fuel : Nat} {listed : Array Bool} {a : Act} {w : World} (hr : Region.ready md ops listed = [i]) (ho : ops[i]? = some o)
    (h : ∀ K' : Act → World → Prop, Hid (∀ a w, (i ∉ E → S w) → wpAnyE P md ops Q S E fuel (listed.setIfInBounds i true) a w → K' a w) → if Region.wanted o (yielded ops a.tmps) = true then Oper.wp P o a w K' Q else K' (a.put o.dst undef) w) :
    wpAnyE P md ops Q S E (fuel + 1) listed a w :=
  ⟨fun h0 => (by rw [hr] at h0; cases h0), fun j hj => by
    rw [hr] at hj; simp at hj; subst hj
    exact wpOp_step ho (fun K' hK => h K' (fun a w hS hW => hK a w ⟨hS, hW⟩))⟩
theorem wpAnyE_two {i j : Nat} {o o' : Oper} {fuel : Nat} {listed : Array Bool} {a : Act} {w : World} (hr : Region.ready md ops listed = [i, j]) (ho : ops[i]? = some o) (ho' : ops[j]? = some o')
    (h : ∀ K' : Act → World → Prop, Hid (∀ a w, (i ∉ E → S w) → wpAnyE P md ops Q S E fuel (listed.setIfInBounds i true) a w → K' a w) → if Region.wanted o (yielded ops a.tmps) = true then Oper.wp P o a w K' Q else K' (a.put o.dst undef) w)
    (h' : ∀ K' : Act → World → Prop, Hid (∀ a w, (j ∉ E → S w) → wpAnyE P md ops Q S E fuel (listed.setIfInBounds j true) a w → K' a w) → if Region.wanted o' (yielded ops a.tmps) = true then Oper.wp P o' a w K' Q else K' (a.put o'.dst undef) w) :
    wpAnyE P md ops Q S E (fuel + 1) listed a w :=
  ⟨fun h0 => (by rw [hr] at h0; cases h0), fun k hk => by
    rw [hr] at hk; simp at hk
    rcases hk with rfl | rfl
    · exact wpOp_step ho (fun K' hK => h K' (fun a w hS hW => hK a w ⟨hS, hW⟩))
    · exact wpOp_step ho' (fun K' hK => h' K' (fun a w hS hW => hK a w ⟨hS, hW⟩))⟩
end
theorem wpIn_region_E {P : Program} {ops : Array Oper} {Q : Exit → Act → World → Prop} {l n id : Nat} (S : World → Prop) (E : List Nat) {a : Act} {w : World} (hm : P.follows .mixedOrders = true) (hnd : ∀ (i : Nat) (o : Oper), ops[i]? = some o → ∀ c, o.op ≠ .defer c) (hQ : ¬ LetsOut Q)
    (h : wpAnyE P .any ops Q S E ops.size (Array.replicate ops.size false) a w.drew) : (Code.region id ops true).wpIn (Fence.wide.inRound l) n P Q a w :=
  wpIn_region_any hm (wpAnyIn_of_wpAny hnd hQ _ _ _ _ (wpAny_of_E _ _ _ _ h))
end Go.Proofs.Ytiihcdoemgmjbaa
