import PyProof.Rows.All
import Wide.All
import OpenK.AllK
import Wide.FinOn
import PySem.Challenge.RW_op0282_01
set_option Elab.async false
set_option linter.all false
set_option compiler.extract_closed false
set_option genSizeOf false
set_option genSizeOfSpec false
set_option genInjectivity false
set_option maxHeartbeats 4000000
set_option maxRecDepth 100000
open PySem PySem.W PyProof.Rows
namespace Mine
section
-- part AA

set_option Elab.async false
/-! what the lines of the whole file close small sums by, where a lemma is shorter than a procedure's proof -/
theorem fm2 (x : Int) : 0 ≤ x.fmod 2 ∧ x.fmod 2 < 2 := by
  rw [Int.fmod_eq_emod_of_nonneg _ (by decide)]
  exact ⟨Int.emod_nonneg _ (by decide), Int.emod_lt_of_pos _ (by decide)⟩
theorem fm2_lt (x : Int) : x.fmod 2 < ((2 : Nat) : Int) := (fm2 x).2
theorem fm2_ge (x : Int) : -((2 : Nat) : Int) ≤ x.fmod 2 := Int.le_trans (by decide) (fm2 x).1
theorem fm4 (x y : Int) : 0 ≤ x.fmod 2 * 2 + y.fmod 2 ∧ x.fmod 2 * 2 + y.fmod 2 < 4 := by
  have a := fm2 x
  have b := fm2 y
  omega
theorem fm4_lt (x y : Int) : x.fmod 2 * 2 + y.fmod 2 < ((4 : Nat) : Int) := (fm4 x y).2
theorem fm4_ge (x y : Int) : -((4 : Nat) : Int) ≤ x.fmod 2 * 2 + y.fmod 2 := Int.le_trans (by decide) (fm4 x y).1
theorem em_lt (x : Int) : x % 2 < 2 ^ 64 := Int.lt_trans (Int.emod_lt_of_pos x (by decide)) (by decide)
theorem em_gt (x : Int) : -2 ^ 64 < x % 2 := Int.lt_of_lt_of_le (by decide) (Int.emod_nonneg x (by decide))
theorem nat_gt (i : Nat) : -2 ^ 1920 < ((i : Nat) : Int) := Int.lt_of_lt_of_le (by decide +kernel) (Int.natCast_nonneg i)
theorem nat_gt1 (i : Nat) : -2 ^ 1920 < ((i : Nat) : Int) + 1 := Int.lt_trans (nat_gt i) (Int.lt_add_one_of_le (Int.le_refl _))
theorem room0 {x d L : Nat} (h : x + d < L) : x < L := Nat.lt_of_le_of_lt (Nat.le_add_right x d) h
theorem room1 {x c d L : Nat} (h : x + d < L) (e : c ≤ d) : x + c < L := Nat.lt_of_le_of_lt (Nat.add_le_add_left e x) h
theorem room2 {x c1 c2 d L : Nat} (h : x + d < L) (e : c1 + c2 ≤ d) : x + c1 + c2 < L := Nat.add_assoc x c1 c2 ▸ room1 h e
theorem room3 {x c1 c2 c3 d L : Nat} (h : x + d < L) (e : c1 + c2 + c3 ≤ d) : x + c1 + c2 + c3 < L := by
  rw [Nat.add_assoc x, Nat.add_assoc x]; exact room1 h e
theorem room4 {x c1 c2 c3 c4 d L : Nat} (h : x + d < L) (e : c1 + c2 + c3 + c4 ≤ d) : x + c1 + c2 + c3 + c4 < L := by
  rw [Nat.add_assoc x, Nat.add_assoc x, Nat.add_assoc x]; exact room1 h e
theorem le_eq {a n m : Nat} (h : a = n) (e : n ≤ m) : a ≤ m := h ▸ e
theorem le_le {a n m : Nat} (h : a ≤ n) (e : n ≤ m) : a ≤ m := Nat.le_trans h e
theorem lt_le {a n m : Nat} (h : a ≤ n) (e : n < m) : a < m := Nat.lt_of_le_of_lt h e
/-- two addresses that are not the same -/
structure Apart (a b : Nat) : Prop where
  l : a ≠ b
  r : b ≠ a
theorem Apart.of {a b : Nat} (h : a < b) : Apart a b := ⟨Nat.ne_of_lt h, Nat.ne_of_gt h⟩
theorem gt1 {a b : Nat} {p : Prop} (h : b < a ∧ p) : a ≠ b := Nat.ne_of_gt h.1
theorem lt1 {a b : Nat} {p : Prop} (h : a < b ∧ p) : a ≠ b := Nat.ne_of_lt h.1
theorem gt2 {a b : Nat} {q1 p : Prop} (h : q1 ∧ b < a ∧ p) : a ≠ b := gt1 h.2
theorem lt2 {a b : Nat} {q1 p : Prop} (h : q1 ∧ a < b ∧ p) : a ≠ b := lt1 h.2
theorem gl2 {a b : Nat} {q1 : Prop} (h : q1 ∧ b < a) : a ≠ b := Nat.ne_of_gt h.2
theorem ll2 {a b : Nat} {q1 : Prop} (h : q1 ∧ a < b) : a ≠ b := Nat.ne_of_lt h.2
theorem gt3 {a b : Nat} {q1 q2 p : Prop} (h : q1 ∧ q2 ∧ b < a ∧ p) : a ≠ b := gt2 h.2
theorem lt3 {a b : Nat} {q1 q2 p : Prop} (h : q1 ∧ q2 ∧ a < b ∧ p) : a ≠ b := lt2 h.2
theorem gl3 {a b : Nat} {q1 q2 : Prop} (h : q1 ∧ q2 ∧ b < a) : a ≠ b := gl2 h.2
theorem ll3 {a b : Nat} {q1 q2 : Prop} (h : q1 ∧ q2 ∧ a < b) : a ≠ b := ll2 h.2
theorem gt4 {a b : Nat} {q1 q2 q3 p : Prop} (h : q1 ∧ q2 ∧ q3 ∧ b < a ∧ p) : a ≠ b := gt3 h.2
theorem gl4 {a b : Nat} {q1 q2 q3 : Prop} (h : q1 ∧ q2 ∧ q3 ∧ b < a) : a ≠ b := gl3 h.2
theorem ll4 {a b : Nat} {q1 q2 q3 : Prop} (h : q1 ∧ q2 ∧ q3 ∧ a < b) : a ≠ b := ll3 h.2
theorem gl5 {a b : Nat} {q1 q2 q3 q4 : Prop} (h : q1 ∧ q2 ∧ q3 ∧ q4 ∧ b < a) : a ≠ b := gl4 h.2
theorem gl6 {a b : Nat} {q1 q2 q3 q4 q5 : Prop} (h : q1 ∧ q2 ∧ q3 ∧ q4 ∧ q5 ∧ b < a) : a ≠ b := gl5 h.2
theorem gl7 {a b : Nat} {q1 q2 q3 q4 q5 q6 : Prop} (h : q1 ∧ q2 ∧ q3 ∧ q4 ∧ q5 ∧ q6 ∧ b < a) : a ≠ b := gl6 h.2
theorem gl8 {a b : Nat} {q1 q2 q3 q4 q5 q6 q7 : Prop} (h : q1 ∧ q2 ∧ q3 ∧ q4 ∧ q5 ∧ q6 ∧ q7 ∧ b < a) : a ≠ b := gl7 h.2
theorem gl9 {a b : Nat} {q1 q2 q3 q4 q5 q6 q7 q8 : Prop} (h : q1 ∧ q2 ∧ q3 ∧ q4 ∧ q5 ∧ q6 ∧ q7 ∧ q8 ∧ b < a) : a ≠ b := gl8 h.2
theorem gl10 {a b : Nat} {q1 q2 q3 q4 q5 q6 q7 q8 q9 : Prop} (h : q1 ∧ q2 ∧ q3 ∧ q4 ∧ q5 ∧ q6 ∧ q7 ∧ q8 ∧ q9 ∧ b < a) : a ≠ b := gl9 h.2
theorem gl11 {a b : Nat} {q1 q2 q3 q4 q5 q6 q7 q8 q9 q10 : Prop} (h : q1 ∧ q2 ∧ q3 ∧ q4 ∧ q5 ∧ q6 ∧ q7 ∧ q8 ∧ q9 ∧ q10 ∧ b < a) : a ≠ b := gl10 h.2
theorem sub_one {n i : Nat} (h : i < n) : n - i = n - i - 1 + 1 := (Nat.succ_pred_eq_of_pos (Nat.sub_pos_of_lt h)).symm
theorem sub_j {n i j : Nat} (h : n - i = j + 1) : n - (i + 1) = j := by rw [← Nat.sub_sub, h]; rfl
theorem sub_dec {n i : Nat} (h : i ≤ n) : n + 1 - (i + 1) < n + 1 - i := Nat.sub_lt_sub_left (Nat.lt_succ_of_le h) (Nat.lt_succ_self i)
theorem toNat_pred (i : Nat) : (((i : Nat) : Int) - 1).toNat = i - 1 := Int.toNat_sub i 1
theorem nat_ge (i : Nat) : -9223372036854775808 < ((i : Nat) : Int) := Int.lt_of_lt_of_le (by decide) (Int.natCast_nonneg i)
/-- the count of tokens behind a statement: any, in place of a sum (a `generalize` is undone when the proof is put together; a lemma is not) -/
theorem toks_gen {α : Type} {M : Model} {A : Around} {c : Sem α} {Q : α → Shared → Prop} {E : Value → Shared → Prop} {h : Heap} {g : Array GenState} {d : Drawn} {x n : Nat} {o : OsState} (k : ∀ tk : Nat, wpAny M A c Q E (Shared.mk h g d tk o)) : wpAny M A c Q E (Shared.mk h g d (x + n) o) := k _
/-! a theorem whose script is laid by `k_with "now"`: the type of the ascription holds the proof; Lean's record of the script's steps is then not kept (a third to a half of the memory) -/
noncomputable abbrev Whole {P : Prop} (_ : P) : Prop := P
theorem whole_of {P : Prop} (h : P) : Whole h := h
theorem by_lay {P : Prop} (h : P := by k_extra "now") : P := h
end
local macro_rules | `(tactic| omega) => `(tactic| first | k_extra "small" | k_extra "ne" | (law_clear; law_purse 4000 => lia))
local macro_rules | `(tactic| k_ne) => `(tactic| (refine neN ?_; (try dsimp only); first | k_extra "ne" | omega))
section
-- part TT
open PySem.Calls
set_option Elab.async false
/-- the top's run over the tree -/
noncomputable def topT (tb : String → Option Builtin) (p : Program) (w : World) (n₀ : Nat) (ann : Option Value) : Nat → SharedT → Thread → Option SharedT
  | 0, _, _ => none
  | n + 1, s, t => match through t with
    | true => some s
    | false => match stepOk n₀ ann t with
      | false => none
      | true => match stepT (denote tb) p w s t with
        | some (s', t') => topT tb p w n₀ ann n s' t'
        | none => none
theorem topT_spec {tb : String → Option Builtin} {p : Program} {w : World} {n₀ : Nat} {ann : Option Value} : ∀ (n : Nat) (s : SharedT) (t : Thread) (r : SharedT), topT tb p w n₀ ann n s t = some r → topRun tb p w n₀ ann n s.abs t = some r.abs
  | 0, _, _, _, h => by simp [topT] at h
  | n + 1, s, t, r, h => by
    unfold topT at h
    unfold topRun
    cases ht : through t with
    | true => rw [ht] at h; dsimp only at h ⊢; cases h; rfl
    | false =>
      rw [ht] at h
      cases hk : stepOk n₀ ann t with
      | false => rw [hk] at h; cases h
      | true =>
        rw [hk] at h
        cases hs : stepT (denote tb) p w s t with
        | none => rw [hs] at h; cases h
        | some x =>
          obtain ⟨s', t'⟩ := x
          rw [hs] at h
          dsimp only
          rw [stepT_spec hs]
          exact topT_spec n s' t' r h
/-- the indices below n, and no others, are filled -/
noncomputable def Full (t : BT) (n : Nat) : Prop := ∀ i, (t.get i).isSome = decide (i < n)
theorem full_nil : Full .nil 0 := fun i => by simp [BT.get]
theorem full_ins (o : Obj) : ∀ (t : BT) (n : Nat), Full t n → ((t.ins n o).get n).isSome = true
  | .nil, n, h => by
    have e : n = 0 := by
      rcases Nat.eq_zero_or_pos n with q | q
      · exact q
      · have := h 0
        simp [BT.get, q] at this
    subst e; rfl
  | .node v l r, n, h => by
    rw [BT.ins_node]
    have h0 : 0 < n := by
      have := h 0
      rw [BT.get_node, if_pos rfl] at this
      simpa using this.symm
    rw [if_neg (by omega)]
    by_cases q : n % 2 = 1
    · rw [if_pos q, BT.get_node, if_neg (by omega), if_pos q]
      refine full_ins o l (n / 2) fun i => ?_
      have := h (2 * i + 1)
      rw [BT.get_node, if_neg (by omega), if_pos (by omega), show (2 * i + 1) / 2 = i by omega] at this
      rw [this]
      exact decide_eq_decide.mpr (by omega)
    · rw [if_neg q, BT.get_node, if_neg (by omega), if_neg q]
      refine full_ins o r (n / 2 - 1) fun i => ?_
      have := h (2 * i + 2)
      rw [BT.get_node, if_neg (by omega), if_neg (by omega), show (2 * i + 2) / 2 - 1 = i by omega] at this
      rw [this]
      exact decide_eq_decide.mpr (by omega)
theorem full_more (o : Obj) {t : BT} {n : Nat} (h : Full t n) : Full (t.ins n o) (n + 1) := fun i => by
  rw [BT.get_ins o t n (full_ins o t n h)]
  by_cases q : i = n
  · rw [if_pos q]; simp [q]
  · rw [if_neg q, h i]
    exact decide_eq_decide.mpr (by omega)
noncomputable def grow : List Obj → BT → Nat → BT
  | [], t, _ => t
  | o :: l, t, n => grow l (t.ins n o) (n + 1)
theorem grow_abs (life : Life) : ∀ (l pre : List Obj) (t : BT) (n : Nat), Full t n → absHeap t n life = ⟨pre.toArray, life⟩ → pre.length = n → absHeap (grow l t n) (n + l.length) life = ⟨(pre ++ l).toArray, life⟩
  | [], pre, t, n, _, h, _ => by simpa [grow] using h
  | o :: l, pre, t, n, hf, h, hn => by
    have e := absHeap_ins (life := life) (full_ins o t n hf)
    have h2 : absHeap (t.ins n o) (n + 1) life = ⟨(pre ++ [o]).toArray, life⟩ := by
      rw [e, h]
      show Heap.mk _ _ = Heap.mk _ _
      simp
    have := grow_abs life l (pre ++ [o]) (t.ins n o) (n + 1) (full_more o hf) h2 (by simp [hn])
    rw [grow, List.length_cons, show n + (l.length + 1) = n + 1 + l.length by omega, this]
    simp
noncomputable def treeS (s : Shared) : SharedT := ⟨grow s.heap.objs.toList .nil 0, s.heap.objs.toList.length, s.heap.life, s.gens, s.drawn, s.toks, s.os⟩
theorem treeS_abs (s : Shared) : (treeS s).abs = s := by
  obtain ⟨⟨objs, life⟩, gens, drawn, toks, os⟩ := s
  have h := grow_abs life objs.toList [] .nil 0 full_nil (by unfold absHeap BT.list; rfl) rfl
  rw [Nat.zero_add] at h
  show Shared.mk (absHeap (grow objs.toList .nil 0) objs.toList.length life) gens drawn toks os = _
  rw [h]
  simp
/-- the top's end, run over the tree -/
noncomputable def treeFrom (tb : String → Option Builtin) (p : Program) (w : World) (N : Nat) (s₀ : Shared) : Option Shared :=
  match s₀.heap.isNs mainGlobals && s₀.gens.size == 0 with
  | true => (topT tb p w s₀.heap.objs.size (s₀.heap.nsMap mainGlobals "__annotations__") N (treeS s₀) (topStub p)).bind fun s₁ => match staticsOk (importedModules p.main.body) s₀.heap s₁.abs.heap && namesBound p s₁.abs.heap && gensDone s₁.abs && laidKept s₀.heap s₁.abs.heap with
      | true => some s₁.abs
      | false => none
  | false => none
theorem treeFrom_spec {tb : String → Option Builtin} {p : Program} {w : World} {N : Nat} {s₀ r : Shared} (h : treeFrom tb p w N s₀ = some r) : topFrom tb p w N s₀ = some r := by
  unfold treeFrom at h
  unfold topFrom
  cases hb : (s₀.heap.isNs mainGlobals && s₀.gens.size == 0) with
  | false => rw [hb] at h; cases h
  | true =>
    rw [hb] at h
    dsimp only at h ⊢
    obtain ⟨sT, h1, h2⟩ := Option.bind_eq_some_iff.mp h
    have h3 := topT_spec _ _ _ _ h1
    rw [treeS_abs] at h3
    rw [h3]
    exact h2
theorem left_tree {p q : Program} {loose : List Str} {Xt : Shared → Bool} {α : Type} {Yf : Shared → α} {Ya : World → α} {N : Nat} {g0 : Bool}
    (h : ∀ w : World, ((fencedOpening treeTable p w N).bind (treeFrom treeTable p w N)).map (fun s => (openSeen q loose (importedModules p.main.body) Xt g0 s, Yf s)) = some (openGood q loose, Ya w)) : LeftO p q loose Xt Yf Ya N g0 := fun w => by
  obtain ⟨s₁, h1, h2⟩ := Option.map_eq_some_iff.mp (h w)
  obtain ⟨s₀, h3, h4⟩ := Option.bind_eq_some_iff.mp h1
  unfold openEnds
  rw [h3]
  show (topFrom treeTable p w N s₀).map _ = _
  rw [treeFrom_spec h4]
  exact congrArg some h2
end
section
-- part TQ
open PySem.Calls
set_option Elab.async false
set_option maxRecDepth 100000
noncomputable def nthR (l : List Obj) : Nat → Option Obj := @List.rec Obj (fun _ => Nat → Option Obj) (fun _ => none) (fun o _ ih i => @Nat.rec (fun _ => Option Obj) (some o) (fun j _ => ih j) i) l
theorem nthR_eq : ∀ (l : List Obj) (i : Nat), l[i]? = nthR l i
  | [], _ => rfl
  | _ :: _, 0 => rfl
  | _ :: l, i + 1 => by rw [List.getElem?_cons_succ, nthR_eq l i]; rfl
noncomputable def getR (h : Heap) (a : Addr) : Option Obj := match nthR h.objs.toList a with
  | some o => alive o
  | none => none
theorem getR_eq : @Heap.get? = getR := by
  funext h a
  unfold Heap.get? getR
  rw [← nthR_eq, Array.getElem?_toList]
  rcases h.objs[a]? with _ | ⟨c, d, dt, sl⟩
  · rfl
  · cases dt <;> rfl
noncomputable def q0 : {g // @PySem.W.Fast.tw298464707033697862 = g} := ⟨_, by delta PySem.W.Fast.tw298464707033697862; try rewrite [getR_eq]; exact rfl⟩
theorem q0e : @PySem.W.Fast.tw298464707033697862 = q0.1 := q0.2
noncomputable def q1 : {g // @PySem.W.Fast.tw8920871248978507458 = g} := ⟨_, by delta PySem.W.Fast.tw8920871248978507458; try rewrite [getR_eq]; exact rfl⟩
theorem q1e : @PySem.W.Fast.tw8920871248978507458 = q1.1 := q1.2
noncomputable def q2 : {g // @PySem.W.Fast.tw11398356212714688179 = g} := ⟨_, by delta PySem.W.Fast.tw11398356212714688179; try rewrite [q1e]; try rewrite [getR_eq]; exact rfl⟩
theorem q2e : @PySem.W.Fast.tw11398356212714688179 = q2.1 := q2.2
noncomputable def q3 : {g // @PySem.W.Fast.tw2020367076256383516 = g} := ⟨_, by delta PySem.W.Fast.tw2020367076256383516; try rewrite [q0e]; try rewrite [q2e]; exact rfl⟩
theorem q3e : @PySem.W.Fast.tw2020367076256383516 = q3.1 := q3.2
noncomputable def q4 : {g // @PySem.W.Fast.tw1081197705613022005 = g} := ⟨_, by delta PySem.W.Fast.tw1081197705613022005; try rewrite [q1e]; try rewrite [getR_eq]; exact rfl⟩
theorem q4e : @PySem.W.Fast.tw1081197705613022005 = q4.1 := q4.2
noncomputable def q5 : {g // @PySem.Heap.isNs = g} := ⟨_, by delta PySem.Heap.isNs; try rewrite [getR_eq]; exact rfl⟩
theorem q5e : @PySem.Heap.isNs = q5.1 := q5.2
noncomputable def q6 : {g // @PySem.W.Fast.tw2817317335113233408 = g} := ⟨_, by delta PySem.W.Fast.tw2817317335113233408; try rewrite [q4e]; try rewrite [q1e]; try rewrite [q5e]; exact rfl⟩
theorem q6e : @PySem.W.Fast.tw2817317335113233408 = q6.1 := q6.2
noncomputable def q7 : {g // @PySem.W.Fast.tw16017708745293785899 = g} := ⟨_, by delta PySem.W.Fast.tw16017708745293785899; try rewrite [q4e]; try rewrite [q1e]; exact rfl⟩
theorem q7e : @PySem.W.Fast.tw16017708745293785899 = q7.1 := q7.2
noncomputable def q8 : {g // @PySem.W.Fast.tw15623941606353435126 = g} := ⟨_, by delta PySem.W.Fast.tw15623941606353435126; try rewrite [q5e]; try rewrite [q1e]; exact rfl⟩
theorem q8e : @PySem.W.Fast.tw15623941606353435126 = q8.1 := q8.2
noncomputable def q9 : {g // @PySem.W.Fast.tw912232860611745870 = g} := ⟨_, by delta PySem.W.Fast.tw912232860611745870; try rewrite [q5e]; try rewrite [q1e]; exact rfl⟩
theorem q9e : @PySem.W.Fast.tw912232860611745870 = q9.1 := q9.2
noncomputable def q10 : {g // @PySem.W.Fast.tw5160383126252970620 = g} := ⟨_, by delta PySem.W.Fast.tw5160383126252970620; try rewrite [q3e]; try rewrite [q6e]; try rewrite [q7e]; try rewrite [q1e]; try rewrite [q5e]; try rewrite [q8e]; try rewrite [q9e]; exact rfl⟩
theorem q10e : @PySem.W.Fast.tw5160383126252970620 = q10.1 := q10.2
noncomputable def q11 : {g // @PySem.Heap.nsPairs = g} := ⟨_, by delta PySem.Heap.nsPairs; try rewrite [getR_eq]; exact rfl⟩
theorem q11e : @PySem.Heap.nsPairs = q11.1 := q11.2
noncomputable def q12 : {g // @PySem.Heap.bltView = g} := ⟨_, by delta PySem.Heap.bltView; try rewrite [q11e]; exact rfl⟩
theorem q12e : @PySem.Heap.bltView = q12.1 := q12.2
noncomputable def q13 : {g // @PySem.Heap.nsKeys = g} := ⟨_, by delta PySem.Heap.nsKeys; try rewrite [getR_eq]; exact rfl⟩
theorem q13e : @PySem.Heap.nsKeys = q13.1 := q13.2
noncomputable def q14 : {g // @PySem.W.Fast.tw10880121769531294198 = g} := ⟨_, by delta PySem.W.Fast.tw10880121769531294198; try rewrite [q13e]; exact rfl⟩
theorem q14e : @PySem.W.Fast.tw10880121769531294198 = q14.1 := q14.2
noncomputable def q15 : {g // @PySem.W.Fast.tw14722251495701143533 = g} := ⟨_, by delta PySem.W.Fast.tw14722251495701143533; try rewrite [q5e]; try rewrite [q13e]; try rewrite [q1e]; exact rfl⟩
theorem q15e : @PySem.W.Fast.tw14722251495701143533 = q15.1 := q15.2
noncomputable def q16 : {g // @PySem.W.Fast.tw9904233695019617717 = g} := ⟨_, by delta PySem.W.Fast.tw9904233695019617717; try rewrite [q1e]; try rewrite [getR_eq]; exact rfl⟩
theorem q16e : @PySem.W.Fast.tw9904233695019617717 = q16.1 := q16.2
noncomputable def q17 : {g // @PySem.W.Fast.tw5263368880259041517 = g} := ⟨_, by delta PySem.W.Fast.tw5263368880259041517; try rewrite [q1e]; try rewrite [getR_eq]; exact rfl⟩
theorem q17e : @PySem.W.Fast.tw5263368880259041517 = q17.1 := q17.2
noncomputable def q18 : {g // @PySem.W.Fast.tw14927025687674330080 = g} := ⟨_, by delta PySem.W.Fast.tw14927025687674330080; try rewrite [q1e]; try rewrite [getR_eq]; exact rfl⟩
theorem q18e : @PySem.W.Fast.tw14927025687674330080 = q18.1 := q18.2
noncomputable def q19 : {g // @PySem.W.Fast.tw10994771534591457954 = g} := ⟨_, by delta PySem.W.Fast.tw10994771534591457954; try rewrite [q16e]; try rewrite [q17e]; try rewrite [q18e]; exact rfl⟩
theorem q19e : @PySem.W.Fast.tw10994771534591457954 = q19.1 := q19.2
noncomputable def q20 : {g // @PySem.W.Fast.tw7193348484503787722 = g} := ⟨_, by delta PySem.W.Fast.tw7193348484503787722; try rewrite [getR_eq]; exact rfl⟩
theorem q20e : @PySem.W.Fast.tw7193348484503787722 = q20.1 := q20.2
noncomputable def q21 : {g // @PySem.W.Fast.tw5930804224584009831 = g} := ⟨_, by delta PySem.W.Fast.tw5930804224584009831; try rewrite [q2e]; try rewrite [q20e]; exact rfl⟩
theorem q21e : @PySem.W.Fast.tw5930804224584009831 = q21.1 := q21.2
noncomputable def q22 : {g // @PySem.W.Fast.tw5244371056499926238 = g} := ⟨_, by delta PySem.W.Fast.tw5244371056499926238; try rewrite [q1e]; try rewrite [getR_eq]; exact rfl⟩
theorem q22e : @PySem.W.Fast.tw5244371056499926238 = q22.1 := q22.2
noncomputable def q23 : {g // @PySem.W.Fast.tw3277482597662649166 = g} := ⟨_, by delta PySem.W.Fast.tw3277482597662649166; try rewrite [q1e]; exact rfl⟩
theorem q23e : @PySem.W.Fast.tw3277482597662649166 = q23.1 := q23.2
noncomputable def q24 : {g // @PySem.W.Fast.tw2578726214315757710 = g} := ⟨_, by delta PySem.W.Fast.tw2578726214315757710; try rewrite [q23e]; exact rfl⟩
theorem q24e : @PySem.W.Fast.tw2578726214315757710 = q24.1 := q24.2
noncomputable def q25 : {g // @PySem.W.Fast.tw9649274521512697073 = g} := ⟨_, by delta PySem.W.Fast.tw9649274521512697073; try rewrite [q5e]; try rewrite [q1e]; exact rfl⟩
theorem q25e : @PySem.W.Fast.tw9649274521512697073 = q25.1 := q25.2
noncomputable def q26 : {g // @PySem.W.Fast.tw479339242167458305 = g} := ⟨_, by delta PySem.W.Fast.tw479339242167458305; try rewrite [q21e]; try rewrite [q22e]; try rewrite [q24e]; try rewrite [q25e]; exact rfl⟩
theorem q26e : @PySem.W.Fast.tw479339242167458305 = q26.1 := q26.2
noncomputable def q27 : {g // @PySem.W.Fast.tw7359684028686041444 = g} := ⟨_, by delta PySem.W.Fast.tw7359684028686041444; try rewrite [q3e]; exact rfl⟩
theorem q27e : @PySem.W.Fast.tw7359684028686041444 = q27.1 := q27.2
noncomputable def q28 : {g // @PySem.W.Fast.tw18429517753735259766 = g} := ⟨_, by delta PySem.W.Fast.tw18429517753735259766; try rewrite [q2e]; exact rfl⟩
theorem q28e : @PySem.W.Fast.tw18429517753735259766 = q28.1 := q28.2
noncomputable def q29 : {g // @PySem.W.Fast.tw2488268039334873116 = g} := ⟨_, by delta PySem.W.Fast.tw2488268039334873116; try rewrite [q2e]; try rewrite [getR_eq]; exact rfl⟩
theorem q29e : @PySem.W.Fast.tw2488268039334873116 = q29.1 := q29.2
noncomputable def q30 : {g // @PySem.W.Fast.tw16090120013241838585 = g} := ⟨_, by delta PySem.W.Fast.tw16090120013241838585; try rewrite [q27e]; try rewrite [q28e]; try rewrite [q29e]; exact rfl⟩
theorem q30e : @PySem.W.Fast.tw16090120013241838585 = q30.1 := q30.2
noncomputable def q31 : {g // @PySem.W.Fast.tw15717526521509864196 = g} := ⟨_, by delta PySem.W.Fast.tw15717526521509864196; try rewrite [q5e]; try rewrite [q1e]; try rewrite [q3e]; try rewrite [q2e]; try rewrite [q4e]; exact rfl⟩
theorem q31e : @PySem.W.Fast.tw15717526521509864196 = q31.1 := q31.2
noncomputable def q32 : {g // @PySem.W.Fast.tw2386780881361962483 = g} := ⟨_, by delta PySem.W.Fast.tw2386780881361962483; try rewrite [q31e]; exact rfl⟩
theorem q32e : @PySem.W.Fast.tw2386780881361962483 = q32.1 := q32.2
noncomputable def q33 : {g // @PySem.W.Fast.tw2104597623119524560 = g} := ⟨_, by delta PySem.W.Fast.tw2104597623119524560; try rewrite [q2e]; exact rfl⟩
theorem q33e : @PySem.W.Fast.tw2104597623119524560 = q33.1 := q33.2
noncomputable def q34 : {g // @PySem.W.Fast.tw5970729317478709303 = g} := ⟨_, by delta PySem.W.Fast.tw5970729317478709303; try rewrite [q2e]; try rewrite [getR_eq]; exact rfl⟩
theorem q34e : @PySem.W.Fast.tw5970729317478709303 = q34.1 := q34.2
noncomputable def q35 : {g // @PySem.W.Fast.tw5776809815495173689 = g} := ⟨_, by delta PySem.W.Fast.tw5776809815495173689; try rewrite [q33e]; try rewrite [q34e]; exact rfl⟩
theorem q35e : @PySem.W.Fast.tw5776809815495173689 = q35.1 := q35.2
noncomputable def q36 : {g // @PySem.W.Fast.tw5555851639681330969 = g} := ⟨_, by delta PySem.W.Fast.tw5555851639681330969; try rewrite [q5e]; try rewrite [q1e]; try rewrite [q3e]; try rewrite [q2e]; try rewrite [q35e]; try rewrite [q4e]; exact rfl⟩
theorem q36e : @PySem.W.Fast.tw5555851639681330969 = q36.1 := q36.2
noncomputable def q37 : {g // @PySem.W.Fast.tw11698064438423848299 = g} := ⟨_, by delta PySem.W.Fast.tw11698064438423848299; try rewrite [q36e]; exact rfl⟩
theorem q37e : @PySem.W.Fast.tw11698064438423848299 = q37.1 := q37.2
noncomputable def q38 : {g // @PySem.W.Fast.tw17916874912237369181 = g} := ⟨_, by delta PySem.W.Fast.tw17916874912237369181; try rewrite [q3e]; exact rfl⟩
theorem q38e : @PySem.W.Fast.tw17916874912237369181 = q38.1 := q38.2
noncomputable def q39 : {g // @PySem.W.Fast.tw13445708840846046136 = g} := ⟨_, by delta PySem.W.Fast.tw13445708840846046136; try rewrite [getR_eq]; exact rfl⟩
theorem q39e : @PySem.W.Fast.tw13445708840846046136 = q39.1 := q39.2
noncomputable def q40 : {g // @PySem.W.Fast.tw964301259703733418 = g} := ⟨_, by delta PySem.W.Fast.tw964301259703733418; try rewrite [q39e]; exact rfl⟩
theorem q40e : @PySem.W.Fast.tw964301259703733418 = q40.1 := q40.2
noncomputable def q41 : {g // @PySem.W.Fast.tw5339041792150306595 = g} := ⟨_, by delta PySem.W.Fast.tw5339041792150306595; try rewrite [q40e]; try rewrite [q1e]; exact rfl⟩
theorem q41e : @PySem.W.Fast.tw5339041792150306595 = q41.1 := q41.2
noncomputable def q42 : {g // @PySem.W.Fast.tw4746668214238765733 = g} := ⟨_, by delta PySem.W.Fast.tw4746668214238765733; try rewrite [q41e]; exact rfl⟩
theorem q42e : @PySem.W.Fast.tw4746668214238765733 = q42.1 := q42.2
noncomputable def q43 : {g // @PySem.W.Fast.tw6488979404369697443 = g} := ⟨_, by delta PySem.W.Fast.tw6488979404369697443; try rewrite [q42e]; exact rfl⟩
theorem q43e : @PySem.W.Fast.tw6488979404369697443 = q43.1 := q43.2
noncomputable def q44 : {g // @PySem.W.Fast.tw17913588196522330232 = g} := ⟨_, by delta PySem.W.Fast.tw17913588196522330232; try rewrite [getR_eq]; try rewrite [q43e]; exact rfl⟩
theorem q44e : @PySem.W.Fast.tw17913588196522330232 = q44.1 := q44.2
noncomputable def q45 : {g // @PySem.W.Fast.tw15977364157196396599 = g} := ⟨_, by delta PySem.W.Fast.tw15977364157196396599; try rewrite [getR_eq]; try rewrite [q43e]; exact rfl⟩
theorem q45e : @PySem.W.Fast.tw15977364157196396599 = q45.1 := q45.2
noncomputable def q46 : {g // @PySem.W.Fast.tw18415734462268123781 = g} := ⟨_, by delta PySem.W.Fast.tw18415734462268123781; try rewrite [q2e]; try rewrite [q44e]; try rewrite [q45e]; exact rfl⟩
theorem q46e : @PySem.W.Fast.tw18415734462268123781 = q46.1 := q46.2
noncomputable def q47 : {g // @PySem.W.Fast.tw1696807537771891022 = g} := ⟨_, by delta PySem.W.Fast.tw1696807537771891022; try rewrite [q1e]; try rewrite [q40e]; exact rfl⟩
theorem q47e : @PySem.W.Fast.tw1696807537771891022 = q47.1 := q47.2
noncomputable def q48 : {g // @PySem.W.Fast.tw7317090234206586261 = g} := ⟨_, by delta PySem.W.Fast.tw7317090234206586261; try rewrite [q38e]; try rewrite [q28e]; try rewrite [q46e]; try rewrite [q47e]; exact rfl⟩
theorem q48e : @PySem.W.Fast.tw7317090234206586261 = q48.1 := q48.2
noncomputable def q49 : {g // @PySem.W.Fast.tw4448462502746266218 = g} := ⟨_, by delta PySem.W.Fast.tw4448462502746266218; try rewrite [getR_eq]; exact rfl⟩
theorem q49e : @PySem.W.Fast.tw4448462502746266218 = q49.1 := q49.2
noncomputable def q50 : {g // @PySem.W.Fast.tw1330114474539944938 = g} := ⟨_, by delta PySem.W.Fast.tw1330114474539944938; try rewrite [q49e]; exact rfl⟩
theorem q50e : @PySem.W.Fast.tw1330114474539944938 = q50.1 := q50.2
noncomputable def q51 : {g // @PySem.W.Fast.tw10826909745831765583 = g} := ⟨_, by delta PySem.W.Fast.tw10826909745831765583; try rewrite [getR_eq]; exact rfl⟩
theorem q51e : @PySem.W.Fast.tw10826909745831765583 = q51.1 := q51.2
noncomputable def q52 : {g // @PySem.W.Fast.tw8455316765594285451 = g} := ⟨_, by delta PySem.W.Fast.tw8455316765594285451; try rewrite [q1e]; try rewrite [q40e]; exact rfl⟩
theorem q52e : @PySem.W.Fast.tw8455316765594285451 = q52.1 := q52.2
noncomputable def q53 : {g // @PySem.W.Fast.tw1599894383341104664 = g} := ⟨_, by delta PySem.W.Fast.tw1599894383341104664; try rewrite [q2e]; try rewrite [getR_eq]; exact rfl⟩
theorem q53e : @PySem.W.Fast.tw1599894383341104664 = q53.1 := q53.2
noncomputable def q54 : {g // @PySem.W.Fast.tw18387853809812945965 = g} := ⟨_, by delta PySem.W.Fast.tw18387853809812945965; try rewrite [q2e]; try rewrite [q44e]; try rewrite [q45e]; exact rfl⟩
theorem q54e : @PySem.W.Fast.tw18387853809812945965 = q54.1 := q54.2
noncomputable def q55 : {g // @PySem.W.Fast.tw18187449340191768954 = g} := ⟨_, by delta PySem.W.Fast.tw18187449340191768954; try rewrite [q3e]; try rewrite [q50e]; try rewrite [q5e]; try rewrite [q11e]; try rewrite [q51e]; try rewrite [q52e]; try rewrite [q1e]; try rewrite [q53e]; try rewrite [q54e]; try rewrite [q4e]; exact rfl⟩
theorem q55e : @PySem.W.Fast.tw18187449340191768954 = q55.1 := q55.2
noncomputable def q56 : {g // @PySem.W.Fast.tw7369524293546568484 = g} := ⟨_, by delta PySem.W.Fast.tw7369524293546568484; try rewrite [q55e]; try rewrite [q36e]; exact rfl⟩
theorem q56e : @PySem.W.Fast.tw7369524293546568484 = q56.1 := q56.2
noncomputable def q57 : {g // @PySem.W.Fast.tw4187177175401517315 = g} := ⟨_, by delta PySem.W.Fast.tw4187177175401517315; try rewrite [q10e]; try rewrite [q12e]; try rewrite [q14e]; try rewrite [q15e]; try rewrite [q5e]; try rewrite [q19e]; try rewrite [q26e]; try rewrite [q30e]; try rewrite [q32e]; try rewrite [q37e]; try rewrite [q48e]; try rewrite [q56e]; exact rfl⟩
theorem q57e : @PySem.W.Fast.tw4187177175401517315 = q57.1 := q57.2
noncomputable def q58 : {g // @PySem.Flt.modTest = g} := ⟨_, by delta PySem.Flt.modTest; try rewrite [getR_eq]; try rewrite [q5e]; try rewrite [PySem.W.Fast.te8920871248978507458]; try rewrite [q1e]; exact rfl⟩
theorem q58e : @PySem.Flt.modTest = q58.1 := q58.2
noncomputable def q59 : {g // @PySem.Flt.patTest = g} := ⟨_, by delta PySem.Flt.patTest; try rewrite [getR_eq]; exact rfl⟩
theorem q59e : @PySem.Flt.patTest = q59.1 := q59.2
noncomputable def q60 : {g // @PySem.Flt.mathXt = g} := ⟨_, by delta PySem.Flt.mathXt; try rewrite [q58e]; try rewrite [PySem.W.Fast.te8920871248978507458]; try rewrite [q1e]; try rewrite [q59e]; exact rfl⟩
theorem q60e : @PySem.Flt.mathXt = q60.1 := q60.2
noncomputable def q61 : {g // @PySem.W.xlAt = g} := ⟨_, by delta PySem.W.xlAt; try rewrite [q60e]; try rewrite [PySem.W.Fast.te964301259703733418]; try rewrite [q40e]; try rewrite [PySem.W.Fast.te8920871248978507458]; try rewrite [q1e]; exact rfl⟩
theorem q61e : @PySem.W.xlAt = q61.1 := q61.2
noncomputable def q62 : {g // @PySem.W.strKeyed = g} := ⟨_, by delta PySem.W.strKeyed; try rewrite [getR_eq]; exact rfl⟩
theorem q62e : @PySem.W.strKeyed = q62.1 := q62.2
noncomputable def q63 : {g // @PySem.Heap.nsFind? = g} := ⟨_, by delta PySem.Heap.nsFind?; try rewrite [getR_eq]; exact rfl⟩
theorem q63e : @PySem.Heap.nsFind? = q63.1 := q63.2
noncomputable def q64 : {g // @PySem.W.ownDict = g} := ⟨_, by delta PySem.W.ownDict; try rewrite [getR_eq]; exact rfl⟩
theorem q64e : @PySem.W.ownDict = q64.1 := q64.2
noncomputable def q65 : {g // @PySem.W.lets = g} := ⟨_, by delta PySem.W.lets; try rewrite [getR_eq]; exact rfl⟩
theorem q65e : @PySem.W.lets = q65.1 := q65.2
noncomputable def q66 : {g // @PySem.W.recordClass = g} := ⟨_, by delta PySem.W.recordClass; try rewrite [getR_eq]; try rewrite [q62e]; try rewrite [q63e]; try rewrite [q64e]; try rewrite [q65e]; exact rfl⟩
theorem q66e : @PySem.W.recordClass = q66.1 := q66.2
noncomputable def q67 : {g // @PySem.globalOf = g} := ⟨_, by delta PySem.globalOf; try rewrite [getR_eq]; exact rfl⟩
theorem q67e : @PySem.globalOf = q67.1 := q67.2
noncomputable def q68 : {g // @PySem.classAt = g} := ⟨_, by delta PySem.classAt; try rewrite [q67e]; exact rfl⟩
theorem q68e : @PySem.classAt = q68.1 := q68.2
noncomputable def q69 : {g // @PySem.W.recOk = g} := ⟨_, by delta PySem.W.recOk; try rewrite [q66e]; try rewrite [q68e]; exact rfl⟩
theorem q69e : @PySem.W.recOk = q69.1 := q69.2
noncomputable def q70 : {g // @PySem.W.staticsOk = g} := ⟨_, by delta PySem.W.staticsOk; try rewrite [q5e]; try rewrite [q13e]; try rewrite [PySem.W.Fast.te8920871248978507458]; try rewrite [q1e]; exact rfl⟩
theorem q70e : @PySem.W.staticsOk = q70.1 := q70.2
noncomputable def q71 : {g // @PySem.W.namesBound = g} := ⟨_, by delta PySem.W.namesBound; try rewrite [q5e]; try rewrite [q13e]; exact rfl⟩
theorem q71e : @PySem.W.namesBound = q71.1 := q71.2
noncomputable def q72 : {g // @PySem.W.laidKept = g} := ⟨_, by delta PySem.W.laidKept; try rewrite [q5e]; try rewrite [PySem.W.Fast.te8920871248978507458]; try rewrite [q1e]; exact rfl⟩
theorem q72e : @PySem.W.laidKept = q72.1 := q72.2
end
section
-- part TR
open PySem.Calls
set_option Elab.async false
set_option maxRecDepth 100000
noncomputable def openF := q57.1
theorem openF_eq : @openSeen = openF := Fast.te4187177175401517315.trans q57.2
noncomputable def xlF := q61.1
theorem xlF_eq : @xlAt = xlF := q61.2
noncomputable def recF := q69.1
theorem recF_eq : @recOk = recF := q69.2
noncomputable def statF := q70.1
theorem statF_eq : @staticsOk = statF := q70.2
noncomputable def namesF := q71.1
theorem namesF_eq : @namesBound = namesF := q71.2
noncomputable def laidF := q72.1
theorem laidF_eq : @laidKept = laidF := q72.2
noncomputable def nsF := q5.1
theorem nsF_eq : @Heap.isNs = nsF := q5.2
noncomputable def mapF := q1.1
theorem mapF_eq : @Heap.nsMap = mapF := Fast.te8920871248978507458.trans q1.2
noncomputable def topQ (p : Program) (w : World) (n₀ : Nat) (ann : Option Value) (n : Nat) : SharedT → Thread → Option SharedT :=
  @Nat.rec (fun _ => SharedT → Thread → Option SharedT) (fun _ _ => none) (fun _ ih s t => match through t with
    | true => some s
    | false => match Fast.tw6613529449190102663 n₀ ann t with
      | false => none
      | true => match Fast.tw10156331382660048174 (Fast.tw11892475500146522536 Fast.tw14364793385576792824) p w s t with
        | some (s', t') => ih s' t'
        | none => none) n
theorem topQ_eq (p : Program) (w : World) (n₀ : Nat) (ann : Option Value) : ∀ n, topT treeTable p w n₀ ann n = topQ p w n₀ ann n
  | 0 => rfl
  | n + 1 => by
    funext s t
    rw [topT, topQ_eq p w n₀ ann n, Fast.te6613529449190102663, Fast.te10156331382660048174, Fast.te11892475500146522536, Fast.te14364793385576792824]
    rfl
noncomputable def fencedQ (p : Program) (w : World) (N : Nat) : Option Shared :=
  (Fast.tw10274390034422433532 Fast.tw14364793385576792824 (opening p) w N (Fast.tw1435165496053646825 (opening p)).1 (Fast.tw1435165496053646825 (opening p)).2).bind (Fast.tw14289696077712309145 p)
theorem fencedQ_eq (p : Program) (w : World) (N : Nat) : fencedOpening treeTable p w N = fencedQ p w N := by
  unfold fencedOpening fencedQ
  rw [Fast.te10274390034422433532, Fast.te1435165496053646825, Fast.te14289696077712309145, Fast.te14364793385576792824]
noncomputable def lookT (s : SharedT) (a : Nat) : Option Obj := match Nat.blt a s.n with
  | true => alive ((s.tree.get a).getD default)
  | false => none
theorem lookT_eq (s : SharedT) (a : Nat) : s.abs.heap.get? a = lookT s a := by
  unfold lookT
  show (absHeap s.tree s.n s.life).get? a = _
  cases h : Nat.blt a s.n with
  | false =>
    have h' : ¬ a < s.n := fun q => by rw [show Nat.blt a s.n = true from Nat.ble_eq_true_of_le q] at h; cases h
    exact abs_get_none h'
  | true =>
    have h' : a < s.n := Nat.le_of_ble_eq_true h
    unfold Heap.get?
    rw [absHeap_at, if_pos h']
    dsimp only
    obtain ⟨c, d, dt, sl⟩ := (s.tree.get a).getD default
    cases dt <;> rfl
noncomputable def runQ (p : Program) (w : World) (N : Nat) (s₀ : Shared) : Option SharedT :=
  match nsF s₀.heap mainGlobals && s₀.gens.size == 0 with
  | true => (topQ p w s₀.heap.objs.size (mapF s₀.heap mainGlobals "__annotations__") N (treeS s₀) (topStub p)).bind fun s₁ => match statF (Fast.tw5923862056798008813 p.main.body) s₀.heap s₁.abs.heap && namesF p s₁.abs.heap && gensDone s₁.abs && laidF s₀.heap s₁.abs.heap with
      | true => some s₁
      | false => none
  | false => none
theorem runQ_eq (p : Program) (w : World) (N : Nat) (s₀ : Shared) : treeFrom treeTable p w N s₀ = (runQ p w N s₀).map SharedT.abs := by
  unfold treeFrom runQ
  rw [nsF_eq]
  cases (nsF s₀.heap mainGlobals && s₀.gens.size == 0) with
  | false => rfl
  | true =>
    dsimp only
    rw [topQ_eq, mapF_eq, statF_eq, namesF_eq, laidF_eq, Fast.te5923862056798008813]
    cases topQ p w s₀.heap.objs.size (mapF s₀.heap mainGlobals "__annotations__") N (treeS s₀) (topStub p) with
    | none => rfl
    | some s₁ =>
      show (match statF (Fast.tw5923862056798008813 p.main.body) s₀.heap s₁.abs.heap && namesF p s₁.abs.heap && gensDone s₁.abs && laidF s₀.heap s₁.abs.heap with
        | true => some s₁.abs
        | false => none) = Option.map SharedT.abs (match statF (Fast.tw5923862056798008813 p.main.body) s₀.heap s₁.abs.heap && namesF p s₁.abs.heap && gensDone s₁.abs && laidF s₀.heap s₁.abs.heap with
        | true => some s₁
        | false => none)
      cases (statF (Fast.tw5923862056798008813 p.main.body) s₀.heap s₁.abs.heap && namesF p s₁.abs.heap && gensDone s₁.abs && laidF s₀.heap s₁.abs.heap) <;> rfl
/-- all that is looked at in the end of the top -/
noncomputable def seenQ (p : Program) (keep : List Nat) (loose : List Str) (V : List (Str × WData)) (R : WRecords) (N : Nat) (as : List Addr) (w : World) :=
  ((fencedQ p w N).bind (runQ p w N)).map fun s => (openF (view p keep) loose (Fast.tw5923862056798008813 p.main.body) (fun s => xlF (view p keep) V s && recF R s) true s.abs, as.map (lookT s))
theorem left_treeQ {p p' : Program} (hp : p = p') {keep : List Nat} {loose loose' : List Str} (hl : loose = loose') {V V' : List (Str × WData)} (hv : V = V') {R R' : WRecords} (hR : R = R') {as : List Addr} {Ya : World → List (Option Obj)} {N : Nat}
    (h : ∀ w : World, seenQ p' keep loose' V' R' N as w = some (openGood (view p' keep) loose', Ya w)) :
    LeftO p (view p keep) loose (fun s => xlAt (view p keep) V s && recOk R s) (fun s => as.map s.heap.get?) Ya N true := by
  subst hp hl hv hR
  refine left_tree fun w => ?_
  rw [← h w]
  unfold seenQ
  rw [fencedQ_eq]
  cases fencedQ p w N with
  | none => rfl
  | some s₀ =>
    show (treeFrom treeTable p w N s₀).map _ = (runQ p w N s₀).map _
    rw [runQ_eq, Option.map_map]
    congr 1
    funext s
    show (openSeen (view p keep) loose (importedModules p.main.body) (fun s => xlAt (view p keep) V s && recOk R s) true s.abs, as.map s.abs.heap.get?) = _
    rw [openF_eq, xlF_eq, recF_eq, Fast.te5923862056798008813, show s.abs.heap.get? = lookT s from funext (lookT_eq s)]
end
section
-- part T0

set_option Elab.async false
set_option maxRecDepth 100000
set_option compiler.extract_closed false
set_option maxHeartbeats 0
noncomputable def keepL : List Nat := [0, 1, 2, 4, 5, 6, 7, 8, 9, 10, 11, 12, 13, 14, 15, 16, 17, 18, 19, 20, 21, 22, 23, 24, 25, 27, 28, 29, 30, 31, 32, 33, 34, 36, 37, 38, 39, 40, 41, 43, 45, 46, 47, 49, 50, 51, 52, 53, 54, 55]
noncomputable def looseL : List Str := [Str.ofString "_filemode_table", Str.ofString "UnsupportedOperation", Str.ofString "IOBase", Str.ofString "BufferedIOBase", Str.ofString "TextIOBase", Str.ofString "BytesIO", Str.ofString "StringIO", Str.ofString "shlex", Str.ofString "_name_disallowed_re", Str.ofString "_value_disallowed_re"]
noncomputable def pairW (n : Int) (c : Nat) : WData := .tuple [.int n, .str ⟨#[c]⟩]
noncomputable def readV : List (Str × WData) := [(Str.ofString "_filemode_table", .tuple [.tuple [pairW 40960 108, pairW 49152 115, pairW 32768 45, pairW 24576 98, pairW 16384 100, pairW 8192 99, pairW 4096 112],
  .tuple [pairW 256 114], .tuple [pairW 128 119], .tuple [pairW 2112 115, pairW 2048 83, pairW 64 120], .tuple [pairW 32 114], .tuple [pairW 16 119], .tuple [pairW 1032 115, pairW 1024 83, pairW 8 120], .tuple [pairW 4 114], .tuple [pairW 2 119], .tuple [pairW 513 116, pairW 512 84, pairW 1 120]])]
noncomputable def looseC : List Str := [⟨#[95, 102, 105, 108, 101, 109, 111, 100, 101, 95, 116, 97, 98, 108, 101]⟩, ⟨#[85, 110, 115, 117, 112, 112, 111, 114, 116, 101, 100, 79, 112, 101, 114, 97, 116, 105, 111, 110]⟩, ⟨#[73, 79, 66, 97, 115, 101]⟩, ⟨#[66, 117, 102, 102, 101, 114, 101, 100, 73, 79, 66, 97, 115, 101]⟩, ⟨#[84, 101, 120, 116, 73, 79, 66, 97, 115, 101]⟩, ⟨#[66, 121, 116, 101, 115, 73, 79]⟩, ⟨#[83, 116, 114, 105, 110, 103, 73, 79]⟩, ⟨#[115, 104, 108, 101, 120]⟩, ⟨#[95, 110, 97, 109, 101, 95, 100, 105, 115, 97, 108, 108, 111, 119, 101, 100, 95, 114, 101]⟩, ⟨#[95, 118, 97, 108, 117, 101, 95, 100, 105, 115, 97, 108, 108, 111, 119, 101, 100, 95, 114, 101]⟩]
noncomputable def readC : List (Str × WData) := [(⟨#[95, 102, 105, 108, 101, 109, 111, 100, 101, 95, 116, 97, 98, 108, 101]⟩, .tuple [.tuple [pairW 40960 108, pairW 49152 115, pairW 32768 45, pairW 24576 98, pairW 16384 100, pairW 8192 99, pairW 4096 112],
  .tuple [pairW 256 114], .tuple [pairW 128 119], .tuple [pairW 2112 115, pairW 2048 83, pairW 64 120], .tuple [pairW 32 114], .tuple [pairW 16 119], .tuple [pairW 1032 115, pairW 1024 83, pairW 8 120], .tuple [pairW 4 114], .tuple [pairW 2 119], .tuple [pairW 513 116, pairW 512 84, pairW 1 120]])]
theorem looseC_eq : looseL = looseC := by decide +kernel
theorem readC_eq : readV = readC := congrArg (fun x => [(x, _)]) (by decide +kernel : Str.ofString "_filemode_table" = ⟨#[95, 102, 105, 108, 101, 109, 111, 100, 101, 95, 116, 97, 98, 108, 101]⟩)
theorem look2 {a b : Bool} (x : a = true) (y : b = true) : and a b = true := look_both x y
theorem law_said : OpenLaw.wellSaid PySem.Challenge.rw_op0282_01 = true := by
  rw [Fast.te9446332074065402090]
  delta Fast.tw9446332074065402090 Fast.tw17960256430627541270 Fast.tw2436336058641802641 Fast.tw12908688711261696721
  repeat' (with_reducible refine look2 ?_ ?_)
  all_goals decide +kernel
local macro_rules | `(tactic| o_law) => `(tactic| refine holds_law law_said fun said => ?_)
noncomputable def hdK.view_39 : Program := view (OpenRow.toRowW PySem.Challenge.rw_op0282_01.row).prog keepL
noncomputable abbrev progL : Program := (OpenRow.toRowW PySem.Challenge.rw_op0282_01.row).prog
noncomputable abbrev recsL : WRecords := RowW.records (OpenRow.toRowW PySem.Challenge.rw_op0282_01.row)
noncomputable abbrev XtL (s : Shared) : Bool := xlAt hdK.view_39 readV s && recOk recsL s
theorem xl_ok (s : Shared) (e : XtL s = true) : XL hdK.view_39 readV (s.heap.nsMap mainGlobals) s.heap := xl_of s (Bool.and_eq_true_iff.mp e).1
theorem rec_ok (s : Shared) (e : XtL s = true) : RecFacts recsL s.heap := recFacts_of (Bool.and_eq_true_iff.mp e).2
theorem left_ok {as : List Addr} {Ya : World → List (Option Obj)} (h : ∀ w : World, seenQ progL keepL looseC readC recsL 12496 as w = some (openGood (view progL keepL) looseC, Ya w)) :
    LeftO progL hdK.view_39 looseL XtL (fun s => as.map s.heap.get?) Ya 12496 true := left_treeQ rfl looseC_eq readC_eq rfl h
theorem open_ok : (chainsOk hdK.view_39 && opensWell progL && (frees (OpenRow.toRowW PySem.Challenge.rw_op0282_01.row) && (OpenRow.toRowW PySem.Challenge.rw_op0282_01.row).within.isEmpty)) = true := by decide +kernel
theorem bare_ok : progL.bare := ⟨rfl, rfl, rfl, rfl, rfl, by decide +kernel⟩
local macro_rules | `(tactic| o_head $H) => do
  let hw := Lean.mkIdent `hw
  let hc := Lean.mkIdent `hc
  `(tactic| (refine holds_open (q := hdK.view_39) (Yf := Hook.obs $H) (Ya := Hook.val $H) (YP := Hook.says $H) (left_ok (fun w => by kernel_rfl)) (Hook.of $H) (Hook.keeps $H) xl_ok XL.keeps (by rfl) (by rfl) (by rfl) rec_ok (by rfl) (by assumption) open_ok bare_ok ?$hw ?$hc))
open_top hdK for PySem.Challenge.rw_op0282_01
end
section
-- part P0

theorem slice_ab {x : Str} {i j : Int} (h : 0 ≤ i ∧ i ≤ j ∧ j ≤ x.cps.toList.length) : Txt.slice x (some i) (some j) = ⟨((x.cps.toList.drop i.toNat).take (j - i).toNat).toArray⟩ := eq_of_beq (slice_closes h)
theorem sl_one {x : Str} {p : Int} {r : List Nat} {c : Nat} (h0 : 0 ≤ p) (hr : x.cps.toList.drop p.toNat = c :: r) : Txt.slice x (some p) (some (p + 1)) = ⟨#[c]⟩ := by
  have hl : p.toNat < x.cps.toList.length := by
    rcases Nat.lt_or_ge p.toNat x.cps.toList.length with h | h
    · exact h
    · rw [List.drop_eq_nil_of_le h] at hr; cases hr
  rw [slice_ab ⟨h0, by omega, by omega⟩, hr]
  have : (p + 1 - p).toNat = 1 := by omega
  rw [this]; rfl
theorem str_empty : Str.ofString "" = ⟨#[]⟩ := by decide +kernel
end
section
-- part C0

set_option Elab.async false
set_option maxRecDepth 100000
/-- a contract: a call of the def at f with the arguments vs, upon a ledger that holds just small -/
noncomputable def Claim (w : World) (LO : List Str) (mean : ExcName → Option Value) (mg mb : Str → Option Value) (D U : Nat) (f : Addr) (vs : List Value) (kw : List (Str × Value)) (small : List (Addr × Obj)) (Post : Value → List (Addr × Obj) → Prop) : Prop :=
  ∀ (dp un : Nat) (gd : Option (List Code)) (cn : Str) (cs : Scope) (a : Addr) (ccd : Value) (cl : List (Str × Addr)) (outer : List Env) (A₀ : Around) (base h₀ : Heap) (L : Addr) (m : Str → Option Value) (s : Shared) (Q E : Value → Shared → Prop),
    Below A₀ base outer h₀ → Fr h₀ L s.heap m → (hdK.heap_1 w.params).In h₀ → News h₀ L s.heap small → Top hdK.view_39 LO mean mg mb h₀ → cs.kind = .function →
    dp + D < recursionLimit → un + U < cLine →
    (∀ v small' h' tk, Post v small' → Fr h₀ L h' m → News h₀ L h' small' → GSub s.heap h' (small.map (·.1)) → Q v { s with heap := h', toks := tk }) →
    wpAny (model PySem.Challenge.rw_op0282_01.row.prog w) (ktrTop dp un gd cn cs L a ccd cl outer) (call (.ref f) vs kw) Q E s
theorem gsub_keep {H g h' : Heap} {L' : Addr} {m' : Str → Option Value} {adr : List Addr} (G : GSub H g adr) (F : Fr g L' h' m') : GSub H h' adr := fun b o e n => F.keep b o (G b o e n)
end
local macro_rules | `(tactic| k_room) => `(tactic| k_extra "k_room")
local macro_rules | `(tactic| cell_enter) => `(tactic| k_extra "cell_enter")
local macro_rules | `(tactic| walk_at $s:str) => `(tactic| k_extra $s)
section
-- part F3

set_option Elab.async false
set_option maxRecDepth 100000
set_option maxHeartbeats 8000000
set_option pp.maxSteps 30000
set_option pp.deepTerms false
theorem fresh_F3 : True := by
  w_top off
  k_with_none
  k_with "small" => first | exact Int.toNat_natCast _ | with_reducible exact Nat.mod_lt _ (by decide) | with_reducible exact fm2_lt _ | with_reducible exact fm2_ge _ | with_reducible exact fm4_lt _ _ | with_reducible exact fm4_ge _ _ | with_reducible exact em_lt _ | with_reducible exact em_gt _ | with_reducible exact nat_gt _ | with_reducible exact Int.natCast_nonneg _ | with_reducible exact nat_gt1 _ | with_reducible exact room2 (by assumption) (by decide) | with_reducible exact room1 (by assumption) (by decide) | with_reducible exact room3 (by assumption) (by decide) | with_reducible exact room4 (by assumption) (by decide) | with_reducible exact room0 (by assumption) | with_reducible exact le_le (by assumption) (by decide) | with_reducible exact le_eq (by assumption) (by decide) | with_reducible exact lt_le (by assumption) (by decide) | with_reducible exact sub_one (by assumption) | with_reducible exact sub_j (by assumption) | with_reducible exact sub_dec (by assumption) | with_reducible exact toNat_pred _ | with_reducible exact nat_ge _
  k_with "ne" => first | with_reducible exact Apart.l (by assumption) | with_reducible exact Apart.r (by assumption) | with_reducible exact gt1 (by assumption) | with_reducible exact lt1 (by assumption) | with_reducible exact gt2 (by assumption) | with_reducible exact lt2 (by assumption) | with_reducible exact gl2 (by assumption) | with_reducible exact ll2 (by assumption) | with_reducible exact gt3 (by assumption) | with_reducible exact lt3 (by assumption) | with_reducible exact gl3 (by assumption) | with_reducible exact ll3 (by assumption) | with_reducible exact gt4 (by assumption) | with_reducible exact gl4 (by assumption) | with_reducible exact ll4 (by assumption) | with_reducible exact gl5 (by assumption) | with_reducible exact gl6 (by assumption) | with_reducible exact gl7 (by assumption) | with_reducible exact gl8 (by assumption) | with_reducible exact gl9 (by assumption) | with_reducible exact gl10 (by assumption) | with_reducible exact gl11 (by assumption)
  k_with "k_room" => ((try simp only [depth_under_make, depth_under_kw, depth_in1, depth_deeper, depth_caller]); first | decide | ktr_room)
  k_with "cell_enter" => (refine' code_defG (by k_asm) (by k_asm) (by k_asm) (by k_asm) (by k_asm) rfl rfl (by assumption) (by k_is) (by k_is) (by ktr_room) (by first | exact BindsTo.of_eq rfl | exact binds_K (by k_in) rfl (by k_is) rfl rfl rfl) (by exact locs rfl) ?_ (by exact rfl) (by exact rfl) (by exact rfl) (by decide); k_whole; intro g' L' h' FG' F' N' B' X' T' GS'; (try dsimp only); (try k_lift B'); (try k_fold))
  k_with "exec If" => (k_here; dsimp only)
  k_with "execs cons" => (k_here; dsimp only)
  k_with "isTrue" => (k_here; dsimp only)
  k_with "exec Assign" => (k_here; dsimp only)
  k_with "exec Expr" => (k_here; dsimp only)
  k_with "eval Attribute" => (k_here; dsimp only)
  k_with "execs nil" => (k_here; dsimp only)
  k_with "execs cons" => (k_here; (try dsimp only); (with_reducible refine toks_gen ?_); intro tk')
  k_with "execs nil" => (k_here; (try dsimp only); (with_reducible refine toks_gen ?_); intro tk')
  trivial

noncomputable abbrev sioD (h1 h2 h3 : Int) (t1 t2 t3 t4 t5 t6 : Tok) (x : Str) (p : Int) : List DictEntry :=
  [⟨h1, .str (Str.ofString "_StringIO__newline") t1, .str (Str.ofString "\n") t4⟩, ⟨h2, .str (Str.ofString "_StringIO__buf") t2, .str x t5⟩, ⟨h3, .str (Str.ofString "_StringIO__pos") t3, .int p t6⟩]
noncomputable def ReadPost (x d : Nat) (h1 h2 h3 : Int) (t1 t2 t3 t4 t5 : Tok) (txt : Str) (p : Int) (r : List Nat) (v : Value) (small' : List (Addr × Obj)) : Prop :=
  ∃ ta tb q, v = .str ⟨(r.take 1).toArray⟩ ta ∧ q = p + ((r.take 1).length : Nat) ∧ small' = [(x, instObj 639 d), (d, dictOf (sioD h1 h2 h3 t1 t2 t3 t4 t5 tb txt q) 3)]
theorem ReadPost.mk {x d : Nat} {h1 h2 h3 : Int} {t1 t2 t3 t4 t5 ta tb : Tok} {txt X : Str} {p q : Int} {r : List Nat} (e : X = ⟨(r.take 1).toArray⟩ ∧ q = p + ((r.take 1).length : Nat)) :
  ReadPost x d h1 h2 h3 t1 t2 t3 t4 t5 txt p r (.str X ta) [(x, instObj 639 d), (d, dictOf (sioD h1 h2 h3 t1 t2 t3 t4 t5 tb txt q) 3)] := ⟨ta, tb, q, by rw [e.1], e.2, rfl⟩
theorem len_toList (x : Str) : x.length = x.cps.toList.length := by simp [Str.length]
theorem read_end0 {txt : Str} {p : Int} {r : List Nat} (h0 : 0 ≤ p) (hr : txt.cps.toList.drop p.toNat = r) (h : (txt.length : Int) ≤ p) : Str.ofString "" = ⟨(r.take 1).toArray⟩ ∧ p = p + ((r.take 1).length : Nat) := by
  have e := len_toList txt
  have : r = [] := by
    rw [← hr]
    exact List.drop_eq_nil_of_le (by omega)
  subst this
  exact ⟨str_empty, by simp⟩
theorem read_end1 {txt : Str} {p q : Int} {r : List Nat} (h0 : 0 ≤ p) (hr : txt.cps.toList.drop p.toNat = r) (h : ¬ (txt.length : Int) ≤ p) (hq : q = p + 1) : Txt.slice txt (some p) (some q) = ⟨(r.take 1).toArray⟩ ∧ q = p + ((r.take 1).length : Nat) := by
  subst hq
  cases r with
  | nil =>
    exfalso
    have e := len_toList txt
    have z := congrArg List.length hr
    rw [List.length_drop, List.length_nil] at z
    omega
  | cons c r => exact ⟨sl_one h0 hr, by simp⟩
theorem now_c_read : True := by
  k_with "now" =>
    unfold Claim
    k_fill
    intro dp un gd cn cs a ccd cl outer A₀ base h₀ L m s Q E hB hF hX hN hT hcs hdp hun hret
    refine wpAny_call ?_
    k_dflt cell_enter
    k_steps
    all_goals (refine hret _ _ _ _ (ReadPost.mk ?_) (by assumption) (by assumption) (gsub_keep (by assumption) (by assumption)))
    · exact read_end0 hlo hr (by assumption)
    · exact read_end1 hlo hr (by assumption) rfl
    · exact read_end1 hlo hr (by assumption) (by omega)
  trivial
theorem c_read (w : World) (LO : List Str) (mean : ExcName → Option Value) (mg mb : Str → Option Value) (x d : Nat) (h1 h2 h3 : Int) (t1 t2 t3 t4 t5 t6 t : Tok) (txt : Str) (p : Int) (r : List Nat)
   (hlo : 0 ≤ p) (hr : txt.cps.toList.drop p.toNat = r) (hlen : txt.length ≤ 9) (hdx : d < x) :
   Claim w LO mean mg mb 4 40 585 [.ref x, .int 1 t] [] [(x, instObj 639 d), (d, dictOf [⟨h1, .str (Str.ofString "_StringIO__newline") t1, .str (Str.ofString "\n") t4⟩, ⟨h2, .str (Str.ofString "_StringIO__buf") t2, .str txt t5⟩, ⟨h3, .str (Str.ofString "_StringIO__pos") t3, .int p t6⟩] 3)]
     (ReadPost x d h1 h2 h3 t1 t2 t3 t4 t5 txt p r) := (by exact whole_of _ : Whole by_lay)
end
section
-- part Q0

set_option Elab.async false
set_option maxRecDepth 100000
noncomputable abbrev DQ : String := "collections.deque"
noncomputable abbrev dqObj (st : Int) (xs : List Value) : Obj := { cls := .type "collections.deque", data := .fields (#[.none, rawInt st] ++ xs.toArray) }
theorem noBool_dq : typeLookup (.type DQ) "__bool__" = pure none := by rw [typeLookup_type, builtinLookup_eq_fast]; kernel_rfl
theorem slot_dq_len : Slot DQ "__len__" "collections.deque.__len__" :=
  .of (owner := DQ) (n := "__len__") (by rw [typeLookup_type, builtinLookup_eq_fast]; kernel_rfl) (by decide +kernel) (by decide +kernel) (by decide +kernel)
    (by first | exact .inl (by decide +kernel) | exact .inr (by decide +kernel)) (by rw [isSubtype_type]; kernel_rfl)
theorem slot_dq_pop : Slot DQ "pop" "collections.deque.pop" :=
  .of (owner := DQ) (n := "pop") (by rw [typeLookup_type, builtinLookup_eq_fast]; kernel_rfl) (by decide +kernel) (by decide +kernel) (by decide +kernel)
    (by first | exact .inl (by decide +kernel) | exact .inr (by decide +kernel)) (by rw [isSubtype_type]; kernel_rfl)
theorem slot_dq_append : Slot DQ "append" "collections.deque.append" :=
  .of (owner := DQ) (n := "append") (by rw [typeLookup_type, builtinLookup_eq_fast]; kernel_rfl) (by decide +kernel) (by decide +kernel) (by decide +kernel)
    (by first | exact .inl (by decide +kernel) | exact .inr (by decide +kernel)) (by rw [isSubtype_type]; kernel_rfl)
theorem type_dq_pop : typeOf (.builtin "collections.deque.pop") = pure (.type "method_descriptor") := by show builtinType _ = _; rw [builtinType_eq_fast]; kernel_rfl
theorem type_dq_append : typeOf (.builtin "collections.deque.append") = pure (.type "method_descriptor") := by show builtinType _ = _; rw [builtinType_eq_fast]; kernel_rfl
theorem entry_dq_len : entryFor table "collections.deque.__len__" = some Builtin.«collections.deque.__len__» := entryFor_of_tree (by kernel_rfl)
theorem entry_dq_pop : entryFor table "collections.deque.pop" = some Builtin.«collections.deque.pop» := entryFor_of_tree (by kernel_rfl)
theorem entry_dq_append : entryFor table "collections.deque.append" = some Builtin.«collections.deque.append» := entryFor_of_tree (by kernel_rfl)
theorem plainAttrs_dq : PlainAttrs DQ :=
  ⟨⟨"collections.deque.__getattribute__", by rw [typeLookup_type, builtinLookup_eq_fast]; kernel_rfl, by decide +kernel⟩, by rw [typeLookup_type, builtinLookup_eq_fast]; kernel_rfl⟩
theorem args_dq_len (a : Value) : argsOk "collections.deque.__len__" ⟨[a], []⟩ := by
  unfold argsOk; kernel_rfl
theorem args_dq_pop (a : Value) : argsOk "collections.deque.pop" ⟨[a], []⟩ := by
  unfold argsOk; kernel_rfl
theorem args_dq_append (a b : Value) : argsOk "collections.deque.append" ⟨[a, b], []⟩ := by
  unfold argsOk; kernel_rfl
section
variable {prog : Program} {w : World} {A : Around} {E : Value → Shared → Prop} {s : Shared} {h₀ : Heap} {L : Addr} {m : Str → Option Value} {news news' : List (Addr × Obj)} {q : Addr} {st : Int} {xs : List Value} {v : Value}
theorem dq_type (ho : s.heap.get? q = some (dqObj st xs)) : s.TypeIs (.ref q) DQ := ⟨_, ho, rfl⟩
theorem dq_len_body {Q : Value → Shared → Prop} (ho : s.heap.get? q = some (dqObj st xs)) (hl : xs.length < 9)
    (h : Q (.int xs.length (s.toks + 1)) { s with toks := s.toks + 1 + 1 }) : wpAny (model prog w) A (Builtin.«len» ⟨[.ref q], []⟩) (fun fin s' => ∃ r, fin = .done (.ret r) ∧ Q r s') E s := by
  unfold Builtin.«len»
  refine wpAny_bind (m := oneArg "len" _) (wpAny_pure ?_)
  refine wpAny_bind (m := callSpecial? (.ref q) (Str.ofString "__len__")) (wpAny_callSpecial?_slot (name := Str.ofString "__len__") (dq_type ho) slot_dq_len
    (wpAny_call_entry slot_dq_len (dq_type ho) entry_dq_len ?_ (args_dq_len _)))
  show wpAny _ _ (do retInt (← Builtin.Deque.size (.ref q))) _ _ s
  unfold Builtin.Deque.size
  refine wpAny_bind (wpAny_bind (wpAny_fieldsOf ho rfl ?_))
  have e : ((#[Value.none, rawInt st] ++ xs.toArray).size - 2 : Nat) = xs.length := by simp
  rw [e]
  refine wpAny_pure (wpAny_bind (wpAny_mkInt (wpAny_pure ⟨_, rfl, ?_⟩)))
  refine wpAny_bind (wpAny_holding (wpAny_pure ?_))
  refine wpAny_bind (wpAny_letGo ?_)
  show wpAny _ _ (if ((xs.length : Nat) : Int) < 0 then _ else _) _ _ _
  rw [if_neg (by omega)]
  show wpAny _ _ (if ((xs.length : Nat) : Int) ≥ 2 ^ 63 then _ else _) _ _ _
  rw [if_neg (by omega)]
  exact wpAny_bind (wpAny_mkInt (wpAny_pure ⟨_, rfl, h⟩))
theorem dq_truthy {Q : Bool → Shared → Prop} (ho : s.heap.get? q = some (dqObj st xs)) (hl : xs.length < 9)
    (h : Q (!xs.isEmpty) { s with toks := s.toks + 1 + 1 }) : wpAny (model prog w) A (truthy (.ref q)) Q E s := by
  have hne : ((xs.length : Int) != 0) = !xs.isEmpty := by cases xs <;> simp <;> omega
  have key : wpAny (model prog w) A (runValue (.builtin "len" ⟨[.ref q], []⟩)) (fun r s' => r = .int xs.length (s.toks + 1) ∧ Q (!xs.isEmpty) s') E s := by
    refine wpAny_runValue (codeAny_builtin entry_len ?_)
    rw [Around.under_plainId plain_len _]
    exact wpAny_mono (dq_len_body (Q := fun r s' => r = .int xs.length (s.toks + 1) ∧ Q (!xs.isEmpty) s') ho hl ⟨rfl, h⟩)
      (fun fin s' h' => by obtain ⟨r, rfl, hq⟩ := h'; exact hq) fun _ _ e => e
  unfold truthy
  first
    | refine wpAny_bind (wpAny_callSpecial?_none (name := Str.ofString "__bool__") (dq_type ho) noBool_dq ?_)
    | refine wpAny_bind (wpAny_pure (wpAny_bind (wpAny_callSpecial?_none (name := Str.ofString "__bool__") (dq_type ho) noBool_dq ?_)))
  first
    | refine wpAny_bind (wpAny_specialOf (name := Str.ofString "__len__") (dq_type ho) slot_dq_len.lookup ?_)
    | refine wpAny_bind (wpAny_pure (wpAny_bind (wpAny_specialOf (name := Str.ofString "__len__") (dq_type ho) slot_dq_len.lookup ?_)))
  first
    | exact wpAny_bind (wpAny_mono key (fun r s' h' => by obtain ⟨rfl, hq⟩ := h'; exact wpAny_pure (hne ▸ hq)) fun _ _ e => e)
    | exact wpAny_bind (wpAny_pure (wpAny_bind (wpAny_mono key (fun r s' h' => by obtain ⟨rfl, hq⟩ := h'; exact wpAny_pure (hne ▸ hq)) fun _ _ e => e)))
theorem dq_method {name : Str} {id : String} {pl : Sem Bool} {Q : Value × List Value → Shared → Prop} (N : News h₀ L s.heap news) (hm : (q, dqObj st xs) ∈ news) (slot : Slot DQ name id) (hty : typeOf (.builtin id) = pure (.type "method_descriptor"))
    (h : Q (.builtin id, [.ref q]) s) : wpAny (model prog w) A (getMethod (.ref q) name pl) Q E s :=
  getMethod_builtin ⟨_, (N _ hm).1, rfl⟩ plainAttrs_dq slot hty (fun a e => by cases e; exact ⟨_, (N _ hm).1, rfl⟩) h
theorem dq_change {f : Array Value → Array Value} {ys : List Value} {Q : Unit → Shared → Prop} (ho : s.heap.get? q = some (dqObj st xs)) (hf : f xs.toArray = ys.toArray) (hl : ys.length < 9)
    (h : ∀ h', Heap.SameBut q s.heap h' → h'.get? q = some (dqObj (st + 1) ys) → Q () { s with heap := h' }) : wpAny (model prog w) A (Builtin.Deque.change (.ref q) f) Q E s := by
  unfold Builtin.Deque.change
  refine wpAny_bind (m := Builtin.Deque.state (.ref q)) ?_
  unfold Builtin.Deque.state
  refine wpAny_bind (wpAny_field (x := rawInt st) ho rfl (by simp) ?_)
  refine wpAny_pure ?_
  have e : (#[Value.none, rawInt st] ++ xs.toArray).extract 2 (#[Value.none, rawInt st] ++ xs.toArray).size = xs.toArray := by
    apply Array.ext'
    simp
  have ef : Obj.mapFields (fun vs => #[vs.getD 0 .none, rawInt (if true = true then st + 1 else st)] ++ f (vs.extract 2 vs.size)) (dqObj st xs) = dqObj (st + 1) ys := by
    show ({ cls := _, data := .fields _ } : Obj) = _
    dsimp only
    rw [e, hf]
    simp
  refine wpAny_updateFields ho rfl (h _ (Heap.SameBut.update ..) ?_) ?_
  · rw [Heap.get?_update_self _ ho (by rw [ef]; rfl), ef]
  · show (#[_, _] ++ f _).size ≤ _
    rw [e, hf, Array.size_append, List.size_toArray, PySem.sizeLine_eq]
    simp
    omega
theorem dq_pop {Q : Value → Shared → Prop} (F : Fr h₀ L s.heap m) (N : News h₀ L s.heap news) (U : Upd q (dqObj st [v]) (dqObj (st + 1) []) news news')
    (h : ∀ h', Fr h₀ L h' m → News h₀ L h' news' → Q v { s with heap := h' }) : wpAny (model prog w) A (call (.builtin "collections.deque.pop") [.ref q]) Q E s := by
  obtain ⟨pre, post, rfl, rfl, a, b⟩ := U.split
  have z := N (q, dqObj st [v]) (List.mem_append.mpr (.inr (.head _)))
  refine wpAny_call_entry slot_dq_pop (dq_type z.1) entry_dq_pop ?_ (args_dq_pop _)
  unfold Builtin.«collections.deque.pop»
  refine wpAny_bind (m := selfOnly _ _) (wpAny_pure ?_)
  refine wpAny_bind (m := Builtin.Deque.items _) ?_
  unfold Builtin.Deque.items
  refine wpAny_bind (wpAny_fieldsOf z.1 rfl (wpAny_pure ?_))
  refine wpAny_bind (dq_change (ys := []) z.1 (by rfl) (by decide) fun h' hs ho' => wpAny_pure ⟨_, rfl, h h' (F.change hs z.2.1 z.2.2) (news_set N a b hs ho')⟩)
theorem dq_append {Q : Value → Shared → Prop} (F : Fr h₀ L s.heap m) (N : News h₀ L s.heap news) (U : Upd q (dqObj st []) (dqObj (st + 1) [v]) news news')
    (h : ∀ h', Fr h₀ L h' m → News h₀ L h' news' → Q .none { s with heap := h' }) : wpAny (model prog w) A (call (.builtin "collections.deque.append") [.ref q, v]) Q E s := by
  obtain ⟨pre, post, rfl, rfl, a, b⟩ := U.split
  have z := N (q, dqObj st []) (List.mem_append.mpr (.inr (.head _)))
  refine wpAny_call_entry slot_dq_append (dq_type z.1) entry_dq_append ?_ (args_dq_append _ _)
  unfold Builtin.«collections.deque.append»
  refine wpAny_bind (m := selfAndOne _ _) (wpAny_pure ?_)
  refine wpAny_bind (m := Builtin.Deque.pushRight _ _) ?_
  unfold Builtin.Deque.pushRight
  refine wpAny_bind (dq_change (ys := [v]) z.1 (by rfl) (by simp) fun h' hs ho' => ?_)
  refine wpAny_bind (m := Builtin.Deque.maxlen _) ?_
  unfold Builtin.Deque.maxlen
  refine wpAny_bind (wpAny_field (x := .none) ho' rfl (by simp) (wpAny_pure ?_))
  exact wpAny_pure (wpAny_pure ⟨_, rfl, h h' (F.change hs z.2.1 z.2.2) (news_set N a b hs ho')⟩)
end
end
section
-- part L1

set_option Elab.async false
set_option maxRecDepth 100000
/-- a for loop that stands before a turn -/
noncomputable def ForR (prog : Program) (w : World) (A : Around) (E : Value → Shared → Prop) (env : Env) (target : PySem.Expr) (body orelse : List Stmt) (Q : Flow → Shared → Prop) (it : Value) (s : Shared) : Prop :=
  codeAny (model prog w) A (.forLoop target it body orelse env) (fun r s' => match r with | .ok f => Q f s' | .error e => cameBackBy (model prog w) A env E e s') s
noncomputable def ForP (prog : Program) (w : World) (A : Around) (E : Value → Shared → Prop) (env : Env) (target : PySem.Expr) (body orelse : List Stmt) (Q : Flow → Shared → Prop) (it : Value) (f : Flow) (s : Shared) : Prop :=
  match f with
  | .next => ForR prog w A E env target body orelse Q it s
  | .cont => ForR prog w A E env target body orelse Q it s
  | .brk => Q .next s
  | .ret v => Q (.ret v) s
noncomputable def ForN (prog : Program) (w : World) (A : Around) (E : Value → Shared → Prop) (env : Env) (target : PySem.Expr) (body orelse : List Stmt) (Q : Flow → Shared → Prop) (it : Value) (r : Option Value) (s : Shared) : Prop :=
  match r with
  | none => wpAny (model prog w) A (execs orelse env) Q E s
  | some v => wpAny (model prog w) A (letOwnedTupleGo target it v) (fun _ s₁ => wpAny (model prog w) A (assign target env v) (fun _ s₂ => wpAny (model prog w) A (execs body env) (ForP prog w A E env target body orelse Q it) E s₂) E s₁) E s
section
variable {prog : Program} {w : World} {A : Around} {E : Value → Shared → Prop} {s : Shared} {env : Env} {target iter : PySem.Expr} {body orelse : List Stmt} {Q : Flow → Shared → Prop} {it : Value} {pos : Pos}
theorem for_start (h : wpAny (model prog w) A (eval iter env) (fun x s₁ => wpAny (model prog w) A (pyIter x) (fun it s₂ => ForR prog w A E env target body orelse Q it s₂) E s₁) E s)
    (hs : ∀ x, foldedSetIterable iter env x = pure x := by intro _; rfl) : wpAny (model prog w) A (exec (.For target iter body orelse pos) env) Q E s := wpAny_For h hs
theorem for_turn (hE : PassesOwn (model prog w) A env E) (h : wpAny (model prog w) A (pyNext it) (ForN prog w A E env target body orelse Q it) E s) : ForR prog w A E env target body orelse Q it s := by
  refine codeAny_of_tree ?_
  show wpAny _ A ((forTurn target it body orelse env).onRaise (fun x => do noteFrame x env; theTreesLotGoes x)) _ _ s
  refine wpAny_noted ?_
  simp only [forTurn]
  refine wpAny_bind (wpAny_standAt (wpAny_bind (wpAny_onRaise (wpAny_mono h (fun r s₁ h₁ => ?_) fun _ _ h' => wpAny_standAt (hE _ _ h')))))
  cases r with
  | none =>
    have h₂ : wpAny (model prog w) A (execs orelse env) Q E s₁ := h₁
    exact wpAny_pure ⟨rfl, codeAny_block (wpAny_mono h₂ (fun _ _ x => x) hE)⟩
  | some v =>
    have h₂ : wpAny (model prog w) A (letOwnedTupleGo target it v) _ E s₁ := h₁
    refine wpAny_bind (wpAny_mono h₂ (fun _ s₂ h₃ => ?_) hE)
    refine wpAny_bind (wpAny_mono h₃ (fun _ s₃ h₄ => ?_) hE)
    refine wpAny_bind (wpAny_mono h₄ (fun f s₄ h₅ => ?_) hE)
    cases f with
    | next => exact wpAny_pure ⟨rfl, h₅⟩
    | cont => exact wpAny_pure ⟨rfl, h₅⟩
    | brk => exact wpAny_pure h₅
    | ret v => exact wpAny_pure h₅
end
/-- an iterator over the sequence at t -/
noncomputable abbrev itObj (c : String) (t : Addr) (i : Nat) : Obj := { cls := .type c, data := .fields #[.ref t, .int i 0] }
noncomputable abbrev itEnd (c : String) (i : Nat) : Obj := { cls := .type c, data := .fields #[.none, .int i 0] }
section
variable {prog : Program} {w : World} {A : Around} {E : Value → Shared → Prop} {s : Shared} {h₀ : Heap} {L : Addr} {m : Str → Option Value} {news news' : List (Addr × Obj)}
theorem upd_fields {I : Addr} {o o' : Obj} (F : Fr h₀ L s.heap m) (N : News h₀ L s.heap news) (U : Upd I o o' news news') {h' : Heap} (hs : Heap.SameBut I s.heap h') (ho : h'.get? I = some o') : Fr h₀ L h' m ∧ News h₀ L h' news' := by
  obtain ⟨pre, post, rfl, rfl, a, b⟩ := U.split
  have z := N (I, o) (List.mem_append.mpr (.inr (.head _)))
  exact ⟨F.change hs z.2.1 z.2.2, news_set N a b hs ho⟩
theorem upd_by {I : Addr} {o o' : Obj} (F : Fr h₀ L s.heap m) (N : News h₀ L s.heap news) (U : Upd I o o' news news') (f : Obj → Obj) (hf : f o = o') (hn : o'.isFreed = false) : Fr h₀ L (s.heap.update I f) m ∧ News h₀ L (s.heap.update I f) news' := by
  obtain ⟨pre, post, rfl, rfl, a, b⟩ := U.split
  have z := N (I, o) (List.mem_append.mpr (.inr (.head _)))
  have hs : Heap.SameBut I s.heap (s.heap.update I f) := Heap.SameBut.update ..
  have ho : (s.heap.update I f).get? I = some o' := by rw [Heap.get?_update_self _ z.1 (by rw [hf]; exact hn), hf]
  exact ⟨F.change hs z.2.1 z.2.2, news_set N a b hs ho⟩
theorem upd_get {I : Addr} {o o' : Obj} (N : News h₀ L s.heap news) (U : Upd I o o' news news') : s.heap.get? I = some o := by
  obtain ⟨pre, post, rfl, rfl, a, b⟩ := U.split
  exact (N (I, o) (List.mem_append.mpr (.inr (.head _)))).1
theorem fresh_it {o : Obj} {Q : Prop} (F : Fr h₀ L s.heap m) (N : News h₀ L s.heap news) (hf : o.isFreed = false) (h : (∀ p ∈ news, p.1 < s.heap.objs.size) → Fr h₀ L (s.heap.push o) m → News h₀ L (s.heap.push o) ((s.heap.objs.size, o) :: news) → Q) : Q :=
  h (fun p hp => Heap.lt_size (N p hp).1) (F.push o) (N.push F o hf)
theorem it_tup {t : Addr} {vs : Array Value} {Q : Value → Shared → Prop} (F : Fr h₀ L s.heap m) (N : News h₀ L s.heap news) (ht : s.heap.IsTuple t vs)
    (h : ∀ I h', (∀ p ∈ news, p.1 < I) → Fr h₀ L h' m → News h₀ L h' ((I, itObj "tuple_iterator" t 0) :: news) → Q (.ref I) { s with heap := h' }) : wpAny (model prog w) A (pyIter (.ref t)) Q E s :=
  wpAny_pyIter_tuple ht (h _ _ (fun p hp => Heap.lt_size (N p hp).1) (F.push _) (N.push F _))
theorem it_list {t : Addr} {vs : Array Value} {Q : Value → Shared → Prop} (F : Fr h₀ L s.heap m) (N : News h₀ L s.heap news) (ht : s.heap.IsList t vs)
    (h : ∀ I h', (∀ p ∈ news, p.1 < I) → Fr h₀ L h' m → News h₀ L h' ((I, itObj "list_iterator" t 0) :: news) → Q (.ref I) { s with heap := h' }) : wpAny (model prog w) A (pyIter (.ref t)) Q E s :=
  wpAny_pyIter_list ht (h _ _ (fun p hp => Heap.lt_size (N p hp).1) (F.push _) (N.push F _))
theorem letGo_it {c : String} {t I : Addr} {i : Nat} {target : PySem.Expr} {v : Value} {Q : Unit → Shared → Prop} (N : News h₀ L s.heap news) (hm : (I, itObj c t i) ∈ news) (hc : c = "tuple_iterator" ∨ c = "list_iterator") (h : Q () s) :
    wpAny (model prog w) A (letOwnedTupleGo target (.ref I) v) Q E s := by
  rcases hc with rfl | rfl
  · exact letGo_tupleiter (i := i) (t := t) ⟨_, (N _ hm).1, rfl, rfl⟩ h
  · exact letGo_listiter (i := i) (t := t) ⟨_, (N _ hm).1, rfl, rfl⟩ h
theorem news_grow {h : Heap} (N : News h₀ L h news) (o : Obj) : News h₀ L (h.push o) news := fun p hp => ⟨Heap.get?_push_of_some _ (N p hp).1, (N p hp).2⟩
theorem nx_tup {t I : Addr} {i : Nat} {vs : Array Value} {x : Value} {Q : Option Value → Shared → Prop} (F : Fr h₀ L s.heap m) (N : News h₀ L s.heap news) (ht : s.heap.IsTuple t vs) (hx : vs[i]? = some x)
    (U : Upd I (itObj "tuple_iterator" t i) (itObj "tuple_iterator" t (i + 1)) news news') (h : ∀ h', Fr h₀ L h' m → News h₀ L h' news' → Q (some x) { s with heap := h' }) : wpAny (model prog w) A (pyNext (.ref I)) Q E s := by
  have ho := upd_get N U
  obtain ⟨ol, hol, _, nl, hdl⟩ := ht
  have hT : s.TypeIs (.ref I) "tuple_iterator" := ⟨_, ho, rfl⟩
  unfold pyNext
  refine wpAny_bind (wpAny_attempt (wpAny_callSpecial?_slot (name := Str.ofString "__next__") hT PySem.F.slot_tuple_iterator_next
    (wpAny_call_entry PySem.F.slot_tuple_iterator_next hT PySem.F.entry_tuple_iterator_next ?_ (PySem.F.args_tuple_iterator_next_1 _))))
  show wpAny _ _ (field (.ref I) 0 >>= _) _ _ s
  refine wpAny_bind (wpAny_field ho rfl (x := .ref t) rfl ?_)
  show wpAny _ _ (if (Value.ref t == Value.none) = true then _ else _) _ _ s
  rw [if_neg (show ¬ ((Value.ref t == Value.none) = true) from Bool.false_ne_true)]
  show wpAny _ _ (field (.ref I) 1 >>= _) _ _ s
  refine wpAny_bind (wpAny_field ho rfl (x := .int i 0) rfl ?_)
  show wpAny _ _ (seqItems? (.ref t) >>= _) _ _ s
  refine wpAny_bind (wpAny_seqItems hol hdl ?_)
  simp only [Int.toNat_natCast, hx]
  refine wpAny_bind (wpAny_setField ho rfl (by simp) (wpAny_pure ⟨x, rfl, wpAny_pure ?_⟩))
  exact h _ (upd_by F N U _ (by first | rfl | simp [rawInt, Obj.mapFields]) rfl).1 (upd_by F N U _ (by first | rfl | simp [rawInt, Obj.mapFields]) rfl).2
theorem nx_tup_end {t I : Addr} {i : Nat} {vs : Array Value} {Q : Option Value → Shared → Prop} (hh : A.handled = none) (F : Fr h₀ L s.heap m) (N : News h₀ L s.heap news) (ht : s.heap.IsTuple t vs) (hx : vs[i]? = none)
    (U : Upd I (itObj "tuple_iterator" t i) (itEnd "tuple_iterator" i) news news') (h : ∀ h', Fr h₀ L h' m → News h₀ L h' news' → Q none { s with heap := h' }) : wpAny (model prog w) A (pyNext (.ref I)) Q E s := by
  have ho := upd_get N U
  obtain ⟨ol, hol, _, nl, hdl⟩ := ht
  have hT : s.TypeIs (.ref I) "tuple_iterator" := ⟨_, ho, rfl⟩
  unfold pyNext
  refine wpAny_bind (wpAny_attempt (wpAny_callSpecial?_slot (name := Str.ofString "__next__") hT PySem.F.slot_tuple_iterator_next
    (wpAny_call_entry PySem.F.slot_tuple_iterator_next hT PySem.F.entry_tuple_iterator_next ?_ (PySem.F.args_tuple_iterator_next_1 _))))
  show wpAny _ _ (field (.ref I) 0 >>= _) _ _ s
  refine wpAny_bind (wpAny_field ho rfl (x := .ref t) rfl ?_)
  show wpAny _ _ (if (Value.ref t == Value.none) = true then _ else _) _ _ s
  rw [if_neg (show ¬ ((Value.ref t == Value.none) = true) from Bool.false_ne_true)]
  show wpAny _ _ (field (.ref I) 1 >>= _) _ _ s
  refine wpAny_bind (wpAny_field ho rfl (x := .int i 0) rfl ?_)
  show wpAny _ _ (seqItems? (.ref t) >>= _) _ _ s
  refine wpAny_bind (wpAny_seqItems hol hdl ?_)
  simp only [Int.toNat_natCast, hx]
  refine wpAny_bind (wpAny_rule (wpAny_bind (wpAny_setField ho rfl (by simp) ?_)))
  show wpAny _ _ (newExc (.type "StopIteration") [] >>= _) _ _ _
  refine wpAny_bind ?_
  simp only [newExc, newTuple]
  refine wpAny_bind (wpAny_newObj_type ?_ (by size_fits))
  refine wpAny_bind (m := firstArgMember _ _) (wpAny_of_eq (a := Value.none) (by first | rfl | (simp only [firstArgMember]; rfl)) ?_)
  refine wpAny_newObj_type ?_ (by size_fits)
  simp only [raiseNew]
  refine wpAny_bind (wpAny_handled ?_)
  first | rw [show A.in1.handled = none from hh] | rw [hh]
  refine wpAny_bind (wpAny_pure (wpAny_throw ?_))
  refine wpAny_bind (wpAny_isInstance (T := "StopIteration") (b := true) ⟨_, Heap.get?_push_size _ rfl, rfl⟩ isSubtype_stop ?_)
  exact wpAny_pure (h _ (((upd_by F N U _ (by first | rfl | simp [rawInt, Obj.mapFields]) rfl).1.push _).push _) (news_grow (news_grow (upd_by F N U _ (by first | rfl | simp [rawInt, Obj.mapFields]) rfl).2 _) _))
theorem nx_list {t I : Addr} {i : Nat} {vs : Array Value} {x : Value} {Q : Option Value → Shared → Prop} (F : Fr h₀ L s.heap m) (N : News h₀ L s.heap news) (ht : s.heap.IsList t vs) (hx : vs[i]? = some x)
    (U : Upd I (itObj "list_iterator" t i) (itObj "list_iterator" t (i + 1)) news news') (h : ∀ h', Fr h₀ L h' m → News h₀ L h' news' → Q (some x) { s with heap := h' }) : wpAny (model prog w) A (pyNext (.ref I)) Q E s := by
  have ho := upd_get N U
  obtain ⟨ol, hol, _, nl, hdl⟩ := ht
  have hT : s.TypeIs (.ref I) "list_iterator" := ⟨_, ho, rfl⟩
  unfold pyNext
  refine wpAny_bind (wpAny_attempt (wpAny_callSpecial?_slot (name := Str.ofString "__next__") hT slot_listiter_next
    (wpAny_call_entry slot_listiter_next hT entry_listiter_next ?_ (args_listiter_next _))))
  show wpAny _ _ (field (.ref I) 0 >>= _) _ _ s
  refine wpAny_bind (wpAny_field ho rfl (x := .ref t) rfl ?_)
  show wpAny _ _ (if (Value.ref t == Value.none) = true then _ else _) _ _ s
  rw [if_neg (show ¬ ((Value.ref t == Value.none) = true) from Bool.false_ne_true)]
  show wpAny _ _ (field (.ref I) 1 >>= _) _ _ s
  refine wpAny_bind (wpAny_field ho rfl (x := .int i 0) rfl ?_)
  show wpAny _ _ (seqItems? (.ref t) >>= _) _ _ s
  refine wpAny_bind (wpAny_seqItems hol hdl ?_)
  simp only [Int.toNat_natCast, hx]
  refine wpAny_bind (wpAny_setField ho rfl (by simp) (wpAny_pure ⟨x, rfl, wpAny_pure ?_⟩))
  exact h _ (upd_by F N U _ (by first | rfl | simp [rawInt, Obj.mapFields]) rfl).1 (upd_by F N U _ (by first | rfl | simp [rawInt, Obj.mapFields]) rfl).2
theorem nx_list_end {t I : Addr} {i : Nat} {vs : Array Value} {Q : Option Value → Shared → Prop} (hh : A.handled = none) (F : Fr h₀ L s.heap m) (N : News h₀ L s.heap news) (ht : s.heap.IsList t vs) (hx : vs[i]? = none)
    (U : Upd I (itObj "list_iterator" t i) (itEnd "list_iterator" i) news news') (h : ∀ h', Fr h₀ L h' m → News h₀ L h' news' → Q none { s with heap := h' }) : wpAny (model prog w) A (pyNext (.ref I)) Q E s := by
  have ho := upd_get N U
  obtain ⟨ol, hol, _, nl, hdl⟩ := ht
  have hT : s.TypeIs (.ref I) "list_iterator" := ⟨_, ho, rfl⟩
  unfold pyNext
  refine wpAny_bind (wpAny_attempt (wpAny_callSpecial?_slot (name := Str.ofString "__next__") hT slot_listiter_next
    (wpAny_call_entry slot_listiter_next hT entry_listiter_next ?_ (args_listiter_next _))))
  show wpAny _ _ (field (.ref I) 0 >>= _) _ _ s
  refine wpAny_bind (wpAny_field ho rfl (x := .ref t) rfl ?_)
  show wpAny _ _ (if (Value.ref t == Value.none) = true then _ else _) _ _ s
  rw [if_neg (show ¬ ((Value.ref t == Value.none) = true) from Bool.false_ne_true)]
  show wpAny _ _ (field (.ref I) 1 >>= _) _ _ s
  refine wpAny_bind (wpAny_field ho rfl (x := .int i 0) rfl ?_)
  show wpAny _ _ (seqItems? (.ref t) >>= _) _ _ s
  refine wpAny_bind (wpAny_seqItems hol hdl ?_)
  simp only [Int.toNat_natCast, hx]
  refine wpAny_bind (wpAny_rule (wpAny_bind (wpAny_setField ho rfl (by simp) ?_)))
  show wpAny _ _ (newExc (.type "StopIteration") [] >>= _) _ _ _
  refine wpAny_bind ?_
  simp only [newExc, newTuple]
  refine wpAny_bind (wpAny_newObj_type ?_ (by size_fits))
  refine wpAny_bind (m := firstArgMember _ _) (wpAny_of_eq (a := Value.none) (by first | rfl | (simp only [firstArgMember]; rfl)) ?_)
  refine wpAny_newObj_type ?_ (by size_fits)
  simp only [raiseNew]
  refine wpAny_bind (wpAny_handled ?_)
  first | rw [show A.in1.handled = none from hh] | rw [hh]
  refine wpAny_bind (wpAny_pure (wpAny_throw ?_))
  refine wpAny_bind (wpAny_isInstance (T := "StopIteration") (b := true) ⟨_, Heap.get?_push_size _ rfl, rfl⟩ isSubtype_stop ?_)
  exact wpAny_pure (h _ (((upd_by F N U _ (by first | rfl | simp [rawInt, Obj.mapFields]) rfl).1.push _).push _) (news_grow (news_grow (upd_by F N U _ (by first | rfl | simp [rawInt, Obj.mapFields]) rfl).2 _) _))
end
end
section
-- part E1

set_option Elab.async false
set_option maxRecDepth 100000
open AutoSeq1 (wpAny_loadPart')
theorem meets_enumT (l : Addr) (items : Array Value) (n : Nat) (dct : Option Addr) (sl : Array (Option Value)) :
    Meets (Builtin.«enumerate.__new__» ⟨[.type "enumerate", .ref l], []⟩) (fun _ R s => s.heap.get? l = some { cls := .type "tuple", dict := dct, data := .seq items n, slots := sl } ∧
      R (.ok (.ret (.ref (s.heap.push { cls := .type "tuple_iterator", data := .fields #[.ref l, .int 0 0] }).objs.size)))
        { s with heap := (s.heap.push { cls := .type "tuple_iterator", data := .fields #[.ref l, .int 0 0] }).push { cls := .type "enumerate", data := .fields #[.none, .bool false, .ref s.heap.objs.size, rawInt 0, .none, .none] } }) :=
  .of_wp fun prog w A R s h => by
    obtain ⟨hp, g, d, tk, os⟩ := s; obtain ⟨hl, h⟩ := h
    have hsub := sub_enumerate
    have hL : Heap.IsTuple (Shared.heap ⟨hp, g, d, tk, os⟩) l items := ⟨_, hl, rfl, n, rfl⟩
    wp_walk using wpAny_loadPart' hl
    refine wpAny_stack_any fun st => wpAny_pure ?_
    split
    · rename_i c _ _ _ _ _
      cases (c == Value.type "enumerate")
      · wp_walk using wpAny_loadPart' hl, wpAny_pyIter_tuple hL
        exact ⟨_, rfl, h⟩
      · wp_walk using wpAny_loadPart' hl, wpAny_pyIter_tuple hL
        exact ⟨_, rfl, h⟩
    · wp_walk using wpAny_loadPart' hl, wpAny_pyIter_tuple hL
      exact ⟨_, rfl, h⟩
section
variable {prog : Program} {w : World} {A : Around} {E : Value → Shared → Prop} {s : Shared}
theorem call_enumT {l : Addr} {items : Array Value} {Q : Value → Shared → Prop} (hL : s.heap.IsTuple l items)
    (h : ∀ h', IsEnum h' (s.heap.objs.size + 1) s.heap.objs.size 0 .none → h'.IsTupleIter s.heap.objs.size l 0 → h'.objs.size = s.heap.objs.size + 2 →
      (∀ b o, s.heap.get? b = some o → h'.get? b = some o) → Q (.ref (s.heap.objs.size + 1)) { s with heap := h' }) :
    wpAny (model prog w) A (call (.type "enumerate") [.ref l]) Q E s := by
  obtain ⟨⟨c, dct, dt, sl⟩, hl, hc, n, hd⟩ := hL
  replace hc : c = .type "tuple" := hc
  replace hd : dt = .seq items n := hd
  subst hc hd
  refine callType_new F.called_enumerate (by decide) (F.typeCall_enumerate_1 _) (F.newCall_enumerate_1 _) (fun obj => F.args_object_init_2 obj _) F.entry_enumerate_new
    (meets_enumT l items n dct sl) ⟨hl, ?_⟩
  have hz : (s.heap.push { cls := .type "tuple_iterator", data := .fields #[.ref l, .int 0 0] }).objs.size = s.heap.objs.size + 1 := Heap.size_push ..
  show _ ∧ _
  rw [hz]
  have he : IsEnum ((s.heap.push { cls := .type "tuple_iterator", data := .fields #[.ref l, .int 0 0] }).push
      { cls := .type "enumerate", data := .fields #[.none, .bool false, .ref s.heap.objs.size, rawInt 0, .none, .none] }) (s.heap.objs.size + 1) s.heap.objs.size 0 .none := by
    have := Heap.get?_push_size (s.heap.push { cls := .type "tuple_iterator", data := .fields #[.ref l, .int 0 0] })
      (o := { cls := .type "enumerate", data := .fields #[.none, .bool false, .ref s.heap.objs.size, rawInt 0, .none, .none] }) rfl
    rw [hz] at this; exact this
  refine ⟨⟨_, he, rfl⟩, h _ he ⟨_, Heap.get?_push_of_some _ (Heap.get?_push_size _ rfl), rfl, rfl⟩ (by rw [Heap.size_push, hz]) fun b o x => Heap.get?_push_of_some _ (Heap.get?_push_of_some _ x)⟩
theorem nextOf_tup_item {it l : Addr} {i : Nat} {items} {x : Value} {Q : Value → Shared → Prop} (hit : s.heap.IsTupleIter it l i)
    (hl : s.heap.IsTuple l items) (hx : items[i]? = some x)
    (hQ : ∀ h', h'.IsTupleIter it l (i + 1) → Heap.SameBut it s.heap h' → Q x { s with heap := h' }) :
    wpAny (model prog w) A (Builtin.SmallTypes.nextOf (.ref it)) Q E s := by
  obtain ⟨o, ho, hc, hd⟩ := id hit
  obtain ⟨ol, hol, _, nl, hdl⟩ := hl
  unfold Builtin.SmallTypes.nextOf
  refine wpAny_bind (wpAny_callSpecial?_slot (name := Str.ofString "__next__") hit.typeIs F.slot_tuple_iterator_next
    (wpAny_call_entry F.slot_tuple_iterator_next hit.typeIs F.entry_tuple_iterator_next ?_ (F.args_tuple_iterator_next_1 _)))
  show wpAny _ _ (field (.ref it) 0 >>= _) _ _ s
  refine wpAny_bind (wpAny_field ho hd (x := .ref l) rfl ?_)
  show wpAny _ _ (if (Value.ref l == Value.none) = true then _ else _) _ _ s
  rw [if_neg (show ¬ ((Value.ref l == Value.none) = true) from Bool.false_ne_true)]
  show wpAny _ _ (field (.ref it) 1 >>= _) _ _ s
  refine wpAny_bind (wpAny_field ho hd (x := .int i 0) rfl ?_)
  show wpAny _ _ (seqItems? (.ref l) >>= _) _ _ s
  refine wpAny_bind (wpAny_seqItems hol hdl ?_)
  simp only [Int.toNat_natCast, hx]
  refine wpAny_bind (wpAny_setField ho hd (by simp) (wpAny_pure ⟨x, rfl, wpAny_pure (hQ _ ?_ (Heap.SameBut.update ..))⟩))
  exact ⟨_, Heap.get?_update_self _ ho (Obj.isFreed_of_fields (Obj.data_mapFields hd _)), (Obj.cls_mapFields ..).trans hc, by
    rw [Obj.data_mapFields hd]; simp [rawInt]⟩
theorem nextOf_tup_end {it l : Addr} {i : Nat} {items} {Q : Value → Shared → Prop} (hh : A.handled = none)
    (hit : s.heap.IsTupleIter it l i) (hl : s.heap.IsTuple l items) (hx : items[i]? = none)
    (hE : ∀ h' e, Heap.ExtBut it s.heap h' → (∃ o, h'.get? e = some o ∧ o.cls = .type "StopIteration") → E (.ref e) { s with heap := h' }) :
    wpAny (model prog w) A (Builtin.SmallTypes.nextOf (.ref it)) Q E s := by
  obtain ⟨o, ho, hc, hd⟩ := id hit
  obtain ⟨ol, hol, _, nl, hdl⟩ := hl
  unfold Builtin.SmallTypes.nextOf
  refine wpAny_bind (wpAny_callSpecial?_slot (name := Str.ofString "__next__") hit.typeIs F.slot_tuple_iterator_next
    (wpAny_call_entry F.slot_tuple_iterator_next hit.typeIs F.entry_tuple_iterator_next ?_ (F.args_tuple_iterator_next_1 _)))
  show wpAny _ _ (field (.ref it) 0 >>= _) _ _ s
  refine wpAny_bind (wpAny_field ho hd (x := .ref l) rfl ?_)
  show wpAny _ _ (if (Value.ref l == Value.none) = true then _ else _) _ _ s
  rw [if_neg (show ¬ ((Value.ref l == Value.none) = true) from Bool.false_ne_true)]
  show wpAny _ _ (field (.ref it) 1 >>= _) _ _ s
  refine wpAny_bind (wpAny_field ho hd (x := .int i 0) rfl ?_)
  show wpAny _ _ (seqItems? (.ref l) >>= _) _ _ s
  refine wpAny_bind (wpAny_seqItems hol hdl ?_)
  simp only [Int.toNat_natCast, hx]
  refine wpAny_bind (wpAny_rule (wpAny_bind (wpAny_setField ho hd (by simp) ?_)))
  show wpAny _ _ (newExc (.type "StopIteration") [] >>= _) _ _ _
  refine wpAny_bind ?_
  simp only [newExc, newTuple]
  refine wpAny_bind (wpAny_newObj_type ?_ (by size_fits))
  refine wpAny_bind (m := firstArgMember _ _) (wpAny_of_eq (a := Value.none) (by first | rfl | (simp only [firstArgMember]; rfl)) ?_)
  refine wpAny_newObj_type ?_ (by size_fits)
  simp only [raiseNew]
  refine wpAny_bind (wpAny_handled ?_)
  first | rw [show A.in1.handled = none from hh] | rw [hh]
  refine wpAny_bind (wpAny_pure (wpAny_throw ?_))
  exact hE _ _ (((Heap.SameBut.update ..).extBut.push _).push _) ⟨_, Heap.get?_push_size _ rfl, rfl⟩
end
theorem draws_tup {prog : Program} {w : World} {A : Around} (hh : A.handled = none) (it l : Addr) (hne : l ≠ it) (items : Array Value) :
    Draws prog w A it [it, l] items.size (fun i v => items[i]? = some v) (fun i h => h.IsTupleIter it l i ∧ h.IsTuple l items) where
  live := fun _ _ st => let ⟨o, ho, _⟩ := st.1; ⟨o, ho⟩
  frame := fun _ _ _ st hk => ⟨let ⟨o, ho, r⟩ := st.1; ⟨o, hk it (by simp) o ho, r⟩, let ⟨o, ho, r⟩ := st.2; ⟨o, hk l (by simp) o ho, r⟩⟩
  item := fun i s Q E hi st hQ => by
    refine nextOf_tup_item st.1 st.2 (x := items[i]) (by simp [hi]) fun h' hit' hs' => ?_
    exact hQ _ h' s.toks (by simp [hi]) ⟨hit', st.2.extBut hs'.extBut hne⟩ hs'
  done := fun s Q E st hE => nextOf_tup_end hh st.1 st.2 (by simp) hE
section
variable {prog : Program} {w : World} {A : Around} {E : Value → Shared → Prop} {s : Shared} {env : Env} {h₀ : Heap} {body : List Stmt} {Q : Flow → Shared → Prop} {K : Frag}
theorem ktu_enumT {elts : List PySem.Expr} {k : Nat} {pos : Pos} {l : Addr} {lo : Obj} {vs : List Value} {n : Nat} {m₀ : Str → Option Value} {news : List (Addr × Obj)}
    (hh : A.handled = none) (F : Fr h₀ env.locals s.heap m₀) (N : News h₀ env.locals s.heap news) (X₀ : K.In h₀) (hk : K.lookup l = some lo) (hc : lo.cls = .type "tuple") (hd : lo.data = .seq vs.toArray n)
    (rest₀ : ∀ I : Addr, (∀ p ∈ news, p.1 < I) → ItemsRest prog w A E h₀ env (.Tuple elts k pos) body Q s [(I + 1, "enumerate"), (I, "tuple_iterator")] [] (enumItems 0 vs) m₀ news) :
    wpAny (model prog w) A (call (.type "enumerate") [.ref l]) (fun xv s₁ => wpAny (model prog w) A (pyIter xv) (fun it s₂ => TurnsAt prog w A h₀ env (.Tuple elts k pos) body Q E it s₂) E s₁) E s := by
  have hg : h₀.get? l = some lo := X₀ _ _ hk
  have hax : s.heap.get? l = some lo := F.keep _ _ hg
  have hl : s.heap.IsTuple l vs.toArray := ⟨lo, hax, hc, n, hd⟩
  have hlt : l < s.heap.objs.size := Heap.lt_size hax
  have hLs : env.locals < s.heap.objs.size := F.ns.lt
  refine call_enumT hl fun h' hE hI hsz hk => ?_
  refine wpAny_pyIter_enum hE ?_
  refine ktg_core (tk0 := s.toks) (keep := []) (KTurns.ofWalksU (WalksT.enumerateD (draws_tup (A := A.in1) hh s.heap.objs.size l (Nat.ne_of_lt hlt) vs.toArray) (s.heap.objs.size + 1) (Nat.succ_ne_self _) (by have := hlt; simp only [List.mem_cons, List.not_mem_nil, or_false, not_or]; exact ⟨Nat.succ_ne_self _, (ktu_ne 1 hlt).symm⟩) (by simp)).toU) (by simp [enumItems_length]) ?_ ?_ ?_ ?_ ?_ ?_ ?_ ?_ (F.keeps hk) (N.grown hk) trivial (rest₀ _ fun p hp => Heap.lt_size (N p hp).1)
  · rintro i v h ⟨T, vals, rfl, ⟨t, x, hx, rfl⟩, hT⟩
    refine ⟨_, enumItems_get vs 0 i (v := x) (by simpa using hx), T, t, rfl, ?_⟩
    show IsTup h T #[.int ((0 + i : Nat) : Int) t, x]
    rw [Nat.zero_add]
    exact hT
  · rintro i h ⟨⟨old, he⟩, ⟨oi, hoi, hic, _⟩, _⟩
    have he' : ∃ oe : Obj, h.get? (s.heap.objs.size + 1) = some oe ∧ oe.cls = .type "enumerate" := ⟨_, he, rfl⟩
    obtain ⟨oe, h1, h2⟩ := he'
    refine ⟨[(s.heap.objs.size + 1, oe), (s.heap.objs.size, oi)], ⟨⟨rfl, h2⟩, ⟨rfl, hic⟩, trivial⟩, fun p hp => ?_⟩
    rcases List.mem_cons.mp hp with rfl | hp
    · exact h1
    · rw [List.mem_singleton.mp hp]; exact hoi
  · intro b hb
    have hb' : b = s.heap.objs.size + 1 ∨ b = s.heap.objs.size := by simpa using hb
    rcases hb' with rfl | rfl
    · exact ⟨by simp, ktu_new F (Nat.le_add_right _ _)⟩
    · exact ⟨by simp, ktu_new F (Nat.le_refl _)⟩
  · intro b hb
    simpa using hb
  · intro b hb
    have hb' : b = s.heap.objs.size + 1 ∨ b = s.heap.objs.size ∨ b = l := by simpa using hb
    rcases hb' with rfl | rfl | rfl
    · exact .inl (by simp)
    · exact .inl (by simp)
    · exact .inr (.inr ⟨lo, hg⟩)
  · intro hI'
    have hb' : env.locals = s.heap.objs.size + 1 ∨ env.locals = s.heap.objs.size ∨ env.locals = l := by simpa using hI'
    rcases hb' with e | e | e
    · exact ktu_ne 1 hLs e
    · exact Nat.ne_of_lt hLs e
    · exact absurd (Heap.lt_size hg) (Nat.not_lt.mpr (e ▸ F.above))
  · intro p hp hI'
    have hb' : p.1 = s.heap.objs.size + 1 ∨ p.1 = s.heap.objs.size := by simpa using hI'
    have hlp := Heap.lt_size (N p hp).1
    rcases hb' with e | e
    · exact ktu_ne 1 hlp e
    · exact Nat.ne_of_lt hlp e
  · exact ⟨⟨.none, hE⟩, hI, let ⟨o, ho, r⟩ := hl; ⟨o, hk l o ho, r⟩⟩
end
end
section
-- part L2

set_option Elab.async false
set_option maxRecDepth 100000
noncomputable def Hold (P : Prop) : Prop := P
theorem hold_out {P : Prop} (h : Hold P) : P := h
theorem hold_in {P : Prop} (h : P) : Hold P := h
theorem for_ind {σ : Type} {prog : Program} {w : World} {A : Around} {E : Value → Shared → Prop} {env : Env} {target : PySem.Expr} {body orelse : List Stmt} {Q : Flow → Shared → Prop} {it : Value} (μ : σ → Nat) (I : σ → Shared → Prop)
    (turn : ∀ c s, I c s → (∀ c' s', μ c' < μ c → I c' s' → ForR prog w A E env target body orelse Q it s') → ForR prog w A E env target body orelse Q it s) :
    ∀ c s, I c s → ForR prog w A E env target body orelse Q it s := by
  intro c
  generalize hn : μ c = n
  induction n using Nat.strongRecOn generalizing c with
  | ind n ih =>
    intro s hI
    subst hn
    exact turn c s hI fun c' s' hlt hI' => ih _ hlt c' rfl s' hI'
theorem items_ind {α : Type} {prog : Program} {w : World} {A : Around} {E : Value → Shared → Prop} {h₀ : Heap} {env : Env} {target : PySem.Expr} {body : List Stmt} {Q : Flow → Shared → Prop} {s : Shared} {ws : List (Addr × String)} {keep : List (Addr × Obj)}
    (P : α → List Itm → (Str → Option Value) → List (Addr × Obj) → Prop)
    (nil : ∀ a m news, P a [] m news → ItemsRest prog w A E h₀ env target body Q s ws keep [] m news)
    (cons : ∀ a x r m news, P a (x :: r) m news → (∀ a' m' news', P a' r m' news' → ItemsRest prog w A E h₀ env target body Q s ws keep r m' news') → ItemsRest prog w A E h₀ env target body Q s ws keep (x :: r) m news) :
    ∀ xs a m news, P a xs m news → ItemsRest prog w A E h₀ env target body Q s ws keep xs m news
  | [], a, m, news, h => nil a m news h
  | x :: r, a, m, news, h => cons a x r m news h fun a' m' news' h' => items_ind P nil cons r a' m' news' h'
theorem fr_eq {h₀ h : Heap} {L : Addr} {m m' : Str → Option Value} (F : Fr h₀ L h m) (e : ∀ y, m y = m' y) : Fr h₀ L h m' := by
  have : m = m' := funext e
  exact this ▸ F
theorem isTup_K {K : Frag} {h₀ h : Heap} {L : Addr} {m : Str → Option Value} {t : Addr} {d : Option Addr} {vs : Array Value} {n : Nat} {sl : Array (Option Value)} (F : Fr h₀ L h m) (X : K.In h₀) (hk : K.lookup t = some ⟨.type "tuple", d, .seq vs n, sl⟩) : h.IsTuple t vs :=
  ⟨_, F.keep _ _ (X _ _ hk), rfl, n, rfl⟩
theorem fr_clean {h₀ h : Heap} {L : Addr} {bs : List (Str × Value)} (cs : List (Str × Value)) (F : Fr h₀ L h (fun y => List.lookup y bs)) (e : bs = cs) : Fr h₀ L h (fun y => List.lookup y cs) := e ▸ F
theorem split_news {g h : Heap} {L : Addr} {a : Addr × Obj} {tl : List (Addr × Obj)} (N : News g L h (a :: tl)) : ∃ its, its = tl ∧ News g L h (a :: its) := ⟨tl, rfl, N⟩
theorem app_L {prog : Program} {w : World} {A : Around} {E : Value → Shared → Prop} {s : Shared} {h₀ : Heap} {L : Addr} {m : Str → Option Value} {news news' : List (Addr × Obj)} {D : Addr} {vs : List Value} {n : Nat} {x : Value} {Q : Value → Shared → Prop} (F : Fr h₀ L s.heap m) (N : News h₀ L s.heap news) (U : Upd D (listOf vs.toArray n) (listOf (vs ++ [x]).toArray (n + 1)) news news')
    (hz : vs.length ≤ 100) (h : ∀ h', Fr h₀ L h' m → News h₀ L h' news' → Q .none { s with heap := h' }) : wpAny (model prog w) A (call (.builtin "list.append") [.ref D, x]) Q E s := by
  have e : (vs ++ [x]).toArray = vs.toArray.push x := by simp
  rw [e] at U
  exact append_K F N U h (by rw [List.size_toArray, sizeLine_eq]; omega)
theorem items_sub {prog : Program} {w : World} {A : Around} {E : Value → Shared → Prop} {h₀ : Heap} {env : Env} {target : PySem.Expr} {body : List Stmt} {Q : Flow → Shared → Prop} {s : Shared} {ws : List (Addr × String)} {keep : List (Addr × Obj)} {xs : List Itm} {m : Str → Option Value} {news news' : List (Addr × Obj)}
    (hs : ∀ p ∈ news', p ∈ news) (h : ItemsRest prog w A E h₀ env target body Q s ws keep xs m news') : ItemsRest prog w A E h₀ env target body Q s ws keep xs m news := by
  cases xs with
  | nil => exact fun h' tk F N => h h' tk F fun p hp => N p (hs p hp)
  | cons x r =>
    intro v h' tk hv F
    have z := h v h' tk hv F
    clear h
    have go : ∀ (ws : List (Addr × String)) (k k' : List (Addr × Obj) → Prop), (∀ its, k its → k' its) → AllObj ws k → AllObj ws k' := by
      intro ws
      induction ws with
      | nil => exact fun k k' i a => i _ a
      | cons w r ih => exact fun k k' i a o ho => ih _ _ (fun its b => i _ b) (a o ho)
    refine go ws _ _ (fun its b N => b fun p hp => ?_) z
    rcases List.mem_append.mp hp with hp | hp
    · exact N p (List.mem_append_left _ hp)
    · exact N p (List.mem_append_right _ (hs p hp))
theorem strs_snoc : ∀ {vs : List Value} {ys : List Str} {y : Str} {t : Tok}, StrsAre vs ys → StrsAre (vs ++ [.str y t]) (ys ++ [y]) := by
  intro vs ys y t h
  induction h with
  | nil => exact .cons y t .nil
  | cons x u _ ih => exact .cons x u ih
end
section
-- part C1

set_option Elab.async false
set_option maxRecDepth 100000
noncomputable abbrev WC : Str := Str.ofString "abcdfeghijklmnopquvyzABCDEFGHIJKLMNOPQRSTUVWXYZ0123456789_~-./*?="
/-- the hashes and tokens of the lexer's dict -/
structure LexH where
  h : Nat → Int
  k : Nat → Tok
  v : Nat → Tok
noncomputable abbrev lexD (H : LexH) (y q1 q2 q3 : Addr) (st : Value) (ln : Int) (tok : Value) : List DictEntry :=
  [⟨H.h 0, .str (Str.ofString "instream") (H.k 0), .ref y⟩,
   ⟨H.h 1, .str (Str.ofString "infile") (H.k 1), .none⟩,
   ⟨H.h 2, .str (Str.ofString "posix") (H.k 2), .bool false⟩,
   ⟨H.h 3, .str (Str.ofString "eof") (H.k 3), .str (Str.ofString "") (H.v 3)⟩,
   ⟨H.h 4, .str (Str.ofString "commenters") (H.k 4), .str (Str.ofString "#") (H.v 4)⟩,
   ⟨H.h 5, .str (Str.ofString "wordchars") (H.k 5), .str WC (H.v 5)⟩,
   ⟨H.h 6, .str (Str.ofString "whitespace") (H.k 6), .str (Str.ofString " \t\r\n") (H.v 6)⟩,
   ⟨H.h 7, .str (Str.ofString "whitespace_split") (H.k 7), .bool false⟩,
   ⟨H.h 8, .str (Str.ofString "quotes") (H.k 8), .str (Str.ofString "'\"") (H.v 8)⟩,
   ⟨H.h 9, .str (Str.ofString "escape") (H.k 9), .str (Str.ofString "\\") (H.v 9)⟩,
   ⟨H.h 10, .str (Str.ofString "escapedquotes") (H.k 10), .str (Str.ofString "\"") (H.v 10)⟩,
   ⟨H.h 11, .str (Str.ofString "state") (H.k 11), st⟩,
   ⟨H.h 12, .str (Str.ofString "pushback") (H.k 12), .ref q1⟩,
   ⟨H.h 13, .str (Str.ofString "lineno") (H.k 13), .int ln (H.v 13)⟩,
   ⟨H.h 14, .str (Str.ofString "debug") (H.k 14), .int 0 (H.v 14)⟩,
   ⟨H.h 15, .str (Str.ofString "token") (H.k 15), tok⟩,
   ⟨H.h 16, .str (Str.ofString "filestack") (H.k 16), .ref q2⟩,
   ⟨H.h 17, .str (Str.ofString "source") (H.k 17), .none⟩,
   ⟨H.h 18, .str (Str.ofString "_punctuation_chars") (H.k 18), .str (Str.ofString "rwxst") (H.v 18)⟩,
   ⟨H.h 19, .str (Str.ofString "_pushback_chars") (H.k 19), .ref q3⟩]
/-- the next sign, as read gives it -/
noncomputable def nx (l : List Nat) : Str := ⟨(l.take 1).toArray⟩
/-- the ledger at hand, beyond what a call's contract speaks of -/
theorem news_on {h₀ h h' : Heap} {L : Addr} {small small' : List (Addr × Obj)} {rest : List (Addr × Obj)} (N' : News h₀ L h' small') (N : News h₀ L h rest) (G : GSub h h' (small.map (·.1))) (off : ∀ p ∈ rest, p.1 ∉ small.map (·.1)) : News h₀ L h' (small' ++ rest) := fun p hp => by
  rcases List.mem_append.mp hp with hp | hp
  · exact N' p hp
  · exact ⟨G _ _ (N p hp).1 (off p hp), (N p hp).2⟩
theorem news_sub {h₀ h : Heap} {L : Addr} {a b : List (Addr × Obj)} (N : News h₀ L h a) (hs : ∀ p ∈ b, p ∈ a) : News h₀ L h b := fun p hp => N p (hs p hp)
section
variable {w : World} {LO : List Str} {mean : ExcName → Option Value} {mg mb : Str → Option Value} {x d y e q1 q2 q3 : Nat} {o1 o2 o5 o6 o7 : Obj} {h1 h2 h3 : Int} {t1 t2 t3 t4 t5 t6 t : Tok} {txt : Str} {p : Int} {r : List Nat}
  {dp un : Nat} {gd : Option (List Code)} {cn : Str} {cs : Scope} {a : Addr} {ccd : Value} {cl : List (Str × Addr)} {outer : List Env} {A₀ : Around} {base h₀ : Heap} {L : Addr} {m : Str → Option Value} {s : Shared} {Q E : Value → Shared → Prop}
theorem read_lex (hB : Below A₀ base outer h₀) (hF : Fr h₀ L s.heap m) (hX : (hdK.heap_1 w.params).In h₀)
    (hN : News h₀ L s.heap [(x, o1), (d, o2), (y, instObj 639 e), (e, dictOf [⟨h1, .str (Str.ofString "_StringIO__newline") t1, .str (Str.ofString "\n") t4⟩, ⟨h2, .str (Str.ofString "_StringIO__buf") t2, .str txt t5⟩, ⟨h3, .str (Str.ofString "_StringIO__pos") t3, .int p t6⟩] 3), (q1, o5), (q2, o6), (q3, o7)])
    (hT : Top hdK.view_39 LO mean mg mb h₀) (hcs : cs.kind = .function) (hdp : dp + 4 < recursionLimit) (hun : un + 40 < cLine)
    (hlo : 0 ≤ p) (hr : txt.cps.toList.drop p.toNat = r) (hlen : txt.length ≤ 9) (ha : d < x) (hb : x < e) (hc : e < y) (hd : y < q1) (he : q1 < q2) (hf : q2 < q3)
    (h : ∀ ta tb h' tk, Fr h₀ L h' m → News h₀ L h' [(x, o1), (d, o2), (y, instObj 639 e), (e, dictOf [⟨h1, .str (Str.ofString "_StringIO__newline") t1, .str (Str.ofString "\n") t4⟩, ⟨h2, .str (Str.ofString "_StringIO__buf") t2, .str txt t5⟩, ⟨h3, .str (Str.ofString "_StringIO__pos") t3, .int (p + ((r.take 1).length : Nat)) tb⟩] 3), (q1, o5), (q2, o6), (q3, o7)] →
      Q (.str (nx r) ta) { s with heap := h', toks := tk }) :
    wpAny (model PySem.Challenge.rw_op0282_01.row.prog w) (ktrTop dp un gd cn cs L a ccd cl outer) (call (.ref 585) [.ref y, .int 1 t]) Q E s := by
  refine c_read w LO mean mg mb y e h1 h2 h3 t1 t2 t3 t4 t5 t6 t txt p r hlo hr hlen hc dp un gd cn cs a ccd cl outer A₀ base h₀ L m s Q E hB hF hX (news_sub hN ?_) hT hcs hdp hun ?_
  · intro q hq
    simp only [List.mem_cons, List.not_mem_nil, or_false] at hq ⊢
    rcases hq with rfl | rfl <;> simp
  · rintro v small' h' tk ⟨ta, tb, q, rfl, rfl, rfl⟩ F' N' G
    refine h ta tb h' tk F' (news_sub (news_on N' (news_sub (b := [(x, o1), (d, o2), (q1, o5), (q2, o6), (q3, o7)]) hN ?_) G ?_) ?_)
    · intro q hq
      simp only [List.mem_cons, List.not_mem_nil, or_false] at hq ⊢
      rcases hq with rfl | rfl | rfl | rfl | rfl <;> simp
    · intro q hq
      simp only [List.map_cons, List.map_nil, List.mem_cons, List.not_mem_nil, or_false, not_or] at hq ⊢
      have ey := Nat.lt_trans hb hc
      have e1 := Nat.lt_trans hc hd
      have y2 := Nat.lt_trans hd he
      have y3 := Nat.lt_trans y2 hf
      rcases hq with rfl | rfl | rfl | rfl | rfl
      · exact ⟨neN (Nat.ne_of_lt ey), neN (Nat.ne_of_lt hb)⟩
      · exact ⟨neN (Nat.ne_of_lt (Nat.lt_trans ha ey)), neN (Nat.ne_of_lt (Nat.lt_trans ha hb))⟩
      · exact ⟨neN (Nat.ne_of_gt hd), neN (Nat.ne_of_gt e1)⟩
      · exact ⟨neN (Nat.ne_of_gt y2), neN (Nat.ne_of_gt (Nat.lt_trans hc y2))⟩
      · exact ⟨neN (Nat.ne_of_gt y3), neN (Nat.ne_of_gt (Nat.lt_trans hc y3))⟩
    · intro q hq
      simp only [List.cons_append, List.nil_append, List.mem_cons, List.not_mem_nil, or_false] at hq ⊢
      rcases hq with rfl | rfl | rfl | rfl | rfl | rfl | rfl <;> simp
end
theorem nx_drop {l r : List Nat} {p : Int} (h0 : 0 ≤ p) (h : l.drop p.toNat = r) : 0 ≤ p + ((r.take 1).length : Nat) ∧ l.drop (p + ((r.take 1).length : Nat)).toNat = r.tail := by
  cases r with
  | nil => exact ⟨by simpa using h0, by simpa using h⟩
  | cons c r =>
    have e : (p + ((((c :: r).take 1).length : Nat) : Int)).toNat = p.toNat + 1 := by rw [List.length_take, List.length_cons]; omega
    refine ⟨by omega, ?_⟩
    rw [e, ← List.drop_drop, h]; rfl
theorem lex_ind {σ : Type} {prog : Program} {w : World} {A : Around} {E : Value → Shared → Prop} {env : Env} {test : PySem.Expr} {body orelse : List Stmt} {Q : Flow → Shared → Prop} (μ : σ → Nat) (I : σ → Shared → Prop)
    (turn : ∀ c s, I c s → (∀ c' s', μ c' < μ c → I c' s' → WhlRest prog w A E env test body orelse Q 0 s') → WhlRest prog w A E env test body orelse Q 0 s) :
    ∀ c s, I c s → WhlRest prog w A E env test body orelse Q 0 s := by
  intro c
  generalize hn : μ c = n
  induction n using Nat.strongRecOn generalizing c with
  | ind n ih =>
    intro s hI
    subst hn
    exact turn c s hI fun c' s' hlt hI' => ih _ hlt c' rfl s' hI'
section
variable {prog : Program} {w : World} {A : Around} {E : Value → Shared → Prop} {s : Shared} {Q : Value → Shared → Prop} {x : Str} {c : Nat} {b : Bool} {t u : Tok}
theorem in_one (hb : decide (c ∈ x.cps.toList) = b) (h : Q (.bool b) s) : wpAny (model prog w) A (compareOp .In (.str ⟨#[c]⟩ u) (.str x t)) Q E s :=
  in_str (by rw [empty_one, hb, Bool.not_not]; exact h)
theorem notIn_one (hb : decide (c ∈ x.cps.toList) = b) (h : Q (.bool (!b)) s) : wpAny (model prog w) A (compareOp .NotIn (.str ⟨#[c]⟩ u) (.str x t)) Q E s :=
  notIn_str (by rw [empty_one, hb, Bool.not_not]; exact h)
end
end
section
-- part LS

set_option Elab.async false
section
variable {prog : Program} {w : World} {A : Around} {E : Value → Shared → Prop} {hp : Heap} {g : Array GenState} {dr : Drawn} {k0 : Nat} {os : OsState} {K : Frag} {x C dx L : Addr} {h₀ : Heap} {m : Str → Option Value} {news : List (Addr × Obj)} {ox : Obj} {es : List DictEntry} {n n' : Nat} {name : Str} {v : Value}
/-- a name is set in an object's own dict: the entry's hash and token are any -/
theorem set_new {es' : Int → Tok → List DictEntry} {news' : Int → Tok → List (Addr × Obj)} {Q : Unit → Shared → Prop} (F : Fr h₀ L hp m) (X₀ : K.In h₀) (N : News h₀ L hp news) (I : InstAt hp x ox C (some (dictOf es n))) (hd : ox.dict = some dx)
    (hs : findIn K (.ref C) "__setattr__" = some (some (.builtin "object.__setattr__"))) (hq : plainOver K C = true) (ht : takerIn K C name = some none) (hh : hasDictIn K C = true) (hl : (getL name es).isSome = true)
    (e : ∀ c t, (putL name c (.str name t) v es, putN name es n) = (es' c t, n')) (U : ∀ c t, Upd dx (dictOf es n) (dictOf (es' c t) n') news (news' c t)) (hz : ∀ c t, (es' c t).length ≤ 1000)
    (h : ∀ c t h' tk, Fr h₀ L h' m → News h₀ L h' (news' c t) → Q () (Shared.mk h' g dr tk os)) :
    wpAny (model prog w) A (setAttr (.ref x) name v) Q E (Shared.mk hp g dr k0 os) :=
  set_dict F X₀ N I hd hs hq ht hh hl (e _ _) (U _ _) (hz _ _) fun h' F' N' => h _ _ h' _ F' N'
/-- the same of a text, whose token is any -/
theorem set_newS {sv : Str} {tv : Tok} {es' : Int → Tok → Tok → List DictEntry} {news' : Int → Tok → Tok → List (Addr × Obj)} {Q : Unit → Shared → Prop} (F : Fr h₀ L hp m) (X₀ : K.In h₀) (N : News h₀ L hp news) (I : InstAt hp x ox C (some (dictOf es n))) (hd : ox.dict = some dx)
    (hs : findIn K (.ref C) "__setattr__" = some (some (.builtin "object.__setattr__"))) (hq : plainOver K C = true) (ht : takerIn K C name = some none) (hh : hasDictIn K C = true) (hl : (getL name es).isSome = true)
    (e : ∀ c t u, (putL name c (.str name t) (.str sv u) es, putN name es n) = (es' c t u, n')) (U : ∀ c t u, Upd dx (dictOf es n) (dictOf (es' c t u) n') news (news' c t u)) (hz : ∀ c t u, (es' c t u).length ≤ 1000)
    (h : ∀ c t u h' tk, Fr h₀ L h' m → News h₀ L h' (news' c t u) → Q () (Shared.mk h' g dr tk os)) :
    wpAny (model prog w) A (setAttr (.ref x) name (.str sv tv)) Q E (Shared.mk hp g dr k0 os) :=
  set_dict F X₀ N I hd hs hq ht hh hl (e _ _ _) (U _ _ _) (hz _ _ _) fun h' F' N' => h _ _ _ h' _ F' N'
end
end
section
-- part C2

set_option Elab.async false
set_option maxRecDepth 100000
/-- a right's sign -/
noncomputable def pun (c : Nat) : Bool := c == 114 || c == 119 || c == 120 || c == 115 || c == 116
/-- a sign of the row's nine -/
noncomputable def sgn (c : Nat) : Bool := pun c || c == 45 || c == 83 || c == 84
noncomputable def tokOf : List Nat → List Nat
  | [] => []
  | c :: r => c :: r.takeWhile (fun k => pun k == pun c)
noncomputable def restOf : List Nat → List Nat
  | [] => []
  | c :: r => r.dropWhile (fun k => pun k == pun c)
theorem pun_cases {c : Nat} (h : pun c = true) : c = 114 ∨ c = 119 ∨ c = 120 ∨ c = 115 ∨ c = 116 := by
  simp only [pun, Bool.or_eq_true, beq_iff_eq] at h
  omega
theorem word_cases {c : Nat} (hs : sgn c = true) (h : pun c = false) : c = 45 ∨ c = 83 ∨ c = 84 := by
  simp only [sgn, h, Bool.or_eq_true, beq_iff_eq, Bool.false_eq_true, false_or] at hs
  omega
structure WordF (c : Nat) : Prop where
  f0 : ((⟨#[c]⟩ : Str) == Str.ofString "\n") = false
  f1 : decide (c ∈ (Str.ofString " \t\r\n").cps.toList) = false
  f2 : decide (c ∈ (Str.ofString "#").cps.toList) = false
  f3 : decide (c ∈ WC.cps.toList) = true
  f5 : decide (c ∈ (Str.ofString "rwxst").cps.toList) = false
structure PunF (c : Nat) : Prop where
  f0 : ((⟨#[c]⟩ : Str) == Str.ofString "\n") = false
  f1 : decide (c ∈ (Str.ofString " \t\r\n").cps.toList) = false
  f2 : decide (c ∈ (Str.ofString "#").cps.toList) = false
  f3 : decide (c ∈ WC.cps.toList) = false
  f4 : decide (c ∈ (Str.ofString "'\"").cps.toList) = false
  f5 : decide (c ∈ (Str.ofString "rwxst").cps.toList) = true
theorem word_key : ∀ c ∈ [45, 83, 84], ((⟨#[c]⟩ : Str) == Str.ofString "\n") = false ∧ decide (c ∈ (Str.ofString " \t\r\n").cps.toList) = false ∧ decide (c ∈ (Str.ofString "#").cps.toList) = false ∧ decide (c ∈ WC.cps.toList) = true ∧ decide (c ∈ (Str.ofString "rwxst").cps.toList) = false := by decide +kernel
theorem pun_key : ∀ c ∈ [114, 119, 120, 115, 116], ((⟨#[c]⟩ : Str) == Str.ofString "\n") = false ∧ decide (c ∈ (Str.ofString " \t\r\n").cps.toList) = false ∧ decide (c ∈ (Str.ofString "#").cps.toList) = false ∧ decide (c ∈ WC.cps.toList) = false ∧ decide (c ∈ (Str.ofString "'\"").cps.toList) = false ∧ decide (c ∈ (Str.ofString "rwxst").cps.toList) = true := by decide +kernel
theorem wordF {c : Nat} (hs : sgn c = true) (h : pun c = false) : WordF c := by
  obtain ⟨f0, f1, f2, f3, f5⟩ := word_key c (by simpa using word_cases hs h)
  exact ⟨f0, f1, f2, f3, f5⟩
theorem punF {c : Nat} (h : pun c = true) : PunF c := by
  obtain ⟨f0, f1, f2, f3, f4, f5⟩ := pun_key c (by simpa using pun_cases h)
  exact ⟨f0, f1, f2, f3, f4, f5⟩
section
variable {prog : Program} {w : World} {A : Around} {E : Value → Shared → Prop} {s : Shared} {c : Nat} {t : Tok}
theorem truthy_one {Q : Bool → Shared → Prop} (h : Q true { s with toks := s.toks + 1 + 1 }) : wpAny (model prog w) A (truthy (.str ⟨#[c]⟩ t)) Q E s :=
  PySem.P.truthy_str (by show ¬ ((1 : Nat) : Int) ≥ 2 ^ 63; decide) h
theorem truthy_none {Q : Bool → Shared → Prop} (h : Q false { s with toks := s.toks + 1 + 1 }) : wpAny (model prog w) A (truthy (.str (Str.ofString "") t)) Q E s :=
  PySem.P.truthy_str (by rw [str_empty]; decide) (by rw [str_empty]; exact h)
theorem truthy_tok {Q : Bool → Shared → Prop} {l : List Nat} (h0 : l ≠ []) (h9 : l.length ≤ 9) (h : Q true { s with toks := s.toks + 1 + 1 }) : wpAny (model prog w) A (truthy (.str ⟨l.toArray⟩ t)) Q E s := by
  have e : (⟨l.toArray⟩ : Str).length = l.length := by simp [Str.length]
  have hp : 0 < l.length := List.length_pos_iff.mpr h0
  refine PySem.P.truthy_str (by rw [e]; omega) ?_
  have : (((⟨l.toArray⟩ : Str).length : Int) != 0) = true := by rw [e]; exact bne_iff_ne.mpr (by omega)
  rw [this]; exact h
end
theorem add_tok (l : List Nat) (c : Nat) : (⟨l.toArray⟩ : Str) ++ (⟨#[c]⟩ : Str) = ⟨(l ++ [c]).toArray⟩ := by
  apply Str.ext'
  rw [Str.cps_append]
  simp
theorem fr_again {h₀ h : Heap} {L : Addr} {m : Str → Option Value} {x : Str} {a b : Option Value} (F : Fr h₀ L h (fun y => if y = x then a else if y = x then b else m y)) : Fr h₀ L h (fun y => if y = x then a else m y) := by
  have e : (fun y => if y = x then a else if y = x then b else m y) = (fun y => if y = x then a else m y) := by
    funext y
    by_cases q : y = x <;> simp [q]
  rw [e] at F; exact F
/-- the lexer's constants -/
structure LexC where
  x : Nat
  d : Nat
  y : Nat
  e : Nat
  q1 : Nat
  q2 : Nat
  q3 : Nat
  H : LexH
  h1 : Int
  h2 : Int
  h3 : Int
  t1 : Tok
  t2 : Tok
  t3 : Tok
  t4 : Tok
  t5 : Tok
  txt : Str
  ln : Int
  n1 : Int
  n2 : Int
structure LexC.Ok (K : LexC) : Prop where
  a : K.d < K.x
  b : K.x < K.e
  c : K.e < K.y
  d : K.y < K.q1
  e : K.q1 < K.q2
  f : K.q2 < K.q3
  len : K.txt.length ≤ 9
noncomputable abbrev LexC.led (K : LexC) (st tok : Value) (p : Int) (tp : Tok) (n3 : Int) (pb : List Value) : List (Addr × Obj) :=
  [(K.x, instObj 774 K.d), (K.d, dictOf (lexD K.H K.y K.q1 K.q2 K.q3 st K.ln tok) 20), (K.y, instObj 639 K.e), (K.e, dictOf [⟨K.h1, .str (Str.ofString "_StringIO__newline") K.t1, .str (Str.ofString "\n") K.t4⟩, ⟨K.h2, .str (Str.ofString "_StringIO__buf") K.t2, .str K.txt K.t5⟩, ⟨K.h3, .str (Str.ofString "_StringIO__pos") K.t3, .int p tp⟩] 3), (K.q1, dqObj K.n1 []), (K.q2, dqObj K.n2 []), (K.q3, dqObj n3 pb)]
/-- the lexer stands before the text P -/
inductive LexAt (K : LexC) : List Nat → List (Addr × Obj) → Prop
  | ended {tt tp : Tok} {p n3 : Int} (h0 : 0 ≤ p) (hr : K.txt.cps.toList.drop p.toNat = []) : LexAt K [] (K.led .none (.str (Str.ofString "") tt) p tp n3 [])
  | live {ts tt tp : Tok} {p n3 : Int} {c : Nat} {r : List Nat} {pb : List Value} (h0 : 0 ≤ p) (hr : (pb = [] ∧ K.txt.cps.toList.drop p.toNat = c :: r) ∨ (∃ tc, pb = [.str ⟨#[c]⟩ tc] ∧ K.txt.cps.toList.drop p.toNat = r)) : LexAt K (c :: r) (K.led (.str (Str.ofString " ") ts) (.str (Str.ofString "") tt) p tp n3 pb)
/-- the state of the lexer in the midst of a word, of a run of rights -/
noncomputable def zst (b : Bool) : Str := if b = true then Str.ofString "c" else Str.ofString "a"
theorem zst_blank (b : Bool) : (zst b == Str.ofString " ") = false := by cases b <;> decide +kernel
theorem zst_yes : (zst true == Str.ofString "c") = true := by decide +kernel
theorem zst_no : (zst false == Str.ofString "c") = false := by decide +kernel
theorem quote_z (b : Bool) : (!(Builtin.Str.occurrences (Str.ofString "'\"") (zst b) 0 (Str.ofString "'\"").length 1).isEmpty) = false := by cases b <;> decide +kernel
theorem esc_z (b : Bool) : (!(Builtin.Str.occurrences (Str.ofString "\\") (zst b) 0 (Str.ofString "\\").length 1).isEmpty) = false := by cases b <;> decide +kernel
theorem in_zst {prog : Program} {w : World} {A : Around} {E : Value → Shared → Prop} {s : Shared} {Q : Value → Shared → Prop} {t : Addr} {items : Array Value} {b : Bool} {u : Tok} (ht : IsTup s.heap t items) (hi : StrsAre items.toList [Str.ofString "a", Str.ofString "c"])
    (h : Q (.bool true) s) : wpAny (model prog w) A (compareOp .In (.str (zst b) u) (.ref t)) Q E s :=
  in_tuple_strs ht hi (by rw [show ([Str.ofString "a", Str.ofString "c"].any (· == zst b)) = true by cases b <;> decide +kernel]; exact h)
theorem nx_cons (c : Nat) (r : List Nat) : nx (c :: r) = ⟨#[c]⟩ := rfl
theorem nx_line {l : List Nat} (h : ∀ k ∈ l, sgn k = true) : (nx l == Str.ofString "\n") = false := by
  cases l with
  | nil => decide +kernel
  | cons c r =>
    have hs := h c (.head _)
    show ((⟨#[c]⟩ : Str) == Str.ofString "\n") = false
    cases hb : pun c with
    | false => exact (wordF hs hb).f0
    | true => exact (punF hb).f0
/-- the lexer's text from the place p on, behind what was put back -/
noncomputable def CharsAt (txt : Str) (p : Int) (pb : List Value) (cs : List Nat) : Prop :=
  0 ≤ p ∧ ((pb = [] ∧ txt.cps.toList.drop p.toNat = cs) ∨ ∃ c r tc, cs = c :: r ∧ pb = [.str (nx cs) tc] ∧ txt.cps.toList.drop p.toNat = r)
theorem LexAt.forms {K : LexC} {P : List Nat} {small : List (Addr × Obj)} (h : LexAt K P small) : ∃ st tt p tp n3 pb, small = K.led st (.str (Str.ofString "") tt) p tp n3 pb ∧ CharsAt K.txt p pb P ∧ ((st = .none ∧ P = []) ∨ ∃ ts c r, st = .str (Str.ofString " ") ts ∧ P = c :: r) := by
  cases h with
  | @ended tt tp p n3 h0 hr => exact ⟨_, _, _, _, _, _, rfl, ⟨h0, .inl ⟨rfl, hr⟩⟩, .inl ⟨rfl, rfl⟩⟩
  | live h0 hr => exact ⟨_, _, _, _, _, _, rfl, ⟨h0, hr.imp id fun ⟨tc, a, b⟩ => ⟨_, _, tc, rfl, a, b⟩⟩, .inr ⟨_, _, _, rfl, rfl⟩⟩
/-- ahead of a turn -/
noncomputable def TurnAt (K : LexC) (g : Heap) (L : Addr) (M0 : Str → Option Value) (s0 : Shared) (st : Value) (tok : Str) (cs : List Nat) (s' : Shared) : Prop :=
  ∃ h' tk u tt tp p n3 pb, s' = { s0 with heap := h', toks := tk } ∧ Fr g L h' (fun y => if y = Str.ofString "nextchar" then u else M0 y) ∧
    News g L h' (K.led st (.str tok tt) p tp n3 pb) ∧ CharsAt K.txt p pb cs ∧ ∀ k ∈ cs, sgn k = true
/-- in a turn, behind the reading of a sign -/
noncomputable def MidAt (K : LexC) (g : Heap) (L : Addr) (M0 : Str → Option Value) (s0 : Shared) (st : Value) (tok : Str) (cs : List Nat) (s' : Shared) : Prop :=
  ∃ h' tk tu tt tp p n3, s' = { s0 with heap := h', toks := tk } ∧ Fr g L h' (fun y => if y = Str.ofString "nextchar" then some (.str (nx cs) tu) else M0 y) ∧
    News g L h' (K.led st (.str tok tt) p tp n3 []) ∧ 0 ≤ p ∧ K.txt.cps.toList.drop p.toNat = cs.tail
/-- behind the loop -/
noncomputable def OutAt (K : LexC) (g : Heap) (L : Addr) (M0 : Str → Option Value) (s0 : Shared) (P : List Nat) (s' : Shared) : Prop :=
  ∃ h' tk u st tok tt tp p n3 pb, s' = { s0 with heap := h', toks := tk } ∧ Fr g L h' (fun y => if y = Str.ofString "nextchar" then u else M0 y) ∧
    News g L h' (K.led st (.str tok tt) p tp n3 pb) ∧ tok = ⟨(tokOf P).toArray⟩ ∧ ∀ t, LexAt K (restOf P) (K.led st (.str (Str.ofString "") t) p tp n3 pb)
/-- the lexer in the midst of a token: what is read of it, what is left -/
noncomputable def RunInv (K : LexC) (g : Heap) (L : Addr) (M0 : Str → Option Value) (s0 : Shared) (P : List Nat) (b : Bool) (c : List Nat × List Nat) (s' : Shared) : Prop :=
  ∃ ts, TurnAt K g L M0 s0 (.str (zst b) ts) ⟨c.1.toArray⟩ c.2 s' ∧ c.1 ≠ [] ∧ c.1.length + c.2.length ≤ 9 ∧
    c.1 ++ c.2.takeWhile (fun k => pun k == b) = tokOf P ∧ c.2.dropWhile (fun k => pun k == b) = restOf P
/-- a turn's beginning, the loop's end, and what a turn does: each walked once -/
theorem lex_frame {prog : Program} {w : World} {A : Around} {E : Value → Shared → Prop} {env : Env} {test : PySem.Expr} {body orelse : List Stmt} {Q : Flow → Shared → Prop} {s : Shared} {g : Heap} {L : Addr} {M0 : Str → Option Value}
    (K : LexC) (P : List Nat) (F0 : Fr g L s.heap M0)
    (pre : ∀ st tok cs s', TurnAt K g L M0 s st tok cs s' → (∀ s'', MidAt K g L M0 s st tok cs s'' → wpAny (model prog w) A (execs (body.drop 3) env) (WhlPost prog w A E env test body orelse Q 0) E s'') → WhlRest prog w A E env test body orelse Q 0 s')
    (out : ∀ s', OutAt K g L M0 s P s' → Q .next s')
    (run : ∀ b c s' s'' ts, MidAt K g L M0 s (.str (zst b) ts) ⟨c.1.toArray⟩ c.2 s'' → RunInv K g L M0 s P b c s' → (∀ s', OutAt K g L M0 s P s' → WhlPost prog w A E env test body orelse Q 0 .brk s') →
      (∀ c' s', c'.2.length < c.2.length → RunInv K g L M0 s P b c' s' → WhlRest prog w A E env test body orelse Q 0 s') → wpAny (model prog w) A (execs (body.drop 3) env) (WhlPost prog w A E env test body orelse Q 0) E s'')
    (go : (∀ st tok cs s', TurnAt K g L M0 s st tok cs s' → (∀ s'', MidAt K g L M0 s st tok cs s'' → wpAny (model prog w) A (execs (body.drop 3) env) (WhlPost prog w A E env test body orelse Q 0) E s'') → WhlRest prog w A E env test body orelse Q 0 s') →
      (∀ s', OutAt K g L M0 s P s' → WhlPost prog w A E env test body orelse Q 0 .brk s') → (∀ b c s', RunInv K g L M0 s P b c s' → WhlRest prog w A E env test body orelse Q 0 s') →
      Fr g L s.heap (fun y => if y = Str.ofString "nextchar" then M0 (Str.ofString "nextchar") else M0 y) → WhlRest prog w A E env test body orelse Q 0 s) : WhlRest prog w A E env test body orelse Q 0 s :=
  go pre (fun s' h => out s' h)
    (fun b => lex_ind (fun c => c.2.length) (RunInv K g L M0 s P b) fun c s' h IH => by
      obtain ⟨ts, hT, h2⟩ := id h
      exact pre _ _ _ s' hT fun s'' hM => run b c s' s'' ts hM h (fun s' h => out s' h) IH)
    (by
      have e : (fun y => if y = Str.ofString "nextchar" then M0 (Str.ofString "nextchar") else M0 y) = M0 := by
        funext y
        by_cases q : y = Str.ofString "nextchar"
        · rw [if_pos q, q]
        · rw [if_neg q]
      rw [e]; exact F0)
theorem run_tok {tok T r : List Nat} {k : Nat} {b : Bool} (h : pun k = b) (e : tok ++ (k :: r).takeWhile (fun k => pun k == b) = T) : tok ++ [k] ++ r.takeWhile (fun k => pun k == b) = T := by
  rw [List.takeWhile_cons, h, beq_self_eq_true] at e
  rw [List.append_assoc]; exact e
theorem run_rest {R r : List Nat} {k : Nat} {b : Bool} (h : pun k = b) (e : (k :: r).dropWhile (fun k => pun k == b) = R) : r.dropWhile (fun k => pun k == b) = R := by
  rw [List.dropWhile_cons, h, beq_self_eq_true] at e; exact e
theorem lex_run_end {tok T r : List Nat} {k : Nat} {b : Bool} (h : pun k = !b) (e : tok ++ (k :: r).takeWhile (fun k => pun k == b) = T) : tok = T := by
  rw [List.takeWhile_cons, h] at e
  cases b <;> simpa using e
theorem run_left {R r : List Nat} {k : Nat} {b : Bool} (h : pun k = !b) (e : (k :: r).dropWhile (fun k => pun k == b) = R) : k :: r = R := by
  rw [List.dropWhile_cons, h] at e
  cases b <;> exact e
theorem tok_head {r : List Nat} {c : Nat} {b : Bool} (h : pun c = b) : [c] ++ r.takeWhile (fun k => pun k == b) = tokOf (c :: r) := by subst h; rfl
theorem rest_head {r : List Nat} {c : Nat} {b : Bool} (h : pun c = b) : r.dropWhile (fun k => pun k == b) = restOf (c :: r) := by subst h; rfl
section
variable {prog : Program} {w : World} {A : Around} {E : Value → Shared → Prop} {hp : Heap} {g : Array GenState} {dr : Drawn} {k0 : Nat} {os : OsState} {K : Frag} {x C dx L y q1 q2 q3 : Addr} {h₀ : Heap} {m : Str → Option Value} {news news' : List (Addr × Obj)} {ox : Obj} {H : LexH} {st tok : Value} {ln : Int} {Q : Unit → Shared → Prop}
theorem lex_state {v : Value} (F : Fr h₀ L hp m) (X₀ : K.In h₀) (N : News h₀ L hp news) (I : InstAt hp x ox C (some (dictOf (lexD H y q1 q2 q3 st ln tok) 20))) (hd : ox.dict = some dx)
    (hs : findIn K (.ref C) "__setattr__" = some (some (.builtin "object.__setattr__"))) (hq : plainOver K C = true) (ht : takerIn K C (Str.ofString "state") = some none) (hh : hasDictIn K C = true)
    (U : Upd dx (dictOf (lexD H y q1 q2 q3 st ln tok) 20) (dictOf (lexD H y q1 q2 q3 v ln tok) 20) news news')
    (h : ∀ h' tk, Fr h₀ L h' m → News h₀ L h' news' → Q () (Shared.mk h' g dr tk os)) :
    wpAny (model prog w) A (setAttr (.ref x) (Str.ofString "state") v) Q E (Shared.mk hp g dr k0 os) :=
  set_dict F X₀ N I hd hs hq ht hh (by k_get) (by k_put) U (Nat.le_of_ble_eq_true rfl) fun h' F' N' => h h' _ F' N'
theorem lex_stateS {z : Str} {u : Tok} {news' : Tok → List (Addr × Obj)} (F : Fr h₀ L hp m) (X₀ : K.In h₀) (N : News h₀ L hp news) (I : InstAt hp x ox C (some (dictOf (lexD H y q1 q2 q3 st ln tok) 20))) (hd : ox.dict = some dx)
    (hs : findIn K (.ref C) "__setattr__" = some (some (.builtin "object.__setattr__"))) (hq : plainOver K C = true) (ht : takerIn K C (Str.ofString "state") = some none) (hh : hasDictIn K C = true)
    (U : ∀ u, Upd dx (dictOf (lexD H y q1 q2 q3 st ln tok) 20) (dictOf (lexD H y q1 q2 q3 (.str z u) ln tok) 20) news (news' u))
    (h : ∀ u h' tk, Fr h₀ L h' m → News h₀ L h' (news' u) → Q () (Shared.mk h' g dr tk os)) :
    wpAny (model prog w) A (setAttr (.ref x) (Str.ofString "state") (.str z u)) Q E (Shared.mk hp g dr k0 os) :=
  lex_state F X₀ N I hd hs hq ht hh (U u) (h u)
theorem lex_token {z : Str} {u : Tok} {news' : Tok → List (Addr × Obj)} (F : Fr h₀ L hp m) (X₀ : K.In h₀) (N : News h₀ L hp news) (I : InstAt hp x ox C (some (dictOf (lexD H y q1 q2 q3 st ln tok) 20))) (hd : ox.dict = some dx)
    (hs : findIn K (.ref C) "__setattr__" = some (some (.builtin "object.__setattr__"))) (hq : plainOver K C = true) (ht : takerIn K C (Str.ofString "token") = some none) (hh : hasDictIn K C = true)
    (U : ∀ u, Upd dx (dictOf (lexD H y q1 q2 q3 st ln tok) 20) (dictOf (lexD H y q1 q2 q3 st ln (.str z u)) 20) news (news' u))
    (h : ∀ u h' tk, Fr h₀ L h' m → News h₀ L h' (news' u) → Q () (Shared.mk h' g dr tk os)) :
    wpAny (model prog w) A (setAttr (.ref x) (Str.ofString "token") (.str z u)) Q E (Shared.mk hp g dr k0 os) :=
  set_dict F X₀ N I hd hs hq ht hh (by k_get) (by k_put) (U u) (Nat.le_of_ble_eq_true rfl) fun h' F' N' => h u h' _ F' N'
end
theorem sgn_white {c : Nat} (h : sgn c = true) : decide (c ∈ (Str.ofString " \t\r\n").cps.toList) = false := by
  cases hb : pun c with
  | false => exact (wordF h hb).f1
  | true => exact (punF hb).f1
theorem sgn_comm {c : Nat} (h : sgn c = true) : decide (c ∈ (Str.ofString "#").cps.toList) = false := by
  cases hb : pun c with
  | false => exact (wordF h hb).f2
  | true => exact (punF hb).f2
theorem rt_post {K : LexC} {P : List Nat} {small' : List (Addr × Obj)} {X : Str} {t : Tok} (e : X = ⟨(tokOf P).toArray⟩) (h : LexAt K (restOf P) small') : ∃ t', Value.str X t = .str ⟨(tokOf P).toArray⟩ t' ∧ LexAt K (restOf P) small' := ⟨t, by rw [e], h⟩
theorem in_lit {prog : Program} {w : World} {A : Around} {E : Value → Shared → Prop} {s : Shared} {Q : Value → Shared → Prop} {x y : Str} {t u : Tok} (b : Bool) (hb : (!(Builtin.Str.occurrences x y 0 x.length 1).isEmpty) = b) (h : Q (.bool b) s) : wpAny (model prog w) A (compareOp .In (.str y u) (.str x t)) Q E s :=
  in_str (by rw [hb]; exact h)
theorem dq_truthy_nil {prog : Program} {w : World} {A : Around} {E : Value → Shared → Prop} {s : Shared} {h₀ : Heap} {L : Addr} {news : List (Addr × Obj)} {q : Addr} {st : Int} {Q : Bool → Shared → Prop} (N : News h₀ L s.heap news) (hm : (q, dqObj st []) ∈ news)
    (h : Q false { s with toks := s.toks + 1 + 1 }) : wpAny (model prog w) A (truthy (.ref q)) Q E s := dq_truthy (N _ hm).1 (by decide) h
theorem dq_truthy_one {prog : Program} {w : World} {A : Around} {E : Value → Shared → Prop} {s : Shared} {h₀ : Heap} {L : Addr} {news : List (Addr × Obj)} {q : Addr} {st : Int} {v : Value} {Q : Bool → Shared → Prop} (N : News h₀ L s.heap news) (hm : (q, dqObj st [v]) ∈ news)
    (h : Q true { s with toks := s.toks + 1 + 1 }) : wpAny (model prog w) A (truthy (.ref q)) Q E s := dq_truthy (N _ hm).1 (by simp) h
end
section
-- part F5

set_option Elab.async false
set_option maxRecDepth 100000
set_option maxHeartbeats 8000000
theorem fresh_F5 : True := by
  w_top off
  k_with_none
  k_with "small" => first | exact Int.toNat_natCast _ | with_reducible exact Nat.mod_lt _ (by decide) | with_reducible exact fm2_lt _ | with_reducible exact fm2_ge _ | with_reducible exact fm4_lt _ _ | with_reducible exact fm4_ge _ _ | with_reducible exact em_lt _ | with_reducible exact em_gt _ | with_reducible exact nat_gt _ | with_reducible exact Int.natCast_nonneg _ | with_reducible exact nat_gt1 _ | with_reducible exact room2 (by assumption) (by decide) | with_reducible exact room1 (by assumption) (by decide) | with_reducible exact room3 (by assumption) (by decide) | with_reducible exact room4 (by assumption) (by decide) | with_reducible exact room0 (by assumption) | with_reducible exact le_le (by assumption) (by decide) | with_reducible exact le_eq (by assumption) (by decide) | with_reducible exact lt_le (by assumption) (by decide) | with_reducible exact sub_one (by assumption) | with_reducible exact sub_j (by assumption) | with_reducible exact sub_dec (by assumption) | with_reducible exact toNat_pred _ | with_reducible exact nat_ge _
  k_with "ne" => first | with_reducible exact Apart.l (by assumption) | with_reducible exact Apart.r (by assumption) | with_reducible exact gt1 (by assumption) | with_reducible exact lt1 (by assumption) | with_reducible exact gt2 (by assumption) | with_reducible exact lt2 (by assumption) | with_reducible exact gl2 (by assumption) | with_reducible exact ll2 (by assumption) | with_reducible exact gt3 (by assumption) | with_reducible exact lt3 (by assumption) | with_reducible exact gl3 (by assumption) | with_reducible exact ll3 (by assumption) | with_reducible exact gt4 (by assumption) | with_reducible exact gl4 (by assumption) | with_reducible exact ll4 (by assumption) | with_reducible exact gl5 (by assumption) | with_reducible exact gl6 (by assumption) | with_reducible exact gl7 (by assumption) | with_reducible exact gl8 (by assumption) | with_reducible exact gl9 (by assumption) | with_reducible exact gl10 (by assumption) | with_reducible exact gl11 (by assumption)
  k_with "k_room" => ((try simp only [depth_under_make, depth_under_kw, depth_in1, depth_deeper, depth_caller]); first | decide | ktr_room)
  k_with "cell_enter" => (refine' code_defG (by k_asm) (by k_asm) (by k_asm) (by k_asm) (by k_asm) rfl rfl (by assumption) (by k_is) (by k_is) (by ktr_room) (by first | exact BindsTo.of_eq rfl | exact binds_K (by k_in) rfl (by k_is) rfl rfl rfl) (by exact locs rfl) ?_ (by exact rfl) (by exact rfl) (by exact rfl) (by decide); k_whole; intro g' L' h' FG' F' N' B' X' T' GS'; (try dsimp only); (try k_lift B'); (try k_fold))
  k_with "exec If" => (k_here; dsimp only)
  k_with "execs cons" => (k_here; dsimp only)
  k_with "isTrue" => (k_here; dsimp only)
  k_with "exec Assign" => (k_here; dsimp only)
  k_with "exec Expr" => (k_here; dsimp only)
  k_with "eval Attribute" => (k_here; dsimp only)
  k_with "execs nil" => (k_here; dsimp only)
  k_with "execs cons" => (k_here; (try dsimp only); (with_reducible refine toks_gen ?_); intro tk')
  k_with "execs nil" => (k_here; (try dsimp only); (with_reducible refine toks_gen ?_); intro tk')
  k_with "truthy ref" => (k_here; (with_reducible show wpAny _ _ (truthy (Value.ref _)) _ _ _); (first | (with_unfolding_all refine' dq_truthy_one (by k_asm) (by k_mem) ?_; k_whole) | (with_unfolding_all refine' dq_truthy_nil (by k_asm) (by k_mem) ?_; k_whole)))
  k_with "getMethod ref" => (k_here; (with_reducible show wpAny _ _ (getMethod (Value.ref _) (PySem.Str.ofString "append") _) _ _ _); k_dflt (refine' dq_method (by k_asm) (by k_mem) slot_dq_append type_dq_append ?_))
  k_with "getMethod ref" => (k_here; (with_reducible show wpAny _ _ (getMethod (Value.ref _) (PySem.Str.ofString "pop") _) _ _ _); k_dflt (refine' dq_method (by k_asm) (by k_mem) slot_dq_pop type_dq_pop ?_))
  k_with "call builtin:collections.deque.pop" => (k_here; k_dflt (refine' dq_pop (by k_asm) (by k_asm) (by k_upd) ?_; k_whole); intro _ _ _; (try k_sweep))
  k_with "call builtin:collections.deque.append" => (k_here; k_dflt (refine' dq_append (by k_asm) (by k_asm) (by k_upd) ?_; k_whole); intro _ _ _; (try k_sweep))
  k_with "call ref" => (k_here; (with_reducible show wpAny _ _ (call (Value.ref 585) [Value.ref _, Value.int _ _]) _ _ _); k_dflt (refine' read_lex (by k_asm) (by k_asm) (by k_asm) (by k_asm) (by k_asm) (by exact rfl) (by ktr_room) (by ktr_units) (by assumption) (by assumption) (by assumption) (by assumption) (by assumption) (by assumption) (by assumption) (by assumption) (by assumption) ?_; k_whole); intro _ _ _ _ _ _; (try k_sweep))
  k_with "exec While" => ((with_reducible show wpAny _ _ (exec (Stmt.While _ _ _ _) _) _ _ _); refine hold_out ?_)
  k_with "WhlRest" => (refine hold_out ?_)
  k_with "exec If" => ((try k_fold); refine wpAny_If ?_)
  k_with "compareOp In str str" => first | refine in_one (by assumption) ?_ | refine in_lit false (quote_z _) ?_ | refine in_lit false (esc_z _) ?_
  k_with "compareOp NotIn str str" => refine notIn_one (by assumption) ?_
  k_with "truthy str" => first | refine truthy_one ?_ | refine truthy_none ?_ | refine truthy_tok (by assumption) (by assumption) ?_
  k_with "compareOp In str ref" => (k_here; (with_reducible show wpAny _ _ (compareOp CmpOp.In (Value.str (zst _) _) (Value.ref _)) _ _ _); (with_unfolding_all refine' in_zst (by exact News.isTup (by k_asm) (by news_mem)) (by kde_strs) ?_; k_whole))
  k_with "compareOp Eq str str" => ((with_reducible show wpAny _ _ (compareOp CmpOp.Eq (Value.str (zst _) _) (Value.str (Str.ofString "c") _)) _ _ _); refine hold_out ?_)
  k_with "truthy str" => ((with_reducible show wpAny _ _ (truthy (Value.str (nx _) _)) _ _ _); refine hold_out ?_)
  k_with "execs cons" => ((with_reducible show wpAny _ _ (execs [Stmt.If (PySem.Expr.Compare _ [CmpOp.Is] _ _) _ _ _] _) _ _ _); refine hold_out ?_)
  k_with "WhlPost" => ((with_reducible show WhlPost _ _ _ _ _ _ _ _ _ _ Flow.brk _); refine hold_out ?_)
  k_with "setAttr ref" => (k_here; (with_reducible show wpAny _ _ (setAttr _ (Str.ofString "state") Value.none) _ _ _); k_dflt (refine' lex_state (by k_asm) (by k_asm) (by k_asm) (by k_inst) (by exact rfl) (by k_is) (by k_is) (by k_is) (by k_is) (by k_upd) ?_; k_whole); intro _ _ _ _; (try k_sweep))
  k_with "setAttr ref" => (k_here; (with_reducible show wpAny _ _ (setAttr _ (Str.ofString "state") (Value.str _ _)) _ _ _); k_dflt (refine' lex_stateS (by k_asm) (by k_asm) (by k_asm) (by k_inst) (by exact rfl) (by k_is) (by k_is) (by k_is) (by k_is) (by (intro _; k_upd)) ?_; k_whole); intro _ _ _ _ _; (try k_sweep))
  k_with "setAttr ref" => (k_here; (with_reducible show wpAny _ _ (setAttr _ (Str.ofString "token") (Value.str _ _)) _ _ _); k_dflt (refine' lex_token (by k_asm) (by k_asm) (by k_asm) (by k_inst) (by exact rfl) (by k_is) (by k_is) (by k_is) (by k_is) (by (intro _; k_upd)) ?_; k_whole); intro _ _ _ _ _; (try k_sweep))
  trivial
theorem now_c_rt : True := by
  k_with "now" =>
    obtain ⟨ha, hb, hc, hd, he, hf, hlen⟩ := ok
    have ap01 : Apart K.d K.x := .of ha
    have ap02 : Apart K.d K.e := .of (Nat.lt_trans ha hb)
    have ap03 : Apart K.d K.y := .of (Nat.lt_trans (Nat.lt_trans ha hb) hc)
    have ap04 : Apart K.d K.q1 := .of (Nat.lt_trans (Nat.lt_trans (Nat.lt_trans ha hb) hc) hd)
    have ap05 : Apart K.d K.q2 := .of (Nat.lt_trans (Nat.lt_trans (Nat.lt_trans (Nat.lt_trans ha hb) hc) hd) he)
    have ap06 : Apart K.d K.q3 := .of (Nat.lt_trans (Nat.lt_trans (Nat.lt_trans (Nat.lt_trans (Nat.lt_trans ha hb) hc) hd) he) hf)
    have ap12 : Apart K.x K.e := .of hb
    have ap13 : Apart K.x K.y := .of (Nat.lt_trans hb hc)
    have ap14 : Apart K.x K.q1 := .of (Nat.lt_trans (Nat.lt_trans hb hc) hd)
    have ap15 : Apart K.x K.q2 := .of (Nat.lt_trans (Nat.lt_trans (Nat.lt_trans hb hc) hd) he)
    have ap16 : Apart K.x K.q3 := .of (Nat.lt_trans (Nat.lt_trans (Nat.lt_trans (Nat.lt_trans hb hc) hd) he) hf)
    have ap23 : Apart K.e K.y := .of hc
    have ap24 : Apart K.e K.q1 := .of (Nat.lt_trans hc hd)
    have ap25 : Apart K.e K.q2 := .of (Nat.lt_trans (Nat.lt_trans hc hd) he)
    have ap26 : Apart K.e K.q3 := .of (Nat.lt_trans (Nat.lt_trans (Nat.lt_trans hc hd) he) hf)
    have ap34 : Apart K.y K.q1 := .of hd
    have ap35 : Apart K.y K.q2 := .of (Nat.lt_trans hd he)
    have ap36 : Apart K.y K.q3 := .of (Nat.lt_trans (Nat.lt_trans hd he) hf)
    have ap45 : Apart K.q1 K.q2 := .of he
    have ap46 : Apart K.q1 K.q3 := .of (Nat.lt_trans he hf)
    have ap56 : Apart K.q2 K.q3 := .of hf
    unfold Claim
    k_fill
    intro dp un gd cn cs a ccd cl outer A₀ base h₀ L m s Q E hB hF hX hN hT hcs hdp hun hret
    obtain ⟨st, tt, p, tp, n3, pb, rfl, hch, hst⟩ := hat.forms
    clear hat
    dsimp only [LexC.led] at hN hch hret
    refine wpAny_call ?_
    k_dflt cell_enter
    k_steps
    refine hold_in (whl_start 0 ?_)
    refine lex_frame K P (by k_asm) ?pre ?out ?run ?go
    case pre =>
      rintro st tok cs s' ⟨h', tk, u, tt, tp, p, n3, pb, rfl, F, N, ⟨h0, hpb⟩, hsg⟩ next
      dsimp only [LexC.led] at N hpb
      have f0 := nx_line hsg
      rcases hpb with ⟨rfl, hr⟩ | ⟨c, r, tc, rfl, rfl, hr⟩
      · (refine' whl_turn (k := 0) ?hE ?_; (case hE => first | passes_own | with_unfolding_all passes_own))
        k_steps
        refine hold_in (next _ ⟨_, _, _, _, _, _, _, rfl, fr_again (by assumption), (by assumption), (nx_drop h0 hr).1, (nx_drop h0 hr).2⟩)
      · (refine' whl_turn (k := 0) ?hE ?_; (case hE => first | passes_own | with_unfolding_all passes_own))
        k_steps
        refine hold_in (next _ ⟨_, _, _, _, _, _, _, rfl, fr_again (by assumption), (by assumption), h0, hr⟩)
    case out =>
      rintro s' ⟨h', tk, u, st, tok, tt, tp, p, n3, pb, rfl, F, N, eT, hL⟩
      dsimp only [LexC.led] at N
      dsimp only
      k_steps
      exact hret _ _ _ _ (rt_post eT (hL _)) (by assumption) (by assumption) (gsub_keep (by assumption) (by assumption))
    case run =>
      rintro b ⟨tok, r'⟩ s' s'' ts ⟨h', tk, tu, tt, tp, p, n3, rfl, F, N, h0, hr⟩ ⟨ts', ⟨_, _, _, _, _, _, _, _, -, -, -, -, hsg⟩, hne, hl9, hT1, hR1⟩ fin IH
      dsimp only [LexC.led] at F N hne hl9 hT1 hR1 hsg hr
      have hl9' : tok.length ≤ 9 := Nat.le_trans (Nat.le_add_right _ _) hl9
      have z1 := zst_blank b
      dsimp only [List.drop]
      refine wpAny_execs_cons ?_
      k_steps
      refine hold_in ?_
      cases r' with
      | nil =>
        simp only [List.takeWhile_nil, List.dropWhile_nil, List.append_nil] at hT1 hR1
        refine truthy_none ?_
        k_steps
        refine hold_in (fin _ ⟨_, _, _, _, _, _, _, _, _, _, rfl, (by assumption), news_sub (by assumption) (fun p hp => List.Mem.tail _ hp), by rw [hT1], fun t => hR1 ▸ LexAt.ended h0 hr⟩)
      | cons k r' =>
        have hk : sgn k = true := hsg k (.head _)
        have g1 := sgn_white hk
        have g2 := sgn_comm hk
        have hlen1 : (⟨tok.toArray⟩ : Str).length = tok.length := by simp [Str.length]
        have hlen2 : (nx (k :: r')).length = 1 := rfl
        rw [List.length_cons] at hl9
        rename Fr _ _ _ _ => F9
        rw [nx_cons] at F9
        refine truthy_one ?_
        k_steps
        refine hold_in (PySem.P.eq_str ?_)
        cases b with
        | false =>
          have z2 := zst_no
          cases hkb : pun k with
          | false =>
            obtain ⟨_, _, _, f3, f5⟩ := wordF hk hkb
            k_steps
            rename News _ _ _ _ => N9
            rw [add_tok] at N9
            refine hold_in (IH (tok ++ [k], r') _ (Nat.lt_succ_self _) ⟨_, ⟨_, _, _, _, _, _, _, _, rfl, (by assumption), news_sub N9 (fun p hp => List.Mem.tail _ hp), ⟨h0, .inl ⟨rfl, hr⟩⟩, fun j hj => hsg j (.tail _ hj)⟩, by simp, by simp only [List.length_append, List.length_singleton]; omega, run_tok hkb hT1, run_rest hkb hR1⟩)
          | true =>
            obtain ⟨_, _, _, f3, f4, f5⟩ := punF hkb
            k_steps
            refine hold_in (fin _ ⟨_, _, _, _, _, _, _, _, _, _, rfl, (by assumption), news_sub (by assumption) (fun p hp => List.Mem.tail _ hp), by rw [lex_run_end hkb hT1], fun t => run_left hkb hR1 ▸ LexAt.live h0 (.inr ⟨_, rfl, hr⟩)⟩)
        | true =>
          have z2 := zst_yes
          cases hkb : pun k with
          | false =>
            obtain ⟨_, _, _, f3, f5⟩ := wordF hk hkb
            k_steps
            refine hold_in (fin _ ⟨_, _, _, _, _, _, _, _, _, _, rfl, (by assumption), news_sub (by assumption) (fun p hp => List.Mem.tail _ hp), by rw [lex_run_end hkb hT1], fun t => run_left hkb hR1 ▸ LexAt.live h0 (.inr ⟨_, rfl, hr⟩)⟩)
          | true =>
            obtain ⟨_, _, _, f3, f4, f5⟩ := punF hkb
            k_steps
            rename News _ _ _ _ => N9
            rw [add_tok] at N9
            refine hold_in (IH (tok ++ [k], r') _ (Nat.lt_succ_self _) ⟨_, ⟨_, _, _, _, _, _, _, _, rfl, (by assumption), news_sub N9 (fun p hp => List.Mem.tail _ hp), ⟨h0, .inl ⟨rfl, hr⟩⟩, fun j hj => hsg j (.tail _ hj)⟩, by simp, by simp only [List.length_append, List.length_singleton]; omega, run_tok hkb hT1, run_rest hkb hR1⟩)
    case go =>
      intro turn fin loop F0
      rcases hst with ⟨rfl, rfl⟩ | ⟨ts, c, r, rfl, rfl⟩
      · refine turn _ _ _ _ ⟨_, _, _, _, _, _, _, _, rfl, F0, (by assumption), hch, fun k hk => nomatch hk⟩ ?_
        rintro s' ⟨h', tk, tu, tt, tp, p, n3, rfl, F, N, h0, hr⟩
        dsimp only [LexC.led] at F N hr
        dsimp only [List.drop]
        refine wpAny_execs_cons ?_
        k_steps
        refine hold_in (fin _ ⟨_, _, _, _, _, _, _, _, _, _, rfl, (by assumption), (by assumption), str_empty, fun t => LexAt.ended h0 hr⟩)
      · have hs : sgn c = true := hP c (.head _)
        have hs' : ∀ k ∈ r, sgn k = true := fun k hk => hP k (.tail _ hk)
        have g1 := sgn_white hs
        have g2 := sgn_comm hs
        rw [List.length_cons] at hP9
        refine turn _ _ _ _ ⟨_, _, _, _, _, _, _, _, rfl, F0, (by assumption), hch, hP⟩ ?_
        rintro s' ⟨h', tk, tu, tt, tp, p, n3, rfl, F, N, h0, hr⟩
        dsimp only [LexC.led] at F N hr
        dsimp only [List.drop]
        refine wpAny_execs_cons ?_
        k_steps
        refine hold_in (truthy_one ?_)
        rename Fr _ _ _ _ => F9
        rw [nx_cons] at F9
        cases hb9 : pun c with
        | false =>
          obtain ⟨_, _, _, f3, f5⟩ := wordF hs hb9
          k_steps
          refine hold_in (loop false ([c], r) _ ⟨_, ⟨_, _, _, _, _, _, _, _, rfl, (by assumption), (by assumption), ⟨h0, .inl ⟨rfl, hr⟩⟩, hs'⟩, by simp, by simp only [List.length_singleton]; omega, tok_head hb9, rest_head hb9⟩)
        | true =>
          obtain ⟨_, _, _, f3, f4, f5⟩ := punF hb9
          k_steps
          refine hold_in (loop true ([c], r) _ ⟨_, ⟨_, _, _, _, _, _, _, _, rfl, (by assumption), (by assumption), ⟨h0, .inl ⟨rfl, hr⟩⟩, hs'⟩, by simp, by simp only [List.length_singleton]; omega, tok_head hb9, rest_head hb9⟩)
  trivial
theorem c_rt (w : World) (LO : List Str) (mean : ExcName → Option Value) (mg mb : Str → Option Value) (K : LexC) (ok : K.Ok) (P : List Nat) (small : List (Addr × Obj)) (hP : ∀ c ∈ P, sgn c = true) (hP9 : P.length ≤ 9) (hat : LexAt K P small) :
   Claim w LO mean mg mb 6 60 742 [.ref K.x] [] small (fun v small' => ∃ t, v = .str ⟨(tokOf P).toArray⟩ t ∧ LexAt K (restOf P) small') := (by exact whole_of _ : Whole by_lay)
end
section
-- part F6

set_option Elab.async false
set_option maxRecDepth 100000
set_option maxHeartbeats 8000000
theorem fresh_F6 : True := by
  w_top off
  k_with_none
  k_with "small" => first | exact Int.toNat_natCast _ | with_reducible exact Nat.mod_lt _ (by decide) | with_reducible exact fm2_lt _ | with_reducible exact fm2_ge _ | with_reducible exact fm4_lt _ _ | with_reducible exact fm4_ge _ _ | with_reducible exact em_lt _ | with_reducible exact em_gt _ | with_reducible exact nat_gt _ | with_reducible exact Int.natCast_nonneg _ | with_reducible exact nat_gt1 _ | with_reducible exact room2 (by assumption) (by decide) | with_reducible exact room1 (by assumption) (by decide) | with_reducible exact room3 (by assumption) (by decide) | with_reducible exact room4 (by assumption) (by decide) | with_reducible exact room0 (by assumption) | with_reducible exact le_le (by assumption) (by decide) | with_reducible exact le_eq (by assumption) (by decide) | with_reducible exact lt_le (by assumption) (by decide) | with_reducible exact sub_one (by assumption) | with_reducible exact sub_j (by assumption) | with_reducible exact sub_dec (by assumption) | with_reducible exact toNat_pred _ | with_reducible exact nat_ge _
  k_with "ne" => first | with_reducible exact Apart.l (by assumption) | with_reducible exact Apart.r (by assumption) | with_reducible exact gt1 (by assumption) | with_reducible exact lt1 (by assumption) | with_reducible exact gt2 (by assumption) | with_reducible exact lt2 (by assumption) | with_reducible exact gl2 (by assumption) | with_reducible exact ll2 (by assumption) | with_reducible exact gt3 (by assumption) | with_reducible exact lt3 (by assumption) | with_reducible exact gl3 (by assumption) | with_reducible exact ll3 (by assumption) | with_reducible exact gt4 (by assumption) | with_reducible exact gl4 (by assumption) | with_reducible exact ll4 (by assumption) | with_reducible exact gl5 (by assumption) | with_reducible exact gl6 (by assumption) | with_reducible exact gl7 (by assumption) | with_reducible exact gl8 (by assumption) | with_reducible exact gl9 (by assumption) | with_reducible exact gl10 (by assumption) | with_reducible exact gl11 (by assumption)
  k_with "k_room" => ((try simp only [depth_under_make, depth_under_kw, depth_in1, depth_deeper, depth_caller]); first | decide | ktr_room)
  k_with "cell_enter" => (refine' code_defG (by k_asm) (by k_asm) (by k_asm) (by k_asm) (by k_asm) rfl rfl (by assumption) (by k_is) (by k_is) (by ktr_room) (by first | exact BindsTo.of_eq rfl | exact binds_K (by k_in) rfl (by k_is) rfl rfl rfl) (by exact locs rfl) ?_ (by exact rfl) (by exact rfl) (by exact rfl) (by decide); k_whole; intro g' L' h' FG' F' N' B' X' T' GS'; (try dsimp only); (try k_lift B'); (try k_fold))
  k_with "exec If" => (k_here; dsimp only)
  k_with "execs cons" => (k_here; dsimp only)
  k_with "isTrue" => (k_here; dsimp only)
  k_with "exec Assign" => (k_here; dsimp only)
  k_with "exec Expr" => (k_here; dsimp only)
  k_with "eval Attribute" => (k_here; dsimp only)
  k_with "execs nil" => (k_here; dsimp only)
  k_with "execs cons" => (k_here; (try dsimp only); (with_reducible refine toks_gen ?_); intro tk')
  k_with "execs nil" => (k_here; (try dsimp only); (with_reducible refine toks_gen ?_); intro tk')
  trivial

/-- the lexer's ledger, whatever its state -/
structure LexV where
  st : Value
  tok : Value
  p : Int
  tp : Tok
  n3 : Int
  pb : List Value
noncomputable abbrev LexC.at (K : LexC) (v : LexV) : List (Addr × Obj) := K.led v.st v.tok v.p v.tp v.n3 v.pb
theorem LexAt.led {K : LexC} {P : List Nat} {small : List (Addr × Obj)} (h : LexAt K P small) : ∃ v : LexV, small = K.at v := by
  cases h with
  | ended h0 hr => exact ⟨⟨_, _, _, _, _, _⟩, rfl⟩
  | live h0 hr => exact ⟨⟨_, _, _, _, _, _⟩, rfl⟩
section
variable {w : World} {LO : List Str} {mean : ExcName → Option Value} {mg mb : Str → Option Value} {K : LexC} {P : List Nat} {v : LexV}
  {dp un : Nat} {gd : Option (List Code)} {cn : Str} {cs : Scope} {a : Addr} {ccd : Value} {cl : List (Str × Addr)} {outer : List Env} {A₀ : Around} {base h₀ : Heap} {L : Addr} {m : Str → Option Value} {s : Shared} {Q E : Value → Shared → Prop}
theorem use_rt (hB : Below A₀ base outer h₀) (hF : Fr h₀ L s.heap m) (hX : (hdK.heap_1 w.params).In h₀) (hN : News h₀ L s.heap (K.at v)) (hT : Top hdK.view_39 LO mean mg mb h₀) (hcs : cs.kind = .function) (hdp : dp + 6 < recursionLimit) (hun : un + 60 < cLine)
    (ok : K.Ok) (hP : ∀ c ∈ P, sgn c = true) (hP9 : P.length ≤ 9) (hat : LexAt K P (K.at v))
    (h : ∀ t v' h' tk, LexAt K (restOf P) (K.at v') → Fr h₀ L h' m → News h₀ L h' (K.at v') → Q (.str ⟨(tokOf P).toArray⟩ t) { s with heap := h', toks := tk }) :
    wpAny (model PySem.Challenge.rw_op0282_01.row.prog w) (ktrTop dp un gd cn cs L a ccd cl outer) (call (.ref 742) [.ref K.x]) Q E s := by
  refine c_rt w LO mean mg mb K ok P _ hP hP9 hat dp un gd cn cs a ccd cl outer A₀ base h₀ L m s Q E hB hF hX hN hT hcs hdp hun ?_
  rintro r small' h' tk ⟨t, rfl, hat'⟩ F' N' _
  obtain ⟨v', rfl⟩ := hat'.led
  exact h t v' h' tk hat' F' N'
end
theorem tok_ne {c : Nat} {r : List Nat} : ((⟨(tokOf (c :: r)).toArray⟩ : Str) == Str.ofString "") = false := by
  rw [str_empty, tokOf]
  rfl
theorem lay_F6_1 : True := by
  k_with "truthy ref" => (k_here; (with_reducible show wpAny _ _ (truthy (Value.ref _)) _ _ _); (first | (with_unfolding_all refine' dq_truthy_one (by k_asm) (by k_mem) ?_; k_whole) | (with_unfolding_all refine' dq_truthy_nil (by k_asm) (by k_mem) ?_; k_whole)))
  k_with "call ref" => ((show wpAny _ _ (call (Value.ref 742) _ _) _ _ _); refine hold_out ?_)
  trivial
theorem c_gt (w : World) (LO : List Str) (mean : ExcName → Option Value) (mg mb : Str → Option Value) (K : LexC) (ok : K.Ok) (P : List Nat) (v : LexV) (hP : ∀ c ∈ P, sgn c = true) (hP9 : P.length ≤ 9) (hat : LexAt K P (K.at v)) :
   Claim w LO mean mg mb 8 80 735 [.ref K.x] [] (K.at v) (fun r small' => ∃ t v', r = .str ⟨(tokOf P).toArray⟩ t ∧ small' = K.at v' ∧ LexAt K (restOf P) (K.at v')) := by
  obtain ⟨x, d, y, e, q1, q2, q3, H, h1, h2, h3, t1, t2, t3, t4, t5, txt, ln, n1, n2⟩ := K
  obtain ⟨st, tok, p, tp, n3, pb⟩ := v
  have ok' := ok
  obtain ⟨ha, hb, hc, hd, he, hf, hlen⟩ := ok
  dsimp only at ha hb hc hd he hf hlen
  unfold Claim
  k_fill
  intro dp un gd cn cs a ccd cl outer A₀ base h₀ L m s Q E hB hF hX hN hT hcs hdp hun hret
  dsimp only [LexC.at, LexC.led] at hN hat hret ⊢
  refine wpAny_call ?_
  k_dflt (refine' code_defG ?k1 ?k2 ?k3 ?k4 ?k5 ?kA ?kF ?kK ?k6 ?k7 ?k8 ?k9 ?kB ?_ ?c2 ?c3 ?c4 ?c5; (case kA => exact rfl); (case kF => exact rfl); (case kK => assumption); (case k1 => k_asm); (case k2 => k_asm); (case k3 => k_asm); (case k4 => k_asm); (case k5 => k_asm); (case k6 => k_is); (case k7 => k_is); (case k8 => ktr_room); (case k9 => first | exact BindsTo.of_eq rfl | exact binds_K (by k_in) rfl (by k_is) rfl rfl rfl); (case c5 => decide); (case kB => exact locs rfl); (case c2 => exact rfl); (case c3 => exact rfl); (case c4 => exact rfl); k_whole)
  intro g' L' hp1 FG' F1 N1 B' X' T' GS'
  replace F1 := fr_clean [(Str.ofString "self", Value.ref x)] F1 (by rfl)
  (try dsimp only)
  k_lift B'
  (try k_fold)
  k_steps
  refine hold_in ?_
  k_dflt (refine' use_rt (K := ⟨x, d, y, e, q1, q2, q3, H, h1, h2, h3, t1, t2, t3, t4, t5, txt, ln, n1, n2⟩) (v := ⟨st, tok, p, tp, n3, pb⟩) ?k1 ?k2 ?k3 ?k4 ?k5 ?k6 ?k7 ?k8 ok' hP hP9 hat ?_; (case k1 => k_asm); (case k2 => k_asm); (case k3 => k_asm); (case k4 => k_asm); (case k5 => k_asm); (case k6 => exact rfl); (case k7 => ktr_room); (case k8 => ktr_units))
  rintro ta ⟨st', tok', p', tp', n3', pb'⟩ hp2 tk' hat' F2 N2
  dsimp only [LexC.at, LexC.led] at hat' N2 ⊢
  cases P with
  | nil =>
    k_steps
    exact hret _ _ _ _ ⟨_, ⟨st', tok', p', tp', n3', pb'⟩, by rw [tokOf, str_empty], rfl, hat'⟩ (by assumption) (by assumption) (gsub_keep (by assumption) (by assumption))
  | cons c r =>
    have hne := @tok_ne c r
    k_steps
    exact hret _ _ _ _ ⟨_, ⟨st', tok', p', tp', n3', pb'⟩, rfl, rfl, hat'⟩ (by assumption) (by assumption) (gsub_keep (by assumption) (by assumption))
end
section
-- part F7

set_option Elab.async false
set_option maxRecDepth 100000
set_option maxHeartbeats 8000000
theorem fresh_F7 : True := by
  w_top off
  k_with_none
  k_with "small" => first | exact Int.toNat_natCast _ | with_reducible exact Nat.mod_lt _ (by decide) | with_reducible exact fm2_lt _ | with_reducible exact fm2_ge _ | with_reducible exact fm4_lt _ _ | with_reducible exact fm4_ge _ _ | with_reducible exact em_lt _ | with_reducible exact em_gt _ | with_reducible exact nat_gt _ | with_reducible exact Int.natCast_nonneg _ | with_reducible exact nat_gt1 _ | with_reducible exact room2 (by assumption) (by decide) | with_reducible exact room1 (by assumption) (by decide) | with_reducible exact room3 (by assumption) (by decide) | with_reducible exact room4 (by assumption) (by decide) | with_reducible exact room0 (by assumption) | with_reducible exact le_le (by assumption) (by decide) | with_reducible exact le_eq (by assumption) (by decide) | with_reducible exact lt_le (by assumption) (by decide) | with_reducible exact sub_one (by assumption) | with_reducible exact sub_j (by assumption) | with_reducible exact sub_dec (by assumption) | with_reducible exact toNat_pred _ | with_reducible exact nat_ge _
  k_with "ne" => first | with_reducible exact Apart.l (by assumption) | with_reducible exact Apart.r (by assumption) | with_reducible exact gt1 (by assumption) | with_reducible exact lt1 (by assumption) | with_reducible exact gt2 (by assumption) | with_reducible exact lt2 (by assumption) | with_reducible exact gl2 (by assumption) | with_reducible exact ll2 (by assumption) | with_reducible exact gt3 (by assumption) | with_reducible exact lt3 (by assumption) | with_reducible exact gl3 (by assumption) | with_reducible exact ll3 (by assumption) | with_reducible exact gt4 (by assumption) | with_reducible exact gl4 (by assumption) | with_reducible exact ll4 (by assumption) | with_reducible exact gl5 (by assumption) | with_reducible exact gl6 (by assumption) | with_reducible exact gl7 (by assumption) | with_reducible exact gl8 (by assumption) | with_reducible exact gl9 (by assumption) | with_reducible exact gl10 (by assumption) | with_reducible exact gl11 (by assumption)
  k_with "k_room" => ((try simp only [depth_under_make, depth_under_kw, depth_in1, depth_deeper, depth_caller]); first | decide | ktr_room)
  k_with "cell_enter" => (refine' code_defG (by k_asm) (by k_asm) (by k_asm) (by k_asm) (by k_asm) rfl rfl (by assumption) (by k_is) (by k_is) (by ktr_room) (by first | exact BindsTo.of_eq rfl | exact binds_K (by k_in) rfl (by k_is) rfl rfl rfl) (by exact locs rfl) ?_ (by exact rfl) (by exact rfl) (by exact rfl) (by decide); k_whole; intro g' L' h' FG' F' N' B' X' T' GS'; (try dsimp only); (try k_lift B'); (try k_fold))
  k_with "exec If" => (k_here; dsimp only)
  k_with "execs cons" => (k_here; dsimp only)
  k_with "isTrue" => (k_here; dsimp only)
  k_with "exec Assign" => (k_here; dsimp only)
  k_with "exec Expr" => (k_here; dsimp only)
  k_with "eval Attribute" => (k_here; dsimp only)
  k_with "execs nil" => (k_here; dsimp only)
  k_with "execs cons" => (k_here; (try dsimp only); (with_reducible refine toks_gen ?_); intro tk')
  k_with "execs nil" => (k_here; (try dsimp only); (with_reducible refine toks_gen ?_); intro tk')
  trivial

section
variable {w : World} {LO : List Str} {mean : ExcName → Option Value} {mg mb : Str → Option Value} {K : LexC} {P : List Nat} {v : LexV}
  {dp un : Nat} {gd : Option (List Code)} {cn : Str} {cs : Scope} {a : Addr} {ccd : Value} {cl : List (Str × Addr)} {outer : List Env} {A₀ : Around} {base h₀ : Heap} {L : Addr} {m : Str → Option Value} {s : Shared} {Q E : Value → Shared → Prop}
theorem use_gt (hB : Below A₀ base outer h₀) (hF : Fr h₀ L s.heap m) (hX : (hdK.heap_1 w.params).In h₀) (hN : News h₀ L s.heap (K.at v)) (hT : Top hdK.view_39 LO mean mg mb h₀) (hcs : cs.kind = .function) (hdp : dp + 8 < recursionLimit) (hun : un + 80 < cLine)
    (ok : K.Ok) (hP : ∀ c ∈ P, sgn c = true) (hP9 : P.length ≤ 9) (hat : LexAt K P (K.at v))
    (h : ∀ t v' h' tk, LexAt K (restOf P) (K.at v') → Fr h₀ L h' m → News h₀ L h' (K.at v') → Q (.str ⟨(tokOf P).toArray⟩ t) { s with heap := h', toks := tk }) :
    wpAny (model PySem.Challenge.rw_op0282_01.row.prog w) (ktrTop dp un gd cn cs L a ccd cl outer) (call (.ref 735) [.ref K.x]) Q E s := by
  refine c_gt w LO mean mg mb K ok P v hP hP9 hat dp un gd cn cs a ccd cl outer A₀ base h₀ L m s Q E hB hF hX hN hT hcs hdp hun ?_
  rintro r small' h' tk ⟨t, v', rfl, rfl, hat'⟩ F' N' _
  exact h t v' h' tk hat' F' N'
end
theorem lay_F7_1 : True := by
  k_with "call ref" => ((show wpAny _ _ (call (Value.ref 735) _ _) _ _ _); refine hold_out ?_)
  trivial
theorem c_nx (w : World) (LO : List Str) (mean : ExcName → Option Value) (mg mb : Str → Option Value) (K : LexC) (ok : K.Ok) (c : Nat) (r : List Nat) (v : LexV) (hP : ∀ k ∈ c :: r, sgn k = true) (hP9 : (c :: r).length ≤ 9) (hat : LexAt K (c :: r) (K.at v)) :
   Claim w LO mean mg mb 10 100 771 [.ref K.x] [] (K.at v) (fun u small' => ∃ t v', u = .str ⟨(tokOf (c :: r)).toArray⟩ t ∧ small' = K.at v' ∧ LexAt K (restOf (c :: r)) (K.at v')) := by
  obtain ⟨x, d, y, e, q1, q2, q3, H, h1, h2, h3, t1, t2, t3, t4, t5, txt, ln, n1, n2⟩ := K
  obtain ⟨st, tok, p, tp, n3, pb⟩ := v
  have ok' := ok
  obtain ⟨ha, hb, hc, hd, he, hf, hlen⟩ := ok
  dsimp only at ha hb hc hd he hf hlen
  unfold Claim
  k_fill
  intro dp un gd cn cs a ccd cl outer A₀ base h₀ L m s Q E hB hF hX hN hT hcs hdp hun hret
  dsimp only [LexC.at, LexC.led] at hN hat hret ⊢
  refine wpAny_call ?_
  k_dflt (refine' code_defG ?k1 ?k2 ?k3 ?k4 ?k5 ?kA ?kF ?kK ?k6 ?k7 ?k8 ?k9 ?kB ?_ ?c2 ?c3 ?c4 ?c5; (case kA => exact rfl); (case kF => exact rfl); (case kK => assumption); (case k1 => k_asm); (case k2 => k_asm); (case k3 => k_asm); (case k4 => k_asm); (case k5 => k_asm); (case k6 => k_is); (case k7 => k_is); (case k8 => ktr_room); (case k9 => first | exact BindsTo.of_eq rfl | exact binds_K (by k_in) rfl (by k_is) rfl rfl rfl); (case c5 => decide); (case kB => exact locs rfl); (case c2 => exact rfl); (case c3 => exact rfl); (case c4 => exact rfl); k_whole)
  intro g' L' hp1 FG' F1 N1 B' X' T' GS'
  replace F1 := fr_clean [(Str.ofString "self", Value.ref x)] F1 (by rfl)
  (try dsimp only)
  k_lift B'
  (try k_fold)
  k_steps
  refine hold_in ?_
  k_dflt (refine' use_gt (K := ⟨x, d, y, e, q1, q2, q3, H, h1, h2, h3, t1, t2, t3, t4, t5, txt, ln, n1, n2⟩) (v := ⟨st, tok, p, tp, n3, pb⟩) ?k1 ?k2 ?k3 ?k4 ?k5 ?k6 ?k7 ?k8 ok' hP hP9 hat ?_; (case k1 => k_asm); (case k2 => k_asm); (case k3 => k_asm); (case k4 => k_asm); (case k5 => k_asm); (case k6 => exact rfl); (case k7 => ktr_room); (case k8 => ktr_units))
  rintro ta ⟨st', tok', p', tp', n3', pb'⟩ hp2 tk' hat' F2 N2
  dsimp only [LexC.at, LexC.led] at hat' N2 ⊢
  have hne := @tok_ne c r
  k_steps
  exact hret _ _ _ _ ⟨_, ⟨st', tok', p', tp', n3', pb'⟩, rfl, rfl, hat'⟩ (by assumption) (by assumption) (gsub_keep (by assumption) (by assumption))
theorem lay_F7_2 : True := by
  k_with "leaving ref" => (k_here; (refine' leave_raiseS (by assumption) (by first | assumption | exact Heap.MadeExc.of (by assumption)) (by assumption) (by k_asm) ?_; k_whole; intro _ _ S' R' U'; (try dsimp only at S' R' U' ⊢)))
  k_with "OwitStop" => (refine hold_out ?_)
  trivial
/-- the frame's base after an exception has gone through it: the slots of the frames' own objects may differ -/
structure Turned (w : World) (LO : List Str) (mean : ExcName → Option Value) (mg mb : Str → Option Value) (A₀ : Around) (base h₀ : Heap) (outer : List Env) (L : Addr) (m : Str → Option Value) (hs : Heap) (adr : List Addr) (g : Heap) (h' : Heap) : Prop where
  turn : KtsTurn (outer.filterMap (·.frame)) h₀ g
  fr : Fr g L h' m
  below : Below A₀ base outer g
  x : (hdK.heap_1 w.params).In g
  top : Top hdK.view_39 LO mean mg mb g
  rest : ∀ p : Addr × Obj, hs.get? p.1 = some p.2 → p.1 ≠ L → h₀.get? p.1 = none → p.1 ∉ adr → h'.get? p.1 = some p.2
theorem Turned.news {w : World} {LO : List Str} {mean : ExcName → Option Value} {mg mb : Str → Option Value} {A₀ : Around} {base h₀ : Heap} {outer : List Env} {L : Addr} {m : Str → Option Value} {hs : Heap} {adr : List Addr} {g h' : Heap} (T : Turned w LO mean mg mb A₀ base h₀ outer L m hs adr g h') {rest : List (Addr × Obj)} (N : News h₀ L hs rest) (off : ∀ p ∈ rest, p.1 ∉ adr) : News g L h' rest := fun p hp =>
  ⟨T.rest p (N p hp).1 (N p hp).2.1 (N p hp).2.2 (off p hp), (N p hp).2.1, T.turn.none_ _ (N p hp).2.2⟩
theorem turned_of {w : World} {LO : List Str} {mean : ExcName → Option Value} {mg mb : Str → Option Value} {A₀ : Around} {base h₀ g h' hs : Heap} {outer : List Env} {L a : Addr} {m : Str → Option Value} {cn : Str} {cs : Scope} {ccd cls : Value} {e t : Addr} {vs : List Value} {small news : List (Addr × Obj)}
    (XB : (hdK.heap_1 w.params).In base) (TB : Top hdK.view_39 LO mean mg mb base) (hB : Below A₀ base outer h₀) (FG : Fr h₀ L g m) (GS : GSub hs g (small.map (·.1)))
    (R : RaisedS base g (envX cn cs L a ccd [] :: outer) e cls t vs news h') (U : g.UpToSlots h') :
    ∃ g'', Turned w LO mean mg mb A₀ base h₀ outer L m hs (small.map (·.1)) g'' h' ∧ News g'' L h' news ∧ ∃ o, h'.get? e = some o ∧ o.cls = cls := by
  obtain ⟨⟨B, hBs, hBG, hl, hfl, hnew⟩, htup⟩ := R
  obtain ⟨g'', T, F'', B''⟩ := kts_ground (name := cn) (scope := cs) (a := a) (cd := ccd) hB FG hBG hfl.1 U
  refine ⟨g'', ⟨T, F'', B'', XB.keeps B''.stays, TB.keeps B''.stays, fun p hp hpL hp0 hpa => ?_⟩, fun p hp => ⟨hfl.1 _ _ (hl p hp).1, fun z => ?_, T.none_ _ ?_⟩, hfl.there⟩
  · refine hfl.1 _ _ (hBG _ _ (GS _ _ hp hpa) fun hm => ?_)
    rcases List.mem_filterMap.mp hm with ⟨env, he, hf⟩
    rcases List.mem_cons.mp he with rfl | he
    · exact hpL (Option.some.inj hf).symm
    · obtain ⟨_, o, ho, _⟩ := hB.frames.mem (List.mem_filterMap.mpr ⟨env, he, hf⟩)
      rw [hp0] at ho; cases ho
  · obtain ⟨oL, _, _, hL, _⟩ := FG.ns
    have := (hl p hp).2.1
    rw [z, hL] at this; cases this
  · exact kts_none FG.keep (hl p hp).2.1
theorem c_stop (w : World) (LO : List Str) (mean : ExcName → Option Value) (mg mb : Str → Option Value) (K : LexC) (ok : K.Ok) (v : LexV) (hat : LexAt K [] (K.at v))
  (dp un : Nat) (gd : Option (List Code)) (cn : Str) (cs : Scope) (a : Addr) (ccd : Value) (outer : List Env) (A₀ : Around) (base h₀ : Heap) (L : Addr) (m : Str → Option Value) (s : Shared) (Q : Option Value → Shared → Prop) (E : Value → Shared → Prop)
  (XB : (hdK.heap_1 w.params).In base) (TB : Top hdK.view_39 LO mean mg mb base)
  (hB : Below A₀ base outer h₀) (hF : Fr h₀ L s.heap m) (hX : (hdK.heap_1 w.params).In h₀) (hN : News h₀ L s.heap (K.at v)) (hT : Top hdK.view_39 LO mean mg mb h₀) (hcs : cs.kind = .function)
  (hdp : dp + 10 < recursionLimit) (hun : un + 100 < cLine)
  (hret : ∀ v' g h' tk, LexAt K [] (K.at v') → Turned w LO mean mg mb A₀ base h₀ outer L m s.heap ((K.at v).map (·.1)) g h' → News g L h' (K.at v') → Q none { s with heap := h', toks := tk }) :
  wpAny (model PySem.Challenge.rw_op0282_01.row.prog w) (ktrTop dp un gd cn cs L a ccd [] outer) (call (.ref 771) [.ref K.x]) (fun v s' => Q (some v) s') (OwitStop (model PySem.Challenge.rw_op0282_01.row.prog w) (ktrTop dp un gd cn cs L a ccd [] outer) Q E) s := by
  obtain ⟨x, d, y, e, q1, q2, q3, H, h1, h2, h3, t1, t2, t3, t4, t5, txt, ln, n1, n2⟩ := K
  obtain ⟨st, tok, p, tp, n3, pb⟩ := v
  have ok' := ok
  obtain ⟨ha, hb, hc, hd, he, hf, hlen⟩ := ok
  dsimp only at ha hb hc hd he hf hlen
  revert XB TB
  k_fill
  intro XB TB
  dsimp only [LexC.at, LexC.led] at hN hat hret ⊢
  refine wpAny_call ?_
  k_dflt (refine' code_defG ?k1 ?k2 ?k3 ?k4 ?k5 ?kA ?kF ?kK ?k6 ?k7 ?k8 ?k9 ?kB ?_ ?c2 ?c3 ?c4 ?c5; (case kA => exact rfl); (case kF => exact rfl); (case kK => assumption); (case k1 => k_asm); (case k2 => k_asm); (case k3 => k_asm); (case k4 => k_asm); (case k5 => k_asm); (case k6 => k_is); (case k7 => k_is); (case k8 => ktr_room); (case k9 => first | exact BindsTo.of_eq rfl | exact binds_K (by k_in) rfl (by k_is) rfl rfl rfl); (case c5 => decide); (case kB => exact locs rfl); (case c2 => exact rfl); (case c3 => exact rfl); (case c4 => exact rfl); k_whole)
  intro g' L' hp1 FG' F1 N1 B' X' T' GS'
  replace F1 := fr_clean [(Str.ofString "self", Value.ref x)] F1 (by rfl)
  (try dsimp only)
  k_lift B'
  (try k_fold)
  k_steps
  refine hold_in ?_
  k_dflt (refine' use_gt (K := ⟨x, d, y, e, q1, q2, q3, H, h1, h2, h3, t1, t2, t3, t4, t5, txt, ln, n1, n2⟩) (v := ⟨st, tok, p, tp, n3, pb⟩) ?k1 ?k2 ?k3 ?k4 ?k5 ?k6 ?k7 ?k8 ok' (P := []) (by simp) (by simp) hat ?_; (case k1 => k_asm); (case k2 => k_asm); (case k3 => k_asm); (case k4 => k_asm); (case k5 => k_asm); (case k6 => exact rfl); (case k7 => ktr_room); (case k8 => ktr_units))
  rintro ta ⟨st', tok', p', tp', n3', pb'⟩ hp2 tk' hat' F2 N2
  dsimp only [LexC.at, LexC.led, tokOf, restOf] at hat' N2 ⊢
  have e0 : (⟨([] : List Nat).toArray⟩ : Str) = Str.ofString "" := str_empty.symm
  rw [e0]
  k_steps
  refine hold_in ?_
  (rename RaisedS _ _ _ _ _ _ _ _ _ => RS)
  (rename Heap.UpToSlots _ _ => US)
  obtain ⟨g9, T9, N9, o9, ho9, hc9⟩ := turned_of XB TB hB FG' GS' RS US
  unfold OwitStop
  refine wpAny_isInstance (T := "StopIteration") (b := true) ⟨o9, ho9, hc9⟩ isSubtype_stop ?_
  rw [if_pos rfl]
  exact hret ⟨st', tok', p', tp', n3', pb'⟩ g9 _ _ hat' T9 N9
end
section
-- part F8

set_option Elab.async false
set_option maxRecDepth 100000
set_option maxHeartbeats 8000000
theorem fresh_F8 : True := by
  w_top off
  k_with_none
  k_with "small" => first | exact Int.toNat_natCast _ | with_reducible exact Nat.mod_lt _ (by decide) | with_reducible exact fm2_lt _ | with_reducible exact fm2_ge _ | with_reducible exact fm4_lt _ _ | with_reducible exact fm4_ge _ _ | with_reducible exact em_lt _ | with_reducible exact em_gt _ | with_reducible exact nat_gt _ | with_reducible exact Int.natCast_nonneg _ | with_reducible exact nat_gt1 _ | with_reducible exact room2 (by assumption) (by decide) | with_reducible exact room1 (by assumption) (by decide) | with_reducible exact room3 (by assumption) (by decide) | with_reducible exact room4 (by assumption) (by decide) | with_reducible exact room0 (by assumption) | with_reducible exact le_le (by assumption) (by decide) | with_reducible exact le_eq (by assumption) (by decide) | with_reducible exact lt_le (by assumption) (by decide) | with_reducible exact sub_one (by assumption) | with_reducible exact sub_j (by assumption) | with_reducible exact sub_dec (by assumption) | with_reducible exact toNat_pred _ | with_reducible exact nat_ge _
  k_with "ne" => first | with_reducible exact Apart.l (by assumption) | with_reducible exact Apart.r (by assumption) | with_reducible exact gt1 (by assumption) | with_reducible exact lt1 (by assumption) | with_reducible exact gt2 (by assumption) | with_reducible exact lt2 (by assumption) | with_reducible exact gl2 (by assumption) | with_reducible exact ll2 (by assumption) | with_reducible exact gt3 (by assumption) | with_reducible exact lt3 (by assumption) | with_reducible exact gl3 (by assumption) | with_reducible exact ll3 (by assumption) | with_reducible exact gt4 (by assumption) | with_reducible exact gl4 (by assumption) | with_reducible exact ll4 (by assumption) | with_reducible exact gl5 (by assumption) | with_reducible exact gl6 (by assumption) | with_reducible exact gl7 (by assumption) | with_reducible exact gl8 (by assumption) | with_reducible exact gl9 (by assumption) | with_reducible exact gl10 (by assumption) | with_reducible exact gl11 (by assumption)
  k_with "k_room" => ((try simp only [depth_under_make, depth_under_kw, depth_in1, depth_deeper, depth_caller]); first | decide | ktr_room)
  k_with "cell_enter" => (refine' code_defG (by k_asm) (by k_asm) (by k_asm) (by k_asm) (by k_asm) rfl rfl (by assumption) (by k_is) (by k_is) (by ktr_room) (by first | exact BindsTo.of_eq rfl | exact binds_K (by k_in) rfl (by k_is) rfl rfl rfl) (by exact locs rfl) ?_ (by exact rfl) (by exact rfl) (by exact rfl) (by decide); k_whole; intro g' L' h' FG' F' N' B' X' T' GS'; (try dsimp only); (try k_lift B'); (try k_fold))
  k_with "exec If" => (k_here; dsimp only)
  k_with "execs cons" => (k_here; dsimp only)
  k_with "isTrue" => (k_here; dsimp only)
  k_with "exec Assign" => (k_here; dsimp only)
  k_with "exec Expr" => (k_here; dsimp only)
  k_with "eval Attribute" => (k_here; dsimp only)
  k_with "execs nil" => (k_here; dsimp only)
  k_with "execs cons" => (k_here; (try dsimp only); (with_reducible refine toks_gen ?_); intro tk')
  k_with "execs nil" => (k_here; (try dsimp only); (with_reducible refine toks_gen ?_); intro tk')
  trivial

/-- the runs of a row's signs -/
noncomputable def runs : List Nat → List (List Nat)
  | [] => []
  | c :: r => match runs r with
    | (k :: t) :: rs => if pun k == pun c then (c :: k :: t) :: rs else [c] :: (k :: t) :: rs
    | _ => [[c]]
theorem runs_step : ∀ (r : List Nat) (c : Nat), runs (c :: r) = tokOf (c :: r) :: runs (restOf (c :: r))
  | [], c => rfl
  | k :: r, c => by
    have ih := runs_step r k
    rw [runs, ih]
    simp only [tokOf, restOf, List.takeWhile_cons, List.dropWhile_cons]
    by_cases h : pun k == pun c
    · have e : pun k = pun c := by simpa using h
      simp only [h, e, if_true, beq_self_eq_true]
    · simp only [h, if_false]
      have h' : (pun k == pun c) = false := by simpa using h
      simp only [h', Bool.false_eq_true, if_false]
      rw [ih]; rfl
noncomputable def toStrs (l : List (List Nat)) : List Str := l.map fun x => ⟨x.toArray⟩
theorem rest_len (c : Nat) (r : List Nat) : (restOf (c :: r)).length ≤ r.length := (List.dropWhile_sublist _).length_le
theorem rest_sgn {P : List Nat} (h : ∀ c ∈ P, sgn c = true) : ∀ c ∈ restOf P, sgn c = true := by
  cases P with
  | nil => exact h
  | cons k r => exact fun c hc => h c (.tail _ (List.dropWhile_sublist _ |>.subset hc))
theorem c_iter (w : World) (LO : List Str) (mean : ExcName → Option Value) (mg mb : Str → Option Value) (x : Addr) :
   Claim w LO mean mg mb 2 20 764 [.ref x] [] [] (fun r small' => r = .ref x ∧ small' = []) := by
  unfold Claim
  k_fill
  intro dp un gd cn cs a ccd cl outer A₀ base h₀ L m s Q E hB hF hX hN hT hcs hdp hun hret
  refine wpAny_call ?_
  k_dflt (refine' code_defG ?k1 ?k2 ?k3 ?k4 ?k5 ?kA ?kF ?kK ?k6 ?k7 ?k8 ?k9 ?kB ?_ ?c2 ?c3 ?c4 ?c5; (case kA => exact rfl); (case kF => exact rfl); (case kK => assumption); (case k1 => k_asm); (case k2 => k_asm); (case k3 => k_asm); (case k4 => k_asm); (case k5 => k_asm); (case k6 => k_is); (case k7 => k_is); (case k8 => ktr_room); (case k9 => first | exact BindsTo.of_eq rfl | exact binds_K (by k_in) rfl (by k_is) rfl rfl rfl); (case c5 => decide); (case kB => exact locs rfl); (case c2 => exact rfl); (case c3 => exact rfl); (case c4 => exact rfl); k_whole)
  intro g' L' hp1 FG' F1 N1 B' X' T' GS'
  replace F1 := fr_clean [(Str.ofString "self", Value.ref x)] F1 (by rfl)
  (try dsimp only)
  k_lift B'
  (try k_fold)
  k_steps
  exact hret _ [] _ _ ⟨rfl, rfl⟩ (by assumption) (fun _ h => nomatch h) (gsub_keep (by assumption) (by assumption))
noncomputable abbrev LexC.adr (K : LexC) : List Addr := [K.x, K.d, K.y, K.e, K.q1, K.q2, K.q3]
theorem LexC.at_adr (K : LexC) (v : LexV) : (K.at v).map (·.1) = K.adr := rfl
theorem upd_mid {D : Addr} {o o' : Obj} {post : List (Addr × Obj)} (h2 : ∀ p ∈ post, p.1 ≠ D) : ∀ {pre : List (Addr × Obj)}, (∀ p ∈ pre, p.1 ≠ D) → Upd D o o' (pre ++ (D, o) :: post) (pre ++ (D, o') :: post)
  | [], _ => .head h2
  | q :: pre, h => .tail (h q (.head _)) (upd_mid h2 fun p hp => h p (.tail _ hp))
theorem inst_lex {h₀ h : Heap} {L : Addr} {K : LexC} {v : LexV} {rest : List (Addr × Obj)} (N : News h₀ L h (K.at v ++ rest)) : ∃ od, InstAt h K.x (instObj 774 K.d) 774 (some od) :=
  ⟨_, InstAt.of_news N (List.mem_append_left _ (.head _)) (List.mem_append_left _ (.tail _ (.head _)))⟩
theorem Turned.step {w : World} {LO : List Str} {mean : ExcName → Option Value} {mg mb : Str → Option Value} {A₀ : Around} {base h₀ : Heap} {outer : List Env} {L : Addr} {m : Str → Option Value} {hs hs' : Heap} {adr adr' : List Addr} {g h' : Heap} (T : Turned w LO mean mg mb A₀ base h₀ outer L m hs' adr' g h')
    (k : ∀ p : Addr × Obj, hs.get? p.1 = some p.2 → p.1 ≠ L → h₀.get? p.1 = none → p.1 ∉ adr → hs'.get? p.1 = some p.2 ∧ p.1 ∉ adr') : Turned w LO mean mg mb A₀ base h₀ outer L m hs adr g h' :=
  ⟨T.turn, T.fr, T.below, T.x, T.top, fun p a b c d => T.rest p (k p a b c d).1 b c (k p a b c d).2⟩
theorem nx_stop  {w : World} {LO : List Str} {mean : ExcName → Option Value} {mg mb : Str → Option Value} {K : LexC}
  {dp un : Nat} {gd : Option (List Code)} {cn : Str} {cs : Scope} {a : Addr} {ccd : Value} {outer : List Env} {A₀ : Around} {base h₀ : Heap} {L : Addr} {m : Str → Option Value} {v : LexV} {rest : List (Addr × Obj)} {s : Shared} {Q : Option Value → Shared → Prop} {E : Value → Shared → Prop}
    (XB : (hdK.heap_1 w.params).In base) (TB : Top hdK.view_39 LO mean mg mb base)
    (hB : Below A₀ base outer h₀) (hX : (hdK.heap_1 w.params).In h₀) (hT : Top hdK.view_39 LO mean mg mb h₀) (hcs : cs.kind = .function)
    (hdp : dp + 10 < recursionLimit) (hun : un + 100 < cLine) (ok : K.Ok) (hat : LexAt K [] (K.at v)) (hF : Fr h₀ L s.heap m) (hN : News h₀ L s.heap (K.at v ++ rest))
    (hret : ∀ v' g h' tk, LexAt K [] (K.at v') → Turned w LO mean mg mb A₀ base h₀ outer L m s.heap K.adr g h' → News g L h' (K.at v') → Q none { s with heap := h', toks := tk }) :
    wpAny (model PySem.Challenge.rw_op0282_01.row.prog w) (ktrTop dp un gd cn cs L a ccd [] outer) (pyNext (.ref K.x)) Q E s := by
  obtain ⟨od, hI⟩ := inst_lex hN
  exact owit_next (f := 771) hF hX hI (by k_is) (by k_is) (c_stop w LO mean mg mb K ok v hat dp un gd cn cs a ccd outer A₀ base h₀ L m s Q E XB TB hB hF hX (fun p hp => hN p (List.mem_append_left _ hp)) hT hcs hdp hun hret)
theorem nx_more  {w : World} {LO : List Str} {mean : ExcName → Option Value} {mg mb : Str → Option Value} {K : LexC}
  {dp un : Nat} {gd : Option (List Code)} {cn : Str} {cs : Scope} {a : Addr} {ccd : Value} {outer : List Env} {A₀ : Around} {base h₀ : Heap} {L : Addr} {m : Str → Option Value} {c : Nat} {r : List Nat} {v : LexV} {rest : List (Addr × Obj)} {s : Shared} {Q : Option Value → Shared → Prop} {E : Value → Shared → Prop}
    (hB : Below A₀ base outer h₀) (hX : (hdK.heap_1 w.params).In h₀) (hT : Top hdK.view_39 LO mean mg mb h₀) (hcs : cs.kind = .function)
    (hdp : dp + 10 < recursionLimit) (hun : un + 100 < cLine) (ok : K.Ok) (hP : ∀ k ∈ c :: r, sgn k = true) (hP9 : (c :: r).length ≤ 9) (hat : LexAt K (c :: r) (K.at v)) (hF : Fr h₀ L s.heap m) (hN : News h₀ L s.heap (K.at v ++ rest)) (hoff : ∀ p ∈ rest, p.1 ∉ K.adr)
    (hret : ∀ t v' h' tk, LexAt K (restOf (c :: r)) (K.at v') → Fr h₀ L h' m → News h₀ L h' (K.at v' ++ rest) → GSub s.heap h' K.adr → Q (some (Value.str ⟨(tokOf (c :: r)).toArray⟩ t)) { s with heap := h', toks := tk }) :
    wpAny (model PySem.Challenge.rw_op0282_01.row.prog w) (ktrTop dp un gd cn cs L a ccd [] outer) (pyNext (.ref K.x)) Q E s := by
  obtain ⟨od, hI⟩ := inst_lex hN
  refine owit_next (f := 771) hF hX hI (by k_is) (by k_is) (c_nx w LO mean mg mb K ok c r v hP hP9 hat dp un gd cn cs a ccd [] outer A₀ base h₀ L m s _ _ hB hF hX (fun p hp => hN p (List.mem_append_left _ hp)) hT hcs hdp hun ?_)
  rintro u small' h' tk ⟨t, v', rfl, rfl, hat'⟩ F' N' G'
  exact hret t v' h' tk hat' F' (news_on N' (fun p hp => hN p (List.mem_append_right _ hp)) G' hoff) G'
theorem lex_loop  {w : World} {LO : List Str} {mean : ExcName → Option Value} {mg mb : Str → Option Value} {K : LexC}
  {dp un : Nat} {gd : Option (List Code)} {cn : Str} {cs : Scope} {a : Addr} {ccd : Value} {outer : List Env} {A₀ : Around} {base h₀ : Heap} {L : Addr} {m : Str → Option Value}
    {R : Result → Shared → Prop} {D : Addr} {rest : List (Addr × Obj)}
    (XB : (hdK.heap_1 w.params).In base) (TB : Top hdK.view_39 LO mean mg mb base)
    (hB : Below A₀ base outer h₀) (hX : (hdK.heap_1 w.params).In h₀) (hT : Top hdK.view_39 LO mean mg mb h₀) (hcs : cs.kind = .function)
    (hdp : dp + 12 < recursionLimit) (hun : un + 120 < cLine) (ok : K.Ok) (hoff : ∀ p ∈ rest, p.1 ∉ K.adr) (hD : D ∉ K.adr) (hDr : ∀ p ∈ rest, p.1 ≠ D) :
    ∀ (N : Nat) (P : List Nat) (v : LexV) (vs : List Value) (ys : List Str) (n : Nat) (s : Shared), P.length ≤ N → (∀ c ∈ P, sgn c = true) → P.length ≤ 9 → LexAt K P (K.at v) → Fr h₀ L s.heap m →
      News h₀ L s.heap (K.at v ++ (D, listOf vs.toArray n) :: rest) → StrsAre vs ys → vs.length + P.length ≤ 20 →
      (∀ vs' n' g h' tk, StrsAre vs' (ys ++ toStrs (runs P)) → vs'.length ≤ vs.length + P.length → Turned w LO mean mg mb A₀ base h₀ outer L m s.heap (D :: K.adr) g h' → News g L h' ((D, listOf vs'.toArray n') :: rest) → R (.ok (.ret .none)) { s with heap := h', toks := tk }) →
      codeAny (model PySem.Challenge.rw_op0282_01.row.prog w) (ktrTop dp un gd cn cs L a ccd [] outer) (.builtin "list.extend.loop" ⟨[.ref D, .ref K.x, .none], []⟩) R s := by
  intro N
  induction N with
  | zero =>
    intro P v vs ys n s hPN hP hP9 hat hF hN hsa hlen hR
    obtain rfl : P = [] := List.length_eq_zero_iff.mp (Nat.le_zero.mp hPN)
    refine codeAny_builtin PySem.F.entry_extend_loop ?_
    rw [Around.under_plainId PySem.F.plain_extend_loop _]
    show wpAny _ (ktrTop dp (un + 1) gd cn cs L a ccd [] outer) (pyNext (.ref K.x) >>= _) _ _ s
    refine wpAny_bind (nx_stop XB TB hB hX hT hcs (by omega) (by omega) ok hat hF hN ?_)
    intro v' g h' tk hat' T' N'
    refine wpAny_pure ?_
    have hN2 : News g L h' ((D, listOf vs.toArray n) :: rest) := T'.news (fun p hp => hN p (List.mem_append_right _ hp)) (fun p hp => by
      rcases List.mem_cons.mp hp with rfl | hp
      · exact hD
      · exact hoff p hp)
    exact hR vs n g h' tk (by simpa [runs, toStrs] using hsa) (by omega) (T'.step fun p h1 h2 h3 h4 => ⟨h1, fun hm => h4 (.tail _ hm)⟩) hN2
  | succ N ih =>
    intro P v vs ys n s hPN hP hP9 hat hF hN hsa hlen hR
    cases P with
    | nil =>
    refine codeAny_builtin PySem.F.entry_extend_loop ?_
    rw [Around.under_plainId PySem.F.plain_extend_loop _]
    show wpAny _ (ktrTop dp (un + 1) gd cn cs L a ccd [] outer) (pyNext (.ref K.x) >>= _) _ _ s
    refine wpAny_bind (nx_stop XB TB hB hX hT hcs (by omega) (by omega) ok hat hF hN ?_)
    intro v' g h' tk hat' T' N'
    refine wpAny_pure ?_
    have hN2 : News g L h' ((D, listOf vs.toArray n) :: rest) := T'.news (fun p hp => hN p (List.mem_append_right _ hp)) (fun p hp => by
      rcases List.mem_cons.mp hp with rfl | hp
      · exact hD
      · exact hoff p hp)
    exact hR vs n g h' tk (by simpa [runs, toStrs] using hsa) (by omega) (T'.step fun p h1 h2 h3 h4 => ⟨h1, fun hm => h4 (.tail _ hm)⟩) hN2
    | cons c r =>
    refine codeAny_builtin PySem.F.entry_extend_loop ?_
    rw [Around.under_plainId PySem.F.plain_extend_loop _]
    show wpAny _ (ktrTop dp (un + 1) gd cn cs L a ccd [] outer) (pyNext (.ref K.x) >>= _) _ _ s
    refine wpAny_bind (nx_more hB hX hT hcs (by omega) (by omega) ok hP hP9 hat hF hN (fun p hp => by
      rcases List.mem_cons.mp hp with rfl | hp
      · exact hD
      · exact hoff p hp) ?_)
    intro t v' h' tk hat' F' N' G'
    have hl1 := rest_len c r
    rw [List.length_cons] at hPN hP9 hlen
    have hDg : h'.get? D = some (listOf vs.toArray n) := (N' _ (List.mem_append_right _ (.head _))).1
    show wpAny _ _ (updateSeq D (·.push (Value.str ⟨(tokOf (c :: r)).toArray⟩ t)) >>= _) _ _ _
    have hDp : ∀ p ∈ K.at v', p.1 ≠ D := fun p hp e => hD (e ▸ List.mem_map_of_mem (f := (·.1)) hp)
    have hU : Upd D (listOf vs.toArray n) (listOf (vs ++ [Value.str ⟨(tokOf (c :: r)).toArray⟩ t]).toArray (n + 1)) (K.at v' ++ (D, listOf vs.toArray n) :: rest) (K.at v' ++ (D, listOf (vs ++ [Value.str ⟨(tokOf (c :: r)).toArray⟩ t]).toArray (n + 1)) :: rest) := upd_mid hDr hDp
    have hf : Obj.mapSeq (·.push (Value.str ⟨(tokOf (c :: r)).toArray⟩ t)) (listOf vs.toArray n) = listOf (vs ++ [Value.str ⟨(tokOf (c :: r)).toArray⟩ t]).toArray (n + 1) := by
      rw [mapSeq_push]; simp
    have hUB := upd_by (s := { s with heap := h', toks := tk }) F' N' hU (Obj.mapSeq (·.push (Value.str ⟨(tokOf (c :: r)).toArray⟩ t))) hf rfl
    refine wpAny_bind (wpAny_updateSeq hDg rfl (wpAny_pure ⟨plainId_quiet PySem.F.plain_extend_loop _, ih (restOf (c :: r)) v' (vs ++ [Value.str ⟨(tokOf (c :: r)).toArray⟩ t]) (ys ++ [⟨(tokOf (c :: r)).toArray⟩]) (n + 1) _ (by omega) (rest_sgn hP) (by omega) hat' hUB.1 hUB.2 (Mine.strs_snoc hsa) (by simp only [List.length_append, List.length_singleton]; omega) ?_⟩) (by rw [List.size_toArray, sizeLine_eq]; omega) (by rw [Array.size_push, List.size_toArray, sizeLine_eq]; omega))
    intro vs' n' g h2 tk2 hsa' hlen' T' N2
    refine hR vs' n' g h2 tk2 ?_ ?_ (T'.step fun p h1 h2 h3 h4 => ⟨?_, h4⟩) N2
    · rw [runs_step]; simpa [toStrs] using hsa'
    · simp only [List.length_append, List.length_singleton] at hlen'
      rw [List.length_cons]; omega
    · show (h'.update D _).get? p.1 = some p.2
      rw [Heap.get?_update_other _ _ (fun e => h4 (by rw [← e]; exact .head _))]
      exact G' _ _ h1 fun hm => h4 (.tail _ hm)
theorem led_in {h₀ h : Heap} {L D : Addr} {K : LexC} {v : LexV} {o : Obj} {rest : List (Addr × Obj)} (N : News h₀ L h ((D, o) :: (K.at v ++ rest))) : News h₀ L h (K.at v ++ (D, o) :: rest) := fun p hp => by
  rcases List.mem_append.mp hp with hp | hp
  · exact N p (.tail _ (List.mem_append_left _ hp))
  · rcases List.mem_cons.mp hp with rfl | hp
    · exact N _ (.head _)
    · exact N p (.tail _ (List.mem_append_right _ hp))
theorem gsub_of_keep {H g : Heap} (k : ∀ b o, H.get? b = some o → g.get? b = some o) (adr : List Addr) : GSub H g adr := fun b o e _ => k b o e
set_option maxHeartbeats 1600000 in
theorem list_lex  {w : World} {LO : List Str} {mean : ExcName → Option Value} {mg mb : Str → Option Value} {K : LexC}
  {dp un : Nat} {gd : Option (List Code)} {cn : Str} {cs : Scope} {a : Addr} {ccd : Value} {outer : List Env} {A₀ : Around} {base h₀ : Heap} {L : Addr} {m : Str → Option Value}
    {P : List Nat} {v : LexV} {rest : List (Addr × Obj)} {s : Shared} {Q E : Value → Shared → Prop}
    (XB : (hdK.heap_1 w.params).In base) (TB : Top hdK.view_39 LO mean mg mb base)
    (hB : Below A₀ base outer h₀) (hF : Fr h₀ L s.heap m) (hX : (hdK.heap_1 w.params).In h₀) (hN : News h₀ L s.heap (K.at v ++ rest)) (hT : Top hdK.view_39 LO mean mg mb h₀) (hcs : cs.kind = .function)
    (hdp : dp + 12 < recursionLimit) (hun : un + 130 < cLine) (ok : K.Ok) (hoff : ∀ p ∈ rest, p.1 ∉ K.adr) (hP : ∀ c ∈ P, sgn c = true) (hP9 : P.length ≤ 9) (hat : LexAt K P (K.at v))
    (h : ∀ D vs n g h' tk, (∀ p ∈ rest, p.1 < D) → StrsAre vs (toStrs (runs P)) → vs.length ≤ 9 → Turned w LO mean mg mb A₀ base h₀ outer L m s.heap (D :: K.adr) g h' → News g L h' ((D, listOf vs.toArray n) :: rest) → Q (.ref D) { s with heap := h', toks := tk }) :
    wpAny (model PySem.Challenge.rw_op0282_01.row.prog w) (ktrTop dp un gd cn cs L a ccd [] outer) (call (.type "list") [.ref K.x]) Q E s := by
  refine callType_codes (Q₁ := fun obj s₁ => obj = .ref s.heap.objs.size ∧ s₁ = { s with heap := s.heap.push { cls := .type "list", data := .seq #[] } }) PySem.F.called_list (PySem.F.typeCall_list_1 _) PySem.F.entry_list_init
    (code_list_new _ ⟨rfl, rfl⟩) fun obj s₁ h₁ => ?_
  obtain ⟨rfl, rfl⟩ := h₁
  have hltD : ∀ p ∈ K.at v ++ rest, p.1 < s.heap.objs.size := fun p hp => Heap.lt_size (hN p hp).1
  have hDK : s.heap.objs.size ∉ K.adr := fun hm => by
    obtain ⟨p, hp, e⟩ := List.mem_map.mp ((K.at_adr v) ▸ hm)
    exact Nat.lt_irrefl _ (e ▸ hltD p (List.mem_append_left _ hp))
  have hDr : ∀ p ∈ rest, p.1 ≠ s.heap.objs.size := fun p hp => Nat.ne_of_lt (hltD p (List.mem_append_right _ hp))
  have hDp : ∀ (v : LexV), ∀ p ∈ K.at v, p.1 ≠ s.heap.objs.size := fun v p hp e => hDK (e ▸ List.mem_map_of_mem (f := (·.1)) hp)
  have hS : (s.heap.push { cls := .type "list", data := .seq #[] }).get? s.heap.objs.size = some { cls := .type "list", data := .seq #[] } := Heap.get?_push_size _ rfl
  have F1 : Fr h₀ L (s.heap.push { cls := .type "list", data := .seq #[] }) m := hF.push _
  have N1 := led_in (hN.push hF { cls := .type "list", data := .seq #[] })
  have G1 : ∀ b o, s.heap.get? b = some o → b ≠ s.heap.objs.size → (s.heap.push { cls := .type "list", data := .seq #[] }).get? b = some o := fun b o e _ => Heap.get?_push_of_some _ e
  refine ⟨⟨_, hS, rfl⟩, PySem.F.args_list_init_2 _ _, ?_⟩
  generalize hD9 : s.heap.objs.size = D at *
  generalize hH1 : s.heap.push { cls := .type "list", data := .seq #[] } = H1 at *
  show wpAny _ (ktrTop dp (un + 2) gd cn cs L a ccd [] outer) (do let old ← Builtin.List.listItems (.ref D); Builtin.List.listUpdate (.ref D) (fun _ => #[]); letGo old.toList.reverse; Builtin.List.listExtendWith (.ref D) (.ref K.x) .none) _ _ { s with heap := H1 }
  refine wpAny_bind ?_
  unfold Builtin.List.listItems
  refine wpAny_bind (wpAny_seqItems hS rfl (wpAny_pure ?_))
  show wpAny _ _ (updateSeq D (fun _ => #[]) >>= fun _ => letGo (#[] : Array Value).toList.reverse >>= fun _ => Builtin.List.listExtendWith (.ref D) (.ref K.x) .none) _ _ _
  refine wpAny_bind (wpAny_updateSeq hS rfl ?_)
  obtain ⟨n1, hn1⟩ : ∃ n1, Obj.mapSeq (fun _ => (#[] : Array Value)) { cls := .type "list", data := .seq #[] } = listOf ([] : List Value).toArray n1 := ⟨_, rfl⟩
  have U1 := upd_by (s := { s with heap := H1 }) F1 N1 (upd_mid hDr (hDp v)) (Obj.mapSeq (fun _ => (#[] : Array Value))) hn1 rfl
  have G2 : ∀ b o, s.heap.get? b = some o → b ≠ D → (H1.update D (Obj.mapSeq (fun _ => (#[] : Array Value)))).get? b = some o := fun b o e n => (Heap.get?_update_other _ _ (Ne.symm n)).trans (G1 b o e n)
  generalize hH2 : H1.update D (Obj.mapSeq (fun _ => (#[] : Array Value))) = H2 at *
  refine wpAny_bind (wpAny_letGo ?_)
  unfold Builtin.List.listExtendWith
  obtain ⟨od, hI⟩ := inst_lex U1.2
  refine wpAny_bind (hI.type.here ?_)
  have hDx : D ≠ K.x := fun e => hDK (by rw [e]; exact .head _)
  have h1 : Builtin.List.listSameRef (.ref D) (.ref K.x) = false := by simp [Builtin.List.listSameRef, hDx]
  have h2 : (Value.ref 774 == Value.type "list") = false := by decide
  have h3 : (Value.ref 774 == Value.type "tuple") = false := by decide
  simp only [h1, h2, h3, Bool.or_false, Bool.false_eq_true, if_false]
  refine wpAny_bind (owit_iter (f := 764) U1.1 hX hI (by k_is) (by k_is) ?_)
  refine c_iter w LO mean mg mb K.x dp (un + 2) gd cn cs a ccd [] outer A₀ base h₀ L m _ _ _ hB U1.1 hX (fun _ h => nomatch h) hT hcs (by omega) (by omega) ?_
  rintro _ _ H3 tk3 ⟨rfl, rfl⟩ F3 _ G3
  have N3 : News h₀ L H3 (K.at v ++ (D, listOf ([] : List Value).toArray n1) :: rest) := fun p hp => ⟨G3 _ _ (U1.2 p hp).1 (fun h => nomatch h), (U1.2 p hp).2⟩
  obtain ⟨od3, hI3⟩ := inst_lex N3
  refine owit_it F3 hX hI3 (by k_is) ?_
  refine wpAny_bind (wpAny_holding ?_)
  unfold Builtin.List.listLengthHint
  refine wpAny_bind (wpAny_bind (hI3.type.here ((looks_findIn (hX.keeps F3.keep) (r := none) (by k_is)).here ?_)))
  show wpAny _ _ (specialOf (Value.ref K.x) (Str.ofString "__length_hint__") >>= _) _ _ _
  refine wpAny_bind (wpAny_bind (hI3.type.here ((looks_findIn (hX.keeps F3.keep) (r := none) (by k_is)).here ?_)))
  refine wpAny_pure ?_
  show wpAny _ _ (rule "list.extend.makes-room" >>= fun _ => Builtin.List.listTouch (.ref D) >>= fun _ =>
    again (.builtin "list.extend.loop" ⟨[.ref D, .ref K.x, .none], []⟩)) _ _ _
  refine wpAny_bind (wpAny_rule ?_)
  refine wpAny_bind ?_
  show wpAny _ _ (updateSeq D (·.push .none) >>= fun _ => updateSeq D (·.pop)) _ _ _
  have hS3 : H3.get? D = some (listOf ([] : List Value).toArray n1) := (N3 _ (List.mem_append_right _ (.head _))).1
  refine wpAny_bind (wpAny_updateSeq hS3 rfl ?_)
  obtain ⟨n4, hn4⟩ : ∃ n4, Obj.mapSeq (·.push Value.none) (listOf ([] : List Value).toArray n1) = listOf [Value.none].toArray n4 := ⟨_, rfl⟩
  have U4 := upd_by (s := { s with heap := H3 }) F3 N3 (upd_mid hDr (hDp v)) (Obj.mapSeq (·.push Value.none)) hn4 rfl
  have G4 : ∀ b o, s.heap.get? b = some o → b ≠ D → (H3.update D (Obj.mapSeq (·.push Value.none))).get? b = some o := fun b o e n => (Heap.get?_update_other _ _ (Ne.symm n)).trans (G3 _ _ (G2 b o e n) (fun h => nomatch h))
  have hS4 : (H3.update D (Obj.mapSeq (·.push Value.none))).get? D = some (listOf [Value.none].toArray n4) := (U4.2 _ (List.mem_append_right _ (.head _))).1
  generalize hH4 : H3.update D (Obj.mapSeq (·.push Value.none)) = H4 at *
  refine wpAny_updateSeq (hz := by seq_fits) hS4 rfl ?_
  obtain ⟨n5, hn5⟩ : ∃ n5, Obj.mapSeq (·.pop) (listOf [Value.none].toArray n4) = listOf ([] : List Value).toArray n5 := ⟨_, rfl⟩
  have U5 := upd_by (s := { s with heap := H4 }) U4.1 U4.2 (upd_mid hDr (hDp v)) (Obj.mapSeq (·.pop)) hn5 rfl
  refine wpAny_pure ⟨plainId_quiet PySem.F.plain_extend_loop _, lex_loop (un := un + 1) XB TB hB hX hT hcs (by omega) (by omega) ok hoff hDK hDr P.length P v [] [] n5 _ (Nat.le_refl _) hP hP9 hat U5.1 U5.2 .nil (by simp only [List.length_nil]; omega) ?_⟩
  intro vs' n' g h' tk' hsa hlen T' N'
  refine ⟨rfl, h D vs' n' g h' tk' (fun p hp => hltD p (List.mem_append_right _ hp)) (by simpa using hsa) (by simp only [List.length_nil] at hlen; omega) (T'.step fun p h1 h2 h3 h4 => ⟨?_, h4⟩) N'⟩
  have hpD : p.1 ≠ D := fun e => h4 (by rw [e]; exact .head _)
  exact (Heap.get?_update_other _ _ (Ne.symm hpD)).trans (G4 _ _ h1 hpD)
end
section
-- part LM

set_option Elab.async false
set_option maxRecDepth 100000
theorem lex_made12 {g h : Heap} {a0 a1 a2 a3 a4 : Addr} {o0 o1 o2 o3 o4 : Obj} {L : Addr} {x d y e q1 q2 q3 : Nat} {h0 h1 h2 h3 h4 h5 h6 h7 h8 h9 h10 h11 h12 h13 h14 h15 h16 h17 h18 h19 : Int} {k0 k1 k2 k3 k4 k5 k6 k7 k8 k9 k10 k11 k12 k13 k14 k15 k16 k17 k18 k19 v3 v4 v5 v6 v8 v9 v10 v11 v13 v14 v15 v18 : Tok} {g1 g2 g3 n1 n2 n3 : Int} {u1 u2 u3 u4 u5 u6 : Tok} {txt : Str}
   (N : News g L h [(a0, o0), (a1, o1), (a2, o2), (q3, dqObj n3 []), (q2, dqObj n2 []), (q1, dqObj n1 []), (y, instObj 639 e), (e, dictOf [⟨g1, .str (Str.ofString "_StringIO__newline") u1, .str (Str.ofString "\n") u4⟩, ⟨g2, .str (Str.ofString "_StringIO__buf") u2, .str txt u5⟩, ⟨g3, .str (Str.ofString "_StringIO__pos") u3, .int 0 u6⟩] 3), (a3, o3), (a4, o4), (x, instObj 774 d), (d, dictOf [⟨h0, .str (Str.ofString "instream") k0, .ref y⟩,
     ⟨h1, .str (Str.ofString "infile") k1, .none⟩,
     ⟨h2, .str (Str.ofString "posix") k2, .bool false⟩,
     ⟨h3, .str (Str.ofString "eof") k3, .str (Str.ofString "") v3⟩,
     ⟨h4, .str (Str.ofString "commenters") k4, .str (Str.ofString "#") v4⟩,
     ⟨h5, .str (Str.ofString "wordchars") k5, .str WC v5⟩,
     ⟨h6, .str (Str.ofString "whitespace") k6, .str (Str.ofString " \t\r\n") v6⟩,
     ⟨h7, .str (Str.ofString "whitespace_split") k7, .bool false⟩,
     ⟨h8, .str (Str.ofString "quotes") k8, .str (Str.ofString "'\"") v8⟩,
     ⟨h9, .str (Str.ofString "escape") k9, .str (Str.ofString "\\") v9⟩,
     ⟨h10, .str (Str.ofString "escapedquotes") k10, .str (Str.ofString "\"") v10⟩,
     ⟨h11, .str (Str.ofString "state") k11, .str (Str.ofString " ") v11⟩,
     ⟨h12, .str (Str.ofString "pushback") k12, .ref q1⟩,
     ⟨h13, .str (Str.ofString "lineno") k13, .int 1 v13⟩,
     ⟨h14, .str (Str.ofString "debug") k14, .int 0 v14⟩,
     ⟨h15, .str (Str.ofString "token") k15, .str (Str.ofString "") v15⟩,
     ⟨h16, .str (Str.ofString "filestack") k16, .ref q2⟩,
     ⟨h17, .str (Str.ofString "source") k17, .none⟩,
     ⟨h18, .str (Str.ofString "_punctuation_chars") k18, .str (Str.ofString "rwxst") v18⟩,
     ⟨h19, .str (Str.ofString "_pushback_chars") k19, .ref q3⟩] 20)])
   (ha : d < x) (hb : x < e) (hc : e < y) (hd : y < q1) (he : q1 < q2) (hf : q2 < q3) (hlen : txt.length ≤ 9) (hne : txt.cps.toList ≠ []) :
   ∃ (K : LexC) (v : LexV), K.x = x ∧ News g L h (K.at v) ∧ K.Ok ∧ LexAt K txt.cps.toList (K.at v) := by
  refine ⟨⟨x, d, y, e, q1, q2, q3, ⟨fun n => match n with | 0 => h0 | 1 => h1 | 2 => h2 | 3 => h3 | 4 => h4 | 5 => h5 | 6 => h6 | 7 => h7 | 8 => h8 | 9 => h9 | 10 => h10 | 11 => h11 | 12 => h12 | 13 => h13 | 14 => h14 | 15 => h15 | 16 => h16 | 17 => h17 | 18 => h18 | 19 => h19 | _ => h0, fun n => match n with | 0 => k0 | 1 => k1 | 2 => k2 | 3 => k3 | 4 => k4 | 5 => k5 | 6 => k6 | 7 => k7 | 8 => k8 | 9 => k9 | 10 => k10 | 11 => k11 | 12 => k12 | 13 => k13 | 14 => k14 | 15 => k15 | 16 => k16 | 17 => k17 | 18 => k18 | 19 => k19 | _ => k0, fun n => match n with | 3 => v3 | 4 => v4 | 5 => v5 | 6 => v6 | 8 => v8 | 9 => v9 | 10 => v10 | 13 => v13 | 14 => v14 | 18 => v18 | _ => k0⟩, g1, g2, g3, u1, u2, u3, u4, u5, txt, 1, n1, n2⟩, ⟨.str (Str.ofString " ") v11, .str (Str.ofString "") v15, 0, u6, n3, []⟩, rfl, news_sub N (List.forall_mem_cons.mpr ⟨.tail _ (.tail _ (.tail _ (.tail _ (.tail _ (.tail _ (.tail _ (.tail _ (.tail _ (.tail _ (.head _)))))))))), List.forall_mem_cons.mpr ⟨.tail _ (.tail _ (.tail _ (.tail _ (.tail _ (.tail _ (.tail _ (.tail _ (.tail _ (.tail _ (.tail _ (.head _))))))))))), List.forall_mem_cons.mpr ⟨.tail _ (.tail _ (.tail _ (.tail _ (.tail _ (.tail _ (.head _)))))), List.forall_mem_cons.mpr ⟨.tail _ (.tail _ (.tail _ (.tail _ (.tail _ (.tail _ (.tail _ (.head _))))))), List.forall_mem_cons.mpr ⟨.tail _ (.tail _ (.tail _ (.tail _ (.tail _ (.head _))))), List.forall_mem_cons.mpr ⟨.tail _ (.tail _ (.tail _ (.tail _ (.head _)))), List.forall_mem_cons.mpr ⟨.tail _ (.tail _ (.tail _ (.head _))), fun _ h => nomatch h⟩⟩⟩⟩⟩⟩⟩), ⟨ha, hb, hc, hd, he, hf, hlen⟩, ?_⟩
  cases hq : txt.cps.toList with
  | nil => exact absurd hq hne
  | cons c r => exact LexAt.live (p := 0) (Int.le_refl 0) (.inl ⟨rfl, hq⟩)
end
section
-- part N1
open PySem.Calls
set_option Elab.async false
set_option maxRecDepth 100000
set_option maxHeartbeats 4000000
section
variable {prog : Program} {w : World} {A : Around} {K : Frag} {C : Addr} {R : Result → Shared → Prop} {h : Heap} {g : Array GenState} {d : Drawn} {t : Nat} {os : OsState}
/-- object.__new__ of a class whose own __new__ calls it -/
theorem new_own {oc : Value} {od : Option Addr} {cd : ClassData} {sl : Array (Option Value)} (hC : h.get? C = some ⟨oc, od, .cls cd, sl⟩) (e1 : cd.abstract = false) (e2 : cd.hasDel = false)
    {bv : Value} (base : Looks (model prog w) h (Bind.staticBase (.ref C)) bv) (made : Looks (model prog w) h (Bind.madeBy bv) (some "object.__new__")) (top : Looks (model prog w) h (isSubtype (.ref C) (.type "object")) true) (typ : Looks (model prog w) h (isInstance (.ref C) (.type "type")) true)
    (hq : R (.ok (.ret (.ref (h.objs.size + 1)))) ⟨(h.push emptyDict).push (instObj C h.objs.size), g, d, t, os⟩) :
    codeAny (model prog w) A (.call (.builtin "object.__new__") ⟨[.ref C], []⟩) R ⟨h, g, d, t, os⟩ := by
  have F := PySem.F.objNew
  refine codeAny_call_builtin_code (Code.quiet_builtin _ F.quiet) ?_
  simp only [checkBuiltinCall, F.kind, F.split, F.row]
  have here : Looks (model prog w) h (Bind.madeHere "object.__new__" (.ref C)) () := base.andThen (made.andThen (Looks.of_pure (by simp only [Option.map_some, bne_self_eq_false, Bool.false_eq_true, if_false])))
  have args : Bind.checkArgs "object.__new__" ⟨.hand, "object.__new__", "__new__", .cls, []⟩ ⟨[.ref C], []⟩ = pure () := by kernel_rfl
  rw [args]
  repeat (first | simp only [bne_self_eq_false, Bool.false_eq_true, if_false] | lk)
  refine codeAny_builtin F.entry ?_
  unfold Builtin.«object.__new__»
  have fin : ∀ A', wpAny (model prog w) A' (do
      let d ← if typeHasDict (.ref C) then some <$> alloc { cls := .type "dict", data := .dict #[] } else pure none
      ret (← newObj (.ref C) .plain d)) (fun fin s' => match fin with | .done f => R (.ok f) s' | .again c' => c'.quiet = true ∧ codeAny (model prog w) A c' R s') (fun e s' => R (.error e) s') ⟨h, g, d, t, os⟩ := by
    intro A'
    show wpAny _ _ ((alloc emptyDict >>= fun x => pure (some x)) >>= _) _ _ _
    refine wpAny_bind (wpAny_bind (wpAny_alloc (wpAny_pure (wpAny_bind ?_))))
    show wpAny _ _ (newObjAsIs _ _ _) _ _ _
    unfold newObjAsIs classHasDel
    refine wpAny_bind (wpAny_alloc (wpAny_bind (wpAny_bind (wpAny_load (Heap.get?_push_of_some _ (Heap.get?_push_of_some _ hC)) (wpAny_pure ?_)))))
    rw [e2]
    refine wpAny_pure (wpAny_pure ?_)
    show R _ _
    rw [Heap.size_push]
    exact hq
  repeat (first | simp only [e1, Bool.false_eq_true, if_false] | exact fin _ | lk)
/-- a class with an own __new__ is called -/
noncomputable def OwnMade (prog : Program) (w : World) (K : Frag) (A' : Around) (C fI : Addr) (rest : List Value) (kw : List (Str × Value)) (Q : Value → Shared → Prop) (E : Value → Shared → Prop) (obj : Value) (s₂ : Shared) : Prop :=
  ∃ y dy, obj = .ref y ∧ s₂.heap.get? y = some (instObj C dy) ∧ K.In s₂.heap ∧ codeAny (model prog w) A' (.call (.ref fI) ⟨.ref y :: rest, kw⟩) (InitBack y fun r s' => match r with | .ok (.ret v) => Q v s' | .ok _ => False | .error e => E e s') s₂
theorem call_own {fI : Addr} {rest : List Value} {kw : List (Str × Value)} {oc : Value} {od : Option Addr} {cd : ClassData} {sl : Array (Option Value)} {s : Shared} {Q : Value → Shared → Prop} {E : Value → Shared → Prop} (X : K.In s.heap) (hC : K.lookup C = some ⟨oc, od, .cls cd, sl⟩) (e4 : cd.mro.isEmpty = false)
    (ecall : specialIn K (.ref C) "__call__" = some (some (.builtin "type.__call__"))) (etyp : instIn K (.ref C) (.type "type") = some true)
    (emade : peek K ⟨prog, w.params⟩ (Bind.madeBy (.ref C)) = some none) (eself : subIn K (.ref C) (.ref C) = some true) (hi : findIn K (.ref C) "__init__" = some (some (.ref fI))) (hf : typeIn K (.ref fI) = some (.type "function"))
    (hq : wpAny (model prog w) (A.under (.builtin "type.__call__" ⟨.ref C :: rest, kw⟩)) (getAttr (.ref C) "__new__") (fun new s₁ => wpAny (model prog w) (A.under (.builtin "type.__call__" ⟨.ref C :: rest, kw⟩)) (call new (.ref C :: rest) kw)
      (OwnMade prog w K (A.under (.builtin "type.__call__" ⟨.ref C :: rest, kw⟩)) C fI rest kw Q E) E s₁) E s) :
    wpAny (model prog w) A (call (.ref C) rest kw) Q E s := by
  refine wpAny_call ?_
  obtain ⟨h, g, d, t, os⟩ := s
  have hC' := X _ _ hC
  have call := looks_specialIn (M := model prog w) X ecall
  have typ := looks_instIn (M := model prog w) X etyp
  have made : Looks (model prog w) h (Bind.madeBy (.ref C)) none := Looks.of_peek X emade
  refine codeAny_of_tree ?_
  show wpAny _ _ (callAny (.ref C) _) _ _ _
  refine nd_load hC' ?_
  show wpAny _ _ (callAny.viaDunder (.ref C) _) _ _ _
  unfold callAny.viaDunder
  refine wpAny_bind (call.at ?_)
  dsimp only
  rw [tc_bind]
  refine wpAny_bind (wpAny_pure (wpAny_bind (wpAny_pure ?_)))
  refine wpAny_pure (a := Fin.again (.call (.builtin "type.__call__") ⟨.ref C :: rest, kw⟩)) (And.intro rfl ?_)
  refine codeAny_call_builtin_at (Code.quiet_builtin _ (by decide +kernel)) entry_typeCall (check_slot tc_kind tc_split typ (tc_args _ _ _) ?_)
  unfold Builtin.«type.__call__»
  have hm : Looks (model prog w) h (mroOf (.ref C)) cd.mro := ((Looks.ld (part := none) hC').andThen .now).andThen .now
  repeat (first | simp only [e4, Bool.false_eq_true, if_false] | ((fail_if_success (with_reducible show wpAny _ _ (getAttr _ _ _) _ _ _)); lk))
  refine wpAny_mono hq (fun new s₁ h₁ => ?_) fun _ _ e => e
  refine wpAny_bind (wpAny_holding (wpAny_mono h₁ (fun obj s₂ h₂ => ?_) fun _ _ e => e))
  obtain ⟨y, dy, rfl, hy, X₂, hc⟩ := h₂
  obtain ⟨h2, g2, d2, t2, os2⟩ := s₂
  have t1 : Looks (model prog w) h2 (typeOf (.ref y)) (.ref C) := (Looks.ld hy).andThen .now
  have s1 := looks_subIn (M := model prog w) X₂ eself
  have i1 := looks_findIn (M := model prog w) X₂ hi
  have b1 := bind_fn (M := model prog w) X₂ (.ref y) hf
  unfold isInstance callSpecial? specialOf
  repeat (first | with_reducible refine wpAny_call ?_ | lk)
  refine codeAny_mono hc fun r s' z => ?_
  rcases r with e | (v | _ | _ | _) <;> first | exact z | exact z.elim | skip
  obtain ⟨rfl, z⟩ := z
  exact wpAny_pure (wpAny_pure z)
end
end
section
-- part Q1

set_option Elab.async false
set_option maxRecDepth 100000
theorem dq_mro : mroOf (.type DQ) = pure [.type DQ, .type "object"] := by rw [mroOf_type]; kernel_rfl
theorem dq_lookup_new : typeLookup (.type DQ) "__new__" = pure (some (.builtin "collections.deque.__new__")) := by rw [typeLookup_type, builtinLookup_eq_fast]; kernel_rfl
theorem slot_dq_init : Slot DQ "__init__" "collections.deque.__init__" :=
  .of (owner := DQ) (n := "__init__") (by rw [typeLookup_type, builtinLookup_eq_fast]; kernel_rfl) (by decide +kernel) (by decide +kernel) (by decide +kernel)
    (by first | exact .inl (by decide +kernel) | exact .inr (by decide +kernel)) (by rw [isSubtype_type]; kernel_rfl)
theorem called_dq : TypeCalled DQ "collections.deque.__new__" "collections.deque.__init__" :=
  ⟨by decide +kernel, by decide +kernel, ⟨_, _, dq_mro⟩, madeBy_type dq_mro dq_lookup_new (by decide +kernel), by decide +kernel, by rw [isSubtype_type]; kernel_rfl, slot_dq_init⟩
theorem entry_dq_new : entryFor table "collections.deque.__new__" = some Builtin.«collections.deque.__new__» := entryFor_of_tree (by kernel_rfl)
theorem entry_dq_init : entryFor table "collections.deque.__init__" = some Builtin.«collections.deque.__init__» := entryFor_of_tree (by kernel_rfl)
theorem dq_typeCall : checkTypeCall DQ ⟨[], []⟩ = pure () := by kernel_rfl
theorem dq_newCall : checkBuiltinCall "collections.deque.__new__" ⟨[.type DQ], []⟩ = pure () := by kernel_rfl
theorem args_dq_init (a : Value) : argsOk "collections.deque.__init__" ⟨[a], []⟩ := by unfold argsOk; kernel_rfl
theorem dq_isType : isType (.type DQ) = pure true := by kernel_rfl
theorem dq_sub : isSubtype (.type DQ) (.type DQ) = pure true := by rw [isSubtype_type]; kernel_rfl
section
variable {prog : Program} {w : World} {A : Around} {E : Value → Shared → Prop} {s : Shared} {h₀ : Heap} {L : Addr} {m : Str → Option Value} {news : List (Addr × Obj)}
theorem code_dq_new {Q₁ : Value → Shared → Prop} (h : Q₁ (.ref s.heap.objs.size) { s with heap := s.heap.push (dqObj 0 []) }) :
    codeAny (model prog w) A (.call (.builtin "collections.deque.__new__") ⟨[.type DQ], []⟩) (wants Q₁ E) s := by
  refine codeAny_of_tree ?_
  show wpAny _ A.in1 (do checkBuiltinCall "collections.deque.__new__" ⟨[.type DQ], []⟩; again (.builtin "collections.deque.__new__" ⟨[.type DQ], []⟩)) _ _ s
  refine wpAny_bind (wpAny_of_eq dq_newCall (wpAny_pure ⟨plainId_quiet (by decide +kernel) _, codeAny_builtin entry_dq_new ?_⟩))
  rw [Around.under_plainId (by decide +kernel) _]
  have hsub : isSubtype (.type DQ) (.type Builtin.Deque.ty) = pure true := dq_sub
  have hty := dq_isType
  obtain ⟨hp, g, d, tk, os⟩ := s
  wp_walk
  exact h
theorem mk_dq {Q : Value → Shared → Prop} (F : Fr h₀ L s.heap m) (N : News h₀ L s.heap news)
    (h : ∀ q h', (∀ p ∈ news, p.1 < q) → Fr h₀ L h' m → News h₀ L h' ((q, dqObj 0 []) :: news) → Q (.ref q) { s with heap := h' }) : wpAny (model prog w) A (call (.type "collections.deque") []) Q E s := by
  refine callType_codes (Q₁ := fun obj s₁ => obj = .ref s.heap.objs.size ∧ s₁ = { s with heap := s.heap.push (dqObj 0 []) }) called_dq dq_typeCall entry_dq_init (code_dq_new ⟨rfl, rfl⟩) ?_
  rintro obj s₁ ⟨rfl, rfl⟩
  have hS : (s.heap.push (dqObj 0 [])).get? s.heap.objs.size = some (dqObj 0 []) := Heap.get?_push_size _ rfl
  refine ⟨⟨_, hS, rfl⟩, args_dq_init _, ?_⟩
  obtain ⟨hp, g, d, tk, os⟩ := s
  unfold Builtin.«collections.deque.__init__»
  wp_walk
  have hlt : ∀ p ∈ news, p.1 < hp.objs.size := fun p hp' => Heap.lt_size (N p hp').1
  have U := upd_by (s := ⟨hp.push (dqObj 0 []), g, d, tk, os⟩) (F.push _) (N.push F (dqObj 0 [])) (Upd.head (o' := dqObj 0 []) fun p hp' => Nat.ne_of_lt (hlt p hp')) (Obj.mapFields fun x => x.setIfInBounds 0 Value.none) rfl rfl
  exact ⟨rfl, h _ _ hlt U.1 U.2⟩
end
end
section
-- part D1

set_option Elab.async false
set_option maxRecDepth 100000
set_option maxHeartbeats 1000000
theorem str_mt : typeLookup (.type "str") "maketrans" = pure (some (.builtin "str.maketrans")) := by rw [typeLookup_type, builtinLookup_eq_fast]; kernel_rfl
theorem mt_type : typeOf (.builtin "str.maketrans") = pure (.type "builtin_function_or_method") := by show builtinType _ = _; rw [builtinType_eq_fast]; kernel_rfl
theorem bf_get : typeLookup (.type "builtin_function_or_method") "__get__" = pure none := by rw [typeLookup_type, builtinLookup_eq_fast]; kernel_rfl
theorem bf_set : typeLookup (.type "builtin_function_or_method") "__set__" = pure none := by rw [typeLookup_type, builtinLookup_eq_fast]; kernel_rfl
theorem bf_del : typeLookup (.type "builtin_function_or_method") "__delete__" = pure none := by rw [typeLookup_type, builtinLookup_eq_fast]; kernel_rfl
theorem meets_ga_mt (x : Str) (t u : Tok) : Meets (Builtin.«object.__getattribute__» ⟨[.str x t, .str (Str.ofString "maketrans") u], []⟩) (fun _ R s => R (.ok (.ret (.builtin "str.maketrans"))) s) :=
  Meets.of_wp fun prog w A R s hs => by
    obtain ⟨hp, g, d, tk, os⟩ := s
    have hT : ∀ s' : Shared, s'.TypeIs (.str x t) "str" := fun _ => rfl
    have h3 := str_mt
    have h4 := mt_type
    have h5 := bf_get
    have h6 := bf_set
    have h7 := bf_del
    unfold Builtin.«object.__getattribute__»
    repeat (any_goals (first | assumption | wp_step))
    exact ⟨_, rfl, hs⟩
section
variable {prog : Program} {w : World} {A : Around} {E : Value → Shared → Prop} {s : Shared}
theorem ga_maketrans {x : Str} {t : Tok} {Q : Value → Shared → Prop} (h : ∀ k, Q (.builtin "str.maketrans") { s with toks := k }) : wpAny (model prog w) A (getAttr (.str x t) "maketrans") Q E s := by
  obtain ⟨hp, g, d, tk, os⟩ := s
  have hT : ∀ s' : Shared, s'.TypeIs (.str x t) "str" := fun _ => rfl
  have f3 := PySem.F.slot_str_getattribute.lookup
  have f4 := PySem.F.slot_str_getattribute.bind (.str x t)
  have f5 := am_str_getattr_none
  unfold getAttr getAttrBy
  repeat (any_goals (first | assumption | ((with_reducible show wpAny _ _ (call (Value.builtin "object.__getattribute__") _ _) _ _ _); refine call_meets PySem.F.slot_str_getattribute (hT _) PySem.F.entry_object_getattribute (PySem.F.args_object_getattribute_2 _ _) (meets_ga_mt x t _) ?_) | wp_step))
  show wpAny _ _ (handedOut _) _ _ _
  repeat (any_goals (first | assumption | wp_step))
  exact h _
theorem gm_maketrans {x : Str} {t : Tok} {pl : Sem Bool} {Q : Value × List Value → Shared → Prop} (h : ∀ k, Q (.builtin "str.maketrans", []) { s with toks := k }) : wpAny (model prog w) A (getMethod (.str x t) "maketrans" pl) Q E s := by
  have hT : s.TypeIs (.str x t) "str" := typeIs_str _ _ _
  obtain ⟨g, hg, hcan⟩ := PySem.F.plainAttrs_str.ga
  unfold getMethod
  refine wpAny_bind (wpAny_specialOf hT hg ?_)
  show wpAny _ A (if (Manifest.canonical g != "object.__getattribute__") = true then _ else _) Q E s
  rw [hcan, if_neg Bool.false_ne_true]
  with_reducible refine wpAny_bind (wpAny_specialOf hT PySem.F.plainAttrs_str.noGetattr ?_)
  rw [if_neg (show ¬ ((none : Option Value).isSome = true) by decide)]
  with_reducible refine wpAny_bind (wpAny_specialOf hT str_mt ?_)
  dsimp only
  with_reducible refine wpAny_bind (wpAny_of_eq mt_type ?_)
  have e : (Value.type "builtin_function_or_method" != Value.type "function" && Value.type "builtin_function_or_method" != Value.type "method_descriptor" && Value.type "builtin_function_or_method" != Value.type "wrapper_descriptor") = true := by decide +kernel
  rw [if_pos e]
  exact wpAny_bind (ga_maketrans fun k => wpAny_pure (h k))
end
end
section
-- part D2

set_option Elab.async false
set_option maxRecDepth 100000
set_option maxHeartbeats 1000000
noncomputable abbrev bfObj : Obj := { cls := .type "builtin_function_or_method", data := .fields #[.builtin "dict.fromkeys", .type "dict"] }
theorem fk_find : findCls [] (.type "dict") (.type "type") (Str.ofString "fromkeys") = some (.get (.builtin "classmethod_descriptor.__get__") (.builtin "dict.fromkeys") .none (.type "dict")) := by kernel_rfl
theorem dict_meta : typeOf (.type "dict") = pure (.type "type") := by kernel_rfl
theorem cmd_entry : entryFor table "classmethod_descriptor.__get__" = some Builtin.«classmethod_descriptor.__get__» := entryFor_of_tree (by kernel_rfl)
theorem cmd_plain : plainId "classmethod_descriptor.__get__" = true := by decide +kernel
theorem cmd_kind : builtinKind "classmethod_descriptor.__get__" = some .slot := by decide +kernel
theorem cmd_split : splitId "classmethod_descriptor.__get__" = some ("classmethod_descriptor", "__get__") := by decide +kernel
theorem cmd_args (a b c : Value) : argsOk "classmethod_descriptor.__get__" ⟨[a, b, c], []⟩ := by unfold argsOk; kernel_rfl
theorem fk_type : typeOf (.builtin "dict.fromkeys") = pure (.type "classmethod_descriptor") := by show builtinType _ = _; rw [builtinType_eq_fast]; kernel_rfl
theorem cmd_sub : isSubtype (.type "classmethod_descriptor") (.type "classmethod_descriptor") = pure true := by rw [isSubtype_type]; kernel_rfl
theorem dict_sub : isSubtype (.type "dict") (.type "dict") = pure true := by rw [isSubtype_type]; kernel_rfl
theorem dict_isType : isType (.type "dict") = pure true := by kernel_rfl
theorem fk_owner : (".".intercalate ("dict.fromkeys".cutAt '.').dropLast) = "dict" := by decide +kernel
theorem in_nil {h : Heap} : Frag.In [] h := fun _ _ e => nomatch e
section
variable {prog : Program} {w : World} {A : Around} {E : Value → Shared → Prop} {s : Shared} {h₀ : Heap} {L : Addr} {m : Str → Option Value} {news : List (Addr × Obj)}
theorem cmd_inst {h : Heap} : Looks (model prog w) h (isInstance (.builtin "dict.fromkeys") (.type "classmethod_descriptor")) true := Looks.andThen (a := .type "classmethod_descriptor") (Looks.of_pure fk_type) (Looks.of_pure cmd_sub)
theorem cmd_get {Q : Value → Shared → Prop} {E : Value → Shared → Prop} (h : Q (.ref s.heap.objs.size) { s with heap := s.heap.push bfObj }) : wpAny (model prog w) A (call (.builtin "classmethod_descriptor.__get__") [.builtin "dict.fromkeys", .none, .type "dict"]) Q E s := by
  refine wpAny_call (codeAny_call_builtin cmd_plain cmd_entry (@check_slot (model prog w) _ _ _ "classmethod_descriptor.__get__" "classmethod_descriptor" "__get__" (.builtin "dict.fromkeys") [.none, .type "dict"] [] _ cmd_kind cmd_split cmd_inst (cmd_args _ _ _) ?_))
  obtain ⟨hp, g, d, tk, os⟩ := s
  have h1 := dict_sub
  have h2 := dict_isType
  unfold Builtin.«classmethod_descriptor.__get__»
  repeat (any_goals (first | assumption | wp_step))
  rw [fk_owner]
  repeat (any_goals (first | assumption | wp_step))
theorem gm_fromkeys {pl : Sem Bool} {Q : Value × List Value → Shared → Prop} (F : Fr h₀ L s.heap m) (N : News h₀ L s.heap news)
    (h : ∀ b h', (∀ p ∈ news, p.1 < b) → Fr h₀ L h' m → News h₀ L h' ((b, bfObj) :: news) → Q (.ref b, []) { s with heap := h', toks := s.toks + 1 }) : wpAny (model prog w) A (getMethod (.type "dict") (Str.ofString "fromkeys") pl) Q E s := by
  have X : Frag.In [] s.heap := in_nil
  have hstub : opaqueClassAbove (.type "dict") = pure none := by kernel_rfl
  have L0 : Looks (model prog w) s.heap (typeOf (.type "dict")) (.type "type") := Looks.of_pure dict_meta
  have hg : findIn [] (.type "type") "__getattribute__" = some (some (.builtin "type.__getattribute__")) := type_tga
  unfold getMethod specialOf
  refine wpAny_bind (wpAny_bind (L0.here ((looks_findIn X hg).here ?_)))
  dsimp only
  rw [if_pos canon_tga]
  refine wpAny_bind (wpAny_mono (Q := fun v => Q (v, [])) (E := E) ?_ (fun _ _ z => wpAny_pure z) fun _ _ z => z)
  have LO : Looks (model prog w) s.heap (opaqueClassAbove (.type "dict")) none := Looks.of_pure hstub
  refine cls_open X LO L0 hg (looks_hook X (r := none) (by rfl)) (by show subIn [] _ _ = _; rfl) fk_find ?_
  show wpAny _ _ (do ret (← holding [Value.builtin "dict.fromkeys"] (call (.builtin "classmethod_descriptor.__get__") [.builtin "dict.fromkeys", .none, .type "dict"]))) _ _ _
  refine wpAny_bind (wpAny_holding (cmd_get (wpAny_pure ?_)))
  show wpAny _ _ (handedOut _) _ _ _
  rw [handedOut_of (by rfl)]
  exact wpAny_pure (h _ _ (fun p hp => Heap.lt_size (N p hp).1) (F.push _) (N.push F _))
end
end
section
-- part D3

set_option Elab.async false
set_option maxRecDepth 100000
set_option maxHeartbeats 1000000
theorem d0_typeCall : checkTypeCall "dict" ⟨[], []⟩ = pure () := by kernel_rfl
theorem d0_newCall : checkBuiltinCall "dict.__new__" ⟨[.type "dict"], []⟩ = pure () := by kernel_rfl
theorem d0_initArgs (a : Value) : argsOk "dict.__init__" ⟨[a], []⟩ := by unfold argsOk; kernel_rfl
theorem fk_bound (x : Str) (t : Tok) : checkBoundCall "dict.fromkeys" ⟨[.type "dict", .str x t], []⟩ = pure () := by kernel_rfl
theorem fk_entry : entryFor table "dict.fromkeys" = some Builtin.«dict.fromkeys» := entryFor_of_tree (by kernel_rfl)
theorem fk_plain : plainId "dict.fromkeys" = true := by decide +kernel
theorem fkl_entry : entryFor table "dict.fromkeys.loop" = some Builtin.«dict.fromkeys.loop» := entryFor_of_fast (by kernel_rfl)
theorem fkl_plain : plainId "dict.fromkeys.loop" = true := by decide +kernel
section
variable {prog : Program} {w : World} {A : Around} {E : Value → Shared → Prop} {s : Shared}
theorem code_dict0 {Q₁ : Value → Shared → Prop} (h : Q₁ (.ref s.heap.objs.size) { s with heap := s.heap.push { cls := .type "dict", data := .dict #[] } }) :
    codeAny (model prog w) A (.call (.builtin "dict.__new__") ⟨[.type "dict"], []⟩) (wants Q₁ E) s := by
  refine codeAny_call_builtin PySem.F.kt_plain_dict_new PySem.F.kt_entry_dict_new (wpAny_of_eq d0_newCall ?_)
  have hsub := PySem.F.kt_sub_dict
  have hmro := PySem.F.kt_mro_dict
  obtain ⟨hp, g, d, tk, os⟩ := s
  unfold Builtin.«dict.__new__»
  wp_walk
  exact h
theorem call_dict0 {Q : Value → Shared → Prop} (h : Q (.ref s.heap.objs.size) { s with heap := s.heap.push { cls := .type "dict", data := .dict #[] } }) :
    wpAny (model prog w) A (call (.type "dict") []) Q E s := by
  refine callType_codes (Q₁ := fun obj s₁ => obj = .ref s.heap.objs.size ∧ s₁ = { s with heap := s.heap.push { cls := .type "dict", data := .dict #[] } }) PySem.F.kt_called_dict d0_typeCall PySem.F.entry_dict_init (code_dict0 ⟨rfl, rfl⟩) ?_
  rintro obj s₁ ⟨rfl, rfl⟩
  have hnew : (s.heap.push { cls := .type "dict", data := .dict #[] }).DictOf (strKind prog w) s.heap.objs.size [] := Heap.DictOf.new s.heap
  refine ⟨hnew.typeIs, d0_initArgs _, ?_⟩
  unfold Builtin.«dict.__init__»
  refine wpAny_bind ?_
  unfold Builtin.Dict.selfAndRest
  refine wpAny_bind (wpAny_notOrdered_dict hnew.typeIs ?_)
  show wpAny _ _ (pure (s.heap.objs.size, ([] : List Value))) _ _ _
  refine wpAny_pure ?_
  show wpAny _ _ (Builtin.Dict.addKeywords s.heap.objs.size [] >>= _) _ _ _
  exact wpAny_bind (wpAny_pure (wpAny_pure ⟨rfl, h⟩))
theorem stored_new {K : Type} [DecidableEq K] {kvs : List (K × Value)} {k : K} {v : Value} (h : k ∉ kvs.map (·.1)) : stored kvs k v = kvs ++ [(k, v)] := by
  have : ¬ (kvs.any fun kv => decide (kv.1 = k)) = true := by
    intro hh
    obtain ⟨p, hp, e⟩ := List.any_eq_true.mp hh
    exact h (List.mem_map.mpr ⟨p, hp, by simpa using e⟩)
  rw [stored, if_neg this]
noncomputable abbrev fkPairs (cs : List Nat) : List (Str × Value) := cs.map fun c => (⟨#[c]⟩, .none)
theorem fk_fresh {c : Nat} {pre : List Nat} (h : c ∉ pre) : (⟨#[c]⟩ : Str) ∉ (fkPairs pre).map (·.1) := by
  intro hm
  simp only [fkPairs, List.map_map, List.mem_map, Function.comp] at hm
  obtain ⟨a, ha, e⟩ := hm
  have : a = c := by injection e with e; injection e with e; injection e
  exact h (this ▸ ha)
theorem fk_loop {R : Result → Shared → Prop} {x : Str} {t : Tok} {D I : Addr} (hDI : D ≠ I) (hh : A.handled = none) (hnd : x.cps.toList.Nodup) (hsz : x.cps.size ≤ 100) :
    ∀ (n i : Nat) (s : Shared), x.cps.size - i = n → i ≤ x.cps.size → s.heap.IsStrIter I "str_ascii_iterator" x t i → s.heap.DictOf (strKind prog w) D (fkPairs (x.cps.toList.take i)) →
      (∀ h' tk, h'.DictOf (strKind prog w) D (fkPairs x.cps.toList) → (∀ b o, b ≠ D → b ≠ I → s.heap.get? b = some o → h'.get? b = some o) → R (.ok (.ret (.ref D))) { s with heap := h', toks := tk }) →
      codeAny (model prog w) A (.builtin "dict.fromkeys.loop" ⟨[.ref D, .ref I, .none], []⟩) R s := by
  intro n
  induction n with
  | zero =>
    intro i s hn hi hI hD hR
    have hie : i = x.cps.size := by omega
    subst hie
    refine codeAny_builtin fkl_entry ?_
    rw [Around.under_plainId fkl_plain _]
    show wpAny _ A.in1 (pyNext (.ref I) >>= _) _ _ s
    refine wpAny_bind (wpAny_pyNext_ascii_end hh hI (by simp) fun h' he => ?_)
    refine wpAny_pure ?_
    have hl : x.cps.toList.take x.cps.size = x.cps.toList := List.take_of_length_le (by simp)
    rw [hl] at hD
    exact hR h' s.toks (hD.extBut he hDI) fun b o _ hb e => he b o hb e
  | succ n ih =>
    intro i s hn hi hI hD hR
    have hlt : i < x.cps.size := by omega
    have hc : x.cps[i]? = some x.cps[i] := by simp [hlt]
    refine codeAny_builtin fkl_entry ?_
    rw [Around.under_plainId fkl_plain _]
    show wpAny _ A.in1 (pyNext (.ref I) >>= _) _ _ s
    refine wpAny_bind (wpAny_pyNext_ascii_item hI hc fun h' hI' hs' => ?_)
    have hD' : h'.DictOf (strKind prog w) D (fkPairs (x.cps.toList.take i)) := hD.extBut hs'.extBut hDI
    refine wpAny_bind (wpAny_typeOf (s := { s with heap := h', toks := s.toks + 1 }) hD'.typeIs ?_)
    simp only [beq_self_eq_true, if_true]
    refine wpAny_bind (wpAny_pure ?_)
    refine wpAny_bind (wpAny_holding (wpAny_dictSet_pairs (s := { s with heap := h', toks := s.toks + 1 }) (k := ⟨#[x.cps[i]]⟩) (key := .str ⟨#[x.cps[i]]⟩ s.toks) (strKind_is _ _ _ _) hD' (fun h2 hD2 hs2 => ?_) (by simp; rw [sizeLine_eq]; omega)))
    have htk : x.cps.toList.take (i + 1) = x.cps.toList.take i ++ [x.cps[i]] := by
      rw [List.take_add_one]; simp [hlt]
    have hfr : x.cps[i] ∉ x.cps.toList.take i := by
      intro hm
      have hnd' : (x.cps.toList.take (i + 1)).Nodup := hnd.sublist (List.take_sublist _ _)
      rw [htk] at hnd'
      exact (List.nodup_append.mp hnd').2.2 _ hm _ (List.mem_singleton.mpr rfl) rfl
    rw [stored_new (fk_fresh hfr)] at hD2
    have hD3 : h2.DictOf (strKind prog w) D (fkPairs (x.cps.toList.take (i + 1))) := by
      rw [htk]; simpa [fkPairs] using hD2
    have hI2 : h2.IsStrIter I "str_ascii_iterator" x t (i + 1) := let ⟨o, ho, r⟩ := hI'; ⟨o, (hs2.2 I (Ne.symm hDI)).trans ho, r⟩
    refine wpAny_pure ⟨plainId_quiet fkl_plain _, ih (i + 1) _ (by omega) hlt hI2 hD3 fun h3 tk hD4 hk => ?_⟩
    exact hR h3 tk hD4 fun b o hb1 hb2 e => hk b o hb1 hb2 ((hs2.2 b hb1).trans ((hs'.2 b hb2).trans e))
theorem fk_call {x : Str} {t : Tok} {h₀ : Heap} {L : Addr} {m : Str → Option Value} {news : List (Addr × Obj)} {b : Addr} {Q : Value → Shared → Prop} (hh : A.handled = none) (F : Fr h₀ L s.heap m) (N : News h₀ L s.heap news) (hb : (b, bfObj) ∈ news)
    (hx : x.cps.all (· < 128) = true) (hnd : x.cps.toList.Nodup) (hsz : x.cps.size ≤ 100)
    (h : ∀ D o h' tk, s.heap.objs.size ≤ D → (∀ p ∈ news, p.1 < D) → Obj.IsDictOf (strKind prog w) o (fkPairs x.cps.toList) → Fr h₀ L h' m → News h₀ L h' ((D, o) :: news) → Q (.ref D) { s with heap := h', toks := tk }) :
    wpAny (model prog w) A (call (.ref b) [.str x t]) Q E s := by
  refine wpAny_call (codeAny_of_tree ?_)
  show wpAny _ _ (callAny (.ref b) _) _ _ _
  refine nd_load (N _ hb).1 ?_
  show wpAny _ _ (checkBoundCall "dict.fromkeys" ⟨[.type "dict", .str x t], []⟩ >>= fun _ => again (.builtin "dict.fromkeys" ⟨[.type "dict", .str x t], []⟩)) _ _ _
  refine wpAny_bind (wpAny_of_eq (fk_bound x t) (wpAny_pure ⟨plainId_quiet fk_plain _, codeAny_builtin fk_entry ?_⟩))
  rw [Around.under_plainId fk_plain _]
  unfold Builtin.«dict.fromkeys»
  refine wpAny_bind (wpAny_of_eq dict_isType ?_)
  simp only [Bool.not_true, Bool.false_eq_true, if_false]
  refine wpAny_bind (wpAny_of_eq dict_sub ?_)
  simp only [Bool.not_true, Bool.false_eq_true, if_false, List.isEmpty_nil]
  refine wpAny_bind (wpAny_bind (wpAny_rule ?_))
  refine wpAny_pure ?_
  refine wpAny_bind (wpAny_pure ?_)
  refine wpAny_bind (call_dict0 ?_)
  have hlt : ∀ p ∈ news, p.1 < s.heap.objs.size := fun p hp => Heap.lt_size (N p hp).1
  have hD : (s.heap.push { cls := .type "dict", data := .dict #[] }).DictOf (strKind prog w) s.heap.objs.size [] := Heap.DictOf.new s.heap
  have hk1 : ∀ b o, s.heap.get? b = some o → (s.heap.push { cls := .type "dict", data := .dict #[] }).get? b = some o := fun b o e => Heap.get?_push_of_some _ e
  have hz : (s.heap.push { cls := .type "dict", data := .dict #[] }).objs.size = s.heap.objs.size + 1 := Heap.size_push ..
  generalize hH : s.heap.push { cls := .type "dict", data := .dict #[] } = H at *
  refine wpAny_holding ?_
  refine wpAny_bind (wpAny_typeOf (s := { s with heap := H }) (T := "str") rfl ?_)
  refine wpAny_bind (wpAny_typeOf (s := { s with heap := H }) hD.typeIs ?_)
  have e1 : (Value.type "dict" == Value.type "dict" && Value.type "str" == Value.type "dict") = false := by decide +kernel
  rw [if_neg (by rw [e1]; decide)]
  refine wpAny_bind (wpAny_typeOf (s := { s with heap := H }) hD.typeIs ?_)
  have e2 : (Value.type "dict" == Value.type "dict" && (Value.type "str" == Value.type "set" || Value.type "str" == Value.type "frozenset")) = false := by decide +kernel
  rw [if_neg (by rw [e2]; decide)]
  refine wpAny_bind (wpAny_pyIter_ascii (s := { s with heap := H }) hx ?_)
  have hI : (H.push { cls := .type "str_ascii_iterator", data := .fields #[.str x t, .int 0 0] }).IsStrIter H.objs.size "str_ascii_iterator" x t 0 := ⟨_, Heap.get?_push_size _ rfl, rfl, rfl⟩
  have hDI : s.heap.objs.size ≠ H.objs.size := by rw [hz]; exact Nat.ne_of_lt (Nat.lt_succ_self _)
  refine wpAny_pure ⟨plainId_quiet fkl_plain _, fk_loop hDI hh hnd hsz x.cps.size 0 _ (by omega) (Nat.zero_le _) hI (by simpa [fkPairs] using hD.push _) fun h' tk hD' hk => ?_⟩
  obtain ⟨o, ho, hio⟩ := Heap.dictOf_iff.mp hD'
  have hkeep : ∀ b o, s.heap.get? b = some o → h'.get? b = some o := fun b o e => by
    have hb := Heap.lt_size e
    exact hk b o (Nat.ne_of_lt hb) (by rw [hz]; exact Nat.ne_of_lt (Nat.lt_succ_of_lt hb)) (Heap.get?_push_of_some _ (hk1 b o e))
  refine h _ o h' tk (Nat.le_refl _) hlt hio (F.keeps hkeep) fun p hp => ?_
  rcases List.mem_cons.mp hp with rfl | hp
  · refine ⟨ho, Nat.ne_of_gt F.ns.lt, ?_⟩
    cases q : h₀.get? s.heap.objs.size with
    | none => rfl
    | some o' => exact absurd (Heap.lt_size (F.keep _ _ q)) (Nat.lt_irrefl _)
  · exact ⟨hkeep _ _ (N p hp).1, (N p hp).2⟩
end
end
section
-- part D4

set_option Elab.async false
set_option maxRecDepth 100000
set_option maxHeartbeats 1000000
theorem mt_check (a : Addr) : checkBuiltinCall "str.maketrans" ⟨[.ref a], []⟩ = pure () := by kernel_rfl
theorem mt_entry : entryFor table "str.maketrans" = some Builtin.«str.maketrans» := entryFor_of_tree (by kernel_rfl)
theorem mt_plain : plainId "str.maketrans" = true := by decide +kernel
section
variable {prog : Program} {w : World} {A : Around} {E : Value → Shared → Prop} {s : Shared}
noncomputable abbrev mtPairs (cs : List Nat) : List (Int × Value) := cs.map fun (c : Nat) => ((c : Int), Value.none)
theorem wp_forIn {M : Model} {α β : Type} {f : α → β → Sem (ForInStep β)} (I : List α → β → Shared → Prop)
    (step : ∀ a l b s, I (a :: l) b s → wpAny M A (f a b) (fun r s' => ∃ b', r = .yield b' ∧ I l b' s') E s) : ∀ l b s, I l b s → wpAny M A (forIn l b f) (fun b' s' => I [] b' s') E s
  | [], b, s, h => by
    rw [List.forIn_nil]; exact wpAny_pure h
  | a :: l, b, s, h => by
    rw [List.forIn_cons]
    refine wpAny_bind (wpAny_mono (step a l b s h) (fun r s' hr => ?_) fun _ _ e => e)
    obtain ⟨b', rfl, hI⟩ := hr
    exact wp_forIn I step l b' s' hI
theorem mt_fresh {c : Nat} {pre : List Nat} (h : c ∉ pre) : ((c : Nat) : Int) ∉ (mtPairs pre).map (·.1) := by
  intro hm
  simp only [mtPairs, List.map_map, List.mem_map, Function.comp] at hm
  obtain ⟨a, ha, e⟩ := hm
  have : a = c := by omega
  exact h (this ▸ ha)
theorem mt_call {cs : List Nat} {h₀ : Heap} {L : Addr} {m : Str → Option Value} {news : List (Addr × Obj)} {D : Addr} {o : Obj} {Q : Value → Shared → Prop} (hh : A.handled = none) (F : Fr h₀ L s.heap m) (N : News h₀ L s.heap news) (hb : (D, o) ∈ news)
    (hD : Obj.IsDictOf (strKind prog w) o (fkPairs cs)) (hnd : cs.Nodup) (hsz : cs.length ≤ 100) (hsm : (D == sysModules) = false)
    (h : ∀ T o h' tk, s.heap.objs.size ≤ T → (∀ p ∈ news, p.1 < T) → Obj.IsDictOf (intKind prog w) o (mtPairs cs) → Fr h₀ L h' m → News h₀ L h' ((T, o) :: news) → Q (.ref T) { s with heap := h', toks := tk }) :
    wpAny (model prog w) A (call (.builtin "str.maketrans") [.ref D]) Q E s := by
  refine wpAny_call (codeAny_call_builtin mt_plain mt_entry (wpAny_of_eq (mt_check D) ?_))
  unfold Builtin.«str.maketrans»
  refine wpAny_bind (wpAny_pure ?_)
  refine wpAny_bind (wpAny_pure ?_)
  refine wpAny_bind (wpAny_pure ?_)
  refine wpAny_bind (wpAny_pure ?_)
  have hlt : ∀ p ∈ news, p.1 < s.heap.objs.size := fun p hp => Heap.lt_size (N p hp).1
  have hT : (s.heap.push { cls := .type "dict", data := .dict #[] }).DictOf (intKind prog w) s.heap.objs.size [] := Heap.DictOf.new s.heap
  have hk1 : ∀ b o, s.heap.get? b = some o → (s.heap.push { cls := .type "dict", data := .dict #[] }).get? b = some o := fun b o e => Heap.get?_push_of_some _ e
  refine wpAny_bind (wpAny_newObj_type ?_)
  have hDg : (s.heap.push { cls := .type "dict", data := .dict #[] }).get? D = some o := hk1 _ _ (N _ hb).1
  have hDT : D ≠ s.heap.objs.size := Nat.ne_of_lt (hlt _ hb)
  generalize hH : s.heap.push { cls := .type "dict", data := .dict #[] } = H at *
  obtain ⟨es, ep, hex, hdat, hkeys, hpairs, hnod⟩ := id hD
  have hDD : H.DictOf (strKind prog w) D (fkPairs cs) := Heap.dictOf_iff.mpr ⟨o, hDg, hD⟩
  show wpAny _ _ (holding _ _ >>= _) _ _ { s with heap := H }
  refine wpAny_bind (wpAny_holding ?_)
  dsimp only
  refine wpAny_bind (wpAny_typeOf (s := { s with heap := H }) hDD.typeIs ?_)
  refine wpAny_bind (wpAny_pure ?_)
  refine wpAny_bind (wpAny_typeOf (s := { s with heap := H }) hDD.typeIs ?_)
  rw [if_neg (by decide)]
  refine wpAny_bind ?_
  unfold notTheModulesDict
  rw [if_neg (by rw [hsm]; decide)]
  refine wpAny_pure ?_
  refine wpAny_bind (wpAny_dictEntries (s := { s with heap := H }) hDg hdat ?_)
  rw [← Array.forIn_toList]
  refine wpAny_bind (wpAny_mono (wp_forIn (fun (l : List DictEntry) (_ : PUnit) (s' : Shared) => ∃ pre rest h' tk, s' = { s with heap := h', toks := tk } ∧ cs = pre ++ rest ∧ Pairs (strKind prog w) l (fkPairs rest) ∧ h'.DictOf (intKind prog w) s.heap.objs.size (mtPairs pre) ∧ ∀ b o, b ≠ s.heap.objs.size → H.get? b = some o → h'.get? b = some o) ?_ _ _ _ ⟨[], cs, H, s.toks, rfl, rfl, hpairs, hT, fun _ _ _ e => e⟩) (fun _ s' hI => ?_) fun _ _ e => e)
  · rintro e l _ _ ⟨pre, rest, h', tk, rfl, hcs, hpr, hT', hkp⟩
    cases rest with
    | nil => cases hpr
    | cons c rest =>
    cases hpr with
    | cons hk hv hpr =>
    obtain ⟨ek, ⟨t, ekey⟩⟩ : ∃ k, ∃ t, e.key = .str k t ∧ k = ⟨#[c]⟩ := by
      obtain ⟨t, ht⟩ := Value.isStrOf_shape hk
      exact ⟨_, t, ht, rfl⟩
    obtain ⟨ekey, rfl⟩ := ekey
    rw [ekey, hv]
    refine wpAny_bind (wpAny_pure ?_)
    dsimp only
    refine wpAny_bind (wpAny_mkInt ?_)
    have hfr : c ∉ pre := by
      rw [hcs] at hnd
      exact fun hm => (List.nodup_append.mp hnd).2.2 _ hm _ (.head _) rfl
    have hpl : pre.length ≤ 100 := by rw [hcs, List.length_append] at hsz; omega
    refine wpAny_bind (wpAny_dictSet_pairs (s := { s with heap := h', toks := tk + 1 }) (k := ((c : Nat) : Int)) (key := .int c tk) (intKind_is _ _ _ _) hT' (fun h2 hD2 hs2 => ?_) (by simp; rw [sizeLine_eq]; omega))
    rw [stored_new (mt_fresh hfr)] at hD2
    refine wpAny_pure ⟨_, rfl, pre ++ [c], rest, h2, _, rfl, by rw [hcs]; simp, hpr, by simpa [mtPairs] using hD2, fun b o hb e => (hs2.2 b hb).trans (hkp b o hb e)⟩
  · obtain ⟨pre, rest, h', tk, rfl, hcs, hpr, hT', hkp⟩ := hI
    cases rest with
    | cons c rest => cases hpr
    | nil =>
    rw [List.append_nil] at hcs
    subst hcs
    obtain ⟨oT, hoT, hio⟩ := Heap.dictOf_iff.mp hT'
    have hkeep : ∀ b o, s.heap.get? b = some o → h'.get? b = some o := fun b o e => hkp b o (Nat.ne_of_lt (Heap.lt_size e)) (hk1 b o e)
    refine wpAny_pure (wpAny_pure (h _ oT h' tk (Nat.le_refl _) hlt hio (F.keeps hkeep) fun p hp => ?_))
    rcases List.mem_cons.mp hp with rfl | hp
    · refine ⟨hoT, Nat.ne_of_gt F.ns.lt, ?_⟩
      cases q : h₀.get? s.heap.objs.size with
      | none => rfl
      | some o' => exact absurd (Heap.lt_size (F.keep _ _ q)) (Nat.lt_irrefl _)
    · exact ⟨hkeep _ _ (N p hp).1, (N p hp).2⟩
end
end
section
-- part D5

set_option Elab.async false
set_option maxRecDepth 100000
set_option maxHeartbeats 1000000
section
variable {prog : Program} {w : World} {A : Around} {E : Value → Shared → Prop} {s : Shared}
theorem gm_translate {x : Str} {t : Tok} {pl : Sem Bool} {Q : Value × List Value → Shared → Prop} (h : Q (.builtin "str.translate", [.str x t]) s) : wpAny (model prog w) A (getMethod (.str x t) "translate" pl) Q E s := by
  with_reducible exact PySem.GM.of (.str x t) (typeIs_str _ _ _) PySem.F.slot_str_translate PySem.F.type_str_translate PySem.GM.noRef h
theorem mt_at {cs : List Nat} {c : Nat} : valueAt (mtPairs cs) ((c : Nat) : Int) = if c ∈ cs then some .none else none := by
  unfold valueAt mtPairs
  induction cs with
  | nil => simp
  | cons a cs ih =>
    rw [List.map_cons, List.find?_cons]
    by_cases q : a = c
    · subst q; simp
    · have q' : ¬ ((a : Int) = (c : Int)) := by omega
      have q2 : ¬ c = a := fun e => q e.symm
      simp only [q', decide_false, List.mem_cons, q2, false_or]
      exact ih
theorem key_lookup : isSubtype (.type "KeyError") (.type "LookupError") = pure true := by rw [isSubtype_type]; kernel_rfl
theorem tl_at {cs : List Nat} {c : Nat} {T : Addr} {Q : Builtin.Str.Mapped → Shared → Prop} (hh : A.handled = none) (hD : s.heap.DictOf (intKind prog w) T (mtPairs cs)) (hsm : (T == sysModules) = false)
    (h : ∀ h' tk, (∀ b o, s.heap.get? b = some o → h'.get? b = some o) → Q (if c ∈ cs then .drop else .keep) { s with heap := h', toks := tk }) : wpAny (model prog w) A (Builtin.Str.tableLookup (.ref T) c) Q E s := by
  unfold Builtin.Str.tableLookup
  refine wpAny_bind (wpAny_attempt (wpAny_bind (wpAny_mkInt ?_)))
  by_cases hc : c ∈ cs
  · refine wpAny_getItem_of (s := { s with toks := s.toks + 1 }) (k := ((c : Nat) : Int)) (intKind_is _ _ _ _) hD.mapOf (by rw [mt_at, if_pos hc]) ?_
    rw [if_pos hc] at h
    exact wpAny_pure (h _ _ fun _ _ e => e)
  · refine wpAny_getItem_missing_of (s := { s with toks := s.toks + 1 }) (k := ((c : Nat) : Int)) (intKind_is _ _ _ _) hsm hh hD.mapOf (by rw [mt_at, if_neg hc]) fun h' e hx => ?_
    rw [if_neg hc] at h
    obtain ⟨ob, u, ho, hcl, _⟩ := hx.there
    refine wpAny_bind (wpAny_isInstance (T := "KeyError") (b := true) ⟨ob, ho, hcl⟩ key_lookup ?_)
    simp only [if_true]
    exact wpAny_bind (wpAny_rule (wpAny_pure (h _ _ hx.keeps)))
theorem kept_join (l : List Nat) : List.foldl (fun (acc : Array Nat) (p : Str) => acc ++ p.cps) #[] (l.map fun c => (⟨#[c]⟩ : Str)) = l.toArray := by
  have : ∀ (l : List Nat) (a : Array Nat), List.foldl (fun (acc : Array Nat) (p : Str) => acc ++ p.cps) a (l.map fun c => (⟨#[c]⟩ : Str)) = a ++ l.toArray := by
    intro l
    induction l with
    | nil => intro a; simp
    | cons c l ih =>
      intro a
      rw [List.map_cons, List.foldl_cons, ih]
      apply Array.ext'
      simp
  rw [this]; simp
theorem tr_call {x : Str} {t : Tok} {cs : List Nat} {h₀ : Heap} {L : Addr} {m : Str → Option Value} {news : List (Addr × Obj)} {T : Addr} {o : Obj} {Q : Value → Shared → Prop} (hh : A.handled = none) (F : Fr h₀ L s.heap m) (N : News h₀ L s.heap news) (hb : (T, o) ∈ news)
    (hD : Obj.IsDictOf (intKind prog w) o (mtPairs cs)) (hsm : (T == sysModules) = false) (hx : x.cps.all (· < 128) = true) (hnd : x.cps.toList.Nodup) (hsz : x.cps.toList.length ≤ 200) (h0 : x.cps.toList ≠ [])
    (h : ∀ t' h' tk, Fr h₀ L h' m → News h₀ L h' news → Q (.str ⟨(x.cps.toList.filter (fun c => decide (c ∉ cs))).toArray⟩ t') { s with heap := h', toks := tk }) :
    wpAny (model prog w) A (call (.builtin "str.translate") [.str x t, .ref T]) Q E s := by
  refine wpAny_call_entry PySem.F.slot_str_translate (T := "str") rfl PySem.F.entry_str_translate ?_ (PySem.F.args_str_translate_2 _ _)
  unfold Builtin.«str.translate»
  refine wpAny_bind (wpAny_bind (wpAny_pure (wpAny_bind (wpAny_pure (wpAny_pure ?_)))))
  have hne : (x.length == 0) = false := by
    have : x.length = x.cps.toList.length := by simp [Str.length]
    rw [this]
    cases q : x.cps.toList with
    | nil => exact absurd q h0
    | cons a l => rfl
  dsimp only
  rw [if_neg (by rw [hne]; decide)]
  rw [hx, ← Array.forIn_toList]
  have hDT : s.heap.DictOf (intKind prog w) T (mtPairs cs) := Heap.dictOf_iff.mpr ⟨o, (N _ hb).1, hD⟩
  refine wpAny_bind (wpAny_mono (wp_forIn (fun (l : List Nat) (st : List Str × Nat × Bool × List (Nat × Option Nat) × Bool) (s' : Shared) => ∃ pre known h' tk, x.cps.toList = pre ++ l ∧ s' = { s with heap := h', toks := tk } ∧
    st = (((pre.filter (fun c => decide (c ∉ cs))).map fun c => (⟨#[c]⟩ : Str)).reverse, (pre.filter (fun c => decide (c ∉ cs))).length, true, known, false) ∧ (∀ c, c ∉ pre → known.lookup c = none) ∧ ∀ b o, s.heap.get? b = some o → h'.get? b = some o) ?_ _ _ _ ⟨[], [], s.heap, s.toks, rfl, rfl, rfl, fun _ _ => rfl, fun _ _ e => e⟩) (fun st s' hI => ?_) fun _ _ e => e)
  · rintro c l _ _ ⟨pre, known, h', tk, hp, rfl, rfl, hkn, hkp⟩
    have hcp : c ∉ pre := by
      rw [hp] at hnd
      exact fun hm => (List.nodup_append.mp hnd).2.2 _ hm _ (.head _) rfl
    have hle : (pre.filter (fun c => decide (c ∉ cs))).length ≤ 200 := by
      have h1 := List.length_filter_le (fun c => decide (c ∉ cs)) pre
      rw [hp, List.length_append] at hsz
      omega
    have htl : Builtin.Str.tooLong (pre.filter (fun c => decide (c ∉ cs))).length = false := by
      unfold Builtin.Str.tooLong
      rw [sizeLine_eq]
      exact decide_eq_false (by omega)
    dsimp only
    rw [if_neg (by rw [htl]; decide)]
    simp only [if_true]
    rw [hkn c hcp]
    dsimp only
    refine wpAny_bind (tl_at (s := { s with heap := h', toks := tk }) (cs := cs) hh (Heap.dictOf_iff.mpr ⟨o, hkp _ _ (N _ hb).1, hD⟩) hsm fun h2 tk2 hk2 => ?_)
    by_cases hc : c ∈ cs
    · rw [if_pos hc]
      refine wpAny_bind (wpAny_pure (wpAny_pure ⟨_, rfl, pre ++ [c], (c, none) :: known, h2, tk2, by rw [hp]; simp, rfl, ?_, ?_, fun b o e => hk2 b o (hkp b o e)⟩))
      · simp [List.filter_append, hc]
      · intro k hk
        have hk1 : ¬ k = c := fun e => hk (by rw [e]; simp)
        have hk' : (k == c) = false := by simpa using hk1
        rw [List.lookup_cons, hk']
        exact hkn k fun hm => hk (List.mem_append_left _ hm)
    · rw [if_neg hc]
      refine wpAny_bind (wpAny_pure (wpAny_pure ⟨_, rfl, pre ++ [c], (c, some c) :: known, h2, tk2, by rw [hp]; simp, rfl, ?_, ?_, fun b o e => hk2 b o (hkp b o e)⟩))
      · simp [List.filter_append, hc]
      · intro k hk
        have hk1 : ¬ k = c := fun e => hk (by rw [e]; simp)
        have hk' : (k == c) = false := by simpa using hk1
        rw [List.lookup_cons, hk']
        exact hkn k fun hm => hk (List.mem_append_left _ hm)
  · obtain ⟨pre, known, h', tk, hp, rfl, rfl, hkn, hkp⟩ := hI
    rw [List.append_nil] at hp
    have hle : (pre.filter (fun c => decide (c ∉ cs))).length ≤ 200 := by
      have h1 := List.length_filter_le (fun c => decide (c ∉ cs)) pre
      rw [hp] at hsz
      omega
    have htl : Builtin.Str.tooLong (pre.filter (fun c => decide (c ∉ cs))).length = false := by
      unfold Builtin.Str.tooLong
      rw [sizeLine_eq]
      exact decide_eq_false (by omega)
    dsimp only
    rw [if_neg (by rw [htl]; decide), List.reverse_reverse, kept_join, ← hp]
    refine wpAny_bind (wpAny_mkStr ?_ ?_)
    · exact wpAny_pure ⟨_, rfl, h _ h' _ (F.keeps hkp) fun p hp' => ⟨hkp _ _ (N p hp').1, (N p hp').2⟩⟩
    · rw [sizeLine_eq, hp]
      simp only [Str.length, List.size_toArray]
      omega
end
end
section
-- part F9

set_option Elab.async false
set_option maxRecDepth 100000
set_option maxHeartbeats 8000000
theorem fresh_F9 : True := by
  w_top off
  k_with_none
  k_with "small" => first | exact Int.toNat_natCast _ | with_reducible exact Nat.mod_lt _ (by decide) | with_reducible exact fm2_lt _ | with_reducible exact fm2_ge _ | with_reducible exact fm4_lt _ _ | with_reducible exact fm4_ge _ _ | with_reducible exact em_lt _ | with_reducible exact em_gt _ | with_reducible exact nat_gt _ | with_reducible exact Int.natCast_nonneg _ | with_reducible exact nat_gt1 _ | with_reducible exact room2 (by assumption) (by decide) | with_reducible exact room1 (by assumption) (by decide) | with_reducible exact room3 (by assumption) (by decide) | with_reducible exact room4 (by assumption) (by decide) | with_reducible exact room0 (by assumption) | with_reducible exact le_le (by assumption) (by decide) | with_reducible exact le_eq (by assumption) (by decide) | with_reducible exact lt_le (by assumption) (by decide) | with_reducible exact sub_one (by assumption) | with_reducible exact sub_j (by assumption) | with_reducible exact sub_dec (by assumption) | with_reducible exact toNat_pred _ | with_reducible exact nat_ge _
  k_with "ne" => first | with_reducible exact Apart.l (by assumption) | with_reducible exact Apart.r (by assumption) | with_reducible exact gt1 (by assumption) | with_reducible exact lt1 (by assumption) | with_reducible exact gt2 (by assumption) | with_reducible exact lt2 (by assumption) | with_reducible exact gl2 (by assumption) | with_reducible exact ll2 (by assumption) | with_reducible exact gt3 (by assumption) | with_reducible exact lt3 (by assumption) | with_reducible exact gl3 (by assumption) | with_reducible exact ll3 (by assumption) | with_reducible exact gt4 (by assumption) | with_reducible exact gl4 (by assumption) | with_reducible exact ll4 (by assumption) | with_reducible exact gl5 (by assumption) | with_reducible exact gl6 (by assumption) | with_reducible exact gl7 (by assumption) | with_reducible exact gl8 (by assumption) | with_reducible exact gl9 (by assumption) | with_reducible exact gl10 (by assumption) | with_reducible exact gl11 (by assumption)
  k_with "k_room" => ((try simp only [depth_under_make, depth_under_kw, depth_in1, depth_deeper, depth_caller]); first | decide | ktr_room)
  k_with "cell_enter" => (refine' code_defG (by k_asm) (by k_asm) (by k_asm) (by k_asm) (by k_asm) rfl rfl (by assumption) (by k_is) (by k_is) (by ktr_room) (by first | exact BindsTo.of_eq rfl | exact binds_K (by k_in) rfl (by k_is) rfl rfl rfl) (by exact locs rfl) ?_ (by exact rfl) (by exact rfl) (by exact rfl) (by decide); k_whole; intro g' L' h' FG' F' N' B' X' T' GS'; (try dsimp only); (try k_lift B'); (try k_fold))
  k_with "exec If" => (k_here; dsimp only)
  k_with "execs cons" => (k_here; dsimp only)
  k_with "isTrue" => (k_here; dsimp only)
  k_with "exec Assign" => (k_here; dsimp only)
  k_with "exec Expr" => (k_here; dsimp only)
  k_with "eval Attribute" => (k_here; dsimp only)
  k_with "execs nil" => (k_here; dsimp only)
  k_with "execs cons" => (k_here; (try dsimp only); (with_reducible refine toks_gen ?_); intro tk')
  k_with "execs nil" => (k_here; (try dsimp only); (with_reducible refine toks_gen ?_); intro tk')
  k_with "eval Name" => (k_here; (try dsimp only); ((with_reducible refine toks_gen ?_); intro _))
  k_with "eval Attribute" => (k_here; (try dsimp only); ((with_reducible refine toks_gen ?_); intro _))
  k_with "eval Constant" => (k_here; (try dsimp only); ((with_reducible refine toks_gen ?_); intro _))
  trivial

theorem sio_emade (w : World) : peek (hdK.heap_1 w.params) ⟨PySem.Challenge.rw_op0282_01.row.prog, w.params⟩ (Bind.madeBy (.ref 639)) = some none := by kernel_rfl
theorem sio_base (w : World) : peek (hdK.heap_1 w.params) ⟨PySem.Challenge.rw_op0282_01.row.prog, w.params⟩ (Bind.staticBase (.ref 639)) = some (.type "object") := by kernel_rfl
theorem obj_made (w : World) : peek (hdK.heap_1 w.params) ⟨PySem.Challenge.rw_op0282_01.row.prog, w.params⟩ (Bind.madeBy (.type "object")) = some (some "object.__new__") := by kernel_rfl
section
variable {w : World} {A : Around} {s : Shared} {h₀ : Heap} {L : Addr} {m : Str → Option Value} {news : List (Addr × Obj)} {Q E : Value → Shared → Prop}
theorem sio_new (F : Fr h₀ L s.heap m) (X : (hdK.heap_1 w.params).In h₀) (N : News h₀ L s.heap news)
    (h : ∀ x dx h', Fr h₀ L h' m → News h₀ L h' ((x, instObj 639 dx) :: (dx, dictOf [] 0) :: news) → (∀ p ∈ news, p.1 < dx) → dx < x → Q (.ref x) { s with heap := h' }) :
    wpAny (model PySem.Challenge.rw_op0282_01.row.prog w) A (call (.builtin "object.__new__") [.ref 639]) Q E s := by
  refine wpAny_call ?_
  obtain ⟨hh, g, d, t, os⟩ := s
  have X' := X.keeps F.keep
  refine new_own (X' _ _ rfl) rfl rfl (Looks.of_peek X' (sio_base w)) (Looks.of_peek X' (obj_made w)) (looks_subIn X' (by kernel_rfl)) (looks_instIn X' (by kernel_rfl)) ?_
  have N' := (N.push F emptyDict).push (F.push _) (instObj 639 hh.objs.size)
  rw [Heap.size_push] at N'
  exact h _ hh.objs.size _ ((F.push _).push _) N' (fun p hp => Heap.lt_size (N p hp).1) (Nat.lt_succ_self _)
end
theorem lay_F9_4 : True := by
  k_with "call ref" => (k_here; (show wpAny _ _ (call (Value.ref 639) _ _) _ _ _); k_dflt (refine' call_own (fI := 409) (K := hdK.heap_1 _) (by k_in) (by k_is) (by exact rfl) (by k_is) (by k_is) (by exact sio_emade _) (by k_is) (by k_is) (by k_is) ?_; k_whole))
  k_with "call builtin:object.__new__" => (k_here; k_dflt (refine' sio_new (by k_asm) (by k_asm) (by k_asm) ?_; k_whole); intro _ _ _ _ _ l1 l2; (try k_lt l1); (try k_lt2 l2); (try k_sweep))
  k_with "setAttr ref" => (k_here; k_dflt (refine' set_new (by k_asm) (by k_asm) (by k_asm) (by k_inst) (by exact rfl) (by k_is) (by k_is) (by k_is) (by k_is) (by k_get) (by intro c t; k_put) (by intro c t; k_upd) (by intro _ _; exact Nat.le_of_ble_eq_true rfl) ?_; k_whole); intro _ _ _ _ _ _; (try k_sweep))
  k_with "setAttr ref" => (k_here; (with_reducible show wpAny _ _ (setAttr _ _ (Value.str _ _)) _ _ _); k_dflt (refine' set_newS (by k_asm) (by k_asm) (by k_asm) (by k_inst) (by exact rfl) (by k_is) (by k_is) (by k_is) (by k_is) (by k_get) (by intro c t u; k_put) (by intro c t u; k_upd) (by intro _ _ _; exact Nat.le_of_ble_eq_true rfl) ?_; k_whole); intro _ _ _ _ _ _ _; (try k_sweep))
  k_with "OwnMade" => (refine hold_out ?_)
  k_with "call type:collections.deque" => (k_here; k_dflt (refine' mk_dq (by k_asm) (by k_asm) ?_; k_whole); intro _ _ l1 _ _; (try k_lt l1); (try k_sweep))
  k_with "getMethod str" => ((with_reducible show wpAny _ _ (getMethod (Value.str _ _) (PySem.Str.ofString "maketrans") _) _ _ _); refine gm_maketrans ?_; intro _; (try dsimp only))
  k_with "getMethod str" => ((with_reducible show wpAny _ _ (getMethod (Value.str _ _) (PySem.Str.ofString "translate") _) _ _ _); with_reducible refine gm_translate ?_; (try dsimp only))
  trivial
theorem sm_ne {K : Frag} {h₀ h : Heap} {L D : Addr} {m : Str → Option Value} (F : Fr h₀ L h m) (X : K.In h₀) (hk : (K.lookup 2).isSome = true) (hl : h.objs.size ≤ D) : (D == sysModules) = false := by
  obtain ⟨os, hos⟩ := Option.isSome_iff_exists.mp hk
  have h1 := Heap.lt_size (F.keep _ _ (X _ _ hos))
  refine beq_eq_false_iff_ne.mpr fun e => ?_
  rw [e] at hl
  have : (1 : Nat) < 1 := Nat.lt_of_lt_of_le (Nat.lt_trans (by decide : (1 : Nat) < 2) h1) hl
  exact absurd this (by decide)
noncomputable abbrev RWXST : Str := Str.ofString "rwxst"
section
variable {prog : Program} {w : World} {A : Around} {E : Value → Shared → Prop} {s : Shared} {h₀ : Heap} {L : Addr} {m : Str → Option Value} {news : List (Addr × Obj)} {b D : Addr} {o : Obj} {Q : Value → Shared → Prop} {K : Frag}
theorem fk_rw {t : Tok} (hh : A.handled = none) (F : Fr h₀ L s.heap m) (N : News h₀ L s.heap news) (hb : (b, bfObj) ∈ news) (X : K.In h₀) (hk : (K.lookup 2).isSome = true)
    (h : ∀ D o h' tk, (D == sysModules) = false → (∀ p ∈ news, p.1 < D) → Obj.IsDictOf (strKind prog w) o (fkPairs RWXST.cps.toList) → Fr h₀ L h' m → News h₀ L h' ((D, o) :: news) → Q (.ref D) { s with heap := h', toks := tk }) :
    wpAny (model prog w) A (call (.ref b) [.str RWXST t]) Q E s :=
  fk_call hh F N hb (by decide +kernel) (by decide +kernel) (by decide +kernel) fun D o h' tk z => h D o h' tk (sm_ne F X hk z)
theorem mt_rw (hh : A.handled = none) (F : Fr h₀ L s.heap m) (N : News h₀ L s.heap news) (hb : (D, o) ∈ news)
    (hD : Obj.IsDictOf (strKind prog w) o (fkPairs RWXST.cps.toList)) (lo : (D == sysModules) = false) (X : K.In h₀) (hk : (K.lookup 2).isSome = true)
    (h : ∀ T o h' tk, (T == sysModules) = false → (∀ p ∈ news, p.1 < T) → Obj.IsDictOf (intKind prog w) o (mtPairs RWXST.cps.toList) → Fr h₀ L h' m → News h₀ L h' ((T, o) :: news) → Q (.ref T) { s with heap := h', toks := tk }) :
    wpAny (model prog w) A (call (.builtin "str.maketrans") [.ref D]) Q E s :=
  mt_call hh F N hb hD (by decide +kernel) (by decide +kernel) lo fun D o h' tk z => h D o h' tk (sm_ne F X hk z)
end
section
variable {prog : Program} {w : World} {A : Around} {E : Value → Shared → Prop} {s : Shared}
theorem tr_rw {x y : Str} {t : Tok} {h₀ : Heap} {L : Addr} {m : Str → Option Value} {news : List (Addr × Obj)} {T : Addr} {o : Obj} {Q : Value → Shared → Prop} (hh : A.handled = none) (F : Fr h₀ L s.heap m) (N : News h₀ L s.heap news) (hb : (T, o) ∈ news)
    (hD : Obj.IsDictOf (intKind prog w) o (mtPairs RWXST.cps.toList)) (lo : (T == sysModules) = false) (hx : (x.cps.all (· < 128) && decide (x.cps.toList.Nodup) && decide (x.cps.toList.length ≤ 200) && !x.cps.toList.isEmpty) = true)
    (hy : x.cps.toList.filter (fun c => decide (c ∉ RWXST.cps.toList)) = y.cps.toList)
    (h : ∀ t' h' tk, Fr h₀ L h' m → News h₀ L h' news → Q (.str y t') { s with heap := h', toks := tk }) :
    wpAny (model prog w) A (call (.builtin "str.translate") [.str x t, .ref T]) Q E s := by
  simp only [Bool.and_eq_true, decide_eq_true_eq, Bool.not_eq_true', List.isEmpty_eq_false_iff] at hx
  refine tr_call hh F N hb hD lo hx.1.1.1 hx.1.1.2 hx.1.2 hx.2 ?_
  rw [hy]
  exact h
end
noncomputable def StandsFk (x : Addr) (h : Heap) : Prop := h.get? x = some bfObj
section
variable {M : Model} {A : Around} {E : Value → Shared → Prop} {s : Shared} {h₀ : Heap} {L : Addr} {news : List (Addr × Obj)}
theorem fk_stands {x : Addr} {h : Heap} (N : News h₀ L h news) (hm : (x, bfObj) ∈ news) : StandsFk x h := N.get hm
theorem callWith_fields {pos : Pos} {u : Addr} {first : List Value} {args : List (Bool × Sem Value)} {Q : Value → Shared → Prop} (hplain : args.any (·.1) = false)
    (h : wpAny M A (evalArgs (.ref u) true args []) (fun x s₁ => StandsFk u s₁.heap ∧ wpAny M A (call (.ref u) (first ++ x.pos) x.kw) Q E s₁) E s) : wpAny M A (callWith pos (.ref u) first args []) Q E s := by
  unfold callWith
  refine wpAny_bind (wpAny_holding (wpAny_mono h (fun x s₁ h₁ => wpAny_bind (wpAny_standAt ?_)) fun _ _ x => x))
  obtain ⟨ho, hcall⟩ := h₁
  simp only [hplain, List.any_nil, Bool.or_false]
  refine wpAny_bind (m := keeperOf (.ref u)) ?_
  unfold keeperOf
  refine wpAny_bind (wpAny_load ho ?_)
  simp only [bfObj, show (Value.type "builtin_function_or_method" != Value.type "method") = true by decide, show (Value.type "builtin_function_or_method" == Value.type "builtin_function_or_method" || Value.type "builtin_function_or_method" == Value.type "method-wrapper") = true by decide, if_true]
  refine wpAny_pure ?_
  exact wpAny_bind (wpAny_mono hcall (fun r s₂ hr => wpAny_bind (wpAny_holding (wpAny_point (wpAny_pure hr)))) fun _ _ x => x)
theorem callWith_fk {pos : Pos} {u : Addr} {first : List Value} {env : Env} {e : PySem.Expr} {rest : List PySem.Expr} {Q : Value → Shared → Prop} (_N : News h₀ L s.heap news) (_hm : (u, bfObj) ∈ news)
    (h : wpAny M A (spliced (backTo pos (starEach (e :: rest) env))) (fun vs s₁ => StandsFk u s₁.heap ∧ wpAny M A (call (.ref u) (first ++ vs)) Q E s₁) E s)
    (he : starEach (e :: rest) env = (false, eval e env) :: starEach rest env := by rfl) (hplain : (backTo pos (starEach rest env)).any (·.1) = false := by rfl) :
    wpAny M A (callWith pos (.ref u) first (backTo pos (starEach (e :: rest) env)) []) Q E s := by
  rw [he] at h ⊢
  refine callWith_fields (by show (false || (backTo pos (starEach rest env)).any (·.1)) = false; rw [hplain]; rfl) ?_
  exact Calls.evalArgs_plain h
end
theorem lay_F9_12 : True := by
  k_with "callWith ref" => (k_here; (with_reducible show wpAny _ _ (callWith _ (Value.ref _) _ (backTo _ (starEach (_ :: _) _)) []) _ _ _); k_dflt (refine' callWith_fk (by k_asm) (by exact List.Mem.head _) ?_; k_whole))
  k_with "And" => ((with_reducible show StandsFk _ _ ∧ _); k_dflt (refine ⟨fk_stands (by k_asm) (by k_mem), ?_⟩); (try dsimp only [List.nil_append, List.cons_append]))
  k_with "getMethod type:dict" => (k_here; k_dflt (refine' gm_fromkeys (by k_asm) (by k_asm) ?_; k_whole); intro _ _ l1 _ _; (try k_lt l1); (try k_sweep); (try dsimp only))
  k_with "call ref" => (k_here; (with_reducible show wpAny _ _ (call (Value.ref _) [Value.str _ _]) _ _ _); k_dflt (refine' fk_rw (K := hdK.heap_1 _) (by exact rfl) (by k_asm) (by k_asm) (by exact List.Mem.head _) (by k_asm) (by kernel_rfl) ?_; k_whole); intro _ _ _ _ _ l1 _ _ _; (try k_lt l1); (try k_sweep))
  k_with "call builtin:str.maketrans" => (k_here; k_dflt (refine' mt_rw (K := hdK.heap_1 _) (by exact rfl) (by k_asm) (by k_asm) (by exact List.Mem.head _) (by assumption) (by assumption) (by k_asm) (by kernel_rfl) ?_; k_whole); intro _ _ _ _ _ l1 _ _ _; (try k_lt l1); (try k_sweep))
  k_with "call builtin:str.translate" => (k_here; k_dflt (refine' tr_rw (y := WC) (by exact rfl) (by k_asm) (by k_asm) (by exact List.Mem.head _) (by assumption) (by assumption) (by decide +kernel) (by decide +kernel) ?_; k_whole); intro _ _ _ _ _; (try k_sweep))
  trivial
section
variable {prog : Program} {w : World} {A : Around} {E : Value → Shared → Prop} {s : Shared} {K : Frag} {C L : Addr} {h₀ : Heap} {m : Str → Option Value} {news : List (Addr × Obj)} {Q : Value → Shared → Prop}
theorem call_clsG {pos : List Value} {kw : List (Str × Value)} {fI : Addr} (F : Fr h₀ L s.heap m) (X₀ : K.In h₀) (N : News h₀ L s.heap news) (hm : makesIn K C = true) (hi : findIn K (.ref C) "__init__" = some (some (.ref fI))) (hf : isFn K (.ref fI) = true)
    (h : ∀ x dx h', Fr h₀ L h' m → News h₀ L h' ((x, instObj C dx) :: (dx, dictOf [] 0) :: news) → (∀ p ∈ news, p.1 < dx) → dx < x → (∀ g, GSub h' g [x, dx] → ∀ b o, s.heap.get? b = some o → g.get? b = some o) →
      codeAny (model prog w) (A.under (.builtin "type.__call__" ⟨.ref C :: pos, kw⟩)) (.call (.ref fI) ⟨.ref x :: pos, kw⟩) (InitBack x fun r s' => match r with | .ok (.ret v) => Q v s' | .ok _ => False | .error e => E e s') { s with heap := h' }) :
    wpAny (model prog w) A (call (.ref C) pos kw) Q E s := by
  refine wpAny_call ?_
  have X := X₀.keeps F.keep
  obtain ⟨hh, g, d, t, os⟩ := s
  refine make_core (makes_of X hm) (looks_findIn X hi) (fun self => bind_fn X self (beq_iff_eq.mp hf)) (.inl rfl) (h _ hh.objs.size _ ((F.push _).push _) ?_ (fun p hp => Heap.lt_size (N p hp).1) (Nat.lt_succ_self _) fun g G b o e => ?_)
  · have := (N.push F emptyDict).push (F.push _) (instObj C hh.objs.size)
    rwa [Heap.size_push] at this
  · refine G b o (Heap.get?_push_of_some _ (Heap.get?_push_of_some _ e)) fun hm => ?_
    have hb := Heap.lt_size e
    rcases List.mem_cons.mp hm with rfl | hm
    · exact Nat.lt_irrefl _ (Nat.lt_of_succ_lt hb)
    · rcases List.mem_cons.mp hm with rfl | hm
      · exact Nat.lt_irrefl _ hb
      · cases hm
end
/-- as Claim, and what is new is new -/
noncomputable def ClaimF (w : World) (LO : List Str) (mean : ExcName → Option Value) (mg mb : Str → Option Value) (D U : Nat) (f : Addr) (vs : List Value) (kw : List (Str × Value)) (Pre : Heap → Prop) (small : List (Addr × Obj)) (Post : Value → List (Addr × Obj) → Prop) : Prop :=
  ∀ (dp un : Nat) (gd : Option (List Code)) (cn : Str) (cs : Scope) (a : Addr) (ccd : Value) (cl : List (Str × Addr)) (outer : List Env) (A₀ : Around) (base h₀ : Heap) (L : Addr) (m : Str → Option Value) (s : Shared) (Q E : Value → Shared → Prop),
    Below A₀ base outer h₀ → Fr h₀ L s.heap m → (hdK.heap_1 w.params).In h₀ → News h₀ L s.heap small → Top hdK.view_39 LO mean mg mb h₀ → cs.kind = .function →
    dp + D < recursionLimit → un + U < cLine → Pre s.heap →
    (∀ v small' h' tk, Post v small' → Fr h₀ L h' m → News h₀ L h' small' → GSub s.heap h' (small.map (·.1)) → (∀ p ∈ small', p.1 ∉ small.map (·.1) → s.heap.get? p.1 = none) → Q v { s with heap := h', toks := tk }) →
    wpAny (model PySem.Challenge.rw_op0282_01.row.prog w) (ktrTop dp un gd cn cs L a ccd cl outer) (call (.ref f) vs kw) Q E s
theorem News.mixed {h₀ g H h : Heap} {L L' : Addr} {news : List (Addr × Obj)} (N : News h₀ L h news) (N' : News g L' h news) (k : ∀ b o, H.get? b = some o → g.get? b = some o) : News H L h news := fun p hp => ⟨(N p hp).1, (N p hp).2.1, kts_none k (N' p hp).2.2⟩
theorem now_c_mk : True := by
  k_with "now" =>
    unfold ClaimF
    k_fill
    intro dp un gd cn cs a ccd cl outer A₀ base h₀ L m s Q E hB hF hX hN hT hcs hdp hun _ hret
    k_lift hB
    k_dflt (refine' call_clsG ?k1 ?k2 ?k3 ?k4 ?k5 ?k6 ?_; (case k1 => k_asm); (case k2 => k_asm); (case k3 => k_asm); (case k4 => k_is); (case k5 => k_is); (case k6 => k_is); k_whole)
    intro x' d' hq F0 N0 l1 l2 hKG
    clear l1
    k_lt2 l2
    k_dflt (refine' code_defG ?k1 ?k2 ?k3 ?k4 ?k5 ?kA ?kF ?kK ?k6 ?k7 ?k8 ?k9 ?kB ?_ ?c2 ?c3 ?c4 ?c5; (case kA => exact rfl); (case kF => exact rfl); (case kK => assumption); (case k1 => k_asm); (case k2 => k_asm); (case k3 => k_asm); (case k4 => k_asm); (case k5 => k_asm); (case k6 => k_is); (case k7 => k_is); (case k8 => ktr_room); (case k9 => first | exact BindsTo.of_eq rfl | exact binds_K (by k_in) rfl (by k_is) rfl rfl rfl); (case c5 => decide); (case kB => exact locs rfl); (case c2 => exact rfl); (case c3 => exact rfl); (case c4 => exact rfl); k_whole)
    intro g' L' h1 FG' F1 N1 B' X' T' GS'
    replace F1 := fr_clean [(Str.ofString "punctuation_chars", Value.str (Str.ofString "rwxst") tq), (Str.ofString "posix", Value.bool false), (Str.ofString "infile", Value.none), (Str.ofString "instream", Value.str txt tt), (Str.ofString "self", Value.ref x')] F1 (by rfl)
    (try dsimp only)
    k_lift B'
    (try k_fold)
    k_steps
    (rename News _ _ _ _ => kN9)
    refine hold_in ⟨_, _, rfl, (kN9 _ (.head _)).1, by k_in, ?_⟩
    k_dflt k_enter
    k_steps
    rename News h₀ _ _ _ => kN
    rename Fr h₀ _ _ _ => kF
    rename News g' L' _ _ => kN8
    rename Fr g' L' _ _ => kF1
    have kNs := News.mixed kN kN8 (fun b o e => hKG g' GS' b o e)
    obtain ⟨K, v, rfl, hN9, ok, hat⟩ := lex_made12 kNs (by omega) (by omega) (by omega) (by omega) (by omega) (by omega) hlen hne
    exact hret _ _ _ _ ⟨K, v, rfl, rfl, ok, hat⟩ kF (fun p hp => ⟨(hN9 p hp).1, (hN9 p hp).2.1, kts_none hF.keep (hN9 p hp).2.2⟩) (gsub_of_keep (fun b o e => kF1.keep b o (hKG g' GS' b o e)) _) (fun p hp _ => (hN9 p hp).2.2)
  trivial
theorem c_mk (w : World) (LO : List Str) (mean : ExcName → Option Value) (mg mb : Str → Option Value) (txt : Str) (tt tq : Tok) (hlen : txt.length ≤ 9) (hne : txt.cps.toList ≠ []) :
   ClaimF w LO mean mg mb 8 80 774 [.str txt tt] [(Str.ofString "punctuation_chars", .str (Str.ofString "rwxst") tq)] (fun _ => True) [] (fun r small' => ∃ (K : LexC) (v : LexV), r = .ref K.x ∧ small' = K.at v ∧ K.Ok ∧ LexAt K txt.cps.toList (K.at v)) := (by exact whole_of _ : Whole by_lay)
end
section
-- part R1

set_option Elab.async false
set_option maxRecDepth 100000
set_option maxHeartbeats 1000000
open PySem.Builtin.Re PySem.Sre
noncomputable abbrev codeN : Array Nat := #[14, 10, 4, 1, 1, 22, 0, 31, 16, 127, 0, 13, 7, 22, 0, 31, 16, 127, 0, 1]
noncomputable abbrev codeV : Array Nat := #[14, 14, 4, 1, 1, 9, 4294966783, 0, 0, 2147483648, 0, 0, 0, 0, 0, 13, 11, 9, 4294966783, 0, 0, 2147483648, 0, 0, 0, 0, 0, 1]
noncomputable def seenN (x : Sre.Seen) : Sre.Seen := ((x.add 22).add 16).add 0
noncomputable def seenV (x : Sre.Seen) : Sre.Seen := (x.add 9).add 0
theorem inSetN {c : Nat} {seen : Sre.Seen} (h0 : 32 ≤ c) (h1 : c < 127) : inSet codeN c 20 5 true seen = .ok (false, seenN seen) := by
  have e1 : (decide (0 ≤ c) && decide (c ≤ 31)) = false := by rw [decide_eq_false (Nat.not_le_of_lt h0), Bool.and_false]
  have e2 : (c == 127) = false := beq_eq_false_iff_ne.mpr (Nat.ne_of_lt h1)
  have a1 : inSet codeN c 20 5 true seen = (if decide (0 ≤ c) && decide (c ≤ 31) then .ok (true, seen.add 22) else inSet codeN c 19 8 true (seen.add 22)) := rfl
  have a2 : ∀ x : Sre.Seen, inSet codeN c 19 8 true x = (if c == 127 then .ok (true, x.add 16) else inSet codeN c 18 10 true (x.add 16)) := fun _ => rfl
  have a3 : ∀ x : Sre.Seen, inSet codeN c 18 10 true x = .ok (false, x.add 0) := fun _ => rfl
  rw [a1, e1, if_neg Bool.false_ne_true, a2, e2, if_neg Bool.false_ne_true, a3]
  rfl
theorem inSetV {c : Nat} {seen : Sre.Seen} (h0 : 32 ≤ c) (h1 : c < 127) : inSet codeV c 28 5 true seen = .ok (false, seenV seen) := by
  have e2 : (codeV.getD (5 + (1 + c / 32)) 0).testBit (c % 32) = false := by
    have : c / 32 = 1 ∨ c / 32 = 2 ∨ c / 32 = 3 := by omega
    rcases this with h | h | h
    · rw [h]; exact Nat.zero_testBit _
    · rw [h]; exact Nat.zero_testBit _
    · rw [h]
      show Nat.testBit 2147483648 (c % 32) = false
      have h31 : c % 32 < 31 := by omega
      rw [show (2147483648 : Nat) = 2 ^ 31 from rfl, Nat.testBit_two_pow]
      exact decide_eq_false (by omega)
  have a1 : inSet codeV c 28 5 true seen = (if c < 256 && (codeV.getD (5 + (1 + c / 32)) 0).testBit (c % 32) then .ok (true, seen.add 9) else inSet codeV c 27 14 true (seen.add 9)) := rfl
  have a2 : ∀ x, inSet codeV c 27 14 true x = .ok (false, x.add 0) := fun _ => rfl
  rw [a1, e2, Bool.and_false, if_neg Bool.false_ne_true, a2]
  rfl
theorem admitted_none {m : M} {g : Sre.Seen → Sre.Seen} (hs : ∀ i seen, i < m.lim → inSet m.code (m.text.getD i 0) m.code.size 5 true seen = .ok (false, g seen)) :
    ∀ (fuel i : Nat) (seen : Sre.Seen), ∃ seen', M.admitted m fuel i seen = .ok (none, seen')
  | 0, i, seen => ⟨seen, rfl⟩
  | fuel + 1, i, seen => by
    unfold M.admitted
    by_cases h : i ≥ m.lim
    · exact ⟨seen, by rw [if_pos h]⟩
    · rw [if_neg h, hs i seen (by omega)]
      exact admitted_none hs fuel (i + 1) (g seen)
/-- a search that has come to its end without a find -/
noncomputable def Failed (m : M) : Prop := m.answer = some false ∧ m.frames = [] ∧ m.outcome = none
theorem failed_run {m : M} (h : Failed m) : ∃ m' : M, m.runFor 4 = m' ∧ m'.outcome = some .failed := by
  obtain ⟨h1, h2, h3⟩ := h
  refine ⟨_, rfl, ?_⟩
  simp [M.runFor, M.step, h1, h2, h3]
noncomputable abbrev m0 (code text : Array Nat) (pc : Nat) : M := { code, text, lim := text.size, start := 0, lastStart := text.size, pc, pos := 0, handed := 0, marks := Array.replicate (2 * 0) none, mustAdvance := false, seen := ({} : Sre.Seen).add 14 }
theorem failed_at {code text : Array Nat} {pc : Nat} {g : Sre.Seen → Sre.Seen} (hf : (m0 code text pc).hasFirstSet = true) (hs : ∀ i seen, i < text.size → inSet code (text.getD i 0) code.size 5 true seen = .ok (false, g seen)) :
    Failed ((m0 code text pc).attemptFrom 0 true) := by
  unfold M.attemptFrom
  rw [hf]
  simp only [Bool.not_true, Bool.false_eq_true, if_false]
  obtain ⟨seen', e⟩ := admitted_none (m := m0 code text pc) (g := g) hs ((m0 code text pc).lim + 1 - 0) 0 (m0 code text pc).seen
  rw [e]
  exact ⟨rfl, rfl, rfl⟩
theorem searchN {text : Array Nat} (hc : ∀ i, i < text.size → 32 ≤ text.getD i 0 ∧ text.getD i 0 < 127) (h0 : 0 < text.size) : Failed (forSearch codeN text 0 0 text.size false) := by
  have e : forSearch codeN text 0 0 text.size false = if (decide (0 > text.size) || decide (text.size - 0 < 1)) = true then { m0 codeN text 11 with lastStart := 0 }.say false else (m0 codeN text 11).attemptFrom 0 true := rfl
  rw [e, if_neg (by simp only [Bool.or_eq_true, decide_eq_true_eq]; omega)]
  exact failed_at (g := seenN) rfl fun i seen hi => inSetN (hc i hi).1 (hc i hi).2
theorem searchV {text : Array Nat} (hc : ∀ i, i < text.size → 32 ≤ text.getD i 0 ∧ text.getD i 0 < 127) (h0 : 0 < text.size) : Failed (forSearch codeV text 0 0 text.size false) := by
  have e : forSearch codeV text 0 0 text.size false = if (decide (0 > text.size) || decide (text.size - 0 < 1)) = true then { m0 codeV text 15 with lastStart := 0 }.say false else (m0 codeV text 15).attemptFrom 0 true := rfl
  rw [e, if_neg (by simp only [Bool.or_eq_true, decide_eq_true_eq]; omega)]
  exact failed_at (g := seenV) rfl fun i seen hi => inSetV (hc i hi).1 (hc i hi).2
theorem re_named (x : Str) (t : Tok) : reNamed "re.Pattern.search" "search" ["string", "pos", "endpos"] 1 [.str x t] [] = pure [some (.str x t), none, none] := by kernel_rfl
section
variable {prog : Program} {w : World} {A : Around} {E : Value → Shared → Prop} {s : Shared}
theorem run_end {m : M} {Q : Option M → Shared → Prop} (hm : Failed m) (h : Q none s) : wpAny (model prog w) A (reRunToEnd m) Q E s := by
  unfold reRunToEnd
  have e : reDrive (2 ^ 64) m = (let m := m.runFor reTurnSteps; if m.outcome.isSome then pure m else do rule "sre.turn"; reDrive 18446744073709551615 m) := rfl
  rw [e]
  obtain ⟨m', hm', ho⟩ := failed_run hm
  have e2 : m.runFor reTurnSteps = m' := hm'
  dsimp only
  rw [e2, ho]
  refine wpAny_bind (wpAny_pure ?_)
  refine wpAny_bind (wpAny_mono (Q := fun _ s' => s' = s) ?_ ?_ fun _ _ e => e)
  · have : ∀ (l : List Nat) (b : PUnit), wpAny (model prog w) A (forIn l b fun i (_ : PUnit) => if m'.seen.has i = true then do rule (Sre.names.getD i ""); pure (ForInStep.yield PUnit.unit) else pure (ForInStep.yield PUnit.unit)) (fun _ s' => s' = s) E s := by
      intro l
      induction l with
      | nil => intro b; rw [List.forIn_nil]; exact wpAny_pure rfl
      | cons i l ih =>
        intro b
        rw [List.forIn_cons]
        refine wpAny_bind ?_
        split
        · exact wpAny_bind (wpAny_rule (wpAny_pure (ih _)))
        · exact wpAny_pure (ih _)
    exact this _ _
  · rintro _ _ rfl
    rw [ho]
    exact wpAny_pure h

noncomputable abbrev patObj (p : Value) (t : Tok) (c : Addr) : Obj := { cls := .type "re.Pattern", data := .fields #[p, .int 32 t, .int 0 0, .none, .none, .ref c, .int 0 0] }
theorem slot_search : Slot "re.Pattern" "search" "re.Pattern.search" :=
  .of (owner := "re.Pattern") (n := "search") (by rw [typeLookup_type, builtinLookup_eq_fast]; kernel_rfl) (by decide +kernel) (by decide +kernel) (by decide +kernel)
    (by first | exact .inl (by decide +kernel) | exact .inr (by decide +kernel)) (by rw [isSubtype_type]; kernel_rfl)
theorem type_search : typeOf (.builtin "re.Pattern.search") = pure (.type "method_descriptor") := by show builtinType _ = _; rw [builtinType_eq_fast]; kernel_rfl
theorem entry_search : entryFor table "re.Pattern.search" = some Builtin.«re.Pattern.search» := entryFor_of_tree (by kernel_rfl)
theorem plainAttrs_pat : PlainAttrs "re.Pattern" :=
  ⟨⟨"object.__getattribute__", by rw [typeLookup_type, builtinLookup_eq_fast]; kernel_rfl, by decide +kernel⟩, by rw [typeLookup_type, builtinLookup_eq_fast]; kernel_rfl⟩
theorem args_search (a b : Value) : argsOk "re.Pattern.search" ⟨[a, b], []⟩ := by unfold argsOk; kernel_rfl
theorem pat_method {a : Addr} {p : Value} {t : Tok} {c : Addr} {pl : Sem Bool} {Q : Value × List Value → Shared → Prop} (ho : s.heap.get? a = some (patObj p t c)) (h : Q (.builtin "re.Pattern.search", [.ref a]) s) : wpAny (model prog w) A (getMethod (.ref a) "search" pl) Q E s :=
  getMethod_builtin ⟨_, ho, rfl⟩ plainAttrs_pat slot_search type_search (fun a e => by cases e; exact ⟨_, ho, rfl⟩) h
theorem pat_search {a : Addr} {p : Value} {t u : Tok} {c : Addr} {x : Str} {codes : Array Nat} {vs : Array Value} {n : Nat} {Q : Value → Shared → Prop} (ho : s.heap.get? a = some (patObj p t c)) (hc : s.heap.get? c = some { cls := .type "tuple", data := .seq vs n }) (hv : (vs.map reRawOf).map (·.toNat) = codes)
    (hm : Failed (forSearch codes x.cps 0 0 x.cps.size false)) (hsz : x.cps.size ≤ 100) (h : Q .none s) : wpAny (model prog w) A (call (.builtin "re.Pattern.search") [.ref a, .str x u]) Q E s := by
  refine wpAny_call_entry slot_search (T := "re.Pattern") ⟨_, ho, rfl⟩ entry_search ?_ (args_search _ _)
  unfold Builtin.«re.Pattern.search»
  refine wpAny_bind (m := reTarget _ _ _) ?_
  unfold reTarget
  show wpAny _ _ (reNamed "re.Pattern.search" "search" ["string", "pos", "endpos"] 1 [.str x u] [] >>= _) _ _ _
  rw [re_named]
  refine wpAny_bind (wpAny_pure ?_)
  refine wpAny_bind (wpAny_pure ?_)
  refine wpAny_bind (wpAny_pure ?_)
  refine wpAny_bind (wpAny_fieldsOf ho rfl ?_)
  refine wpAny_bind (m := reTextOf _) (wpAny_pure ?_)
  refine wpAny_bind (wpAny_pure ?_)
  refine wpAny_bind (m := reRawItems _) ?_
  unfold reRawItems
  refine wpAny_bind (wpAny_seqItems hc rfl (wpAny_pure ?_))
  refine wpAny_pure ?_
  have hl : min ((2 : Int) ^ 63 - 1).toNat x.cps.size = x.cps.size := Nat.min_eq_right (by
    have : ((2 : Int) ^ 63 - 1).toNat = 9223372036854775807 := by decide
    omega)
  have h0 : min (0 : Int).toNat x.cps.size = 0 := Nat.zero_min _
  dsimp only
  rw [hl, h0]
  have key : ∀ (tt : ReTarget) (m : M), Failed m → wpAny (model prog w) A.in1 (reAnswer tt m) (fun fin s' => ∃ v, fin = Fin.done (Flow.ret v) ∧ Q v s') E s := fun tt m hf => by
    unfold reAnswer
    exact wpAny_bind (run_end hf (wpAny_pure ⟨_, rfl, h⟩))
  refine key _ _ ?_
  rw [← hv] at hm
  exact hm
/-- signs that no pattern of the text's hits -/
noncomputable def Plain (x : Str) : Prop := (∀ c ∈ x.cps.toList, 32 ≤ c ∧ c < 127) ∧ x.cps.toList ≠ [] ∧ x.cps.size ≤ 100
theorem Plain.at {x : Str} (h : Plain x) (i : Nat) (hi : i < x.cps.size) : 32 ≤ x.cps.getD i 0 ∧ x.cps.getD i 0 < 127 := by
  have e : x.cps.getD i 0 = x.cps[i] := by simp [Array.getD, hi]
  rw [e]
  exact h.1 _ (Array.mem_toList_iff.mpr (Array.getElem_mem hi))
theorem Plain.pos {x : Str} (h : Plain x) : 0 < x.cps.size := by
  rw [← Array.length_toList]
  exact List.length_pos_iff.mpr h.2.1
theorem searchN_K {K : Frag} {p : Value} {t u : Tok} {x : Str} {h₀ : Heap} {L : Addr} {m : Str → Option Value} {n : Nat} {a c : Addr} {vs : Array Value} {Q : Value → Shared → Prop} (F : Fr h₀ L s.heap m) (X : K.In h₀) (ho : K.lookup a = some (patObj p t c)) (hc : K.lookup c = some { cls := .type "tuple", data := .seq vs n })
    (hv : (vs.map reRawOf).map (·.toNat) = codeN) (hx : Plain x) (h : Q .none s) : wpAny (model prog w) A (call (.builtin "re.Pattern.search") [.ref a, .str x u]) Q E s :=
  pat_search (F.keep _ _ (X _ _ ho)) (F.keep _ _ (X _ _ hc)) hv (searchN hx.at hx.pos) hx.2.2 h
theorem searchV_K {K : Frag} {p : Value} {t u : Tok} {x : Str} {h₀ : Heap} {L : Addr} {m : Str → Option Value} {n : Nat} {a c : Addr} {vs : Array Value} {Q : Value → Shared → Prop} (F : Fr h₀ L s.heap m) (X : K.In h₀) (ho : K.lookup a = some (patObj p t c)) (hc : K.lookup c = some { cls := .type "tuple", data := .seq vs n })
    (hv : (vs.map reRawOf).map (·.toNat) = codeV) (hx : Plain x) (h : Q .none s) : wpAny (model prog w) A (call (.builtin "re.Pattern.search") [.ref a, .str x u]) Q E s :=
  pat_search (F.keep _ _ (X _ _ ho)) (F.keep _ _ (X _ _ hc)) hv (searchV hx.at hx.pos) hx.2.2 h
theorem searchM_K {K : Frag} {p : Value} {t c : Nat} {h₀ : Heap} {L : Addr} {m : Str → Option Value} {a : Addr} {pl : Sem Bool} {Q : Value × List Value → Shared → Prop} (F : Fr h₀ L s.heap m) (X : K.In h₀) (ho : K.lookup a = some (patObj p t c)) (h : Q (.builtin "re.Pattern.search", [.ref a]) s) : wpAny (model prog w) A (getMethod (.ref a) "search" pl) Q E s :=
  pat_method (F.keep _ _ (X _ _ ho)) h
end
end
section
-- part H1

set_option Elab.async false
set_option maxRecDepth 100000
set_option maxHeartbeats 8000000
theorem fresh_H1 : True := by
  w_top off
  k_with_none
  k_with "small" => first | exact Int.toNat_natCast _ | with_reducible exact Nat.mod_lt _ (by decide) | with_reducible exact fm2_lt _ | with_reducible exact fm2_ge _ | with_reducible exact fm4_lt _ _ | with_reducible exact fm4_ge _ _ | with_reducible exact em_lt _ | with_reducible exact em_gt _ | with_reducible exact nat_gt _ | with_reducible exact Int.natCast_nonneg _ | with_reducible exact nat_gt1 _ | with_reducible exact room2 (by assumption) (by decide) | with_reducible exact room1 (by assumption) (by decide) | with_reducible exact room3 (by assumption) (by decide) | with_reducible exact room4 (by assumption) (by decide) | with_reducible exact room0 (by assumption) | with_reducible exact le_le (by assumption) (by decide) | with_reducible exact le_eq (by assumption) (by decide) | with_reducible exact lt_le (by assumption) (by decide) | with_reducible exact sub_one (by assumption) | with_reducible exact sub_j (by assumption) | with_reducible exact sub_dec (by assumption) | with_reducible exact toNat_pred _ | with_reducible exact nat_ge _
  k_with "ne" => first | with_reducible exact Apart.l (by assumption) | with_reducible exact Apart.r (by assumption) | with_reducible exact gt1 (by assumption) | with_reducible exact lt1 (by assumption) | with_reducible exact gt2 (by assumption) | with_reducible exact lt2 (by assumption) | with_reducible exact gl2 (by assumption) | with_reducible exact ll2 (by assumption) | with_reducible exact gt3 (by assumption) | with_reducible exact lt3 (by assumption) | with_reducible exact gl3 (by assumption) | with_reducible exact ll3 (by assumption) | with_reducible exact gt4 (by assumption) | with_reducible exact gl4 (by assumption) | with_reducible exact ll4 (by assumption) | with_reducible exact gl5 (by assumption) | with_reducible exact gl6 (by assumption) | with_reducible exact gl7 (by assumption) | with_reducible exact gl8 (by assumption) | with_reducible exact gl9 (by assumption) | with_reducible exact gl10 (by assumption) | with_reducible exact gl11 (by assumption)
  k_with "k_room" => ((try simp only [depth_under_make, depth_under_kw, depth_in1, depth_deeper, depth_caller]); first | decide | ktr_room)
  k_with "cell_enter" => (refine' code_defG (by k_asm) (by k_asm) (by k_asm) (by k_asm) (by k_asm) rfl rfl (by assumption) (by k_is) (by k_is) (by ktr_room) (by first | exact BindsTo.of_eq rfl | exact binds_K (by k_in) rfl (by k_is) rfl rfl rfl) (by exact locs rfl) ?_ (by exact rfl) (by exact rfl) (by exact rfl) (by decide); k_whole; intro g' L' h' FG' F' N' B' X' T' GS'; (try dsimp only); (try k_lift B'); (try k_fold))
  k_with "exec If" => (k_here; dsimp only)
  k_with "execs cons" => (k_here; dsimp only)
  k_with "isTrue" => (k_here; dsimp only)
  k_with "exec Assign" => (k_here; dsimp only)
  k_with "exec Expr" => (k_here; dsimp only)
  k_with "eval Attribute" => (k_here; dsimp only)
  k_with "execs nil" => (k_here; dsimp only)
  k_with "execs cons" => (k_here; (try dsimp only); (with_reducible refine toks_gen ?_); intro tk')
  k_with "execs nil" => (k_here; (try dsimp only); (with_reducible refine toks_gen ?_); intro tk')
  trivial

theorem lay_H1_1 : True := by
  k_with "getMethod ref" => (k_here; (with_reducible show wpAny _ _ (getMethod (Value.ref _) (PySem.Str.ofString "search") _) _ _ _); k_dflt (refine' searchM_K (by k_asm) (by k_asm) (by k_is) ?_; k_whole))
  k_with "call builtin:re.Pattern.search" => (k_here; k_dflt (first | (refine' searchN_K (by k_asm) (by k_asm) (by k_is) (by k_is) (by decide +kernel) (by assumption) ?_; k_whole) | (refine' searchV_K (by k_asm) (by k_asm) (by k_is) (by k_is) (by decide +kernel) (by assumption) ?_; k_whole)))
  trivial
theorem c_cstN (w : World) (LO : List Str) (mean : ExcName → Option Value) (mg mb : Str → Option Value) (x : Addr) (v : Str) (t : Tok) (hv : Plain v) :
   Claim w LO mean mg mb 4 40 810 [.ref x, .str v t] [(Str.ofString "name", .bool true)] [] (fun r small' => r = .str v t ∧ small' = []) := by
  unfold Claim
  k_fill
  intro dp un gd cn cs a ccd cl outer A₀ base h₀ L m s Q E hB hF hX hN hT hcs hdp hun hret
  k_lift hB
  refine wpAny_call ?_
  k_dflt (refine' code_defG ?k1 ?k2 ?k3 ?k4 ?k5 ?kA ?kF ?kK ?k6 ?k7 ?k8 ?k9 ?kB ?_ ?c2 ?c3 ?c4 ?c5; (case kA => exact rfl); (case kF => exact rfl); (case kK => assumption); (case k1 => k_asm); (case k2 => k_asm); (case k3 => k_asm); (case k4 => k_asm); (case k5 => k_asm); (case k6 => k_is); (case k7 => k_is); (case k8 => ktr_room); (case k9 => first | exact BindsTo.of_eq rfl | exact binds_K (by k_in) rfl (by k_is) rfl rfl rfl); (case c5 => decide); (case kB => exact locs rfl); (case c2 => exact rfl); (case c3 => exact rfl); (case c4 => exact rfl); k_whole)
  intro g' L' h1 FG' F1 N1 B' X' T' GS'
  replace F1 := fr_clean [(Str.ofString "name", Value.bool true), (Str.ofString "value", Value.str v t), (Str.ofString "self", Value.ref x)] F1 (by rfl)
  (try dsimp only)
  k_lift B'
  (try k_fold)
  k_steps
  exact hret _ [] _ _ ⟨rfl, rfl⟩ (by assumption) (fun _ h => nomatch h) (gsub_keep (by assumption) (by assumption))
theorem c_cstV (w : World) (LO : List Str) (mean : ExcName → Option Value) (mg mb : Str → Option Value) (x : Addr) (v : Str) (t : Tok) (hv : Plain v) :
   Claim w LO mean mg mb 4 40 810 [.ref x, .str v t] [(Str.ofString "name", .bool false)] [] (fun r small' => r = .str v t ∧ small' = []) := by
  unfold Claim
  k_fill
  intro dp un gd cn cs a ccd cl outer A₀ base h₀ L m s Q E hB hF hX hN hT hcs hdp hun hret
  k_lift hB
  refine wpAny_call ?_
  k_dflt (refine' code_defG ?k1 ?k2 ?k3 ?k4 ?k5 ?kA ?kF ?kK ?k6 ?k7 ?k8 ?k9 ?kB ?_ ?c2 ?c3 ?c4 ?c5; (case kA => exact rfl); (case kF => exact rfl); (case kK => assumption); (case k1 => k_asm); (case k2 => k_asm); (case k3 => k_asm); (case k4 => k_asm); (case k5 => k_asm); (case k6 => k_is); (case k7 => k_is); (case k8 => ktr_room); (case k9 => first | exact BindsTo.of_eq rfl | exact binds_K (by k_in) rfl (by k_is) rfl rfl rfl); (case c5 => decide); (case kB => exact locs rfl); (case c2 => exact rfl); (case c3 => exact rfl); (case c4 => exact rfl); k_whole)
  intro g' L' h1 FG' F1 N1 B' X' T' GS'
  replace F1 := fr_clean [(Str.ofString "name", Value.bool false), (Str.ofString "value", Value.str v t), (Str.ofString "self", Value.ref x)] F1 (by rfl)
  (try dsimp only)
  k_lift B'
  (try k_fold)
  k_steps
  exact hret _ [] _ _ ⟨rfl, rfl⟩ (by assumption) (fun _ h => nomatch h) (gsub_keep (by assumption) (by assumption))
end
section
-- part G1

set_option Elab.async false
set_option maxRecDepth 100000
set_option maxHeartbeats 8000000
set_option pp.maxSteps 30000
set_option pp.deepTerms false
theorem fresh_G1 : True := by
  w_top off
  k_with_none
  k_with "small" => first | exact Int.toNat_natCast _ | with_reducible exact Nat.mod_lt _ (by decide) | with_reducible exact fm2_lt _ | with_reducible exact fm2_ge _ | with_reducible exact fm4_lt _ _ | with_reducible exact fm4_ge _ _ | with_reducible exact em_lt _ | with_reducible exact em_gt _ | with_reducible exact nat_gt _ | with_reducible exact Int.natCast_nonneg _ | with_reducible exact nat_gt1 _ | with_reducible exact room2 (by assumption) (by decide) | with_reducible exact room1 (by assumption) (by decide) | with_reducible exact room3 (by assumption) (by decide) | with_reducible exact room4 (by assumption) (by decide) | with_reducible exact room0 (by assumption) | with_reducible exact le_le (by assumption) (by decide) | with_reducible exact le_eq (by assumption) (by decide) | with_reducible exact lt_le (by assumption) (by decide) | with_reducible exact sub_one (by assumption) | with_reducible exact sub_j (by assumption) | with_reducible exact sub_dec (by assumption) | with_reducible exact toNat_pred _ | with_reducible exact nat_ge _
  k_with "ne" => first | with_reducible exact Apart.l (by assumption) | with_reducible exact Apart.r (by assumption) | with_reducible exact gt1 (by assumption) | with_reducible exact lt1 (by assumption) | with_reducible exact gt2 (by assumption) | with_reducible exact lt2 (by assumption) | with_reducible exact gl2 (by assumption) | with_reducible exact ll2 (by assumption) | with_reducible exact gt3 (by assumption) | with_reducible exact lt3 (by assumption) | with_reducible exact gl3 (by assumption) | with_reducible exact ll3 (by assumption) | with_reducible exact gt4 (by assumption) | with_reducible exact gl4 (by assumption) | with_reducible exact ll4 (by assumption) | with_reducible exact gl5 (by assumption) | with_reducible exact gl6 (by assumption) | with_reducible exact gl7 (by assumption) | with_reducible exact gl8 (by assumption) | with_reducible exact gl9 (by assumption) | with_reducible exact gl10 (by assumption) | with_reducible exact gl11 (by assumption)
  k_with "k_room" => ((try simp only [depth_under_make, depth_under_kw, depth_in1, depth_deeper, depth_caller]); first | decide | ktr_room)
  k_with "cell_enter" => (refine' code_defG (by k_asm) (by k_asm) (by k_asm) (by k_asm) (by k_asm) rfl rfl (by assumption) (by k_is) (by k_is) (by ktr_room) (by first | exact BindsTo.of_eq rfl | exact binds_K (by k_in) rfl (by k_is) rfl rfl rfl) (by exact locs rfl) ?_ (by exact rfl) (by exact rfl) (by exact rfl) (by decide); k_whole; intro g' L' h' FG' F' N' B' X' T' GS'; (try dsimp only); (try k_lift B'); (try k_fold))
  k_with "exec If" => (k_here; dsimp only)
  k_with "execs cons" => (k_here; dsimp only)
  k_with "isTrue" => (k_here; dsimp only)
  k_with "exec Assign" => (k_here; dsimp only)
  k_with "exec Expr" => (k_here; dsimp only)
  k_with "eval Attribute" => (k_here; dsimp only)
  k_with "execs nil" => (k_here; dsimp only)
  k_with "execs cons" => (k_here; (try dsimp only); (with_reducible refine toks_gen ?_); intro tk')
  k_with "execs nil" => (k_here; (try dsimp only); (with_reducible refine toks_gen ?_); intro tk')
  k_with "ItemsRest" => (refine hold_out ?_)
  k_with "ForR" => (refine hold_out ?_)
  k_with "ForP" => (dsimp only [ForP])
  k_with "ForN" => (dsimp only [ForN])
  k_with "exec For Tuple Call" => (k_here; (rename Fr _ _ _ _ => lF'); (with_unfolding_all refine' For_turns lF' ?_; k_whole))
  k_with "exec For Tuple Name" => (k_here; (with_unfolding_all refine' for_start ?_ (by (intro _; rfl)); k_whole))
  k_with "call type:enumerate" => (k_here; (with_unfolding_all refine' ktu_enumT (by with_unfolding_all rfl) (by k_asm) (by k_asm) (by k_asm) (by k_is) (by exact rfl) (by exact rfl) ?_; k_whole); intro i' l1; (try k_lt l1))
  trivial
inductive EntsOk (K : Frag) : List Value → List (Int × Str) → Prop
  | nil : EntsOk K [] []
  | cons {e : Addr} {d : Option Addr} {n : Nat} {sl : Array (Option Value)} {b : Int} {c : Str} {tb tc : Tok} {vs : List Value} {es : List (Int × Str)} (hk : K.lookup e = some ⟨.type "tuple", d, .seq #[.int b tb, .str c tc] n, sl⟩) (r : EntsOk K vs es) : EntsOk K (.ref e :: vs) ((b, c) :: es)
inductive TabsOk (K : Frag) : List Value → List (List (Int × Str)) → Prop
  | nil : TabsOk K [] []
  | cons {T : Addr} {d : Option Addr} {n : Nat} {sl : Array (Option Value)} {us : List Value} {es : List (Int × Str)} {vs : List Value} {tt : List (List (Int × Str))} (hk : K.lookup T = some ⟨.type "tuple", d, .seq us.toArray n, sl⟩) (he : EntsOk K us es) (r : TabsOk K vs tt) : TabsOk K (.ref T :: vs) (es :: tt)
noncomputable abbrev FMm (m0 : Str → Option Value) (u1 u2 u3 u4 : Option Value) : Str → Option Value := fun y => if y = Str.ofString "char" then u1 else if y = Str.ofString "bit" then u2 else if y = Str.ofString "table" then u3 else if y = Str.ofString "index" then u4 else m0 y
theorem fmm_first (m0 : Str → Option Value) : m0 = FMm m0 (m0 (Str.ofString "char")) (m0 (Str.ofString "bit")) (m0 (Str.ofString "table")) (m0 (Str.ofString "index")) := by
  funext y
  show m0 y = if _ then _ else if _ then _ else if _ then _ else if _ then _ else _
  split
  · rename_i h; rw [h]
  · split
    · rename_i h; rw [h]
    · split
      · rename_i h; rw [h]
      · split
        · rename_i h; rw [h]
        · rfl
noncomputable abbrev ch (x : String) : Str := Str.ofString x
noncomputable def FMT : List (List (Int × Str)) := [[(40960, ch "l"), (49152, ch "s"), (32768, ch "-"), (24576, ch "b"), (16384, ch "d"), (8192, ch "c"), (4096, ch "p")], [(256, ch "r")], [(128, ch "w")], [(2112, ch "s"), (2048, ch "S"), (64, ch "x")], [(32, ch "r")], [(16, ch "w")], [(1032, ch "s"), (1024, ch "S"), (8, ch "x")], [(4, ch "r")], [(2, ch "w")], [(513, ch "t"), (512, ch "T"), (1, ch "x")]]
noncomputable def hitC (i : Nat) (mode b : Int) : Bool := if i = 0 then Builtin.bitAnd mode 61440 == b else Builtin.bitAnd mode b == b
noncomputable def pickC (i : Nat) (mode : Int) : List (Int × Str) → Str
  | [] => if i = 0 then ch "?" else ch "-"
  | (b, c) :: es => if hitC i mode b then c else pickC i mode es
noncomputable def picks (i : Nat) (mode : Int) : List (List (Int × Str)) → List Str
  | [] => []
  | t :: r => pickC i mode t :: picks (i + 1) mode r
theorem pick_step {ys X : List Str} {i : Nat} {mode : Int} {es : List (Int × Str)} {tt : List (List (Int × Str))} {c : Str} (hpk : ys ++ picks i mode (es :: tt) = X) (hc : c = pickC i mode es) : (ys ++ [c]) ++ picks (i + 1) mode tt = X := by
  subst hc
  rw [← hpk, picks, List.append_assoc]; rfl
theorem pick_q {i : Nat} {mode : Int} {X : Str} (hi : (i : Int) = 0) (h : pickC i mode [] = X) : ch "?" = X := by
  have : i = 0 := by omega
  subst this; exact h
theorem pick_d {i : Nat} {mode : Int} {X : Str} (hi : ¬ (i : Int) = 0) (h : pickC i mode [] = X) : ch "-" = X := by
  have : ¬ i = 0 := by omega
  rw [← h, pickC, if_neg this]
theorem pick_y0 {i : Nat} {mode b : Int} {c X : Str} {es : List (Int × Str)} (hi : (i : Int) = 0) (hb : Builtin.bitAnd mode 61440 = b) (h : pickC i mode ((b, c) :: es) = X) : c = X := by
  have : i = 0 := by omega
  subst this
  rw [← h, pickC, hitC, if_pos rfl, if_pos (by simpa using hb)]
theorem pick_n0 {i : Nat} {mode b : Int} {c X : Str} {es : List (Int × Str)} (hi : (i : Int) = 0) (hb : ¬ Builtin.bitAnd mode 61440 = b) (h : pickC i mode ((b, c) :: es) = X) : pickC i mode es = X := by
  have : i = 0 := by omega
  subst this
  rw [← h, pickC, hitC, if_pos rfl, if_neg (by simpa using hb)]
theorem pick_y1 {i : Nat} {mode b : Int} {c X : Str} {es : List (Int × Str)} (hi : ¬ (i : Int) = 0) (hb : Builtin.bitAnd mode b = b) (h : pickC i mode ((b, c) :: es) = X) : c = X := by
  have : ¬ i = 0 := by omega
  rw [← h, pickC, hitC, if_neg this, if_pos (by simpa using hb)]
theorem pick_n1 {i : Nat} {mode b : Int} {c X : Str} {es : List (Int × Str)} (hi : ¬ (i : Int) = 0) (hb : ¬ Builtin.bitAnd mode b = b) (h : pickC i mode ((b, c) :: es) = X) : pickC i mode es = X := by
  have : ¬ i = 0 := by omega
  rw [← h, pickC, hitC, if_neg this, if_neg (by simpa using hb)]
theorem fmm_in (m0 : Str → Option Value) (u1 u2 u3 u4 a b : Option Value) (y : Str) : (if y = Str.ofString "table" then a else if y = Str.ofString "index" then b else FMm m0 u1 u2 u3 u4 y) = FMm m0 u1 u2 a b y := by
  have h1 : ¬ (Str.ofString "char" = Str.ofString "table") := by decide +kernel
  have h2 : ¬ (Str.ofString "char" = Str.ofString "index") := by decide +kernel
  have h3 : ¬ (Str.ofString "bit" = Str.ofString "table") := by decide +kernel
  have h4 : ¬ (Str.ofString "bit" = Str.ofString "index") := by decide +kernel
  simp only [FMm]
  by_cases c1 : y = Str.ofString "char"
  · subst c1; rw [if_neg h1, if_neg h2, if_pos rfl, if_pos rfl]
  · by_cases c2 : y = Str.ofString "bit"
    · subst c2; rw [if_neg h3, if_neg h4, if_neg c1, if_pos rfl, if_neg c1, if_pos rfl]
    · rw [if_neg c1, if_neg c2, if_neg c1, if_neg c2]
      by_cases c3 : y = Str.ofString "table"
      · rw [if_pos c3, if_pos c3]
      · rw [if_neg c3, if_neg c3, if_neg c3]
        by_cases c4 : y = Str.ofString "index"
        · rw [if_pos c4, if_pos c4]
        · rw [if_neg c4, if_neg c4, if_neg c4]
theorem fmm_set (m0 : Str → Option Value) (u1 u2 u3 u4 a b : Option Value) (y : Str) : (if y = Str.ofString "char" then a else if y = Str.ofString "bit" then b else FMm m0 u1 u2 u3 u4 y) = FMm m0 a b u3 u4 y := by
  simp only [FMm]
  by_cases c1 : y = Str.ofString "char"
  · rw [if_pos c1, if_pos c1]
  · rw [if_neg c1, if_neg c1, if_neg c1]
    by_cases c2 : y = Str.ofString "bit"
    · rw [if_pos c2, if_pos c2]
    · rw [if_neg c2, if_neg c2, if_neg c2]
theorem pick_len (i : Nat) (mode : Int) : ∀ es : List (Int × Str), (∀ e ∈ es, e.2.length = 1) → (pickC i mode es).length = 1
  | [], _ => by
    rw [pickC]
    split <;> decide +kernel
  | (b, c) :: es, h => by
    rw [pickC]
    split
    · exact h (b, c) (.head _)
    · exact pick_len i mode es fun e he => h e (.tail _ he)
theorem picks_sum (mode : Int) : ∀ (tt : List (List (Int × Str))) (i : Nat), (∀ es ∈ tt, ∀ e ∈ es, e.2.length = 1) → ((picks i mode tt).map (·.length)).sum = tt.length ∧ (picks i mode tt).length = tt.length
  | [], _, _ => ⟨rfl, rfl⟩
  | es :: tt, i, h => by
    have ih := picks_sum mode tt (i + 1) fun es he => h es (.tail _ he)
    have h1 := pick_len i mode es (h es (.head _))
    rw [picks, List.map_cons, List.sum_cons, h1, List.length_cons, List.length_cons, ih.1, ih.2]
    exact ⟨by omega, rfl⟩
theorem fmt_one : ∀ es ∈ FMT, ∀ e ∈ es, e.2.length = 1 := by decide +kernel
structure InS where
  j : Nat
  us : List Value
  es : List (Int × Str)
  u1 : Option Value
  u2 : Option Value
theorem drop_item {α : Type} {l r : List α} {j : Nat} {x : α} (h : l.drop j = x :: r) : l.toArray[j]? = some x ∧ l.drop (j + 1) = r := by
  have hl : j < l.length := by
    rcases Nat.lt_or_ge j l.length with h' | h'
    · exact h'
    · rw [List.drop_eq_nil_of_le h'] at h; cases h
  rw [List.drop_eq_getElem_cons hl] at h
  injection h with h1 h2
  exact ⟨by simp [hl, h1], h2⟩
theorem drop_end {α : Type} {l : List α} {j : Nat} (h : l.drop j = []) : l.toArray[j]? = none := by
  have := List.drop_eq_nil_iff.mp h
  simp [this]
structure FmS where
  i : Nat
  tabs : List Value
  tt : List (List (Int × Str))
  u1 : Option Value
  u2 : Option Value
  u3 : Option Value
  u4 : Option Value
  pv : List Value
  n : Nat
  ys : List Str
theorem lay_G1_8 : True := by
  k_with "assign Tuple" => (k_here; (with_reducible show wpAny _ _ (assign (Expr.Tuple _ _ _) _ (Value.ref _)) _ _ _); k_dflt (refine' unpackK (by k_asm) (by k_asm) (by k_asm) (by assumption) (by exact rfl) (by exact rfl) (by exact rfl) (by exact rfl) (by exact rfl) ?_); intro h' F' N'; (try k_sweep))
  trivial
noncomputable abbrev FM0 (l : Addr) (mode : Int) (t : Tok) : Str → Option Value := fun y => if y = Str.ofString "perm" then some (.ref l) else List.lookup y [(Str.ofString "mode", Value.int mode t)]
theorem lay_G1_9 : True := by
  k_with "call builtin:list.append" => (k_here; (with_reducible show wpAny _ _ (call (Value.builtin _) [Value.ref _, _]) _ _ _); k_dflt (refine' app_L (by k_asm) (by k_asm) (by k_upd) (by omega) ?_; k_whole); intro h' F' N'; (try k_sweep))
  trivial
theorem now_c_fm : True := by
  k_with "now" =>
    unfold Claim
    k_fill
    intro dp un gd cn cs a ccd cl outer A₀ base h₀ L m s Q E hB hF hX hN hT hcs hdp hun hret
    refine wpAny_call ?_
    k_dflt (refine' code_defG ?k1 ?k2 ?k3 ?k4 ?k5 ?kA ?kF ?kK ?k6 ?k7 ?k8 ?k9 ?kB ?_ ?c2 ?c3 ?c4 ?c5; (case kA => exact rfl); (case kF => exact rfl); (case kK => assumption); (case k1 => k_asm); (case k2 => k_asm); (case k3 => k_asm); (case k4 => k_asm); (case k5 => k_asm); (case k6 => k_is); (case k7 => k_is); (case k8 => ktr_room); (case k9 => first | exact BindsTo.of_eq rfl | exact binds_K (by k_in) rfl (by k_is) rfl rfl rfl); (case c5 => decide); (case kB => exact locs rfl); (case c2 => exact rfl); (case c3 => exact rfl); (case c4 => exact rfl); k_whole)
    intro g' L' h1 FG' F1 N1 B' X' T' GS'
    replace F1 := fr_clean [(Str.ofString "mode", Value.int mode t)] F1 (by rfl)
    (try dsimp only)
    k_lift B'
    (try k_fold)
    k_steps
    rename_i l' hb l0 hc N'
    refine hold_in (items_ind (fun (c : FmS) xs m news => xs = enumItems c.i c.tabs ∧ TabsOk (hdK.heap_1 w.params) c.tabs c.tt ∧ m = FMm (FM0 l' mode t) c.u1 c.u2 c.u3 c.u4 ∧ news = [(l', W.listOf c.pv.toArray c.n)] ∧ c.pv.length = c.i ∧ c.i + c.tabs.length = 10 ∧ StrsAre c.pv c.ys ∧ c.ys ++ picks c.i mode c.tt = picks 0 mode FMT) ?_ ?_ _ ⟨0, _, FMT, _, _, _, _, [], 0, []⟩ _ _ ⟨rfl, ?_, fmm_first _, rfl, rfl, rfl, .nil, rfl⟩)
    · rintro ⟨i, tabs, tt, u1, u2, u3, u4, pv, n, ys⟩ m9 news ⟨hx, ht, rfl, rfl, hz1, hz2, hsa, hpk⟩
      dsimp only at hx ht hz1 hz2 hsa hpk ⊢
      cases tabs with
      | cons _ _ => cases hx
      | nil =>
      refine ItemsRest.zero (fun h' tk' F' N' => ?_)
      cases ht
      have hys : ys = picks 0 mode FMT := by simpa [picks] using hpk
      have hsm := picks_sum mode FMT 0 fmt_one
      rw [← hys] at hsm
      have h10 : FMT.length = 10 := rfl
      k_steps
      refine join_listC (items := pv.toArray) (ys := ys) ⟨_, (N' _ (.head _)).1, rfl, n, rfl⟩ (by simpa using hsa) (by decide +kernel) (by omega) ?_
      intro t8 k8
      k_steps
      exact hret _ [] _ _ ⟨_, by rw [hys], rfl⟩ (by assumption) (fun _ h => nomatch h) (gsub_keep (by assumption) (by assumption))
    · rintro ⟨i, tabs, tt, u1, u2, u3, u4, pv, n, ys⟩ x r m9 news ⟨hx, ht, rfl, rfl, hz1, hz2, hsa, hpk⟩ IH
      dsimp only at hx ht hz1 hz2 hsa hpk ⊢
      cases ht with
      | nil => cases hx
      | @cons T d n9 sl us es vs tt hk he rt =>
      cases hx
      rw [List.length_cons] at hz2
      refine ItemsRest.pair (fun T9 t9 h9 tk9 hT9 F9 => ?_)
      ktu_objs
      k_steps
      (rename Fr _ _ _ _ => F8)
      (rename News _ _ _ _ => N8)
      refine it_tup F8 N8 (isTup_K F8 X' hk) ?_
      intro I hI lI FI NI
      k_lt lI
      obtain ⟨its, hits, NI⟩ := split_news NI
      refine for_ind (fun (c : InS) => c.es.length) (fun c s' => ∃ h' tk, s' = { s with heap := h', toks := tk } ∧ Fr g' L' h' (FMm (FM0 l' mode t) c.u1 c.u2 (some (.ref T)) (some (.int i t9))) ∧ News g' L' h' ((I, itObj "tuple_iterator" T c.j) :: its) ∧ us.drop c.j = c.us ∧ EntsOk (hdK.heap_1 w.params) c.us c.es ∧ pickC i mode c.es = pickC i mode es) ?_ ⟨0, us, es, u1, u2⟩ _ ⟨_, _, rfl, fr_eq FI ?_, NI, rfl, he, rfl⟩
      · rintro ⟨j, us', es', u1', u2'⟩ s' ⟨h', tk', rfl, F5, N5, hd5, he5, hp5⟩ IH5
        dsimp only at F5 N5 hd5 he5 hp5
        subst hits
        cases he5 with
        | nil =>
          (refine' for_turn ?hE ?_; (case hE => first | passes_own | with_unfolding_all passes_own))
          refine nx_tup_end (by rfl) F5 N5 (isTup_K F5 X' hk) (drop_end hd5) (by k_upd) ?_
          intro h6 F6 N6
          dsimp only [ForN]
          k_steps
          · exact hold_in (items_sub (fun p hp => .tail _ hp) (IH ⟨i + 1, vs, tt, u1', u2', _, _, _, _, ys ++ [ch "?"]⟩ _ _ ⟨rfl, rt, rfl, rfl, by simp [hz1], (by dsimp only; omega), strs_snoc hsa, pick_step hpk (pick_q (by assumption) hp5)⟩))
          · exact hold_in (items_sub (fun p hp => .tail _ hp) (IH ⟨i + 1, vs, tt, u1', u2', _, _, _, _, ys ++ [ch "-"]⟩ _ _ ⟨rfl, rt, rfl, rfl, by simp [hz1], (by dsimp only; omega), strs_snoc hsa, pick_step hpk (pick_d (by assumption) hp5)⟩))
        | @cons e5 d5 n5 sl5 b5 c5 tb5 tc5 vs5 es5 hk5 r5 =>
          (refine' for_turn ?hE ?_; (case hE => first | passes_own | with_unfolding_all passes_own))
          refine nx_tup F5 N5 (isTup_K F5 X' hk) (drop_item hd5).1 (by k_upd) ?_
          intro h6 F6 N6
          dsimp only [ForN]
          refine letGo_it N6 (by k_mem) (.inl rfl) ?_
          k_steps
          · exact hold_in (items_sub (fun p hp => .tail _ hp) (IH ⟨i + 1, vs, tt, _, _, _, _, _, _, ys ++ [c5]⟩ _ _ ⟨rfl, rt, funext (fmm_set _ _ _ _ _ _ _), rfl, by simp [hz1], (by dsimp only; omega), strs_snoc hsa, pick_step hpk (pick_y0 (by assumption) (by assumption) hp5)⟩))
          · exact hold_in (IH5 ⟨j + 1, vs5, es5, some (.str c5 tc5), some (.int b5 tb5)⟩ _ (by simp) ⟨_, _, rfl, fr_eq (by k_asm) (fmm_set _ _ _ _ _ _ _), by k_asm, (drop_item hd5).2, r5, pick_n0 (by assumption) (by assumption) hp5⟩)
          · exact hold_in (items_sub (fun p hp => .tail _ hp) (IH ⟨i + 1, vs, tt, _, _, _, _, _, _, ys ++ [c5]⟩ _ _ ⟨rfl, rt, funext (fmm_set _ _ _ _ _ _ _), rfl, by simp [hz1], (by dsimp only; omega), strs_snoc hsa, pick_step hpk (pick_y1 (by assumption) (by assumption) hp5)⟩))
          · exact hold_in (IH5 ⟨j + 1, vs5, es5, some (.str c5 tc5), some (.int b5 tb5)⟩ _ (by simp) ⟨_, _, rfl, fr_eq (by k_asm) (fmm_set _ _ _ _ _ _ _), by k_asm, (drop_item hd5).2, r5, pick_n1 (by assumption) (by assumption) hp5⟩)
      · exact fmm_in _ _ _ _ _ _ _
    · refine .cons (by k_is) (.cons (by k_is) (.cons (by k_is) (.cons (by k_is) (.cons (by k_is) (.cons (by k_is) (.cons (by k_is) (.cons (by k_is) .nil)))))))  ?_
      refine .cons (by k_is) (.cons (by k_is) .nil) (.cons (by k_is) (.cons (by k_is) .nil) ?_)
      refine .cons (by k_is) (.cons (by k_is) (.cons (by k_is) (.cons (by k_is) .nil))) ?_
      refine .cons (by k_is) (.cons (by k_is) .nil) (.cons (by k_is) (.cons (by k_is) .nil) ?_)
      refine .cons (by k_is) (.cons (by k_is) (.cons (by k_is) (.cons (by k_is) .nil))) ?_
      refine .cons (by k_is) (.cons (by k_is) .nil) (.cons (by k_is) (.cons (by k_is) .nil) ?_)
      exact .cons (by k_is) (.cons (by k_is) (.cons (by k_is) (.cons (by k_is) .nil))) .nil
  trivial
theorem c_fm (w : World) (LO : List Str) (mean : ExcName → Option Value) (mg mb : Str → Option Value) (mode : Int) (t : Tok)
   (hlo : 0 ≤ mode) (hhi : mode < 65536) :
   Claim w LO mean mg mb 4 40 91 [.int mode t] [] [] (fun v small' => ∃ t, v = .str (Txt.join (Str.ofString "") (picks 0 mode FMT)) t ∧ small' = []) := (by exact whole_of _ : Whole by_lay)
end
section
-- part C3

set_option Elab.async false
set_option maxRecDepth 100000
/-- a contract with a premise on the caller's heap -/
noncomputable def ClaimP (w : World) (LO : List Str) (mean : ExcName → Option Value) (mg mb : Str → Option Value) (D U : Nat) (f : Addr) (vs : List Value) (kw : List (Str × Value)) (Pre : Heap → Prop) (small : List (Addr × Obj)) (Post : Value → List (Addr × Obj) → Prop) : Prop :=
  ∀ (dp un : Nat) (gd : Option (List Code)) (cn : Str) (cs : Scope) (a : Addr) (ccd : Value) (cl : List (Str × Addr)) (outer : List Env) (A₀ : Around) (base h₀ : Heap) (L : Addr) (m : Str → Option Value) (s : Shared) (Q E : Value → Shared → Prop),
    Below A₀ base outer h₀ → Fr h₀ L s.heap m → (hdK.heap_1 w.params).In h₀ → News h₀ L s.heap small → Top hdK.view_39 LO mean mg mb h₀ → cs.kind = .function →
    dp + D < recursionLimit → un + U < cLine → Pre s.heap →
    (∀ v small' h' tk, Post v small' → Fr h₀ L h' m → News h₀ L h' small' → GSub s.heap h' (small.map (·.1)) → Q v { s with heap := h', toks := tk }) →
    wpAny (model PySem.Challenge.rw_op0282_01.row.prog w) (ktrTop dp un gd cn cs L a ccd cl outer) (call (.ref f) vs kw) Q E s
theorem Claim.toP {w : World} {LO : List Str} {mean : ExcName → Option Value} {mg mb : Str → Option Value} {D U : Nat} {f : Addr} {vs : List Value} {kw : List (Str × Value)} {small : List (Addr × Obj)} {Post : Value → List (Addr × Obj) → Prop}
    (h : Claim w LO mean mg mb D U f vs kw small Post) (Pre : Heap → Prop) : ClaimP w LO mean mg mb D U f vs kw Pre small Post :=
  fun dp un gd cn cs a ccd cl outer A₀ base h₀ L m s Q E hB hF hX hN hT hcs hdp hun _ hret => h dp un gd cn cs a ccd cl outer A₀ base h₀ L m s Q E hB hF hX hN hT hcs hdp hun hret
theorem isTup_g {H g : Heap} {h₀ : Heap} {L : Addr} {small : List (Addr × Obj)} {a : Addr} {vs : Array Value} (G : GSub H g (small.map (·.1))) (N : News h₀ L H small) (hc : ∀ p ∈ small, p.2.cls ≠ .type "tuple") (T : IsTup H a vs) : IsTup g a vs := by
  obtain ⟨o, ho, hcl, n, hd⟩ := T
  refine ⟨o, G _ _ ho fun hm => ?_, hcl, n, hd⟩
  obtain ⟨p, hp, e⟩ := List.mem_map.mp hm
  have h1 := (N p hp).1
  rw [e, ho] at h1
  cases h1
  exact hc p hp hcl
/-- the values are pairs of texts -/
inductive HdAll (H : Heap) : List Value → List (Str × Str) → Prop
  | nil : HdAll H [] []
  | cons {a : Addr} {k v : Str} {tk tv : Tok} {vs : List Value} {ps : List (Str × Str)} (ho : IsTup H a #[.str k tk, .str v tv]) (r : HdAll H vs ps) : HdAll H (.ref a :: vs) ((k, v) :: ps)
theorem HdAll.imp {H H' : Heap} (f : ∀ a (vs : Array Value), IsTup H a vs → IsTup H' a vs) : ∀ {vs : List Value} {ps : List (Str × Str)}, HdAll H vs ps → HdAll H' vs ps := by
  intro vs ps h
  induction h with
  | nil => exact .nil
  | cons ho _ ih => exact .cons (f _ _ ho) ih
theorem HdAll.keeps {H H' : Heap} (k : ∀ b o, H.get? b = some o → H'.get? b = some o) {vs : List Value} {ps : List (Str × Str)} (h : HdAll H vs ps) : HdAll H' vs ps := h.imp fun _ _ T => T.keeps k
noncomputable abbrev FM2 (a b : String) (m0 : Str → Option Value) (u1 u2 : Option Value) : Str → Option Value := fun y => if y = Str.ofString b then u2 else if y = Str.ofString a then u1 else m0 y
theorem fm2_first (a b : String) (m0 : Str → Option Value) (y : Str) : m0 y = FM2 a b m0 (m0 (Str.ofString a)) (m0 (Str.ofString b)) y := by
  simp only [FM2]
  by_cases c1 : y = Str.ofString b
  · rw [if_pos c1, c1]
  · rw [if_neg c1]
    by_cases c2 : y = Str.ofString a
    · rw [if_pos c2, c2]
    · rw [if_neg c2]
theorem fm2_set (a b : String) (m0 : Str → Option Value) (u1 u2 v1 v2 : Option Value) (y : Str) : (if y = Str.ofString b then v2 else if y = Str.ofString a then v1 else FM2 a b m0 u1 u2 y) = FM2 a b m0 v1 v2 y := by
  simp only [FM2]
  by_cases c1 : y = Str.ofString b
  · rw [if_pos c1, if_pos c1]
  · rw [if_neg c1, if_neg c1, if_neg c1]
    by_cases c2 : y = Str.ofString a
    · rw [if_pos c2, if_pos c2]
    · rw [if_neg c2, if_neg c2, if_neg c2]
noncomputable abbrev hdLed (x dx hl : Addr) (hh : Int) (hk : Tok) (vs : List Value) (n : Nat) : List (Addr × Obj) := [(x, instObj 911 dx), (dx, dictOf [⟨hh, .str (Str.ofString "_headers") hk, .ref hl⟩] 1), (hl, listOf vs.toArray n)]
theorem hdLed_cls (x dx hl : Addr) (hh : Int) (hk : Tok) (vs : List Value) (n : Nat) : ∀ p ∈ hdLed x dx hl hh hk vs n, p.2.cls ≠ .type "tuple" := by
  intro p hp
  simp only [List.mem_cons, List.not_mem_nil, or_false] at hp
  rcases hp with rfl | rfl | rfl
  · exact fun h => nomatch h
  · exact fun h => by injection h with h; exact absurd h (by decide)
  · exact fun h => by injection h with h; exact absurd h (by decide)
/-- the first pair whose name is that one, whatever its case -/
noncomputable def hdFind (ps : List (Str × Str)) (low : Str) : Option Str := (ps.find? fun p => decide (Txt.lower p.1 = low)).map (·.2)
noncomputable def GetIs (r : Value) : Option Str → Prop
  | none => r = .none
  | some v => ∃ t, r = .str v t
theorem hdFind_hit {k v low : Str} {ps : List (Str × Str)} (h : Txt.lower k = low) : hdFind ((k, v) :: ps) low = some v := by
  simp [hdFind, h]
theorem hdFind_miss {k v low : Str} {ps : List (Str × Str)} (h : ¬ Txt.lower k = low) : hdFind ((k, v) :: ps) low = hdFind ps low := by
  simp [hdFind, h]
section
variable {w : World} {LO : List Str} {mean : ExcName → Option Value} {mg mb : Str → Option Value}
  {dp un : Nat} {gd : Option (List Code)} {cn : Str} {cs : Scope} {a : Addr} {ccd : Value} {cl : List (Str × Addr)} {outer : List Env} {A₀ : Around} {base h₀ : Heap} {L : Addr} {m : Str → Option Value} {s : Shared} {Q E : Value → Shared → Prop} {news : List (Addr × Obj)} {x : Addr} {v : Str} {t : Tok}
theorem use_cstN (hB : Below A₀ base outer h₀) (hF : Fr h₀ L s.heap m) (hX : (hdK.heap_1 w.params).In h₀) (hN : News h₀ L s.heap news) (hT : Top hdK.view_39 LO mean mg mb h₀) (hcs : cs.kind = .function) (hdp : dp + 4 < recursionLimit) (hun : un + 40 < cLine) (hv : Plain v)
    (h : ∀ h' tk, Fr h₀ L h' m → News h₀ L h' news → Q (.str v t) { s with heap := h', toks := tk }) :
    wpAny (model PySem.Challenge.rw_op0282_01.row.prog w) (ktrTop dp un gd cn cs L a ccd cl outer) (call (.ref 810) [.ref x, .str v t] [(Str.ofString "name", .bool true)]) Q E s := by
  refine c_cstN w LO mean mg mb x v t hv dp un gd cn cs a ccd cl outer A₀ base h₀ L m s Q E hB hF hX (fun _ h => nomatch h) hT hcs hdp hun ?_
  rintro r small' h' tk ⟨rfl, rfl⟩ F' _ G
  exact h h' tk F' (hN.grown fun b o e => G b o e (fun h => nomatch h))
theorem use_cstV (hB : Below A₀ base outer h₀) (hF : Fr h₀ L s.heap m) (hX : (hdK.heap_1 w.params).In h₀) (hN : News h₀ L s.heap news) (hT : Top hdK.view_39 LO mean mg mb h₀) (hcs : cs.kind = .function) (hdp : dp + 4 < recursionLimit) (hun : un + 40 < cLine) (hv : Plain v)
    (h : ∀ h' tk, Fr h₀ L h' m → News h₀ L h' news → Q (.str v t) { s with heap := h', toks := tk }) :
    wpAny (model PySem.Challenge.rw_op0282_01.row.prog w) (ktrTop dp un gd cn cs L a ccd cl outer) (call (.ref 810) [.ref x, .str v t] [(Str.ofString "name", .bool false)]) Q E s := by
  refine c_cstV w LO mean mg mb x v t hv dp un gd cn cs a ccd cl outer A₀ base h₀ L m s Q E hB hF hX (fun _ h => nomatch h) hT hcs hdp hun ?_
  rintro r small' h' tk ⟨rfl, rfl⟩ F' _ G
  exact h h' tk F' (hN.grown fun b o e => G b o e (fun h => nomatch h))
end
end
section
-- part H2

set_option Elab.async false
set_option maxRecDepth 100000
set_option maxHeartbeats 8000000
theorem fresh_H2 : True := by
  w_top off
  k_with_none
  k_with "small" => first | exact Int.toNat_natCast _ | with_reducible exact Nat.mod_lt _ (by decide) | with_reducible exact fm2_lt _ | with_reducible exact fm2_ge _ | with_reducible exact fm4_lt _ _ | with_reducible exact fm4_ge _ _ | with_reducible exact em_lt _ | with_reducible exact em_gt _ | with_reducible exact nat_gt _ | with_reducible exact Int.natCast_nonneg _ | with_reducible exact nat_gt1 _ | with_reducible exact room2 (by assumption) (by decide) | with_reducible exact room1 (by assumption) (by decide) | with_reducible exact room3 (by assumption) (by decide) | with_reducible exact room4 (by assumption) (by decide) | with_reducible exact room0 (by assumption) | with_reducible exact le_le (by assumption) (by decide) | with_reducible exact le_eq (by assumption) (by decide) | with_reducible exact lt_le (by assumption) (by decide) | with_reducible exact sub_one (by assumption) | with_reducible exact sub_j (by assumption) | with_reducible exact sub_dec (by assumption) | with_reducible exact toNat_pred _ | with_reducible exact nat_ge _
  k_with "ne" => first | with_reducible exact Apart.l (by assumption) | with_reducible exact Apart.r (by assumption) | with_reducible exact gt1 (by assumption) | with_reducible exact lt1 (by assumption) | with_reducible exact gt2 (by assumption) | with_reducible exact lt2 (by assumption) | with_reducible exact gl2 (by assumption) | with_reducible exact ll2 (by assumption) | with_reducible exact gt3 (by assumption) | with_reducible exact lt3 (by assumption) | with_reducible exact gl3 (by assumption) | with_reducible exact ll3 (by assumption) | with_reducible exact gt4 (by assumption) | with_reducible exact gl4 (by assumption) | with_reducible exact ll4 (by assumption) | with_reducible exact gl5 (by assumption) | with_reducible exact gl6 (by assumption) | with_reducible exact gl7 (by assumption) | with_reducible exact gl8 (by assumption) | with_reducible exact gl9 (by assumption) | with_reducible exact gl10 (by assumption) | with_reducible exact gl11 (by assumption)
  k_with "k_room" => ((try simp only [depth_under_make, depth_under_kw, depth_in1, depth_deeper, depth_caller]); first | decide | ktr_room)
  k_with "cell_enter" => (refine' code_defG (by k_asm) (by k_asm) (by k_asm) (by k_asm) (by k_asm) rfl rfl (by assumption) (by k_is) (by k_is) (by ktr_room) (by first | exact BindsTo.of_eq rfl | exact binds_K (by k_in) rfl (by k_is) rfl rfl rfl) (by exact locs rfl) ?_ (by exact rfl) (by exact rfl) (by exact rfl) (by decide); k_whole; intro g' L' h' FG' F' N' B' X' T' GS'; (try dsimp only); (try k_lift B'); (try k_fold))
  k_with "exec If" => (k_here; dsimp only)
  k_with "execs cons" => (k_here; dsimp only)
  k_with "isTrue" => (k_here; dsimp only)
  k_with "exec Assign" => (k_here; dsimp only)
  k_with "exec Expr" => (k_here; dsimp only)
  k_with "eval Attribute" => (k_here; dsimp only)
  k_with "execs nil" => (k_here; dsimp only)
  k_with "execs cons" => (k_here; (try dsimp only); (with_reducible refine toks_gen ?_); intro tk')
  k_with "execs nil" => (k_here; (try dsimp only); (with_reducible refine toks_gen ?_); intro tk')
  trivial

theorem lay_H2_1 : True := by
  k_with "ForR" => (refine hold_out ?_)
  k_with "pyIter ref" => (refine hold_out ?_)
  k_with "ForP" => (dsimp only [ForP])
  k_with "ForN" => (dsimp only [ForN])
  k_with "exec For Tuple Attribute" => (k_here; (with_unfolding_all refine' for_start ?_ (by (intro _; rfl)); k_whole))
  k_with "call builtin:str.lower" => (k_here; (try dsimp only); k_dflt (refine' SC.lower (by assumption) ?_; k_whole))
  k_with "call ref" => (k_here; (show wpAny _ _ (call (Value.ref 810) _ _) _ _ _); k_dflt (refine' use_cstN (by k_asm) (by k_asm) (by k_asm) (by k_asm) (by k_asm) (by exact rfl) (by ktr_room) (by ktr_units) (by assumption) ?_; k_whole); intro _ _ _ _; (try k_sweep))
  k_with "call ref" => (k_here; (show wpAny _ _ (call (Value.ref 810) _ _) _ _ _); k_dflt (refine' use_cstV (by k_asm) (by k_asm) (by k_asm) (by k_asm) (by k_asm) (by exact rfl) (by ktr_room) (by ktr_units) (by assumption) ?_; k_whole); intro _ _ _ _; (try k_sweep))
  trivial
structure InH where
  j : Nat
  us : List Value
  qs : List (Str × Str)
  u1 : Option Value
  u2 : Option Value
theorem now_c_get : True := by
  k_with "now" =>
    unfold ClaimP
    k_fill
    intro dp un gd cn cs a ccd cl outer A₀ base h₀ L m s Q E hB hF hX hN hT hcs hdp hun hpre hret
    k_lift hB
    refine wpAny_call ?_
    k_dflt (refine' code_defG ?k1 ?k2 ?k3 ?k4 ?k5 ?kA ?kF ?kK ?k6 ?k7 ?k8 ?k9 ?kB ?_ ?c2 ?c3 ?c4 ?c5; (case kA => exact rfl); (case kF => exact rfl); (case kK => assumption); (case k1 => k_asm); (case k2 => k_asm); (case k3 => k_asm); (case k4 => k_asm); (case k5 => k_asm); (case k6 => k_is); (case k7 => k_is); (case k8 => ktr_room); (case k9 => first | exact BindsTo.of_eq rfl | exact binds_K (by k_in) rfl (by k_is) rfl rfl rfl); (case c5 => decide); (case kB => exact locs rfl); (case c2 => exact rfl); (case c3 => exact rfl); (case c4 => exact rfl); k_whole)
    intro g' L' h1 FG' F1 N1 B' X' T' GS'
    replace F1 := fr_clean [(Str.ofString "default", Value.none), (Str.ofString "name", Value.str name t), (Str.ofString "self", Value.ref x)] F1 (by rfl)
    (try dsimp only)
    k_lift B'
    (try k_fold)
    dsimp only [hdLed] at hN N1 hret GS' ⊢
    have hpre1 := hpre.imp fun a vs T => isTup_g GS' hN (hdLed_cls x dx hl hh hk _ n) T
    k_steps
    rename Fr _ _ _ _ => kF
    rename News _ _ _ _ => kN
    refine hold_in (it_list kF kN (kN.isList (.tail _ (.tail _ (.head _)))) ?_)
    intro I hI lI FI NI
    k_lt lI
    obtain ⟨its, hits, NI⟩ := split_news NI
    refine for_ind (fun (c : InH) => c.us.length) (fun c s' => ∃ h' tk, s' = { s with heap := h', toks := tk } ∧ Fr g' L' h' (FM2 "k" "v" _ c.u1 c.u2) ∧ News g' L' h' ((I, itObj "list_iterator" hl c.j) :: its) ∧ vs.drop c.j = c.us ∧ HdAll g' c.us c.qs ∧ hdFind ps (Txt.lower name) = hdFind c.qs (Txt.lower name) ∧ ∀ p ∈ c.qs, p ∈ ps) ?_ ⟨0, vs, ps, _, _⟩ _ ⟨_, _, rfl, fr_eq FI (fm2_first "k" "v" _), NI, rfl, hpre1, rfl, fun _ h => h⟩
    rintro ⟨j, us, qs, u1, u2⟩ s' ⟨h', tk', rfl, F5, N5, hd5, he5, hf5, hq5⟩ IH5
    dsimp only at F5 N5 hd5 he5 hf5 hq5
    subst hits
    cases he5 with
    | nil =>
      (refine' for_turn ?hE ?_; (case hE => first | passes_own | with_unfolding_all passes_own))
      refine nx_list_end (by rfl) F5 N5 (N5.isList (.tail _ (.tail _ (.tail _ (.head _))))) (drop_end hd5) (by k_upd) ?_
      intro h6 F6 N6
      dsimp only [ForN]
      k_steps
      rename News h₀ _ _ _ => kN9
      exact hret _ _ _ _ ⟨rfl, by rw [hf5]; exact rfl⟩ (by assumption) (news_sub kN9 fun p hp => .tail _ hp) (gsub_keep GS' F6)
    | @cons a6 k6 v6 tk6 tv6 us6 qs6 ho6 r6 =>
      (refine' for_turn ?hE ?_; (case hE => first | passes_own | with_unfolding_all passes_own))
      refine nx_list F5 N5 (N5.isList (.tail _ (.tail _ (.tail _ (.head _))))) (drop_item hd5).1 (by k_upd) ?_
      intro h6 F6 N6
      dsimp only [ForN]
      refine letGo_it N6 (by k_mem) (.inr rfl) ?_
      have ho7 : IsTup h6 a6 #[.str k6 tk6, .str v6 tv6] := F6.tup ho6
      have hz6 := hps _ (hq5 _ (.head _))
      k_steps
      · rename News h₀ _ _ _ => kN9
        exact hret _ _ _ _ ⟨rfl, by rw [hf5, hdFind_hit (eq_of_beq (by assumption))]; exact ⟨_, rfl⟩⟩ (by assumption) (news_sub kN9 fun p hp => .tail _ hp) (gsub_keep GS' (by assumption))
      · exact hold_in (IH5 ⟨j + 1, us6, qs6, _, _⟩ _ (by simp) ⟨_, _, rfl, fr_eq (by k_asm) (fm2_set "k" "v" _ _ _ _ _), by k_asm, (drop_item hd5).2, r6, by rw [hf5, hdFind_miss (beq_eq_false_iff_ne.mp (by assumption))], fun p hp => hq5 p (.tail _ hp)⟩)
  trivial
theorem c_get (w : World) (LO : List Str) (mean : ExcName → Option Value) (mg mb : Str → Option Value) (x dx hl : Nat) (hh : Int) (hk t : Tok) (n : Nat) (name : Str) (vs : List Value) (ps : List (Str × Str)) (hname : Plain (Txt.lower name)) (h1l : PySem.Builtin.Str.tooLong (Txt.lower name).length = false) (hps : ∀ p ∈ ps, PySem.Builtin.Str.tooLong (Txt.lower p.1).length = false)
   (o1 : dx < x) (o2 : x < hl) :
   ClaimP w LO mean mg mb 8 80 858 [.ref x, .str name t] [] (fun H => HdAll H vs ps) (hdLed x dx hl hh hk vs n) (fun r small' => small' = hdLed x dx hl hh hk vs n ∧ GetIs r (hdFind ps (Txt.lower name))) := (by exact whole_of _ : Whole by_lay)
end
section
-- part CN

set_option Elab.async false
set_option maxRecDepth 100000
/-- a contract that also tells that what is new is new -/
noncomputable def ClaimN (w : World) (LO : List Str) (mean : ExcName → Option Value) (mg mb : Str → Option Value) (D U : Nat) (f : Addr) (vs : List Value) (kw : List (Str × Value)) (Pre : Heap → Prop) (small : List (Addr × Obj)) (Post : Value → List (Addr × Obj) → Prop) : Prop :=
  ∀ (dp un : Nat) (gd : Option (List Code)) (cn : Str) (cs : Scope) (a : Addr) (ccd : Value) (cl : List (Str × Addr)) (outer : List Env) (A₀ : Around) (base h₀ : Heap) (L : Addr) (m : Str → Option Value) (s : Shared) (Q E : Value → Shared → Prop),
    Below A₀ base outer h₀ → Fr h₀ L s.heap m → (hdK.heap_1 w.params).In h₀ → News h₀ L s.heap small → Top hdK.view_39 LO mean mg mb h₀ → cs.kind = .function →
    dp + D < recursionLimit → un + U < cLine → Pre s.heap →
    (∀ v small' h' tk, Post v small' → Fr h₀ L h' m → News h₀ L h' small' → GSub s.heap h' (small.map (·.1)) → (∀ p ∈ small', p.1 ∉ small.map (·.1) → s.heap.get? p.1 = none) → Q v { s with heap := h', toks := tk }) →
    wpAny (model PySem.Challenge.rw_op0282_01.row.prog w) (ktrTop dp un gd cn cs L a ccd cl outer) (call (.ref f) vs kw) Q E s
theorem fresh_g {H g h' : Heap} {L' : Addr} {adr : List Addr} {news : List (Addr × Obj)} (G : GSub H g adr) (N : News g L' h' news) : ∀ p ∈ news, p.1 ∉ adr → H.get? p.1 = none := fun p hp ha => by
  cases q : H.get? p.1 with
  | none => rfl
  | some o => have := G _ _ q ha; rw [(N p hp).2.2] at this; cases this
end
section
-- part C4

set_option Elab.async false
set_option maxRecDepth 100000
noncomputable abbrev tupObj (vs : Array Value) (n : Nat) : Obj := { cls := .type "tuple", data := .seq vs n }
noncomputable def SdPost (x dx hl : Addr) (hh : Int) (hk : Tok) (vs : List Value) (n : Nat) (ps : List (Str × Str)) (name value : Str) (r : Value) (small' : List (Addr × Obj)) : Prop :=
  match hdFind ps (Txt.lower name) with
  | none => ∃ a tk tv t n' k, r = .str value t ∧ small' = hdLed x dx hl hh hk (vs ++ [.ref a]) n' ++ [(a, tupObj #[.str name tk, .str value tv] k)]
  | some v => ∃ t, r = .str v t ∧ small' = hdLed x dx hl hh hk vs n
section
variable {w : World} {LO : List Str} {mean : ExcName → Option Value} {mg mb : Str → Option Value}
  {dp un : Nat} {gd : Option (List Code)} {cn : Str} {cs : Scope} {a : Addr} {ccd : Value} {cl : List (Str × Addr)} {outer : List Env} {A₀ : Around} {base h₀ : Heap} {L : Addr} {m : Str → Option Value} {s : Shared} {Q E : Value → Shared → Prop}
  {x dx hl : Nat} {hh : Int} {hk t : Tok} {n : Nat} {name : Str} {vs : List Value} {ps : List (Str × Str)}
theorem use_get0 (hB : Below A₀ base outer h₀) (hF : Fr h₀ L s.heap m) (hX : (hdK.heap_1 w.params).In h₀) (hN : News h₀ L s.heap [(x, instObj 911 dx), (dx, dictOf [⟨hh, .str (Str.ofString "_headers") hk, .ref hl⟩] 1), (hl, listOf vs.toArray n)]) (hT : Top hdK.view_39 LO mean mg mb h₀) (hcs : cs.kind = .function) (hdp : dp + 8 < recursionLimit) (hun : un + 80 < cLine)
    (hpre : HdAll s.heap vs ps) (hname : Plain (Txt.lower name)) (h1l : PySem.Builtin.Str.tooLong (Txt.lower name).length = false) (hps : ∀ p ∈ ps, PySem.Builtin.Str.tooLong (Txt.lower p.1).length = false)
    (o1 : dx < x) (o2 : x < hl) (hf : hdFind ps (Txt.lower name) = none)
    (h : ∀ h' tk, Fr h₀ L h' m → News h₀ L h' [(x, instObj 911 dx), (dx, dictOf [⟨hh, .str (Str.ofString "_headers") hk, .ref hl⟩] 1), (hl, listOf vs.toArray n)] → Q .none { s with heap := h', toks := tk }) :
    wpAny (model PySem.Challenge.rw_op0282_01.row.prog w) (ktrTop dp un gd cn cs L a ccd cl outer) (call (.ref 858) [.ref x, .str name t]) Q E s := by
  refine c_get w LO mean mg mb x dx hl hh hk t n name vs ps hname h1l hps o1 o2 dp un gd cn cs a ccd cl outer A₀ base h₀ L m s Q E hB hF hX hN hT hcs hdp hun hpre ?_
  rintro r small' h' tk ⟨rfl, hr⟩ F' N' G
  rw [hf] at hr
  obtain rfl : r = .none := hr
  exact h h' tk F' N'
theorem use_get1 {v : Str} (hB : Below A₀ base outer h₀) (hF : Fr h₀ L s.heap m) (hX : (hdK.heap_1 w.params).In h₀) (hN : News h₀ L s.heap [(x, instObj 911 dx), (dx, dictOf [⟨hh, .str (Str.ofString "_headers") hk, .ref hl⟩] 1), (hl, listOf vs.toArray n)]) (hT : Top hdK.view_39 LO mean mg mb h₀) (hcs : cs.kind = .function) (hdp : dp + 8 < recursionLimit) (hun : un + 80 < cLine)
    (hpre : HdAll s.heap vs ps) (hname : Plain (Txt.lower name)) (h1l : PySem.Builtin.Str.tooLong (Txt.lower name).length = false) (hps : ∀ p ∈ ps, PySem.Builtin.Str.tooLong (Txt.lower p.1).length = false)
    (o1 : dx < x) (o2 : x < hl) (hf : hdFind ps (Txt.lower name) = some v)
    (h : ∀ u h' tk, Fr h₀ L h' m → News h₀ L h' [(x, instObj 911 dx), (dx, dictOf [⟨hh, .str (Str.ofString "_headers") hk, .ref hl⟩] 1), (hl, listOf vs.toArray n)] → Q (.str v u) { s with heap := h', toks := tk }) :
    wpAny (model PySem.Challenge.rw_op0282_01.row.prog w) (ktrTop dp un gd cn cs L a ccd cl outer) (call (.ref 858) [.ref x, .str name t]) Q E s := by
  refine c_get w LO mean mg mb x dx hl hh hk t n name vs ps hname h1l hps o1 o2 dp un gd cn cs a ccd cl outer A₀ base h₀ L m s Q E hB hF hX hN hT hcs hdp hun hpre ?_
  rintro r small' h' tk ⟨rfl, hr⟩ F' N' G
  rw [hf] at hr
  obtain ⟨u, rfl⟩ : ∃ u, r = .str v u := hr
  exact h u h' tk F' N'
end
end
section
-- part C5

set_option Elab.async false
set_option maxRecDepth 100000
/-- a run of rights -/
noncomputable def headPun (x : Str) : Bool := match x.cps.toList with
  | [] => false
  | c :: _ => pun c
/-- how many rights the runs tell -/
noncomputable def rightsOf (ys : List Str) : Nat := ((ys.filter headPun).map (·.length)).sum
/-- the places behind the last right -/
noncomputable def behindOf (ys : List Str) : Nat := match ys.getLast? with
  | none => 0
  | some y => if headPun y then 0 else y.length
noncomputable def turnedOf (mode : Int) (ys : List Str) (up : Int) : Int :=
  let place : Int := if ((rightsOf ys : Nat) : Int).fmod 2 = up then (behindOf ys : Int) + 1 else 0
  if place > 8 then mode else mode + 2 ^ place.toNat - 2 ^ (place + 1).toNat * (mode.fdiv (2 ^ place.toNat)).fmod 2
theorem item0 {x : Str} {c : Nat} {r : List Nat} (h : x.cps.toList = c :: r) : Txt.item x 0 = ⟨#[c]⟩ := by
  obtain ⟨⟨l⟩⟩ := x
  have : l = c :: r := h
  subst this
  have e : PySem.seqIndex? 0 (c :: r).length = some 0 := by
    simp [PySem.seqIndex?]
  show (⟨#[(Txt.charAt ⟨⟨c :: r⟩⟩ 0).getD 0]⟩ : Str) = _
  unfold Txt.charAt
  have e2 : (⟨⟨c :: r⟩⟩ : Str).length = (c :: r).length := rfl
  rw [e2, e]
  rfl
theorem pun_rwxst (c : Nat) : decide (c ∈ (Str.ofString "rwxst").cps.toList) = pun c := by
  have e : (Str.ofString "rwxst").cps.toList = [114, 119, 120, 115, 116] := by decide +kernel
  rw [e]
  by_cases h1 : c = 114
  · subst h1; rfl
  by_cases h2 : c = 119
  · subst h2; rfl
  by_cases h3 : c = 120
  · subst h3; rfl
  by_cases h4 : c = 115
  · subst h4; rfl
  by_cases h5 : c = 116
  · subst h5; rfl
  simp [pun, h1, h2, h3, h4, h5]
section
variable {prog : Program} {w : World} {A : Around} {E : Value → Shared → Prop} {s : Shared} {Q : Value → Shared → Prop} {x : Str} {t u : Tok}
theorem in_head {b : Bool} {c : Nat} {r : List Nat} (hx : x.cps.toList = c :: r) (hb : headPun x = b) (h : Q (.bool b) s) : wpAny (model prog w) A (compareOp .In (.str (Txt.item x 0) u) (.str (Str.ofString "rwxst") t)) Q E s := by
  rw [item0 hx]
  refine in_one (pun_rwxst c) ?_
  have e : headPun x = pun c := by simp [headPun, hx]
  rw [← e, hb]; exact h
end
section
variable {prog : Program} {w : World} {A : Around} {h₀ : Heap} {L : Addr} {m : Str → Option Value} {env : Env} {ct elt : PySem.Expr} {x x₂ : Str} {scope : Scope} {cl : List (Str × Addr)} {s : Shared} {S : List (Addr × Obj) → Prop} {P : Nat → Value → Prop} {Fin : List Value → List (Addr × Obj) → Prop}
theorem restT_ind (n : Nat) (I : Nat → List Value → List (Addr × Obj) → Prop) (fin : ∀ ys news, I n ys news → Fin ys news)
    (turn : ∀ k i ys news, k + 1 + i = n → I i ys news → (∀ ys' news', I (i + 1) ys' news' → LCt.CompRestT prog w A h₀ L m env ct elt x scope cl s S P Fin k (i + 1) ys' news') → LCt.CompRestT prog w A h₀ L m env ct elt x scope cl s S P Fin (k + 1) i ys news) :
    ∀ k i ys news, k + i = n → I i ys news → LCt.CompRestT prog w A h₀ L m env ct elt x scope cl s S P Fin k i ys news
  | 0, i, ys, news, h, hI => by
    obtain rfl : i = n := by omega
    exact LCt.CompRestT.zero (fin ys news hI)
  | k + 1, i, ys, news, h, hI => turn k i ys news h hI fun ys' news' hI' => restT_ind n I fin turn k (i + 1) ys' news' (by omega) hI'
theorem rest_ind (n : Nat) (I : Nat → List Value → List (Addr × Obj) → Prop) (fin : ∀ ys news, I n ys news → Fin ys news)
    (turn : ∀ k i ys news, k + 1 + i = n → I i ys news → (∀ ys' news', I (i + 1) ys' news' → LCg.CompRest prog w A h₀ L m env elt x scope cl s S P Fin k (i + 1) ys' news') → LCg.CompRest prog w A h₀ L m env elt x scope cl s S P Fin (k + 1) i ys news) :
    ∀ k i ys news, k + i = n → I i ys news → LCg.CompRest prog w A h₀ L m env elt x scope cl s S P Fin k i ys news
  | 0, i, ys, news, h, hI => by
    obtain rfl : i = n := by omega
    exact LCg.CompRest.zero (fin ys news hI)
  | k + 1, i, ys, news, h, hI => turn k i ys news h hI fun ys' news' hI' => rest_ind n I fin turn k (i + 1) ys' news' (by omega) hI'
end
section
variable {prog : Program} {w : World} {A : Around} {E : Value → Shared → Prop} {s : Shared} {Q : Value → Shared → Prop}
theorem last_item {value slice : PySem.Expr} {l : Addr} {vs : List Value} {u : Tok} {v : Value} (hl : s.heap.IsList l vs.toArray) (hv : vs.getLast? = some v) (hz : vs.length ≤ 100) (h : Q v s)
    (hs : subscripted slice false (.ref l) (.int (-1) u) = operate [.ref l, .int (-1) u] (getItem (.ref l) (.int (-1) u)) := by with_unfolding_all rfl) :
    wpAny (model prog w) A (subscriptTail value slice (.ref l) (.int (-1) u)) Q E s := by
  have hne : vs ≠ [] := fun e => by rw [e] at hv; cases hv
  have hp := List.length_pos_iff.mpr hne
  refine tail_any hl.typeIs slot_list_getitem.lookup (wpAny_getItem_list_neg (x := v) (k := -1) hl (by decide) (by rw [List.size_toArray]; omega) (by decide) ?_ h) hs
  rw [List.size_toArray]
  have e : ((-1 : Int) + (vs.length : Nat)).toNat = vs.length - 1 := by omega
  rw [e, List.getElem?_toArray, ← hv, List.getLast?_eq_getElem?]
end
theorem ints_snoc : ∀ {vs : List Value} {ns : List Int} {n : Int} {t : Tok}, IntsAre vs ns → IntsAre (vs ++ [.int n t]) (ns ++ [n]) := by
  intro vs ns n t h
  induction h with
  | nil => exact .cons n t .nil
  | cons x u _ ih => exact .cons x u ih
theorem strs_at : ∀ {vs : List Value} {ys : List Str} {i : Nat} {v : Value}, StrsAre vs ys → vs.toArray[i]? = some v → ∃ y t, ys[i]? = some y ∧ v = .str y t
  | _, _, i, v, .nil, h => by simp at h
  | _, _, 0, v, .cons x u r, h => by
    have : Value.str x u = v := by simpa using h
    exact ⟨x, u, rfl, this.symm⟩
  | _, _, i + 1, v, .cons x u r, h => by
    have : _ := strs_at (i := i) (v := v) r (by simpa using h)
    simpa using this
theorem strs_last : ∀ {vs : List Value} {ys : List Str}, StrsAre vs ys → ys ≠ [] → ∃ y t, ys.getLast? = some y ∧ vs.getLast? = some (.str y t) := by
  intro vs ys h
  induction h with
  | nil => exact fun h => absurd rfl h
  | cons x u r ih =>
    intro _
    cases r with
    | nil => exact ⟨x, u, rfl, rfl⟩
    | cons x' u' r' =>
      obtain ⟨y, t, h1, h2⟩ := ih (fun e => nomatch e)
      exact ⟨y, t, List.getLast?_cons_cons.trans h1, List.getLast?_cons_cons.trans h2⟩
theorem strs_len : ∀ {vs : List Value} {ys : List Str}, StrsAre vs ys → vs.length = ys.length := by
  intro vs ys h
  induction h with
  | nil => rfl
  | cons _ _ _ ih => exact congrArg (· + 1) ih
end
section
-- part Z1
open PySem.Calls PyProof.Rows.LCg
set_option Elab.async false
set_option maxRecDepth 100000
set_option maxHeartbeats 2000000
/-- the turns of a comprehension over a zip of two lists -/
noncomputable def ZRest (prog : Program) (w : World) (A : Around) (h₀ : Heap) (L : Addr) (m : Str → Option Value) (env : Env) (elt : PySem.Expr) (xa xb : Str) (scope : Scope) (cl : List (Str × Addr)) (s : Shared) (xs ys : Array Value) (news : List (Addr × Obj)) (Fin : List Value → Prop) : Nat → Nat → List Value → Prop
  | 0, _, zs => Fin zs
  | k + 1, i, zs => ∀ v₁ v₂ C oC (its : List (Addr × Obj)) m₂ h tk (E' : Value → Shared → Prop), xs[i]? = some v₁ → ys[i]? = some v₂ → NsObj oC m₂ → m₂ xa = some v₁ → m₂ xb = some v₂ → Fr h₀ L h m → News h₀ L h ((C, oC) :: (news ++ its)) →
      wpAny (model prog w) A (eval elt (compEnvC scope cl C env)) (fun y s' => ∃ h' tk', s' = { s with heap := h', toks := tk' } ∧ Fr h₀ L h' m ∧ News h₀ L h' ((C, oC) :: (news ++ its)) ∧ ZRest prog w A h₀ L m env elt xa xb scope cl s xs ys news Fin k (i + 1) (zs ++ [y])) E' { s with heap := h, toks := tk }
noncomputable abbrev ZSt (h : Heap) (z TI TO i1 i2 l1 l2 : Addr) (xs ys : Array Value) (i : Nat) : Prop := IsZip h z TI TO .none ∧ IsPair h TI (.ref i1) (.ref i2) ∧ (∃ a b, IsPair h TO a b) ∧ h.IsListIter i1 l1 i ∧ h.IsListIter i2 l2 i ∧ h.IsList l1 xs ∧ h.IsList l2 ys
noncomputable def LIn (news : List (Addr × Obj)) (l : Addr) (xs : Array Value) : Prop := ∃ n, (l, ({ cls := .type "list", data := .seq xs n } : Obj)) ∈ news
section
variable {prog : Program} {w : World} {A : Around} {E : Value → Shared → Prop} {s : Shared} {h₀ : Heap} {L : Addr} {m : Str → Option Value} {env : Env}
theorem now_zip_block : True := by
  k_with "now" =>
    refine wpAny_newObj_type (wpAny_newFunctionEnv hcell (by intro y hy; simp at hy) (fun h₁ hns₁ hsb₁ => ?_) hkind)
    dsimp only at hns₁ hsb₁ ⊢
    generalize hH2 : s₂.heap.push { cls := .type "list", dict := none, data := .seq ([] : List Value).toArray } = H2 at hns₁ hsb₁ ⊢
    have hC : H2.objs.size = s₂.heap.objs.size + 1 := by rw [← hH2, Heap.size_push]
    have hDC : s₂.heap.objs.size ≠ H2.objs.size := by rw [hC]; exact Nat.ne_of_lt (Nat.lt_succ_self _)
    have below : ∀ b, b < s₂.heap.objs.size → b ≠ H2.objs.size ∧ b ≠ s₂.heap.objs.size := fun b hb => ⟨by rw [hC]; exact Nat.ne_of_lt (Nat.lt_succ_of_lt hb), Nat.ne_of_lt hb⟩
    have old : ∀ b o, s₂.heap.get? b = some o → h₁.get? b = some o := fun b o e => hsb₁.extBut b o (below b (Heap.lt_size e)).1 (Heap.get?_push_of_some _ (hH2 ▸ Heap.get?_push_of_some _ e))
    have hacc : h₁.get? s₂.heap.objs.size = some (lst []) := hsb₁.extBut _ _ hDC (Heap.get?_push_of_some _ (hH2 ▸ Heap.get?_push_size _ rfl))
    have W := WalksT.zip2 (prog := prog) (w := w) hh z TI TO i1 i2 l1 l2 hD xs ys
    have fplt : ∀ c ∈ [z, TI, TO, i1, i2, l1, l2], c < s₂.heap.objs.size := by
      obtain ⟨a1, a2, ⟨_, _, a3⟩, ⟨_, a4, _⟩, ⟨_, a5, _⟩, ⟨_, a6, _⟩, ⟨_, a7, _⟩⟩ := st0
      intro c hc
      simp only [List.mem_cons, List.not_mem_nil, or_false] at hc
      rcases hc with rfl | rfl | rfl | rfl | rfl | rfl | rfl
      · exact Heap.lt_size a1
      · exact Heap.lt_size a2
      · exact Heap.lt_size a3
      · exact Heap.lt_size a4
      · exact Heap.lt_size a5
      · exact Heap.lt_size a6
      · exact Heap.lt_size a7
    have hst₁ : ZSt h₁ z TI TO i1 i2 l1 l2 xs ys 0 := W.frame _ _ _ st0 fun b _ o e => old b o e
    have fresh : ∀ a, s₂.heap.objs.size ≤ a → s₂.heap.get? a = none := fun a ha => by
      cases e : s₂.heap.get? a with
      | none => rfl
      | some o' => exact absurd (Heap.lt_size e) (Nat.not_lt.mpr ha)
    have fresh₀ : ∀ a, s₂.heap.objs.size ≤ a → h₀.get? a = none := fun a ha => by
      cases e : h₀.get? a with
      | none => rfl
      | some o' => have := F.keep a o' e; rw [fresh a ha] at this; cases this
    have hD₀ : h₀.get? s₂.heap.objs.size = none := fresh₀ _ (Nat.le_refl _)
    have hC₀ : h₀.get? H2.objs.size = none := fresh₀ _ (by rw [hC]; exact Nat.le_succ _)
    have hLlt : L < s₂.heap.objs.size := F.ns.lt
    have hDL : s₂.heap.objs.size ≠ L := Ne.symm (below L hLlt).2
    have hCL : H2.objs.size ≠ L := Ne.symm (below L hLlt).1
    have offC : ∀ p ∈ news, p.1 ≠ H2.objs.size := fun p hp => (below _ (Heap.lt_size (N p hp).1)).1
    have offD : ∀ p ∈ news, p.1 ≠ s₂.heap.objs.size := fun p hp => (below _ (Heap.lt_size (N p hp).1)).2
    have wrne : ∀ c ∈ [z, TO, i1, i2], c ∈ [z, TI, TO, i1, i2] := fun c hc => by
      simp only [List.mem_cons, List.not_mem_nil, or_false] at hc ⊢
      rcases hc with rfl | rfl | rfl | rfl <;> simp
    have wfp : ∀ c ∈ [z, TI, TO, i1, i2], c ∈ [z, TI, TO, i1, i2, l1, l2] := fun c hc => by
      simp only [List.mem_cons, List.not_mem_nil, or_false] at hc ⊢
      rcases hc with rfl | rfl | rfl | rfl | rfl <;> simp
    have loop : ∀ s₃ : Shared, s₃ = { s₂ with heap := h₁, toks := s₂.toks + ([] : List (Str × Value)).length } →
        codeAny (model prog w) A (.compLoop (.ListComp elt [⟨.Tuple [.Name a pa, .Name b pb] kk tp, iter, [], 0⟩] scope pos) 0 (.ref z) (.ref s₂.heap.objs.size) (compEnvC scope cl H2.objs.size env))
          (RR (.ref s₂.heap.objs.size) H2.objs.size) s₃ := by
      rintro s₃ rfl
      refine kcp_loop
        (fun k s' => ∃ h' tk i zs m', s' = { s₂ with heap := h', toks := tk } ∧ i ≤ min xs.size ys.size ∧ k = min xs.size ys.size + 1 - i ∧ zs.length = i ∧ ZSt h' z TI TO i1 i2 l1 l2 xs ys i ∧ Fr h₀ L h' m ∧ h'.Ns H2.objs.size m' ∧
          News h₀ L h' ((s₂.heap.objs.size, lst zs) :: news) ∧ ZRest prog w A h₀ L m env elt a b scope cl s₂ xs ys news Fin (min xs.size ys.size - i) i zs) ?_ (min xs.size ys.size + 1)
        ⟨h₁, _, 0, [], _, rfl, Nat.zero_le _, rfl, rfl, hst₁, F.keeps old, hns₁, fun p hp => ?_, R⟩
      · rintro k s' ⟨h', tk, i, zs, m', rfl, hi, rfl, hzl, hst', F', hn', N', R'⟩
        by_cases hlt : i < min xs.size ys.size
        · obtain ⟨j, hj⟩ : ∃ j, min xs.size ys.size - i = j + 1 := ⟨min xs.size ys.size - i - 1, by omega⟩
          rw [hj] at R'
          refine W.item i _ _ _ hlt hst' fun T vals h₂ tk₂ hP hTge hT hMid hk₂ => ?_
          refine W.go _ kk tp i T _ _ _ hMid fun h₃ hst₃ hk₃ => ?_
          obtain ⟨v₁, v₂, hv₁, hv₂, rfl⟩ := hP
          have hTn := W.apart _ _ _ hMid
          have hT₃ : h₃.IsTuple T #[v₁, v₂] := let ⟨o, ho, r⟩ := hT; ⟨o, hk₃ T o hTn ho, r⟩
          have up₃ : ∀ c o, c ∉ [z, TO, i1, i2] → h'.get? c = some o → h₃.get? c = some o := fun c o hc e => hk₃ c o hc (hk₂ c o hc e)
          have Cwr : H2.objs.size ∉ [z, TO, i1, i2] := fun hm => by
            have := (below _ (fplt _ (wfp _ (wrne _ hm)))).1
            exact this rfl
          refine kcp_assign (env := compEnvC scope cl H2.objs.size env) hh hT₃ (lookup_relabel_local hxa) (lookup_relabel_local hxb) (by simp [compEnvC, relabel, hkind]) (hn'.at' fun o e => up₃ _ o Cwr e) fun h₄ tk₄ hn₄ hs₄ => ?_
          have up : ∀ c o, c ∉ [z, TO, i1, i2] → c ≠ H2.objs.size → h'.get? c = some o → h₄.get? c = some o := fun c o h1 h2 e => hs₄ c o h2 (up₃ c o h1 e)
          have hst₄ : ZSt h₄ z TI TO i1 i2 l1 l2 xs ys (i + 1) := W.frame _ _ _ hst₃ fun c hc o e => hs₄ c o (fun q => (below _ (fplt _ hc)).1 q) e
          obtain ⟨oC, heC, hoC⟩ := ns_obj hn₄
          have nwr : ∀ c, (h₀.get? c).isSome → c ∉ [z, TO, i1, i2] := fun c hs hm => by
            rw [(hw c (wrne c hm)).2.1] at hs; cases hs
          have F₄ : Fr h₀ L h₄ m := ⟨F'.ns.at' fun o e => up _ o (fun hm => (hw _ (wrne _ hm)).1 rfl) (Ne.symm hCL) e, fun c o e => up c o (nwr c (by rw [e]; rfl)) (fun q => by rw [q, hC₀] at e; cases e) (F'.keep c o e), F'.above⟩
          have offw : ∀ p ∈ news, p.1 ∉ [z, TO, i1, i2] := fun p hp hm => (hw _ (wrne _ hm)).2.2 p hp rfl
          have Nn : News h₀ L h₄ news := fun q hq => ⟨up _ _ (offw q hq) (offC q hq) (N' q (List.mem_cons_of_mem _ hq)).1, (N' q (List.mem_cons_of_mem _ hq)).2⟩
          have nD : h₄.get? s₂.heap.objs.size = some (lst zs) := up _ _ (fun hm => (below _ (fplt _ (wfp _ (wrne _ hm)))).2 rfl) hDC (N' _ List.mem_cons_self).1
          obtain ⟨b1, b2, ⟨p1, p2, b3⟩, ⟨o4, b4, r4⟩, ⟨o5, b5, r5⟩, b6, b7⟩ := id hst₄
          obtain ⟨oz, ez⟩ : ∃ o, h₄.get? z = some o := ⟨_, b1⟩
          obtain ⟨oTI, eTI⟩ : ∃ o, h₄.get? TI = some o := ⟨_, b2⟩
          obtain ⟨oTO, eTO⟩ : ∃ o, h₄.get? TO = some o := ⟨_, b3⟩
          have its : ∃ its : List (Addr × Obj), News h₀ L h₄ its ∧ (s₂.heap.objs.size, lst zs) ∈ its ∧ ∀ c ∈ [z, TI, TO, i1, i2], ∀ o, h₄.get? c = some o → (c, o) ∈ its := by
            refine ⟨[(s₂.heap.objs.size, lst zs), (z, oz), (TI, oTI), (TO, oTO), (i1, o4), (i2, o5)], ?_, List.mem_cons_self, ?_⟩
            rotate_left
            · intro c hc o e
              simp only [List.mem_cons, List.not_mem_nil, or_false] at hc
              rcases hc with rfl | rfl | rfl | rfl | rfl
              · obtain rfl := Option.some.inj (ez.symm.trans e); exact .tail _ (.head _)
              · obtain rfl := Option.some.inj (eTI.symm.trans e); exact .tail _ (.tail _ (.head _))
              · obtain rfl := Option.some.inj (eTO.symm.trans e); exact .tail _ (.tail _ (.tail _ (.head _)))
              · obtain rfl := Option.some.inj (b4.symm.trans e); exact .tail _ (.tail _ (.tail _ (.tail _ (.head _))))
              · obtain rfl := Option.some.inj (b5.symm.trans e); exact .tail _ (.tail _ (.tail _ (.tail _ (.tail _ (.head _)))))
            · intro p hp
              simp only [List.mem_cons, List.not_mem_nil, or_false] at hp
              rcases hp with rfl | rfl | rfl | rfl | rfl | rfl
              · exact ⟨nD, hDL, hD₀⟩
              · exact ⟨ez, Ne.symm (hw z (by simp)).1, (hw z (by simp)).2.1⟩
              · exact ⟨eTI, Ne.symm (hw TI (by simp)).1, (hw TI (by simp)).2.1⟩
              · exact ⟨eTO, Ne.symm (hw TO (by simp)).1, (hw TO (by simp)).2.1⟩
              · exact ⟨b4, Ne.symm (hw i1 (by simp)).1, (hw i1 (by simp)).2.1⟩
              · exact ⟨b5, Ne.symm (hw i2 (by simp)).1, (hw i2 (by simp)).2.1⟩
          obtain ⟨its, Nits, hDits, hits⟩ := its
          have N₄ : News h₀ L h₄ ((H2.objs.size, oC) :: (news ++ its)) := fun q hq => by
            rcases List.mem_cons.mp hq with rfl | hq
            · exact ⟨heC, hCL, hC₀⟩
            · rcases List.mem_append.mp hq with hq | hq
              · exact Nn q hq
              · exact Nits q hq
          refine wpAny_mono (R' v₁ v₂ H2.objs.size oC its _ h₄ _ _ hv₁ hv₂ hoC (by simp [hab]) (by simp) F₄ N₄) (fun y s₅ h₅ => ?_) fun _ _ e => e
          obtain ⟨h₅, tk₅, rfl, F₅, N₅, R₅⟩ := h₅
          have zC := (N₅ (H2.objs.size, oC) List.mem_cons_self).1
          have zn : ∀ q ∈ news, h₅.get? q.1 = some q.2 ∧ q.1 ≠ L ∧ h₀.get? q.1 = none := fun q hq => N₅ q (List.mem_cons_of_mem _ (List.mem_append_left _ hq))
          have zi : ∀ q ∈ its, h₅.get? q.1 = some q.2 := fun q hq => (N₅ q (List.mem_cons_of_mem _ (List.mem_append_right _ hq))).1
          have zD := zi _ hDits
          obtain ⟨n1, hm1⟩ := m1
          obtain ⟨n2, hm2⟩ := m2
          have hst₅ : ZSt h₅ z TI TO i1 i2 l1 l2 xs ys (i + 1) := W.frame _ _ _ hst₄ fun c hc o e => by
            by_cases hcw : c ∈ [z, TI, TO, i1, i2]
            · exact zi _ (hits c hcw o e)
            · have hl : c = l1 ∨ c = l2 := by
                simp only [List.mem_cons, List.not_mem_nil, or_false, not_or] at hc hcw
                rcases hc with q | q | q | q | q | q | q
                · exact absurd q hcw.1
                · exact absurd q hcw.2.1
                · exact absurd q hcw.2.2.1
                · exact absurd q hcw.2.2.2.1
                · exact absurd q hcw.2.2.2.2
                · exact .inl q
                · exact .inr q
              rcases hl with rfl | rfl
              · rw [← e, (Nn _ hm1).1]; exact (zn _ hm1).1
              · rw [← e, (Nn _ hm2).1]; exact (zn _ hm2).1
          refine append_at (hsz := by show zs.toArray.size ≤ sizeLine; rw [List.size_toArray, hzl]; exact Nat.le_trans hi hsz) zD fun h₆ hs₆ hD₆ => ?_
          have Dfp : ∀ c ∈ [z, TI, TO, i1, i2, l1, l2], c ≠ s₂.heap.objs.size := fun c hc => (below _ (fplt _ hc)).2
          refine ⟨min xs.size ys.size + 1 - (i + 1), by omega, h₆, tk₅, i + 1, zs ++ [y], _, rfl, hlt, rfl, by rw [List.length_append, List.length_singleton, hzl], W.frame _ _ _ hst₅ fun c hc o e => hs₆.extBut c o (Dfp c hc) e, F₅.change hs₆ hDL hD₀,
            (hoC.ns zC).sameBut hs₆ (Ne.symm hDC), fun q hq => ?_, ?_⟩
          · rcases List.mem_cons.mp hq with rfl | hq
            · exact ⟨hD₆.trans (congrArg some (lst_snoc zs y)), hDL, hD₀⟩
            · exact ⟨hs₆.extBut _ _ (offD q hq) (zn q hq).1, (zn q hq).2⟩
          · rw [show min xs.size ys.size - (i + 1) = j by omega]
            exact R₅
        · obtain rfl : i = min xs.size ys.size := Nat.le_antisymm hi (Nat.not_lt.mp hlt)
          rw [Nat.sub_self] at R'
          refine W.done _ _ _ hst' fun h₂ tk₂ hk₂ => ?_
          have offw : ∀ p ∈ news, p.1 ∉ [z, TO, i1, i2] := fun p hp hm => (hw _ (wrne _ hm)).2.2 p hp rfl
          have nwr : ∀ c, (h₀.get? c).isSome → c ∉ [z, TO, i1, i2] := fun c hs hm => by
            rw [(hw c (wrne c hm)).2.1] at hs; cases hs
          have F₂ : Fr h₀ L h₂ m := ⟨F'.ns.at' fun o e => hk₂ _ o (fun hm => (hw _ (wrne _ hm)).1 rfl) e, fun c o e => hk₂ c o (nwr c (by rw [e]; rfl)) (F'.keep c o e), F'.above⟩
          refine hRR _ _ h₂ tk₂ _ zs F₂ (fun q hq => ?_) offD (hn'.at' fun o e => hk₂ _ o (fun hm => (below _ (fplt _ (wfp _ (wrne _ hm)))).1 rfl) e) hC₀ hD₀ hCL hDL (Ne.symm hDC) offC R'
          refine ⟨hk₂ _ _ ?_ (N' q hq).1, (N' q hq).2⟩
          rcases List.mem_cons.mp hq with rfl | hq
          · exact fun hm => (below _ (fplt _ (wfp _ (wrne _ hm)))).2 rfl
          · exact offw q hq
      · rcases List.mem_cons.mp hp with rfl | hp
        · exact ⟨hacc, hDL, hD₀⟩
        · exact ⟨old _ _ (N p hp).1, (N p hp).2⟩
    exact codeAny_compStart_list (loop _ rfl) (W.self 0 _ _ _ hst₁ (loop _ rfl))
  trivial
theorem zip_block {elt iter : PySem.Expr} {a b : Str} {pa pb tp : Pos} {kk : Nat} {scope : Scope} {cl : List (Str × Addr)} {pos : Pos} {s₂ : Shared} {z TI TO i1 i2 l1 l2 : Addr} {xs ys : Array Value} {news : List (Addr × Obj)}
    {Fin : List Value → Prop} {RR : Value → Addr → Result → Shared → Prop}
    (hh : A.handled = none) (hD : ZipApart z TI TO i1 i2 l1 l2) (st0 : ZSt s₂.heap z TI TO i1 i2 l1 l2 xs ys 0) (hsz : min xs.size ys.size ≤ sizeLine)
    (m1 : LIn news l1 xs) (m2 : LIn news l2 ys)
    (hcell : ∀ y ∈ scope.names, y.2 ≠ .cell) (hkind : scope.kind = .function) (hxa : scope.names.lookup a = some .local) (hxb : scope.names.lookup b = some .local) (hab : ¬ a = b)
    (F : Fr h₀ L s₂.heap m) (N : News h₀ L s₂.heap news) (hw : ∀ c ∈ [z, TI, TO, i1, i2], L ≠ c ∧ h₀.get? c = none ∧ ∀ p ∈ news, p.1 ≠ c)
    (R : ZRest prog w A h₀ L m env elt a b scope cl s₂ xs ys news Fin (min xs.size ys.size) 0 [])
    (hRR : ∀ D C h tk m' zs, Fr h₀ L h m → News h₀ L h ((D, lst zs) :: news) → (∀ p ∈ news, p.1 ≠ D) → h.Ns C m' → h₀.get? C = none → h₀.get? D = none → C ≠ L → D ≠ L → C ≠ D → (∀ p ∈ news, p.1 ≠ C) → Fin zs → RR (.ref D) C (.ok .next) { s₂ with heap := h, toks := tk }) :
    wpAny (model prog w) A (newList []) (fun acc s₃ => wpAny (model prog w) A (newFunctionEnv scope env.globals cl [] env.qual none .none (some env)) (fun cenv s₄ =>
      codeAny (model prog w) A (.compStart (.ListComp elt [⟨.Tuple [.Name a pa, .Name b pb] kk tp, iter, [], 0⟩] scope pos) 0 (.ref z) acc { cenv with scope := relabel scope env }) (RR acc cenv.locals) s₄) E s₃) E s₂ := (by exact whole_of _ : Whole by_lay)
/-- a zip of two lists of the ledger is drawn from -/
noncomputable def ZSrc (prog : Program) (w : World) (A : Around) (h₀ : Heap) (L : Addr) (m : Str → Option Value) (env : Env) (elt : PySem.Expr) (xa xb : Str) (scope : Scope) (cl : List (Str × Addr)) (Fin : Shared → List Value → List (Addr × Obj) → Prop) (zv : Value) (s₁ : Shared) : Prop :=
  ∃ z TI TO i1 i2 l1 l2 xs ys news, zv = .ref z ∧ A.handled = none ∧ ZipApart z TI TO i1 i2 l1 l2 ∧ ZSt s₁.heap z TI TO i1 i2 l1 l2 xs ys 0 ∧ min xs.size ys.size ≤ sizeLine ∧ LIn news l1 xs ∧ LIn news l2 ys ∧ Fr h₀ L s₁.heap m ∧ News h₀ L s₁.heap news ∧
    (∀ c ∈ [z, TI, TO, i1, i2], L ≠ c ∧ h₀.get? c = none ∧ ∀ p ∈ news, p.1 ≠ c) ∧ ZRest prog w A h₀ L m env elt xa xb scope cl s₁ xs ys news (fun zs => Fin s₁ zs news) (min xs.size ys.size) 0 []
theorem zip_comp {elt iter : PySem.Expr} {a b : Str} {pa pb tp : Pos} {kk : Nat} {scope : Scope} {cl : List (Str × Addr)} {pos : Pos} {Q : Value → Shared → Prop} (_F₀ : Fr h₀ L s.heap m)
    (hclos : closureFor scope env = pure cl) (hcell : ∀ y ∈ scope.names, y.2 ≠ .cell) (hkind : scope.kind = .function)
    (hnames : ∀ y ∈ scope.names, y.2 = .local → scope.names.lookup y.1 = some .local) (hxa : scope.names.lookup a = some .local) (hxb : scope.names.lookup b = some .local) (hab : ¬ a = b)
    (h : wpAny (model prog w) A (eval iter env) (ZSrc prog w A h₀ L m env elt a b scope cl (fun s₂ => FinE h₀ L m s₂ Q)) E s)
    (hs : ∀ x, foldedSetIterable iter env x = pure x := by intro _; rfl) :
    wpAny (model prog w) A (eval (.ListComp elt [⟨.Tuple [.Name a pa, .Name b pb] kk tp, iter, [], 0⟩] scope pos) env) Q E s := by
  rw [eval_ListComp]
  refine wpAny_comprehension_free (use := none) rfl hs hclos hkind hnames (wpAny_mono h (fun xv s₁ h₁ => ?_) fun _ _ e => e)
  obtain ⟨z, TI, TO, i1, i2, l1, l2, xs, ys, news, rfl, hh, hD, hst, hsz, m1, m2, F, N, hw, R⟩ := h₁
  refine (WalksT.zip2 (prog := prog) (w := w) hh z TI TO i1 i2 l1 l2 hD xs ys).self 0 _ _ _ hst ?_
  refine zip_block hh hD hst hsz m1 m2 hcell hkind hxa hxb hab F N hw R ?_
  intro D C h tk m' zs F' N' offD hn hC₀ hD₀ hCL hDL hCD offC fin
  refine ⟨m', hn, fun h'' hs'' => fin D h'' tk (F'.change hs'' hCL hC₀) (fun p hp => ?_) ?_⟩
  · refine ⟨hs''.extBut _ _ ?_ (N' p hp).1, (N' p hp).2⟩
    rcases List.mem_cons.mp hp with rfl | hp
    · exact Ne.symm hCD
    · exact offC p hp
  · have go : ∀ l : List (Addr × Obj), (∀ p ∈ l, p.1 ≠ D) → Off1 D l := fun l => by
      induction l with
      | nil => exact fun _ => trivial
      | cons p l ih => exact fun h => ⟨h p (.head _), ih fun q hq => h q (.tail _ hq)⟩
    exact go news offD
theorem zip_src {elt : PySem.Expr} {xa xb : Str} {scope : Scope} {cl : List (Str × Addr)} {Fin : Shared → List Value → List (Addr × Obj) → Prop} {l1 l2 : Addr} {xs ys : Array Value} {n1 n2 : Nat} {news : List (Addr × Obj)}
    (hh : A.handled = none) (F : Fr h₀ L s.heap m) (N : News h₀ L s.heap news) (m1 : (l1, ({ cls := .type "list", data := .seq xs n1 } : Obj)) ∈ news) (m2 : (l2, ({ cls := .type "list", data := .seq ys n2 } : Obj)) ∈ news) (hsz : min xs.size ys.size ≤ sizeLine)
    (h : ∀ g, ZRest prog w A h₀ L m env elt xa xb scope cl { s with heap := g } xs ys news (fun zs => Fin { s with heap := g } zs news) (min xs.size ys.size) 0 []) :
    wpAny (model prog w) A (call (.type "zip") [.ref l1, .ref l2]) (ZSrc prog w A h₀ L m env elt xa xb scope cl Fin) E s := by
  have hl1 : s.heap.IsList l1 xs := ⟨_, (N _ m1).1, rfl, _, rfl⟩
  have hl2 : s.heap.IsList l2 ys := ⟨_, (N _ m2).1, rfl, _, rfl⟩
  have a1 : l1 < s.heap.objs.size := Heap.lt_size (N _ m1).1
  have a2 : l2 < s.heap.objs.size := Heap.lt_size (N _ m2).1
  refine call_zip_2 hl1 hl2 fun h' hz hTI hTO hi1 hi2 hsize hk => ?_
  have new : ∀ c, s.heap.objs.size ≤ c → L ≠ c ∧ h₀.get? c = none ∧ ∀ p ∈ news, p.1 ≠ c := fun c hc => by
    have hL : L < c := Nat.lt_of_lt_of_le F.ns.lt hc
    refine ⟨Nat.ne_of_lt hL, ?_, fun p hp => Nat.ne_of_lt (Nat.lt_of_lt_of_le (Heap.lt_size (N p hp).1) hc)⟩
    cases e : h₀.get? c with
    | none => rfl
    | some o => exact absurd (Heap.lt_size (F.keep _ _ e)) (Nat.not_lt.mpr hc)
  refine ⟨_, _, _, _, _, l1, l2, xs, ys, news, rfl, hh, zipApart_new a1 a2, ⟨hz, hTI, ⟨_, _, hTO⟩, hi1, hi2, Heap.IsList.at hl1 (fun o e => hk _ o e), Heap.IsList.at hl2 (fun o e => hk _ o e)⟩, hsz, ⟨_, m1⟩, ⟨_, m2⟩, F.keeps hk, N.grown hk, ?_, h h'⟩
  intro c hc
  simp only [List.mem_cons, List.not_mem_nil, or_false] at hc
  rcases hc with rfl | rfl | rfl | rfl | rfl
  · exact new _ (Nat.le_add_right _ 4)
  · exact new _ (Nat.le_add_right _ 2)
  · exact new _ (Nat.le_add_right _ 3)
  · exact new _ (Nat.le_refl _)
  · exact new _ (Nat.le_add_right _ 1)
end
end
section
-- part C6
open PySem.Calls
set_option Elab.async false
set_option maxRecDepth 100000
section
variable {prog : Program} {w : World} {A A₀ : Around} {s : Shared} {K : Frag} {L : Addr} {h₀ base : Heap} {m mg mb : Str → Option Value} {news : List (Addr × Obj)} {p : Program} {loose : List Str} {mean : ExcName → Option Value}
theorem code_defCG {env : Env} {outer : List Env} {R : Result → Shared → Prop} {name qual : Str} {params : Arguments} {body : List Stmt} {scope : Scope} {dV kV doc pm cdv ct oc : Value} {an od : Option Addr} {osl : Array (Option Value)} {f : Addr} {args : Args} {binds : List (Str × Value)}
    (B : Below A₀ base outer h₀) (F : Fr h₀ L s.heap m) (X₀ : K.In h₀) (N : News h₀ L s.heap news) (T : Top p loose mean mg mb h₀) (hA : A.frames = some (env :: outer)) (hf : env.frame = some L) (hke : env.scope.kind = .function)
    (ho : K.lookup f = some ⟨oc, od, .func (fnOf name qual params body scope dV kV doc pm an cdv ct), osl⟩) (hcd : codeIn K cdv qual = true) (hroom : A.depth < recursionLimit)
    (hbind : BindsTo s (fnOf name qual params body scope dV kV doc pm an cdv ct) args binds) (hkind : (binds.all fun y => scope.names.lookup y.1 == some .local || scope.names.lookup y.1 == some .cell) = true)
    (hnd : ((cellsFrom 0 scope.names []).map (·.1)).Nodup)
    (h : ∀ g L' h₁ tk cells, Fr h₀ L g m → Fr g L' h₁ (bindL (envOfC qual scope L' f cdv).kindOf binds fun _ => none) → News g L' h₁ (cells ++ news) →
      CellsAre (bindC (envOfC qual scope L' f cdv).kindOf binds fun _ => none) (cellsFrom (L' + 1) scope.names []) cells → Below A base (env :: outer) g → K.In g → Top p loose mean mg mb g → (∀ p ∈ news, p.1 < L') → GSub s.heap g (news.map (·.1)) →
      wpAny (model prog w) (A.deeper (envOfC qual scope L' f cdv)) (execs body (envOfC qual scope L' f cdv))
        (fun fl s' => LeaveK h₀ L m g R (match fl with | .ret v => v | _ => .none) s')
        (fun e s' => wpAny (model prog w) (A.deeper (envOfC qual scope L' f cdv)) (leaving (envOfC qual scope L' f cdv) e) (fun _ s'' => R (.error e) s'') (fun e' s'' => R (.error e') s'') s')
        { s with heap := h₁, toks := tk })
    (hco : scope.isCoroutine = false) (hgen : scope.isGenerator = false) (hk : scope.kind = .function) : codeAny (model prog w) A (.call (.ref f) args) R s := by
  obtain ⟨FG, BG, st, lv⟩ := groundX (R := R) B F N hA hf hke
  have hlim : s.heap.NoLimit := T.nolimit.keeps F.keep
  have ho' := (X₀.keeps F.keep) _ _ ho
  have hcd' := codeRec_of (X₀.keeps F.keep) hcd
  refine codeAny_call_function hroom ho' (fd := fnX name qual params body scope [] dV kV doc pm an cdv ct) rfl hco hgen rfl hcd' (hbind _ _ _ _ ?_)
  refine wpAny_newFunctionEnv_cells hk (kindsX hkind _) fun env' he s' x => ?_
  subst he
  refine ⟨hlim.keeps x.toInCall.keep, codeAny_func ?_⟩
  obtain ⟨h₁, tk, rfl, _⟩ := x.done
  have hk₁ := x.toInCall.keep
  obtain ⟨cells, NC, Y⟩ := Cl.news (h₀ := s.heap) (Nat.le_refl _) fun n c hm => ⟨x.cell n c (lookup_of_mem_nodup (cellsFrom_names scope.names 0 (s.heap.objs.size + 1) [] [] rfl ▸ hnd) hm), x.above n c hm⟩
  refine wpAny_mono (h _ s.heap.objs.size h₁ tk cells FG ⟨x.toInCall.ns, fun b o e => hk₁ b o (of_hideAll _ e), Nat.le_of_eq (hideAll_size _ _)⟩ (fun p hp => ?_) Y BG (X₀.keeps st) (T.keeps st) (fun p hp => Heap.lt_size (N p hp).1) (fun b o e n => hideAll_get _ e n)) (fun fl s' hl => lv _ _ hl) fun _ _ y => y
  rcases List.mem_append.mp hp with hp | hp
  · refine ⟨(NC p hp).1, (NC p hp).2.1, ?_⟩
    cases q : (hideAll s.heap (news.map (·.1))).get? p.1 with
    | none => rfl
    | some o => have := of_hideAll _ q; rw [(NC p hp).2.2] at this; cases this
  · exact ⟨hk₁ _ _ (N p hp).1, Nat.ne_of_lt (Heap.lt_size (N p hp).1), hideAll_none _ (List.mem_map_of_mem hp)⟩
end
end
section
-- part C7

set_option Elab.async false
set_option maxRecDepth 100000
theorem itemC {x : Str} {k : Int} (h0 : 0 ≤ k) (h1 : k < (x.length : Int)) : Txt.item x k = ⟨#[x.cps.toList.getD k.toNat 0]⟩ := by
  have hl := len_toList x
  have e : PySem.seqIndex? k x.length = some k.toNat := by
    unfold PySem.seqIndex?
    have : ¬ k < 0 := by omega
    simp only [this, if_false]
    rw [if_pos]
    simp only [Bool.and_eq_true, decide_eq_true_eq]
    omega
  unfold Txt.item Txt.charAt
  rw [e]
  have hk : k.toNat < x.cps.size := by
    have : x.cps.size = x.cps.toList.length := by simp
    omega
  simp [hk]
section
variable {prog : Program} {w : World} {A : Around} {E : Value → Shared → Prop} {s : Shared} {Q : Value → Shared → Prop} {x : Str} {t u : Tok}
theorem in_at {b : Bool} {k : Int} (h0 : 0 ≤ k) (h1 : k < (x.length : Int)) (hb : pun (x.cps.toList.getD k.toNat 0) = b) (h : Q (.bool b) s) : wpAny (model prog w) A (compareOp .In (.str (Txt.item x k) u) (.str (Str.ofString "rwxst") t)) Q E s := by
  rw [itemC h0 h1]
  refine in_one (pun_rwxst _) ?_
  rw [hb]; exact h
end
/-- where a row's signs are cut -/
noncomputable def cutAt (l : List Nat) (k : Nat) : Bool := decide (k = 0) || (pun (l.getD k 0) != pun (l.getD (k - 1) 0))
noncomputable def cutsOf (l : List Nat) (n : Nat) : List Int := ((List.range n).filter (cutAt l)).map Int.ofNat
theorem cuts_yes {l : List Nat} {i : Nat} (h : cutAt l i = true) : cutsOf l (i + 1) = cutsOf l i ++ [(i : Int)] := by
  unfold cutsOf
  rw [List.range_succ, List.filter_append, List.filter_cons_of_pos h, List.map_append]
  rfl
theorem cuts_no {l : List Nat} {i : Nat} (h : cutAt l i = false) : cutsOf l (i + 1) = cutsOf l i := by
  unfold cutsOf
  rw [List.range_succ, List.filter_append, List.filter_cons_of_neg (by rw [h]; decide)]
  simp
theorem cuts_le (l : List Nat) (n : Nat) : (cutsOf l n).length ≤ n := by
  unfold cutsOf
  rw [List.length_map]
  exact Nat.le_trans (List.length_filter_le _ _) (by simp)
section
variable {prog : Program} {w : World} {A : Around} {h₀ : Heap} {L : Addr} {m : Str → Option Value} {env : Env} {elt : PySem.Expr} {xa xb : Str} {scope : Scope} {cl : List (Str × Addr)} {s : Shared} {xs ys : Array Value} {news : List (Addr × Obj)} {Fin : List Value → Prop}
theorem zrest_ind (n : Nat) (I : Nat → List Value → Prop) (fin : ∀ zs, I n zs → Fin zs)
    (turn : ∀ k i zs, k + 1 + i = n → I i zs → (∀ zs', I (i + 1) zs' → ZRest prog w A h₀ L m env elt xa xb scope cl s xs ys news Fin k (i + 1) zs') → ZRest prog w A h₀ L m env elt xa xb scope cl s xs ys news Fin (k + 1) i zs) :
    ∀ k i zs, k + i = n → I i zs → ZRest prog w A h₀ L m env elt xa xb scope cl s xs ys news Fin k i zs
  | 0, i, zs, h, hI => by
    obtain rfl : i = n := by omega
    exact fin zs hI
  | k + 1, i, zs, h, hI => turn k i zs h hI fun zs' hI' => zrest_ind n I fin turn k (i + 1) zs' (by omega) hI'
end
theorem ints_at : ∀ {vs : List Value} {ns : List Int} {i : Nat} {v : Value}, IntsAre vs ns → vs.toArray[i]? = some v → ∃ y t, ns[i]? = some y ∧ v = .int y t
  | _, _, i, v, .nil, h => by simp at h
  | _, _, 0, v, .cons x u r, h => by
    have : Value.int x u = v := by simpa using h
    exact ⟨x, u, rfl, this.symm⟩
  | _, _, i + 1, v, .cons x u r, h => by
    have : _ := ints_at (i := i) (v := v) r (by simpa using h)
    simpa using this
theorem ints_len : ∀ {vs : List Value} {ns : List Int}, IntsAre vs ns → vs.length = ns.length
  | _, _, .nil => rfl
  | _, _, .cons x u r => by rw [List.length_cons, List.length_cons, ints_len r]
theorem zip_src5 {prog : Program} {w : World} {A : Around} {E : Value → Shared → Prop} {s : Shared} {h₀ : Heap} {L : Addr} {m : Str → Option Value} {env : Env} {elt : PySem.Expr} {xa xb : Str} {scope : Scope} {cl : List (Str × Addr)} {Fin : Shared → List Value → List (Addr × Obj) → Prop} {l1 l2 : Addr} {xs ys : List Value} {n2 : Nat} {p1 p2 c : Addr × Obj}
    (hh : A.handled = none) (F : Fr h₀ L s.heap m) (N : News h₀ L s.heap [(l2, listOf ys.toArray n2), p1, p2, (l1, LCg.lst xs), c]) (hsz : xs.length ≤ 9)
    (h : ∀ g, ZRest prog w A h₀ L m env elt xa xb scope cl { s with heap := g } xs.toArray ys.toArray [c, (l1, LCg.lst xs), (l2, listOf ys.toArray n2)] (fun zs => Fin { s with heap := g } zs [c, (l1, LCg.lst xs), (l2, listOf ys.toArray n2)]) (min xs.toArray.size ys.toArray.size) 0 []) :
    wpAny (model prog w) A (call (.type "zip") [.ref l1, .ref l2]) (ZSrc prog w A h₀ L m env elt xa xb scope cl Fin) E s := by
  refine zip_src (news := [c, (l1, LCg.lst xs), (l2, listOf ys.toArray n2)]) hh F (fun p hp => N p ?_) (.tail _ (.head _)) (.tail _ (.tail _ (.head _))) ?_ h
  · simp only [List.mem_cons, List.not_mem_nil, or_false] at hp ⊢
    rcases hp with rfl | rfl | rfl <;> simp
  · rw [List.size_toArray, sizeLine_eq]; omega
/-- the pieces between the cuts -/
noncomputable def piecesOf (x : Str) (n : Nat) : List Str := ((cutsOf x.cps.toList n).zip ((cutsOf x.cps.toList n).drop 1 ++ [(n : Int)])).map fun p => Txt.slice x (some p.1) (some p.2)
end
section
-- part T1

set_option Elab.async false
set_option maxRecDepth 100000
set_option maxHeartbeats 8000000
theorem fresh_T1 : True := by
  w_top off
  k_with_none
  k_with "small" => first | exact Int.toNat_natCast _ | with_reducible exact Nat.mod_lt _ (by decide) | with_reducible exact fm2_lt _ | with_reducible exact fm2_ge _ | with_reducible exact fm4_lt _ _ | with_reducible exact fm4_ge _ _ | with_reducible exact em_lt _ | with_reducible exact em_gt _ | with_reducible exact nat_gt _ | with_reducible exact Int.natCast_nonneg _ | with_reducible exact nat_gt1 _ | with_reducible exact room2 (by assumption) (by decide) | with_reducible exact room1 (by assumption) (by decide) | with_reducible exact room3 (by assumption) (by decide) | with_reducible exact room4 (by assumption) (by decide) | with_reducible exact room0 (by assumption) | with_reducible exact le_le (by assumption) (by decide) | with_reducible exact le_eq (by assumption) (by decide) | with_reducible exact lt_le (by assumption) (by decide) | with_reducible exact sub_one (by assumption) | with_reducible exact sub_j (by assumption) | with_reducible exact sub_dec (by assumption) | with_reducible exact toNat_pred _ | with_reducible exact nat_ge _
  k_with "ne" => first | with_reducible exact Apart.l (by assumption) | with_reducible exact Apart.r (by assumption) | with_reducible exact gt1 (by assumption) | with_reducible exact lt1 (by assumption) | with_reducible exact gt2 (by assumption) | with_reducible exact lt2 (by assumption) | with_reducible exact gl2 (by assumption) | with_reducible exact ll2 (by assumption) | with_reducible exact gt3 (by assumption) | with_reducible exact lt3 (by assumption) | with_reducible exact gl3 (by assumption) | with_reducible exact ll3 (by assumption) | with_reducible exact gt4 (by assumption) | with_reducible exact gl4 (by assumption) | with_reducible exact ll4 (by assumption) | with_reducible exact gl5 (by assumption) | with_reducible exact gl6 (by assumption) | with_reducible exact gl7 (by assumption) | with_reducible exact gl8 (by assumption) | with_reducible exact gl9 (by assumption) | with_reducible exact gl10 (by assumption) | with_reducible exact gl11 (by assumption)
  k_with "k_room" => ((try simp only [depth_under_make, depth_under_kw, depth_in1, depth_deeper, depth_caller]); first | decide | ktr_room)
  k_with "cell_enter" => (refine' code_defG (by k_asm) (by k_asm) (by k_asm) (by k_asm) (by k_asm) rfl rfl (by assumption) (by k_is) (by k_is) (by ktr_room) (by first | exact BindsTo.of_eq rfl | exact binds_K (by k_in) rfl (by k_is) rfl rfl rfl) (by exact locs rfl) ?_ (by exact rfl) (by exact rfl) (by exact rfl) (by decide); k_whole; intro g' L' h' FG' F' N' B' X' T' GS'; (try dsimp only); (try k_lift B'); (try k_fold))
  k_with "exec If" => (k_here; dsimp only)
  k_with "execs cons" => (k_here; dsimp only)
  k_with "isTrue" => (k_here; dsimp only)
  k_with "exec Assign" => (k_here; dsimp only)
  k_with "exec Expr" => (k_here; dsimp only)
  k_with "eval Attribute" => (k_here; dsimp only)
  k_with "execs nil" => (k_here; dsimp only)
  k_with "execs cons" => (k_here; (try dsimp only); (with_reducible refine toks_gen ?_); intro tk')
  k_with "execs nil" => (k_here; (try dsimp only); (with_reducible refine toks_gen ?_); intro tk')
  k_with "eval BinOp" => (k_here; (try dsimp only); ((with_reducible refine toks_gen ?_); intro _))
  k_with "eval Subscript" => (k_here; (try dsimp only); ((with_reducible refine toks_gen ?_); intro _))
  k_with "eval Constant int" => (k_here; (try dsimp only); ((with_reducible refine toks_gen ?_); intro _))
  trivial

theorem lay_T1_4 : True := by
  k_with "eval ListComp" => (k_here; k_dflt (refine LCt.ListComp_T (F₀ := by k_asm) (by with_unfolding_all rfl) (by decide) (by rfl) (by decide) (by rfl) ?_))
  k_with "CompSrcT" => (refine hold_out ?_)
  k_with "compareOp In str str" => refine in_head (by assumption) (by assumption) ?_
  k_with "CompEnd" => (refine hold_out ?_)
  k_with "subscriptTail" => (k_here; (show wpAny _ _ (subscriptTail _ _ (Value.ref _) (Value.int (-1) _)) _ _ _); k_dflt (refine' last_item (by exact Heap.IsList.at (by assumption) (fun o e => Fr.keep (by k_asm) _ _ e)) (by assumption) (by assumption) ?_; k_whole))
  trivial
theorem now_c_turned : True := by
  k_with "now" =>
    unfold ClaimP
    k_fill
    intro dp un gd cn cs a ccd cl outer A₀ base h₀ L m s Q E hB hF hX hN hT hcs hdp hun hpre hret
    k_lift hB
    refine wpAny_call ?_
    k_dflt (refine' code_defG ?k1 ?k2 ?k3 ?k4 ?k5 ?kA ?kF ?kK ?k6 ?k7 ?k8 ?k9 ?kB ?_ ?c2 ?c3 ?c4 ?c5; (case kA => exact rfl); (case kF => exact rfl); (case kK => assumption); (case k1 => k_asm); (case k2 => k_asm); (case k3 => k_asm); (case k4 => k_asm); (case k5 => k_asm); (case k6 => k_is); (case k7 => k_is); (case k8 => ktr_room); (case k9 => first | exact BindsTo.of_eq rfl | exact binds_K (by k_in) rfl (by k_is) rfl rfl rfl); (case c5 => decide); (case kB => exact locs rfl); (case c2 => exact rfl); (case c3 => exact rfl); (case c4 => exact rfl); k_whole)
    intro g' L' h1 FG' F1 N1 B' X' T' GS'
    replace F1 := fr_clean [(Str.ofString "up", Value.int up tu), (Str.ofString "runs", Value.ref r), (Str.ofString "mode", Value.int mode t)] F1 (by rfl)
    (try dsimp only)
    k_lift B'
    (try k_fold)
    have hl0 : g'.IsList r vs.toArray := let ⟨o, ho, hr⟩ := hpre; ⟨o, GS' _ _ ho (fun h => nomatch h), hr⟩
    k_steps
    refine hold_in (LCt.CompSrcT.base (by rfl) (by k_asm) (by k_asm) hl0 (by rw [List.size_toArray, sizeLine_eq]; omega) ?_)
    intro gH
    have hvl := strs_len hy
    refine restT_ind vs.toArray.size (fun i acc news => news = [] ∧ IntsAre acc (((ys.take i).filter headPun).map fun (y : Str) => ((y.length : Nat) : Int)) ∧ i ≤ ys.length) ?fin ?turn _ 0 [] [] rfl ⟨rfl, .nil, Nat.zero_le _⟩
    case turn =>
      rintro k i acc news hk ⟨rfl, hacc, hi⟩ IH
      refine LCt.CompRestT.succ ?_
      intro v1 I1 oI1 C1 oC1 D1 m1 h9 tk9 E9 hv1 hC1 hx1 F9 N9 off9 ne9
      obtain ⟨y, ty, hyi, rfl⟩ := strs_at hy hv1
      have hym : y ∈ ys := List.mem_of_getElem? hyi
      obtain ⟨hyn0, hyn9⟩ := hyn y hym
      have hyl : y.length = y.cps.toList.length := len_toList y
      obtain ⟨c, r', hyc⟩ := List.exists_cons_of_ne_nil hyn0
      have hpos : 0 < y.length := by rw [hyl, hyc]; exact Nat.succ_pos _
      cases hb : headPun y with
      | false =>
        k_steps
        refine hold_in (LCg.CompEnd.intro F9 N9 [] (fun _ h => h) trivial (.inl hl0) (IH _ _ ⟨rfl, ?_, ?_⟩))
        · rw [List.take_add_one, hyi, Option.toList_some, List.filter_append, List.filter_cons_of_neg (by simp [hb])]
          simpa using hacc
        · have := (List.getElem?_eq_some_iff.mp hyi).1; omega
      | true =>
        k_steps
        refine hold_in (LCg.CompEnd.intro F9 N9 [] (fun _ h => h) trivial (.inl hl0) (IH _ _ ⟨rfl, ?_, ?_⟩))
        · rw [List.take_add_one, hyi, Option.toList_some, List.filter_append, List.filter_cons_of_pos hb, List.map_append]
          exact ints_snoc hacc
        · have := (List.getElem?_eq_some_iff.mp hyi).1; omega
    case fin =>
      rintro acc news ⟨rfl, hacc, hi⟩
      rw [List.take_of_length_le (by rw [List.size_toArray]; omega)] at hacc
      obtain ⟨y, ty, hyl, hvl9⟩ := strs_last hy hne
      have hym : y ∈ ys := List.mem_of_getLast? hyl
      obtain ⟨hyn0, hyn9⟩ := hyn y hym
      have hyq : y.length = y.cps.toList.length := len_toList y
      obtain ⟨c, r', hyc⟩ := List.exists_cons_of_ne_nil hyn0
      have hpos : 0 < y.length := by rw [hyq, hyc]; exact Nat.succ_pos _
      have hz : vs.length ≤ 100 := by omega
      have hB9 : behindOf ys = if headPun y then 0 else y.length := by simp only [behindOf, hyl]
      have hR9 : (((ys.filter headPun).map fun (y : Str) => ((y.length : Nat) : Int)).sum) = ((rightsOf ys : Nat) : Int) := by
        unfold rightsOf
        induction ys.filter headPun with
        | nil => rfl
        | cons a l ih => rw [List.map_cons, List.sum_cons, ih, List.map_cons, List.sum_cons]; push_cast; rfl
      cases hb : headPun y with
      | false =>
        rw [hb] at hB9
        simp only [Bool.false_eq_true, if_false] at hB9
        k_steps
        all_goals (rename Fr h₀ _ _ _ => kF9)
        all_goals (rename Fr g' L' _ _ => kF8)
        all_goals (refine hret _ _ _ _ ⟨_, congrArg (fun z => Value.int z _) ?_, rfl⟩ kF9 (fun _ h => nomatch h) (gsub_keep GS' kF8))
        all_goals (rw [turnedOf, hB9, ← hR9]; (try dsimp only))
        all_goals (first | rw [if_pos (show _ = up by assumption)] | rw [if_neg (show ¬ _ = up by assumption)])
        all_goals (first | (rw [if_pos (by omega)]; done) | (rw [if_neg (by omega)]; done) | (rw [if_neg (by omega)]; rfl) | skip)
      | true =>
        rw [hb] at hB9
        simp only [if_true] at hB9
        k_steps
        all_goals (rename Fr h₀ _ _ _ => kF9)
        all_goals (rename Fr g' L' _ _ => kF8)
        all_goals (refine hret _ _ _ _ ⟨_, congrArg (fun z => Value.int z _) ?_, rfl⟩ kF9 (fun _ h => nomatch h) (gsub_keep GS' kF8))
        all_goals (rw [turnedOf, hB9, ← hR9]; (try dsimp only))
        all_goals (first | rw [if_pos (show _ = up by assumption)] | rw [if_neg (show ¬ _ = up by assumption)])
        all_goals (first | (rw [if_pos (by omega)]; done) | (rw [if_neg (by omega)]; done) | (rw [if_neg (by omega)]; rfl) | skip)
  trivial
theorem c_turned (w : World) (LO : List Str) (mean : ExcName → Option Value) (mg mb : Str → Option Value) (mode up : Int) (t tu : Tok) (r : Nat) (vs : List Value) (ys : List Str) (hy : StrsAre vs ys) (h9 : vs.length ≤ 9) (hne : ys ≠ []) (hyn : ∀ y ∈ ys, y.cps.toList ≠ [] ∧ y.length ≤ 9) (h0 : 0 ≤ mode) (h1 : mode < 65536) :
   ClaimP w LO mean mg mb 6 60 932 [.int mode t, .ref r, .int up tu] [] (fun H => H.IsList r vs.toArray) [] (fun v small' => ∃ u, v = .int (turnedOf mode ys up) u ∧ small' = []) := (by exact whole_of _ : Whole by_lay)
end
section
-- part T2

set_option Elab.async false
set_option maxRecDepth 100000
set_option maxHeartbeats 8000000
theorem fresh_T2 : True := by
  w_top off
  k_with_none
  k_with "small" => first | exact Int.toNat_natCast _ | with_reducible exact Nat.mod_lt _ (by decide) | with_reducible exact fm2_lt _ | with_reducible exact fm2_ge _ | with_reducible exact fm4_lt _ _ | with_reducible exact fm4_ge _ _ | with_reducible exact em_lt _ | with_reducible exact em_gt _ | with_reducible exact nat_gt _ | with_reducible exact Int.natCast_nonneg _ | with_reducible exact nat_gt1 _ | with_reducible exact room2 (by assumption) (by decide) | with_reducible exact room1 (by assumption) (by decide) | with_reducible exact room3 (by assumption) (by decide) | with_reducible exact room4 (by assumption) (by decide) | with_reducible exact room0 (by assumption) | with_reducible exact le_le (by assumption) (by decide) | with_reducible exact le_eq (by assumption) (by decide) | with_reducible exact lt_le (by assumption) (by decide) | with_reducible exact sub_one (by assumption) | with_reducible exact sub_j (by assumption) | with_reducible exact sub_dec (by assumption) | with_reducible exact toNat_pred _ | with_reducible exact nat_ge _
  k_with "ne" => first | with_reducible exact Apart.l (by assumption) | with_reducible exact Apart.r (by assumption) | with_reducible exact gt1 (by assumption) | with_reducible exact lt1 (by assumption) | with_reducible exact gt2 (by assumption) | with_reducible exact lt2 (by assumption) | with_reducible exact gl2 (by assumption) | with_reducible exact ll2 (by assumption) | with_reducible exact gt3 (by assumption) | with_reducible exact lt3 (by assumption) | with_reducible exact gl3 (by assumption) | with_reducible exact ll3 (by assumption) | with_reducible exact gt4 (by assumption) | with_reducible exact gl4 (by assumption) | with_reducible exact ll4 (by assumption) | with_reducible exact gl5 (by assumption) | with_reducible exact gl6 (by assumption) | with_reducible exact gl7 (by assumption) | with_reducible exact gl8 (by assumption) | with_reducible exact gl9 (by assumption) | with_reducible exact gl10 (by assumption) | with_reducible exact gl11 (by assumption)
  k_with "k_room" => ((try simp only [depth_under_make, depth_under_kw, depth_in1, depth_deeper, depth_caller]); first | decide | ktr_room)
  k_with "cell_enter" => (refine' code_defG (by k_asm) (by k_asm) (by k_asm) (by k_asm) (by k_asm) rfl rfl (by assumption) (by k_is) (by k_is) (by ktr_room) (by first | exact BindsTo.of_eq rfl | exact binds_K (by k_in) rfl (by k_is) rfl rfl rfl) (by exact locs rfl) ?_ (by exact rfl) (by exact rfl) (by exact rfl) (by decide); k_whole; intro g' L' h' FG' F' N' B' X' T' GS'; (try dsimp only); (try k_lift B'); (try k_fold))
  k_with "exec If" => (k_here; dsimp only)
  k_with "execs cons" => (k_here; dsimp only)
  k_with "isTrue" => (k_here; dsimp only)
  k_with "exec Assign" => (k_here; dsimp only)
  k_with "exec Expr" => (k_here; dsimp only)
  k_with "eval Attribute" => (k_here; dsimp only)
  k_with "execs nil" => (k_here; dsimp only)
  k_with "execs cons" => (k_here; (try dsimp only); (with_reducible refine toks_gen ?_); intro tk')
  k_with "execs nil" => (k_here; (try dsimp only); (with_reducible refine toks_gen ?_); intro tk')
  k_with "eval BinOp" => (k_here; (try dsimp only); ((with_reducible refine toks_gen ?_); intro _))
  k_with "eval Subscript" => (k_here; (try dsimp only); ((with_reducible refine toks_gen ?_); intro _))
  k_with "eval Constant int" => (k_here; (try dsimp only); ((with_reducible refine toks_gen ?_); intro _))
  trivial

noncomputable def cnt0 (rights : Int) : Int := (List.foldl (fun (σ : Int × Unit) (k : Int) => (Builtin.bitXor σ.fst (rights.fdiv (2 ^ k.toNat)), ())) (0, ()) (rangeInts 0 1 (9 - 0 : Int).toNat)).fst
noncomputable def stepC (c up : Int) : Int := if up = 1 then (if c + 1 < 511 then c + 1 else 511) else (if c - 1 > 0 then c - 1 else 0)
noncomputable def grayI (c : Int) : Int := Builtin.bitXor c (c.fdiv 2)
noncomputable def setsF : Int → List Int → List Int
  | _, [] => []
  | c, u :: us => grayI (stepC c u) :: setsF (stepC c u) us
theorem fold_sets : ∀ (ups : List Int) (c : Int) (acc : List Int), (List.foldl
        (fun (p : Int × List Int) (k : Int) =>
          (if k = 1 then if p.fst + 1 < 511 then p.fst + 1 else 511 else if p.fst - 1 > 0 then p.fst - 1 else 0,
            if k = 1 then
              p.snd ++
                [Builtin.bitXor (if p.fst + 1 < 511 then p.fst + 1 else 511)
                    ((if p.fst + 1 < 511 then p.fst + 1 else 511).fdiv 2)]
            else
              p.snd ++
                [Builtin.bitXor (if p.fst - 1 > 0 then p.fst - 1 else 0)
                    ((if p.fst - 1 > 0 then p.fst - 1 else 0).fdiv 2)])) (c, acc) ups).snd = acc ++ setsF c ups
  | [], c, acc => by simp [setsF]
  | u :: us, c, acc => by
    rw [List.foldl_cons, fold_sets us, setsF]
    by_cases h : u = 1
    · simp [h, stepC, grayI]
    · simp [h, stepC, grayI]
theorem now_c_sets : True := by
  k_with "now" =>
    unfold ClaimN
    k_fill
    intro dp un gd cn cs a ccd cl outer A₀ base h₀ L m s Q E hB hF hX hN hT hcs hdp hun hpre hret
    k_lift hB
    refine wpAny_call ?_
    k_dflt (refine' code_defG ?k1 ?k2 ?k3 ?k4 ?k5 ?kA ?kF ?kK ?k6 ?k7 ?k8 ?k9 ?kB ?_ ?c2 ?c3 ?c4 ?c5; (case kA => exact rfl); (case kF => exact rfl); (case kK => assumption); (case k1 => k_asm); (case k2 => k_asm); (case k3 => k_asm); (case k4 => k_asm); (case k5 => k_asm); (case k6 => k_is); (case k7 => k_is); (case k8 => ktr_room); (case k9 => first | exact BindsTo.of_eq rfl | exact binds_K (by k_in) rfl (by k_is) rfl rfl rfl); (case c5 => decide); (case kB => exact locs rfl); (case c2 => exact rfl); (case c3 => exact rfl); (case c4 => exact rfl); k_whole)
    intro g' L' h1 FG' F1 N1 B' X' T' GS'
    replace F1 := fr_clean [(Str.ofString "ups", Value.ref r), (Str.ofString "rights", Value.int rights t)] F1 (by rfl)
    (try dsimp only)
    k_lift B'
    (try k_fold)
    have hl0 : g'.IsList r vs.toArray := let ⟨o, ho, hr⟩ := hpre; ⟨o, GS' _ _ ho (fun h => nomatch h), hr⟩
    k_steps
    rename IntsAre _ _ => hI9
    rw [fold_sets] at hI9
    rename Fr h₀ _ _ _ => kF9
    rename News h₀ _ _ _ => kN9
    rename Fr g' L' _ _ => kF8
    rename News g' L' _ _ => kN8
    exact hret _ _ _ _ ⟨_, _, _, rfl, rfl, hI9⟩ kF9 kN9 (gsub_keep GS' kF8) (fresh_g GS' kN8)
  trivial
theorem c_sets (w : World) (LO : List Str) (mean : ExcName → Option Value) (mg mb : Str → Option Value) (rights : Int) (t : Tok) (r : Nat) (vs : List Value) (ups : List Int) (hy : IntsAre vs ups) (h9 : vs.length ≤ 9) (h0 : 0 ≤ rights) (h1 : rights < 512) :
   ClaimN w LO mean mg mb 6 60 946 [.int rights t, .ref r] [] (fun H => H.IsList r vs.toArray) [] (fun v small' => ∃ D ws n', v = .ref D ∧ small' = [(D, listOf ws.toArray n')] ∧ IntsAre ws (rights :: setsF (cnt0 rights) ups)) := (by exact whole_of _ : Whole by_lay)
end
section
-- part W1

set_option Elab.async false
set_option maxRecDepth 100000
set_option maxHeartbeats 8000000
theorem fresh_W1 : True := by
  w_top off
  k_with_none
  k_with "small" => first | exact Int.toNat_natCast _ | with_reducible exact Nat.mod_lt _ (by decide) | with_reducible exact fm2_lt _ | with_reducible exact fm2_ge _ | with_reducible exact fm4_lt _ _ | with_reducible exact fm4_ge _ _ | with_reducible exact em_lt _ | with_reducible exact em_gt _ | with_reducible exact nat_gt _ | with_reducible exact Int.natCast_nonneg _ | with_reducible exact nat_gt1 _ | with_reducible exact room2 (by assumption) (by decide) | with_reducible exact room1 (by assumption) (by decide) | with_reducible exact room3 (by assumption) (by decide) | with_reducible exact room4 (by assumption) (by decide) | with_reducible exact room0 (by assumption) | with_reducible exact le_le (by assumption) (by decide) | with_reducible exact le_eq (by assumption) (by decide) | with_reducible exact lt_le (by assumption) (by decide) | with_reducible exact sub_one (by assumption) | with_reducible exact sub_j (by assumption) | with_reducible exact sub_dec (by assumption) | with_reducible exact toNat_pred _ | with_reducible exact nat_ge _
  k_with "ne" => first | with_reducible exact Apart.l (by assumption) | with_reducible exact Apart.r (by assumption) | with_reducible exact gt1 (by assumption) | with_reducible exact lt1 (by assumption) | with_reducible exact gt2 (by assumption) | with_reducible exact lt2 (by assumption) | with_reducible exact gl2 (by assumption) | with_reducible exact ll2 (by assumption) | with_reducible exact gt3 (by assumption) | with_reducible exact lt3 (by assumption) | with_reducible exact gl3 (by assumption) | with_reducible exact ll3 (by assumption) | with_reducible exact gt4 (by assumption) | with_reducible exact gl4 (by assumption) | with_reducible exact ll4 (by assumption) | with_reducible exact gl5 (by assumption) | with_reducible exact gl6 (by assumption) | with_reducible exact gl7 (by assumption) | with_reducible exact gl8 (by assumption) | with_reducible exact gl9 (by assumption) | with_reducible exact gl10 (by assumption) | with_reducible exact gl11 (by assumption)
  k_with "k_room" => ((try simp only [depth_under_make, depth_under_kw, depth_in1, depth_deeper, depth_caller]); first | decide | ktr_room)
  k_with "cell_enter" => (refine' code_defG (by k_asm) (by k_asm) (by k_asm) (by k_asm) (by k_asm) rfl rfl (by assumption) (by k_is) (by k_is) (by ktr_room) (by first | exact BindsTo.of_eq rfl | exact binds_K (by k_in) rfl (by k_is) rfl rfl rfl) (by exact locs rfl) ?_ (by exact rfl) (by exact rfl) (by exact rfl) (by decide); k_whole; intro g' L' h' FG' F' N' B' X' T' GS'; (try dsimp only); (try k_lift B'); (try k_fold))
  k_with "exec If" => (k_here; dsimp only)
  k_with "execs cons" => (k_here; dsimp only)
  k_with "isTrue" => (k_here; dsimp only)
  k_with "exec Assign" => (k_here; dsimp only)
  k_with "exec Expr" => (k_here; dsimp only)
  k_with "eval Attribute" => (k_here; dsimp only)
  k_with "execs nil" => (k_here; dsimp only)
  trivial
local macro_rules | `(tactic| omega) => `(tactic| first | k_extra "small" | (simp only [PySem.Str.length_append, *]; done) | (simp only [PySem.Str.length_append, *]; decide) | omega (splitDisjunctions := true))
theorem lay_W1_1 : True := by
  k_with "eval BinOp" => (k_here; (try dsimp only); k_gentoks)
  k_with "eval Subscript" => (k_here; (try dsimp only); k_gentoks)
  k_with "eval Constant int" => (k_here; (try dsimp only); k_gentoks)
  trivial

/-- a class's three signs -/
noncomputable def rwxT (mode run above : Int) (last : String) : Str := Txt.item (Str.ofString "-r") (((mode.fdiv run).fdiv 4).fmod 2) ++ Txt.item (Str.ofString "-w") (((mode.fdiv run).fdiv 2).fmod 2) ++ Txt.item (Str.ofString last) ((mode.fdiv above).fmod 2 * 2 + (mode.fdiv run).fmod 2)
noncomputable def rowT (mode : Int) : Str := Txt.item (Str.ofString "?pc?d?b?-?l?s???") (mode.fdiv 4096) ++ rwxT mode 64 2048 "-xSs" ++ rwxT mode 8 1024 "-xSs" ++ rwxT mode 1 512 "-xTt"
theorem now_c_row : True := by
  k_with "now" =>
    unfold Claim
    k_fill
    intro dp un gd cn cs a ccd cl outer A₀ base h₀ L m s Q E hB hF hX hN hT hcs hdp hun hret
    k_lift hB
    refine wpAny_call ?_
    k_dflt (refine' code_defG ?k1 ?k2 ?k3 ?k4 ?k5 ?kA ?kF ?kK ?k6 ?k7 ?k8 ?k9 ?kB ?_ ?c2 ?c3 ?c4 ?c5; (case kA => exact rfl); (case kF => exact rfl); (case kK => assumption); (case k1 => k_asm); (case k2 => k_asm); (case k3 => k_asm); (case k4 => k_asm); (case k5 => k_asm); (case k6 => k_is); (case k7 => k_is); (case k8 => ktr_room); (case k9 => first | exact BindsTo.of_eq rfl | exact binds_K (by k_in) rfl (by k_is) rfl rfl rfl); (case c5 => decide); (case kB => exact locs rfl); (case c2 => exact rfl); (case c3 => exact rfl); (case c4 => exact rfl); k_whole)
    intro g' L' h1 FG' F1 N1 B' X' T' GS'
    replace F1 := fr_clean [(Str.ofString "mode", Value.int mode t)] F1 (by rfl)
    (try dsimp only)
    k_lift B'
    (try k_fold)
    k_steps
    exact hret _ _ _ _ ⟨_, rfl, rfl⟩ (by assumption) (fun _ h => nomatch h) (gsub_keep GS' (by assumption))
  trivial
theorem c_row (w : World) (LO : List Str) (mean : ExcName → Option Value) (mg mb : Str → Option Value) (mode : Int) (t : Tok) (h0 : 0 ≤ mode) (h1 : mode < 65536) :
   Claim w LO mean mg mb 4 40 922 [.int mode t] [] [] (fun r small' => ∃ u, r = .str (rowT mode) u ∧ small' = []) := (by exact whole_of _ : Whole by_lay)
end
section
-- part U1

set_option Elab.async false
set_option maxRecDepth 100000
set_option maxHeartbeats 8000000
theorem fresh_U1 : True := by
  w_top off
  k_with_none
  k_with "small" => first | exact Int.toNat_natCast _ | with_reducible exact Nat.mod_lt _ (by decide) | with_reducible exact fm2_lt _ | with_reducible exact fm2_ge _ | with_reducible exact fm4_lt _ _ | with_reducible exact fm4_ge _ _ | with_reducible exact em_lt _ | with_reducible exact em_gt _ | with_reducible exact nat_gt _ | with_reducible exact Int.natCast_nonneg _ | with_reducible exact nat_gt1 _ | with_reducible exact room2 (by assumption) (by decide) | with_reducible exact room1 (by assumption) (by decide) | with_reducible exact room3 (by assumption) (by decide) | with_reducible exact room4 (by assumption) (by decide) | with_reducible exact room0 (by assumption) | with_reducible exact le_le (by assumption) (by decide) | with_reducible exact le_eq (by assumption) (by decide) | with_reducible exact lt_le (by assumption) (by decide) | with_reducible exact sub_one (by assumption) | with_reducible exact sub_j (by assumption) | with_reducible exact sub_dec (by assumption) | with_reducible exact toNat_pred _ | with_reducible exact nat_ge _
  k_with "ne" => first | with_reducible exact Apart.l (by assumption) | with_reducible exact Apart.r (by assumption) | with_reducible exact gt1 (by assumption) | with_reducible exact lt1 (by assumption) | with_reducible exact gt2 (by assumption) | with_reducible exact lt2 (by assumption) | with_reducible exact gl2 (by assumption) | with_reducible exact ll2 (by assumption) | with_reducible exact gt3 (by assumption) | with_reducible exact lt3 (by assumption) | with_reducible exact gl3 (by assumption) | with_reducible exact ll3 (by assumption) | with_reducible exact gt4 (by assumption) | with_reducible exact gl4 (by assumption) | with_reducible exact ll4 (by assumption) | with_reducible exact gl5 (by assumption) | with_reducible exact gl6 (by assumption) | with_reducible exact gl7 (by assumption) | with_reducible exact gl8 (by assumption) | with_reducible exact gl9 (by assumption) | with_reducible exact gl10 (by assumption) | with_reducible exact gl11 (by assumption)
  k_with "k_room" => ((try simp only [depth_under_make, depth_under_kw, depth_in1, depth_deeper, depth_caller]); first | decide | ktr_room)
  k_with "cell_enter" => (refine' code_defG (by k_asm) (by k_asm) (by k_asm) (by k_asm) (by k_asm) rfl rfl (by assumption) (by k_is) (by k_is) (by ktr_room) (by first | exact BindsTo.of_eq rfl | exact binds_K (by k_in) rfl (by k_is) rfl rfl rfl) (by exact locs rfl) ?_ (by exact rfl) (by exact rfl) (by exact rfl) (by decide); k_whole; intro g' L' h' FG' F' N' B' X' T' GS'; (try dsimp only); (try k_lift B'); (try k_fold))
  k_with "exec If" => (k_here; dsimp only)
  k_with "execs cons" => (k_here; dsimp only)
  k_with "isTrue" => (k_here; dsimp only)
  k_with "exec Assign" => (k_here; dsimp only)
  k_with "exec Expr" => (k_here; dsimp only)
  k_with "eval Attribute" => (k_here; dsimp only)
  k_with "execs nil" => (k_here; dsimp only)
  k_with "execs cons" => (k_here; (try dsimp only); (with_reducible refine toks_gen ?_); intro tk')
  k_with "execs nil" => (k_here; (try dsimp only); (with_reducible refine toks_gen ?_); intro tk')
  k_with "eval BinOp" => (k_here; (try dsimp only); ((with_reducible refine toks_gen ?_); intro _))
  k_with "eval Subscript" => (k_here; (try dsimp only); ((with_reducible refine toks_gen ?_); intro _))
  k_with "eval Constant int" => (k_here; (try dsimp only); ((with_reducible refine toks_gen ?_); intro _))
  trivial

theorem lay_U1_4 : True := by
  k_with "exec Assign cons ListComp" => (k_here; k_dflt (refine LCt.Assign_ListComp_T (F₀ := by k_asm) (by rfl) (by with_unfolding_all rfl) (by with_unfolding_all rfl) (by decide) (by rfl) (by decide) (by rfl) (by rfl) (by rfl) ?_))
  k_with "eval ListComp" => (k_here; k_dflt (refine zip_comp (by k_asm) (by with_unfolding_all rfl) (by decide) (by rfl) (by decide) (by rfl) (by rfl) (by decide) ?_))
  k_with "CompSrcT" => (refine hold_out ?_)
  k_with "CompEnd" => (refine hold_out ?_)
  k_with "call type:zip" => (refine hold_out ?_)
  k_with "compareOp In str str" => (refine' in_at (by omega) (by omega) (by assumption) ?_)
  trivial
theorem now_c_runs : True := by
  k_with "now" =>
    unfold ClaimN
    k_fill
    intro dp un gd cn cs a ccd cl outer A₀ base h₀ L m s Q E hB hF hX hN hT hcs hdp hun _ hret
    k_lift hB
    refine wpAny_call ?_
    k_dflt (refine' code_defCG ?k1 ?k2 ?k3 ?k4 ?k5 ?kA ?kF ?kK ?k6 ?k7 ?k8 ?k9 ?kB ?kD ?_ ?c2 ?c3 ?c4; (case kA => exact rfl); (case kF => exact rfl); (case kK => assumption); (case k1 => k_asm); (case k2 => k_asm); (case k3 => k_asm); (case k4 => k_asm); (case k5 => k_asm); (case k6 => k_is); (case k7 => k_is); (case k8 => ktr_room); (case k9 => first | exact BindsTo.of_eq rfl | exact binds_K (by k_in) rfl (by k_is) rfl rfl rfl); (case kB => exact rfl); (case kD => decide +kernel); (case c2 => exact rfl); (case c3 => exact rfl); (case c4 => exact rfl); k_whole)
    intro g' L' h1 tk1 cells1 FG' F1 N1 Y1 B' X' T' l1 GS'
    (try k_lt l1)
    k_cells Y1
    (try simp only [List.cons_append, List.nil_append] at N1)
    (try dsimp only)
    k_lift B'
    (try k_fold)
    rename News _ _ _ _ => N1
    rename Fr g' _ _ _ => F1
    rename _ = Data.cell _ => hc1
    replace F1 : Fr g' L' h1 (fun _ => none) := F1
    replace hc1 : _ = Data.cell (some (Value.str x t)) := hc1
    k_steps
    rename News g' L' _ _ => N2
    rename Fr g' L' _ _ => F2
    rename IsRange _ _ _ _ _ _ _ _ => hR
    rw [hx] at hR
    refine hold_in (LCt.CompSrcT.range (n := 9) (by rfl) F2 N2 hR (by decide) (by decide) (by rw [sizeLine_eq]; omega) ?_)
    intro gH
    refine restT_ind 9 (fun i acc news => news = [(L' + 1, _)] ∧ IntsAre acc (cutsOf x.cps.toList i)) ?fin ?turn _ 0 [] _ rfl ⟨rfl, .nil⟩
    case turn =>
      rintro k i acc news hk ⟨rfl, hacc⟩ IH
      refine LCt.CompRestT.succ ?_
      intro v1 I1 oI1 C1 oC1 D1 m1 h9 tk9 E9 hv1 hC1 hx1 F9 N9 off9 ne9
      obtain ⟨t9, rfl⟩ := hv1
      rw [Int.zero_add] at hx1
      by_cases hi0 : i = 0
      · subst hi0
        have hcut : cutAt x.cps.toList 0 = true := rfl
        k_steps
        refine hold_in (LCg.CompEnd.intro F9 N9 _ (fun _ h => h) off9 trivial (IH _ _ ⟨rfl, ?_⟩))
        rw [cuts_yes hcut]
        exact ints_snoc hacc
      · have h8 : i < 9 := by omega
        have e1 : ((i : Int)).toNat = i := by omega
        have e2 : ((i : Int) - 1).toNat = i - 1 := by omega
        have hcut : cutAt x.cps.toList i = (pun (x.cps.toList.getD i 0) != pun (x.cps.toList.getD (i - 1) 0)) := by
          unfold cutAt; rw [decide_eq_false hi0, Bool.false_or]
        have hI0 : ((i : Nat) : Int) ≠ 0 := by omega
        cases hp1 : pun (x.cps.toList.getD i 0) <;> cases hp2 : pun (x.cps.toList.getD (i - 1) 0) <;> rw [hp1, hp2] at hcut <;> rw [← e1] at hp1 <;> rw [← e2] at hp2
        all_goals k_steps
        all_goals first | (exfalso; omega) | skip
        all_goals first
          | (refine hold_in (LCg.CompEnd.intro F9 N9 _ (fun _ h => h) off9 trivial (IH _ _ ⟨rfl, ?_⟩)); rw [cuts_yes hcut]; exact ints_snoc hacc)
          | (refine hold_in (LCg.CompEnd.intro F9 N9 _ (fun _ h => h) off9 trivial (IH _ _ ⟨rfl, ?_⟩)); rw [cuts_no hcut]; exact hacc)
    case fin =>
      rintro acc news ⟨rfl, hacc⟩
      have hcl := cuts_le x.cps.toList 9
      k_steps
      rename News g' L' _ _ => N3
      rename Fr g' L' _ _ => F3
      rename IntsAre _ (List.drop 1 _ ++ _) => hI3
      rw [hx] at hI3
      have hl1 := ints_len hacc
      have hl3 := ints_len hI3
      have hc3 : (List.drop 1 (cutsOf x.cps.toList 9) ++ [((9 : Nat) : Int)]).length = (cutsOf x.cps.toList 9).length - 1 + 1 := by simp
      refine hold_in (zip_src5 (by rfl) F3 N3 (by omega) ?_)
      intro gZ
      refine zrest_ind _ (fun i zs => StrsAre zs ((((cutsOf x.cps.toList 9).zip ((cutsOf x.cps.toList 9).drop 1 ++ [((9 : Nat) : Int)])).take i).map fun p => Txt.slice x (some p.1) (some p.2))) ?fin2 ?turn2 _ 0 [] rfl .nil
      case turn2 =>
        rintro k i zs hk hzs IH v1 v2 C oC its m2 h9 tk9 E9 hv1 hv2 hC hx1 hx2 F9 N9
        simp only [List.cons_append, List.nil_append] at N9
        obtain ⟨a1, ta, ha1, rfl⟩ := ints_at hacc hv1
        obtain ⟨b1, tb, hb1, rfl⟩ := ints_at hI3 hv2
        k_steps
        · assumption
        · assumption
        · refine IH _ ?_
          have hz : ((cutsOf x.cps.toList 9).zip ((cutsOf x.cps.toList 9).drop 1 ++ [((9 : Nat) : Int)]))[i]? = some (a1, b1) := by
            rw [List.getElem?_zip_eq_some]; exact ⟨ha1, hb1⟩
          rw [List.take_add_one, hz, Option.toList_some, List.map_append]
          exact Mine.strs_snoc hzs
      case fin2 =>
        intro zs hzs
        rw [List.take_of_length_le (by rw [List.length_zip, List.size_toArray, List.size_toArray]; omega)] at hzs
        k_steps
        rename News h₀ _ _ _ => kN9
        rename News g' L' _ _ => kN8
        rename Fr h₀ _ _ _ => kF9
        rename Fr g' L' _ _ => kF8
        exact hret _ _ _ _ ⟨_, _, rfl, rfl, hzs⟩ kF9 (news_sub kN9 fun p hp => by rw [List.mem_singleton.mp hp]; exact .head _) (gsub_keep GS' kF8) (fun p hp => fresh_g GS' kN8 p (by rw [List.mem_singleton.mp hp]; exact .head _))
  trivial
theorem c_runs (w : World) (LO : List Str) (mean : ExcName → Option Value) (mg mb : Str → Option Value) (x : Str) (t : Tok) (hx : x.length = 9) :
   ClaimN w LO mean mg mb 6 60 927 [.str x t] [] (fun _ => True) [] (fun v small' => ∃ D zs, v = .ref D ∧ small' = [(D, LCg.lst zs)] ∧ StrsAre zs (piecesOf x 9)) := (by exact whole_of _ : Whole by_lay)
end
section
-- part C8

set_option Elab.async false
set_option maxRecDepth 100000
section
variable {w : World} {LO : List Str} {mean : ExcName → Option Value} {mg mb : Str → Option Value}
  {dp un : Nat} {gd : Option (List Code)} {cn : Str} {cs : Scope} {a : Addr} {ccd : Value} {cl : List (Str × Addr)} {outer : List Env} {A₀ : Around} {base h₀ : Heap} {L : Addr} {m : Str → Option Value} {s : Shared} {Q E : Value → Shared → Prop}
  {D U : Nat} {f : Addr} {vs : List Value} {kw : List (Str × Value)} {Pre : Heap → Prop} {Post : Value → List (Addr × Obj) → Prop} {news : List (Addr × Obj)}
/-- a contract upon no ledger, used upon any -/
theorem useN (c : ClaimN w LO mean mg mb D U f vs kw Pre [] Post) (hB : Below A₀ base outer h₀) (hF : Fr h₀ L s.heap m) (hX : (hdK.heap_1 w.params).In h₀) (hN : News h₀ L s.heap news) (hT : Top hdK.view_39 LO mean mg mb h₀) (hcs : cs.kind = .function) (hdp : dp + D < recursionLimit) (hun : un + U < cLine) (hpre : Pre s.heap)
    (h : ∀ v small' h' tk, Post v small' → Fr h₀ L h' m → News h₀ L h' (small' ++ news) → (∀ p ∈ small', ∀ q ∈ news, @Ne Nat q.1 p.1) → Q v { s with heap := h', toks := tk }) :
    wpAny (model PySem.Challenge.rw_op0282_01.row.prog w) (ktrTop dp un gd cn cs L a ccd cl outer) (call (.ref f) vs kw) Q E s := by
  refine c dp un gd cn cs a ccd cl outer A₀ base h₀ L m s Q E hB hF hX (fun _ h => nomatch h) hT hcs hdp hun hpre ?_
  intro v small' h' tk hp F' N' G fr
  refine h v small' h' tk hp F' (fun p hm => ?_) fun p hp q hq e => ?_
  · rcases List.mem_append.mp hm with hm | hm
    · exact N' p hm
    · exact ⟨G _ _ (hN p hm).1 (fun h => nomatch h), (hN p hm).2⟩
  · have := fr p hp (fun h => nomatch h)
    rw [← e, (hN q hq).1] at this; cases this
theorem useP {R : Value → Prop} (c : ClaimP w LO mean mg mb D U f vs kw Pre [] (fun v small' => R v ∧ small' = [])) (hB : Below A₀ base outer h₀) (hF : Fr h₀ L s.heap m) (hX : (hdK.heap_1 w.params).In h₀) (hN : News h₀ L s.heap news) (hT : Top hdK.view_39 LO mean mg mb h₀) (hcs : cs.kind = .function) (hdp : dp + D < recursionLimit) (hun : un + U < cLine) (hpre : Pre s.heap)
    (h : ∀ v h' tk, R v → Fr h₀ L h' m → News h₀ L h' news → Q v { s with heap := h', toks := tk }) :
    wpAny (model PySem.Challenge.rw_op0282_01.row.prog w) (ktrTop dp un gd cn cs L a ccd cl outer) (call (.ref f) vs kw) Q E s := by
  refine c dp un gd cn cs a ccd cl outer A₀ base h₀ L m s Q E hB hF hX (fun _ h => nomatch h) hT hcs hdp hun hpre ?_
  rintro v small' h' tk ⟨hr, rfl⟩ F' N' G
  exact h v h' tk hr F' (hN.grown fun b o e => G b o e fun h => nomatch h)
end
theorem Claim.pure_of {w : World} {LO : List Str} {mean : ExcName → Option Value} {mg mb : Str → Option Value} {D U : Nat} {f : Addr} {vs : List Value} {kw : List (Str × Value)} {R R' : Value → List (Addr × Obj) → Prop} (h : Claim w LO mean mg mb D U f vs kw [] R) (k : ∀ v l, R v l → R' v l) : Claim w LO mean mg mb D U f vs kw [] R' :=
  fun dp un gd cn cs a ccd cl outer A₀ base h₀ L m s Q E hB hF hX hN hT hcs hdp hun hret => h dp un gd cn cs a ccd cl outer A₀ base h₀ L m s Q E hB hF hX hN hT hcs hdp hun fun v l h' tk hr => hret v l h' tk (k v l hr)
theorem c_rowP (w : World) (LO : List Str) (mean : ExcName → Option Value) (mg mb : Str → Option Value) (mode : Int) (t : Tok) (h0 : 0 ≤ mode) (h1 : mode < 65536) :
    ClaimP w LO mean mg mb 4 40 922 [.int mode t] [] (fun _ => True) [] (fun r small' => (∃ u, r = .str (rowT mode) u) ∧ small' = []) :=
  ((c_row w LO mean mg mb mode t h0 h1).pure_of fun _ _ ⟨u, a, b⟩ => ⟨⟨u, a⟩, b⟩).toP _
theorem c_fmP (w : World) (LO : List Str) (mean : ExcName → Option Value) (mg mb : Str → Option Value) (mode : Int) (t : Tok) (h0 : 0 ≤ mode) (h1 : mode < 65536) :
    ClaimP w LO mean mg mb 4 40 91 [.int mode t] [] (fun _ => True) [] (fun r small' => (∃ u, r = .str (Txt.join (Str.ofString "") (picks 0 mode FMT)) u) ∧ small' = []) :=
  ((c_fm w LO mean mg mb mode t h0 h1).pure_of fun _ _ ⟨u, a, b⟩ => ⟨⟨u, a⟩, b⟩).toP _
/-- the list has that item at that place -/
structure At (vs : List Value) (k : Int) (v : Value) : Prop where
  lo : 0 ≤ k
  hi : k < 1000
  get : vs[k.toNat]? = some v
section
variable {prog : Program} {w : World} {A : Around} {E : Value → Shared → Prop} {s : Shared} {Q : Value → Shared → Prop} {h₀ : Heap} {L : Addr} {news : List (Addr × Obj)}
/-- an item of a list of the ledger, at a place that is no written one -/
theorem item_at {value slice : PySem.Expr} {l : Addr} {vs : List Value} {n : Nat} {k : Int} {u : Tok} {v : Value} (N : News h₀ L s.heap news) (hm : (l, listOf vs.toArray n) ∈ news) (hv : At vs k v) (h : Q v s)
    (hs : subscripted slice false (.ref l) (.int k u) = operate [.ref l, .int k u] (getItem (.ref l) (.int k u)) := by with_unfolding_all rfl) :
    wpAny (model prog w) A (subscriptTail value slice (.ref l) (.int k u)) Q E s := by
  have hl : s.heap.IsList l vs.toArray := N.isList hm
  exact tail_any hl.typeIs slot_list_getitem.lookup (wpAny_getItem_list hl hv.lo (by have := hv.hi; omega) (by simpa using hv.get) h) hs
end
theorem strs_get : ∀ {vs : List Value} {ys : List Str} {i : Nat} {y : Str}, StrsAre vs ys → ys[i]? = some y → ∃ t, vs[i]? = some (.str y t)
  | _, _, i, y, .nil, h => by simp at h
  | _, _, 0, y, .cons x u r, h => by
    have : x = y := by simpa using h
    exact ⟨u, by rw [← this]; rfl⟩
  | _, _, i + 1, y, .cons x u r, h => by
    have : _ := strs_get (i := i) (y := y) r (by simpa using h)
    simpa using this
theorem ints_get : ∀ {vs : List Value} {ns : List Int} {i : Nat} {y : Int}, IntsAre vs ns → ns[i]? = some y → ∃ t, vs[i]? = some (.int y t)
  | _, _, i, y, .nil, h => by simp at h
  | _, _, 0, y, .cons x u r, h => by
    have : x = y := by simpa using h
    exact ⟨u, by rw [← this]; rfl⟩
  | _, _, i + 1, y, .cons x u r, h => by
    have : _ := ints_get (i := i) (y := y) r (by simpa using h)
    simpa using this
end
section
-- part Z2
open PySem.Calls PyProof.Rows.LCg
set_option Elab.async false
set_option maxRecDepth 100000
set_option maxHeartbeats 2000000
/-- the addresses are apart -/
noncomputable def Apart4 (I C D c : Addr) (news : List (Addr × Obj)) : Prop := (@Ne Nat I C ∧ @Ne Nat I D ∧ @Ne Nat I c ∧ @Ne Nat C D ∧ @Ne Nat C c ∧ @Ne Nat D c) ∧ ∀ p ∈ news, @Ne Nat p.1 I ∧ @Ne Nat p.1 C ∧ @Ne Nat p.1 D ∧ @Ne Nat p.1 c
/-- the turns of a comprehension over a range, whose name an inner one closes over -/
noncomputable def CRest (prog : Program) (w : World) (A : Around) (h₀ : Heap) (L : Addr) (m : Str → Option Value) (env : Env) (elt : PySem.Expr) (x : Str) (scope : Scope) (cl : List (Str × Addr)) (s : Shared) (a : Int) (news : List (Addr × Obj)) (Fin : List Value → Prop) : Nat → Nat → List Value → Prop
  | 0, _, zs => Fin zs
  | k + 1, i, zs => ∀ t I oI C oC D c oc h tk (E' : Value → Shared → Prop), oc.data = .cell (some (.int (a + (i : Int)) t)) → Fr h₀ L h m → News h₀ L h ((I, oI) :: (C, oC) :: (D, lst zs) :: (c, oc) :: news) → Apart4 I C D c news →
      wpAny (model prog w) A (eval elt (compEnvC scope ((x, c) :: cl) C env)) (fun y s' => ∃ h' tk', s' = { s with heap := h', toks := tk' } ∧ Fr h₀ L h' m ∧ News h₀ L h' ((I, oI) :: (C, oC) :: (D, lst zs) :: (c, oc) :: news) ∧ CRest prog w A h₀ L m env elt x scope cl s a news Fin k (i + 1) (zs ++ [y])) E' { s with heap := h, toks := tk }
section
variable {prog : Program} {w : World} {A : Around} {E : Value → Shared → Prop} {s : Shared} {h₀ : Heap} {L : Addr} {m : Str → Option Value} {env : Env}
theorem crest_ind {elt : PySem.Expr} {x : Str} {scope : Scope} {cl : List (Str × Addr)} {a : Int} {news : List (Addr × Obj)} {Fin : List Value → Prop} (n : Nat) (I : Nat → List Value → Prop) (fin : ∀ zs, I n zs → Fin zs)
    (turn : ∀ k i zs, k + 1 + i = n → I i zs → (∀ zs', I (i + 1) zs' → CRest prog w A h₀ L m env elt x scope cl s a news Fin k (i + 1) zs') → CRest prog w A h₀ L m env elt x scope cl s a news Fin (k + 1) i zs) :
    ∀ k i zs, k + i = n → I i zs → CRest prog w A h₀ L m env elt x scope cl s a news Fin k i zs
  | 0, i, zs, h, hI => by
    obtain rfl : i = n := by omega
    exact fin zs hI
  | k + 1, i, zs, h, hI => turn k i zs h hI fun zs' hI' => crest_ind n I fin turn k (i + 1) zs' (by omega) hI'
theorem now_cell_block : True := by
  k_with "now" =>
    refine wpAny_newObj_type ?_
    simp only [newFunctionEnv, Option.isSome_some, if_true]
    refine wpAny_bind (wpAny_alloc ?_)
    refine wpAny_bind (wpAny_layCells _ (fun name kind cells => by cases hkc : kind == NameKind.cell <;> simp [hkc]) _ _ _ _ ?_)
    refine wpAny_bind (wpAny_pure ?_)
    refine wpAny_pure ?_
    dsimp only
    rw [hcf, hpc]
    generalize hH2 : s₂.heap.push { cls := .type "list", dict := none, data := .seq ([] : List Value).toArray } = H2
    generalize hH3 : H2.push { cls := .type "dict", data := .dict #[] } = H3
    generalize hH4 : H3.push { cls := .type "cell", data := .cell none } = H4
    have hC : H2.objs.size = s₂.heap.objs.size + 1 := by rw [← hH2, Heap.size_push]
    have hc : H3.objs.size = s₂.heap.objs.size + 2 := by rw [← hH3, Heap.size_push, hC]
    generalize hD9 : s₂.heap.objs.size = D at hC hc ⊢
    generalize hC9 : H2.objs.size = C at hC ⊢
    generalize hc9 : H3.objs.size = c at hc ⊢
    have hDs : D = s₂.heap.objs.size := hD9.symm
    have n1 : @Ne Nat C D := by omega
    have n2 : @Ne Nat c D := by omega
    have n3 : @Ne Nat c C := by omega
    have below : ∀ b, b < s₂.heap.objs.size → @Ne Nat b D ∧ @Ne Nat b C ∧ @Ne Nat b c := fun b hb => by
      have hb' : @LT.lt Nat _ b s₂.heap.objs.size := hb
      omega
    have up2 : ∀ b o, s₂.heap.get? b = some o → H2.get? b = some o := fun b o e => hH2 ▸ Heap.get?_push_of_some _ e
    have up3 : ∀ b o, H2.get? b = some o → H3.get? b = some o := fun b o e => hH3 ▸ Heap.get?_push_of_some _ e
    have up4 : ∀ b o, H3.get? b = some o → H4.get? b = some o := fun b o e => hH4 ▸ Heap.get?_push_of_some _ e
    have old : ∀ b o, s₂.heap.get? b = some o → H4.get? b = some o := fun b o e => up4 _ _ (up3 _ _ (up2 _ _ e))
    have gD : H4.get? D = some (lst []) := up4 _ _ (up3 _ _ (by rw [← hH2, hDs]; exact Heap.get?_push_size _ rfl))
    have gC : H4.get? C = some { cls := .type "dict", data := .dict #[] } := up4 _ _ (by rw [← hH3, ← hC9]; exact Heap.get?_push_size _ rfl)
    have gc : H4.get? c = some { cls := .type "cell", data := .cell none } := by rw [← hH4, ← hc9]; exact Heap.get?_push_size _ rfl
    have nsC : NsObj { cls := .type "dict", data := .dict #[] } (fun _ => none) := ⟨#[], 0, rfl, fun _ he => by simp at he, fun _ => rfl⟩
    have fresh₀ : ∀ a, s₂.heap.objs.size ≤ a → h₀.get? a = none := fun a ha => by
      cases e : h₀.get? a with
      | none => rfl
      | some o' => exact absurd (Heap.lt_size (F.keep _ _ e)) (Nat.not_lt.mpr ha)
    have hD₀ : h₀.get? D = none := fresh₀ _ (by rw [hDs]; exact Nat.le_refl _)
    have hC₀ : h₀.get? C = none := fresh₀ _ (by rw [hC, hDs]; exact Nat.le_succ _)
    have hc₀ : h₀.get? c = none := fresh₀ _ (by rw [hc, hDs]; exact Nat.le_add_right _ 2)
    have hLlt : L < s₂.heap.objs.size := F.ns.lt
    have hDL : D ≠ L := Ne.symm (below L hLlt).1
    have hCL : C ≠ L := Ne.symm (below L hLlt).2.1
    have hcL : c ≠ L := Ne.symm (below L hLlt).2.2
    have hIlt : I < s₂.heap.objs.size := Heap.lt_size hst
    have hap : Apart4 I C D c news := ⟨⟨(below I hIlt).2.1, (below I hIlt).1, (below I hIlt).2.2, n1, Ne.symm n3, Ne.symm n2⟩, fun p hp => ⟨off p hp, (below _ (Heap.lt_size (N p hp).1)).2.1, (below _ (Heap.lt_size (N p hp).1)).1, (below _ (Heap.lt_size (N p hp).1)).2.2⟩⟩
    have W := range_walks (prog := prog) (w := w) (A := A) (I := I) hh a n
    have hst₁ : IsRangeIter H4 I (a + ((0 : Nat) : Int) * 1) ((n : Int) - ((0 : Nat) : Int)) 1 := by
      have e : H4.get? I = some _ := old _ _ hst
      simpa using e
    have loop : ∀ s₃ : Shared, s₃ = { s₂ with heap := H4 } →
        codeAny (model prog w) A (.compLoop (.ListComp elt [⟨.Name x px, iter, [], 0⟩] scope pos) 0 (.ref I) (.ref D) (compEnvC scope ((x, c) :: cl) C env)) (RR (.ref D) C) s₃ := by
      rintro s₃ rfl
      refine kcp_loop
        (fun k s' => ∃ h' tk i zs oC oc cv m', s' = { s₂ with heap := h', toks := tk } ∧ i ≤ n ∧ k = n + 1 - i ∧ zs.length = i ∧ IsRangeIter h' I (a + (i : Nat) * 1) ((n : Int) - (i : Nat)) 1 ∧ Fr h₀ L h' m ∧ NsObj oC m' ∧ oc.data = .cell cv ∧
          News h₀ L h' ((C, oC) :: (D, lst zs) :: (c, oc) :: news) ∧ CRest prog w A h₀ L m env elt x scope cl s₂ a news Fin (n - i) i zs) ?_ (n + 1)
        ⟨H4, s₂.toks, 0, [], { cls := .type "dict", data := .dict #[] }, { cls := .type "cell", data := .cell none }, none, _, rfl, Nat.zero_le _, rfl, rfl, hst₁, F.keeps old, nsC, rfl, fun p hp => ?_, R⟩
      · rintro k s' ⟨h', tk, i, zs, oC, oc, cv, m', rfl, hi, rfl, hzl, hst', F', hoC, hoc, N', R'⟩
        obtain ⟨⟨a1, a2, a3, a4, a5, a6⟩, a7⟩ := id hap
        have nI : ∀ p ∈ (C, oC) :: (D, lst zs) :: (c, oc) :: news, p.1 ≠ I := fun p hp => by
          rcases List.mem_cons.mp hp with rfl | hp
          · exact Ne.symm a1
          rcases List.mem_cons.mp hp with rfl | hp
          · exact Ne.symm a2
          rcases List.mem_cons.mp hp with rfl | hp
          · exact Ne.symm a3
          · exact (a7 p hp).1
        by_cases hlt : i < n
        · obtain ⟨j, hj⟩ : ∃ j, n - i = j + 1 := ⟨n - i - 1, by omega⟩
          rw [hj] at R'
          refine W.item i _ _ _ hlt hst' fun v h₂ tk₂ hPv hst₂ hk₂ => ?_
          obtain ⟨t, rfl⟩ := hPv
          refine wpAny_of_eq (a := ()) rfl ?_
          have F₂ : Fr h₀ L h₂ m := fr_but F' hk₂ hIL hI₀
          have N₂ := news_but N' hk₂ nI
          have hcc : h₂.IsCell c cv := ⟨oc, (N₂ (c, oc) (.tail _ (.tail _ (.head _)))).1, hoc⟩
          refine wpAny_assign_Name (wpAny_storeName_cell (by simp [compEnvC, relabel, hkind]) (hx C c) (by simp [compEnvC]) hcc fun h₃ hc₃ hs₃ => ?_)
          obtain ⟨oc', hgc, hdc⟩ := hc₃
          have F₃ : Fr h₀ L h₃ m := F₂.change hs₃ hcL hc₀
          have hI₃ : h₃.get? I = some _ := (hs₃.2 I a3).trans hst₂
          have N₃ : News h₀ L h₃ ((I, _) :: (C, oC) :: (D, lst zs) :: (c, oc') :: news) := fun p hp => by
            rcases List.mem_cons.mp hp with rfl | hp
            · exact ⟨hI₃, Ne.symm hIL, hI₀⟩
            rcases List.mem_cons.mp hp with rfl | hp
            · exact ⟨(hs₃.2 _ a5).trans (N₂ _ (.head _)).1, hCL, hC₀⟩
            rcases List.mem_cons.mp hp with rfl | hp
            · exact ⟨(hs₃.2 _ a6).trans (N₂ _ (.tail _ (.head _))).1, hDL, hD₀⟩
            rcases List.mem_cons.mp hp with rfl | hp
            · exact ⟨hgc, hcL, hc₀⟩
            · have z := N₂ p (.tail _ (.tail _ (.tail _ hp)))
              exact ⟨(hs₃.2 _ (a7 p hp).2.2.2).trans z.1, z.2⟩
          refine wpAny_mono (R' t I _ C oC D c oc' h₃ tk₂ _ hdc F₃ N₃ hap) (fun y s₅ h₅ => ?_) fun _ _ e => e
          obtain ⟨h₅, tk₅, rfl, F₅, N₅, R₅⟩ := h₅
          have zD := (N₅ (D, lst zs) (.tail _ (.tail _ (.head _)))).1
          refine append_at (hsz := by show zs.toArray.size ≤ sizeLine; rw [List.size_toArray, hzl]; exact Nat.le_trans hi hsz) zD fun h₆ hs₆ hD₆ => ?_
          refine ⟨n + 1 - (i + 1), by omega, h₆, tk₅, i + 1, zs ++ [y], oC, oc', _, m', rfl, hlt, rfl, by rw [List.length_append, List.length_singleton, hzl], ?_, F₅.change hs₆ hDL hD₀, hoC, hdc, fun p hp => ?_, ?_⟩
          · show h₆.get? I = some _
            exact (hs₆.2 I a2).trans (N₅ _ (.head _)).1
          · rcases List.mem_cons.mp hp with rfl | hp
            · exact ⟨(hs₆.2 _ n1).trans (N₅ _ (.tail _ (.head _))).1, hCL, hC₀⟩
            rcases List.mem_cons.mp hp with rfl | hp
            · exact ⟨hD₆.trans (congrArg some (lst_snoc zs y)), hDL, hD₀⟩
            rcases List.mem_cons.mp hp with rfl | hp
            · exact ⟨(hs₆.2 _ n2).trans (N₅ _ (.tail _ (.tail _ (.tail _ (.head _))))).1, hcL, hc₀⟩
            · have z := N₅ p (.tail _ (.tail _ (.tail _ (.tail _ hp))))
              exact ⟨(hs₆.2 _ (a7 p hp).2.2.1).trans z.1, z.2⟩
          · rw [show n - (i + 1) = j by omega]
            exact R₅
        · obtain rfl : i = n := Nat.le_antisymm hi (Nat.not_lt.mp hlt)
          rw [Nat.sub_self] at R'
          refine W.done _ _ _ hst' fun h₂ tk₂ hk₂ => ?_
          have N₂ := news_but N' hk₂ nI
          refine hRR _ _ h₂ tk₂ _ zs (fr_but F' hk₂ hIL hI₀) (fun p hp => ?_) (fun p hp => (a7 p hp).2.2.1) (hoC.ns (N₂ _ (.head _)).1) hC₀ hD₀ hCL hDL n1 (fun p hp => (a7 p hp).2.1) R'
          rcases List.mem_cons.mp hp with rfl | hp
          · exact N₂ _ (.tail _ (.head _))
          · exact N₂ _ (.tail _ (.tail _ (.tail _ hp)))
      · rcases List.mem_cons.mp hp with rfl | hp
        · exact ⟨gC, hCL, hC₀⟩
        rcases List.mem_cons.mp hp with rfl | hp
        · exact ⟨gD, hDL, hD₀⟩
        rcases List.mem_cons.mp hp with rfl | hp
        · exact ⟨gc, hcL, hc₀⟩
        · exact ⟨old _ _ (N p hp).1, (N p hp).2⟩
    exact codeAny_compStart_list (loop _ rfl) (W.self 0 _ _ _ hst₁ (loop _ rfl))
  trivial
theorem cell_block {elt iter : PySem.Expr} {x : Str} {px : Pos} {scope : Scope} {cl : List (Str × Addr)} {pos : Pos} {s₂ : Shared} {I : Addr} {a : Int} {n : Nat} {news : List (Addr × Obj)}
    {Fin : List Value → Prop} {RR : Value → Addr → Result → Shared → Prop}
    (hh : A.handled = none) (hst : IsRangeIter s₂.heap I a n 1) (hsz : n ≤ sizeLine)
    (hcf : ∀ k, cellsFrom k scope.names cl = (x, k) :: cl) (hpc : ∀ h, pushCells h scope.names = h.push { cls := .type "cell", data := .cell none }) (hkind : scope.kind = .function) (hx : ∀ C c, (compEnvC scope ((x, c) :: cl) C env).kindOf x = some .cell)
    (F : Fr h₀ L s₂.heap m) (N : News h₀ L s₂.heap news) (hIL : L ≠ I) (hI₀ : h₀.get? I = none) (off : ∀ p ∈ news, p.1 ≠ I)
    (R : CRest prog w A h₀ L m env elt x scope cl s₂ a news Fin n 0 [])
    (hRR : ∀ D C h tk m' zs, Fr h₀ L h m → News h₀ L h ((D, lst zs) :: news) → (∀ p ∈ news, p.1 ≠ D) → h.Ns C m' → h₀.get? C = none → h₀.get? D = none → C ≠ L → D ≠ L → C ≠ D → (∀ p ∈ news, p.1 ≠ C) → Fin zs → RR (.ref D) C (.ok .next) { s₂ with heap := h, toks := tk }) :
    wpAny (model prog w) A (newList []) (fun acc s₃ => wpAny (model prog w) A (newFunctionEnv scope env.globals cl [] env.qual none .none (some env)) (fun cenv s₄ =>
      codeAny (model prog w) A (.compStart (.ListComp elt [⟨.Name x px, iter, [], 0⟩] scope pos) 0 (.ref I) acc { cenv with scope := relabel scope env }) (RR acc cenv.locals) s₄) E s₃) E s₂ := (by exact whole_of _ : Whole by_lay)
/-- a range whose comprehension's name is a cell -/
noncomputable def CSrc (prog : Program) (w : World) (A : Around) (h₀ : Heap) (L : Addr) (m : Str → Option Value) (env : Env) (elt : PySem.Expr) (x : Str) (scope : Scope) (cl : List (Str × Addr)) (Fin : Shared → List Value → List (Addr × Obj) → Prop) (xv : Value) (s₁ : Shared) : Prop :=
  ∃ r a b t u v n news, xv = .ref r ∧ A.handled = none ∧ Fr h₀ L s₁.heap m ∧ News h₀ L s₁.heap news ∧ IsRange s₁.heap r a b 1 t u v ∧ Builtin.Range.small a b 1 = true ∧ Builtin.Range.rangeSize a b 1 = ((n : Nat) : Int) ∧ n ≤ sizeLine ∧
    ∀ g : Heap, CRest prog w A h₀ L m env elt x scope cl { s₁ with heap := g } a news (fun zs => Fin { s₁ with heap := g } zs news) n 0 []
theorem cell_comp {elt iter : PySem.Expr} {x : Str} {px : Pos} {scope : Scope} {cl : List (Str × Addr)} {pos : Pos} {Q : Value → Shared → Prop} (_F₀ : Fr h₀ L s.heap m)
    (hclos : closureFor scope env = pure cl) (hcf : ∀ k, cellsFrom k scope.names cl = (x, k) :: cl) (hpc : ∀ h, pushCells h scope.names = h.push { cls := .type "cell", data := .cell none }) (hkind : scope.kind = .function)
    (hnames : ∀ y ∈ scope.names, y.2 = .local → scope.names.lookup y.1 = some .local) (hx : ∀ C c, (compEnvC scope ((x, c) :: cl) C env).kindOf x = some .cell)
    (h : wpAny (model prog w) A (eval iter env) (CSrc prog w A h₀ L m env elt x scope cl (fun s₂ => FinE h₀ L m s₂ Q)) E s)
    (hs : ∀ x, foldedSetIterable iter env x = pure x := by intro _; rfl) :
    wpAny (model prog w) A (eval (.ListComp elt [⟨.Name x px, iter, [], 0⟩] scope pos) env) Q E s := by
  rw [eval_ListComp]
  refine wpAny_comprehension_free (use := none) rfl hs hclos hkind hnames (wpAny_mono h (fun xv s₁ h₁ => ?_) fun _ _ e => e)
  obtain ⟨r, a, b, t, u, v, n, news, rfl, hh, F, N, hr, hsm, hn, hsz, R⟩ := h₁
  refine wpAny_pyIter_range hr hsm ?_
  refine cell_block (n := n) hh ?_ hsz hcf hpc hkind hx (F.keeps fun _ _ e => Heap.get?_push_of_some _ e) (N.grown fun _ _ e => Heap.get?_push_of_some _ e) (Nat.ne_of_lt F.ns.lt) (next_is_new F) (fun p hp => Nat.ne_of_lt (Heap.lt_size (N p hp).1)) (R _) ?_
  · show IsRangeIter _ _ _ _ _
    have e : (s₁.heap.push { cls := .type "range_iterator", data := .fields #[rawInt a, rawInt (Builtin.Range.rangeSize a b 1), rawInt 1] }).get? s₁.heap.objs.size = some _ := Heap.get?_push_size _ rfl
    rw [hn] at e ⊢
    exact e
  intro D C h tk m' zs F' N' offD hn hC₀ hD₀ hCL hDL hCD offC fin
  refine ⟨m', hn, fun h'' hs'' => fin D h'' tk (F'.change hs'' hCL hC₀) (fun p hp => ?_) ?_⟩
  · refine ⟨hs''.extBut _ _ ?_ (N' p hp).1, (N' p hp).2⟩
    rcases List.mem_cons.mp hp with rfl | hp
    · exact Ne.symm hCD
    · exact offC p hp
  · have go : ∀ l : List (Addr × Obj), (∀ p ∈ l, p.1 ≠ D) → Off1 D l := fun l => by
      induction l with
      | nil => exact fun _ => trivial
      | cons p l ih => exact fun h => ⟨h p (.head _), ih fun q hq => h q (.tail _ hq)⟩
    exact go news offD
end
end
section
-- part C9

set_option Elab.async false
set_option maxRecDepth 100000
theorem range_small {n : Nat} (h : n ≤ 20) : Builtin.Range.small 0 (n : Int) 1 = true ∧ Builtin.Range.rangeSize 0 (n : Int) 1 = ((n : Nat) : Int) := by
  have : ∀ k : Fin 21, Builtin.Range.small 0 ((k : Nat) : Int) 1 = true ∧ Builtin.Range.rangeSize 0 ((k : Nat) : Int) 1 = ((k : Nat) : Int) := by decide
  exact this ⟨n, by omega⟩
noncomputable def sameAt (SS : List Int) (HH : Int) (k a : Nat) : Bool := decide (Builtin.bitOr (Builtin.bitXor (SS.getD a 0) (SS.getD k 0)) HH = HH)
noncomputable def firstsIn (SS : List Int) (HH : Int) (k n : Nat) : List Int := ((List.range n).filter (sameAt SS HH k)).map Int.ofNat
noncomputable def firstAt (SS : List Int) (HH : Int) (k : Nat) : Int := (firstsIn SS HH k (k + 1)).headD 0
theorem firsts_yes {SS : List Int} {HH : Int} {k i : Nat} (h : sameAt SS HH k i = true) : firstsIn SS HH k (i + 1) = firstsIn SS HH k i ++ [(i : Int)] := by
  unfold firstsIn
  rw [List.range_succ, List.filter_append, List.filter_cons_of_pos h, List.map_append]
  rfl
theorem firsts_no {SS : List Int} {HH : Int} {k i : Nat} (h : sameAt SS HH k i = false) : firstsIn SS HH k (i + 1) = firstsIn SS HH k i := by
  unfold firstsIn
  rw [List.range_succ, List.filter_append, List.filter_cons_of_neg (by rw [h]; decide)]
  simp
theorem xor_self (a : Int) (_h : 0 ≤ a) : Builtin.bitXor a a = 0 := bitXor_self a
theorem or_zero (a : Int) (_h : 0 ≤ a) : Builtin.bitOr 0 a = a := by
  rw [bitOr_and, bitAnd_comm, bitAnd_zero]; omega
theorem first_some {SS : List Int} {HH : Int} {k : Nat} (h0 : 0 ≤ HH) (hk : 0 ≤ SS.getD k 0) : ∃ r, firstsIn SS HH k (k + 1) = firstAt SS HH k :: r := by
  have hs : sameAt SS HH k k = true := by
    unfold sameAt
    rw [xor_self _ hk, or_zero _ h0]
    exact decide_eq_true rfl
  unfold firstAt
  rw [firsts_yes hs]
  cases h : firstsIn SS HH k k with
  | nil => exact ⟨[], rfl⟩
  | cons a l => exact ⟨l ++ [(k : Int)], rfl⟩
theorem ints_head {vs : List Value} {n : Int} {ns : List Int} (h : IntsAre vs (n :: ns)) : ∃ t, vs[0]? = some (.int n t) := by
  cases h with
  | cons x u r => exact ⟨u, rfl⟩
theorem getD_of {l : List Int} {i : Nat} {y : Int} (h : l[i]? = some y) : l.getD i 0 = y := by
  rw [List.getD_eq_getElem?_getD, h]; rfl
theorem tail_cut {x : Str} (h : 1 ≤ x.length) : Txt.slice x (some 1) none = ⟨(x.cps.toList.drop 1).toArray⟩ := by
  have hl := len_toList x
  have := eq_of_beq (slice_closes_from (x := x) (i := 1) ⟨by decide, by omega⟩)
  rw [this]
  congr 2
  show List.take _ (List.drop 1 _) = _
  rw [List.take_of_length_le]
  rw [List.length_drop]; omega
theorem item_len (x : Str) (i : Int) : (Txt.item x i).length = 1 := rfl
theorem rwxT_len (mode run above : Int) (last : String) : (rwxT mode run above last).length = 3 := by
  unfold rwxT
  rw [Str.length_append, Str.length_append, item_len, item_len, item_len]
theorem rowT_len (mode : Int) : (rowT mode).length = 10 := by
  unfold rowT
  rw [Str.length_append, Str.length_append, Str.length_append, item_len, rwxT_len, rwxT_len, rwxT_len]
theorem tail_len {x : Str} (h : x.length = 10) : (Txt.slice x (some 1) none).length = 9 := by
  have hl := len_toList x
  rw [tail_cut (by omega), len_toList]
  show (List.drop 1 x.cps.toList).length = 9
  rw [List.length_drop]; omega
theorem first_range {SS : List Int} {HH : Int} {k : Nat} (h0 : 0 ≤ HH) (hk : 0 ≤ SS.getD k 0) : 0 ≤ firstAt SS HH k ∧ firstAt SS HH k ≤ (k : Int) := by
  obtain ⟨r, hr⟩ := first_some h0 hk
  have hm : firstAt SS HH k ∈ firstsIn SS HH k (k + 1) := by rw [hr]; exact .head _
  unfold firstsIn at hm
  obtain ⟨j, hj, e⟩ := List.mem_map.mp hm
  have hj2 := List.mem_range.mp (List.mem_filter.mp hj).1
  have e' : ((j : Nat) : Int) = firstAt SS HH k := e
  omega
theorem sub_told {α : Type} {a b c t d : α} {bs pile : List α} : ∀ p ∈ a :: b :: c :: (bs ++ (t :: d :: pile)), p ∈ t :: d :: a :: b :: c :: (bs ++ pile) := by
  intro p hp
  simp only [List.mem_cons, List.mem_append] at hp ⊢
  rcases hp with h | h | h | h | h | h | h
  · exact .inr (.inr (.inl h))
  · exact .inr (.inr (.inr (.inl h)))
  · exact .inr (.inr (.inr (.inr (.inl h))))
  · exact .inr (.inr (.inr (.inr (.inr (.inl h)))))
  · exact .inl h
  · exact .inr (.inl h)
  · exact .inr (.inr (.inr (.inr (.inr (.inr h)))))
theorem sub_item {α : Type} {a b c t : α} {bs pile : List α} : ∀ p ∈ a :: b :: c :: (bs ++ (t :: pile)), p ∈ t :: a :: b :: c :: (bs ++ pile) := by
  intro p hp
  simp only [List.mem_cons, List.mem_append] at hp ⊢
  rcases hp with h | h | h | h | h | h
  · exact .inr (.inl h)
  · exact .inr (.inr (.inl h))
  · exact .inr (.inr (.inr (.inl h)))
  · exact .inr (.inr (.inr (.inr (.inl h))))
  · exact .inl h
  · exact .inr (.inr (.inr (.inr (.inr h))))
theorem off_told {I C D : Addr} {t d : Addr × Obj} {bs pile : List (Addr × Obj)} (h : LCg.Off3 I C D (bs ++ pile)) (ht : @Ne Nat t.1 I ∧ @Ne Nat t.1 C ∧ @Ne Nat t.1 D) (hd : @Ne Nat d.1 I ∧ @Ne Nat d.1 C ∧ @Ne Nat d.1 D) : LCg.Off3 I C D (bs ++ (t :: d :: pile)) := by
  refine LCg.Off3.of fun p hp => ?_
  simp only [List.mem_append, List.mem_cons] at hp
  rcases hp with hp | rfl | rfl | hp
  · exact h.mem p (List.mem_append_left _ hp)
  · exact ht
  · exact hd
  · exact h.mem p (List.mem_append_right _ hp)
theorem off_item {I C D : Addr} {t : Addr × Obj} {bs pile : List (Addr × Obj)} (h : LCg.Off3 I C D (bs ++ pile)) (ht : @Ne Nat t.1 I ∧ @Ne Nat t.1 C ∧ @Ne Nat t.1 D) : LCg.Off3 I C D (bs ++ (t :: pile)) := by
  refine LCg.Off3.of fun p hp => ?_
  simp only [List.mem_append, List.mem_cons] at hp
  rcases hp with hp | rfl | hp
  · exact h.mem p (List.mem_append_left _ hp)
  · exact ht
  · exact h.mem p (List.mem_append_right _ hp)
noncomputable def toldItem (SS : List Int) (HH M : Int) (k : Nat) : Dat :=
  .tuple [.list ((piecesOf (Txt.slice (rowT (M + SS.getD k 0)) (some 1) none) 9).map Dat.str), .str (rowT (M + SS.getD (k + 1) 0)), .str (Str.ofString (toString (firstAt SS HH (k + 1))))]
theorem datAll_strs {news : List (Addr × Obj)} : ∀ {zs : List Value} {ys : List Str}, StrsAre zs ys → DatAll news zs (ys.map Dat.str) := by
  intro zs ys h
  induction h with
  | nil => exact .nil
  | cons x u _ ih => exact .cons (.str x u) ih
theorem told_in {pile : List (Addr × Obj)} {SS : List Int} {HH M y0 y1 FA : Int} {i : Nat} {Dt D6 : Addr} {zs : List Value} {t1 t2 : Tok} {n : Nat} (h0 : SS[i]? = some y0) (h1 : SS[i + 1]? = some y1) (hF : firstAt SS HH (i + 1) = FA)
    (hzs : StrsAre zs (piecesOf (Txt.slice (rowT (M + y0)) (some 1) none) 9)) :
    DatIn ((Dt, { cls := .type "tuple", data := .seq #[.ref D6, .str (rowT (M + y1)) t1, .str (Str.ofString (toString FA)) t2] n }) :: (D6, LCg.lst zs) :: pile) (.ref Dt) (toldItem SS HH M i) := by
  unfold toldItem
  rw [getD_of h0, getD_of h1, hF]
  exact DatIn.tuple (vs := [.ref D6, .str (rowT (M + y1)) t1, .str (Str.ofString (toString FA)) t2]) (.head _) (.cons (DatIn.list (.tail _ (.head _)) (datAll_strs hzs)) (.cons (.str _ _) (.cons (.str _ _) .nil)))
theorem split_any {g h : Heap} {L : Addr} {l : List (Addr × Obj)} (N : News g L h l) : ∃ bs, bs = l ∧ News g L h bs := ⟨l, rfl, N⟩
end
section
-- part CA

set_option Elab.async false
set_option maxRecDepth 100000
noncomputable def itemDat (SS : List Int) (M : Int) (k : Nat) : Dat := .tuple [.str (rowT (M + SS.getD k 0)), .str (Str.ofString (toString (k : Int)))]
noncomputable def newAt (SS : List Int) (HH : Int) (k : Nat) : Bool := decide (firstAt SS HH k = (k : Int))
noncomputable def itemsIn (SS : List Int) (HH M : Int) (n : Nat) : List Dat := ((List.range n).filter (newAt SS HH)).map (itemDat SS M)
theorem items_yes {SS : List Int} {HH M : Int} {i : Nat} (h : newAt SS HH i = true) : itemsIn SS HH M (i + 1) = itemsIn SS HH M i ++ [itemDat SS M i] := by
  unfold itemsIn
  rw [List.range_succ, List.filter_append, List.filter_cons_of_pos h, List.map_append]
  rfl
theorem items_no {SS : List Int} {HH M : Int} {i : Nat} (h : newAt SS HH i = false) : itemsIn SS HH M (i + 1) = itemsIn SS HH M i := by
  unfold itemsIn
  rw [List.range_succ, List.filter_append, List.filter_cons_of_neg (by rw [h]; decide)]
  simp
noncomputable def headDat (SS : List Int) (M : Int) : Dat := .tuple [.str (rowT (M + SS.getD 0 0)), .str (Str.ofString "0")]
noncomputable def dueD (SS : List Int) (HH M : Int) (n : Nat) : Dat :=
  .tuple [.list (headDat SS M :: (List.range n).map (toldItem SS HH M)), .list (itemsIn SS HH M (n + 1))]
theorem dat_len {news : List (Addr × Obj)} : ∀ {vs : List Value} {ds : List Dat}, DatAll news vs ds → vs.length = ds.length
  | _, _, .nil => rfl
  | _, _, .cons _ r => by rw [List.length_cons, List.length_cons, dat_len r]
theorem item_in {pile : List (Addr × Obj)} {SS : List Int} {M y : Int} {i : Nat} {Dt : Addr} {t1 t2 : Tok} {n : Nat} (h0 : SS[i]? = some y) :
    DatIn ((Dt, { cls := .type "tuple", data := .seq #[.str (rowT (M + y)) t1, .str (Str.ofString (toString ((i : Nat) : Int))) t2] n }) :: pile) (.ref Dt) (itemDat SS M i) := by
  unfold itemDat
  rw [getD_of h0]
  exact DatIn.tuple (vs := [.str (rowT (M + y)) t1, .str (Str.ofString (toString ((i : Nat) : Int))) t2]) (.head _) (.cons (.str _ _) (.cons (.str _ _) .nil))
end
section
-- part V1

set_option Elab.async false
set_option maxRecDepth 100000
set_option maxHeartbeats 8000000
theorem fresh_V1 : True := by
  w_top off
  k_with_none
  k_with "small" => first | exact Int.toNat_natCast _ | with_reducible exact Nat.mod_lt _ (by decide) | with_reducible exact fm2_lt _ | with_reducible exact fm2_ge _ | with_reducible exact fm4_lt _ _ | with_reducible exact fm4_ge _ _ | with_reducible exact em_lt _ | with_reducible exact em_gt _ | with_reducible exact nat_gt _ | with_reducible exact Int.natCast_nonneg _ | with_reducible exact nat_gt1 _ | with_reducible exact room2 (by assumption) (by decide) | with_reducible exact room1 (by assumption) (by decide) | with_reducible exact room3 (by assumption) (by decide) | with_reducible exact room4 (by assumption) (by decide) | with_reducible exact room0 (by assumption) | with_reducible exact le_le (by assumption) (by decide) | with_reducible exact le_eq (by assumption) (by decide) | with_reducible exact lt_le (by assumption) (by decide) | with_reducible exact sub_one (by assumption) | with_reducible exact sub_j (by assumption) | with_reducible exact sub_dec (by assumption) | with_reducible exact toNat_pred _ | with_reducible exact nat_ge _
  k_with "ne" => first | with_reducible exact Apart.l (by assumption) | with_reducible exact Apart.r (by assumption) | with_reducible exact gt1 (by assumption) | with_reducible exact lt1 (by assumption) | with_reducible exact gt2 (by assumption) | with_reducible exact lt2 (by assumption) | with_reducible exact gl2 (by assumption) | with_reducible exact ll2 (by assumption) | with_reducible exact gt3 (by assumption) | with_reducible exact lt3 (by assumption) | with_reducible exact gl3 (by assumption) | with_reducible exact ll3 (by assumption) | with_reducible exact gt4 (by assumption) | with_reducible exact gl4 (by assumption) | with_reducible exact ll4 (by assumption) | with_reducible exact gl5 (by assumption) | with_reducible exact gl6 (by assumption) | with_reducible exact gl7 (by assumption) | with_reducible exact gl8 (by assumption) | with_reducible exact gl9 (by assumption) | with_reducible exact gl10 (by assumption) | with_reducible exact gl11 (by assumption)
  k_with "k_room" => ((try simp only [depth_under_make, depth_under_kw, depth_in1, depth_deeper, depth_caller]); first | decide | ktr_room)
  k_with "cell_enter" => (refine' code_defG (by k_asm) (by k_asm) (by k_asm) (by k_asm) (by k_asm) rfl rfl (by assumption) (by k_is) (by k_is) (by ktr_room) (by first | exact BindsTo.of_eq rfl | exact binds_K (by k_in) rfl (by k_is) rfl rfl rfl) (by exact locs rfl) ?_ (by exact rfl) (by exact rfl) (by exact rfl) (by decide); k_whole; intro g' L' h' FG' F' N' B' X' T' GS'; (try dsimp only); (try k_lift B'); (try k_fold))
  k_with "exec If" => (k_here; dsimp only)
  k_with "execs cons" => (k_here; dsimp only)
  k_with "isTrue" => (k_here; dsimp only)
  k_with "exec Assign" => (k_here; dsimp only)
  k_with "exec Expr" => (k_here; dsimp only)
  k_with "eval Attribute" => (k_here; dsimp only)
  k_with "execs nil" => (k_here; dsimp only)
  k_with "eval BinOp" => (k_here; (try dsimp only); k_gentoks)
  k_with "eval Subscript" => (k_here; (try dsimp only); k_gentoks)
  k_with "eval Constant int" => (k_here; (try dsimp only); k_gentoks)
  trivial

theorem lay_V1_4 : True := by
  k_with "eval ListComp" => (k_here; (refine hold_out ?_))
  k_with "CompSrcT" => (refine hold_out ?_)
  k_with "CompSrc" => (refine hold_out ?_)
  k_with "CSrc" => (refine hold_out ?_)
  k_with "CompEnd" => (refine hold_out ?_)
  k_with "call ref" => (k_here; (refine hold_out ?_))
  k_with "subscriptTail" => (k_here; (with_reducible show wpAny _ _ (subscriptTail _ _ (Value.ref _) (Value.int _ _)) _ _ _); k_dflt (refine' item_at (by k_asm) (by k_mem) (by assumption) ?_; k_whole))
  k_with "binaryOp Add ref ref" => (refine hold_out ?_)
  trivial
theorem now_c_due : True := by
  k_with "now" =>
    unfold ClaimN
    k_fill
    intro dp un gd cn cs a ccd cl outer A₀ base h₀ L m s Q E hB hF hX hN hT hcs hdp hun hpre hret
    k_lift hB
    refine wpAny_call ?_
    k_dflt (refine' code_defCG ?k1 ?k2 ?k3 ?k4 ?k5 ?kA ?kF ?kK ?k6 ?k7 ?k8 ?k9 ?kB ?kD ?_ ?c2 ?c3 ?c4; (case kA => exact rfl); (case kF => exact rfl); (case kK => assumption); (case k1 => k_asm); (case k2 => k_asm); (case k3 => k_asm); (case k4 => k_asm); (case k5 => k_asm); (case k6 => k_is); (case k7 => k_is); (case k8 => ktr_room); (case k9 => first | exact BindsTo.of_eq rfl | exact binds_K (by k_in) rfl (by k_is) rfl rfl rfl); (case kB => exact rfl); (case kD => decide +kernel); (case c2 => exact rfl); (case c3 => exact rfl); (case c4 => exact rfl); k_whole)
    intro g' L' h1 tk1 cells1 FG' F1 N1 Y1 B' X' T' l1 GS'
    (try k_lt l1)
    obtain ⟨oc1, oc2, oc3, oc4, oc5, rfl, hc1, hc2, hc3, hc4, hc5⟩ := kc_five Y1
    (try simp only [List.cons_append, List.nil_append] at N1)
    (try dsimp only)
    k_lift B'
    (try k_fold)
    have hl0 : g'.IsList r vs.toArray := let ⟨o, ho, hr⟩ := hpre; ⟨o, GS' _ _ ho (fun h => nomatch h), hr⟩
    have hvl := ints_len hy
    replace F1 : Fr g' L' h1 (fun y => if y = Str.ofString "ups" then some (Value.ref r) else none) := fr_eq F1 (fun y => rfl)
    replace hc1 : oc1.data = .cell none := hc1
    replace hc2 : oc2.data = .cell none := hc2
    replace hc3 : oc3.data = .cell none := hc3
    replace hc4 : oc4.data = .cell none := hc4
    replace hc5 : oc5.data = .cell (some (Value.int mode t)) := hc5
    have hf5 : mode.fmod 512 = mode % 512 := Int.fmod_eq_emod_of_nonneg _ (by decide)
    have hr0 : 0 ≤ mode.fmod 512 := by omega
    have hr1 : mode.fmod 512 < 512 := by omega
    k_steps
    rename News g' L' _ _ => N2
    rename Fr g' L' _ _ => F2
    refine hold_in ?_
    k_dflt (refine' useN (c_sets w LO mean mg mb (mode.fmod 512) _ r vs ups hy (by omega) hr0 hr1) ?k1 F2 ?k3 N2 ?k5 ?k6 ?k7 ?k8 ?k9 ?_; (case k1 => k_asm); (case k3 => k_asm); (case k5 => k_asm); (case k6 => exact rfl); (case k7 => ktr_room); (case k8 => ktr_units); (case k9 => exact hl0.at (fun o e => F2.keep _ _ e)))
    rintro _ _ h3 tk3 ⟨D1, ws1, n1, rfl, rfl, hS⟩ F3 N3 ne3
    simp only [List.cons_append, List.nil_append] at N3
    simp only [List.mem_singleton, forall_eq, List.forall_mem_cons, List.not_mem_nil, false_implies, implies_true, and_true] at ne3
    generalize mode.fmod 512 :: setsF (cnt0 (mode.fmod 512)) ups = SS at *
    have hH0 : 0 ≤ (mode.fdiv 2048).fmod 2 * 64 + (mode.fdiv 1024).fmod 2 * 8 + (mode.fdiv 512).fmod 2 := by
      rw [Int.fmod_eq_emod_of_nonneg _ (by decide), Int.fmod_eq_emod_of_nonneg _ (by decide), Int.fmod_eq_emod_of_nonneg _ (by decide)]; omega
    generalize (mode.fdiv 2048).fmod 2 * 64 + (mode.fdiv 1024).fmod 2 * 8 + (mode.fdiv 512).fmod 2 = HH at *
    have hwl := ints_len hS
    have hd5 : mode.fdiv 512 = mode / 512 := Int.fdiv_eq_ediv_of_nonneg _ (by decide)
    k_steps
    rename News g' L' _ _ => N4
    rename Fr g' L' _ _ => F4
    refine hold_in (LCg.ListComp_U (F₀ := F4) (by with_unfolding_all rfl) (by decide) (by rfl) (by decide) (by rfl) ?_)
    k_steps
    refine hold_in (LCg.CompSrc.ledger (by rfl) F4 N4 (by k_mem) (by rw [List.size_toArray, sizeLine_eq]; omega) ?_)
    intro gR
    refine rest_ind ws1.toArray.size (fun i acc news => news = _ ∧ StrsAre acc ((SS.take i).map fun y => rowT (mode.fdiv 512 * 512 + y))) ?finR ?turnR _ 0 [] _ rfl ⟨rfl, .nil⟩
    case turnR =>
      rintro k i acc news hk ⟨rfl, hacc⟩ IH
      refine LCg.CompRest.succ ?_
      intro v1 I1 oI1 C1 oC1 D2 m1 h9 tk9 E9 hv1 hC1 hx1 F9 N9 off9 neR
      obtain ⟨y, ty, hyi, rfl⟩ := ints_at hS hv1
      obtain ⟨hy0, hy1⟩ := hSb y (List.mem_of_getElem? hyi)
      k_steps
      refine hold_in ?_
      k_dflt (refine' useP (c_rowP w LO mean mg mb (mode.fdiv 512 * 512 + y) _ (by omega) (by omega)) ?k1 F9 ?k3 N9 ?k5 ?k6 ?k7 ?k8 trivial ?_; (case k1 => k_asm); (case k3 => k_asm); (case k5 => k_asm); (case k6 => exact rfl); (case k7 => ktr_room); (case k8 => ktr_units))
      rintro _ h10 tk10 ⟨u, rfl⟩ F10 N10
      k_steps
      refine hold_in (LCg.CompEnd.intro F10 N10 _ (fun _ h => h) off9 (.inr ⟨_, .head _, rfl, _, rfl⟩) (IH _ _ ⟨rfl, ?_⟩))
      rw [List.take_add_one, hyi, Option.toList_some, List.map_append]
      exact Mine.strs_snoc hacc
    case finR =>
      rintro acc news ⟨rfl, hrows⟩
      rw [List.take_of_length_le (by rw [List.size_toArray]; omega)] at hrows
      k_steps
      rename News g' L' _ _ => N6
      rename Fr g' L' _ _ => F6
      refine hold_in (cell_comp F6 (by with_unfolding_all rfl) (fun _ => rfl) (fun _ => rfl) (by rfl) (by decide) (fun _ _ => rfl) ?_)
      k_steps
      rename News g' L' _ _ => N7
      rename Fr g' L' _ _ => F7
      rename IsRange _ _ _ _ _ _ _ _ => hR7
      refine hold_in ⟨_, _, _, _, _, _, SS.length, _, rfl, by rfl, F7, N7, hR7, (range_small (by omega)).1, (range_small (by omega)).2, by rw [sizeLine_eq]; omega, ?_⟩
      intro gC
      refine crest_ind SS.length (fun i acc => IntsAre acc ((List.range i).map (firstAt SS HH))) ?finF ?turnF _ 0 [] rfl .nil
      case turnF =>
        rintro k i acc9 hk hacc IH t0 I1 oI1 C1 oC1 D3 c1 oc h9 tk9 E9 hoc F9 N9 ⟨⟨a1, a2, a3, a4, a5, a6⟩, a7⟩
        rw [Int.zero_add] at hoc
        simp only [List.mem_cons, List.not_mem_nil, or_false, forall_eq_or_imp, forall_eq] at a7
        have hiS : i < SS.length := by omega
        obtain ⟨yk, hyk⟩ : ∃ yk, SS[i]? = some yk := ⟨_, List.getElem?_eq_getElem hiS⟩
        obtain ⟨tyk, hwk⟩ := ints_get hS hyk
        have hyk0 := (hSb yk (List.mem_of_getElem? hyk)).1
        have eik : ((i : Nat) : Int).toNat = i := by omega
        rw [← eik] at hwk
        k_steps
        refine hold_in (LCt.ListComp_T (F₀ := F9) (by with_unfolding_all rfl) (by decide) (by rfl) (by decide) (by rfl) ?_)
        k_steps
        rename News g' L' _ _ => N10
        rename Fr g' L' _ _ => F10
        rename IsRange _ _ _ _ _ _ _ _ => hR10
        have hb10 : ((i : Nat) : Int) + 1 = ((i + 1 : Nat) : Int) := by push_cast; rfl
        rw [hb10] at hR10
        refine hold_in (LCt.CompSrcT.range (n := i + 1) (by rfl) F10 N10 hR10 (range_small (by omega)).1 (range_small (by omega)).2 (by rw [sizeLine_eq]; omega) ?_)
        intro gI
        refine restT_ind (i + 1) (fun j acc news => news = _ ∧ IntsAre acc (firstsIn SS HH i j)) ?finI ?turnI _ 0 [] _ rfl ⟨rfl, .nil⟩
        case turnI =>
          rintro k2 j acc news hk2 ⟨rfl, hacc2⟩ IH2
          refine LCt.CompRestT.succ ?_
          intro v1 I2 oI2 C2 oC2 D4 m1 h11 tk11 E11 hv1 hC1 hx1 F11 N11 off11 ne11
          obtain ⟨t9, rfl⟩ := hv1
          rw [Int.zero_add] at hx1
          have hjS : j < SS.length := by omega
          obtain ⟨yj, hyj⟩ : ∃ yj, SS[j]? = some yj := ⟨_, List.getElem?_eq_getElem hjS⟩
          obtain ⟨tyj, hwj⟩ := ints_get hS hyj
          have ejk : ((j : Nat) : Int).toNat = j := by omega
          rw [← ejk] at hwj
          k_steps
          · rename Builtin.bitOr _ _ = _ => hq
            rw [ejk, eik] at hq
            refine hold_in (LCg.CompEnd.intro F11 N11 _ (fun _ h => h) off11 trivial (IH2 _ _ ⟨rfl, ?_⟩))
            rw [firsts_yes (decide_eq_true hq)]
            exact ints_snoc hacc2
          · rename ¬ Builtin.bitOr _ _ = _ => hq
            rw [ejk, eik] at hq
            refine hold_in (LCg.CompEnd.intro F11 N11 _ (fun _ h => h) off11 trivial (IH2 _ _ ⟨rfl, ?_⟩))
            rw [firsts_no (decide_eq_false hq)]
            exact hacc2
        case finI =>
          rintro acc news ⟨rfl, hf⟩
          obtain ⟨rest, hrest⟩ := first_some (SS := SS) (k := i) hH0 (by rw [getD_of hyk]; exact hyk0)
          rw [hrest] at hf
          obtain ⟨tf, hf0⟩ := ints_head hf
          replace hf0 : At acc 0 (Value.int (firstAt SS HH i) tf) := ⟨by decide, by decide, hf0⟩
          k_steps
          · assumption
          · exact news_sub (by assumption) (fun p hp => .tail _ hp)
          · refine IH _ ?_
            rw [List.range_succ, List.map_append]
            exact ints_snoc hacc
      case finF =>
        intro acc9 hfirsts
        k_steps
        rename News g' L' _ _ => N12
        rename Fr g' L' _ _ => F12
        rename IsRange _ _ _ _ _ _ _ _ => hR12
        obtain ⟨bs, hbs, N12⟩ := split_any N12
        refine hold_in (LCg.CompSrc.range (n := ups.length) (by rfl) F12 N12 hR12 (range_small (by omega)).1 (range_small (by omega)).2 (by rw [sizeLine_eq]; omega) ?_)
        intro gT
        refine rest_ind ups.length (fun i accT news => ∃ pile, news = bs ++ pile ∧ DatAll pile accT ((List.range i).map (toldItem SS HH (mode.fdiv 512 * 512)))) ?finT ?turnT _ 0 [] _ rfl ⟨[], (List.append_nil _).symm, .nil⟩
        case turnT =>
          rintro k i accT news hk ⟨pile, rfl, haT⟩ IH
          refine LCg.CompRest.succ ?_
          intro v1 I1 oI1 C1 oC1 D5 m1 h9 tk9 E9 hv1 hC1 hx1 F9 N9 off9 neT
          obtain ⟨t9, rfl⟩ := hv1
          rw [Int.zero_add] at hx1
          subst hbs
          simp only [List.cons_append, List.nil_append] at N9 off9
          have eik : ((i : Nat) : Int).toNat = i := by omega
          have eik1 : ((i : Nat) + 1 : Int).toNat = i + 1 := by omega
          obtain ⟨y0, hy0⟩ : ∃ y, SS[i]? = some y := ⟨_, List.getElem?_eq_getElem (by omega)⟩
          obtain ⟨y1, hy1⟩ : ∃ y, SS[i + 1]? = some y := ⟨_, List.getElem?_eq_getElem (by omega)⟩
          have hyk1 := (hSb y1 (List.mem_of_getElem? hy1)).1
          obtain ⟨tr0, hr0⟩ := strs_get (i := i) hrows (by rw [List.getElem?_map, hy0]; rfl)
          obtain ⟨tr1, hr1⟩ := strs_get (i := i + 1) hrows (by rw [List.getElem?_map, hy1]; rfl)
          obtain ⟨tf1, hf1⟩ := ints_get (i := i + 1) hfirsts (y := firstAt SS HH (i + 1)) (by rw [List.getElem?_map, List.getElem?_range (by omega)]; rfl)
          obtain ⟨hfa, hfb⟩ := first_range (SS := SS) (k := i + 1) hH0 (by rw [getD_of hy1]; exact hyk1)
          replace hr0 : At acc (i : Nat) (Value.str (rowT (mode.fdiv 512 * 512 + y0)) tr0) := ⟨by omega, by omega, by rw [eik]; exact hr0⟩
          replace hr1 : At acc ((i : Nat) + 1) (Value.str (rowT (mode.fdiv 512 * 512 + y1)) tr1) := ⟨by omega, by omega, by rw [eik1]; exact hr1⟩
          replace hf1 : At acc9 ((i : Nat) + 1) (Value.int (firstAt SS HH (i + 1)) tf1) := ⟨by omega, by omega, by rw [eik1]; exact hf1⟩
          generalize hFA : firstAt SS HH (i + 1) = FA at *
          obtain ⟨row0, hrow0⟩ : ∃ r, r = rowT (mode.fdiv 512 * 512 + y0) := ⟨_, rfl⟩
          obtain ⟨row1, hrow1⟩ : ∃ r, r = rowT (mode.fdiv 512 * 512 + y1) := ⟨_, rfl⟩
          have hrl0 : row0.length = 10 := by rw [hrow0]; exact rowT_len _
          have hrl1 : row1.length = 10 := by rw [hrow1]; exact rowT_len _
          rw [← hrow0] at hr0
          rw [← hrow1] at hr1
          k_steps
          rename News g' L' _ _ => N13
          rename Fr g' L' _ _ => F13
          refine hold_in ?_
          k_dflt (refine' useN (c_runs w LO mean mg mb _ _ (tail_len hrl0)) ?k1 F13 ?k3 N13 ?k5 ?k6 ?k7 ?k8 trivial ?_; (case k1 => k_asm); (case k3 => k_asm); (case k5 => k_asm); (case k6 => exact rfl); (case k7 => ktr_room); (case k8 => ktr_units))
          rintro _ _ h14 tk14 ⟨D6, zs, rfl, rfl, hzs⟩ F14 N14 ne14
          simp only [List.cons_append, List.nil_append] at N14
          simp only [List.mem_singleton, forall_eq] at ne14
          have ne15 : @Ne Nat D6 I1 ∧ @Ne Nat D6 C1 ∧ @Ne Nat D6 D5 := ⟨Ne.symm (ne14 _ (.head _)), Ne.symm (ne14 _ (.tail _ (.head _))), Ne.symm (ne14 _ (.tail _ (.tail _ (.head _))))⟩
          clear ne14
          k_steps
          rename News g' L' _ _ => N15
          rename Fr g' L' _ _ => F15
          refine hold_in (LCg.CompEnd.intro F15 N15 _ (sub_told (bs := [_, _, _, _, _, _, _, _])) (off_told (bs := [_, _, _, _, _, _, _, _]) off9 ⟨by dsimp only; omega, by dsimp only; omega, by dsimp only; omega⟩ ne15) trivial (IH _ _ ⟨_, rfl, ?_⟩))
          rw [List.range_succ, List.map_append]
          subst hrow0 hrow1
          exact DatAll.append (DatAll.mono (fun p hp => .tail _ (.tail _ hp)) haT) (.one (told_in hy0 hy1 hFA hzs))
        case finT =>
          rintro accT news ⟨pile, rfl, hT9⟩
          subst hbs
          simp only [List.cons_append, List.nil_append]
          obtain ⟨y0, hy0⟩ : ∃ y, SS[0]? = some y := ⟨_, List.getElem?_eq_getElem (by omega)⟩
          obtain ⟨tr0, hr0⟩ := strs_get (i := 0) hrows (by rw [List.getElem?_map, hy0]; rfl)
          replace hr0 : At acc 0 (Value.str (rowT (mode.fdiv 512 * 512 + y0)) tr0) := ⟨by decide, by decide, hr0⟩
          have hlT := dat_len hT9
          rw [List.length_map, List.length_range] at hlT
          k_steps
          rename News g' L' _ _ => N16
          rename Fr g' L' _ _ => F16
          refine hold_in (kmk_add_lit F16 N16 (N16.isList (by k_mem)) (N16.isList (by k_mem)) (zs := _ :: accT) rfl ?plusT (by rw [sizeLine_eq]; simp only [List.length_cons, List.length_nil]; omega))
          case plusT =>
          intro Dl h17 F17 N17 l17
          clear l17
          k_steps
          rename News g' L' _ _ => N18
          rename Fr g' L' _ _ => F18
          refine hold_in (LCt.ListComp_T (F₀ := F18) (by with_unfolding_all rfl) (by decide) (by rfl) (by decide) (by rfl) ?_)
          k_steps
          rename News g' L' _ _ => N19
          rename Fr g' L' _ _ => F19
          rename IsRange _ _ _ _ _ _ _ _ => hR19
          obtain ⟨bs2, hbs2, N19⟩ := split_any N19
          refine hold_in (LCt.CompSrcT.range (n := SS.length) (by rfl) F19 N19 hR19 (range_small (by omega)).1 (range_small (by omega)).2 (by rw [sizeLine_eq]; omega) ?_)
          intro gM
          refine restT_ind SS.length (fun i accI news => ∃ pile2, news = bs2 ++ pile2 ∧ DatAll pile2 accI (itemsIn SS HH (mode.fdiv 512 * 512) i)) ?finM ?turnM _ 0 [] _ rfl ⟨[], (List.append_nil _).symm, .nil⟩
          case turnM =>
            rintro k i accI news hk ⟨pile2, rfl, haI⟩ IH
            refine LCt.CompRestT.succ ?_
            intro v1 I1 oI1 C1 oC1 D7 m1 h20 tk20 E20 hv1 hC1 hx1 F20 N20 off20 ne20
            obtain ⟨t9, rfl⟩ := hv1
            rw [Int.zero_add] at hx1
            subst hbs2
            simp only [List.cons_append, List.nil_append] at N20 off20
            have eik : ((i : Nat) : Int).toNat = i := by omega
            obtain ⟨yk, hyk⟩ : ∃ y, SS[i]? = some y := ⟨_, List.getElem?_eq_getElem (by omega)⟩
            obtain ⟨trk, hrk⟩ := strs_get (i := i) hrows (by rw [List.getElem?_map, hyk]; rfl)
            obtain ⟨tfk, hfk⟩ := ints_get (i := i) hfirsts (y := firstAt SS HH i) (by rw [List.getElem?_map, List.getElem?_range (by omega)]; rfl)
            replace hrk : At acc (i : Nat) (Value.str (rowT (mode.fdiv 512 * 512 + yk)) trk) := ⟨by omega, by omega, by rw [eik]; exact hrk⟩
            replace hfk : At acc9 (i : Nat) (Value.int (firstAt SS HH i) tfk) := ⟨by omega, by omega, by rw [eik]; exact hfk⟩
            generalize hFA : firstAt SS HH i = FA at *
            k_steps
            · rename News g' L' _ _ => N21
              rename Fr g' L' _ _ => F21
              rename FA = _ => hq
              refine hold_in (LCg.CompEnd.intro F21 N21 _ (sub_item (bs := _ :: _ :: _ :: _ :: _ :: _ :: _ :: _ :: _ :: _ :: _ :: _ :: pile)) (off_item (bs := _ :: _ :: _ :: _ :: _ :: _ :: _ :: _ :: _ :: _ :: _ :: _ :: pile) off20 ⟨by dsimp only; omega, by dsimp only; omega, by dsimp only; omega⟩) trivial (IH _ _ ⟨_, rfl, ?_⟩))
              rw [items_yes (decide_eq_true (hFA.trans hq))]
              exact DatAll.append (DatAll.mono (fun p hp => .tail _ hp) haI) (.one (item_in hyk))
            · rename ¬ FA = _ => hq
              refine hold_in (LCg.CompEnd.intro F20 N20 _ (fun _ h => h) off20 trivial (IH _ _ ⟨_, rfl, ?_⟩))
              rw [items_no (decide_eq_false (fun h => hq (hFA.symm.trans h)))]
              exact haI
          case finM =>
            rintro accI news ⟨pile2, rfl, haI⟩
            subst hbs2
            simp only [List.cons_append, List.nil_append]
            k_steps
            rename News h₀ _ _ _ => kN9
            rename News g' L' _ _ => kN8
            rename Fr h₀ _ _ _ => kF9
            rename Fr g' L' _ _ => kF8
            refine hret _ _ _ _ ⟨_, rfl, ?_⟩ kF9 kN9 (gsub_keep GS' kF8) (fresh_g GS' kN8)
            rw [hSl] at haI
            unfold dueD headDat
            rw [getD_of hy0]
            refine DatIn.tuple (vs := [.ref _, .ref _]) (.head _) (.cons (DatIn.list (vs := _ :: accT) (.tail _ (.tail _ (.head _))) (.cons (DatIn.tuple (vs := [.str _ _, .str _ _]) (.tail _ (.tail _ (.tail _ (.tail _ (.head _))))) (.cons (.str _ _) (.cons (.str _ _) .nil))) (DatAll.mono ?_ hT9))) (.cons (DatIn.list (.tail _ (.head _)) (DatAll.mono ?_ haI)) .nil))
            · intro p hp
              simp only [List.mem_cons, List.mem_append, hp, true_or, or_true]
            · intro p hp
              simp only [List.mem_cons, List.mem_append, hp, true_or, or_true]
  trivial
theorem c_due (w : World) (LO : List Str) (mean : ExcName → Option Value) (mg mb : Str → Option Value) (mode : Int) (t : Tok) (r : Nat) (vs : List Value) (ups : List Int) (hy : IntsAre vs ups) (hl2 : 2 ≤ ups.length) (hl7 : ups.length ≤ 7) (h0 : 0 ≤ mode) (h65 : mode < 65536) (hSb : ∀ y ∈ mode.fmod 512 :: setsF (cnt0 (mode.fmod 512)) ups, 0 ≤ y ∧ y < 512) (hSl : (mode.fmod 512 :: setsF (cnt0 (mode.fmod 512)) ups).length = ups.length + 1) :
   ClaimN w LO mean mg mb 12 130 951 [.int mode t, .ref r] [] (fun H => H.IsList r vs.toArray) [] (fun v small' => ∃ b, v = .ref b ∧ DatIn small' (.ref b) (dueD (mode.fmod 512 :: setsF (cnt0 (mode.fmod 512)) ups) ((mode.fdiv 2048).fmod 2 * 64 + (mode.fdiv 1024).fmod 2 * 8 + (mode.fdiv 512).fmod 2) (mode.fdiv 512 * 512) ups.length)) := (by exact whole_of _ : Whole by_lay)
end
section
-- part H3

set_option Elab.async false
set_option maxRecDepth 100000
set_option maxHeartbeats 8000000
theorem fresh_H3 : True := by
  w_top off
  k_with_none
  k_with "small" => first | exact Int.toNat_natCast _ | with_reducible exact Nat.mod_lt _ (by decide) | with_reducible exact fm2_lt _ | with_reducible exact fm2_ge _ | with_reducible exact fm4_lt _ _ | with_reducible exact fm4_ge _ _ | with_reducible exact em_lt _ | with_reducible exact em_gt _ | with_reducible exact nat_gt _ | with_reducible exact Int.natCast_nonneg _ | with_reducible exact nat_gt1 _ | with_reducible exact room2 (by assumption) (by decide) | with_reducible exact room1 (by assumption) (by decide) | with_reducible exact room3 (by assumption) (by decide) | with_reducible exact room4 (by assumption) (by decide) | with_reducible exact room0 (by assumption) | with_reducible exact le_le (by assumption) (by decide) | with_reducible exact le_eq (by assumption) (by decide) | with_reducible exact lt_le (by assumption) (by decide) | with_reducible exact sub_one (by assumption) | with_reducible exact sub_j (by assumption) | with_reducible exact sub_dec (by assumption) | with_reducible exact toNat_pred _ | with_reducible exact nat_ge _
  k_with "ne" => first | with_reducible exact Apart.l (by assumption) | with_reducible exact Apart.r (by assumption) | with_reducible exact gt1 (by assumption) | with_reducible exact lt1 (by assumption) | with_reducible exact gt2 (by assumption) | with_reducible exact lt2 (by assumption) | with_reducible exact gl2 (by assumption) | with_reducible exact ll2 (by assumption) | with_reducible exact gt3 (by assumption) | with_reducible exact lt3 (by assumption) | with_reducible exact gl3 (by assumption) | with_reducible exact ll3 (by assumption) | with_reducible exact gt4 (by assumption) | with_reducible exact gl4 (by assumption) | with_reducible exact ll4 (by assumption) | with_reducible exact gl5 (by assumption) | with_reducible exact gl6 (by assumption) | with_reducible exact gl7 (by assumption) | with_reducible exact gl8 (by assumption) | with_reducible exact gl9 (by assumption) | with_reducible exact gl10 (by assumption) | with_reducible exact gl11 (by assumption)
  k_with "k_room" => ((try simp only [depth_under_make, depth_under_kw, depth_in1, depth_deeper, depth_caller]); first | decide | ktr_room)
  k_with "cell_enter" => (refine' code_defG (by k_asm) (by k_asm) (by k_asm) (by k_asm) (by k_asm) rfl rfl (by assumption) (by k_is) (by k_is) (by ktr_room) (by first | exact BindsTo.of_eq rfl | exact binds_K (by k_in) rfl (by k_is) rfl rfl rfl) (by exact locs rfl) ?_ (by exact rfl) (by exact rfl) (by exact rfl) (by decide); k_whole; intro g' L' h' FG' F' N' B' X' T' GS'; (try dsimp only); (try k_lift B'); (try k_fold))
  k_with "exec If" => (k_here; dsimp only)
  k_with "execs cons" => (k_here; dsimp only)
  k_with "isTrue" => (k_here; dsimp only)
  k_with "exec Assign" => (k_here; dsimp only)
  k_with "exec Expr" => (k_here; dsimp only)
  k_with "eval Attribute" => (k_here; dsimp only)
  k_with "execs nil" => (k_here; dsimp only)
  k_with "execs cons" => (k_here; (try dsimp only); (with_reducible refine toks_gen ?_); intro tk')
  k_with "execs nil" => (k_here; (try dsimp only); (with_reducible refine toks_gen ?_); intro tk')
  k_with "call ref" => (k_here; (show wpAny _ _ (call (Value.ref 858) _ _) _ _ _); k_dflt (refine' use_get0 (by k_asm) (by k_asm) (by k_asm) (by k_asm) (by k_asm) (by exact rfl) (by ktr_room) (by ktr_units) (by exact HdAll.keeps (Fr.keep (by k_asm)) (by assumption)) (by assumption) (by assumption) (by assumption) (by assumption) (by assumption) (by assumption) ?_; k_whole); intros; (try k_sweep))
  k_with "call ref" => (k_here; (show wpAny _ _ (call (Value.ref 858) _ _) _ _ _); k_dflt (refine' use_get1 (by k_asm) (by k_asm) (by k_asm) (by k_asm) (by k_asm) (by exact rfl) (by ktr_room) (by ktr_units) (by exact HdAll.keeps (Fr.keep (by k_asm)) (by assumption)) (by assumption) (by assumption) (by assumption) (by assumption) (by assumption) (by assumption) ?_; k_whole); intros; (try k_sweep))
  trivial

theorem lay_H3_3 : True := by
  k_with "call ref" => (k_here; (show wpAny _ _ (call (Value.ref 810) _ _) _ _ _); k_dflt (refine' use_cstN (by k_asm) (by k_asm) (by k_asm) (by k_asm) (by k_asm) (by exact rfl) (by ktr_room) (by ktr_units) (by assumption) ?_; k_whole); intro _ _ _ _; (try k_sweep))
  k_with "call ref" => (k_here; (show wpAny _ _ (call (Value.ref 810) _ _) _ _ _); k_dflt (refine' use_cstV (by k_asm) (by k_asm) (by k_asm) (by k_asm) (by k_asm) (by exact rfl) (by ktr_room) (by ktr_units) (by assumption) ?_; k_whole); intro _ _ _ _; (try k_sweep))
  k_with "call builtin:list.append" => (k_here; (with_reducible show wpAny _ _ (call (Value.builtin _) [Value.ref _, _]) _ _ _); k_dflt (refine' app_L (by k_asm) (by k_asm) (by k_upd) (by omega) ?_; k_whole); intro _ _ _; (try k_sweep))
  trivial
theorem c_sd (w : World) (LO : List Str) (mean : ExcName → Option Value) (mg mb : Str → Option Value) (x dx hl : Nat) (hh : Int) (hk t tv : Tok) (n : Nat) (name value : Str) (vs : List Value) (ps : List (Str × Str)) (hn1 : Plain name) (hv1 : Plain value) (hname : Plain (Txt.lower name)) (h1l : PySem.Builtin.Str.tooLong (Txt.lower name).length = false) (hps : ∀ p ∈ ps, PySem.Builtin.Str.tooLong (Txt.lower p.1).length = false)
   (o1 : dx < x) (o2 : x < hl) (hvs : vs.length ≤ 100) :
   ClaimN w LO mean mg mb 10 100 901 [.ref x, .str name t, .str value tv] [] (fun H => HdAll H vs ps) (hdLed x dx hl hh hk vs n) (SdPost x dx hl hh hk vs n ps name value) := by
  unfold ClaimN
  k_fill
  intro dp un gd cn cs a ccd cl outer A₀ base h₀ L m s Q E hB hF hX hN hT hcs hdp hun hpre hret
  k_lift hB
  refine wpAny_call ?_
  k_dflt (refine' code_defG ?k1 ?k2 ?k3 ?k4 ?k5 ?kA ?kF ?kK ?k6 ?k7 ?k8 ?k9 ?kB ?_ ?c2 ?c3 ?c4 ?c5; (case kA => exact rfl); (case kF => exact rfl); (case kK => assumption); (case k1 => k_asm); (case k2 => k_asm); (case k3 => k_asm); (case k4 => k_asm); (case k5 => k_asm); (case k6 => k_is); (case k7 => k_is); (case k8 => ktr_room); (case k9 => first | exact BindsTo.of_eq rfl | exact binds_K (by k_in) rfl (by k_is) rfl rfl rfl); (case c5 => decide); (case kB => exact locs rfl); (case c2 => exact rfl); (case c3 => exact rfl); (case c4 => exact rfl); k_whole)
  intro g' L' h1 FG' F1 N1 B' X' T' GS'
  replace F1 := fr_clean [(Str.ofString "value", Value.str value tv), (Str.ofString "name", Value.str name t), (Str.ofString "self", Value.ref x)] F1 (by rfl)
  (try dsimp only)
  k_lift B'
  (try k_fold)
  dsimp only [hdLed] at hN N1 hret GS' ⊢
  have hpre1 := hpre.imp fun a vs T => isTup_g GS' hN (hdLed_cls x dx hl hh hk _ n) T
  unfold SdPost at hret
  cases hf : hdFind ps (Txt.lower name) with
  | none =>
    rw [hf] at hret
    dsimp only at hret
    k_steps
    rename News g' L' _ _ => kN8
    rename News h₀ _ _ _ => kN9
    rename Fr g' L' _ _ => kF8
    rename Fr h₀ _ _ _ => kF9
    have hsub : ∀ {α : Type} {a b c d : α}, ∀ p ∈ [b, c, d] ++ [a], p ∈ [a, b, c, d] := fun p hp => by
      simp only [List.cons_append, List.nil_append, List.mem_cons, List.not_mem_nil, or_false] at hp ⊢
      rcases hp with rfl | rfl | rfl | rfl <;> simp
    exact hret _ _ _ _ ⟨_, _, _, _, _, _, rfl, rfl⟩ kF9 (news_sub kN9 hsub) (gsub_keep GS' kF8) (fun p hp => fresh_g GS' kN8 p (hsub p hp))
  | some v =>
    rw [hf] at hret
    dsimp only at hret
    k_steps
    rename News g' L' _ _ => kN8
    rename News h₀ _ _ _ => kN9
    rename Fr g' L' _ _ => kF8
    rename Fr h₀ _ _ _ => kF9
    exact hret _ _ _ _ ⟨_, rfl, rfl⟩ kF9 kN9 (gsub_keep GS' kF8) (fresh_g GS' kN8)
end
section
-- part H4

set_option Elab.async false
set_option maxRecDepth 100000
set_option maxHeartbeats 8000000
theorem fresh_H4 : True := by
  w_top off
  k_with_none
  k_with "small" => first | exact Int.toNat_natCast _ | with_reducible exact Nat.mod_lt _ (by decide) | with_reducible exact fm2_lt _ | with_reducible exact fm2_ge _ | with_reducible exact fm4_lt _ _ | with_reducible exact fm4_ge _ _ | with_reducible exact em_lt _ | with_reducible exact em_gt _ | with_reducible exact nat_gt _ | with_reducible exact Int.natCast_nonneg _ | with_reducible exact nat_gt1 _ | with_reducible exact room2 (by assumption) (by decide) | with_reducible exact room1 (by assumption) (by decide) | with_reducible exact room3 (by assumption) (by decide) | with_reducible exact room4 (by assumption) (by decide) | with_reducible exact room0 (by assumption) | with_reducible exact le_le (by assumption) (by decide) | with_reducible exact le_eq (by assumption) (by decide) | with_reducible exact lt_le (by assumption) (by decide) | with_reducible exact sub_one (by assumption) | with_reducible exact sub_j (by assumption) | with_reducible exact sub_dec (by assumption) | with_reducible exact toNat_pred _ | with_reducible exact nat_ge _
  k_with "ne" => first | with_reducible exact Apart.l (by assumption) | with_reducible exact Apart.r (by assumption) | with_reducible exact gt1 (by assumption) | with_reducible exact lt1 (by assumption) | with_reducible exact gt2 (by assumption) | with_reducible exact lt2 (by assumption) | with_reducible exact gl2 (by assumption) | with_reducible exact ll2 (by assumption) | with_reducible exact gt3 (by assumption) | with_reducible exact lt3 (by assumption) | with_reducible exact gl3 (by assumption) | with_reducible exact ll3 (by assumption) | with_reducible exact gt4 (by assumption) | with_reducible exact gl4 (by assumption) | with_reducible exact ll4 (by assumption) | with_reducible exact gl5 (by assumption) | with_reducible exact gl6 (by assumption) | with_reducible exact gl7 (by assumption) | with_reducible exact gl8 (by assumption) | with_reducible exact gl9 (by assumption) | with_reducible exact gl10 (by assumption) | with_reducible exact gl11 (by assumption)
  k_with "k_room" => ((try simp only [depth_under_make, depth_under_kw, depth_in1, depth_deeper, depth_caller]); first | decide | ktr_room)
  k_with "cell_enter" => (refine' code_defG (by k_asm) (by k_asm) (by k_asm) (by k_asm) (by k_asm) rfl rfl (by assumption) (by k_is) (by k_is) (by ktr_room) (by first | exact BindsTo.of_eq rfl | exact binds_K (by k_in) rfl (by k_is) rfl rfl rfl) (by exact locs rfl) ?_ (by exact rfl) (by exact rfl) (by exact rfl) (by decide); k_whole; intro g' L' h' FG' F' N' B' X' T' GS'; (try dsimp only); (try k_lift B'); (try k_fold))
  k_with "exec If" => (k_here; dsimp only)
  k_with "execs cons" => (k_here; dsimp only)
  k_with "isTrue" => (k_here; dsimp only)
  k_with "exec Assign" => (k_here; dsimp only)
  k_with "exec Expr" => (k_here; dsimp only)
  k_with "eval Attribute" => (k_here; dsimp only)
  k_with "execs nil" => (k_here; dsimp only)
  k_with "execs cons" => (k_here; (try dsimp only); (with_reducible refine toks_gen ?_); intro tk')
  k_with "execs nil" => (k_here; (try dsimp only); (with_reducible refine toks_gen ?_); intro tk')
  trivial

theorem c_hd (w : World) (LO : List Str) (mean : ExcName → Option Value) (mg mb : Str → Option Value) :
   ClaimN w LO mean mg mb 8 80 911 [] [] (fun _ => True) [] (fun r small' => ∃ (x dx hl : Nat) (hh : Int) (hk : Tok) (n : Nat), r = .ref x ∧ small' = hdLed x dx hl hh hk [] n ∧ dx < x ∧ x < hl) := by
  unfold ClaimN
  k_fill
  intro dp un gd cn cs a ccd cl outer A₀ base h₀ L m s Q E hB hF hX hN hT hcs hdp hun _ hret
  k_lift hB
  k_dflt (refine' call_clsG ?k1 ?k2 ?k3 ?k4 ?k5 ?k6 ?_; (case k1 => k_asm); (case k2 => k_asm); (case k3 => k_asm); (case k4 => k_is); (case k5 => k_is); (case k6 => k_is); k_whole)
  intro x' d' hq F0 N0 l1 l2 hKG
  clear l1
  k_lt2 l2
  k_dflt (refine' code_defG ?k1 ?k2 ?k3 ?k4 ?k5 ?kA ?kF ?kK ?k6 ?k7 ?k8 ?k9 ?kB ?_ ?c2 ?c3 ?c4 ?c5; (case kA => exact rfl); (case kF => exact rfl); (case kK => assumption); (case k1 => k_asm); (case k2 => k_asm); (case k3 => k_asm); (case k4 => k_asm); (case k5 => k_asm); (case k6 => k_is); (case k7 => k_is); (case k8 => ktr_room); (case k9 => first | exact BindsTo.of_eq rfl | exact binds_K (by k_in) rfl (by k_is) rfl rfl rfl); (case c5 => decide); (case kB => exact locs rfl); (case c2 => exact rfl); (case c3 => exact rfl); (case c4 => exact rfl); k_whole)
  intro g' L' h1 FG' F1 N1 B' X' T' GS'
  replace F1 := fr_clean [(Str.ofString "headers", Value.none), (Str.ofString "self", Value.ref x')] F1 (by rfl)
  (try dsimp only)
  k_lift B'
  (try k_fold)
  k_steps
  rename News g' L' _ _ => kN8
  rename News h₀ _ _ _ => kN9
  rename Fr g' L' _ _ => kF8
  rename Fr h₀ _ _ _ => kF9
  have hsub : ∀ {α : Type} {a b c : α}, ∀ p ∈ [b, c, a], p ∈ [a, b, c] := fun p hp => by
    simp only [List.mem_cons, List.not_mem_nil, or_false] at hp ⊢
    rcases hp with rfl | rfl | rfl <;> simp
  exact hret _ _ _ _ ⟨_, _, _, _, _, _, rfl, rfl, by omega, by omega⟩ kF9 (news_sub kN9 hsub) (gsub_of_keep (fun b o e => kF8.keep b o (hKG g' GS' b o e)) _) (fun p hp _ => by
    cases q : s.heap.get? p.1 with
    | none => rfl
    | some o => have := hKG g' GS' _ _ q; rw [(kN8 p (hsub p hp)).2.2] at this; cases this)
theorem c_it (w : World) (LO : List Str) (mean : ExcName → Option Value) (mg mb : Str → Option Value) (x dx hl : Nat) (hh : Int) (hk : Tok) (n : Nat) (vs : List Value) (hvs : vs.length ≤ 100) (o1 : dx < x) (o2 : x < hl) :
   ClaimN w LO mean mg mb 4 40 875 [.ref x] [] (fun _ => True) (hdLed x dx hl hh hk vs n) (fun r small' => ∃ D n', r = .ref D ∧ small' = hdLed x dx hl hh hk vs n ++ [(D, listOf vs.toArray n')]) := by
  unfold ClaimN
  k_fill
  intro dp un gd cn cs a ccd cl outer A₀ base h₀ L m s Q E hB hF hX hN hT hcs hdp hun _ hret
  k_lift hB
  refine wpAny_call ?_
  k_dflt (refine' code_defG ?k1 ?k2 ?k3 ?k4 ?k5 ?kA ?kF ?kK ?k6 ?k7 ?k8 ?k9 ?kB ?_ ?c2 ?c3 ?c4 ?c5; (case kA => exact rfl); (case kF => exact rfl); (case kK => assumption); (case k1 => k_asm); (case k2 => k_asm); (case k3 => k_asm); (case k4 => k_asm); (case k5 => k_asm); (case k6 => k_is); (case k7 => k_is); (case k8 => ktr_room); (case k9 => first | exact BindsTo.of_eq rfl | exact binds_K (by k_in) rfl (by k_is) rfl rfl rfl); (case c5 => decide); (case kB => exact locs rfl); (case c2 => exact rfl); (case c3 => exact rfl); (case c4 => exact rfl); k_whole)
  intro g' L' h1 FG' F1 N1 B' X' T' GS'
  replace F1 := fr_clean [(Str.ofString "self", Value.ref x)] F1 (by rfl)
  (try dsimp only)
  k_lift B'
  (try k_fold)
  dsimp only [hdLed] at hN N1 hret GS' ⊢
  k_steps
  rename News h₀ _ _ _ => kN9
  rename News g' L' _ _ => kN8
  rename Fr g' L' _ _ => kF8
  rename Fr h₀ _ _ _ => kF9
  have e0 : slicePick vs.toArray none none none = vs.toArray := by rw [kms_pick_eq]; simp [kms_pick, kms_hi, kms_lo]
  rw [e0] at kN9 kN8
  have hsub : ∀ {α : Type} {a b c d : α}, ∀ p ∈ [b, c, d] ++ [a], p ∈ [a, b, c, d] := fun p hp => by
    simp only [List.cons_append, List.nil_append, List.mem_cons, List.not_mem_nil, or_false] at hp ⊢
    rcases hp with rfl | rfl | rfl | rfl <;> simp
  exact hret _ _ _ _ ⟨_, _, rfl, rfl⟩ kF9 (news_sub kN9 hsub) (gsub_keep GS' kF8) (fun p hp => fresh_g GS' kN8 p (hsub p hp))
end
section
-- part K1
open PySem.Calls
set_option Elab.async false
set_option maxRecDepth 100000
section
variable {prog : Program} {w : World} {A A₀ : Around} {E : Value → Shared → Prop} {s : Shared} {K : Frag} {L : Addr} {h₀ base g g₁ h' : Heap} {m mg mb : Str → Option Value} {news : List (Addr × Obj)} {p : Program} {loose : List Str} {mean : ExcName → Option Value} {cn : Str} {cs : Scope} {a : Addr} {ccd : Value} {cl : List (Str × Addr)} {outer : List Env}
/-- a frame whose base has turned gives its caller a turned base -/
theorem kts_leave (B : Below A₀ base outer h₀) (FG : Fr h₀ L g m) (T : KtsTurn ((envX cn cs L a ccd cl :: outer).filterMap (·.frame)) g g₁) (k : ∀ b o, g₁.get? b = some o → h'.get? b = some o) :
    ∃ h₁, KtsTurn (outer.filterMap (·.frame)) h₀ h₁ ∧ Fr h₁ L h' m ∧ Below A₀ base outer h₁ := by
  refine kts_ground (name := cn) (scope := cs) (a := a) (cd := ccd) (B := hideAll g ((envX cn cs L a ccd cl :: outer).filterMap (·.frame))) B FG ?_ ?_ ?_
  · intro b o e hm
    exact hideAll_get _ e hm
  · intro b o e
    refine k b o (T.other b o (of_hideAll _ e) fun hm => ?_)
    have := hideAll_none (h := g) _ hm
    rw [e] at this; cases this
  · intro b o e _
    obtain ⟨sl, hs⟩ := T.up e
    exact ⟨sl, k _ _ hs⟩
noncomputable def LeaveT (A₀ : Around) (base h₀ : Heap) (outer : List Env) (L : Addr) (m : Str → Option Value) (fs : List Addr) (g : Heap) (R : Result → Shared → Prop) (v : Value) (s' : Shared) : Prop :=
  ∃ g₁ L' m' news', KtsTurn fs g g₁ ∧ Fr g₁ L' s'.heap m' ∧ News g₁ L' s'.heap news' ∧ (∀ h₁, KtsTurn (outer.filterMap (·.frame)) h₀ h₁ → Fr h₁ L s'.heap m → Below A₀ base outer h₁ → News h₁ L s'.heap news' → R (.ok (.ret v)) s')
theorem leave_turn {R : Result → Shared → Prop} {v : Value} {s' : Shared} (B : Below A₀ base outer h₀) (FG : Fr h₀ L g m) (h : LeaveT A₀ base h₀ outer L m ((envX cn cs L a ccd cl :: outer).filterMap (·.frame)) g R v s') : R (.ok (.ret v)) s' := by
  obtain ⟨g₁, L', m', news', T, F, N, k⟩ := h
  obtain ⟨h₁, T₁, F₁, B₁⟩ := kts_leave B FG T F.keep
  obtain ⟨oL, es, ep, hL, _⟩ := FG.ns
  obtain ⟨sL, hL1⟩ := T.up hL
  refine k h₁ T₁ F₁ B₁ fun q hq => ⟨(N q hq).1, fun z => ?_, T₁.none_ _ ?_⟩
  · have := (N q hq).2.2
    rw [z, hL1] at this; cases this
  · cases z : h₀.get? q.1 with
    | none => rfl
    | some o =>
      obtain ⟨sl, hs⟩ := T.up (FG.keep _ _ z)
      have := (N q hq).2.2
      rw [hs] at this; cases this
theorem code_defT {R : Result → Shared → Prop} {name qual : Str} {params : Arguments} {body : List Stmt} {scope : Scope} {dV kV doc pm cdv ct oc : Value} {an od : Option Addr} {osl : Array (Option Value)} {f : Addr} {args : Args} {binds : List (Str × Value)}
    (B : Below A₀ base outer h₀) (F : Fr h₀ L s.heap m) (X₀ : K.In h₀) (N : News h₀ L s.heap news) (T : Top p loose mean mg mb h₀) (hA : A.frames = some (envX cn cs L a ccd cl :: outer)) (hke : cs.kind = .function)
    (ho : K.lookup f = some ⟨oc, od, .func (fnOf name qual params body scope dV kV doc pm an cdv ct), osl⟩) (hcd : codeIn K cdv qual = true) (hroom : A.depth < recursionLimit)
    (hbind : BindsTo s (fnOf name qual params body scope dV kV doc pm an cdv ct) args binds) (hloc : ∀ y ∈ binds, scope.names.lookup y.1 = some .local)
    (h : ∀ g L' h₁, Fr h₀ L g m → Fr g L' h₁ (fun y => binds.reverse.lookup y) → News g L' h₁ news → Below A base (envX cn cs L a ccd cl :: outer) g → K.In g → Top p loose mean mg mb g → (∀ p ∈ news, p.1 < L') → GSub s.heap g (news.map (·.1)) →
      wpAny (model prog w) (A.deeper (envOf qual scope L' f cdv)) (execs body (envOf qual scope L' f cdv))
        (fun fl s' => LeaveT A₀ base h₀ outer L m ((envX cn cs L a ccd cl :: outer).filterMap (·.frame)) g R (match fl with | .ret v => v | _ => .none) s')
        (fun e s' => wpAny (model prog w) (A.deeper (envOf qual scope L' f cdv)) (leaving (envOf qual scope L' f cdv) e) (fun _ s'' => R (.error e) s'') (fun e' s'' => R (.error e') s'') s')
        { s with heap := h₁, toks := s.toks + binds.length })
    (hco : scope.isCoroutine = false) (hgen : scope.isGenerator = false) (hk : scope.kind = .function)
    (hcell : ∀ x ∈ scope.names, x.2 ≠ .cell) : codeAny (model prog w) A (.call (.ref f) args) R s := by
  obtain ⟨FG, BG, st, _⟩ := groundX (R := R) B F N hA rfl hke
  refine codeAny_call_def (fd := fnX name qual params body scope [] dV kV doc pm an cdv ct) (body := body) (binds := binds) hroom ((X₀.keeps F.keep) _ _ ho) rfl (T.nolimit.keeps F.keep) (codeRec_of (X₀.keeps F.keep) hcd) rfl hbind hcell hloc (fun h₁ hns hk₁ => ?_) hco hgen hk
  exact wpAny_mono (h _ s.heap.objs.size h₁ FG ⟨hns, fun b o e => hk₁ b o (of_hideAll _ e), Nat.le_of_eq (hideAll_size _ _)⟩
    (fun p hp => ⟨hk₁ _ _ (N p hp).1, Nat.ne_of_lt (Heap.lt_size (N p hp).1), hideAll_none _ (List.mem_map_of_mem hp)⟩) BG (X₀.keeps st) (T.keeps st) (fun p hp => Heap.lt_size (N p hp).1) (fun b o e n => hideAll_get _ e n)) (fun fl s' hl => leave_turn B FG hl) fun _ _ y => y
end
section
variable {prog : Program} {w : World} {A : Around} {E : Value → Shared → Prop} {s : Shared} {h₀ : Heap} {L : Addr} {m : Str → Option Value} {news news' : List (Addr × Obj)}
theorem it_range {r : Addr} {b : Int} {t u v : Tok} {n : Nat} {Q : Value → Shared → Prop} (hr : IsRange s.heap r 0 b 1 t u v) (hsmall : Builtin.Range.small 0 b 1 = true) (hn : Builtin.Range.rangeSize 0 b 1 = (n : Int)) (F : Fr h₀ L s.heap m) (N : News h₀ L s.heap news)
    (h : ∀ I h', (∀ p ∈ news, p.1 < I) → Fr h₀ L h' m → News h₀ L h' ((I, krsIt 0 (n : Int) 1) :: news) → Q (.ref I) { s with heap := h' }) : wpAny (model prog w) A (pyIter (.ref r)) Q E s := by
  refine wpAny_pyIter_range hr hsmall ?_
  rw [hn]
  exact h _ _ (fun p hp => Heap.lt_size (N p hp).1) (F.push _) (N.push F _)
theorem nx_range {I : Addr} {x left : Int} {Q : Option Value → Shared → Prop} (F : Fr h₀ L s.heap m) (N : News h₀ L s.heap news) (hl : 0 < left)
    (U : Upd I (krsIt x left 1) (krsIt (x + 1) (left - 1) 1) news news') (h : ∀ t h' tk, Fr h₀ L h' m → News h₀ L h' news' → Q (some (.int x t)) { s with heap := h', toks := tk }) : wpAny (model prog w) A (pyNext (.ref I)) Q E s := by
  have ho := upd_get N U
  exact wpAny_pyNext_range_item ho hl fun h' hi hs => h _ _ _ (upd_fields F N U hs hi).1 (upd_fields F N U hs hi).2
theorem nx_range_end {I : Addr} {x left : Int} {Q : Option Value → Shared → Prop} (hh : A.handled = none) (F : Fr h₀ L s.heap m) (N : News h₀ L s.heap ((I, krsIt x left 1) :: news)) (hl : left ≤ 0) (off : ∀ p ∈ news, p.1 ≠ I)
    (h : ∀ h', Fr h₀ L h' m → News h₀ L h' news → Q none { s with heap := h' }) : wpAny (model prog w) A (pyNext (.ref I)) Q E s := by
  have z := N _ (.head _)
  refine wpAny_pyNext_range_end hh z.1 hl fun h' hs => h h' ?_ fun p hp => ⟨hs _ _ (off p hp) (N p (.tail _ hp)).1, (N p (.tail _ hp)).2⟩
  obtain ⟨oL, es, ep, hL, r⟩ := F.ns
  refine ⟨⟨oL, es, ep, hs _ _ (Ne.symm z.2.1) hL, r⟩, fun b o e => hs _ _ (fun q => ?_) (F.keep b o e), F.above⟩
  have := z.2.2
  rw [← q, e] at this; cases this
end
section
variable {w : World} {LO : List Str} {mean : ExcName → Option Value} {mg mb : Str → Option Value}
  {dp un : Nat} {gd : Option (List Code)} {cn : Str} {cs : Scope} {a : Addr} {ccd : Value} {cl : List (Str × Addr)} {outer : List Env} {A₀ : Around} {base h₀ : Heap} {L : Addr} {m : Str → Option Value} {s : Shared} {Q E : Value → Shared → Prop}
  {D U : Nat} {f : Addr} {vs : List Value} {kw : List (Str × Value)} {Pre : Heap → Prop} {small rest : List (Addr × Obj)} {Post : Value → List (Addr × Obj) → Prop} {news : List (Addr × Obj)}
/-- a contract upon a ledger, used upon a wider one -/
theorem useNS (c : ClaimN w LO mean mg mb D U f vs kw Pre small Post) (hB : Below A₀ base outer h₀) (hF : Fr h₀ L s.heap m) (hX : (hdK.heap_1 w.params).In h₀) (hN : News h₀ L s.heap (small ++ rest)) (off : ∀ p ∈ rest, p.1 ∉ small.map (·.1)) (hT : Top hdK.view_39 LO mean mg mb h₀) (hcs : cs.kind = .function) (hdp : dp + D < recursionLimit) (hun : un + U < cLine) (hpre : Pre s.heap)
    (h : ∀ v small' h' tk, Post v small' → Fr h₀ L h' m → News h₀ L h' (small' ++ rest) → (∀ p ∈ small', p.1 ∉ small.map (·.1) → ∀ q ∈ small ++ rest, @Ne Nat q.1 p.1) → Q v { s with heap := h', toks := tk }) :
    wpAny (model PySem.Challenge.rw_op0282_01.row.prog w) (ktrTop dp un gd cn cs L a ccd cl outer) (call (.ref f) vs kw) Q E s := by
  refine c dp un gd cn cs a ccd cl outer A₀ base h₀ L m s Q E hB hF hX (fun p hp => hN p (List.mem_append_left _ hp)) hT hcs hdp hun hpre ?_
  intro v small' h' tk hp F' N' G fr
  refine h v small' h' tk hp F' (fun p hm => ?_) fun p hp ha q hq e => ?_
  · rcases List.mem_append.mp hm with hm | hm
    · exact N' p hm
    · have z := hN p (List.mem_append_right _ hm)
      exact ⟨G _ _ z.1 (off p hm), z.2⟩
  · have := fr p hp ha
    rw [← e, (hN q hq).1] at this; cases this
end
end
section
-- part K2

set_option Elab.async false
set_option maxRecDepth 100000
theorem lk_cons (y a : Str) (u : Value) (l : List (Str × Value)) : List.lookup y ((a, u) :: l) = if y = a then some u else List.lookup y l := by
  by_cases h : y = a
  · subst h; simp [List.lookup]
  · have : (y == a) = false := by simpa using h
    simp [List.lookup, this, h]
/-- the ledger's pairs of texts -/
inductive HdIn (pile : List (Addr × Obj)) : List Value → List (Str × Str) → Prop
  | nil : HdIn pile [] []
  | cons {a : Addr} {k v : Str} {tk tv : Tok} {n : Nat} {vs : List Value} {ps : List (Str × Str)} (hm : (a, tupObj #[.str k tk, .str v tv] n) ∈ pile) (r : HdIn pile vs ps) : HdIn pile (.ref a :: vs) ((k, v) :: ps)
theorem HdIn.mono {pile pile' : List (Addr × Obj)} (f : ∀ p ∈ pile, p ∈ pile') : ∀ {vs : List Value} {ps : List (Str × Str)}, HdIn pile vs ps → HdIn pile' vs ps := by
  intro vs ps h
  induction h with
  | nil => exact .nil
  | cons hm _ ih => exact .cons (f _ hm) ih
theorem HdIn.snoc {pile : List (Addr × Obj)} {a : Addr} {k v : Str} {tk tv : Tok} {n : Nat} : ∀ {vs : List Value} {ps : List (Str × Str)}, HdIn pile vs ps → (a, tupObj #[.str k tk, .str v tv] n) ∈ pile → HdIn pile (vs ++ [.ref a]) (ps ++ [(k, v)]) := by
  intro vs ps h hn
  induction h with
  | nil => exact .cons hn .nil
  | cons hm _ ih => exact .cons hm ih
theorem HdIn.toAll {g h : Heap} {L : Addr} {news pile : List (Addr × Obj)} (N : News g L h news) (f : ∀ p ∈ pile, p ∈ news) : ∀ {vs : List Value} {ps : List (Str × Str)}, HdIn pile vs ps → HdAll h vs ps := by
  intro vs ps h
  induction h with
  | nil => exact .nil
  | cons hm _ ih => exact .cons ⟨_, (N _ (f _ hm)).1, rfl, _, rfl⟩ ih
noncomputable def pairDat (p : Str × Str) : Dat := .tuple [.str p.1, .str p.2]
theorem HdIn.dat {pile : List (Addr × Obj)} : ∀ {vs : List Value} {ps : List (Str × Str)}, HdIn pile vs ps → DatAll pile vs (ps.map pairDat)
  | _, _, .nil => .nil
  | _, _, .cons hm r => .cons (DatIn.tuple (vs := [.str _ _, .str _ _]) hm (.cons (.str _ _) (.cons (.str _ _) .nil))) r.dat
noncomputable def runsOf (mode : Int) : List Str := toStrs (runs ((rowT mode).cps.toList.drop 1))
noncomputable def setD (ps : List (Str × Str)) (name value : Str) : Str × List (Str × Str) :=
  match hdFind ps (Txt.lower name) with
  | none => (value, ps ++ [(name, value)])
  | some v => (v, ps)
theorem setD_all {P : Str → Prop} {ps : List (Str × Str)} {name value : Str} (h : ∀ p ∈ ps, P p.1) (hn : P name) : ∀ p ∈ (setD ps name value).2, P p.1 := by
  unfold setD
  cases hdFind ps (Txt.lower name) with
  | none =>
    intro p hp
    rcases List.mem_append.mp hp with hp | hp
    · exact h p hp
    · rw [List.mem_singleton.mp hp]; exact hn
  | some v => exact h
theorem allLt_mem {d : Nat} : ∀ {l : List (Addr × Obj)}, AllLt d l → ∀ p ∈ l, @LT.lt Nat _ p.1 d
  | [], _, _, h => nomatch h
  | q :: r, h, p, hp => by
    rcases List.mem_cons.mp hp with rfl | hp
    · exact h.1
    · exact allLt_mem h.2 p hp
noncomputable def kText (k : Nat) : Str := Str.ofString (toString (k : Int))
/-- the teller's state after k turns: the mode, the table, what is told -/
noncomputable def tellF (mode : Int) (ups : List Int) : Nat → Int × List (Str × Str) × List Dat
  | 0 => (mode, (setD [] (rowT mode) (Str.ofString "0")).2, [.tuple [.str (rowT mode), .str (setD [] (rowT mode) (Str.ofString "0")).1]])
  | k + 1 =>
    let st := tellF mode ups k
    let mode' := turnedOf st.1 (runsOf st.1) (ups.getD k 0)
    let d := setD st.2.1 (rowT mode') (kText (k + 1))
    (mode', d.2, st.2.2 ++ [.tuple [.list ((runsOf st.1).map Dat.str), .str (rowT mode'), .str d.1]])
structure RowFacts (mode : Int) : Prop where
  sg : ∀ c ∈ (rowT mode).cps.toList.drop 1, sgn c = true
  pl : Plain (rowT mode)
  plL : Plain (Txt.lower (rowT mode))
  len : PySem.Builtin.Str.tooLong (Txt.lower (rowT mode)).length = false
  fm : Txt.join (Str.ofString "") (picks 0 mode FMT) = rowT mode
  ne : runsOf mode ≠ []
  each : ∀ y ∈ runsOf mode, y.cps.toList ≠ [] ∧ y.length ≤ 9
  tl : ∀ u : Int, u = 0 ∨ u = 1 → 0 ≤ turnedOf mode (runsOf mode) u ∧ turnedOf mode (runsOf mode) u < 65536
section
variable {w : World} {LO : List Str} {mean : ExcName → Option Value} {mg mb : Str → Option Value}
  {dp un : Nat} {gd : Option (List Code)} {cn : Str} {cs : Scope} {a : Addr} {ccd : Value} {cl : List (Str × Addr)} {outer : List Env} {A₀ : Around} {base h₀ : Heap} {L : Addr} {m : Str → Option Value} {s : Shared} {Q E : Value → Shared → Prop}
  {x dx hl : Nat} {hh : Int} {hk t tv : Tok} {n : Nat} {name value : Str} {vs : List Value} {ps : List (Str × Str)} {rest pile : List (Addr × Obj)}
theorem use_sd (hB : Below A₀ base outer h₀) (hF : Fr h₀ L s.heap m) (hX : (hdK.heap_1 w.params).In h₀) (hN : News h₀ L s.heap (hdLed x dx hl hh hk vs n ++ rest)) (off : ∀ p ∈ rest, @Ne Nat p.1 x ∧ @Ne Nat p.1 dx ∧ @Ne Nat p.1 hl) (hT : Top hdK.view_39 LO mean mg mb h₀) (hcs : cs.kind = .function) (hdp : dp + 10 < recursionLimit) (hun : un + 100 < cLine)
    (hin : HdIn pile vs ps) (hsub : ∀ p ∈ pile, p ∈ rest) (hn1 : Plain name) (hv1 : Plain value) (hname : Plain (Txt.lower name)) (h1l : PySem.Builtin.Str.tooLong (Txt.lower name).length = false) (hps : ∀ p ∈ ps, PySem.Builtin.Str.tooLong (Txt.lower p.1).length = false)
    (o1 : dx < x) (o2 : x < hl) (hvs : vs.length ≤ 100)
    (h : ∀ vs' n' add u h' tk, Fr h₀ L h' m → News h₀ L h' (hdLed x dx hl hh hk vs' n' ++ (add ++ rest)) → HdIn (add ++ pile) vs' (setD ps name value).2 → (∀ p ∈ add, ∀ q ∈ hdLed x dx hl hh hk vs n ++ rest, @Ne Nat q.1 p.1) → vs'.length ≤ vs.length + 1 → Q (.str (setD ps name value).1 u) { s with heap := h', toks := tk }) :
    wpAny (model PySem.Challenge.rw_op0282_01.row.prog w) (ktrTop dp un gd cn cs L a ccd cl outer) (call (.ref 901) [.ref x, .str name t, .str value tv] []) Q E s := by
  refine useNS (c_sd w LO mean mg mb x dx hl hh hk t tv n name value vs ps hn1 hv1 hname h1l hps o1 o2 hvs) hB hF hX hN ?_ hT hcs hdp hun (hin.toAll hN fun p hp => List.mem_append_right _ (hsub p hp)) ?_
  · intro p hp hm
    obtain ⟨e1, e2, e3⟩ := off p hp
    simp only [List.map_cons, List.map_nil, List.mem_cons, List.not_mem_nil, or_false] at hm
    rcases hm with e | e | e
    · exact e1 e
    · exact e2 e
    · exact e3 e
  intro v small' h' tk hp F' N' fr
  unfold SdPost at hp
  unfold setD at h
  cases hf : hdFind ps (Txt.lower name) with
  | none =>
    rw [hf] at hp h
    obtain ⟨a', t1, t2, t3, n', k, rfl, rfl⟩ := hp
    refine h _ n' [(a', tupObj #[.str name t1, .str value t2] k)] t3 h' tk F' (by rw [← List.append_assoc]; exact N') ((hin.mono fun p hp => List.mem_append_right _ hp).snoc (.head _)) ?_ (by simp)
    intro p hp q hq
    obtain rfl := List.mem_singleton.mp hp
    refine fr _ (List.mem_append_right _ (.head _)) (fun hm => ?_) q hq
    obtain ⟨q', hq', e⟩ := List.mem_map.mp (show a' ∈ (hdLed x dx hl hh hk (vs ++ [.ref a']) n').map (·.1) from hm)
    have z1 := (N' _ (List.mem_append_left _ (List.mem_append_left _ hq'))).1
    have z2 := (N' _ (List.mem_append_left _ (List.mem_append_right _ (.head _)))).1
    rw [e, z2] at z1
    have z3 := Option.some.inj z1
    exact hdLed_cls x dx hl hh hk _ n' _ hq' (by rw [← z3])
  | some v' =>
    rw [hf] at hp h
    obtain ⟨u, rfl, rfl⟩ := hp
    exact h vs n [] u h' tk F' N' hin (fun p hp => nomatch hp) (Nat.le_succ _)
end
theorem c_mkN (w : World) (LO : List Str) (mean : ExcName → Option Value) (mg mb : Str → Option Value) (txt : Str) (tt tq : Tok) (hlen : txt.length ≤ 9) (hne : txt.cps.toList ≠ []) :
   ClaimN w LO mean mg mb 8 80 774 [.str txt tt] [(Str.ofString "punctuation_chars", .str (Str.ofString "rwxst") tq)] (fun _ => True) [] (fun r small' => ∃ (K : LexC) (v : LexV), r = .ref K.x ∧ small' = K.at v ∧ K.Ok ∧ LexAt K txt.cps.toList (K.at v)) := c_mk w LO mean mg mb txt tt tq hlen hne
theorem ClaimP.post {w : World} {LO : List Str} {mean : ExcName → Option Value} {mg mb : Str → Option Value} {D U : Nat} {f : Addr} {vs : List Value} {kw : List (Str × Value)} {Pre : Heap → Prop} {R R' : Value → List (Addr × Obj) → Prop} (h : ClaimP w LO mean mg mb D U f vs kw Pre [] R) (k : ∀ v l, R v l → R' v l) : ClaimP w LO mean mg mb D U f vs kw Pre [] R' :=
  fun dp un gd cn cs a ccd cl outer A₀ base h₀ L m s Q E hB hF hX hN hT hcs hdp hun hpre hret => h dp un gd cn cs a ccd cl outer A₀ base h₀ L m s Q E hB hF hX hN hT hcs hdp hun hpre fun v l h' tk hr => hret v l h' tk (k v l hr)
theorem c_turnedP (w : World) (LO : List Str) (mean : ExcName → Option Value) (mg mb : Str → Option Value) (mode up : Int) (t tu : Tok) (r : Nat) (vs : List Value) (ys : List Str) (hy : StrsAre vs ys) (h9 : vs.length ≤ 9) (hne : ys ≠ []) (hyn : ∀ y ∈ ys, y.cps.toList ≠ [] ∧ y.length ≤ 9) (h0 : 0 ≤ mode) (h1 : mode < 65536) :
   ClaimP w LO mean mg mb 6 60 932 [.int mode t, .ref r, .int up tu] [] (fun H => H.IsList r vs.toArray) [] (fun v small' => (∃ u, v = .int (turnedOf mode ys up) u) ∧ small' = []) :=
  (c_turned w LO mean mg mb mode up t tu r vs ys hy h9 hne hyn h0 h1).post fun _ _ ⟨u, a, b⟩ => ⟨⟨u, a⟩, b⟩
theorem fr_nil {g g₁ h : Heap} {L : Addr} {m : Str → Option Value} (T : KtsTurn [] g g₁) (F : Fr g₁ L h m) : Fr g L h m :=
  ⟨F.ns, fun b o e => F.keep b o (T.other b o e (fun h => nomatch h)), by rw [← T.size]; exact F.above⟩
theorem news_nil {g g₁ h : Heap} {L : Addr} {news : List (Addr × Obj)} (T : KtsTurn [] g g₁) (N : News g₁ L h news) : News g L h news := fun p hp =>
  ⟨(N p hp).1, (N p hp).2.1, kts_none (fun b o e => T.other b o e (fun h => nomatch h)) (N p hp).2.2⟩
theorem dat_same {prog : Program} {w : World} {A : Around} {E Q : Value → Shared → Prop} {s : Shared} {h₀ : Heap} {L a b : Addr} {news : List (Addr × Obj)} {d e : Dat} (N : News h₀ L s.heap news) (Da : DatIn news (.ref a) d) (Db : DatIn news (.ref b) e) (hde : d = e) (ok : kqdOk 8 e = true) (hu : A.units + 64 < cLine) (h : Q (.bool true) s) :
    wpAny (model prog w) A (compareOp .Eq (.ref a) (.ref b)) Q E s := by
  subst hde
  obtain ⟨as, ra⟩ := kqd_in N 8 Da ok
  obtain ⟨bs, rb⟩ := kqd_in N 8 Db ok
  have la := kqd_lay 8 d ok
  have e : PyData.eqv (kqdP d) (kqdP d) = true := (kqd_eqv 8 d d 8 ok ok).mpr rfl
  refine eq_dataH ra rb ?_ ?_ hu (by rw [e]; exact h)
  · unfold SeqAt.shaped; rw [la.1, Bool.true_and]; exact decide_eq_true (Nat.le_trans la.2 (by decide))
  · unfold SeqAt.shaped; rw [la.1, Bool.true_and]; exact decide_eq_true (Nat.le_trans la.2 (by decide))
/-- the rights told of, and what is hidden -/
noncomputable def setsOf (md : Int) (ups : List Int) : List Int := md.fmod 512 :: setsF (cnt0 (md.fmod 512)) ups
noncomputable def hidOf (md : Int) : Int := (md.fdiv 2048).fmod 2 * 64 + (md.fdiv 1024).fmod 2 * 8 + (md.fdiv 512).fmod 2
noncomputable def dueOf (md : Int) (ups : List Int) : Dat := dueD (setsOf md ups) (hidOf md) (md.fdiv 512 * 512) ups.length
noncomputable def tellOf (md : Int) (ups : List Int) : Dat := .tuple [.list (tellF md ups ups.length).2.2, .list ((tellF md ups ups.length).2.1.map pairDat)]
end
section
-- part V2

set_option Elab.async false
set_option maxRecDepth 100000
set_option maxHeartbeats 8000000
theorem fresh_V2 : True := by
  w_top off
  k_with_none
  k_with "small" => first | exact Int.toNat_natCast _ | with_reducible exact Nat.mod_lt _ (by decide) | with_reducible exact fm2_lt _ | with_reducible exact fm2_ge _ | with_reducible exact fm4_lt _ _ | with_reducible exact fm4_ge _ _ | with_reducible exact em_lt _ | with_reducible exact em_gt _ | with_reducible exact nat_gt _ | with_reducible exact Int.natCast_nonneg _ | with_reducible exact nat_gt1 _ | with_reducible exact room2 (by assumption) (by decide) | with_reducible exact room1 (by assumption) (by decide) | with_reducible exact room3 (by assumption) (by decide) | with_reducible exact room4 (by assumption) (by decide) | with_reducible exact room0 (by assumption) | with_reducible exact le_le (by assumption) (by decide) | with_reducible exact le_eq (by assumption) (by decide) | with_reducible exact lt_le (by assumption) (by decide) | with_reducible exact sub_one (by assumption) | with_reducible exact sub_j (by assumption) | with_reducible exact sub_dec (by assumption) | with_reducible exact toNat_pred _ | with_reducible exact nat_ge _
  k_with "ne" => first | with_reducible exact Apart.l (by assumption) | with_reducible exact Apart.r (by assumption) | with_reducible exact gt1 (by assumption) | with_reducible exact lt1 (by assumption) | with_reducible exact gt2 (by assumption) | with_reducible exact lt2 (by assumption) | with_reducible exact gl2 (by assumption) | with_reducible exact ll2 (by assumption) | with_reducible exact gt3 (by assumption) | with_reducible exact lt3 (by assumption) | with_reducible exact gl3 (by assumption) | with_reducible exact ll3 (by assumption) | with_reducible exact gt4 (by assumption) | with_reducible exact gl4 (by assumption) | with_reducible exact ll4 (by assumption) | with_reducible exact gl5 (by assumption) | with_reducible exact gl6 (by assumption) | with_reducible exact gl7 (by assumption) | with_reducible exact gl8 (by assumption) | with_reducible exact gl9 (by assumption) | with_reducible exact gl10 (by assumption) | with_reducible exact gl11 (by assumption)
  k_with "k_room" => ((try simp only [depth_under_make, depth_under_kw, depth_in1, depth_deeper, depth_caller]); first | decide | ktr_room)
  k_with "cell_enter" => (refine' code_defG (by k_asm) (by k_asm) (by k_asm) (by k_asm) (by k_asm) rfl rfl (by assumption) (by k_is) (by k_is) (by ktr_room) (by first | exact BindsTo.of_eq rfl | exact binds_K (by k_in) rfl (by k_is) rfl rfl rfl) (by exact locs rfl) ?_ (by exact rfl) (by exact rfl) (by exact rfl) (by decide); k_whole; intro g' L' h' FG' F' N' B' X' T' GS'; (try dsimp only); (try k_lift B'); (try k_fold))
  k_with "exec If" => (k_here; dsimp only)
  k_with "execs cons" => (k_here; dsimp only)
  k_with "isTrue" => (k_here; dsimp only)
  k_with "exec Assign" => (k_here; dsimp only)
  k_with "exec Expr" => (k_here; dsimp only)
  k_with "eval Attribute" => (k_here; dsimp only)
  k_with "execs nil" => (k_here; dsimp only)
  k_with "eval BinOp" => (k_here; (try dsimp only); k_gentoks)
  k_with "eval Subscript" => (k_here; (try dsimp only); k_gentoks)
  k_with "eval Constant int" => (k_here; (try dsimp only); k_gentoks)
  trivial

theorem lay_V2_4 : True := by
  k_with "call ref" => (k_here; (refine hold_out ?_))
  k_with "call type:list" => (k_here; (refine hold_out ?_))
  k_with "call builtin:list.append" => (refine hold_out ?_)
  k_with "exec For Name Call cons nil" => (k_here; (with_unfolding_all refine' for_start ?_ (by (intro _; rfl)); k_whole))
  k_with "pyIter ref" => (refine hold_out ?_)
  k_with "LeaveT" => (refine hold_out ?_)
  k_with "ForR" => (refine hold_out ?_)
  k_with "ForP" => (dsimp only [ForP])
  trivial
noncomputable abbrev FMt (l' x r : Addr) (um ur uk uu : Option Value) : Str → Option Value := fun y => if y = Str.ofString "row" then ur else if y = Str.ofString "mode" then um else if y = Str.ofString "runs" then uu else if y = Str.ofString "k" then uk else if y = Str.ofString "told" then some (.ref l') else if y = Str.ofString "ups" then some (.ref r) else if y = Str.ofString "table" then some (.ref x) else none
theorem now_c_told : True := by
  k_with "now" =>
    revert XB TB
    k_fill
    intro XB TB
    k_lift hB
    refine wpAny_call ?_
    k_dflt (refine' code_defT (A₀ := A₀) (base := base) ?k1 ?k2 ?k3 ?k4 ?k5 ?kA ?kK ?k6 ?k7 ?k8 ?k9 ?kB ?_ ?c2 ?c3 ?c4 ?c5; (case kA => exact rfl); (case kK => assumption); (case k1 => k_asm); (case k2 => k_asm); (case k3 => k_asm); (case k4 => k_asm); (case k5 => k_asm); (case k6 => k_is); (case k7 => k_is); (case k8 => ktr_room); (case k9 => first | exact BindsTo.of_eq rfl | exact binds_K (by k_in) rfl (by k_is) rfl rfl rfl); (case c5 => decide); (case kB => exact locs rfl); (case c2 => exact rfl); (case c3 => exact rfl); (case c4 => exact rfl); k_whole)
    intro g' L' h1 FG' F1 N1 B' X' T' l1 GS'
    replace F1 := fr_clean [(Str.ofString "ups", Value.ref r), (Str.ofString "row", Value.str (rowT mode) tr), (Str.ofString "mode", Value.int mode t), (Str.ofString "table", Value.ref x)] F1 (by rfl)
    (try dsimp only)
    k_lift B'
    (try k_fold)

    have hR0 := HR mode h0 h65
    k_steps
    refine hold_in ?_
    k_dflt (refine' use_sd (pile := []) (rest := [(r, listOf us.toArray nu)]) ?k1 F1 ?k3 N1 ?off ?k5 ?k6 ?k7 ?k8 .nil (fun _ h => nomatch h) hR0.pl ⟨by decide +kernel, by decide +kernel, by decide +kernel⟩ hR0.plL hR0.len (fun _ h => nomatch h) o1 o2 (by simp) ?_; (case k1 => k_asm); (case k3 => k_asm); (case k5 => k_asm); (case k6 => exact rfl); (case k7 => ktr_room); (case k8 => ktr_units); (case off => (intro p hp; obtain rfl := List.mem_singleton.mp hp; dsimp only; omega)))
    intro hv2 n2 add2 u2 h2 tk2 F2 N2 hin2 fr2 hlen2
    have hap2 : ∀ p ∈ add2, @Ne Nat p.1 x ∧ @Ne Nat p.1 dx ∧ @Ne Nat p.1 hl ∧ @Ne Nat p.1 r := fun p hp => ⟨Ne.symm (fr2 p hp _ (.head _)), Ne.symm (fr2 p hp _ (.tail _ (.head _))), Ne.symm (fr2 p hp _ (.tail _ (.tail _ (.head _)))), Ne.symm (fr2 p hp _ (.tail _ (.tail _ (.tail _ (.head _)))))⟩
    clear fr2
    replace F2 : Fr g' L' h2 (fun y => if y = Str.ofString "ups" then some (Value.ref r) else if y = Str.ofString "row" then some (.str (rowT mode) tr) else if y = Str.ofString "mode" then some (.int mode t) else if y = Str.ofString "table" then some (.ref x) else none) := fr_eq F2 (fun y => by rw [lk_cons, lk_cons, lk_cons, lk_cons]; rfl)
    replace N2 : News g' L' h2 ((x, instObj 911 dx) :: (dx, dictOf [⟨hh, .str (Str.ofString "_headers") hk, .ref hl⟩] 1) :: (hl, listOf (List.toArray hv2) n2) :: (r, listOf us.toArray nu) :: add2) := news_sub N2 (fun p hp => by
      simp only [hdLed, List.mem_cons, List.mem_append, List.not_mem_nil, or_false] at hp ⊢
      rcases hp with h | h | h | h | h
      · exact .inl (.inl h)
      · exact .inl (.inr (.inl h))
      · exact .inl (.inr (.inr h))
      · exact .inr (.inr h)
      · exact .inr (.inl h))
    have hvl := ints_len hu
    k_steps
    rename_i D9 hx1 lA Dl hx2 lB hx3 F9' N9' hx4 tk9b t1 u1 v1 hR3 F3 N3 keep3
    clear F9' N9' keep3
    replace hl7 : ups.length ≤ 7 := hl7
    refine hold_in (it_range (n := ups.length) hR3 (range_small (by omega)).1 (range_small (by omega)).2 F3 N3 ?_)
    intro I h3 lI F4 N4
    k_lt lI
    have e0 : krsIt 0 (ups.length : Int) 1 = krsIt ((0 : Nat) : Int) ((ups.length : Int) - ((0 : Nat) : Int)) 1 := by simp
    rw [e0] at N4
    refine for_ind (fun k => ups.length - k) (fun k s' => ∃ g1 h' tk n n' tv hv pile tm tr' uk uu, s' = { s with heap := h', toks := tk } ∧ KtsTurn ((envX cn cs L a ccd cl :: outer).filterMap (·.frame)) g' g1 ∧ Fr g1 L' h' (FMt Dl x r (some (.int (tellF mode ups k).1 tm)) (some (.str (rowT (tellF mode ups k).1) tr')) uk uu) ∧
       News g1 L' h' ((I, krsIt (k : Nat) ((ups.length : Int) - (k : Nat)) 1) :: (Dl, listOf (List.toArray tv) n) :: (x, instObj 911 dx) :: (dx, dictOf [⟨hh, .str (Str.ofString "_headers") hk, .ref hl⟩] 1) :: (hl, listOf (List.toArray hv) n') :: (r, listOf us.toArray nu) :: pile) ∧
       Below (ktrTop dp un gd cn cs L a ccd cl outer) base (envX cn cs L a ccd cl :: outer) g1 ∧ (hdK.heap_1 w.params).In g1 ∧ Top hdK.view_39 LO mean mg mb g1 ∧
       DatAll pile tv (tellF mode ups k).2.2 ∧ HdIn pile hv (tellF mode ups k).2.1 ∧ hv.length ≤ k + 1 ∧ tv.length = k + 1 ∧ (∀ p ∈ pile, @Ne Nat p.1 I ∧ @Ne Nat p.1 Dl ∧ @Ne Nat p.1 x ∧ @Ne Nat p.1 dx ∧ @Ne Nat p.1 hl) ∧ k ≤ ups.length ∧ 0 ≤ (tellF mode ups k).1 ∧ (tellF mode ups k).1 < 65536 ∧ (∀ p ∈ (tellF mode ups k).2.1, PySem.Builtin.Str.tooLong (Txt.lower p.1).length = false)) ?_ 0 _ ⟨_, _, _, 0, n2, [.ref D9], hv2, (D9, tupObj #[.str (rowT mode) tr, .str (setD [] (rowT mode) (Str.ofString "0")).1 u2] 0) :: add2, t, tr, none, none, rfl, KtsTurn.refl, fr_eq F4 ?_, news_sub N4 ?_, B', X', T', ?_, ?_, ?_, rfl, ?_, Nat.zero_le _, h0, h65, ?_⟩
    case refine_1 =>
      rintro k s' ⟨g1, h5, tk5, n5, n5', tv, hv, pile, tm, tr5, uk, uu, rfl, T5, F5, N5, B5, X5, P5, hD5, hH5, hvl5, htl5, hap5, hk5, hm0, hm1, hlo5⟩ IH5
      clear F4 N4 F3 N3 B' X' T' hR3
      obtain ⟨md, ps, ds, hst⟩ : ∃ md ps ds, tellF mode ups k = (md, ps, ds) := ⟨_, _, _, rfl⟩
      rw [hst] at F5 hD5 hH5 hm0 hm1 hlo5
      dsimp only at F5 hD5 hH5 hm0 hm1 hlo5
      have hoI : ∀ p ∈ (Dl, listOf (List.toArray tv) n5) :: (x, instObj 911 dx) :: (dx, dictOf [⟨hh, .str (Str.ofString "_headers") hk, .ref hl⟩] 1) :: (hl, listOf (List.toArray hv) n5') :: (r, listOf us.toArray nu) :: pile, p.1 ≠ I := by
        intro p hp
        simp only [List.mem_cons] at hp
        rcases hp with rfl | rfl | rfl | rfl | rfl | hp
        · exact Nat.ne_of_lt lI.1
        · exact Nat.ne_of_lt lI.2.2.1
        · exact Nat.ne_of_lt lI.2.2.2.1
        · exact Nat.ne_of_lt lI.2.2.2.2.1
        · exact Nat.ne_of_lt lI.2.2.2.2.2.1
        · exact (hap5 p hp).1
      by_cases hkl : k = ups.length
      · (refine' for_turn ?hE ?_; (case hE => first | passes_own | with_unfolding_all passes_own))
        refine nx_range_end (by rfl) F5 N5 (by omega) hoI ?_
        intro h6 F6 N6
        dsimp only [ForN]
        k_steps
        refine hold_in ?_
        subst hkl
        refine ⟨g1, L', _, _, T5, by k_asm, news_sub (by k_asm) (fun p hp => hp), fun h₁ T₁ F₁ B₁ N₁ => ?_⟩
        rw [hst] at hret
        exact hret Dl h₁ _ _ _ _ hv tv pile T₁ F₁ B₁ N₁ hD5 hH5 (by omega) lB.2.2.2.1 (fun p hp => (hap5 p hp).2)
      · have hRF := HR md hm0 hm1
        obtain ⟨RW, hRW⟩ : ∃ RW, RW = rowT md := ⟨_, rfl⟩
        have hRL : RW.length = 10 := by rw [hRW]; exact rowT_len md
        rw [← hRW] at F5
        (refine' for_turn ?hE ?_; (case hE => first | passes_own | with_unfolding_all passes_own))
        refine nx_range F5 N5 (by omega) (.head hoI) ?_
        intro t6 h6 tk6 F6 N6
        dsimp only [ForN]
        refine wpAny_pure ?_
        k_steps
        rename News g1 L' _ _ => N7
        rename Fr g1 L' _ _ => F7
        have hTL : (Txt.slice RW (some 1) none).length = 9 := tail_len hRL
        have hTC : (Txt.slice RW (some 1) none).cps.toList = (rowT md).cps.toList.drop 1 := by rw [tail_cut (by omega), ← hRW]
        have hTl9 : ((rowT md).cps.toList.drop 1).length = 9 := by rw [← hTC, ← len_toList]; exact hTL
        refine hold_in ?_
        k_dflt (refine' useN (c_mkN w LO mean mg mb _ _ _ (by omega) (by rw [hTC]; intro h; rw [h] at hTl9; simp at hTl9)) ?k1 F7 ?k3 N7 ?k5 ?k6 ?k7 ?k8 trivial ?_; (case k1 => k_asm); (case k3 => k_asm); (case k5 => k_asm); (case k6 => exact rfl); (case k7 => ktr_room); (case k8 => ktr_units))
        rintro _ _ h8 tk8 ⟨K, v, rfl, rfl, ok8, hat8⟩ F8 N8 ne8
        rw [hTC] at hat8
        clear F7 N7
        k_steps
        refine hold_in ?_
        k_dflt (refine' list_lex XB TB B5 F8 X5 N8 P5 ?k6 ?k7 ?k8 ok8 ?off hRF.sg (Nat.le_of_eq hTl9) hat8 ?_; (case k6 => exact rfl); (case k7 => ktr_room); (case k8 => ktr_units); (case off => (intro p hp hm; obtain ⟨q, hq, e⟩ := List.mem_map.mp ((K.at_adr v) ▸ hm); exact ne8 q hq p hp e.symm)))
        intro Dr rs nr g2 h9 tk9 hltr hrs hrl T9 N9
        have hTT := T5.trans T9.turn
        obtain ⟨_, F9, B9, X9, P9, _⟩ := T9
        clear F8 N8 ne8 hat8 ok8 B5 X5 P5
        k_steps
        rename News g2 L' _ _ => N10
        rename Fr g2 L' _ _ => F10
        have hkl2 : k < ups.length := by omega
        have eik : ((k : Nat) : Int).toNat = k := by omega
        have hu01 : ups.getD k 0 = 0 ∨ ups.getD k 0 = 1 := hup _ (by rw [List.getD_eq_getElem?_getD, List.getElem?_eq_getElem hkl2]; exact List.getElem_mem hkl2)
        obtain ⟨md2, hmd2⟩ : ∃ md2, md2 = turnedOf md (runsOf md) (ups.getD k 0) := ⟨_, rfl⟩
        obtain ⟨hm20, hm21⟩ := hRF.tl _ hu01
        rw [← hmd2] at hm20 hm21
        refine hold_in ?_
        k_dflt (refine' useP (c_turnedP w LO mean mg mb md _ _ _ Dr rs (runsOf md) hrs hrl hRF.ne hRF.each hm0 hm1) ?k1 F10 ?k3 N10 ?k5 ?k6 ?k7 ?k8 (N10.isList (.head _)) ?_; (case k1 => k_asm); (case k3 => k_asm); (case k5 => k_asm); (case k6 => exact rfl); (case k7 => ktr_room); (case k8 => ktr_units))
        rintro v11 h11 tk11 ⟨u11, hv11⟩ F11 N11
        obtain rfl : v11 = .int md2 u11 := by rw [hv11, eik, ← hmd2]
        clear F10 N10 hv11
        k_steps
        rename News g2 L' _ _ => N12
        rename Fr g2 L' _ _ => F12
        have hRF2 := HR md2 hm20 hm21
        obtain ⟨RW2, hRW2⟩ : ∃ RW, RW = rowT md2 := ⟨_, rfl⟩
        refine hold_in ?_
        k_dflt (refine' useP (c_fmP w LO mean mg mb md2 _ hm20 hm21) ?k1 F12 ?k3 N12 ?k5 ?k6 ?k7 ?k8 trivial ?_; (case k1 => k_asm); (case k3 => k_asm); (case k5 => k_asm); (case k6 => exact rfl); (case k7 => ktr_room); (case k8 => ktr_units))
        rintro v13 h13 tk13 ⟨u13, hv13⟩ F13 N13
        obtain rfl : v13 = .str RW2 u13 := by rw [hv13, hRF2.fm, hRW2]
        clear F12 N12 hv13
        k_steps
        rename News g2 L' _ _ => N14
        rename Fr g2 L' _ _ => F14
        have hDrI : @LT.lt Nat _ I Dr := hltr _ (.head _)
        have hDrl : @LT.lt Nat _ Dl Dr := hltr _ (.tail _ (.head _))
        have hDrx : @LT.lt Nat _ x Dr := hltr _ (.tail _ (.tail _ (.head _)))
        have hDrd : @LT.lt Nat _ dx Dr := hltr _ (.tail _ (.tail _ (.tail _ (.head _))))
        have hDrh : @LT.lt Nat _ hl Dr := hltr _ (.tail _ (.tail _ (.tail _ (.tail _ (.head _)))))
        clear hltr
        have hkt : Str.ofString (toString ((k : Int) + 1)) = kText (k + 1) := by unfold kText; push_cast; rfl
        have hro : ∀ p ∈ (Dr, listOf (List.toArray rs) nr) :: (I, krsIt ((k : Nat) + 1) ((ups.length : Int) - (k : Nat) - 1) 1) :: (Dl, listOf (List.toArray tv) n5) :: (r, listOf us.toArray nu) :: pile, @Ne Nat p.1 x ∧ @Ne Nat p.1 dx ∧ @Ne Nat p.1 hl := by
          intro p hp
          simp only [List.mem_cons] at hp
          rcases hp with rfl | rfl | rfl | rfl | hp
          · exact ⟨Nat.ne_of_gt hDrx, Nat.ne_of_gt hDrd, Nat.ne_of_gt hDrh⟩
          · exact ⟨Nat.ne_of_gt lI.2.2.1, Nat.ne_of_gt lI.2.2.2.1, Nat.ne_of_gt lI.2.2.2.2.1⟩
          · exact ⟨Nat.ne_of_gt lB.2.1, Nat.ne_of_gt lB.2.2.1, Nat.ne_of_gt lB.2.2.2.1⟩
          · exact o0
          · exact ⟨(hap5 p hp).2.2.1, (hap5 p hp).2.2.2.1, (hap5 p hp).2.2.2.2⟩
        replace N14 := news_sub (b := hdLed x dx hl hh hk hv n5' ++ ((Dr, listOf (List.toArray rs) nr) :: (I, krsIt ((k : Nat) + 1) ((ups.length : Int) - (k : Nat) - 1) 1) :: (Dl, listOf (List.toArray tv) n5) :: (r, listOf us.toArray nu) :: pile)) N14 (fun p hp => by
          simp only [hdLed, List.mem_cons, List.mem_append, List.not_mem_nil, or_false] at hp ⊢
          rcases hp with (h | h | h) | h | h | h | h | h <;> simp only [h, true_or, or_true])
        refine hold_in ?_
        k_dflt (refine' use_sd (pile := pile) ?k1 F14 ?k3 N14 hro ?k5 ?k6 ?k7 ?k8 hH5 (fun p hp => .tail _ (.tail _ (.tail _ (.tail _ hp)))) (by rw [hRW2]; exact hRF2.pl) (by rw [hkt]; exact HK (k + 1) (by omega)) (by rw [hRW2]; exact hRF2.plL) (by rw [hRW2]; exact hRF2.len) hlo5 o1 o2 (by omega) ?_; (case k1 => k_asm); (case k3 => k_asm); (case k5 => k_asm); (case k6 => exact rfl); (case k7 => ktr_room); (case k8 => ktr_units))
        intro hv15 n15 add15 u15 h15 tk15 F15 N15 hin15 fr15 hlen15
        clear F14 N14
        have hap15 : ∀ p ∈ add15, @Ne Nat p.1 I ∧ @Ne Nat p.1 Dl ∧ @Ne Nat p.1 x ∧ @Ne Nat p.1 dx ∧ @Ne Nat p.1 hl := fun p hp => ⟨Ne.symm (fr15 p hp _ (.tail _ (.tail _ (.tail _ (.tail _ (.head _)))))), Ne.symm (fr15 p hp _ (.tail _ (.tail _ (.tail _ (.tail _ (.tail _ (.head _))))))), Ne.symm (fr15 p hp _ (.head _)), Ne.symm (fr15 p hp _ (.tail _ (.head _))), Ne.symm (fr15 p hp _ (.tail _ (.tail _ (.head _))))⟩
        clear fr15
        replace N15 : News g2 L' h15 ((I, krsIt ((k : Nat) + 1) ((ups.length : Int) - (k : Nat) - 1) 1) :: (Dl, listOf (List.toArray tv) n5) :: (x, instObj 911 dx) :: (dx, dictOf [⟨hh, .str (Str.ofString "_headers") hk, .ref hl⟩] 1) :: (hl, listOf (List.toArray hv15) n15) :: (r, listOf us.toArray nu) :: (Dr, listOf (List.toArray rs) nr) :: (add15 ++ pile)) := news_sub N15 (fun p hp => by
          simp only [hdLed, List.mem_cons, List.mem_append, List.not_mem_nil, or_false] at hp ⊢
          rcases hp with h | h | h | h | h | h | h | h | h <;> simp only [h, true_or, or_true])
        obtain ⟨SV, hSV⟩ : ∃ SV, SV = (setD ps RW2 (Str.ofString (toString ((k : Int) + 1)))).1 := ⟨_, rfl⟩
        rw [← hSV]
        k_steps
        rename_i Dt hx16 F16 N16 lt16
        have hpo : ∀ p ∈ (x, instObj 911 dx) :: (dx, dictOf [⟨hh, .str (Str.ofString "_headers") hk, .ref hl⟩] 1) :: (hl, listOf (List.toArray hv15) n15) :: (r, listOf us.toArray nu) :: (Dr, listOf (List.toArray rs) nr) :: (add15 ++ pile), p.1 ≠ Dl := by
          intro p hp
          simp only [List.mem_cons, List.mem_append] at hp
          rcases hp with rfl | rfl | rfl | rfl | rfl | hp | hp
          · exact Nat.ne_of_lt lB.2.1
          · exact Nat.ne_of_lt lB.2.2.1
          · exact Nat.ne_of_lt lB.2.2.2.1
          · exact Nat.ne_of_lt lB.2.2.2.2.1
          · exact Nat.ne_of_gt hDrl
          · exact (hap15 p hp).2.1
          · exact (hap5 p hp).2.1
        refine hold_in (app_L F16 N16 (.tail (Nat.ne_of_gt lt16.2.1) (.tail (Nat.ne_of_gt lI.1) (.head hpo))) (by omega) ?_)
        intro h17 F17 N17
        clear F16 N16
        have hst2 : tellF mode ups (k + 1) = (md2, (setD ps RW2 (kText (k + 1))).2, ds ++ [.tuple [.list ((runsOf md).map Dat.str), .str RW2, .str SV]]) := by
          simp only [tellF, hst]
          rw [← hmd2, ← hRW2, hSV, hkt]
        have e1 : krsIt ((k : Nat) + 1) ((ups.length : Int) - (k : Nat) - 1) 1 = krsIt ((k + 1 : Nat) : Int) ((ups.length : Int) - ((k + 1 : Nat) : Int)) 1 := by
          rw [show ((k + 1 : Nat) : Int) = (k : Int) + 1 from by push_cast; rfl, show (ups.length : Int) - ((k : Int) + 1) = (ups.length : Int) - (k : Nat) - 1 from by omega]
        rw [e1] at N17
        rw [hkt] at hin15
        k_steps
        rename News g2 L' _ _ => N18
        rename Fr g2 L' _ _ => F18
        refine hold_in (IH5 (k + 1) _ (by omega) ⟨g2, _, _, n5 + 1, n15, tv ++ [.ref Dt], hv15, (Dt, tupObj #[.ref Dr, .str RW2 u13, .str SV u15] 0) :: (Dr, listOf (List.toArray rs) nr) :: (add15 ++ pile), u11, u13, some (.int (k : Nat) t6), some (.ref Dr), rfl, hTT, ?_, news_sub N18 ?_, B9, X9, P9, ?_, ?_, ?_, ?_, ?_, by omega, ?_, ?_, ?_⟩)
        · rw [hst2]
          dsimp only
          rw [← hRW2]
          refine fr_eq F18 ?_
          (intro y; by_cases c1 : y = Str.ofString "row"; (subst c1; kernel_rfl); by_cases c2 : y = Str.ofString "mode"; (subst c2; kernel_rfl); by_cases c3 : y = Str.ofString "runs"; (subst c3; kernel_rfl); by_cases c4 : y = Str.ofString "k"; (subst c4; kernel_rfl); by_cases c5 : y = Str.ofString "told"; (subst c5; kernel_rfl); by_cases c6 : y = Str.ofString "ups"; (subst c6; kernel_rfl); by_cases c7 : y = Str.ofString "table"; (subst c7; kernel_rfl); simp only [FMt, c1, c2, c3, c4, c5, c6, c7, if_false])
        · intro p hp
          simp only [List.mem_cons, List.mem_append] at hp ⊢
          rcases hp with h | h | h | h | h | h | h | h | h | h <;> simp only [h, true_or, or_true]
        · rw [hst2]
          exact DatAll.append (DatAll.mono (fun p hp => .tail _ (.tail _ (List.mem_append_right _ hp))) hD5) (.one (DatIn.tuple (vs := [.ref Dr, .str RW2 u13, .str SV u15]) (.head _) (.cons (DatIn.list (.tail _ (.head _)) (datAll_strs hrs)) (.cons (.str _ _) (.cons (.str _ _) .nil)))))
        · rw [hst2]
          exact hin15.mono fun p hp => .tail _ (.tail _ hp)
        · omega
        · simp [htl5]
        · intro p hp
          simp only [List.mem_cons, List.mem_append] at hp
          rcases hp with rfl | rfl | hp | hp
          · exact ⟨Nat.ne_of_gt lt16.1, Nat.ne_of_gt lt16.2.1, Nat.ne_of_gt lt16.2.2.1, Nat.ne_of_gt lt16.2.2.2.1, Nat.ne_of_gt lt16.2.2.2.2.1⟩
          · exact ⟨Nat.ne_of_gt hDrI, Nat.ne_of_gt hDrl, Nat.ne_of_gt hDrx, Nat.ne_of_gt hDrd, Nat.ne_of_gt hDrh⟩
          · exact hap15 p hp
          · exact hap5 p hp
        · rw [hst2]; exact hm20
        · rw [hst2]; exact hm21
        · rw [hst2]
          exact setD_all (P := fun y => PySem.Builtin.Str.tooLong (Txt.lower y).length = false) hlo5 (by rw [hRW2]; exact hRF2.len)
    case refine_2 => (intro y; by_cases c1 : y = Str.ofString "row"; (subst c1; kernel_rfl); by_cases c2 : y = Str.ofString "mode"; (subst c2; kernel_rfl); by_cases c3 : y = Str.ofString "runs"; (subst c3; kernel_rfl); by_cases c4 : y = Str.ofString "k"; (subst c4; kernel_rfl); by_cases c5 : y = Str.ofString "told"; (subst c5; kernel_rfl); by_cases c6 : y = Str.ofString "ups"; (subst c6; kernel_rfl); by_cases c7 : y = Str.ofString "table"; (subst c7; kernel_rfl); simp only [FMt, c1, c2, c3, c4, c5, c6, c7, if_false])
    case refine_3 =>
      intro p hp
      simp only [List.mem_cons] at hp ⊢
      rcases hp with h | h | h | h | h | h | h | h <;> simp only [h, true_or, or_true]
    case refine_4 => exact .one (DatIn.tuple (vs := [.str _ _, .str _ _]) (.head _) (.cons (.str _ _) (.cons (.str _ _) .nil)))
    case refine_5 => exact hin2.mono fun p hp => .tail _ (List.append_nil add2 ▸ hp)
    case refine_6 => simpa using hlen2
    case refine_7 =>
      intro p hp
      rcases List.mem_cons.mp hp with rfl | hp
      · dsimp only; refine ⟨by omega, by omega, by omega, by omega, by omega⟩
      · obtain ⟨e1, e2, e3, e4⟩ := hap2 p hp
        have a1 := allLt_mem lI.2.2.2.2.2.2 p hp
        have a2 := allLt_mem lB.2.2.2.2.2 p hp
        exact ⟨Nat.ne_of_lt a1, Nat.ne_of_lt a2, e1, e2, e3⟩
    case refine_8 => exact setD_all (P := fun y => PySem.Builtin.Str.tooLong (Txt.lower y).length = false) (fun p hp => nomatch hp) hR0.len
  trivial
theorem c_told (w : World) (LO : List Str) (mean : ExcName → Option Value) (mg mb : Str → Option Value) (HR : ∀ k, 0 ≤ k → k < 65536 → RowFacts k) (HK : ∀ k : Nat, k ≤ 7 → Plain (kText k)) (x dx hl r : Nat) (hh : Int) (hk : Tok) (nn nu : Nat) (mode : Int) (t tr : Tok) (us : List Value) (ups : List Int) (hu : IntsAre us ups) (hl7 : ups.length ≤ 7) (hup : ∀ u ∈ ups, u = 0 ∨ u = 1) (h0 : 0 ≤ mode) (h65 : mode < 65536)
   (o0 : @Ne Nat r x ∧ @Ne Nat r dx ∧ @Ne Nat r hl) (o1 : dx < x) (o2 : x < hl)
   (dp un : Nat) (gd : Option (List Code)) (cn : Str) (cs : Scope) (a : Addr) (ccd : Value) (cl : List (Str × Addr)) (outer : List Env) (A₀ : Around) (base h₀ : Heap) (L : Addr) (m : Str → Option Value) (s : Shared) (Q E : Value → Shared → Prop)
   (XB : (hdK.heap_1 w.params).In base) (TB : Top hdK.view_39 LO mean mg mb base)
   (hB : Below A₀ base outer h₀) (hF : Fr h₀ L s.heap m) (hX : (hdK.heap_1 w.params).In h₀) (hN : News h₀ L s.heap [(x, instObj 911 dx), (dx, dictOf [⟨hh, .str (Str.ofString "_headers") hk, .ref hl⟩] 1), (hl, listOf ([] : List Value).toArray nn), (r, listOf us.toArray nu)]) (hT : Top hdK.view_39 LO mean mg mb h₀) (hcs : cs.kind = .function)
   (hdp : dp + 20 < recursionLimit) (hun : un + 220 < cLine)
   (hret : ∀ (D : Nat) h₁ h' tk n n' hv tv pile, KtsTurn (outer.filterMap (·.frame)) h₀ h₁ → Fr h₁ L h' m → Below A₀ base outer h₁ →
     News h₁ L h' ([(D, listOf (List.toArray tv) n), (x, instObj 911 dx), (dx, dictOf [⟨hh, .str (Str.ofString "_headers") hk, .ref hl⟩] 1), (hl, listOf (List.toArray hv) n'), (r, listOf us.toArray nu)] ++ pile) →
     DatAll pile tv (tellF mode ups ups.length).2.2 → HdIn pile hv (tellF mode ups ups.length).2.1 → hv.length ≤ 10 → hl < D → (∀ p ∈ pile, @Ne Nat p.1 D ∧ @Ne Nat p.1 x ∧ @Ne Nat p.1 dx ∧ @Ne Nat p.1 hl) →
     Q (.ref D) { s with heap := h', toks := tk }) :
   wpAny (model PySem.Challenge.rw_op0282_01.row.prog w) (ktrTop dp un gd cn cs L a ccd cl outer) (call (.ref 939) [.ref x, .int mode t, .str (rowT mode) tr, .ref r] []) Q E s := (by exact whole_of _ : Whole by_lay)
end
section
-- part PL0

set_option Elab.async false
set_option maxRecDepth 100000
theorem bit_ext {a b : Nat} (h : decide (a % 2 = 1) = decide (b % 2 = 1)) : a % 2 = b % 2 := by
  have e := decide_eq_decide.mp h
  rcases Nat.mod_two_eq_zero_or_one a with x | x <;> rcases Nat.mod_two_eq_zero_or_one b with y | y
  · rw [x, y]
  · rw [x, y] at e; exact absurd (e.mpr rfl) (by decide)
  · rw [x, y] at e; exact absurd (e.mp rfl) (by decide)
  · rw [x, y]
theorem two_lt (a b : Nat) : a % 2 * 2 + b % 2 < 4 := by
  have x := Nat.mod_lt a (show 0 < 2 by decide)
  have y := Nat.mod_lt b (show 0 < 2 by decide)
  omega
/-- a low bit stays under a mod -/
theorem low_bit (m n k : Nat) (h : k < n) : m % 2 ^ n / 2 ^ k % 2 = m / 2 ^ k % 2 := bit_ext (by
  rw [← Nat.testBit_eq_decide_div_mod_eq, ← Nat.testBit_eq_decide_div_mod_eq, Nat.testBit_mod_two_pow, decide_eq_true h, Bool.true_and])
theorem add_low (M R k : Nat) (h : k < 9) : (M * 512 + R) / 2 ^ k % 2 = R / 2 ^ k % 2 := by
  rw [← low_bit (M * 512 + R) 9 k h, ← low_bit R 9 k h, show (2 : Nat) ^ 9 = 512 from rfl, Nat.add_comm, Nat.add_mul_mod_self_right]
theorem add_top (q R j : Nat) (h : R < 512) : (q / 512 * 512 + R) / (512 * j) = q / (512 * j) := by
  rw [← Nat.div_div_eq_div_mul, ← Nat.div_div_eq_div_mul, Nat.add_comm, Nat.add_mul_div_right _ _ (by decide), Nat.div_eq_of_lt h, Nat.zero_add]
end
section
-- part PL1

set_option Elab.async false
set_option maxRecDepth 100000
noncomputable def rc (b : Nat) : Nat := if b = 0 then 45 else 114
noncomputable def wc (b : Nat) : Nat := if b = 0 then 45 else 119
noncomputable def xc (i : Nat) : Nat := if i = 0 then 45 else if i = 1 then 120 else if i = 2 then 83 else 115
noncomputable def xt (i : Nat) : Nat := if i = 0 then 45 else if i = 1 then 120 else if i = 2 then 84 else 116
noncomputable def tyc (i : Nat) : Nat := [63, 112, 99, 63, 100, 63, 98, 63, 45, 63, 108, 63, 115, 63, 63, 63].getD i 63
/-- the nine signs of a mode, as codes -/
noncomputable def nine (q : Nat) : List Nat :=
  [rc (q / 256 % 2), wc (q / 128 % 2), xc (q / 2048 % 2 * 2 + q / 64 % 2), rc (q / 32 % 2), wc (q / 16 % 2), xc (q / 1024 % 2 * 2 + q / 8 % 2), rc (q / 4 % 2), wc (q / 2 % 2), xt (q / 512 % 2 * 2 + q % 2)]
theorem item_r : ∀ b : Fin 2, (Txt.item (Str.ofString "-r") ((b : Nat) : Int)).cps.toList = [rc b] := by decide +kernel
theorem item_w : ∀ b : Fin 2, (Txt.item (Str.ofString "-w") ((b : Nat) : Int)).cps.toList = [wc b] := by decide +kernel
theorem item_x : ∀ b : Fin 4, (Txt.item (Str.ofString "-xSs") ((b : Nat) : Int)).cps.toList = [xc b] := by decide +kernel
theorem item_t : ∀ b : Fin 4, (Txt.item (Str.ofString "-xTt") ((b : Nat) : Int)).cps.toList = [xt b] := by decide +kernel
theorem item_y : ∀ b : Fin 16, (Txt.item (Str.ofString "?pc?d?b?-?l?s???") ((b : Nat) : Int)).cps.toList = [tyc b] := by decide +kernel
theorem app_codes (a b : Str) : (a ++ b).cps.toList = a.cps.toList ++ b.cps.toList := by
  rw [Str.cps_append]; simp
theorem fdiv_nat (a b : Nat) : Int.fdiv (a : Int) (b : Int) = ((a / b : Nat) : Int) := by
  rw [Int.fdiv_eq_ediv_of_nonneg _ (Int.natCast_nonneg b)]; rfl
theorem fmod_nat (a b : Nat) : Int.fmod (a : Int) (b : Int) = ((a % b : Nat) : Int) := by
  rw [Int.fmod_eq_emod_of_nonneg _ (Int.natCast_nonneg b)]; rfl
theorem row_codes {m : Nat} (h : m < 65536) : (rowT (m : Int)).cps.toList = tyc (m / 4096) :: nine m := by
  have e64 : (64 : Int) = ((64 : Nat) : Int) := rfl
  unfold rowT rwxT
  simp only [app_codes]
  have d (k : Nat) : Int.fdiv (m : Int) (k : Int) = ((m / k : Nat) : Int) := fdiv_nat m k
  have c1 := item_y ⟨m / 4096, by omega⟩
  have r1 := item_r ⟨m / 256 % 2, Nat.mod_lt _ (by decide)⟩
  have r2 := item_r ⟨m / 32 % 2, Nat.mod_lt _ (by decide)⟩
  have r3 := item_r ⟨m / 4 % 2, Nat.mod_lt _ (by decide)⟩
  have w1 := item_w ⟨m / 128 % 2, Nat.mod_lt _ (by decide)⟩
  have w2 := item_w ⟨m / 16 % 2, Nat.mod_lt _ (by decide)⟩
  have w3 := item_w ⟨m / 2 % 2, Nat.mod_lt _ (by decide)⟩
  have x1 := item_x ⟨m / 2048 % 2 * 2 + m / 64 % 2, two_lt _ _⟩
  have x2 := item_x ⟨m / 1024 % 2 * 2 + m / 8 % 2, two_lt _ _⟩
  have x3 := item_t ⟨m / 512 % 2 * 2 + m % 2, two_lt _ _⟩
  have f (a b : Nat) : Int.fmod (a : Int) (b : Int) = ((a % b : Nat) : Int) := fmod_nat a b
  have g1 : ((m : Int).fdiv 64).fdiv 4 = ((m / 256 : Nat) : Int) := by rw [show (64 : Int) = ((64 : Nat) : Int) from rfl, show (4 : Int) = ((4 : Nat) : Int) from rfl, fdiv_nat, fdiv_nat, Nat.div_div_eq_div_mul]
  have g2 : ((m : Int).fdiv 64).fdiv 2 = ((m / 128 : Nat) : Int) := by rw [show (64 : Int) = ((64 : Nat) : Int) from rfl, show (2 : Int) = ((2 : Nat) : Int) from rfl, fdiv_nat, fdiv_nat, Nat.div_div_eq_div_mul]
  have g3 : ((m : Int).fdiv 8).fdiv 4 = ((m / 32 : Nat) : Int) := by rw [show (8 : Int) = ((8 : Nat) : Int) from rfl, show (4 : Int) = ((4 : Nat) : Int) from rfl, fdiv_nat, fdiv_nat, Nat.div_div_eq_div_mul]
  have g4 : ((m : Int).fdiv 8).fdiv 2 = ((m / 16 : Nat) : Int) := by rw [show (8 : Int) = ((8 : Nat) : Int) from rfl, show (2 : Int) = ((2 : Nat) : Int) from rfl, fdiv_nat, fdiv_nat, Nat.div_div_eq_div_mul]
  have g5 : ((m : Int).fdiv 1).fdiv 4 = ((m / 4 : Nat) : Int) := by rw [show (1 : Int) = ((1 : Nat) : Int) from rfl, show (4 : Int) = ((4 : Nat) : Int) from rfl, fdiv_nat, fdiv_nat, Nat.div_div_eq_div_mul]
  have g6 : ((m : Int).fdiv 1).fdiv 2 = ((m / 2 : Nat) : Int) := by rw [show (1 : Int) = ((1 : Nat) : Int) from rfl, show (2 : Int) = ((2 : Nat) : Int) from rfl, fdiv_nat, fdiv_nat, Nat.div_div_eq_div_mul]
  have k1 : (m : Int).fdiv 64 = ((m / 64 : Nat) : Int) := fdiv_nat m 64
  have k2 : (m : Int).fdiv 8 = ((m / 8 : Nat) : Int) := fdiv_nat m 8
  have k3 : (m : Int).fdiv 1 = ((m : Nat) : Int) := by rw [show (1 : Int) = ((1 : Nat) : Int) from rfl, fdiv_nat, Nat.div_one]
  have k4 : (m : Int).fdiv 2048 = ((m / 2048 : Nat) : Int) := fdiv_nat m 2048
  have k5 : (m : Int).fdiv 1024 = ((m / 1024 : Nat) : Int) := fdiv_nat m 1024
  have k6 : (m : Int).fdiv 512 = ((m / 512 : Nat) : Int) := fdiv_nat m 512
  have k7 : (m : Int).fdiv 4096 = ((m / 4096 : Nat) : Int) := fdiv_nat m 4096
  have fm (a : Nat) : Int.fmod (a : Int) 2 = ((a % 2 : Nat) : Int) := fmod_nat a 2
  have y1 (a b : Nat) : ((a : Nat) : Int) * 2 + ((b : Nat) : Int) = ((a * 2 + b : Nat) : Int) := by push_cast; rfl
  rw [g1, g2, g3, g4, g5, g6, k1, k2, k3, k4, k5, k6, k7]
  simp only [fm, y1]
  dsimp only at c1 r1 r2 r3 w1 w2 w3 x1 x2 x3
  rw [c1, r1, r2, r3, w1, w2, w3, x1, x2, x3]
  rfl
end
section
-- part PL2

set_option Elab.async false
set_option maxRecDepth 100000
theorem and_low (m b : Nat) (h : b < 4096) : m &&& b = (m % 4096) &&& b := by
  apply Nat.eq_of_testBit_eq
  intro i
  rw [Nat.testBit_and, Nat.testBit_and, show (4096 : Nat) = 2 ^ 12 from rfl, Nat.testBit_mod_two_pow]
  by_cases hi : i < 12
  · simp [hi]
  · have : b.testBit i = false := Nat.testBit_lt_two_pow (Nat.lt_of_lt_of_le h (by rw [show (4096 : Nat) = 2 ^ 12 from rfl]; exact Nat.pow_le_pow_right (by decide) (by omega)))
    simp [this]
theorem and_top {m : Nat} (h : m < 65536) : m &&& 61440 = m / 4096 * 4096 := by
  apply Nat.eq_of_testBit_eq
  intro i
  have e : m / 4096 * 4096 = (m >>> 12) <<< 12 := by rw [Nat.shiftRight_eq_div_pow, Nat.shiftLeft_eq]
  rw [e, Nat.testBit_and, Nat.testBit_shiftLeft, Nat.testBit_shiftRight]
  by_cases h12 : 12 ≤ i
  · have e2 : 12 + (i - 12) = i := by omega
    rw [e2]
    by_cases h16 : i < 16
    · have : ∀ j : Fin 16, 12 ≤ (j : Nat) → Nat.testBit 61440 j = true := by decide
      rw [this ⟨i, h16⟩ h12]
      simp [h12]
    · have : m.testBit i = false := Nat.testBit_lt_two_pow (Nat.lt_of_lt_of_le h (by rw [show (65536 : Nat) = 2 ^ 16 from rfl]; exact Nat.pow_le_pow_right (by decide) (by omega)))
      simp [this]
  · have : ∀ j : Fin 12, Nat.testBit 61440 j = false := by decide
    rw [this ⟨i, by omega⟩]
    simp [h12]
theorem band_nat (a b : Nat) : Builtin.bitAnd (a : Int) (b : Int) = ((a &&& b : Nat) : Int) := by
  have h1 : decide ((0 : Int) ≤ (a : Int)) = true := decide_eq_true (Int.natCast_nonneg a)
  have h2 : decide ((0 : Int) ≤ (b : Int)) = true := decide_eq_true (Int.natCast_nonneg b)
  rw [← bitAnd_eq]
  unfold Spec.bitAnd
  rw [h1, h2]
  simp
/-- a sign's pick, as codes -/
noncomputable def pickN (q : Nat) : List (Nat × Nat) → Nat
  | [] => 45
  | (b, c) :: es => if q &&& b = b then c else pickN q es
noncomputable def nineP (q : Nat) : List Nat :=
  [pickN q [(256, 114)], pickN q [(128, 119)], pickN q [(2112, 115), (2048, 83), (64, 120)], pickN q [(32, 114)], pickN q [(16, 119)], pickN q [(1032, 115), (1024, 83), (8, 120)], pickN q [(4, 114)], pickN q [(2, 119)], pickN q [(513, 116), (512, 84), (1, 120)]]
theorem and_pow (q k : Nat) : q &&& 2 ^ k = if q / 2 ^ k % 2 = 1 then 2 ^ k else 0 := by
  apply Nat.eq_of_testBit_eq
  intro i
  have ht : q.testBit k = decide (q / 2 ^ k % 2 = 1) := Nat.testBit_eq_decide_div_mod_eq
  rw [Nat.testBit_and, Nat.testBit_two_pow]
  by_cases h : q / 2 ^ k % 2 = 1
  · rw [if_pos h, Nat.testBit_two_pow]
    by_cases e : k = i
    · subst e; simp [ht, h]
    · simp [e]
  · rw [if_neg h, Nat.zero_testBit]
    by_cases e : k = i
    · subst e; simp [ht, h]
    · simp [e]
theorem sign_r (q k : Nat) : pickN q [(2 ^ k, 114)] = rc (q / 2 ^ k % 2) := by
  have hp : 0 < 2 ^ k := Nat.two_pow_pos k
  unfold pickN pickN rc
  rw [and_pow]
  by_cases h : q / 2 ^ k % 2 = 1
  · rw [if_pos h, if_pos rfl, if_neg (by omega)]
  · rw [if_neg h, if_neg (by omega), if_pos (by omega)]
theorem sign_w (q k : Nat) : pickN q [(2 ^ k, 119)] = wc (q / 2 ^ k % 2) := by
  have hp : 0 < 2 ^ k := Nat.two_pow_pos k
  unfold pickN pickN wc
  rw [and_pow]
  by_cases h : q / 2 ^ k % 2 = 1
  · rw [if_pos h, if_pos rfl, if_neg (by omega)]
  · rw [if_neg h, if_neg (by omega), if_pos (by omega)]
theorem sign_3 (q A B S c1 c2 c3 x y : Nat) (hS : S = A ||| B) (hA : q &&& A = if x = 1 then A else 0) (hB : q &&& B = if y = 1 then B else 0) (n1 : A ≠ S) (n2 : B ≠ S) (n3 : 0 ≠ S) (n4 : 0 ≠ A) (n5 : 0 ≠ B) :
    pickN q [(S, c1), (A, c2), (B, c3)] = if x = 1 then (if y = 1 then c1 else c2) else (if y = 1 then c3 else 45) := by
  have h3 : q &&& S = (q &&& A) ||| (q &&& B) := by rw [hS, Nat.and_or_distrib_left]
  simp only [pickN]
  rw [h3, hA, hB]
  by_cases hx : x = 1
  · by_cases hy : y = 1
    · simp only [if_pos hx, if_pos hy]; rw [if_pos hS.symm]
    · simp only [if_pos hx, if_neg hy, Nat.or_zero]; rw [if_neg n1]; simp
  · by_cases hy : y = 1
    · simp only [if_neg hx, if_pos hy, Nat.zero_or]; rw [if_neg n2, if_neg n4]; simp
    · simp only [if_neg hx, if_neg hy, Nat.or_zero]; rw [if_neg n3, if_neg n4, if_neg n5]
theorem xc_if : ∀ a b : Fin 2, (if (a : Nat) = 1 then (if (b : Nat) = 1 then 115 else 83) else (if (b : Nat) = 1 then 120 else 45)) = xc (a * 2 + b) := by decide
theorem xt_if : ∀ a b : Fin 2, (if (a : Nat) = 1 then (if (b : Nat) = 1 then 116 else 84) else (if (b : Nat) = 1 then 120 else 45)) = xt (a * 2 + b) := by decide
theorem nineP_eq {q : Nat} (_h : q < 4096) : nineP q = nine q := by
  have t (k : Nat) : k % 2 < 2 := Nat.mod_lt _ (by decide)
  have r1 : pickN q [(256, 114)] = rc (q / 256 % 2) := sign_r q 8
  have r2 : pickN q [(32, 114)] = rc (q / 32 % 2) := sign_r q 5
  have r3 : pickN q [(4, 114)] = rc (q / 4 % 2) := sign_r q 2
  have w1 : pickN q [(128, 119)] = wc (q / 128 % 2) := sign_w q 7
  have w2 : pickN q [(16, 119)] = wc (q / 16 % 2) := sign_w q 4
  have w3 : pickN q [(2, 119)] = wc (q / 2 % 2) := sign_w q 1
  have x1 := (sign_3 q 2048 64 2112 115 83 120 _ _ (by decide) (and_pow q 11) (and_pow q 6) (by decide) (by decide) (by decide) (by decide) (by decide)).trans (xc_if ⟨q / 2048 % 2, t _⟩ ⟨q / 64 % 2, t _⟩)
  have x2 := (sign_3 q 1024 8 1032 115 83 120 _ _ (by decide) (and_pow q 10) (and_pow q 3) (by decide) (by decide) (by decide) (by decide) (by decide)).trans (xc_if ⟨q / 1024 % 2, t _⟩ ⟨q / 8 % 2, t _⟩)
  have x3 := (sign_3 q 512 1 513 116 84 120 _ _ (by decide) (and_pow q 9) (and_pow q 0) (by decide) (by decide) (by decide) (by decide) (by decide)).trans (xt_if ⟨q / 512 % 2, t _⟩ ⟨q / 2 ^ 0 % 2, t _⟩)
  dsimp only at x1 x2 x3
  have x3' : pickN q [(513, 116), (512, 84), (1, 120)] = xt (q / 512 % 2 * 2 + q % 2) := by rw [x3, Nat.pow_zero, Nat.div_one]
  unfold nineP nine
  rw [r1, r2, r3, w1, w2, w3, x1, x2, x3']
theorem nine_mod (m : Nat) : nine (m % 4096) = nine m := by
  have b (k : Nat) (h : k < 12) : m % 4096 / 2 ^ k % 2 = m / 2 ^ k % 2 := low_bit m 12 k h
  have b8 : m % 4096 / 256 % 2 = m / 256 % 2 := b 8 (by decide)
  have b7 : m % 4096 / 128 % 2 = m / 128 % 2 := b 7 (by decide)
  have b11 : m % 4096 / 2048 % 2 = m / 2048 % 2 := b 11 (by decide)
  have b6 : m % 4096 / 64 % 2 = m / 64 % 2 := b 6 (by decide)
  have b5 : m % 4096 / 32 % 2 = m / 32 % 2 := b 5 (by decide)
  have b4 : m % 4096 / 16 % 2 = m / 16 % 2 := b 4 (by decide)
  have b10 : m % 4096 / 1024 % 2 = m / 1024 % 2 := b 10 (by decide)
  have b3 : m % 4096 / 8 % 2 = m / 8 % 2 := b 3 (by decide)
  have b2 : m % 4096 / 4 % 2 = m / 4 % 2 := b 2 (by decide)
  have b1 : m % 4096 / 2 % 2 = m / 2 % 2 := b 1 (by decide)
  have b9 : m % 4096 / 512 % 2 = m / 512 % 2 := b 9 (by decide)
  have b0 : m % 4096 % 2 = m % 2 := Nat.mod_mod_of_dvd m (by decide)
  unfold nine
  rw [b8, b7, b11, b6, b5, b4, b10, b3, b2, b1, b9, b0]
end
section
-- part PL3

set_option Elab.async false
set_option maxRecDepth 100000
noncomputable def SG : List (List (Nat × Nat)) := [[(256, 114)], [(128, 119)], [(2112, 115), (2048, 83), (64, 120)], [(32, 114)], [(16, 119)], [(1032, 115), (1024, 83), (8, 120)], [(4, 114)], [(2, 119)], [(513, 116), (512, 84), (1, 120)]]
noncomputable def asFm (es : List (Nat × Nat)) : List (Int × Str) := es.map fun e => ((e.1 : Int), (⟨#[e.2]⟩ : Str))
noncomputable def TYP : List (Nat × Nat) := [(40960, 108), (49152, 115), (32768, 45), (24576, 98), (16384, 100), (8192, 99), (4096, 112)]
theorem fmt_eq : FMT = asFm TYP :: SG.map asFm := by decide +kernel
theorem dash_code : (ch "-").cps.toList = [45] := by decide +kernel
theorem que_code : (ch "?").cps.toList = [63] := by decide +kernel
theorem pick_code {i m : Nat} (hi : i ≠ 0) : ∀ es : List (Nat × Nat), (∀ e ∈ es, e.1 < 4096) → (pickC i (m : Int) (asFm es)).cps.toList = [pickN (m % 4096) es]
  | [], _ => by
    show (if i = 0 then ch "?" else ch "-").cps.toList = _
    rw [if_neg hi]; exact dash_code
  | (b, c) :: es, h => by
    have hb := h (b, c) (.head _)
    have ih := pick_code (m := m) hi es fun e he => h e (.tail _ he)
    show (if hitC i (m : Int) ((b : Nat) : Int) then (⟨#[c]⟩ : Str) else pickC i (m : Int) (asFm es)).cps.toList = [if m % 4096 &&& b = b then c else pickN (m % 4096) es]
    have e1 : hitC i (m : Int) ((b : Nat) : Int) = decide (m % 4096 &&& b = b) := by
      unfold hitC
      rw [if_neg hi, band_nat, and_low m b hb]
      by_cases q : m % 4096 &&& b = b
      · simp [q]
      · have : ¬ (((m % 4096 &&& b : Nat) : Int) = ((b : Nat) : Int)) := fun h => q (Int.ofNat.inj h)
        simp [q, this]
    rw [e1]
    by_cases q : m % 4096 &&& b = b
    · simp [q]
    · simp only [q, decide_false, Bool.false_eq_true, if_false]; exact ih
noncomputable def pickT (x : Nat) : List (Nat × Nat) → Nat
  | [] => 63
  | (b, c) :: es => if x = b then c else pickT x es
theorem pick_type {m : Nat} (hm : m < 65536) : ∀ es : List (Nat × Nat), (pickC 0 (m : Int) (asFm es)).cps.toList = [pickT (m / 4096 * 4096) es]
  | [] => que_code
  | (b, c) :: es => by
    have ih := pick_type hm es
    show (if hitC 0 (m : Int) ((b : Nat) : Int) then (⟨#[c]⟩ : Str) else pickC 0 (m : Int) (asFm es)).cps.toList = [if m / 4096 * 4096 = b then c else pickT (m / 4096 * 4096) es]
    have e1 : hitC 0 (m : Int) ((b : Nat) : Int) = decide (m / 4096 * 4096 = b) := by
      unfold hitC
      rw [if_pos rfl, show (61440 : Int) = ((61440 : Nat) : Int) from rfl, band_nat, and_top hm]
      by_cases q : m / 4096 * 4096 = b
      · rw [decide_eq_true q, q]; exact beq_self_eq_true _
      · have : ¬ (((m / 4096 * 4096 : Nat) : Int) = ((b : Nat) : Int)) := fun h => q (Int.ofNat.inj h)
        rw [decide_eq_false q]; exact beq_eq_false_iff_ne.mpr this
    rw [e1]
    by_cases q : m / 4096 * 4096 = b
    · simp [q]
    · simp only [q, decide_false, Bool.false_eq_true, if_false]; exact ih
theorem type_all : ∀ t : Fin 16, pickT (t * 4096) TYP = tyc t := by decide +kernel
theorem join_codes : ∀ l : List Str, (Txt.join (Str.ofString "") l).cps.toList = (l.map fun x => x.cps.toList).flatten := by
  intro l
  show (Builtin.Str.glued (Str.ofString "") l).cps.toList = _
  rw [StrLaws.glued_eq_join]
  induction l with
  | nil => rfl
  | cons x r ih =>
    cases r with
    | nil => simp [Str.join]
    | cons y r =>
      have e0 : (Str.ofString "").cps.toList = [] := by decide +kernel
      show (x ++ Str.ofString "" ++ Str.join (Str.ofString "") (y :: r)).cps.toList = _
      rw [app_codes, app_codes, ih, e0]
      simp
theorem str_of_codes {x y : Str} (h : x.cps.toList = y.cps.toList) : x = y := Str.ext' (Array.toList_inj.mp h)
theorem fm_codes {m : Nat} (h : m < 65536) : Txt.join (Str.ofString "") (picks 0 (m : Int) FMT) = rowT (m : Int) := by
  apply str_of_codes
  have hq : m % 4096 < 4096 := Nat.mod_lt _ (by decide)
  rw [join_codes, row_codes h, ← nine_mod, ← nineP_eq hq, fmt_eq]
  have t := pick_type h TYP
  rw [type_all ⟨m / 4096, by omega⟩] at t
  simp only [SG, List.map_cons, List.map_nil, picks, List.flatten_cons, List.flatten_nil, List.append_nil]
  rw [t]
  rw [pick_code (m := m) (i := 0 + 1) (by decide) _ (by decide), pick_code (m := m) (i := 0 + 1 + 1) (by decide) _ (by decide), pick_code (m := m) (i := 0 + 1 + 1 + 1) (by decide) _ (by decide), pick_code (m := m) (i := 0 + 1 + 1 + 1 + 1) (by decide) _ (by decide), pick_code (m := m) (i := 0 + 1 + 1 + 1 + 1 + 1) (by decide) _ (by decide), pick_code (m := m) (i := 0 + 1 + 1 + 1 + 1 + 1 + 1) (by decide) _ (by decide), pick_code (m := m) (i := 0 + 1 + 1 + 1 + 1 + 1 + 1 + 1) (by decide) _ (by decide), pick_code (m := m) (i := 0 + 1 + 1 + 1 + 1 + 1 + 1 + 1 + 1) (by decide) _ (by decide), pick_code (m := m) (i := 0 + 1 + 1 + 1 + 1 + 1 + 1 + 1 + 1 + 1) (by decide) _ (by decide)]
  rfl
end
section
-- part PL4

set_option Elab.async false
set_option maxRecDepth 100000
theorem HK : ∀ k : Nat, k ≤ 7 → Plain (kText k) := by
  have h : ∀ k : Fin 8, (∀ c ∈ (kText k).cps.toList, 32 ≤ c ∧ c < 127) ∧ (kText k).cps.toList ≠ [] ∧ (kText k).cps.size ≤ 100 := by decide +kernel
  exact fun k hk => h ⟨k, by omega⟩
theorem sgn_rc (b : Nat) : sgn (rc b) = true := by unfold rc; split <;> decide
theorem sgn_wc (b : Nat) : sgn (wc b) = true := by unfold wc; split <;> decide
theorem sgn_xc (b : Nat) : sgn (xc b) = true := by unfold xc; split <;> (try split) <;> (try split) <;> decide
theorem sgn_xt (b : Nat) : sgn (xt b) = true := by unfold xt; split <;> (try split) <;> (try split) <;> decide
theorem nine_sgn (q : Nat) : ∀ c ∈ nine q, sgn c = true := by
  intro c hc
  unfold nine at hc
  simp only [List.mem_cons, List.not_mem_nil, or_false] at hc
  rcases hc with rfl | rfl | rfl | rfl | rfl | rfl | rfl | rfl | rfl
  · exact sgn_rc _
  · exact sgn_wc _
  · exact sgn_xc _
  · exact sgn_rc _
  · exact sgn_wc _
  · exact sgn_xc _
  · exact sgn_rc _
  · exact sgn_wc _
  · exact sgn_xt _
theorem sgn_plain {c : Nat} (h : sgn c = true) : 32 ≤ c ∧ c < 127 ∧ 32 ≤ lo1 c ∧ lo1 c < 127 := by
  cases hp : pun c with
  | true => rcases pun_cases hp with rfl | rfl | rfl | rfl | rfl <;> decide
  | false => rcases word_cases h hp with rfl | rfl | rfl <;> decide
theorem tyc_plain : ∀ t : Fin 16, 32 ≤ tyc t ∧ tyc t < 127 ∧ 32 ≤ lo1 (tyc t) ∧ lo1 (tyc t) < 127 := by decide
theorem row_chars {m : Nat} (h : m < 65536) : ∀ c ∈ (rowT (m : Int)).cps.toList, 32 ≤ c ∧ c < 127 ∧ 32 ≤ lo1 c ∧ lo1 c < 127 := by
  rw [row_codes h]
  intro c hc
  rcases List.mem_cons.mp hc with rfl | hc
  · exact tyc_plain ⟨m / 4096, by omega⟩
  · exact sgn_plain (nine_sgn m c hc)
theorem row_lower {m : Nat} (h : m < 65536) : (Txt.lower (rowT (m : Int))).cps.toList = lo1 (tyc (m / 4096)) :: (nine m).map lo1 := by
  rw [lower_ascii fun c hc => by have := (row_chars h c hc); omega]
  show (Array.map lo1 _).toList = _
  rw [Array.toList_map, row_codes h]; rfl
theorem row_plain {m : Nat} (h : m < 65536) : Plain (rowT (m : Int)) := by
  refine ⟨fun c hc => ⟨(row_chars h c hc).1, (row_chars h c hc).2.1⟩, by rw [row_codes h]; exact (fun h => nomatch h), ?_⟩
  have := rowT_len (m : Int)
  show (rowT (m : Int)).length ≤ 100
  omega
theorem row_plainL {m : Nat} (h : m < 65536) : Plain (Txt.lower (rowT (m : Int))) := by
  refine ⟨fun c hc => ?_, by rw [row_lower h]; exact (fun h => nomatch h), ?_⟩
  · rw [row_lower h] at hc
    rcases List.mem_cons.mp hc with rfl | hc
    · exact (tyc_plain ⟨m / 4096, by omega⟩).2.2
    · obtain ⟨k, hk, rfl⟩ := List.mem_map.mp hc
      exact (sgn_plain (nine_sgn m k hk)).2.2
  · have := len_lower (rowT (m : Int))
    have h2 := rowT_len (m : Int)
    show (Txt.lower (rowT (m : Int))).length ≤ 100
    omega
theorem row_len_lower (m : Int) : PySem.Builtin.Str.tooLong (Txt.lower (rowT m)).length = false := by
  have := len_lower (rowT m)
  have h2 := rowT_len m
  exact fit_lower (by omega)
theorem runs_ne {l : List Nat} (h : l ≠ []) : runs l ≠ [] := by
  cases l with
  | nil => exact absurd rfl h
  | cons c r => rw [runs_step]; exact fun h => nomatch h
theorem runs_each : ∀ (n : Nat) (l : List Nat), l.length ≤ n → ∀ y ∈ runs l, y ≠ [] ∧ y.length ≤ l.length
  | _, [], _, y, hy => by simp [runs] at hy
  | 0, c :: r, h, _, _ => by simp at h
  | n + 1, c :: r, h, y, hy => by
    rw [runs_step] at hy
    rcases List.mem_cons.mp hy with rfl | hy
    · refine ⟨(fun h => nomatch h), ?_⟩
      show (c :: r.takeWhile _).length ≤ _
      rw [List.length_cons, List.length_cons]
      exact Nat.succ_le_succ (List.takeWhile_sublist _).length_le
    · have hl := rest_len c r
      have := runs_each n (restOf (c :: r)) (by rw [List.length_cons] at h; omega) y hy
      exact ⟨this.1, by rw [List.length_cons]; omega⟩
theorem nine_len (q : Nat) : (nine q).length = 9 := rfl
theorem runsOf_eq {m : Nat} (h : m < 65536) : runsOf (m : Int) = toStrs (runs (nine m)) := by
  unfold runsOf
  rw [row_codes h]; rfl
end
section
-- part PL5

set_option Elab.async false
set_option maxRecDepth 100000
noncomputable def lensB : List Bool → List (Bool × Nat)
  | [] => []
  | b :: r => match lensB r with
    | (k, n) :: rs => if k == b then (b, n + 1) :: rs else (b, 1) :: (k, n) :: rs
    | [] => [(b, 1)]
noncomputable def sigL (y : List Nat) : Bool × Nat := (match y with | [] => false | c :: _ => pun c, y.length)
theorem runs_sig : ∀ l : List Nat, (runs l).map sigL = lensB (l.map pun)
  | [] => rfl
  | c :: r => by
    have ih := runs_sig r
    have each := runs_each r.length r (Nat.le_refl _)
    show (match runs r with | (k :: t) :: rs => if pun k == pun c then (c :: k :: t) :: rs else [c] :: (k :: t) :: rs | _ => [[c]]).map sigL = (match lensB (r.map pun) with | (k, n) :: rs => if k == pun c then (pun c, n + 1) :: rs else (pun c, 1) :: (k, n) :: rs | [] => [(pun c, 1)])
    rw [← ih]
    cases hr : runs r with
    | nil => rfl
    | cons y rs =>
      rw [hr] at each
      cases y with
      | nil => exact absurd rfl (each [] (.head _)).1
      | cons k t =>
        show (if pun k == pun c then (c :: k :: t) :: rs else [c] :: (k :: t) :: rs).map sigL = if pun k == pun c then (pun c, (k :: t).length + 1) :: rs.map sigL else (pun c, 1) :: (pun k, (k :: t).length) :: rs.map sigL
        by_cases h : (pun k == pun c) = true
        · rw [if_pos h, if_pos h]; rfl
        · rw [if_neg h, if_neg h]; rfl
noncomputable def rightsS (l : List (Bool × Nat)) : Nat := ((l.filter (·.1)).map (·.2)).sum
noncomputable def behindS (l : List (Bool × Nat)) : Nat := match l.getLast? with
  | none => 0
  | some y => if y.1 then 0 else y.2
theorem sig_str (y : List Nat) : (headPun ⟨y.toArray⟩, (⟨y.toArray⟩ : Str).length) = sigL y := by
  unfold headPun sigL
  cases y <;> simp [Str.length]
theorem rights_sig (l : List (List Nat)) : rightsOf (toStrs l) = rightsS (l.map sigL) := by
  unfold rightsOf rightsS toStrs
  induction l with
  | nil => rfl
  | cons y r ih =>
    have h := sig_str y
    have h1 : headPun ⟨y.toArray⟩ = (sigL y).1 := congrArg (·.1) h
    have h2 : (⟨y.toArray⟩ : Str).length = (sigL y).2 := congrArg (·.2) h
    simp only [List.map_cons, List.filter_cons, h1]
    by_cases q : (sigL y).1 = true
    · rw [if_pos q, if_pos q, List.map_cons, List.map_cons, List.sum_cons, List.sum_cons, ih, h2]
    · rw [if_neg q, if_neg q, ih]
theorem behind_sig (l : List (List Nat)) : behindOf (toStrs l) = behindS (l.map sigL) := by
  unfold behindOf behindS toStrs
  rw [List.getLast?_map, List.getLast?_map]
  cases l.getLast? with
  | none => rfl
  | some y =>
    have h := sig_str y
    have h1 : headPun ⟨y.toArray⟩ = (sigL y).1 := congrArg (·.1) h
    have h2 : (⟨y.toArray⟩ : Str).length = (sigL y).2 := congrArg (·.2) h
    show (if headPun ⟨y.toArray⟩ then 0 else (⟨y.toArray⟩ : Str).length) = if (sigL y).1 then 0 else (sigL y).2
    rw [h1, h2]
noncomputable def patt (r : Nat) : List Bool := [r / 256 % 2 == 1, r / 128 % 2 == 1, r / 64 % 2 == 1, r / 32 % 2 == 1, r / 16 % 2 == 1, r / 8 % 2 == 1, r / 4 % 2 == 1, r / 2 % 2 == 1, r % 2 == 1]
theorem pun_rc : ∀ b : Fin 2, pun (rc b) = ((b : Nat) == 1) := by decide
theorem pun_wc : ∀ b : Fin 2, pun (wc b) = ((b : Nat) == 1) := by decide
theorem pun_xc : ∀ a b : Fin 2, pun (xc (a * 2 + b)) = ((b : Nat) == 1) := by decide
theorem pun_xt : ∀ a b : Fin 2, pun (xt (a * 2 + b)) = ((b : Nat) == 1) := by decide
theorem nine_pun (q : Nat) : (nine q).map pun = patt q := by
  have t (k : Nat) : k % 2 < 2 := Nat.mod_lt _ (by decide)
  have a1 := pun_rc ⟨q / 256 % 2, t _⟩
  have a2 := pun_wc ⟨q / 128 % 2, t _⟩
  have a3 := pun_xc ⟨q / 2048 % 2, t _⟩ ⟨q / 64 % 2, t _⟩
  have a4 := pun_rc ⟨q / 32 % 2, t _⟩
  have a5 := pun_wc ⟨q / 16 % 2, t _⟩
  have a6 := pun_xc ⟨q / 1024 % 2, t _⟩ ⟨q / 8 % 2, t _⟩
  have a7 := pun_rc ⟨q / 4 % 2, t _⟩
  have a8 := pun_wc ⟨q / 2 % 2, t _⟩
  have a9 := pun_xt ⟨q / 512 % 2, t _⟩ ⟨q % 2, t _⟩
  unfold nine patt
  simp only [List.map_cons, List.map_nil]
  dsimp only at a1 a2 a3 a4 a5 a6 a7 a8 a9
  rw [a1, a2, a3, a4, a5, a6, a7, a8, a9]
theorem patt_mod (q : Nat) : patt q = patt (q % 512) := by
  have b (k : Nat) (h : k < 9) : q % 512 / 2 ^ k % 2 = q / 2 ^ k % 2 := low_bit q 9 k h
  have b8 : q % 512 / 256 % 2 = q / 256 % 2 := b 8 (by decide)
  have b7 : q % 512 / 128 % 2 = q / 128 % 2 := b 7 (by decide)
  have b6 : q % 512 / 64 % 2 = q / 64 % 2 := b 6 (by decide)
  have b5 : q % 512 / 32 % 2 = q / 32 % 2 := b 5 (by decide)
  have b4 : q % 512 / 16 % 2 = q / 16 % 2 := b 4 (by decide)
  have b3 : q % 512 / 8 % 2 = q / 8 % 2 := b 3 (by decide)
  have b2 : q % 512 / 4 % 2 = q / 4 % 2 := b 2 (by decide)
  have b1 : q % 512 / 2 % 2 = q / 2 % 2 := b 1 (by decide)
  have b0 : q % 512 % 2 = q % 2 := Nat.mod_mod_of_dvd q (by decide)
  unfold patt
  rw [b8, b7, b6, b5, b4, b3, b2, b1, b0]
/-- the place that is turned -/
noncomputable def placeN (r u : Nat) : Nat := if rightsS (lensB (patt r)) % 2 = u then behindS (lensB (patt r)) + 1 else 0
noncomputable def turnN (r u : Nat) : Nat := let p := placeN r u; if p > 8 then r else if r / 2 ^ p % 2 = 1 then r - 2 ^ p else r + 2 ^ p
end
section
-- part PL6

set_option Elab.async false
set_option maxRecDepth 100000
noncomputable def flipN (r p : Nat) : Nat := if r / 2 ^ p % 2 = 1 then r - 2 ^ p else r + 2 ^ p
theorem flip_eq (m p : Nat) (hp : p ≤ 8) : (m : Int) + 2 ^ ((p : Int)).toNat - 2 ^ (((p : Int) + 1)).toNat * ((m : Int).fdiv (2 ^ ((p : Int)).toNat)).fmod 2 = ((m / 512 * 512 + flipN (m % 512) p : Nat) : Int) := by
  have e1 : ((p : Int)).toNat = p := by omega
  have e2 : (((p : Int) + 1)).toNat = p + 1 := by omega
  rw [e1, e2]
  have e3 : ((2 : Int) ^ p) = ((2 ^ p : Nat) : Int) := by push_cast; rfl
  have e4 : ((2 : Int) ^ (p + 1)) = ((2 ^ (p + 1) : Nat) : Int) := by push_cast; rfl
  rw [e3, e4, fdiv_nat, show (2 : Int) = ((2 : Nat) : Int) from rfl, fmod_nat]
  unfold flipN
  have hb : m % 512 / 2 ^ p % 2 = m / 2 ^ p % 2 := low_bit m 9 p (by omega)
  have hP : 2 ^ (p + 1) = 2 ^ p * 2 := Nat.pow_succ 2 p
  have hm : 512 * (m / 512) + m % 512 = m := Nat.div_add_mod m 512
  rw [hb, hP]
  generalize hx : 2 ^ p = P at *
  rcases Nat.mod_two_eq_zero_or_one (m / P) with z | z
  · rw [if_neg (by rw [z]; decide), z]
    simp only [Int.ofNat_zero, Int.mul_zero, Int.sub_zero]
    rw [← Int.natCast_add, Nat.mul_comm (m / 512) 512, ← Nat.add_assoc, hm]
  · have hq : P ≤ m % 512 := by
      refine Nat.le_of_not_lt fun q => ?_
      rw [Nat.div_eq_of_lt q, z] at hb
      exact absurd hb (by decide)
    rw [if_pos z, z]
    generalize m % 512 = r at *
    generalize m / 512 = t at *
    clear z hb hx hP
    push_cast
    omega
theorem turned_eq {m u : Nat} (h : m < 65536) : turnedOf (m : Int) (runsOf (m : Int)) (u : Int) = ((m / 512 * 512 + turnN (m % 512) u : Nat) : Int) := by
  rw [runsOf_eq h]
  unfold turnedOf
  have hs : (runs (nine m)).map sigL = lensB (patt (m % 512)) := by rw [runs_sig, nine_pun, patt_mod]
  rw [rights_sig, behind_sig, hs]
  have hp : (if ((rightsS (lensB (patt (m % 512))) : Nat) : Int).fmod 2 = (u : Int) then (behindS (lensB (patt (m % 512))) : Int) + 1 else 0) = ((placeN (m % 512) u : Nat) : Int) := by
    unfold placeN
    rw [show (2 : Int) = ((2 : Nat) : Int) from rfl, fmod_nat]
    by_cases q : rightsS (lensB (patt (m % 512))) % 2 = u
    · rw [if_pos q, if_pos (by rw [q])]; push_cast; rfl
    · have q2 : ¬ (((rightsS (lensB (patt (m % 512))) % 2 : Nat) : Int) = (u : Int)) := fun z => q (Int.ofNat.inj z)
      rw [if_neg q, if_neg q2]; rfl
  dsimp only
  rw [hp]
  unfold turnN
  dsimp only
  by_cases q : placeN (m % 512) u > 8
  · rw [if_pos q, if_pos (by omega)]; omega
  · rw [if_neg q, if_neg (by omega)]
    exact flip_eq m _ (by omega)
noncomputable def grayN (c : Nat) : Nat := c ^^^ (c / 2)
noncomputable def stepN (c u : Nat) : Nat := if u = 1 then (if c + 1 < 511 then c + 1 else 511) else c - 1
noncomputable def okG (c : Nat) : Bool := turnN (grayN c) 0 == grayN (stepN c 0) && turnN (grayN c) 1 == grayN (stepN c 1) && decide (grayN c < 512) && decide (stepN c 0 < 512) && decide (stepN c 1 < 512)
theorem okG_all : ∀ a : Fin 32, ∀ b : Fin 16, okG (a * 16 + b) = true := by decide +kernel
theorem okG_at {c : Nat} (h : c < 512) : turnN (grayN c) 0 = grayN (stepN c 0) ∧ turnN (grayN c) 1 = grayN (stepN c 1) ∧ grayN c < 512 ∧ stepN c 0 < 512 ∧ stepN c 1 < 512 := by
  have := okG_all ⟨c / 16, Nat.div_lt_of_lt_mul h⟩ ⟨c % 16, Nat.mod_lt _ (by decide)⟩
  dsimp only at this
  rw [Nat.div_add_mod' c 16] at this
  simpa [okG, and_assoc] using this
end
section
-- part PL7

set_option Elab.async false
set_option maxRecDepth 100000
theorem bor_nat (a b : Nat) : Builtin.bitOr (a : Int) (b : Int) = ((a ||| b : Nat) : Int) := by
  rw [bitOr_and, band_nat]
  have := nat_or_add_and a b
  omega
theorem xor_or (a b : Nat) : (a ^^^ b) + (a &&& b) = a ||| b := by
  have h := nat_or_add_and (a ^^^ b) (a &&& b)
  have h1 : (a ^^^ b) &&& (a &&& b) = 0 := by
    apply Nat.eq_of_testBit_eq
    intro i
    simp only [Nat.testBit_and, Nat.testBit_xor, Nat.zero_testBit]
    cases a.testBit i <;> cases b.testBit i <;> rfl
  have h2 : (a ^^^ b) ||| (a &&& b) = a ||| b := by
    apply Nat.eq_of_testBit_eq
    intro i
    simp only [Nat.testBit_and, Nat.testBit_xor, Nat.testBit_or]
    cases a.testBit i <;> cases b.testBit i <;> rfl
  rw [h1, h2] at h
  omega
theorem bxor_nat (a b : Nat) : Builtin.bitXor (a : Int) (b : Int) = ((a ^^^ b : Nat) : Int) := by
  show Builtin.bitOr (a : Int) (b : Int) - Builtin.bitAnd (a : Int) (b : Int) = _
  rw [bor_nat, band_nat]
  have := xor_or a b
  omega
noncomputable def cntN (r : Nat) : Nat := 0 ^^^ r ^^^ r / 2 ^^^ r / 4 ^^^ r / 8 ^^^ r / 16 ^^^ r / 32 ^^^ r / 64 ^^^ r / 128 ^^^ r / 256
theorem cnt0_nat (r : Nat) : cnt0 (r : Int) = ((cntN r : Nat) : Int) := by
  have e : rangeInts 0 1 (9 - 0 : Int).toNat = [0, 1, 2, 3, 4, 5, 6, 7, 8] := by decide
  have f0 : (r : Int).fdiv (2 ^ (0 : Int).toNat) = ((r : Nat) : Int) := by rw [show (2 : Int) ^ (0 : Int).toNat = ((1 : Nat) : Int) from by decide, fdiv_nat, Nat.div_one]
  have f1 : (r : Int).fdiv (2 ^ (1 : Int).toNat) = ((r / 2 : Nat) : Int) := by rw [show (2 : Int) ^ (1 : Int).toNat = ((2 : Nat) : Int) from by decide, fdiv_nat]
  have f2 : (r : Int).fdiv (2 ^ (2 : Int).toNat) = ((r / 4 : Nat) : Int) := by rw [show (2 : Int) ^ (2 : Int).toNat = ((4 : Nat) : Int) from by decide, fdiv_nat]
  have f3 : (r : Int).fdiv (2 ^ (3 : Int).toNat) = ((r / 8 : Nat) : Int) := by rw [show (2 : Int) ^ (3 : Int).toNat = ((8 : Nat) : Int) from by decide, fdiv_nat]
  have f4 : (r : Int).fdiv (2 ^ (4 : Int).toNat) = ((r / 16 : Nat) : Int) := by rw [show (2 : Int) ^ (4 : Int).toNat = ((16 : Nat) : Int) from by decide, fdiv_nat]
  have f5 : (r : Int).fdiv (2 ^ (5 : Int).toNat) = ((r / 32 : Nat) : Int) := by rw [show (2 : Int) ^ (5 : Int).toNat = ((32 : Nat) : Int) from by decide, fdiv_nat]
  have f6 : (r : Int).fdiv (2 ^ (6 : Int).toNat) = ((r / 64 : Nat) : Int) := by rw [show (2 : Int) ^ (6 : Int).toNat = ((64 : Nat) : Int) from by decide, fdiv_nat]
  have f7 : (r : Int).fdiv (2 ^ (7 : Int).toNat) = ((r / 128 : Nat) : Int) := by rw [show (2 : Int) ^ (7 : Int).toNat = ((128 : Nat) : Int) from by decide, fdiv_nat]
  have f8 : (r : Int).fdiv (2 ^ (8 : Int).toNat) = ((r / 256 : Nat) : Int) := by rw [show (2 : Int) ^ (8 : Int).toNat = ((256 : Nat) : Int) from by decide, fdiv_nat]
  unfold cnt0
  rw [e]
  simp only [List.foldl_cons, List.foldl_nil]
  rw [f0, f1, f2, f3, f4, f5, f6, f7, f8, show (0 : Int) = ((0 : Nat) : Int) from rfl]
  simp only [bxor_nat]
  rfl
theorem gray_nat (r : Nat) : grayI (r : Int) = ((grayN r : Nat) : Int) := by
  unfold grayI grayN
  rw [show (2 : Int) = ((2 : Nat) : Int) from rfl, fdiv_nat, bxor_nat]
noncomputable def okT (r : Nat) : Bool := Nat.blt (cntN r) 512 && Nat.beq (grayN (cntN r)) r
theorem okT_all : ∀ a : Fin 32, ∀ b : Fin 16, okT (a * 16 + b) = true := by decide +kernel
theorem okT_at {r : Nat} (h : r < 512) : turnN r 0 < 512 ∧ turnN r 1 < 512 ∧ (∃ c : Nat, cnt0 (r : Int) = (c : Int) ∧ c < 512 ∧ grayN c = r) ∧ grayI (r : Int) = (grayN r : Int) := by
  have := okT_all ⟨r / 16, by omega⟩ ⟨r % 16, Nat.mod_lt _ (by decide)⟩
  dsimp only at this
  rw [Nat.div_add_mod' r 16] at this
  simp only [okT, Bool.and_eq_true] at this
  have hc : cntN r < 512 := by simpa [Nat.blt_eq] using this.1
  have hg : grayN (cntN r) = r := Nat.eq_of_beq_eq_true this.2
  have g := okG_at hc
  rw [hg] at g
  exact ⟨by rw [g.1]; exact (okG_at g.2.2.2.1).2.2.1, by rw [g.2.1]; exact (okG_at g.2.2.2.2).2.2.1, ⟨cntN r, cnt0_nat r, hc, hg⟩, gray_nat r⟩
theorem stepC_nat (c u : Nat) (hu : u = 0 ∨ u = 1) : stepC (c : Int) (u : Int) = (stepN c u : Int) := by
  unfold stepC stepN
  rcases hu with rfl | rfl
  · rw [if_neg (show ¬ (((0 : Nat) : Int) = 1) by decide), if_neg (show ¬ ((0 : Nat) = 1) by decide)]
    split <;> omega
  · rw [if_pos (show (((1 : Nat) : Int) = 1) by decide), if_pos (show (1 : Nat) = 1 from rfl)]
    split <;> split <;> omega
/-- the counts that follow -/
noncomputable def cntsN : Nat → List Nat → List Nat
  | _, [] => []
  | c, u :: us => stepN c u :: cntsN (stepN c u) us
theorem cnts_lt : ∀ (us : List Nat) (c : Nat), c < 512 → (∀ u ∈ us, u = 0 ∨ u = 1) → ∀ y ∈ cntsN c us, y < 512
  | [], _, _, _, y, hy => by simp [cntsN] at hy
  | u :: us, c, hc, hu, y, hy => by
    have g := okG_at hc
    have hs : stepN c u < 512 := by
      rcases hu u (.head _) with rfl | rfl
      · exact g.2.2.2.1
      · exact g.2.2.2.2
    rw [cntsN] at hy
    rcases List.mem_cons.mp hy with rfl | hy
    · exact hs
    · exact cnts_lt us _ hs (fun v hv => hu v (.tail _ hv)) y hy
theorem setsF_nat : ∀ (us : List Nat) (c : Nat), c < 512 → (∀ u ∈ us, u = 0 ∨ u = 1) → setsF (c : Int) (us.map fun u : Nat => (u : Int)) = (cntsN c us).map fun y => ((grayN y : Nat) : Int)
  | [], _, _, _ => rfl
  | u :: us, c, hc, hu => by
    have g := okG_at hc
    have hs : stepN c u < 512 := by
      rcases hu u (.head _) with rfl | rfl
      · exact g.2.2.2.1
      · exact g.2.2.2.2
    rw [List.map_cons, setsF, cntsN, List.map_cons, stepC_nat c u (hu u (.head _)), (okT_at hs).2.2.2, setsF_nat us _ hs fun v hv => hu v (.tail _ hv)]
theorem ups_nat : ∀ ups : List Int, (∀ u ∈ ups, u = 0 ∨ u = 1) → ∃ us : List Nat, ups = us.map (fun u : Nat => (u : Int)) ∧ ∀ u ∈ us, u = 0 ∨ u = 1
  | [], _ => ⟨[], rfl, fun _ h => nomatch h⟩
  | u :: ups, h => by
    obtain ⟨us, e, hu⟩ := ups_nat ups fun v hv => h v (.tail _ hv)
    rcases h u (.head _) with rfl | rfl
    · exact ⟨0 :: us, by rw [e]; rfl, fun v hv => by rcases List.mem_cons.mp hv with rfl | hv; exact .inl rfl; exact hu v hv⟩
    · exact ⟨1 :: us, by rw [e]; rfl, fun v hv => by rcases List.mem_cons.mp hv with rfl | hv; exact .inr rfl; exact hu v hv⟩
/-- the counts: the first, and those that follow -/
theorem sets_nat {m : Nat} {us : List Nat} (hu : ∀ u ∈ us, u = 0 ∨ u = 1) : ∃ c : Nat, c < 512 ∧ grayN c = m % 512 ∧ setsOf (m : Int) (us.map fun u : Nat => (u : Int)) = (c :: cntsN c us).map fun y => ((grayN y : Nat) : Int) := by
  have hr : m % 512 < 512 := Nat.mod_lt _ (by decide)
  obtain ⟨c, e, hc, hg⟩ := (okT_at hr).2.2.1
  refine ⟨c, hc, hg, ?_⟩
  unfold setsOf
  rw [show (512 : Int) = ((512 : Nat) : Int) from rfl, fmod_nat, e, setsF_nat us c hc hu, List.map_cons, hg]
theorem HSl (md : Int) (ups : List Int) : (setsOf md ups).length = ups.length + 1 := by
  have : ∀ (ups : List Int) (c : Int), (setsF c ups).length = ups.length := by
    intro ups
    induction ups with
    | nil => intro _; rfl
    | cons u us ih => intro c; rw [setsF, List.length_cons, List.length_cons, ih]
  unfold setsOf
  rw [List.length_cons, this]
theorem HSb (md : Int) (ups : List Int) (h0 : 0 ≤ md) (h1 : md < 65536) (hu : ∀ u ∈ ups, u = 0 ∨ u = 1) : ∀ y ∈ setsOf md ups, 0 ≤ y ∧ y < 512 := by
  obtain ⟨m, rfl⟩ := Int.eq_ofNat_of_zero_le h0
  obtain ⟨us, rfl, hus⟩ := ups_nat ups hu
  obtain ⟨c, hc, _, e⟩ := sets_nat (m := m) hus
  intro y hy
  rw [e] at hy
  obtain ⟨k, hk, rfl⟩ := List.mem_map.mp hy
  have hk2 : k < 512 := by
    rcases List.mem_cons.mp hk with rfl | hk
    · exact hc
    · exact cnts_lt us c hc hus k hk
  exact ⟨Int.natCast_nonneg _, Int.ofNat_lt.mpr (okG_at hk2).2.2.1⟩
theorem turned_lt {m t : Nat} (hm : m < 65536) (ht : t < 512) : m / 512 * 512 + t < 65536 := by
  have h1 : m / 512 < 128 := Nat.div_lt_of_lt_mul hm
  have h2 := Nat.mul_le_mul_right 512 (Nat.succ_le_of_lt h1)
  rw [Nat.succ_mul] at h2
  exact Nat.lt_of_lt_of_le (Nat.add_lt_add_left ht _) h2
theorem HR : ∀ k : Int, 0 ≤ k → k < 65536 → RowFacts k := by
  intro k h0 h1
  obtain ⟨m, rfl⟩ := Int.eq_ofNat_of_zero_le h0
  have hm : m < 65536 := Int.ofNat_lt.mp h1
  refine ⟨?_, row_plain hm, row_plainL hm, row_len_lower _, fm_codes hm, ?_, ?_, ?_⟩
  · rw [row_codes hm]; exact nine_sgn m
  · rw [runsOf_eq hm]
    intro h
    have := runs_ne (l := nine m) (by unfold nine; exact (fun h => nomatch h))
    unfold toStrs at h
    exact this (List.map_eq_nil_iff.mp h)
  · rw [runsOf_eq hm]
    intro y hy
    obtain ⟨x, hx, rfl⟩ := List.mem_map.mp hy
    have := runs_each _ (nine m) (Nat.le_refl _) x hx
    rw [nine_len] at this
    exact ⟨this.1, this.2⟩
  · intro u hu
    have hr : m % 512 < 512 := Nat.mod_lt _ (by decide)
    have t := okT_at hr
    rcases hu with rfl | rfl
    · rw [show (0 : Int) = ((0 : Nat) : Int) from rfl, turned_eq hm]
      exact ⟨Int.natCast_nonneg _, Int.ofNat_lt.mpr (turned_lt hm t.1)⟩
    · rw [show turnedOf (m : Int) (runsOf (m : Int)) 1 = turnedOf (m : Int) (runsOf (m : Int)) ((1 : Nat) : Int) from rfl, turned_eq hm]
      exact ⟨Int.natCast_nonneg _, Int.ofNat_lt.mpr (turned_lt hm t.2.1)⟩
end
section
-- part PL8

set_option Elab.async false
set_option maxRecDepth 100000
noncomputable def psums : Nat → List Nat → List Nat
  | _, [] => []
  | a, n :: ns => a :: psums (a + n) ns
theorem slice_run {x : Str} {y r : List Nat} {a : Nat} (h : x.cps.toList.drop a = y ++ r) (hl : a + y.length ≤ x.cps.toList.length) : Txt.slice x (some (Int.ofNat a)) (some (Int.ofNat (a + y.length))) = ⟨y.toArray⟩ := by
  have e := slice_ab (x := x) (i := Int.ofNat a) (j := Int.ofNat (a + y.length)) ⟨Int.natCast_nonneg a, Int.ofNat_le.mpr (Nat.le_add_right _ _), Int.ofNat_le.mpr hl⟩
  rw [e]
  have e1 : (Int.ofNat a).toNat = a := rfl
  have e2 : (Int.ofNat (a + y.length) - Int.ofNat a).toNat = y.length := by
    show (((a + y.length : Nat) : Int) - (a : Int)).toNat = _
    omega
  rw [e1, e2, h]
  simp
theorem zip_pieces {x : Str} : ∀ (L : List (List Nat)) (a : Nat), x.cps.toList.drop a = L.flatten → a + (L.map List.length).sum ≤ x.cps.toList.length →
    ((((psums a (L.map List.length)).map Int.ofNat).zip (((psums a (L.map List.length)).map Int.ofNat).drop 1 ++ [Int.ofNat (a + (L.map List.length).sum)])).map fun p => Txt.slice x (some p.1) (some p.2)) = toStrs L
  | [], a, _, _ => rfl
  | [y], a, h, hl => by
    have := slice_run (x := x) (y := y) (r := []) (a := a) (by rw [h]; simp) (by simpa using hl)
    simp only [List.map_cons, List.map_nil, psums, List.sum_cons, List.sum_nil, Nat.add_zero, List.drop_succ_cons, List.drop_zero, List.nil_append, List.zip_cons_cons, List.zip_nil_left]
    rw [this]; rfl
  | y :: z :: L, a, h, hl => by
    have h1 : x.cps.toList.drop a = y ++ (z :: L).flatten := by rw [h]; rfl
    simp only [List.map_cons, List.sum_cons] at hl
    have s1 := slice_run (x := x) (a := a) h1 (by omega)
    have h2 : x.cps.toList.drop (a + y.length) = (z :: L).flatten := by rw [← List.drop_drop, h1]; simp
    have ih := zip_pieces (x := x) (z :: L) (a + y.length) h2 (by simp only [List.map_cons, List.sum_cons]; omega)
    simp only [List.map_cons, psums, List.sum_cons, List.drop_succ_cons, List.drop_zero, List.cons_append, List.zip_cons_cons] at ih ⊢
    rw [s1]
    have e : a + (y.length + (z.length + (L.map List.length).sum)) = a + y.length + (z.length + (L.map List.length).sum) := by omega
    rw [e, ih]; rfl
theorem runs_flat : ∀ l : List Nat, (runs l).flatten = l
  | [] => rfl
  | c :: r => by
    have ih := runs_flat r
    show (match runs r with | (k :: t) :: rs => if pun k == pun c then (c :: k :: t) :: rs else [c] :: (k :: t) :: rs | _ => [[c]]).flatten = c :: r
    have each := runs_each r.length r (Nat.le_refl _)
    cases hr : runs r with
    | nil => rw [hr] at ih; rw [← ih]; rfl
    | cons y rs =>
      rw [hr] at each ih
      cases y with
      | nil => exact absurd rfl (each [] (.head _)).1
      | cons k t =>
        rw [← ih]
        show (if pun k == pun c then (c :: k :: t) :: rs else [c] :: (k :: t) :: rs).flatten = _
        by_cases h : (pun k == pun c) = true
        · rw [if_pos h]; rfl
        · rw [if_neg h]; rfl
noncomputable def cutP (p : List Bool) (k : Nat) : Bool := decide (k = 0) || (p.getD k false != p.getD (k - 1) false)
theorem getD_pun (l : List Nat) (k : Nat) : (l.map pun).getD k false = pun (l.getD k 0) := by
  rw [List.getD_eq_getElem?_getD, List.getD_eq_getElem?_getD, List.getElem?_map]
  cases l[k]? with
  | none => rfl
  | some c => rfl
theorem cuts_pun (l : List Nat) (n : Nat) : cutsOf l n = ((List.range n).filter (cutP (l.map pun))).map Int.ofNat := by
  unfold cutsOf
  congr 1
  apply List.filter_congr
  intro k _
  unfold cutAt cutP
  rw [getD_pun, getD_pun]
noncomputable def okC (r : Nat) : Bool := ((List.range 9).filter (cutP (patt r)) == psums 0 ((lensB (patt r)).map (·.2))) && (((lensB (patt r)).map (·.2)).sum == 9)
theorem okC_all : ∀ a : Fin 32, ∀ b : Fin 16, okC (a * 16 + b) = true := by decide +kernel
theorem okC_at {r : Nat} (h : r < 512) : (List.range 9).filter (cutP (patt r)) = psums 0 ((lensB (patt r)).map (·.2)) ∧ ((lensB (patt r)).map (·.2)).sum = 9 := by
  have := okC_all ⟨r / 16, by omega⟩ ⟨r % 16, Nat.mod_lt _ (by decide)⟩
  dsimp only at this
  rw [Nat.div_add_mod' r 16] at this
  simpa [okC] using this
theorem pieces_runs {x : Str} {m : Nat} (hx : x.cps.toList = nine m) : piecesOf x 9 = toStrs (runs (nine m)) := by
  have hr : m % 512 < 512 := Nat.mod_lt _ (by decide)
  obtain ⟨c1, c2⟩ := okC_at hr
  have hl : (runs (nine m)).map List.length = (lensB (patt (m % 512))).map (·.2) := by
    rw [← patt_mod, ← nine_pun, ← runs_sig, List.map_map]; rfl
  have z := zip_pieces (x := x) (runs (nine m)) 0 (by rw [runs_flat, hx]; rfl) (by rw [hl, c2, hx, nine_len]; exact Nat.le_refl _)
  rw [hl, c2] at z
  unfold piecesOf
  rw [cuts_pun, hx, nine_pun, patt_mod, c1]
  exact z
theorem tail_pieces {m : Nat} (h : m < 65536) : piecesOf (Txt.slice (rowT (m : Int)) (some 1) none) 9 = runsOf (m : Int) := by
  rw [runsOf_eq h]
  apply pieces_runs
  rw [tail_cut (by rw [rowT_len]; decide), row_codes h]
  rfl
end
section
-- part PL9

set_option Elab.async false
set_option maxRecDepth 100000
/-- which exec signs are hidden behind the class's own -/
noncomputable def hidN (m : Nat) : Nat := m / 2048 % 2 * 64 + m / 1024 % 2 * 8 + m / 512 % 2
theorem hid_by (m : Nat) : hidN m = m / 512 % 8 / 4 % 2 * 64 + m / 512 % 8 / 2 % 2 * 8 + m / 512 % 8 % 2 := by
  unfold hidN
  rw [show m / 512 % 8 / 4 % 2 = m / 512 / 4 % 2 from low_bit (m / 512) 3 2 (by decide), show m / 512 % 8 / 2 % 2 = m / 512 / 2 % 2 from low_bit (m / 512) 3 1 (by decide), show m / 512 % 8 % 2 = m / 512 % 2 from Nat.mod_mod_of_dvd _ (by decide), Nat.div_div_eq_div_mul, Nat.div_div_eq_div_mul]
theorem hid_same {x y : Nat} (h : x / 512 % 8 = y / 512 % 8) : hidN x = hidN y := by rw [hid_by, hid_by, h]
theorem hid_lt (m : Nat) : hidN m < 512 := by
  have a := Nat.mod_lt (m / 2048) (show 0 < 2 by decide)
  have b := Nat.mod_lt (m / 1024) (show 0 < 2 by decide)
  have c := Nat.mod_lt (m / 512) (show 0 < 2 by decide)
  unfold hidN
  generalize m / 2048 % 2 = x at *
  generalize m / 1024 % 2 = y at *
  generalize m / 512 % 2 = z at *
  omega
theorem hid_nat (m : Nat) : hidOf (m : Int) = ((hidN m : Nat) : Int) := by
  unfold hidOf hidN
  rw [show (2048 : Int) = ((2048 : Nat) : Int) from rfl, show (1024 : Int) = ((1024 : Nat) : Int) from rfl, show (512 : Int) = ((512 : Nat) : Int) from rfl, show (2 : Int) = ((2 : Nat) : Int) from rfl, fdiv_nat, fdiv_nat, fdiv_nat, fmod_nat, fmod_nat, fmod_nat]
  push_cast
  rfl
/-- a lowered sign tells a bit, the hidden one always -/
noncomputable def decN (l : List Nat) : Nat := l.foldl (fun n c => n * 2 + (if c = 45 then 0 else 1)) 0
theorem bit_or (x y k : Nat) : (x ||| y) / 2 ^ k % 2 = (x / 2 ^ k % 2 ||| y / 2 ^ k % 2) := by
  have h := Nat.or_mod_two_pow (a := x / 2 ^ k) (b := y / 2 ^ k) (n := 1)
  rw [Nat.or_div_two_pow]
  simpa using h
noncomputable def dg (c : Nat) : Nat := if c = 45 then 0 else 1
theorem dec_nine (a b c d e f g h i : Nat) : decN [a, b, c, d, e, f, g, h, i] = dg a * 256 + dg b * 128 + dg c * 64 + dg d * 32 + dg e * 16 + dg f * 8 + dg g * 4 + dg h * 2 + dg i := by
  show ((((((((0 * 2 + dg a) * 2 + dg b) * 2 + dg c) * 2 + dg d) * 2 + dg e) * 2 + dg f) * 2 + dg g) * 2 + dg h) * 2 + dg i = _
  omega
theorem dg_rc : ∀ b : Fin 2, dg (lo1 (rc b)) = b := by decide
theorem dg_wc : ∀ b : Fin 2, dg (lo1 (wc b)) = b := by decide
theorem dg_xc : ∀ a b : Fin 2, dg (lo1 (xc (a * 2 + b))) = ((b : Nat) ||| (a : Nat)) ∧ lo1 (xc (a * 2 + b)) = lo1 (xc (a * 2 + ((b : Nat) ||| (a : Nat)))) := by decide
theorem dg_xt : ∀ a b : Fin 2, dg (lo1 (xt (a * 2 + b))) = ((b : Nat) ||| (a : Nat)) ∧ lo1 (xt (a * 2 + b)) = lo1 (xt (a * 2 + ((b : Nat) ||| (a : Nat)))) := by decide
theorem hidF_0 : ∀ A B C : Fin 2, ((A : Nat) * 64 + (B : Nat) * 8 + (C : Nat)) % 2 = (C : Nat) := by decide
theorem hid_0 (q : Nat) : hidN q % 2 = q / 512 % 2 := hidF_0 ⟨q / 2048 % 2, Nat.mod_lt _ (by decide)⟩ ⟨q / 1024 % 2, Nat.mod_lt _ (by decide)⟩ ⟨q / 512 % 2, Nat.mod_lt _ (by decide)⟩
theorem rb_0 (q : Nat) : (q % 512 ||| hidN q) % 2 = (q % 2 ||| q / 512 % 2) := by
  have e := bit_or (q % 512) (hidN q) 0
  rw [Nat.pow_zero, Nat.div_one, Nat.div_one, Nat.div_one, hid_0, show q % 512 % 2 = q % 2 from Nat.mod_mod_of_dvd q (by decide)] at e
  exact e
theorem hidF_1 : ∀ A B C : Fin 2, ((A : Nat) * 64 + (B : Nat) * 8 + (C : Nat)) / 2 % 2 = 0 := by decide
theorem hid_1 (q : Nat) : hidN q / 2 % 2 = 0 := hidF_1 ⟨q / 2048 % 2, Nat.mod_lt _ (by decide)⟩ ⟨q / 1024 % 2, Nat.mod_lt _ (by decide)⟩ ⟨q / 512 % 2, Nat.mod_lt _ (by decide)⟩
theorem rb_1 (q : Nat) : (q % 512 ||| hidN q) / 2 % 2 = q / 2 % 2 := by
  have e : (q % 512 ||| hidN q) / 2 % 2 = (q % 512 / 2 % 2 ||| hidN q / 2 % 2) := bit_or (q % 512) (hidN q) 1
  rw [e, hid_1, Nat.or_zero]
  exact low_bit q 9 1 (by decide)
theorem hidF_2 : ∀ A B C : Fin 2, ((A : Nat) * 64 + (B : Nat) * 8 + (C : Nat)) / 4 % 2 = 0 := by decide
theorem hid_2 (q : Nat) : hidN q / 4 % 2 = 0 := hidF_2 ⟨q / 2048 % 2, Nat.mod_lt _ (by decide)⟩ ⟨q / 1024 % 2, Nat.mod_lt _ (by decide)⟩ ⟨q / 512 % 2, Nat.mod_lt _ (by decide)⟩
theorem rb_2 (q : Nat) : (q % 512 ||| hidN q) / 4 % 2 = q / 4 % 2 := by
  have e : (q % 512 ||| hidN q) / 4 % 2 = (q % 512 / 4 % 2 ||| hidN q / 4 % 2) := bit_or (q % 512) (hidN q) 2
  rw [e, hid_2, Nat.or_zero]
  exact low_bit q 9 2 (by decide)
theorem hidF_3 : ∀ A B C : Fin 2, ((A : Nat) * 64 + (B : Nat) * 8 + (C : Nat)) / 8 % 2 = (B : Nat) := by decide
theorem hid_3 (q : Nat) : hidN q / 8 % 2 = q / 1024 % 2 := hidF_3 ⟨q / 2048 % 2, Nat.mod_lt _ (by decide)⟩ ⟨q / 1024 % 2, Nat.mod_lt _ (by decide)⟩ ⟨q / 512 % 2, Nat.mod_lt _ (by decide)⟩
theorem rb_3 (q : Nat) : (q % 512 ||| hidN q) / 8 % 2 = (q / 8 % 2 ||| q / 1024 % 2) := by
  have e : (q % 512 ||| hidN q) / 8 % 2 = (q % 512 / 8 % 2 ||| hidN q / 8 % 2) := bit_or (q % 512) (hidN q) 3
  rw [e, hid_3, show q % 512 / 8 % 2 = q / 8 % 2 from low_bit q 9 3 (by decide)]
theorem hidF_4 : ∀ A B C : Fin 2, ((A : Nat) * 64 + (B : Nat) * 8 + (C : Nat)) / 16 % 2 = 0 := by decide
theorem hid_4 (q : Nat) : hidN q / 16 % 2 = 0 := hidF_4 ⟨q / 2048 % 2, Nat.mod_lt _ (by decide)⟩ ⟨q / 1024 % 2, Nat.mod_lt _ (by decide)⟩ ⟨q / 512 % 2, Nat.mod_lt _ (by decide)⟩
theorem rb_4 (q : Nat) : (q % 512 ||| hidN q) / 16 % 2 = q / 16 % 2 := by
  have e : (q % 512 ||| hidN q) / 16 % 2 = (q % 512 / 16 % 2 ||| hidN q / 16 % 2) := bit_or (q % 512) (hidN q) 4
  rw [e, hid_4, Nat.or_zero]
  exact low_bit q 9 4 (by decide)
theorem hidF_5 : ∀ A B C : Fin 2, ((A : Nat) * 64 + (B : Nat) * 8 + (C : Nat)) / 32 % 2 = 0 := by decide
theorem hid_5 (q : Nat) : hidN q / 32 % 2 = 0 := hidF_5 ⟨q / 2048 % 2, Nat.mod_lt _ (by decide)⟩ ⟨q / 1024 % 2, Nat.mod_lt _ (by decide)⟩ ⟨q / 512 % 2, Nat.mod_lt _ (by decide)⟩
theorem rb_5 (q : Nat) : (q % 512 ||| hidN q) / 32 % 2 = q / 32 % 2 := by
  have e : (q % 512 ||| hidN q) / 32 % 2 = (q % 512 / 32 % 2 ||| hidN q / 32 % 2) := bit_or (q % 512) (hidN q) 5
  rw [e, hid_5, Nat.or_zero]
  exact low_bit q 9 5 (by decide)
theorem hidF_6 : ∀ A B C : Fin 2, ((A : Nat) * 64 + (B : Nat) * 8 + (C : Nat)) / 64 % 2 = (A : Nat) := by decide
theorem hid_6 (q : Nat) : hidN q / 64 % 2 = q / 2048 % 2 := hidF_6 ⟨q / 2048 % 2, Nat.mod_lt _ (by decide)⟩ ⟨q / 1024 % 2, Nat.mod_lt _ (by decide)⟩ ⟨q / 512 % 2, Nat.mod_lt _ (by decide)⟩
theorem rb_6 (q : Nat) : (q % 512 ||| hidN q) / 64 % 2 = (q / 64 % 2 ||| q / 2048 % 2) := by
  have e : (q % 512 ||| hidN q) / 64 % 2 = (q % 512 / 64 % 2 ||| hidN q / 64 % 2) := bit_or (q % 512) (hidN q) 6
  rw [e, hid_6, show q % 512 / 64 % 2 = q / 64 % 2 from low_bit q 9 6 (by decide)]
theorem hidF_7 : ∀ A B C : Fin 2, ((A : Nat) * 64 + (B : Nat) * 8 + (C : Nat)) / 128 % 2 = 0 := by decide
theorem hid_7 (q : Nat) : hidN q / 128 % 2 = 0 := hidF_7 ⟨q / 2048 % 2, Nat.mod_lt _ (by decide)⟩ ⟨q / 1024 % 2, Nat.mod_lt _ (by decide)⟩ ⟨q / 512 % 2, Nat.mod_lt _ (by decide)⟩
theorem rb_7 (q : Nat) : (q % 512 ||| hidN q) / 128 % 2 = q / 128 % 2 := by
  have e : (q % 512 ||| hidN q) / 128 % 2 = (q % 512 / 128 % 2 ||| hidN q / 128 % 2) := bit_or (q % 512) (hidN q) 7
  rw [e, hid_7, Nat.or_zero]
  exact low_bit q 9 7 (by decide)
theorem hidF_8 : ∀ A B C : Fin 2, ((A : Nat) * 64 + (B : Nat) * 8 + (C : Nat)) / 256 % 2 = 0 := by decide
theorem hid_8 (q : Nat) : hidN q / 256 % 2 = 0 := hidF_8 ⟨q / 2048 % 2, Nat.mod_lt _ (by decide)⟩ ⟨q / 1024 % 2, Nat.mod_lt _ (by decide)⟩ ⟨q / 512 % 2, Nat.mod_lt _ (by decide)⟩
theorem rb_8 (q : Nat) : (q % 512 ||| hidN q) / 256 % 2 = q / 256 % 2 := by
  have e : (q % 512 ||| hidN q) / 256 % 2 = (q % 512 / 256 % 2 ||| hidN q / 256 % 2) := bit_or (q % 512) (hidN q) 8
  rw [e, hid_8, Nat.or_zero]
  exact low_bit q 9 8 (by decide)
theorem nine_sumF : ∀ a : Fin 32, ∀ b : Fin 16, (fun R => R / 256 % 2 * 256 + R / 128 % 2 * 128 + R / 64 % 2 * 64 + R / 32 % 2 * 32 + R / 16 % 2 * 16 + R / 8 % 2 * 8 + R / 4 % 2 * 4 + R / 2 % 2 * 2 + R % 2 == R) ((a : Nat) * 16 + b) = true := by decide +kernel
theorem nine_sum {R : Nat} (h : R < 512) : R / 256 % 2 * 256 + R / 128 % 2 * 128 + R / 64 % 2 * 64 + R / 32 % 2 * 32 + R / 16 % 2 * 16 + R / 8 % 2 * 8 + R / 4 % 2 * 4 + R / 2 % 2 * 2 + R % 2 = R := by
  have e := nine_sumF ⟨R / 16, Nat.div_lt_of_lt_mul h⟩ ⟨R % 16, Nat.mod_lt _ (by decide)⟩
  dsimp only at e
  rw [show R / 16 * 16 + R % 16 = R from by rw [Nat.mul_comm]; exact Nat.div_add_mod R 16] at e
  exact beq_iff_eq.mp e
theorem up_0 (M R : Nat) : (M * 512 + R) % 2 = R % 2 := by
  have e := add_low M R 0 (by decide)
  rwa [Nat.pow_zero, Nat.div_one, Nat.div_one] at e
theorem up_1 (M R : Nat) : (M * 512 + R) / 2 % 2 = R / 2 % 2 := add_low M R 1 (by decide)
theorem up_2 (M R : Nat) : (M * 512 + R) / 4 % 2 = R / 4 % 2 := add_low M R 2 (by decide)
theorem up_3 (M R : Nat) : (M * 512 + R) / 8 % 2 = R / 8 % 2 := add_low M R 3 (by decide)
theorem up_4 (M R : Nat) : (M * 512 + R) / 16 % 2 = R / 16 % 2 := add_low M R 4 (by decide)
theorem up_5 (M R : Nat) : (M * 512 + R) / 32 % 2 = R / 32 % 2 := add_low M R 5 (by decide)
theorem up_6 (M R : Nat) : (M * 512 + R) / 64 % 2 = R / 64 % 2 := add_low M R 6 (by decide)
theorem up_7 (M R : Nat) : (M * 512 + R) / 128 % 2 = R / 128 % 2 := add_low M R 7 (by decide)
theorem up_8 (M R : Nat) : (M * 512 + R) / 256 % 2 = R / 256 % 2 := add_low M R 8 (by decide)
theorem up_9 (q R : Nat) (h : R < 512) : (q / 512 * 512 + R) / 512 % 2 = q / 512 % 2 := congrArg (· % 2) (add_top q R 1 h)
theorem up_10 (q R : Nat) (h : R < 512) : (q / 512 * 512 + R) / 1024 % 2 = q / 1024 % 2 := congrArg (· % 2) (add_top q R 2 h)
theorem up_11 (q R : Nat) (h : R < 512) : (q / 512 * 512 + R) / 2048 % 2 = q / 2048 % 2 := congrArg (· % 2) (add_top q R 4 h)
theorem okL_at {q : Nat} (_h : q < 4096) : decN ((nine q).map lo1) = (q % 512 ||| hidN q) ∧ (nine q).map lo1 = (nine (q / 512 * 512 + (q % 512 ||| hidN q))).map lo1 := by
  have t (k : Nat) : k % 2 < 2 := Nat.mod_lt _ (by decide)
  have hr : (q % 512 ||| hidN q) < 512 := Nat.or_lt_two_pow (n := 9) (Nat.mod_lt _ (by decide)) (hid_lt q)
  have c8 := dg_rc ⟨q / 256 % 2, t _⟩
  have c7 := dg_wc ⟨q / 128 % 2, t _⟩
  have c6 := dg_xc ⟨q / 2048 % 2, t _⟩ ⟨q / 64 % 2, t _⟩
  have c5 := dg_rc ⟨q / 32 % 2, t _⟩
  have c4 := dg_wc ⟨q / 16 % 2, t _⟩
  have c3 := dg_xc ⟨q / 1024 % 2, t _⟩ ⟨q / 8 % 2, t _⟩
  have c2 := dg_rc ⟨q / 4 % 2, t _⟩
  have c1 := dg_wc ⟨q / 2 % 2, t _⟩
  have c0 := dg_xt ⟨q / 512 % 2, t _⟩ ⟨q % 2, t _⟩
  dsimp only at c8 c7 c6 c5 c4 c3 c2 c1 c0
  constructor
  · unfold nine
    simp only [List.map_cons, List.map_nil]
    rw [dec_nine, c8, c7, c6.1, c5, c4, c3.1, c2, c1, c0.1, ← rb_8, ← rb_7, ← rb_6, ← rb_5, ← rb_4, ← rb_3, ← rb_2, ← rb_1, ← rb_0]
    exact nine_sum hr
  · unfold nine
    simp only [List.map_cons, List.map_nil]
    rw [up_8, up_7, up_6, up_5, up_4, up_3, up_2, up_1, up_0, up_9 _ _ hr, up_10 _ _ hr, up_11 _ _ hr, rb_8, rb_7, rb_6, rb_5, rb_4, rb_3, rb_2, rb_1, rb_0, ← c6.2, ← c3.2, ← c0.2]
end
section
-- part PLA

theorem xor_hid (a b h : Nat) : ((a ^^^ b) ||| h = h) ↔ (a ||| h = b ||| h) := by
  constructor
  · intro e
    apply Nat.eq_of_testBit_eq
    intro i
    have := congrArg (fun z => z.testBit i) e
    simp only [Nat.testBit_or, Nat.testBit_xor] at this ⊢
    revert this
    cases a.testBit i <;> cases b.testBit i <;> cases h.testBit i <;> simp
  · intro e
    apply Nat.eq_of_testBit_eq
    intro i
    have := congrArg (fun z => z.testBit i) e
    simp only [Nat.testBit_or, Nat.testBit_xor] at this ⊢
    revert this
    cases a.testBit i <;> cases b.testBit i <;> cases h.testBit i <;> simp
end
section
-- part PLB

set_option Elab.async false
set_option maxRecDepth 100000
theorem part_at {M a : Nat} (ha : a < 512) : (M * 512 + a) / 512 = M ∧ (M * 512 + a) % 512 = a := by
  rw [Nat.add_comm, Nat.add_mul_div_right _ _ (by decide), Nat.div_eq_of_lt ha, Nat.add_mul_mod_self_right, Nat.mod_eq_of_lt ha, Nat.zero_add]
  exact ⟨rfl, rfl⟩
theorem part_4 {M a : Nat} (ha : a < 512) : (M * 512 + a) % 4096 % 512 = a ∧ (M * 512 + a) % 4096 / 512 = M % 8 := by
  rw [Nat.mod_mod_of_dvd _ (by decide), (part_at ha).2, show (4096 : Nat) = 512 * 8 from rfl, Nat.mod_mul_right_div_self, (part_at ha).1]
  exact ⟨rfl, rfl⟩
theorem hid_4096 {M a : Nat} (ha : a < 512) : hidN ((M * 512 + a) % 4096) = hidN (M * 512) := hid_same (by rw [(part_4 ha).2, Nat.mod_mod, show M * 512 / 512 = M from Nat.mul_div_cancel M (by decide)])
theorem kind_at {M a : Nat} (ha : a < 512) : (M * 512 + a) / 4096 = M / 8 := by rw [show (4096 : Nat) = 512 * 8 from rfl, ← Nat.div_div_eq_div_mul, (part_at ha).1]
theorem lower_same {M a b : Nat} (hM : M < 128) (ha : a < 512) (hb : b < 512) : Txt.lower (rowT ((M * 512 + a : Nat) : Int)) = Txt.lower (rowT ((M * 512 + b : Nat) : Int)) ↔ (a ||| hidN (M * 512)) = (b ||| hidN (M * 512)) := by
  have la := row_lower (m := M * 512 + a) (by omega)
  have lb := row_lower (m := M * 512 + b) (by omega)
  have qa := okL_at (q := (M * 512 + a) % 4096) (Nat.mod_lt _ (by decide))
  have qb := okL_at (q := (M * 512 + b) % 4096) (Nat.mod_lt _ (by decide))
  have ha1 := hid_4096 (M := M) ha
  have hb1 := hid_4096 (M := M) hb
  rw [(part_4 ha).1, (part_4 ha).2, nine_mod, ha1] at qa
  rw [(part_4 hb).1, (part_4 hb).2, nine_mod, hb1] at qb
  constructor
  · intro e
    rw [e, lb] at la
    have := (List.cons.inj la).2
    rw [← qa.1, ← qb.1, this]
  · intro e
    apply str_of_codes
    rw [la, lb, qa.2, qb.2, e, kind_at ha, kind_at hb]
end
section
-- part PLC

set_option Elab.async false
set_option maxRecDepth 100000
/-- the first of 0..k that is alike -/
noncomputable def firstN (E : Nat → Nat → Bool) (k : Nat) : Nat := ((List.range (k + 1)).filter fun i => E i k).headD 0
theorem first_spec {E : Nat → Nat → Bool} (er : ∀ i, E i i = true) (k : Nat) : E (firstN E k) k = true ∧ firstN E k ≤ k ∧ ∀ j, j < firstN E k → E j k = false := by
  have hne : ((List.range (k + 1)).find? fun i => E i k) ≠ none := by
    intro h
    have := List.find?_eq_none.mp h k (List.mem_range.mpr (Nat.lt_succ_self k))
    exact this (er k)
  obtain ⟨i, hi⟩ := Option.ne_none_iff_exists'.mp hne
  have hf : firstN E k = i := by
    unfold firstN
    rw [List.headD_eq_head?_getD, List.head?_filter, hi]; rfl
  rw [hf]
  obtain ⟨h1, h2, h3⟩ := List.find?_range_eq_some.mp hi
  refine ⟨h1, by have := List.mem_range.mp h2; omega, fun j hj => ?_⟩
  have := h3 j hj
  simpa using this
theorem find_new {E : Nat → Nat → Bool} (er : ∀ i, E i i = true) (et : ∀ i j k, E i j = true → E j k = true → E i k = true) (k : Nat) :
    ((List.range k).filter fun i => decide (firstN E i = i)).find? (fun i => E i k) = if firstN E k = k then none else some (firstN E k) := by
  obtain ⟨s1, s2, s3⟩ := first_spec er k
  rw [List.find?_filter]
  by_cases h : firstN E k = k
  · rw [if_pos h]
    refine List.find?_eq_none.mpr fun i hi => ?_
    have := s3 i (by rw [h]; exact List.mem_range.mp hi)
    simp [this]
  · rw [if_neg h]
    have hl : firstN E k < k := by omega
    have hff : firstN E (firstN E k) = firstN E k := by
      obtain ⟨t1, t2, _⟩ := first_spec er (firstN E k)
      rcases Nat.lt_or_ge (firstN E (firstN E k)) (firstN E k) with q | q
      · have := s3 _ q
        rw [et _ _ _ t1 s1] at this; cases this
      · omega
    refine List.find?_range_eq_some.mpr ⟨?_, List.mem_range.mpr hl, fun j hj => ?_⟩
    · simp [hff, s1]
    · simp [s3 j hj]
end
section
-- part PLD

set_option Elab.async false
set_option maxRecDepth 100000
noncomputable def gAt (C : List Nat) (k : Nat) : Nat := grayN (C.getD k 0)
noncomputable def eAt (C : List Nat) (H : Nat) (i k : Nat) : Bool := decide ((gAt C i ||| H) = (gAt C k ||| H))
noncomputable def ssOf (C : List Nat) : List Int := C.map fun y => ((grayN y : Nat) : Int)
theorem ss_at (C : List Nat) (k : Nat) : (ssOf C).getD k 0 = ((gAt C k : Nat) : Int) := by
  unfold ssOf gAt
  rw [List.getD_eq_getElem?_getD, List.getD_eq_getElem?_getD, List.getElem?_map]
  cases C[k]? with
  | none => decide
  | some c => rfl
theorem same_at (C : List Nat) (H k i : Nat) : sameAt (ssOf C) (H : Int) k i = eAt C H i k := by
  unfold sameAt eAt
  rw [ss_at, ss_at, bxor_nat, bor_nat]
  have := xor_hid (gAt C i) (gAt C k) H
  by_cases q : (gAt C i ||| H) = (gAt C k ||| H)
  · rw [decide_eq_true q, decide_eq_true (by rw [this.mpr q])]
  · rw [decide_eq_false q]; exact decide_eq_false fun z => q (this.mp (Int.ofNat.inj z))
theorem first_at (C : List Nat) (H k : Nat) : firstAt (ssOf C) (H : Int) k = ((firstN (eAt C H) k : Nat) : Int) := by
  unfold firstAt firstsIn firstN
  rw [show (List.range (k + 1)).filter (sameAt (ssOf C) (H : Int) k) = (List.range (k + 1)).filter fun i => eAt C H i k from List.filter_congr fun i _ => same_at C H k i]
  cases (List.range (k + 1)).filter fun i => eAt C H i k with
  | nil => rfl
  | cons x r => rfl
theorem eAt_refl (C : List Nat) (H i : Nat) : eAt C H i i = true := decide_eq_true rfl
theorem eAt_trans (C : List Nat) (H i j k : Nat) (h1 : eAt C H i j = true) (h2 : eAt C H j k = true) : eAt C H i k = true := decide_eq_true ((of_decide_eq_true h1).trans (of_decide_eq_true h2))
end
section
-- part PLE

set_option Elab.async false
set_option maxRecDepth 100000
theorem cnts_step : ∀ (us : List Nat) (c k : Nat), k < us.length → (c :: cntsN c us).getD (k + 1) 0 = stepN ((c :: cntsN c us).getD k 0) (us.getD k 0)
  | [], _, _, h => by simp at h
  | u :: us, c, 0, _ => rfl
  | u :: us, c, k + 1, h => cnts_step us (stepN c u) k (by simpa using h)
theorem cnts_all {us : List Nat} {c : Nat} (hc : c < 512) (hu : ∀ u ∈ us, u = 0 ∨ u = 1) (k : Nat) : (c :: cntsN c us).getD k 0 < 512 := by
  rw [List.getD_eq_getElem?_getD]
  cases h : (c :: cntsN c us)[k]? with
  | none => decide
  | some y =>
    rcases List.mem_cons.mp (List.mem_of_getElem? h) with rfl | hy
    · exact hc
    · exact cnts_lt us c hc hu y hy
/-- the row after k turns -/
noncomputable def rowAt (M : Nat) (C : List Nat) (k : Nat) : Str := rowT ((M * 512 + gAt C k : Nat) : Int)
noncomputable def tabAt (M : Nat) (C : List Nat) (k : Nat) : List (Str × Str) := ((List.range k).filter fun j => decide (firstN (eAt C (hidN (M * 512))) j = j)).map fun j => (rowAt M C j, kText j)
theorem same_dec {M : Nat} {C : List Nat} (hM : M < 128) (hC : ∀ k, gAt C k < 512) (j k : Nat) : decide (Txt.lower (rowAt M C j) = Txt.lower (rowAt M C k)) = eAt C (hidN (M * 512)) j k :=
  decide_eq_decide.mpr (lower_same hM (hC j) (hC k))
theorem find_map_pairs (low : Nat → Str) (row : Nat → Str) (txt : Nat → Str) (k : Nat) (E : Nat → Nat → Bool) (h : ∀ j, decide (low j = low k) = E j k) (f : Str → Str) (hf : ∀ j, f (row j) = low j) (l : List Nat) :
    (((l.map fun j => (row j, txt j)).find? fun p => decide (f p.1 = f (row k))).map (·.2)) = (l.find? fun j => E j k).map txt := by
  rw [List.find?_map]
  have e : ((fun p : Str × Str => decide (f p.1 = f (row k))) ∘ fun j => (row j, txt j)) = fun j => E j k := by
    funext j
    show decide (f (row j) = f (row k)) = E j k
    rw [hf, hf, h]
  rw [e]
  cases l.find? fun j => E j k with
  | none => rfl
  | some i => rfl
theorem find_tab {M : Nat} {C : List Nat} (hM : M < 128) (hC : ∀ k, gAt C k < 512) (k : Nat) :
    hdFind (tabAt M C k) (Txt.lower (rowAt M C k)) = if firstN (eAt C (hidN (M * 512))) k = k then none else some (kText (firstN (eAt C (hidN (M * 512))) k)) := by
  unfold hdFind tabAt
  rw [find_map_pairs (fun j => Txt.lower (rowAt M C j)) (rowAt M C) kText k (eAt C (hidN (M * 512))) (fun j => same_dec hM hC j k) Txt.lower (fun _ => rfl), find_new (eAt_refl C _) (eAt_trans C _)]
  by_cases q : firstN (eAt C (hidN (M * 512))) k = k
  · rw [if_pos q, if_pos q]; rfl
  · rw [if_neg q, if_neg q]; rfl
theorem set_tab {M : Nat} {C : List Nat} (hM : M < 128) (hC : ∀ k, gAt C k < 512) (k : Nat) :
    setD (tabAt M C k) (rowAt M C k) (kText k) = (kText (firstN (eAt C (hidN (M * 512))) k), tabAt M C (k + 1)) := by
  unfold setD
  rw [find_tab hM hC]
  have hs : tabAt M C (k + 1) = tabAt M C k ++ if firstN (eAt C (hidN (M * 512))) k = k then [(rowAt M C k, kText k)] else [] := by
    unfold tabAt
    rw [List.range_succ, List.filter_append, List.map_append]
    by_cases q : firstN (eAt C (hidN (M * 512))) k = k
    · simp [q]
    · simp [q]
  rw [hs]
  by_cases q : firstN (eAt C (hidN (M * 512))) k = k
  · rw [if_pos q, if_pos q, q]
  · rw [if_neg q, if_neg q, List.append_nil]
end
section
-- part PLF

set_option Elab.async false
set_option maxRecDepth 100000
theorem getD_cast (us : List Nat) (k : Nat) : (us.map fun u : Nat => (u : Int)).getD k 0 = ((us.getD k 0 : Nat) : Int) := by
  rw [List.getD_eq_getElem?_getD, List.getD_eq_getElem?_getD, List.getElem?_map]
  cases us[k]? with
  | none => rfl
  | some c => rfl
theorem told_at (M : Nat) (C : List Nat) (H k : Nat) (hM : M < 128) (hC : ∀ k, gAt C k < 512) :
    toldItem (ssOf C) (H : Int) ((M * 512 : Nat) : Int) k = .tuple [.list ((runsOf ((M * 512 + gAt C k : Nat) : Int)).map Dat.str), .str (rowAt M C (k + 1)), .str (kText (firstN (eAt C H) (k + 1)))] := by
  unfold toldItem rowAt kText
  rw [ss_at, ss_at, first_at]
  have h1 := hC k
  have e (a : Nat) : ((M * 512 : Nat) : Int) + (a : Int) = ((M * 512 + a : Nat) : Int) := by push_cast; rfl
  rw [e, e, tail_pieces (m := M * 512 + gAt C k) (by omega)]
theorem tell_at {M c : Nat} {us : List Nat} (hM : M < 128) (hc : c < 512) (hu : ∀ u ∈ us, u = 0 ∨ u = 1) : ∀ k, k ≤ us.length →
    tellF ((M * 512 + grayN c : Nat) : Int) (us.map fun u : Nat => (u : Int)) k = (((M * 512 + gAt (c :: cntsN c us) k : Nat) : Int), tabAt M (c :: cntsN c us) (k + 1),
      headDat (ssOf (c :: cntsN c us)) ((M * 512 : Nat) : Int) :: (List.range k).map (toldItem (ssOf (c :: cntsN c us)) ((hidN (M * 512) : Nat) : Int) ((M * 512 : Nat) : Int))) := by
  have hC : ∀ k, gAt (c :: cntsN c us) k < 512 := fun k => (okG_at (cnts_all hc hu k)).2.2.1
  have g0 : gAt (c :: cntsN c us) 0 = grayN c := rfl
  have k0 : Str.ofString "0" = kText 0 := by decide +kernel
  generalize hCC : c :: cntsN c us = C at *
  intro k
  induction k with
  | zero =>
    intro _
    have s := set_tab hM hC 0
    have t0 : tabAt M C 0 = [] := rfl
    have f0 : firstN (eAt C (hidN (M * 512))) 0 = 0 := by have := (first_spec (eAt_refl C (hidN (M * 512))) 0).2.1; omega
    rw [t0, f0] at s
    unfold rowAt at s
    rw [g0] at s
    unfold tellF headDat
    rw [ss_at, g0, k0, s]
    have e : ((M * 512 : Nat) : Int) + ((grayN c : Nat) : Int) = ((M * 512 + grayN c : Nat) : Int) := by push_cast; rfl
    rw [e, List.range_zero, List.map_nil]
  | succ k ih =>
    intro hk
    have i := ih (by omega)
    have hg := hC k
    have hck : (C.getD k 0) < 512 := by rw [← hCC]; exact cnts_all hc hu k
    have st : gAt C (k + 1) = turnN (gAt C k) (us.getD k 0) := by
      have hs := cnts_step us c k (by omega)
      rw [hCC] at hs
      have o := okG_at hck
      have huk : us.getD k 0 = 0 ∨ us.getD k 0 = 1 := hu _ (by rw [List.getD_eq_getElem?_getD, List.getElem?_eq_getElem (by omega)]; exact List.getElem_mem _)
      unfold gAt
      rw [hs]
      rcases huk with q | q
      · rw [q, o.1]
      · rw [q, o.2.1]
    have tq : turnedOf ((M * 512 + gAt C k : Nat) : Int) (runsOf ((M * 512 + gAt C k : Nat) : Int)) ((us.getD k 0 : Nat) : Int) = ((M * 512 + gAt C (k + 1) : Nat) : Int) := by
      rw [turned_eq (by omega), (part_at (hC k)).1, (part_at (hC k)).2, st]
    have s := set_tab hM hC (k + 1)
    unfold rowAt at s
    simp only [tellF]
    rw [i]
    dsimp only
    rw [getD_cast, tq, s, List.range_succ, List.map_append, List.map_cons, List.map_nil, told_at M C (hidN (M * 512)) k hM hC]
    rfl
end
section
-- part PLG

set_option Elab.async false
set_option maxRecDepth 100000
theorem hid_part (m : Nat) : hidN m = hidN (m / 512 * 512) := hid_same (by rw [Nat.mul_div_cancel _ (by decide)])
theorem new_at (C : List Nat) (H k : Nat) : newAt (ssOf C) (H : Int) k = decide (firstN (eAt C H) k = k) := by
  unfold newAt
  rw [first_at]
  exact decide_eq_decide.mpr ⟨fun z => Int.ofNat.inj z, fun z => by rw [z]⟩
theorem items_at (M : Nat) (C : List Nat) (n : Nat) : itemsIn (ssOf C) ((hidN (M * 512) : Nat) : Int) ((M * 512 : Nat) : Int) n = (tabAt M C n).map pairDat := by
  unfold itemsIn tabAt
  rw [List.map_map, show newAt (ssOf C) ((hidN (M * 512) : Nat) : Int) = fun j => decide (firstN (eAt C (hidN (M * 512))) j = j) from funext fun j => new_at C _ j]
  apply List.map_congr_left
  intro j _
  have e (a : Nat) : ((M * 512 : Nat) : Int) + (a : Int) = ((M * 512 + a : Nat) : Int) := by push_cast; rfl
  unfold itemDat
  rw [ss_at, e]
  rfl
/-- all that the plain law asks of the start -/
theorem due_nat {m : Nat} {us : List Nat} (hm : m < 65536) (hu : ∀ u ∈ us, u = 0 ∨ u = 1) : ∃ M c : Nat, M < 128 ∧ c < 512 ∧ m = M * 512 + grayN c ∧
    dueOf (m : Int) (us.map fun u : Nat => (u : Int)) = dueD (ssOf (c :: cntsN c us)) ((hidN (M * 512) : Nat) : Int) ((M * 512 : Nat) : Int) us.length := by
  obtain ⟨c, hc, hg, e⟩ := sets_nat (m := m) hu
  refine ⟨m / 512, c, by omega, hc, by rw [hg]; omega, ?_⟩
  unfold dueOf
  rw [e, hid_nat, hid_part, List.length_map, show ((512 : Int)) = ((512 : Nat) : Int) from rfl, fdiv_nat]
  have e2 : ((m / 512 : Nat) : Int) * ((512 : Nat) : Int) = ((m / 512 * 512 : Nat) : Int) := by push_cast; rfl
  rw [e2]
  rfl
theorem TELL (md : Int) (ups : List Int) (h0 : 0 ≤ md) (h1 : md < 65536) (h7 : ups.length ≤ 7) (hu : ∀ u ∈ ups, u = 0 ∨ u = 1) : tellOf md ups = dueOf md ups := by
  obtain ⟨m, rfl⟩ := Int.eq_ofNat_of_zero_le h0
  obtain ⟨us, rfl, hus⟩ := ups_nat ups hu
  obtain ⟨M, c, hM, hc, hmm, e⟩ := due_nat (m := m) (us := us) (by omega) hus
  rw [e]
  unfold tellOf dueD
  rw [List.length_map, items_at]
  have t := tell_at hM hc hus us.length (Nat.le_refl _)
  rw [← hmm] at t
  rw [t]
theorem plain_ok {x : Str} (h : ∀ c ∈ x.cps.toList, c < 127) : PyData.strOk x = true := by
  unfold PyData.strOk
  rw [← Array.all_toList, List.all_eq_true]
  intro c hc
  have := h c hc
  exact decide_eq_true (by omega)
theorem ktext_ok : ∀ k : Nat, k ≤ 7 → PyData.strOk (kText k) = true := fun k hk => plain_ok fun c hc => ((HK k hk).1 c hc).2
theorem row_ok {m : Nat} (h : m < 65536) : PyData.strOk (rowT (m : Int)) = true := plain_ok fun c hc => ((row_plain h).1 c hc).2
theorem runs_ok {m : Nat} (h : m < 65536) : ∀ y ∈ runsOf (m : Int), PyData.strOk y = true := by
  rw [runsOf_eq h]
  intro y hy
  obtain ⟨x, hx, rfl⟩ := List.mem_map.mp hy
  refine plain_ok fun c hc => ?_
  have hc' : c ∈ x := by simpa using hc
  have : c ∈ nine m := by
    rw [← runs_flat (nine m)]
    exact List.mem_flatten.mpr ⟨x, hx, hc'⟩
  exact (sgn_plain (nine_sgn m c this)).2.1
theorem kqd_list {n : Nat} {ds : List Dat} (h : ∀ d ∈ ds, kqdOk n d = true) : kqdOk (n + 1) (.list ds) = true := by
  show ds.all (kqdOk n) = true
  exact List.all_eq_true.mpr h
theorem kqd_tuple {n : Nat} {ds : List Dat} (h : ∀ d ∈ ds, kqdOk n d = true) : kqdOk (n + 1) (.tuple ds) = true := by
  show ds.all (kqdOk n) = true
  exact List.all_eq_true.mpr h
theorem kqd_str {n : Nat} {x : Str} (h : PyData.strOk x = true) : kqdOk n (.str x) = true := by
  cases n <;> exact h
theorem OKD (md : Int) (ups : List Int) (h0 : 0 ≤ md) (h1 : md < 65536) (h7 : ups.length ≤ 7) (hu : ∀ u ∈ ups, u = 0 ∨ u = 1) : kqdOk 8 (dueOf md ups) = true := by
  obtain ⟨m, rfl⟩ := Int.eq_ofNat_of_zero_le h0
  obtain ⟨us, rfl, hus⟩ := ups_nat ups hu
  obtain ⟨M, c, hM, hc, hmm, e⟩ := due_nat (m := m) (us := us) (by omega) hus
  rw [List.length_map] at h7
  have hC : ∀ k, gAt (c :: cntsN c us) k < 512 := fun k => (okG_at (cnts_all hc hus k)).2.2.1
  have k0 : Str.ofString "0" = kText 0 := by decide +kernel
  rw [e]
  generalize c :: cntsN c us = C at *
  have hrow (k : Nat) : PyData.strOk (rowAt M C k) = true := by have := hC k; exact row_ok (by omega)
  unfold dueD
  rw [items_at]
  refine kqd_tuple fun d hd => ?_
  rcases List.mem_cons.mp hd with rfl | hd
  · refine kqd_list fun d hd => ?_
    rcases List.mem_cons.mp hd with rfl | hd
    · unfold headDat
      rw [ss_at, k0]
      have e (a : Nat) : ((M * 512 : Nat) : Int) + (a : Int) = ((M * 512 + a : Nat) : Int) := by push_cast; rfl
      rw [e]
      refine kqd_tuple fun d hd => ?_
      rcases List.mem_cons.mp hd with rfl | hd
      · exact kqd_str (hrow 0)
      · obtain rfl := List.mem_singleton.mp hd
        exact kqd_str (ktext_ok 0 (by decide))
    · obtain ⟨k, hk, rfl⟩ := List.mem_map.mp hd
      have hk7 := List.mem_range.mp hk
      rw [told_at M C (hidN (M * 512)) k hM hC]
      have f := (first_spec (eAt_refl C (hidN (M * 512))) (k + 1)).2.1
      refine kqd_tuple fun d hd => ?_
      rcases List.mem_cons.mp hd with rfl | hd
      · refine kqd_list fun d hd => ?_
        obtain ⟨y, hy, rfl⟩ := List.mem_map.mp hd
        have := hC k
        exact kqd_str (runs_ok (by omega) y hy)
      · rcases List.mem_cons.mp hd with rfl | hd
        · exact kqd_str (hrow _)
        · obtain rfl := List.mem_singleton.mp hd
          exact kqd_str (ktext_ok _ (by omega))
  · obtain rfl := List.mem_singleton.mp hd
    refine kqd_list fun d hd => ?_
    obtain ⟨p, hp, rfl⟩ := List.mem_map.mp hd
    unfold tabAt at hp
    obtain ⟨j, hj, rfl⟩ := List.mem_map.mp hp
    have hj7 := List.mem_range.mp (List.mem_filter.mp hj).1
    unfold pairDat
    refine kqd_tuple fun d hd => ?_
    rcases List.mem_cons.mp hd with rfl | hd
    · exact kqd_str (hrow _)
    · obtain rfl := List.mem_singleton.mp hd
      exact kqd_str (ktext_ok _ (by omega))
end
section
-- part NK

set_option Elab.async false
set_option maxRecDepth 100000
set_option maxHeartbeats 4000000
/-- the looks that the law's ground asks for: by the library's twins, so that no twin of the program is made -/
theorem names_ok : namesOk hdK.view_39 (looseW hdK.view_39 looseL) (namesW hdK.view_39 looseL) = true := by
  rw [Fast.te17448422675489707002]
  decide +kernel
theorem imports_none : importsNone hdK.view_39 = true := by
  rw [Fast.te2458874890965802552]
  decide +kernel
end
section
-- part V3

set_option Elab.async false
set_option maxRecDepth 100000
set_option maxHeartbeats 8000000
theorem fresh_V3 : True := by
  w_top off
  k_with_none
  k_with "small" => first | exact Int.toNat_natCast _ | with_reducible exact Nat.mod_lt _ (by decide) | with_reducible exact fm2_lt _ | with_reducible exact fm2_ge _ | with_reducible exact fm4_lt _ _ | with_reducible exact fm4_ge _ _ | with_reducible exact em_lt _ | with_reducible exact em_gt _ | with_reducible exact nat_gt _ | with_reducible exact Int.natCast_nonneg _ | with_reducible exact nat_gt1 _ | with_reducible exact room2 (by assumption) (by decide) | with_reducible exact room1 (by assumption) (by decide) | with_reducible exact room3 (by assumption) (by decide) | with_reducible exact room4 (by assumption) (by decide) | with_reducible exact room0 (by assumption) | with_reducible exact le_le (by assumption) (by decide) | with_reducible exact le_eq (by assumption) (by decide) | with_reducible exact lt_le (by assumption) (by decide) | with_reducible exact sub_one (by assumption) | with_reducible exact sub_j (by assumption) | with_reducible exact sub_dec (by assumption) | with_reducible exact toNat_pred _ | with_reducible exact nat_ge _
  k_with "ne" => first | with_reducible exact Apart.l (by assumption) | with_reducible exact Apart.r (by assumption) | with_reducible exact gt1 (by assumption) | with_reducible exact lt1 (by assumption) | with_reducible exact gt2 (by assumption) | with_reducible exact lt2 (by assumption) | with_reducible exact gl2 (by assumption) | with_reducible exact ll2 (by assumption) | with_reducible exact gt3 (by assumption) | with_reducible exact lt3 (by assumption) | with_reducible exact gl3 (by assumption) | with_reducible exact ll3 (by assumption) | with_reducible exact gt4 (by assumption) | with_reducible exact gl4 (by assumption) | with_reducible exact ll4 (by assumption) | with_reducible exact gl5 (by assumption) | with_reducible exact gl6 (by assumption) | with_reducible exact gl7 (by assumption) | with_reducible exact gl8 (by assumption) | with_reducible exact gl9 (by assumption) | with_reducible exact gl10 (by assumption) | with_reducible exact gl11 (by assumption)
  k_with "k_room" => ((try simp only [depth_under_make, depth_under_kw, depth_in1, depth_deeper, depth_caller]); first | decide | ktr_room)
  k_with "cell_enter" => (refine' code_defG (by k_asm) (by k_asm) (by k_asm) (by k_asm) (by k_asm) rfl rfl (by assumption) (by k_is) (by k_is) (by ktr_room) (by first | exact BindsTo.of_eq rfl | exact binds_K (by k_in) rfl (by k_is) rfl rfl rfl) (by exact locs rfl) ?_ (by exact rfl) (by exact rfl) (by exact rfl) (by decide); k_whole; intro g' L' h' FG' F' N' B' X' T' GS'; (try dsimp only); (try k_lift B'); (try k_fold))
  k_with "exec If" => (k_here; dsimp only)
  k_with "execs cons" => (k_here; dsimp only)
  k_with "isTrue" => (k_here; dsimp only)
  k_with "exec Assign" => (k_here; dsimp only)
  k_with "exec Expr" => (k_here; dsimp only)
  k_with "eval Attribute" => (k_here; dsimp only)
  k_with "execs nil" => (k_here; dsimp only)
  trivial
local macro_rules | `(tactic| k_qdec) => `(tactic| first | exact names_ok | exact imports_none)
theorem lay_V3_1 : True := by
  k_with "eval BinOp" => (k_here; (try dsimp only); k_gentoks)
  k_with "eval Subscript" => (k_here; (try dsimp only); k_gentoks)
  k_with "eval Constant int" => (k_here; (try dsimp only); k_gentoks)
  trivial

theorem lay_V3_4 : True := by
  k_with "call ref" => (k_here; (refine hold_out ?_))
  k_with "binaryOp Add ref ref" => (refine hold_out ?_)
  trivial
theorem now_law_holds : True := by
  k_with "now" =>
    k_go0
    all_goals (try k_fold)
    k_steps
    rename_i sc hs0 hlay0 hLa hr0 hl20 wA wB rS vS wC hL1 ra0 w10 r00 hI1 hr20 hc1 hc2 K0 hD0 h1 l1' h2 F1 N1 lt1
    refine hold_in (kmk_add_ints F1 N1 (hL1.at (fun o e => F1.keep _ _ e)) (N1.isList (.head _)) hI1 (.cons 17042 _ .nil) ?_ (by rw [sizeLine_eq]; simp only [List.length_cons, List.length_nil]; omega))
    intro D3 us3 h3 F3 N3 lt3 hI3
    clear lt3
    have hI3l : (sc ++ [17042]).length = sc.length + 1 := by simp
    k_steps
    rename_i l4 h4 lt4 D5 ws5 h5 F5 N5 hI5 hC5 hL5 lt5 D8 ys8 h8 tk8 F8 N8 hn8 hL8 hP8 hC8
    have hC9 := CarriedAll.intsOf hC8
    rw [show ∀ l : List Int, l.filter (fun _ => true) = l from fun l => by simp] at hC9
    refine hold_in (kmk_add_ints F8 N8 (N8.isList (by k_mem)) hL8 (.cons 1 _ (.cons 1 _ .nil)) hC9 ?plus ?z)
    case z => rw [sizeLine_eq]; simp only [List.length_map, List.length_cons, List.length_nil]; omega
    case plus =>
    intro D9 us9 h9 F9 N9 lt9 hI9
    have hl9 : (([1, 1] ++ List.map (fun a => Int.fmod a 2) (List.take 5 sc) : List Int)).length ≤ 7 := by simp only [List.length_append, List.length_map, List.length_cons, List.length_nil]; omega
    have hu9 : ∀ u ∈ ([1, 1] ++ List.map (fun a => Int.fmod a 2) (List.take 5 sc) : List Int), u = 0 ∨ u = 1 := by
      intro u hu
      rcases List.mem_append.mp hu with hu | hu
      · simp at hu; exact .inr hu
      · obtain ⟨a, _, rfl⟩ := List.mem_map.mp hu
        rw [Int.fmod_eq_emod_of_nonneg _ (by decide)]
        omega
    have hl29 : 2 ≤ (([1, 1] ++ List.map (fun a => Int.fmod a 2) (List.take 5 sc) : List Int)).length := by simp only [List.length_append, List.length_cons, List.length_nil]; omega
    generalize ([1, 1] ++ List.map (fun a => Int.fmod a 2) (List.take 5 sc) : List Int) = ups at hI9 hl9 hu9 hl29
    obtain ⟨md, hmd⟩ : ∃ md, md = ((sc ++ [17042]).getD (Int.toNat 0) 0).fmod 65536 := ⟨_, rfl⟩
    have hm0 : 0 ≤ md := by rw [hmd, Int.fmod_eq_emod_of_nonneg _ (by decide)]; omega
    have hm1 : md < 65536 := by rw [hmd, Int.fmod_eq_emod_of_nonneg _ (by decide)]; omega
    rw [← hmd] at F9
    replace N9 := news_sub (b := [(D9, listOf us9.toArray 0)]) N9 (fun p hp => by rw [List.mem_singleton.mp hp]; exact .head _)
    (try clear lt9); (try clear hP8); (try clear F8); (try clear N8); (try clear F5); (try clear N5); (try clear F3); (try clear N3); (try clear F1); (try clear N1)
    k_steps
    rename News _ _ _ _ => N10
    rename Fr _ _ _ _ => F10
    refine hold_in ?_
    k_dflt (refine' useN (c_hd _ _ _ _ _) ?k1 F10 ?k3 N10 ?k5 ?k6 ?k7 ?k8 trivial ?_; (case k1 => k_asm); (case k3 => k_asm); (case k5 => k_asm); (case k6 => exact rfl); (case k7 => ktr_room); (case k8 => ktr_units))
    rintro _ _ h11 tk11 ⟨x, dx, hl, hh, hk, nn, rfl, rfl, o1, o2⟩ F11 N11 ne11
    have o0 : @Ne Nat D9 x ∧ @Ne Nat D9 dx ∧ @Ne Nat D9 hl := ⟨ne11 _ (.head _) _ (.head _), ne11 _ (.tail _ (.head _)) _ (.head _), ne11 _ (.tail _ (.tail _ (.head _))) _ (.head _)⟩
    clear ne11
    dsimp only [hdLed, List.cons_append, List.nil_append] at N11
    k_steps
    rename News _ _ _ _ => N12
    rename Fr _ _ _ _ => F12
    refine hold_in ?_
    k_dflt (refine' useP (c_fmP _ _ _ _ _ md _ hm0 hm1) ?k1 F12 ?k3 N12 ?k5 ?k6 ?k7 ?k8 trivial ?_; (case k1 => k_asm); (case k3 => k_asm); (case k5 => k_asm); (case k6 => exact rfl); (case k7 => ktr_room); (case k8 => ktr_units))
    rintro v13 h13 tk13 ⟨u13, hv13⟩ F13 N13
    obtain rfl : v13 = .str (rowT md) u13 := by rw [hv13, (HR md hm0 hm1).fm]
    clear F12 N12 hv13
    k_steps
    refine hold_in ?_
    k_dflt (refine' c_told _ _ _ _ _ HR HK x dx hl D9 hh hk nn 0 md _ _ us9 ups hI9 hl9 hu9 hm0 hm1 o0 o1 o2 _ _ _ _ _ _ _ _ _ _ _ _ _ _ _ _ _ ?k1 ?k2 K0 F13 ?k3 N13 ?k4 ?k6 ?k7 ?k8 ?_; (case k1 => k_asm); (case k2 => k_asm); (case k3 => k_asm); (case k4 => k_asm); (case k6 => exact rfl); (case k7 => ktr_room); (case k8 => ktr_units))
    intro Dd hT1 h14 tk14 nd nh hv tv pile T14 F14 _ N14 hD14 hH14 hvl14 hlD14 hap14
    replace F14 := fr_nil T14 F14
    replace N14 := news_nil T14 N14
    dsimp only [List.cons_append, List.nil_append] at N14
    clear T14 F13 N13
    k_steps
    rename News _ _ _ _ => N15
    rename Fr _ _ _ _ => F15
    replace N15 := news_sub (b := hdLed x dx hl hh hk hv nh ++ ((Dd, listOf (List.toArray tv) nd) :: (D9, listOf us9.toArray 0) :: pile)) N15 (fun p hp => by
      simp only [hdLed, List.mem_cons, List.mem_append, List.not_mem_nil, or_false] at hp ⊢
      rcases hp with (h | h | h) | h | h | h <;> simp only [h, true_or, or_true])
    refine hold_in ?_
    k_dflt (refine' useNS (c_it _ _ _ _ _ x dx hl hh hk nh hv (by omega) o1 o2) ?k1 F15 ?k3 N15 ?off ?k5 ?k6 ?k7 ?k8 trivial ?_; (case k1 => k_asm); (case k3 => k_asm); (case k5 => k_asm); (case k6 => exact rfl); (case k7 => ktr_room); (case k8 => ktr_units))
    case off =>
      intro p hp hm
      simp only [List.map_cons, List.map_nil, List.mem_cons, List.not_mem_nil, or_false] at hm hp
      rcases hp with rfl | rfl | hp
      · dsimp only at hm
        rcases hm with e | e | e
        · exact Nat.ne_of_gt (Nat.lt_trans o2 hlD14) e
        · exact Nat.ne_of_gt (Nat.lt_trans o1 (Nat.lt_trans o2 hlD14)) e
        · exact Nat.ne_of_gt hlD14 e
      · dsimp only at hm
        rcases hm with e | e | e
        · exact o0.1 e
        · exact o0.2.1 e
        · exact o0.2.2 e
      · obtain ⟨_, e1, e2, e3⟩ := hap14 p hp
        rcases hm with e | e | e
        · exact e1 e
        · exact e2 e
        · exact e3 e
    rintro _ _ h16 tk16 ⟨Di, ni, rfl, rfl⟩ F16 N16 _
    replace N16 := news_sub (b := (Di, listOf (List.toArray hv) ni) :: (Dd, listOf (List.toArray tv) nd) :: (D9, listOf us9.toArray 0) :: pile) N16 (fun p hp => by
      simp only [hdLed, List.mem_cons, List.mem_append, List.not_mem_nil, or_false] at hp ⊢
      rcases hp with h | h | h | h <;> simp only [h, true_or, or_true])
    clear N15
    k_steps
    rename News _ _ _ _ => N17
    rename Fr _ _ _ _ => F17
    refine hold_in ?_
    k_dflt (refine' useN (c_due _ _ _ _ _ md _ D9 us9 ups hI9 hl29 hl9 hm0 hm1 (HSb md ups hm0 hm1 hu9) (HSl md ups)) ?k1 F17 ?k3 N17 ?k5 ?k6 ?k7 ?k8 (N17.isList (by k_mem)) ?_; (case k1 => k_asm); (case k3 => k_asm); (case k5 => k_asm); (case k6 => exact rfl); (case k7 => ktr_room); (case k8 => ktr_units))
    rintro _ sm18 h18 tk18 ⟨Db, rfl, hD18⟩ F18 N18 _
    refine dat_same N18 (DatIn.tuple (vs := [.ref Dd, .ref Di]) (List.mem_append_right _ (.head _)) (.cons (DatIn.list (vs := tv) (List.mem_append_right _ (.tail _ (.tail _ (.head _)))) (DatAll.mono (fun p hp => List.mem_append_right _ (.tail _ (.tail _ (.tail _ (.tail _ hp))))) hD14)) (.cons (DatIn.list (vs := hv) (List.mem_append_right _ (.tail _ (.head _))) (DatAll.mono (fun p hp => List.mem_append_right _ (.tail _ (.tail _ (.tail _ (.tail _ hp))))) hH14.dat)) .nil))) (DatIn.mono (fun p hp => List.mem_append_left _ hp) hD18) (TELL md ups hm0 hm1 hl9 hu9) (OKD md ups hm0 hm1 hl9 hu9) (by ke_room) ?_
    clear N17 F17
    k_steps
  trivial
theorem law_holds : PySem.Challenge.rw_op0282_01.Holds := hdK (by exact whole_of _ : Whole by_lay)
end
end Mine
theorem PySem.Challenge.cw_op0282_01_holds : PySem.Challenge.rw_op0282_01.Holds := by
  exact Mine.law_holds
