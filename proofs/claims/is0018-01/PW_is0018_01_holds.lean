import PyProof.Rows.All
import PySem.Syntax
import PyProof.StrLawsJoin
import KE.KTryMore
import OpenK.AllK
import Wide.All
import Lean
import PySem.Challenge.RW_is0018_01
set_option Elab.async false
section
open PySem PySem.W
namespace Sp
/-- a radix tree of known objects -/
inductive PT where
  | nil
  | node (v : Option Obj) (l r : PT)
noncomputable def PT.get (t : PT) : Nat → Option Obj :=
  PT.rec (motive := fun _ => Nat → Option Obj) (fun _ => none)
    (fun v _ _ il ir i => match Nat.beq i 0 with
      | true => v
      | false => match Nat.beq (i % 2) 1 with
        | true => il (i / 2)
        | false => ir (i / 2 - 1)) t
noncomputable def PT.put : Nat → PT → Nat → Obj → PT := fun n => Nat.rec (motive := fun _ => PT → Nat → Obj → PT) (fun _ _ _ => .nil)
  (fun _ ih t i o => Bool.rec
    (Bool.rec (PT.rec (motive := fun _ => PT) (.node none .nil (ih .nil (i / 2 - 1) o)) (fun v l r _ _ => .node v l (ih r (i / 2 - 1) o)) t)
      (PT.rec (motive := fun _ => PT) (.node none (ih .nil (i / 2) o) .nil) (fun v l r _ _ => .node v (ih l (i / 2) o) r) t) (Nat.beq (i % 2) 1))
    (PT.rec (motive := fun _ => PT) (.node (some o) .nil .nil) (fun _ l r _ _ => .node (some o) l r) t) (Nat.beq i 0)) n
theorem PT.get_nil (i : Nat) : PT.nil.get i = none := rfl
theorem PT.get_node (v : Option Obj) (l r : PT) (i : Nat) : (PT.node v l r).get i = if i = 0 then v else if i % 2 = 1 then l.get (i / 2) else r.get (i / 2 - 1) := by
  show (match Nat.beq i 0 with | true => v | false => match Nat.beq (i % 2) 1 with | true => l.get (i / 2) | false => r.get (i / 2 - 1)) = _
  rw [BT.beq_eq, BT.beq_eq]
  by_cases h : i = 0
  · simp [h]
  · by_cases q : i % 2 = 1 <;> simp [h, q]
theorem PT.put_nil (n : Nat) (i : Nat) (o : Obj) : PT.put (n + 1) .nil i o = if i = 0 then .node (some o) .nil .nil else if i % 2 = 1 then .node none (PT.put n .nil (i / 2) o) .nil else .node none .nil (PT.put n .nil (i / 2 - 1) o) := by
  show (Bool.rec (Bool.rec _ _ (Nat.beq (i % 2) 1)) _ (Nat.beq i 0) : PT) = _
  rw [BT.beq_eq, BT.beq_eq]
  by_cases h : i = 0
  · simp [h]
  · by_cases q : i % 2 = 1
    · simp [h, q]; rfl
    · simp [h, q]; rfl
theorem PT.put_node (n : Nat) (v : Option Obj) (l r : PT) (i : Nat) (o : Obj) : PT.put (n + 1) (.node v l r) i o = if i = 0 then .node (some o) l r else if i % 2 = 1 then .node v (PT.put n l (i / 2) o) r else .node v l (PT.put n r (i / 2 - 1) o) := by
  show (Bool.rec (Bool.rec _ _ (Nat.beq (i % 2) 1)) _ (Nat.beq i 0) : PT) = _
  rw [BT.beq_eq, BT.beq_eq]
  by_cases h : i = 0
  · simp [h]
  · by_cases q : i % 2 = 1
    · simp [h, q]; rfl
    · simp [h, q]; rfl
theorem half1 {i j : Nat} (q : i % 2 = 1) (qj : j % 2 = 1) (e : j / 2 = i / 2) : j = i := by
  rw [← Nat.div_add_mod j 2, ← Nat.div_add_mod i 2, e, q, qj]
theorem two_le {i : Nat} (hi : i ≠ 0) (q : ¬ i % 2 = 1) : 2 ≤ i := by
  match i, hi, q with
  | 0, hi, _ => exact absurd rfl hi
  | 1, _, q => exact absurd rfl q
  | i + 2, _, _ => exact Nat.le_add_left 2 i
theorem half0 {i j : Nat} (hi : i ≠ 0) (hj : j ≠ 0) (q : ¬ i % 2 = 1) (qj : ¬ j % 2 = 1) (e : j / 2 - 1 = i / 2 - 1) : j = i := by
  have e := Nat.sub_one_cancel (Nat.div_pos (two_le hj qj) (by decide)) (Nat.div_pos (two_le hi q) (by decide)) e
  have a := (Nat.mod_two_eq_zero_or_one i).resolve_right q
  have b := (Nat.mod_two_eq_zero_or_one j).resolve_right qj
  rw [← Nat.div_add_mod j 2, ← Nat.div_add_mod i 2, e, a, b]
theorem PT.get_put (o : Obj) : ∀ (n : Nat) (t : PT) (i : Nat), ((PT.put n t i o).get i).isSome = true → ∀ j, (PT.put n t i o).get j = if j = i then some o else t.get j
  | 0, t, i, h, j => by exact absurd h (by show ¬((none : Option Obj).isSome = true); decide)
  | n + 1, .nil, i, h, j => by
    rw [PT.put_nil] at h ⊢
    by_cases hi : i = 0
    · subst hi
      rw [if_pos rfl, PT.get_node, PT.get_nil]
      by_cases hj : j = 0
      · simp [hj]
      · by_cases q : j % 2 = 1 <;> simp [hj, q, PT.get_nil]
    · rw [if_neg hi] at h ⊢
      by_cases q : i % 2 = 1
      · rw [if_pos q] at h ⊢
        rw [PT.get_node, if_neg hi, if_pos q] at h
        have ih := PT.get_put o n .nil (i / 2) h
        rw [PT.get_node, PT.get_nil]
        by_cases hj : j = 0
        · simp [hj, Ne.symm hi, PT.get_nil]
        · by_cases qj : j % 2 = 1
          · simp only [hj, qj, if_true, if_false, ih, PT.get_nil]
            by_cases e : j = i
            · simp [e]
            · have : j / 2 ≠ i / 2 := fun z => e (half1 q qj z)
              simp [e, this]
          · have : j ≠ i := fun z => qj (z ▸ q)
            simp [hj, qj, this, PT.get_nil]
      · rw [if_neg q] at h ⊢
        rw [PT.get_node, if_neg hi, if_neg q] at h
        have ih := PT.get_put o n .nil (i / 2 - 1) h
        rw [PT.get_node, PT.get_nil]
        by_cases hj : j = 0
        · simp [hj, Ne.symm hi, PT.get_nil]
        · by_cases qj : j % 2 = 1
          · have : j ≠ i := fun z => q (z ▸ qj)
            simp [hj, qj, this, PT.get_nil]
          · simp only [hj, qj, if_false, ih, PT.get_nil]
            by_cases e : j = i
            · simp [e]
            · have : j / 2 - 1 ≠ i / 2 - 1 := fun z => e (half0 hi hj q qj z)
              simp [e, this]
  | n + 1, .node v l r, i, h, j => by
    rw [PT.put_node] at h ⊢
    rw [PT.get_node v l r j]
    by_cases hi : i = 0
    · subst hi
      rw [if_pos rfl, PT.get_node]
      by_cases hj : j = 0 <;> simp [hj]
    · rw [if_neg hi] at h ⊢
      by_cases q : i % 2 = 1
      · rw [if_pos q] at h ⊢
        rw [PT.get_node, if_neg hi, if_pos q] at h
        have ih := PT.get_put o n l (i / 2) h
        rw [PT.get_node]
        by_cases hj : j = 0
        · simp [hj, Ne.symm hi]
        · by_cases qj : j % 2 = 1
          · simp only [hj, qj, if_true, if_false, ih]
            by_cases e : j = i
            · simp [e]
            · have : j / 2 ≠ i / 2 := fun z => e (half1 q qj z)
              simp [e, this]
          · have : j ≠ i := fun z => qj (z ▸ q)
            simp [hj, qj, this]
      · rw [if_neg q] at h ⊢
        rw [PT.get_node, if_neg hi, if_neg q] at h
        have ih := PT.get_put o n r (i / 2 - 1) h
        rw [PT.get_node]
        by_cases hj : j = 0
        · simp [hj, Ne.symm hi]
        · by_cases qj : j % 2 = 1
          · have : j ≠ i := fun z => q (z ▸ qj)
            simp [hj, qj, this]
          · simp only [hj, qj, if_false, ih]
            by_cases e : j = i
            · simp [e]
            · have : j / 2 - 1 ≠ i / 2 - 1 := fun z => e (half0 hi hj q qj z)
              simp [e, this]
structure St where
  T : PT
  n : Nat
  k : Nat
inductive Out (α : Type) where
  | ok (a : α) (p : Pos) (st : St)
  | err (e : Value) (p : Pos) (st : St)
  | no
/-- where a run starts: the state, what is known of it, what must not be written -/
structure Base where
  s : Shared
  T : PT
  fz : Nat → Bool
structure At (s₀ : Base) (st : St) (s : Shared) : Prop where
  size : s.heap.objs.size = st.n
  get : ∀ a o, st.T.get a = some o → s.heap.get? a = some o
  toks : s.toks = st.k
  gens : s.gens = s₀.s.gens
  drawn : s.drawn = s₀.s.drawn
  os : s.os = s₀.s.os
  ge : s₀.s.heap.objs.size ≤ st.n
  dom : ∀ a o, st.T.get a = some o → (s₀.T.get a).isSome = true ∨ s₀.s.heap.objs.size ≤ a
  keep : ∀ a o, s₀.s.heap.get? a = some o → (s₀.fz a = true ∨ s₀.T.get a = none) → s.heap.get? a = some o
/-- depth of the tree: enough for 2 ^ 12 addresses -/
noncomputable abbrev PT.set (t : PT) (i : Nat) (o : Obj) : PT := PT.put 13 t i o
section
variable (fz : Nat → Bool) (cl : Ctx → Pos → Code → St → Option (Result × St)) (sett : Setting)
noncomputable def evT {α : Type} (t : Sem α) : Ctx → Pos → St → Out α :=
  Sem.rec (motive := fun _ => Ctx → Pos → St → Out α)
    (fun a _ p st => .ok a p st)
    (fun e _ p st => .err e p st)
    (fun _ _ _ _ => .no)
    (fun _ _ _ _ => .no)
    (fun _ _ ih Γ p st => ih () Γ p st)
    (fun p' _ ih Γ _ st => ih () Γ p' st)
    (fun a _ _ ih Γ p st => match st.T.get a with
      | some o => ih o Γ p st
      | none => .no)
    (fun a _ f _ ih Γ p st => match (match fz a with | true => none | false => st.T.get a) with
      | some o => (match (f o).isFreed with
        | true => .no
        | false => match ((st.T.set a (f o)).get a).isSome with
          | true => ih () Γ p ⟨st.T.set a (f o), st.n, st.k⟩
          | false => .no)
      | none => .no)
    (fun o _ ih Γ p st => match o.isFreed with
      | true => .no
      | false => match ((st.T.set st.n o).get st.n).isSome with
        | true => ih st.n Γ p ⟨st.T.set st.n o, st.n + 1, st.k⟩
        | false => .no)
    (fun a _ ih Γ p st => match st.T.get a with
      | some o => ih (some o) Γ p st
      | none => .no)
    (fun _ _ ih Γ p st => ih () Γ p st)
    (fun _ _ _ _ _ _ => .no)
    (fun _ ih Γ p st => ih st.k Γ p ⟨st.T, st.n, st.k + 1⟩)
    (fun _ ih Γ p st => ih sett Γ p st)
    (fun _ _ _ _ _ _ _ => .no)
    (fun _ _ _ _ _ _ _ => .no)
    (fun c h _ _ _ ih Γ p st => match cl (Γ.enter c h p) p c st with
      | some (r, st') => ih r Γ p st'
      | none => .no)
    (fun own _ ih Γ p st => ih (match own with | true => Γ.own | false => Γ.handled) Γ p st)
    (fun _ _ _ _ _ _ => .no)
    (fun _ _ _ _ _ _ => .no)
    (fun _ _ _ _ _ _ _ _ => .no)
    (fun _ _ _ _ _ _ _ _ => .no)
    (fun _ ih Γ p st => ih ((Γ.code, p) :: Γ.below) Γ p st)
    (fun _ _ _ _ _ _ => .no)
    (fun _ _ _ _ _ => .no)
    (fun _ _ _ _ _ _ _ _ _ => .no) t
end
theorem At.load {s₀ : Base} {s : Shared} {st : St} (A : At s₀ st s) {a : Addr} {o : Obj} (h : st.T.get a = some o) : s.heap.get? a = some o := A.get a o h
theorem PT.set_get {t : PT} {a : Nat} {o : Obj} (h : ((t.set a o).get a).isSome = true) (b : Nat) : (t.set a o).get b = if b = a then some o else t.get b := PT.get_put o 13 t a h b
theorem At.update {s₀ : Base} {s : Shared} {st : St} (A : At s₀ st s) {a : Addr} {o o' : Obj} {f : Obj → Obj} (hz : s₀.fz a = false) (h : st.T.get a = some o) (e : f o = o') (hf : o'.isFreed = false) (hs : ((st.T.set a o').get a).isSome = true) :
    At s₀ ⟨st.T.set a o', st.n, st.k⟩ { s with heap := s.heap.update a f } := by
  have ho := A.get a o h
  subst e
  refine ⟨?_, fun b x hb => ?_, A.toks, A.gens, A.drawn, A.os, A.ge, fun b x hb => ?_, fun b x hb hq => ?_⟩
  · show (s.heap.update a f).objs.size = _
    rw [Heap.size_after_update]; exact A.size
  · show (s.heap.update a f).get? b = some x
    rw [PT.set_get hs] at hb
    by_cases e : b = a
    · subst e
      rw [if_pos rfl] at hb
      cases hb
      exact Heap.get?_update_self f ho hf
    · rw [if_neg e] at hb
      rw [Heap.get?_update_other _ _ (Ne.symm e)]
      exact A.get b x hb
  · rw [PT.set_get hs] at hb
    by_cases e : b = a
    · subst e; exact A.dom b o h
    · rw [if_neg e] at hb; exact A.dom b x hb
  · show (s.heap.update a f).get? b = some x
    have ne : b ≠ a := by
      rintro rfl
      rcases hq with q | q
      · rw [hz] at q; cases q
      · rcases A.dom b o h with d | d
        · rw [q] at d; cases d
        · exact absurd (Heap.lt_size hb) (Nat.not_lt.mpr d)
    rw [Heap.get?_update_other _ _ (Ne.symm ne)]
    exact A.keep b x hb hq
theorem At.alloc {s₀ : Base} {s : Shared} {st : St} (A : At s₀ st s) {o : Obj} (hf : o.isFreed = false) (hs : ((st.T.set st.n o).get st.n).isSome = true) :
    At s₀ ⟨st.T.set st.n o, st.n + 1, st.k⟩ { s with heap := s.heap.push o } := by
  refine ⟨?_, fun b x hb => ?_, A.toks, A.gens, A.drawn, A.os, Nat.le_succ_of_le A.ge, fun b x hb => ?_, fun b x hb hq => Heap.get?_push_of_some _ (A.keep b x hb hq)⟩
  · show (s.heap.push o).objs.size = _
    rw [Heap.size_push, A.size]
  · show (s.heap.push o).get? b = some x
    rw [PT.set_get hs] at hb
    by_cases e : b = st.n
    · subst e
      rw [if_pos rfl] at hb
      cases hb
      rw [← A.size]; exact Heap.get?_push_size _ hf
    · rw [if_neg e] at hb
      exact Heap.get?_push_of_some _ (A.get b x hb)
  · rw [PT.set_get hs] at hb
    by_cases e : b = st.n
    · subst e; exact .inr A.ge
    · rw [if_neg e] at hb; exact A.dom b x hb
theorem At.fresh {s₀ : Base} {s : Shared} {st : St} (A : At s₀ st s) : At s₀ ⟨st.T, st.n, st.k + 1⟩ { s with toks := s.toks + 1 } :=
  ⟨A.size, A.get, by show s.toks + 1 = _; rw [A.toks], A.gens, A.drawn, A.os, A.ge, A.dom, A.keep⟩
section
variable {M : Model} {s₀ : Base} {cl : Ctx → Pos → Code → St → Option (Result × St)}
/-- what the codes' evaluator must keep -/
noncomputable def ClOk (M : Model) (s₀ : Base) (cl : Ctx → Pos → Code → St → Option (Result × St)) : Prop :=
  ∀ Γ p c st r st', cl Γ p c st = some (r, st') → Γ.code = c → ∀ s, At s₀ st s → wpCode M Γ (fun r' s' => r' = r ∧ At s₀ st' s') p s
noncomputable def OkQ {α : Type} (s₀ : Base) (a : α) (p : Pos) (st : St) : α → Pos → Shared → Prop := fun a' p' s' => a' = a ∧ p' = p ∧ At s₀ st s'
noncomputable def Says {α : Type} (M : Model) (s₀ : Base) (Γ : Ctx) (t : Sem α) (p : Pos) (s : Shared) : Out α → Prop
  | .ok a p' st' => Sem.wp M Γ t (OkQ s₀ a p' st') (fun _ _ _ => False) p s
  | .err e p' st' => Sem.wp M Γ t (fun _ _ _ => False) (OkQ s₀ e p' st') p s
  | .no => True
theorem Says.iff {α : Type} {M : Model} {s₀ : Base} {Γ Γ' : Ctx} {t : Sem α} {t' : Sem α} {p p' : Pos} {s s' : Shared} {o : Out α} (h : ∀ Q E, Sem.wp M Γ t Q E p s → Sem.wp M Γ' t' Q E p' s') (x : Says M s₀ Γ t p s o) : Says M s₀ Γ' t' p' s' o := by
  cases o <;> first | exact h _ _ x | trivial
theorem evT_sound (hcl : ClOk M s₀ cl) {α : Type} (t : Sem α) : ∀ Γ p st s, At s₀ st s → Says M s₀ Γ t p s (evT s₀.fz cl ⟨M.prog, M.w.params⟩ t Γ p st) := by
  induction t with
  | pure a => intro Γ p st s A; show Sem.wp M Γ (Sem.pure a) (OkQ s₀ a p st) (fun _ _ _ => False) p s; rw [Sem.wp_pure]; exact ⟨rfl, rfl, A⟩
  | raise e => intro Γ p st s A; show Sem.wp M Γ (Sem.raise e : Sem α) (fun (_ : α) _ _ => False) (OkQ s₀ e p st) p s; rw [Sem.wp_raise]; exact ⟨rfl, rfl, A⟩
  | unsupported w => intro Γ p st s A; trivial
  | finish e => intro Γ p st s A; trivial
  | rule tag k ih => intro Γ p st s A; exact Says.iff (fun Q E h => by rw [Sem.wp_rule]; exact h) (ih () Γ p st s A)
  | «at» q k ih => intro Γ p st s A; exact Says.iff (fun Q E h => by rw [Sem.wp_at]; exact h) (ih () Γ q st s A)
  | point l k ih => intro Γ p st s A; exact Says.iff (fun Q E h => by rw [Sem.wp_point]; exact h) (ih () Γ p st s A)
  | load a part k ih =>
    intro Γ p st s A
    show Says M s₀ Γ _ p s (match st.T.get a with | some o => evT s₀.fz cl _ (k o) Γ p st | none => .no)
    cases h : st.T.get a with
    | none => trivial
    | some o => exact Says.iff (fun Q E h' => by rw [Sem.wp_load]; exact ⟨o, A.get a o h, h'⟩) (ih o Γ p st s A)
  | loadIfAlive a k ih =>
    intro Γ p st s A
    show Says M s₀ Γ _ p s (match st.T.get a with | some o => evT s₀.fz cl _ (k (some o)) Γ p st | none => .no)
    cases h : st.T.get a with
    | none => trivial
    | some o => exact Says.iff (fun Q E h' => by rw [Sem.wp_loadIfAlive, A.get a o h]; exact h') (ih (some o) Γ p st s A)
  | update a part f k ih =>
    intro Γ p st s A
    show Says M s₀ Γ _ p s (match (match s₀.fz a with | true => none | false => st.T.get a) with
      | some o => (match (f o).isFreed with
        | true => .no
        | false => match ((st.T.set a (f o)).get a).isSome with
          | true => evT s₀.fz cl _ (k ()) Γ p ⟨st.T.set a (f o), st.n, st.k⟩
          | false => .no)
      | none => .no)
    cases hz : s₀.fz a with
    | true => trivial
    | false =>
    cases h : st.T.get a with
    | none => trivial
    | some o =>
      cases hf : (f o).isFreed with
      | true => simp only [hf]; trivial
      | false =>
        cases hs : ((st.T.set a (f o)).get a).isSome with
        | false => simp only [hf, hs]; trivial
        | true =>
          simp only [hf, hs]
          exact Says.iff (fun Q E h' => by rw [Sem.wp_update]; exact ⟨by rw [A.get a o h]; rfl, h'⟩) (ih () Γ p _ _ (A.update hz h rfl hf hs))
  | alloc o k ih =>
    intro Γ p st s A
    show Says M s₀ Γ _ p s (match o.isFreed with
      | true => .no
      | false => match ((st.T.set st.n o).get st.n).isSome with
        | true => evT s₀.fz cl _ (k st.n) Γ p ⟨st.T.set st.n o, st.n + 1, st.k⟩
        | false => .no)
    cases hf : o.isFreed with
    | true => trivial
    | false =>
      cases hs : ((st.T.set st.n o).get st.n).isSome with
      | false => trivial
      | true =>
        exact Says.iff (fun Q E h' => by rw [Sem.wp_alloc, A.size]; exact h') (ih st.n Γ p _ _ (A.alloc hf hs))
  | fresh k ih =>
    intro Γ p st s A
    exact Says.iff (fun Q E h' => by rw [Sem.wp_fresh, A.toks]; rw [A.toks] at h'; exact h') (ih st.k Γ p ⟨st.T, st.n, st.k + 1⟩ _ A.fresh)
  | ask k ih => intro Γ p st s A; exact Says.iff (fun Q E h => by rw [Sem.wp_ask]; exact h) (ih _ Γ p st s A)
  | choose => intro Γ p st s A; trivial
  | os => intro Γ p st s A; trivial
  | register => intro Γ p st s A; trivial
  | newGen => intro Γ p st s A; trivial
  | genState => intro Γ p st s A; trivial
  | resume => intro Γ p st s A; trivial
  | yield => intro Γ p st s A; trivial
  | fork => intro Γ p st s A; trivial
  | thread => intro Γ p st s A; trivial
  | await => intro Γ p st s A; trivial
  | handled own k ih =>
    intro Γ p st s A
    cases own <;> exact Says.iff (fun Q E h => by rw [Sem.wp_handled]; exact h) (ih _ Γ p st s A)
  | stack k ih => intro Γ p st s A; exact Says.iff (fun Q E h => by rw [Sem.wp]; exact h) (ih _ Γ p st s A)
  | call c hd g l k ih =>
    intro Γ p st s A
    show Says M s₀ Γ _ p s (match cl (Γ.enter c hd p) p c st with | some (r, st') => evT s₀.fz cl _ (k r) Γ p st' | none => .no)
    cases h : cl (Γ.enter c hd p) p c st with
    | none => trivial
    | some x =>
      obtain ⟨r, st'⟩ := x
      obtain ⟨r', s', hr, rfl, A'⟩ := hcl _ p c st r st' h rfl s A
      exact Says.iff (fun Q E h' => by rw [Sem.wp_call]; exact ⟨r', s', hr, h'⟩) (ih r' Γ p st' s' A')
end
noncomputable def startsAt {α : Type} (t : Sem α) : Bool := match t with
  | .at _ _ => true
  | _ => false
section
variable (fz : Nat → Bool) (orc : Ctx → Pos → Code → St → Option (Result × St)) (den : Code → Sem Fin) (exs : List Stmt → Env → Sem Flow) (bst : List Stmt → Env → Sem Unit) (sett : Setting)
  (spec : Ctx → Stmt → Env → St → Option St) (cl : Ctx → Pos → Code → St → Option (Result × St))
noncomputable def evSs (Γ : Ctx) (env : Env) : List Stmt → St → Option (Flow × St)
  | [], st => some (.next, st)
  | s :: r, st => match spec Γ s env st with
    | some st' => evSs Γ env r st'
    | none => match startsAt (exs [s] env) with
      | false => none
      | true => match evT fz cl sett (exs [s] env) Γ default st with
        | .ok f _ st' => (match f with
          | .next => evSs Γ env r st'
          | f => some (f, st'))
        | _ => none
noncomputable def evB (Γ : Ctx) (p : Pos) (b : List Stmt) (env : Env) (st : St) : Option (Result × St) :=
  match evT fz cl sett (bst b env) Γ p st with
  | .ok _ _ st' => (match evSs fz exs sett spec cl Γ env b st' with
    | some (f, st'') => some (.ok f, st'')
    | none => none)
  | _ => none
noncomputable def outC (Γ : Ctx) : Out Fin → Option (Result × St)
  | .ok f p st => (match f with
    | .done f => some (.ok f, st)
    | .again c' => match c'.quiet with
      | true => cl (Γ.goto c') p c' st
      | false => none)
  | .err e _ st => some (.error e, st)
  | .no => none
noncomputable def evC1 (Γ : Ctx) (p : Pos) (c : Code) (st : St) : Option (Result × St) :=
  match orc Γ p c st with
  | some r => some r
  | none => match c with
  | .body b env => evB fz exs bst sett spec cl Γ p b env st
  | c => outC cl Γ (evT fz cl sett (den c) Γ p st)
noncomputable def evC : Nat → Ctx → Pos → Code → St → Option (Result × St)
  | 0 => fun _ _ _ _ => none
  | n + 1 => evC1 fz orc den exs bst sett spec (evC n)
end
section
variable {prog : Program} {w : World} {s₀ : Base} {spec : Ctx → Stmt → Env → St → Option St} {cl orc : Ctx → Pos → Code → St → Option (Result × St)}
noncomputable def SpecOk (M : Model) (s₀ : Base) (spec : Ctx → Stmt → Env → St → Option St) : Prop :=
  ∀ Γ st stm env st', spec Γ stm env st = some st' → ∀ p s, At s₀ st s → Sem.wp M Γ (exec stm env) (fun f _ s' => f = .next ∧ At s₀ st' s') (fun _ _ _ => False) p s
theorem wp_start {α : Type} {M : Model} {Γ : Ctx} {t : Sem α} (h : startsAt t = true) {Q : α → Pos → Shared → Prop} {E : Value → Pos → Shared → Prop} {p p' : Pos} {s : Shared} (x : Sem.wp M Γ t Q E p s) : Sem.wp M Γ t Q E p' s := by
  cases t <;> first | (rw [Sem.wp_at] at x ⊢; exact x) | cases h
theorem evSs_sound (hcl : ClOk (model prog w) s₀ cl) (hsp : SpecOk (model prog w) s₀ spec) (Γ : Ctx) (env : Env) : ∀ (b : List Stmt) (st : St) (f : Flow) (st' : St), evSs s₀.fz execs ⟨prog, w.params⟩ spec cl Γ env b st = some (f, st') →
    ∀ p s, At s₀ st s → Sem.wp (model prog w) Γ (execs b env) (fun f' _ s' => f' = f ∧ At s₀ st' s') (fun _ _ _ => False) p s
  | [], st, f, st', h, p, s, A => by
    unfold evSs at h
    cases h
    rw [execs_nil, Sem.wp_pure']; exact ⟨rfl, A⟩
  | stm :: r, st, f, st', h, p, s, A => by
    unfold evSs at h
    rw [execs_cons, Sem.wp_bind']
    cases hs : spec Γ stm env st with
    | some st1 =>
      rw [hs] at h
      refine Sem.wp_mono _ Γ _ ?_ (fun _ _ _ x => x) p s (hsp Γ st stm env st1 hs p s A)
      rintro _ p1 s1 ⟨rfl, A1⟩
      exact evSs_sound hcl hsp Γ env r st1 f st' h p1 s1 A1
    | none =>
      rw [hs] at h
      cases ha : startsAt (execs [stm] env) with
      | false => rw [ha] at h; cases h
      | true =>
        rw [ha] at h
        have q := evT_sound hcl (execs [stm] env) Γ default st s A
        change (match evT s₀.fz cl ⟨prog, w.params⟩ (execs [stm] env) Γ default st with
          | .ok f _ st' => (match f with
            | .next => evSs s₀.fz execs ⟨prog, w.params⟩ spec cl Γ env r st'
            | f => some (f, st'))
          | _ => none) = some (f, st') at h
        change Says (model prog w) s₀ Γ (execs [stm] env) default s (evT s₀.fz cl ⟨prog, w.params⟩ (execs [stm] env) Γ default st) at q
        cases he : evT s₀.fz cl ⟨prog, w.params⟩ (execs [stm] env) Γ default st with
        | no => rw [he] at h; cases h
        | err e p1 st1 => rw [he] at h; cases h
        | ok f1 p1 st1 =>
          rw [he] at h q
          have q' := wp_start (p' := p) ha q
          rw [execs_cons, Sem.wp_bind'] at q'
          refine Sem.wp_mono _ Γ _ ?_ (fun _ _ _ x => x.elim) p s q'
          intro f2 p2 s2 x
          cases f2 with
          | next =>
            rw [execs_nil, Sem.wp_pure'] at x
            obtain ⟨rfl, _, A2⟩ := x
            exact evSs_sound hcl hsp Γ env r st1 f st' h p2 s2 A2
          | brk => rw [Sem.wp_pure'] at x ⊢; obtain ⟨rfl, _, A2⟩ := x; cases h; exact ⟨rfl, A2⟩
          | cont => rw [Sem.wp_pure'] at x ⊢; obtain ⟨rfl, _, A2⟩ := x; cases h; exact ⟨rfl, A2⟩
          | ret v => rw [Sem.wp_pure'] at x ⊢; obtain ⟨rfl, _, A2⟩ := x; cases h; exact ⟨rfl, A2⟩
theorem evC1_sound (hcl : ClOk (model prog w) s₀ cl) (hor : ClOk (model prog w) s₀ orc) (hsp : SpecOk (model prog w) s₀ spec) : ClOk (model prog w) s₀ (evC1 s₀.fz orc (denote table) execs blockStart ⟨prog, w.params⟩ spec cl) := by
  intro Γ p c st r st' h hc s A
  unfold evC1 at h
  cases ho : orc Γ p c st with
  | some y => rw [ho] at h; cases h; exact hor Γ p c st r st' ho hc s A
  | none =>
  rw [ho] at h
  have gen : outC cl Γ (evT s₀.fz cl ⟨prog, w.params⟩ (denote table c) Γ p st) = some (r, st') → wpCode (model prog w) Γ (fun r' s' => r' = r ∧ At s₀ st' s') p s := by
    intro h
    rw [wpCode_iff_wp, hc]
    have q := evT_sound hcl (denote table c) Γ p st s A
    change Says (model prog w) s₀ Γ (denote table c) p s (evT s₀.fz cl ⟨prog, w.params⟩ (denote table c) Γ p st) at q
    show Sem.wp (model prog w) Γ (denote table c) _ _ p s
    cases he : evT s₀.fz cl ⟨prog, w.params⟩ (denote table c) Γ p st with
    | no => rw [he] at h; cases h
    | err e p1 st1 =>
      rw [he] at h q
      cases h
      exact Sem.wp_mono _ Γ _ (fun _ _ _ x => x.elim) (fun e' p' s' x => by obtain ⟨rfl, _, A2⟩ := x; exact ⟨rfl, A2⟩) p s q
    | ok f p1 st1 =>
      rw [he] at h q
      refine Sem.wp_mono _ Γ _ (fun f' p' s' x => ?_) (fun _ _ _ x => x.elim) p s q
      obtain ⟨rfl, rfl, A2⟩ := x
      cases f' with
      | done f => cases h; exact ⟨rfl, A2⟩
      | again c' =>
        change (match c'.quiet with | true => cl (Γ.goto c') p' c' st1 | false => none) = some (r, st') at h
        cases hq : c'.quiet with
        | false => rw [hq] at h; cases h
        | true =>
          rw [hq] at h
          exact ⟨hq, hcl _ p' c' st1 r st' h rfl s' A2⟩
  cases c with
  | body b env =>
    change evB s₀.fz execs blockStart ⟨prog, w.params⟩ spec cl Γ p b env st = some (r, st') at h
    rw [wpCode_iff_wp, hc]
    show Sem.wp (model prog w) Γ (do blockStart b env; return Fin.done (← (execs b env).onRaise (leaving env))) _ _ p s
    rw [Sem.wp_bind']
    unfold evB at h
    have q := evT_sound hcl (blockStart b env) Γ p st s A
    change Says (model prog w) s₀ Γ (blockStart b env) p s (evT s₀.fz cl ⟨prog, w.params⟩ (blockStart b env) Γ p st) at q
    cases he : evT s₀.fz cl ⟨prog, w.params⟩ (blockStart b env) Γ p st with
    | no => rw [he] at h; cases h
    | err e p1 st1 => rw [he] at h; cases h
    | ok u p1 st1 =>
      rw [he] at h q
      refine Sem.wp_mono _ Γ _ (fun u' p' s' x => ?_) (fun _ _ _ x => x.elim) p s q
      obtain ⟨_, rfl, A2⟩ := x
      change (match evSs s₀.fz execs ⟨prog, w.params⟩ spec cl Γ env b st1 with
        | some (f, st'') => some (Except.ok f, st'')
        | none => none) = some (r, st') at h
      cases hb : evSs s₀.fz execs ⟨prog, w.params⟩ spec cl Γ env b st1 with
      | none => rw [hb] at h; cases h
      | some y =>
        obtain ⟨f, st2⟩ := y
        rw [hb] at h
        cases h
        rw [Sem.wp_bind', Sem.wp_onRaise]
        refine Sem.wp_mono _ Γ _ (fun f' p'' s'' x => ?_) (fun _ _ _ x => x.elim) p' s' (evSs_sound hcl hsp Γ env b st1 f _ hb p' s' A2)
        obtain ⟨rfl, A3⟩ := x
        rw [Sem.wp_pure']
        exact ⟨rfl, A3⟩
  | _ => exact gen h
theorem evC_sound (hor : ClOk (model prog w) s₀ orc) (hsp : SpecOk (model prog w) s₀ spec) : ∀ n, ClOk (model prog w) s₀ (evC s₀.fz orc (denote table) execs blockStart ⟨prog, w.params⟩ spec n)
  | 0 => fun _ _ _ _ _ _ h => by cases h
  | n + 1 => evC1_sound (evC_sound hor hsp n) hor hsp
end
end Sp
end
section
open PySem PySem.W PySem.Calls PyProof.Rows
set_option maxRecDepth 100000
namespace Sp
section
variable {prog : Program} {w : World} {A : Around} {E : Value → Shared → Prop} {s : Shared} {K : Frag} {x C dx : Addr} {ox : Obj} {es es' : List DictEntry} {n n' : Nat} {name : Str} {v : Value}
theorem osa_ex {R : Result → Shared → Prop} {tk : Tok} (X : K.In s.heap) (I : InstAt s.heap x ox C (some (dictOf es n))) (hd : ox.dict = some dx)
    (hp : plainOver K C = true) (ht : takerIn K C name = some none) (hh : hasDictIn K C = true) (hl : (getL name es).isSome = true)
    (e : (putL name (PyData.keyHash w.params name) (.str name s.toks) v es, putN name es n) = (es', n')) (hz : es'.length ≤ 1000)
    (h : ∀ h', Heap.SameBut dx s.heap h' → h'.get? dx = some (dictOf es' n') → R (.ok (.ret .none)) { s with heap := h', toks := s.toks + 1 }) :
    codeAny (model prog w) A (.call (.builtin "object.__setattr__") ⟨[.ref x, .str name tk, v], []⟩) R s := by
  obtain ⟨e1, e2⟩ := Prod.mk.inj e
  refine osa_open X I hp ht fun b => ?_
  obtain ⟨cd, hc, hd'⟩ := any_some hh
  have D : s.heap.get? dx = some (dictOf es n) := by have q := I.dict; rw [hd] at q; exact q
  obtain ⟨hx, hcl, hn, -⟩ := I
  obtain ⟨oc, odi, oda, osl⟩ := ox
  dsimp only at hcl hd
  subst hcl hd
  refine wpAny_bind (wpAny_pure (wpAny_bind (wpAny_bind (wpAny_loadPart hx (wpAny_bind ((looks_clsIn X hc).here ?_))))))
  rw [hd']
  refine wpAny_pure (a := some dx) (wpAny_bind (wpAny_pure (wpAny_bind ?_)))
  unfold nsSet
  refine wpAny_bind (wpAny_bind (wpAny_askSetting (wpAny_pure (wpAny_bind (wpAny_mkText (wpAny_bind (wpAny_loadPart D ?_)))))))
  dsimp only
  have c : (!es.toArray.any (·.key.isStr name) && es.toArray.any (·.refKey)) = false := by
    rw [← Array.any_toList, ← Array.any_toList]
    show (!es.any (·.key.isStr name) && es.any (·.refKey)) = false
    unfold getL at hl
    split at hl
    · rename_i en he
      rw [List.any_eq_true.mpr ⟨en, List.mem_of_find?_eq_some he, List.find?_some he⟩]; rfl
    · split at hl
      · cases hl
      · rename_i z; rw [Bool.not_eq_true] at z; rw [z, Bool.and_false]
  rw [aRefKeyMayBeTheName_at, c]
  refine wpAny_updatePart D ?_
  have hput : Obj.putName name (PyData.keyHash w.params name) (.str name s.toks) v (dictOf es n) = dictOf es' n' := by rw [putName_dict, e1, e2]
  have D' : (s.heap.update dx (Obj.putName name (PyData.keyHash w.params name) (.str name s.toks) v)).get? dx = some (dictOf es' n') := by
    rw [← hput]; exact Heap.get?_update_self _ D (by rw [hput]; rfl)
  refine wpAny_bind (wpAny_lookBehind D' (pastItsLine_dict (by rw [List.size_toArray, sizeLine_eq]; omega)) ?_)
  exact wpAny_pure (h _ (.update ..) D')
/-- a store into an object's own dict, told exactly -/
theorem set_ex {Q : Unit → Shared → Prop} (X : K.In s.heap) (I : InstAt s.heap x ox C (some (dictOf es n))) (hd : ox.dict = some dx)
    (hs : findIn K (.ref C) "__setattr__" = some (some (.builtin "object.__setattr__"))) (hp : plainOver K C = true) (ht : takerIn K C name = some none) (hh : hasDictIn K C = true) (hl : (getL name es).isSome = true)
    (e : (putL name (PyData.keyHash w.params name) (.str name (s.toks + 1)) v es, putN name es n) = (es', n')) (hz : es'.length ≤ 1000)
    (h : ∀ h', Heap.SameBut dx s.heap h' → h'.get? dx = some (dictOf es' n') → Q () { s with heap := h', toks := s.toks + 2 }) :
    wpAny (model prog w) A (setAttr (.ref x) name v) Q E s :=
  set_plain X I hs (osa_ex (s := { s with toks := s.toks + 1 }) X I hd hp ht hh hl e hz h)
end
section
variable {prog : Program} {w : World} {A : Around} {s : Shared} {R : Result → Shared → Prop}
noncomputable abbrev frame0 : Obj := { cls := .type "frame", data := .dict #[] }
/-- a call of a def of the text: its frame's place and what else there is are told exactly -/
theorem call_ex {name qual : Str} {params : Arguments} {body : List Stmt} {scope : Scope} {dV kV doc pm cdv ct : Value} {an : Option Addr} {f : Addr} {o : Obj} {args : Args} {binds : List (Str × Value)}
    (hroom : A.depth < recursionLimit) (ho : s.heap.get? f = some o) (hdata : o.data = .func (fnOf name qual params body scope dV kV doc pm an cdv ct)) (hlim : s.heap.NoLimit) (hcd : s.heap.CodeRec cdv qual)
    (hbind : BindsTo s (fnOf name qual params body scope dV kV doc pm an cdv ct) args binds) (hloc : ∀ y ∈ binds, scope.names.lookup y.1 = some .local)
    (h : ∀ h₁, h₁.Ns s.heap.objs.size (fun y => binds.reverse.lookup y) → Heap.SameBut s.heap.objs.size (s.heap.push frame0) h₁ →
      wpAny (model prog w) (A.deeper (envOf qual scope s.heap.objs.size f cdv)) (execs body (envOf qual scope s.heap.objs.size f cdv))
        (fun fl s' => R (.ok (.ret (match fl with | .ret v => v | _ => .none))) s') (fun _ _ => False)
        { s with heap := h₁, toks := s.toks + binds.length })
    (hco : scope.isCoroutine = false := by rfl) (hgen : scope.isGenerator = false := by rfl) (hk : scope.kind = .function := by rfl)
    (hcell : ∀ x ∈ scope.names, x.2 ≠ .cell := by decide) : codeAny (model prog w) A (.call (.ref f) args) R s := by
  refine codeAny_call_function (fd := fnOf name qual params body scope dV kV doc pm an cdv ct) hroom ho hdata hco hgen rfl hcd (hbind _ _ _ _ ?_)
  refine wpAny_newFunctionEnv hcell hloc (fun h₁ hns hsb => ⟨hlim.fresh _ hsb, codeAny_func (wpAny_mono (h h₁ hns hsb) (fun _ _ x => x) (fun _ _ x => x.elim))⟩) hk
end
end Sp
end
section
namespace Sp
-- options
noncomputable def o2 {α β γ : Type} (f : α → β → γ) (a : Option α) (b : Option β) : Option γ := a.bind fun x => b.map (f x)
noncomputable def o3 {α β γ δ : Type} (f : α → β → γ → δ) (a : Option α) (b : Option β) (c : Option γ) : Option δ := a.bind fun x => o2 (f x) b c
noncomputable def ifo {α : Type} (c : Bool) (a : Option α) : Option α := if c = true then a else none
theorem ob_inv {α β : Type} {a : Option α} {f : α → Option β} {c : β} (h : a.bind f = some c) : ∃ x, a = some x ∧ f x = some c := by
  cases a with
  | none => cases h
  | some x => exact ⟨x, rfl, h⟩
theorem om_inv {α β : Type} {a : Option α} {f : α → β} {c : β} (h : a.map f = some c) : ∃ x, a = some x ∧ f x = c := by
  cases a with
  | none => cases h
  | some x => exact ⟨x, rfl, Option.some.inj h⟩
theorem o2_inv {α β γ : Type} {f : α → β → γ} {a : Option α} {b : Option β} {c : γ} (h : o2 f a b = some c) : ∃ x y, a = some x ∧ b = some y ∧ f x y = c := by
  obtain ⟨x, h1, h⟩ := ob_inv h
  obtain ⟨y, h2, h3⟩ := om_inv h
  exact ⟨x, y, h1, h2, h3⟩
theorem o3_inv {α β γ δ : Type} {f : α → β → γ → δ} {a : Option α} {b : Option β} {c : Option γ} {r : δ} (h : o3 f a b c = some r) : ∃ x y z, a = some x ∧ b = some y ∧ c = some z ∧ f x y z = r := by
  obtain ⟨x, h1, h⟩ := ob_inv h
  obtain ⟨y, z, h2, h3, h4⟩ := o2_inv h
  exact ⟨x, y, z, h1, h2, h3, h4⟩
theorem ifo_inv {α : Type} {c : Bool} {a : Option α} {r : α} (h : ifo c a = some r) : c = true ∧ a = some r := by
  cases c with
  | false => cases h
  | true => exact ⟨rfl, h⟩
theorem ite_inv {α : Type} {p : Prop} [Decidable p] {a b : Option α} {r : α} (h : (if p then a else b) = some r) : (p ∧ a = some r) ∨ (¬ p ∧ b = some r) := by
  by_cases z : p
  · rw [if_pos z] at h; exact .inl ⟨z, h⟩
  · rw [if_neg z] at h; exact .inr ⟨z, h⟩
theorem none_inv {α : Type} {r : α} {P : Prop} (h : (none : Option α) = some r) : P := nomatch h
theorem ff_el {P : Prop} (h : false = true) : P := nomatch h
theorem oj_inv {α : Type} {o : Option (Option α)} {a : α} (h : o.join = some a) : o = some (some a) := by
  cases o with
  | none => cases h
  | some x => exact congrArg some h
noncomputable def oB {α : Type} (f : α → Bool) : Option α → Bool
  | some a => f a
  | none => false
theorem oB_inv {α : Type} {f : α → Bool} {o : Option α} (h : oB f o = true) : ∃ a, o = some a ∧ f a = true := by
  cases o with
  | none => exact ff_el h
  | some a => exact ⟨a, rfl, h⟩
noncomputable def one1 {α : Type} : List α → Option α
  | [] => none
  | a :: r => match r with
    | [] => some a
    | _ :: _ => none
theorem one1_inv {α : Type} {l : List α} {a : α} (h : one1 l = some a) : l = [a] := by
  cases l with
  | nil => cases h
  | cons b r => cases r with
    | nil => cases h; rfl
    | cons c r => cases h
noncomputable def two2 {α : Type} : List α → Option (α × α)
  | [] => none
  | a :: r => (one1 r).map fun b => (a, b)
theorem two2_inv {α : Type} {l : List α} {x : α × α} (h : two2 l = some x) : l = [x.1, x.2] := by
  cases l with
  | nil => cases h
  | cons b r =>
    obtain ⟨y, h1, h2⟩ := om_inv (show (one1 r).map (fun c => (b, c)) = some x from h)
    rw [one1_inv h1, ← h2]
noncomputable def thr3 {α : Type} : List α → Option (α × α × α)
  | [] => none
  | a :: r => (two2 r).map fun b => (a, b)
theorem thr3_inv {α : Type} {l : List α} {x : α × α × α} (h : thr3 l = some x) : l = [x.1, x.2.1, x.2.2] := by
  cases l with
  | nil => cases h
  | cons b r =>
    obtain ⟨y, h1, h2⟩ := om_inv (show (two2 r).map (fun c => (b, c)) = some x from h)
    rw [two2_inv h1, ← h2]
noncomputable def strCon : PySem.Expr → Option PySem.Str
  | .Constant c _ _ => match c with
    | .str x => some x
    | _ => none
  | _ => none
theorem strCon_inv {e : PySem.Expr} {x : PySem.Str} (h : strCon e = some x) : ∃ k p, e = .Constant (.str x) k p := by
  cases e with
  | Constant c k p => cases c with
    | str s => exact ⟨k, p, by rw [Option.some.inj (show some s = some x from h)]⟩
    | _ => exact none_inv h
  | _ => exact none_inv h
end Sp
end
section
open PySem PySem.W PySem.Calls PyProof.Rows
set_option maxRecDepth 100000
set_option maxHeartbeats 1000000
namespace Sp
/-- a set of texts: its entries, how often it was written, its table -/
structure SO where
  es : Array (Int × Value)
  ep : Nat
  t : SetTable
noncomputable abbrev SO.obj (g : SO) : Obj := { cls := .type "set", dict := none, data := .set g.es g.ep g.t }
noncomputable def offPlain (t : SetTable) : SetTable := if t.plain = true then { t with plain := false } else t
noncomputable def SO.lay (w : World) (x : Str) (tk : Nat) (g : SO) : SO :=
  ⟨(layNew g.t g.es (hashStr w x) (.str x tk)).1, g.ep + 1, offPlain (layNew g.t g.es (hashStr w x) (.str x tk)).2.1⟩
noncomputable def SO.relay (g : SO) : SO :=
  ⟨(relayAll g.t g.es (SetTable.grown g.es.size)).1, g.ep + 1, (relayAll g.t g.es (SetTable.grown g.es.size)).2.1⟩
noncomputable def SO.add (w : World) (x : Str) (tk : Nat) (g : SO) : SO :=
  if (!(layNew g.t g.es (hashStr w x) (.str x tk)).2.2.1 && (g.lay w x tk).t.tooFull) = true then (g.lay w x tk).relay else g.lay w x tk
noncomputable def SO.unled (g : SO) : SO := ⟨g.es, g.ep + 1, { g.t with led := false }⟩
/-- a well kept set of texts: which texts it holds, and how many -/
structure SO.Ok (w : World) (prog : Program) (g : SO) (S : Str → Bool) (n : Nat) : Prop where
  el : ElemsOf (strKind prog w) g.es.toList
  mem : ∀ k, S k = true ↔ ∃ e ∈ g.es.toList, (strKind prog w).is k e.2 = true
  fits : g.t.fits g.es.size = true
  size : g.es.size = n
theorem offPlain_fits {t : SetTable} {n : Nat} (h : t.fits n = true) : (offPlain t).fits n = true := by
  unfold offPlain; split
  · exact SetTable.fits_plain_off h
  · exact h
section
variable {prog : Program} {w : World} {A : Around} {E : Value → Shared → Prop} {s : Shared} {a : Addr} {g : SO} {S : Str → Bool} {n : Nat} {x : Str} {tk : Nat}
theorem SO.Ok.lay (O : g.Ok w prog S n) : (g.lay w x tk).Ok w prog (fun k => S k || decide (k = x)) (n + 1) := by
  have hp := layNew_perm g.t g.es (hashStr w x) (.str x tk)
  have hf := layNew_fits g.t g.es (hashStr w x) (.str x tk)
  rw [Array.toList_push] at hp
  have hkey : (strKind prog w).is x (.str x tk) = true := strKind_is prog w x tk
  have sz : (layNew g.t g.es (hashStr w x) (.str x tk)).1.size = n + 1 := by rw [← Array.length_toList, hp.length_eq, List.length_append, Array.length_toList, O.size]; rfl
  exact ⟨(O.el.push hkey rfl).perm hp, mem_push_iff hkey O.mem hp, offPlain_fits hf, sz⟩
theorem SO.Ok.relay (O : g.Ok w prog S n) : g.relay.Ok w prog S n := by
  have hp := relayAll_perm g.t g.es (SetTable.grown g.es.size)
  have hf := relayAll_fits g.t g.es (SetTable.grown g.es.size)
  refine ⟨O.el.perm hp, fun k => (O.mem k).trans ⟨fun ⟨e, he, q⟩ => ⟨e, hp.mem_iff.mpr he, q⟩, fun ⟨e, he, q⟩ => ⟨e, hp.mem_iff.mp he, q⟩⟩, hf, ?_⟩
  show (relayAll g.t g.es (SetTable.grown g.es.size)).1.size = n
  rw [← Array.length_toList, hp.length_eq, Array.length_toList]; exact O.size
theorem SO.Ok.add (O : g.Ok w prog S n) : (g.add w x tk).Ok w prog (fun k => S k || decide (k = x)) (n + 1) := by
  unfold SO.add; split
  · exact O.lay.relay
  · exact O.lay
theorem SO.Ok.unled (O : g.Ok w prog S n) : g.unled.Ok w prog S n := ⟨O.el, O.mem, by have := O.fits; cases g; exact this, O.size⟩
theorem put_obj (es : Array (Int × Value)) (t : SetTable) (g : SO) : Obj.putSet es t g.obj = SO.obj ⟨es, g.ep + 1, t⟩ := rfl
theorem store_ex {es : Array (Int × Value)} {t : SetTable} {Q : Unit → Shared → Prop} (ho : s.heap.get? a = some g.obj) (hz : es.size ≤ sizeLine)
    (h : ∀ h', Heap.SameBut a s.heap h' → h'.get? a = some (SO.obj ⟨es, g.ep + 1, t⟩) → Q () { s with heap := h' }) : wpAny (model prog w) A (storeSet a es t) Q E s := by
  refine wpAny_storeSet_of ho rfl (h _ (.update ..) ?_) hz
  rw [← put_obj]; exact Heap.get?_update_self _ ho rfl
theorem tail_ex {gv : Bool → Sem Unit} (hg : ∀ (b : Bool) (s₁ : Shared) (Q' : Unit → Shared → Prop), Q' () s₁ → wpAny (model prog w) A (gv b) Q' E s₁)
    {es1 : Array (Int × Value)} {t2 : SetTable} {wd : Bool} {R : Option Bool → Shared → Prop} (ho : s.heap.get? a = some g.obj) (hz : es1.size ≤ sizeLine) (hz2 : (relayAll t2 es1 (SetTable.grown es1.size)).1.size ≤ sizeLine)
    (h : ∀ h', Heap.SameBut a s.heap h' → h'.get? a = some (SO.obj (if (!wd && t2.tooFull) = true then SO.relay ⟨es1, g.ep + 1, t2⟩ else ⟨es1, g.ep + 1, t2⟩)) → R (some true) { s with heap := h' }) :
    wpAny (model prog w) A (do
        storeSet a es1 t2
        if (!wd && t2.tooFull) = true then do
            gv (relayAll t2 es1 (SetTable.grown es1.size)).2.2
            storeSet a (relayAll t2 es1 (SetTable.grown es1.size)).1 (relayAll t2 es1 (SetTable.grown es1.size)).2.1
            pure (some true)
          else pure (some true)) R E s := by
  refine wpAny_bind (store_ex ho hz fun h1 hs1 ho1 => ?_)
  split
  · rename_i hc
    rw [if_pos hc] at h
    refine wpAny_bind (hg _ _ _ ?_)
    refine wpAny_bind (store_ex (g := ⟨es1, g.ep + 1, t2⟩) ho1 hz2 fun h2 hs2 ho2 => ?_)
    exact wpAny_pure (h h2 (hs1.trans hs2) ho2)
  · rename_i hc
    rw [if_neg hc] at h
    exact wpAny_pure (h h1 hs1 ho1)
theorem setAdd_ex {Q : Bool → Shared → Prop} (ho : s.heap.get? a = some g.obj) (O : g.Ok w prog S n) (hS : S x = false) (hn : n + 1 < scanBound)
    (h : ∀ h', Heap.SameBut a s.heap h' → h'.get? a = some (g.add w x tk).obj → Q true { s with heap := h', toks := s.toks + 1 }) :
    wpAny (model prog w) A (setAdd a (.str x tk)) Q E s := by
  have hkey : (strKind prog w).is x (.str x tk) = true := strKind_is prog w x tk
  have hb : g.es.size < scanBound := by rw [O.size]; omega
  have Ol := O.lay (x := x) (tk := tk)
  have hzl : (g.lay w x tk).es.size ≤ sizeLine := fits_of_scanBound (by rw [Ol.size]; exact hn)
  have hzr : (g.lay w x tk).relay.es.size ≤ sizeLine := fits_of_scanBound (by rw [Ol.relay.size]; exact hn)
  unfold setAdd
  refine wpAny_holding (wpAny_bind ((strKind prog w).pyHash hkey ?_))
  show wpAny _ _ (setAddHashed a (.str x tk) (hashStr w x)) _ _ { s with toks := s.toks + 1 }
  have ho' : ({ s with toks := s.toks + 1 } : Shared).heap.get? a = some g.obj := ho
  have h' : ∀ h', Heap.SameBut a ({ s with toks := s.toks + 1 } : Shared).heap h' → h'.get? a = some (g.add w x tk).obj → Q true { ({ s with toks := s.toks + 1 } : Shared) with heap := h' } := h
  generalize ({ s with toks := s.toks + 1 } : Shared) = s1 at ho' h' ⊢
  unfold setAddHashed setAddHashedIn
  refine wpAny_holding (wpAny_bind (wpAny_setState_of ho' rfl O.fits ?_))
  dsimp only
  rw [byScan_of rfl hb O.el]
  simp only [↓reduceIte]
  unfold setAddByScan
  refine wpAny_bind ?_
  refine wpAny_bind (wpAny_rule ?_)
  refine wpAny_bind (wpAny_setScan_of (knd := strKind prog w) hkey ho' rfl O.fits O.el ?_)
  have hno : List.findIdx? (fun e => (strKind prog w).is x e.2) g.es.toList = none := by
    rw [List.findIdx?_eq_none_iff]
    intro e he
    cases q : (strKind prog w).is x e.2 with
    | false => rfl
    | true => have := (O.mem x).mpr ⟨e, he, q⟩; rw [hS] at this; cases this
  rw [hno]
  dsimp only
  have hgw : ∀ (b : Bool) {s₁ : Shared} {Q' : Unit → Shared → Prop}, Q' () s₁ → wpAny (model prog w) A (match b with | true => rule "set.scan.the-table-gave-way" | false => pure ()) Q' E s₁ :=
    fun b s₁ Q' hq => by cases b <;> first | exact wpAny_pure hq | exact wpAny_rule hq
  unfold SO.add SO.relay SO.lay at h'
  unfold SO.relay SO.lay at hzr
  unfold SO.lay at hzl
  generalize hL : layNew g.t g.es (hashStr w x) (.str x tk) = L at h' hzl hzr ⊢
  obtain ⟨es1, t1, wd, gave⟩ := L
  dsimp only at h' hzl hzr ⊢
  refine wpAny_bind (hgw _ ?_)
  split
  · rename_i hp
    have he : offPlain t1 = { t1 with plain := false } := by unfold offPlain; rw [if_pos hp]
    rw [he] at h' hzr
    refine wpAny_bind ?_
    rw [hashByValue_scannable 8 (x := .str x tk) rfl]
    refine wpAny_pure ?_
    show wpAny _ _ (do
        storeSet a es1 { t1 with plain := false }
        if (!wd && ({ t1 with plain := false } : SetTable).tooFull) = true then _ else _) _ _ _
    refine tail_ex (gv := fun b => match b with | true => rule "set.scan.the-table-gave-way" | false => pure ()) (fun b s₁ Q' hq => hgw b hq) ho' hzl hzr fun h2 hs2 ho2 => ?_
    dsimp only
    exact wpAny_pure (h' h2 hs2 ho2)
  · rename_i hp
    have he : offPlain t1 = t1 := by unfold offPlain; rw [if_neg hp]
    rw [he] at h' hzr
    refine wpAny_bind (wpAny_pure ?_)
    simp only [↓reduceIte]
    refine tail_ex (gv := fun b => match b with | true => rule "set.scan.the-table-gave-way" | false => pure ()) (fun b s₁ Q' hq => hgw b hq) ho' hzl hzr fun h2 hs2 ho2 => ?_
    dsimp only
    exact wpAny_pure (h' h2 hs2 ho2)
theorem unled_ex {Q : Unit → Shared → Prop} (ho : s.heap.get? a = some g.obj) (O : g.Ok w prog S n) (hn : n < scanBound)
    (h : ∀ h', Heap.SameBut a s.heap h' → h'.get? a = some g.unled.obj → Q () { s with heap := h' }) : wpAny (model prog w) A (setUnled a) Q E s := by
  unfold setUnled
  refine wpAny_bind (wpAny_setState_of ho rfl O.fits ?_)
  dsimp only
  exact store_ex ho (fits_of_scanBound (by rw [O.size]; exact hn)) h
end
noncomputable def led0 (w : World) : Bool := !w.params.followText "set-order"
noncomputable def SO.new (w : World) : SO := ⟨#[], 0, .fresh 0 0 (led0 w)⟩
noncomputable def valsF : Nat → List Str → List Value
  | _, [] => []
  | k, x :: r => .str x k :: valsF (k + 1) r
noncomputable def SO.fold (w : World) : Nat → List Str → SO → SO
  | _, [], g => g
  | k, x :: r, g => SO.fold w (k + 1) r (g.add w x k)
noncomputable def strsOf : List PySem.Expr → Option (List Str)
  | [] => some []
  | e :: r => (strCon e).bind fun x => (strsOf r).map (x :: ·)
section
variable {prog : Program} {w : World} {A : Around} {E : Value → Shared → Prop} {s : Shared} {env : Env}
theorem all_consts {M : Model} : ∀ {elts : List PySem.Expr} {xs : List Str} {s : Shared} {Q : List Value → Shared → Prop}, strsOf elts = some xs → Q (valsF s.toks xs) { s with toks := s.toks + xs.length } → KdsAll M A E env elts Q s
  | [], xs, s, Q, h, q => by cases h; exact q
  | e :: r, xs, s, Q, h, q => by
    obtain ⟨x, h1, h⟩ := ob_inv h
    obtain ⟨ys, hy, rfl⟩ := om_inv h
    obtain ⟨k, p, rfl⟩ := strCon_inv h1
    refine wpAny_Constant_str ?_
    refine all_consts hy ?_
    show Q (.str x s.toks :: valsF (s.toks + 1) ys) { s with toks := s.toks + 1 + ys.length }
    rw [Nat.add_assoc, Nat.add_comm 1]; exact q
theorem strsOf_plain : ∀ {elts : List PySem.Expr} {xs : List Str}, strsOf elts = some xs → elts.all kdsPlain = true ∧ elts.all (constantsAlone 8) = true ∧ elts.length = xs.length
  | [], xs, h => by cases h; exact ⟨rfl, rfl, rfl⟩
  | e :: r, xs, h => by
    obtain ⟨x, h1, h⟩ := ob_inv h
    obtain ⟨ys, hy, rfl⟩ := om_inv h
    obtain ⟨k, p, rfl⟩ := strCon_inv h1
    obtain ⟨a, b, c⟩ := strsOf_plain hy
    refine ⟨?_, ?_, by rw [List.length_cons, List.length_cons, c]⟩
    · rw [List.all_cons, a]; rfl
    · rw [List.all_cons, b]; rfl
theorem fill_ex {d : Addr} {Q : Value → Shared → Prop} : ∀ {xs : List Str} {k : Nat} {g : SO} {S : Str → Bool} {n : Nat} {s : Shared}, s.heap.get? d = some g.obj → g.Ok w prog S n → xs.Nodup → (∀ x ∈ xs, S x = false) → n + xs.length < scanBound →
    (∀ h', Heap.SameBut d s.heap h' → h'.get? d = some (SO.fold w k xs g).unled.obj → Q (.ref d) { s with heap := h', toks := s.toks + xs.length }) → KdsFill (model prog w) A E true d Q (valsF k xs) s
  | [], k, g, S, n, s, ho, O, _, _, hn, h => kds_fill_unled rfl (unled_ex ho O (by simpa using hn) fun h' hs ho' => h h' hs ho')
  | x :: r, k, g, S, n, s, ho, O, hd, hf, hn, h => by
    rw [List.length_cons] at hn
    refine kds_fill_cons (setAdd_ex ho O (hf x (.head _)) (by omega) fun h1 hs1 ho1 => ?_)
    rw [List.nodup_cons] at hd
    refine fill_ex (s := { s with heap := h1, toks := s.toks + 1 }) ho1 O.add hd.2 (fun y hy => ?_) (by omega) fun h2 hs2 ho2 => ?_
    · rw [hf y (.tail _ hy), Bool.false_or]
      exact decide_eq_false fun e => hd.1 (e ▸ hy)
    · have := h h2 (hs1.trans hs2) ho2
      rw [List.length_cons, Nat.add_comm r.length, ← Nat.add_assoc] at this
      exact this
theorem newSet_ex {Q : Value → Shared → Prop} (h : Q (.ref s.heap.objs.size) { s with heap := s.heap.push (SO.new w).obj }) : wpAny (model prog w) A (newSet (.type "set")) Q E s := by
  unfold newSet setsByText
  refine wpAny_bind (wpAny_bind (wpAny_askSetting (wpAny_pure ?_)))
  dsimp only
  simp only [newObj]
  exact wpAny_bind (wpAny_alloc (wpAny_pure h))
theorem new_ok : (SO.new w).Ok w prog (fun _ => false) 0 := ⟨fun e he => by simp [SO.new] at he, fun k => by simp [SO.new], by rfl, rfl⟩
theorem disp_core {b : Bool} {elts : List (Bool × Sem Value)} {ts : List (Sem Value)} {Q : Value → Shared → Prop} (hs : elts.findIdx? (·.1) = none) (hlen : elts.length ≤ 30) (hm : elts.map (·.2) = ts)
    (h : wpAny (model prog w) A (evalAll ts) (fun vs s' => KdsFill (model prog w) A E true s.heap.objs.size Q vs s') E { s with heap := s.heap.push (SO.new w).obj }) :
    wpAny (model prog w) A (setDisplay .unsure b elts) Q E s := by
  have hn : (if elts.length > 30 then 0 else (elts.findIdx? (·.1)).getD elts.length) = elts.length := by rw [if_neg (by omega), hs]; rfl
  unfold setDisplay
  try dsimp only
  rw [if_neg (by decide)]
  refine wpAny_bind (newSet_ex ?_)
  dsimp only
  rw [hn, List.take_length, List.drop_length, hm]
  refine wpAny_bind (wpAny_holding ?_)
  refine wpAny_bind (wpAny_mono h (fun vs s' h' => ?_) fun _ _ x => x)
  refine wpAny_bind (wpAny_holding ?_)
  refine wpAny_bind (wpAny_mono (kds_for (fun x P s hx => ?_) vs s' h') (fun _ s1 h1 => ?_) fun _ _ x => x)
  · refine wpAny_bind (wpAny_mono hx (fun _ s2 h2 => ?_) fun _ _ x => x)
    first | exact wpAny_pure ⟨rfl, h2⟩ | exact wpAny_bind (wpAny_pure (wpAny_pure ⟨rfl, h2⟩))
  · have h2 : wpAny (model prog w) A (setUnled s.heap.objs.size) (fun _ s' => Q (.ref s.heap.objs.size) s') E s1 := by simpa [KdsFill] using h1
    rw [if_pos (by decide)]
    refine wpAny_bind (wpAny_rule (wpAny_mono h2 (fun _ s3 h3 => ?_) fun _ _ x => x))
    rw [List.forIn_nil]
    exact wpAny_pure (wpAny_pure h3)
/-- the display of a set of three to thirty written texts -/
theorem disp_ex {elts : List PySem.Expr} {xs : List Str} {pos : Pos} {c : Addr} {o : Obj} {vs : Array Value} {Q : Value → Shared → Prop} (hx : strsOf elts = some xs) (hd : xs.Nodup) (h3 : 2 < xs.length) (hlen : xs.length ≤ 30)
    (hc : env.code = .ref c) (ho : s.heap.get? c = some o) (hv : o.data = .fields vs)
    (h : ∀ h', Heap.SameBut s.heap.objs.size (s.heap.push (SO.new w).obj) h' → h'.get? s.heap.objs.size = some (SO.fold w s.toks xs (SO.new w)).unled.obj → Q (.ref s.heap.objs.size) { s with heap := h', toks := s.toks + xs.length + xs.length }) :
    wpAny (model prog w) A (eval (.Set elts 0 pos) env) Q E s := by
  obtain ⟨hp, hca, hl⟩ := strsOf_plain hx
  have hroad : displayRoad 0 elts = .unsure := by
    unfold displayRoad
    rw [if_neg (by decide), if_neg (by rw [hl]; omega), if_pos hca]
  rw [arm_eval_Set]
  refine wpAny_bind (wpAny_standAt ?_)
  have hmain : ∀ {Q : Bool → Shared → Prop}, (∀ b, Q b s) → wpAny (model prog w) A (inMainModule env) Q E s := by
    intro Q h
    unfold inMainModule
    try dsimp only
    rw [hc]
    split
    · exact wpAny_pure (h _)
    · refine wpAny_bind (wpAny_fieldsOf ho hv ?_)
      split
      · exact wpAny_bind (wpAny_askSetting (wpAny_pure (h _)))
      · exact wpAny_pure (h _)
  refine wpAny_bind (hmain fun b => ?_)
  rw [kds_star elts hp, List.map_map, hroad]
  refine disp_core (ts := (evalEach elts env).map fun t => do let v ← t; standAt pos; pure v) ?_ ?_ ?_ ?_
  · refine List.findIdx?_eq_none_iff.mpr fun x hx => ?_
    obtain ⟨t, _, rfl⟩ := List.mem_map.mp hx
    rfl
  · rw [List.length_map, kds_len, hl]; exact hlen
  · rw [List.map_map]; try rfl
  · refine kds_all pos elts _ _ (all_consts hx ?_)
    refine fill_ex (xs := xs) (k := s.toks) (g := SO.new w) (S := fun _ => false) (n := 0) (Heap.get?_push_size _ rfl) new_ok hd (fun _ _ => rfl) (by have : scanBound = 4096 := rfl; omega) h
end
end Sp
end
section
open PySem PySem.W
set_option maxRecDepth 100000
namespace Sp
noncomputable abbrev pw : Program := PySem.Challenge.pw_is0018_01
noncomputable def stAt : List Stmt → Nat → Stmt
  | [], _ => .Pass default
  | s :: _, 0 => s
  | _ :: r, n + 1 => stAt r n
noncomputable def clsB : Stmt → List Stmt
  | .ClassDef _ _ _ b _ _ _ _ _ _ _ => b
  | _ => []
noncomputable def fst (i : Nat) : Stmt := stAt pw.main.body i
noncomputable def mst (i j : Nat) : Stmt := stAt (clsB (stAt pw.main.body i)) j
noncomputable def noArgs : Arguments := ⟨[], [], none, [], [], none, []⟩
noncomputable def noScope : Scope := ⟨.function, [], false, false, []⟩
noncomputable def fArgs : Stmt → Arguments
  | .FunctionDef _ a _ _ _ _ _ _ _ _ => a
  | _ => noArgs
noncomputable def fBody : Stmt → List Stmt
  | .FunctionDef _ _ b _ _ _ _ _ _ _ => b
  | _ => []
noncomputable def fScope : Stmt → Scope
  | .FunctionDef _ _ _ _ _ _ s _ _ _ => s
  | _ => noScope
noncomputable abbrev sn (l : List Nat) : Str := ⟨⟨l⟩⟩
noncomputable abbrev ke (P : Params) (x : Str) (t : Nat) (v : Value) : DictEntry := ⟨PyData.keyHash P x, .str x t, v⟩
noncomputable abbrev amD (P : Params) (a : Nat) (x : Str) (t b : Nat) (i : Value) (c : Nat) (r : Value) : Obj := dictOf [ke P "s" a (.str x t), ke P "substring_i" b i, ke P "result" c r] 3
noncomputable abbrev fnS (name qual : Str) (st : Stmt) (pm cd : Value) : FuncData := fnOf name qual (fArgs st) (fBody st) (fScope st) .none .none .none pm none cd .none
noncomputable def o_2 (P : Params) : Obj := ⟨.none, none, (.dict (List.toArray [ke P (sn [116, 121, 112, 101, 46, 95, 95, 115, 117, 98, 99, 108, 97, 115, 115, 101, 115, 95, 95, 46, 69, 120, 99, 101, 112, 116, 105, 111, 110, 46, 48]) 3471 (.int 939 0), ke P (sn [116, 121, 112, 101, 46, 95, 95, 115, 117, 98, 99, 108, 97, 115, 115, 101, 115, 95, 95, 46, 69, 120, 99, 101, 112, 116, 105, 111, 110, 46, 110]) 3472 (.int 3 0), ke P (sn [116, 121, 112, 101, 46, 95, 95, 115, 117, 98, 99, 108, 97, 115, 115, 101, 115, 95, 95, 46, 69, 120, 99, 101, 112, 116, 105, 111, 110, 46, 49]) 3491 (.int 952 0), ke P (sn [116, 121, 112, 101, 46, 95, 95, 115, 117, 98, 99, 108, 97, 115, 115, 101, 115, 95, 95, 46, 69, 120, 99, 101, 112, 116, 105, 111, 110, 46, 50]) 3511 (.int 965 0)]) 4), List.toArray []⟩
noncomputable def o_3 (P : Params) : Obj := ⟨(.type "dict"), none, (.dict (List.toArray [ke P (sn [95, 95, 110, 97, 109, 101, 95, 95]) 165 (.str (sn [108, 97, 119, 95, 105, 115, 48, 48, 49, 56, 95, 48, 49]) 3515), ke P (sn [95, 95, 100, 111, 99, 95, 95]) 166 .none, ke P (sn [95, 95, 112, 97, 99, 107, 97, 103, 101, 95, 95]) 167 .none, ke P (sn [95, 95, 108, 111, 97, 100, 101, 114, 95, 95]) 168 (.builtin "__main__.__loader__#\u006fpaque"), ke P (sn [95, 95, 115, 112, 101, 99, 95, 95]) 169 .none, ke P (sn [95, 95, 97, 110, 110, 111, 116, 97, 116, 105, 111, 110, 115, 95, 95]) 170 (.ref 6), ke P (sn [95, 95, 98, 117, 105, 108, 116, 105, 110, 115, 95, 95]) 171 (.ref 4), ke P (sn [95, 95, 102, 105, 108, 101, 95, 95]) 173 (.str (sn [47, 99, 108, 97, 105, 109, 47, 99, 117, 116, 46, 112, 121]) 172), ke P (sn [95, 95, 99, 97, 99, 104, 101, 100, 95, 95]) 174 .none, ke P (sn [95, 119, 97, 108, 108]) 193 (.ref 21), ke P (sn [66, 97, 115, 101, 83, 116, 101, 109, 109, 101, 114]) 437 (.ref 199), ke P (sn [65, 109, 111, 110, 103]) 472 (.ref 220), ke P (sn [83, 112, 97, 110, 105, 115, 104, 83, 116, 101, 109, 109, 101, 114]) 3454 (.ref 927), ke P (sn [108, 97, 98, 48]) 3474 (.ref 939), ke P (sn [108, 97, 98, 49]) 3494 (.ref 952), ke P (sn [108, 97, 98, 50]) 3514 (.ref 965), ke P (sn [95, 108, 97, 119, 95, 115, 105, 103, 110, 115]) 3518 (.str (sn [97, 98, 99, 100, 101, 102, 103, 104, 105, 106, 107, 108, 109, 110, 111, 112, 113, 114, 115, 116, 117, 118, 119, 120, 121, 122, 225, 233, 237, 243, 250, 252, 241, 231, 65, 201, 39, 45]) 3517), ke P (sn [95, 108, 97, 119, 95, 118, 111, 119, 101, 108, 115]) 3524 (.ref 975), ke P (sn [95, 108, 97, 119, 95, 97, 99, 117, 116, 101, 115]) 3530 (.ref 982), ke P (sn [95, 108, 97, 119, 95, 112, 114, 111, 110, 111, 117, 110, 115]) 3544 (.ref 983), ke P (sn [95, 108, 97, 119, 95, 102, 111, 114, 109, 115]) 3556 (.ref 984), ke P (sn [95, 108, 97, 119, 95, 114, 117, 108, 101, 115]) 3627 (.ref 1012), ke P (sn [95, 108, 97, 119, 95, 105, 110, 110, 101, 114]) 3635 (.ref 1013), ke P (sn [95, 108, 97, 119, 95, 121, 115]) 3648 (.ref 1014), ke P (sn [95, 108, 97, 119, 95, 118, 101, 114, 98, 115]) 3745 (.ref 1015), ke P (sn [95, 108, 97, 119, 95, 115, 116, 97, 110, 100, 97, 114, 100]) 3753 (.ref 1022), ke P (sn [95, 108, 97, 119, 95, 115, 104, 97, 112, 101]) 3762 (.ref 1029), ke P (sn [95, 108, 97, 119, 95, 112, 97, 115, 116]) 3771 (.ref 1036), ke P (sn [95, 108, 97, 119, 95, 98, 101, 104, 105, 110, 100]) 3778 (.ref 1043), ke P (sn [95, 108, 97, 119, 95, 101, 110, 100]) 3787 (.ref 1050), ke P (sn [95, 108, 97, 119, 95, 98, 97, 114, 101]) 3793 (.ref 1055), ke P (sn [95, 108, 97, 119, 95, 115, 116, 101, 109]) 3814 (.ref 1062), ke P (sn [95, 108, 97, 119, 95, 119, 111, 114, 100]) 3825 (.ref 1069), ke P (sn [108, 97, 119]) 3834 (.ref 1076)]) 34), List.toArray []⟩
noncomputable def o_20 (_ : Params) : Obj := ⟨(.type "code"), none, (.fields (List.toArray [(.str (sn [95, 119, 97, 108, 108]) 187), (.str (sn [95, 119, 97, 108, 108]) 188), (.str (sn [47, 99, 108, 97, 105, 109, 47, 99, 117, 116, 46, 112, 121]) 189), (.int 1 0), (.int 1 0), (.int 0 0), (.int 0 0), (.int 3 0), (.ref 15), (.bool true), (.int 181 0), (.ref 16), .none, (.ref 17), (.ref 18), (.ref 19), (.int 191 0), (.int 1 0), (.str (sn [47, 99, 108, 97, 105, 109, 47, 99, 117, 116, 46, 112, 121]) 192)])), List.toArray []⟩
noncomputable def o_21 (_ : Params) : Obj := ⟨(.type "function"), none, (.func (fnS (sn [95, 119, 97, 108, 108]) (sn [95, 119, 97, 108, 108]) (fst 0) (.str (sn [95, 95, 109, 97, 105, 110, 95, 95]) 164) (.ref 20))), List.toArray []⟩
noncomputable def o_34 (_ : Params) : Obj := ⟨(.type "code"), none, (.fields (List.toArray [(.str (sn [95, 95, 105, 110, 105, 116, 95, 95]) 208), (.str (sn [66, 97, 115, 101, 83, 116, 101, 109, 109, 101, 114, 46, 95, 95, 105, 110, 105, 116, 95, 95]) 209), (.str (sn [47, 99, 108, 97, 105, 109, 47, 99, 117, 116, 46, 112, 121]) 210), (.int 7 0), (.int 1 0), (.int 0 0), (.int 0 0), (.int 3 0), (.ref 29), (.bool true), (.int 181 0), (.ref 30), .none, (.ref 31), (.ref 32), (.ref 33), (.int 212 0), (.int 7 0), (.str (sn [47, 99, 108, 97, 105, 109, 47, 99, 117, 116, 46, 112, 121]) 213)])), List.toArray []⟩
noncomputable def o_35 (_ : Params) : Obj := ⟨(.type "function"), none, (.func (fnS (sn [95, 95, 105, 110, 105, 116, 95, 95]) (sn [66, 97, 115, 101, 83, 116, 101, 109, 109, 101, 114, 46, 95, 95, 105, 110, 105, 116, 95, 95]) (mst 2 0) (.str (sn [115, 110, 111, 119, 98, 97, 108, 108, 115, 116, 101, 109, 109, 101, 114, 46, 98, 97, 115, 101, 115, 116, 101, 109, 109, 101, 114]) 194) (.ref 34))), List.toArray []⟩
noncomputable def o_41 (_ : Params) : Obj := ⟨(.type "code"), none, (.fields (List.toArray [(.str (sn [115, 101, 116, 95, 99, 117, 114, 114, 101, 110, 116]) 215), (.str (sn [66, 97, 115, 101, 83, 116, 101, 109, 109, 101, 114, 46, 115, 101, 116, 95, 99, 117, 114, 114, 101, 110, 116]) 216), (.str (sn [47, 99, 108, 97, 105, 109, 47, 99, 117, 116, 46, 112, 121]) 217), (.int 10 0), (.int 2 0), (.int 0 0), (.int 0 0), (.int 3 0), (.ref 36), (.bool true), (.int 181 0), (.ref 37), .none, (.ref 38), (.ref 39), (.ref 40), (.int 220 0), (.int 10 0), (.str (sn [47, 99, 108, 97, 105, 109, 47, 99, 117, 116, 46, 112, 121]) 221)])), List.toArray []⟩
noncomputable def o_42 (_ : Params) : Obj := ⟨(.type "function"), none, (.func (fnS (sn [115, 101, 116, 95, 99, 117, 114, 114, 101, 110, 116]) (sn [66, 97, 115, 101, 83, 116, 101, 109, 109, 101, 114, 46, 115, 101, 116, 95, 99, 117, 114, 114, 101, 110, 116]) (mst 2 1) (.str (sn [115, 110, 111, 119, 98, 97, 108, 108, 115, 116, 101, 109, 109, 101, 114, 46, 98, 97, 115, 101, 115, 116, 101, 109, 109, 101, 114]) 194) (.ref 41))), List.toArray []⟩
noncomputable def o_48 (_ : Params) : Obj := ⟨(.type "code"), none, (.fields (List.toArray [(.str (sn [103, 101, 116, 95, 99, 117, 114, 114, 101, 110, 116]) 223), (.str (sn [66, 97, 115, 101, 83, 116, 101, 109, 109, 101, 114, 46, 103, 101, 116, 95, 99, 117, 114, 114, 101, 110, 116]) 224), (.str (sn [47, 99, 108, 97, 105, 109, 47, 99, 117, 116, 46, 112, 121]) 225), (.int 18 0), (.int 1 0), (.int 0 0), (.int 0 0), (.int 3 0), (.ref 43), (.bool true), (.int 181 0), (.ref 44), .none, (.ref 45), (.ref 46), (.ref 47), (.int 227 0), (.int 18 0), (.str (sn [47, 99, 108, 97, 105, 109, 47, 99, 117, 116, 46, 112, 121]) 228)])), List.toArray []⟩
noncomputable def o_49 (_ : Params) : Obj := ⟨(.type "function"), none, (.func (fnS (sn [103, 101, 116, 95, 99, 117, 114, 114, 101, 110, 116]) (sn [66, 97, 115, 101, 83, 116, 101, 109, 109, 101, 114, 46, 103, 101, 116, 95, 99, 117, 114, 114, 101, 110, 116]) (mst 2 2) (.str (sn [115, 110, 111, 119, 98, 97, 108, 108, 115, 116, 101, 109, 109, 101, 114, 46, 98, 97, 115, 101, 115, 116, 101, 109, 109, 101, 114]) 194) (.ref 48))), List.toArray []⟩
noncomputable def o_55 (_ : Params) : Obj := ⟨(.type "code"), none, (.fields (List.toArray [(.str (sn [99, 111, 112, 121, 95, 102, 114, 111, 109]) 230), (.str (sn [66, 97, 115, 101, 83, 116, 101, 109, 109, 101, 114, 46, 99, 111, 112, 121, 95, 102, 114, 111, 109]) 231), (.str (sn [47, 99, 108, 97, 105, 109, 47, 99, 117, 116, 46, 112, 121]) 232), (.int 21 0), (.int 2 0), (.int 0 0), (.int 0 0), (.int 3 0), (.ref 50), (.bool true), (.int 181 0), (.ref 51), .none, (.ref 52), (.ref 53), (.ref 54), (.int 235 0), (.int 21 0), (.str (sn [47, 99, 108, 97, 105, 109, 47, 99, 117, 116, 46, 112, 121]) 236)])), List.toArray []⟩
noncomputable def o_56 (_ : Params) : Obj := ⟨(.type "function"), none, (.func (fnS (sn [99, 111, 112, 121, 95, 102, 114, 111, 109]) (sn [66, 97, 115, 101, 83, 116, 101, 109, 109, 101, 114, 46, 99, 111, 112, 121, 95, 102, 114, 111, 109]) (mst 2 3) (.str (sn [115, 110, 111, 119, 98, 97, 108, 108, 115, 116, 101, 109, 109, 101, 114, 46, 98, 97, 115, 101, 115, 116, 101, 109, 109, 101, 114]) 194) (.ref 55))), List.toArray []⟩
noncomputable def o_62 (_ : Params) : Obj := ⟨(.type "code"), none, (.fields (List.toArray [(.str (sn [105, 110, 95, 103, 114, 111, 117, 112, 105, 110, 103]) 238), (.str (sn [66, 97, 115, 101, 83, 116, 101, 109, 109, 101, 114, 46, 105, 110, 95, 103, 114, 111, 117, 112, 105, 110, 103]) 239), (.str (sn [47, 99, 108, 97, 105, 109, 47, 99, 117, 116, 46, 112, 121]) 240), (.int 24 0), (.int 2 0), (.int 0 0), (.int 0 0), (.int 3 0), (.ref 57), (.bool true), (.int 181 0), (.ref 58), .none, (.ref 59), (.ref 60), (.ref 61), (.int 243 0), (.int 24 0), (.str (sn [47, 99, 108, 97, 105, 109, 47, 99, 117, 116, 46, 112, 121]) 244)])), List.toArray []⟩
noncomputable def o_63 (_ : Params) : Obj := ⟨(.type "function"), none, (.func (fnS (sn [105, 110, 95, 103, 114, 111, 117, 112, 105, 110, 103]) (sn [66, 97, 115, 101, 83, 116, 101, 109, 109, 101, 114, 46, 105, 110, 95, 103, 114, 111, 117, 112, 105, 110, 103]) (mst 2 4) (.str (sn [115, 110, 111, 119, 98, 97, 108, 108, 115, 116, 101, 109, 109, 101, 114, 46, 98, 97, 115, 101, 115, 116, 101, 109, 109, 101, 114]) 194) (.ref 62))), List.toArray []⟩
noncomputable def o_69 (_ : Params) : Obj := ⟨(.type "code"), none, (.fields (List.toArray [(.str (sn [103, 111, 95, 105, 110, 95, 103, 114, 111, 117, 112, 105, 110, 103]) 246), (.str (sn [66, 97, 115, 101, 83, 116, 101, 109, 109, 101, 114, 46, 103, 111, 95, 105, 110, 95, 103, 114, 111, 117, 112, 105, 110, 103]) 247), (.str (sn [47, 99, 108, 97, 105, 109, 47, 99, 117, 116, 46, 112, 121]) 248), (.int 32 0), (.int 2 0), (.int 0 0), (.int 0 0), (.int 3 0), (.ref 64), (.bool true), (.int 181 0), (.ref 65), .none, (.ref 66), (.ref 67), (.ref 68), (.int 251 0), (.int 32 0), (.str (sn [47, 99, 108, 97, 105, 109, 47, 99, 117, 116, 46, 112, 121]) 252)])), List.toArray []⟩
noncomputable def o_70 (_ : Params) : Obj := ⟨(.type "function"), none, (.func (fnS (sn [103, 111, 95, 105, 110, 95, 103, 114, 111, 117, 112, 105, 110, 103]) (sn [66, 97, 115, 101, 83, 116, 101, 109, 109, 101, 114, 46, 103, 111, 95, 105, 110, 95, 103, 114, 111, 117, 112, 105, 110, 103]) (mst 2 5) (.str (sn [115, 110, 111, 119, 98, 97, 108, 108, 115, 116, 101, 109, 109, 101, 114, 46, 98, 97, 115, 101, 115, 116, 101, 109, 109, 101, 114]) 194) (.ref 69))), List.toArray []⟩
noncomputable def o_76 (_ : Params) : Obj := ⟨(.type "code"), none, (.fields (List.toArray [(.str (sn [105, 110, 95, 103, 114, 111, 117, 112, 105, 110, 103, 95, 98]) 254), (.str (sn [66, 97, 115, 101, 83, 116, 101, 109, 109, 101, 114, 46, 105, 110, 95, 103, 114, 111, 117, 112, 105, 110, 103, 95, 98]) 255), (.str (sn [47, 99, 108, 97, 105, 109, 47, 99, 117, 116, 46, 112, 121]) 256), (.int 39 0), (.int 2 0), (.int 0 0), (.int 0 0), (.int 3 0), (.ref 71), (.bool true), (.int 181 0), (.ref 72), .none, (.ref 73), (.ref 74), (.ref 75), (.int 259 0), (.int 39 0), (.str (sn [47, 99, 108, 97, 105, 109, 47, 99, 117, 116, 46, 112, 121]) 260)])), List.toArray []⟩
noncomputable def o_77 (_ : Params) : Obj := ⟨(.type "function"), none, (.func (fnS (sn [105, 110, 95, 103, 114, 111, 117, 112, 105, 110, 103, 95, 98]) (sn [66, 97, 115, 101, 83, 116, 101, 109, 109, 101, 114, 46, 105, 110, 95, 103, 114, 111, 117, 112, 105, 110, 103, 95, 98]) (mst 2 6) (.str (sn [115, 110, 111, 119, 98, 97, 108, 108, 115, 116, 101, 109, 109, 101, 114, 46, 98, 97, 115, 101, 115, 116, 101, 109, 109, 101, 114]) 194) (.ref 76))), List.toArray []⟩
noncomputable def o_83 (_ : Params) : Obj := ⟨(.type "code"), none, (.fields (List.toArray [(.str (sn [103, 111, 95, 105, 110, 95, 103, 114, 111, 117, 112, 105, 110, 103, 95, 98]) 262), (.str (sn [66, 97, 115, 101, 83, 116, 101, 109, 109, 101, 114, 46, 103, 111, 95, 105, 110, 95, 103, 114, 111, 117, 112, 105, 110, 103, 95, 98]) 263), (.str (sn [47, 99, 108, 97, 105, 109, 47, 99, 117, 116, 46, 112, 121]) 264), (.int 42 0), (.int 2 0), (.int 0 0), (.int 0 0), (.int 3 0), (.ref 78), (.bool true), (.int 181 0), (.ref 79), .none, (.ref 80), (.ref 81), (.ref 82), (.int 267 0), (.int 42 0), (.str (sn [47, 99, 108, 97, 105, 109, 47, 99, 117, 116, 46, 112, 121]) 268)])), List.toArray []⟩
noncomputable def o_84 (_ : Params) : Obj := ⟨(.type "function"), none, (.func (fnS (sn [103, 111, 95, 105, 110, 95, 103, 114, 111, 117, 112, 105, 110, 103, 95, 98]) (sn [66, 97, 115, 101, 83, 116, 101, 109, 109, 101, 114, 46, 103, 111, 95, 105, 110, 95, 103, 114, 111, 117, 112, 105, 110, 103, 95, 98]) (mst 2 7) (.str (sn [115, 110, 111, 119, 98, 97, 108, 108, 115, 116, 101, 109, 109, 101, 114, 46, 98, 97, 115, 101, 115, 116, 101, 109, 109, 101, 114]) 194) (.ref 83))), List.toArray []⟩
noncomputable def o_90 (_ : Params) : Obj := ⟨(.type "code"), none, (.fields (List.toArray [(.str (sn [111, 117, 116, 95, 103, 114, 111, 117, 112, 105, 110, 103]) 270), (.str (sn [66, 97, 115, 101, 83, 116, 101, 109, 109, 101, 114, 46, 111, 117, 116, 95, 103, 114, 111, 117, 112, 105, 110, 103]) 271), (.str (sn [47, 99, 108, 97, 105, 109, 47, 99, 117, 116, 46, 112, 121]) 272), (.int 45 0), (.int 2 0), (.int 0 0), (.int 0 0), (.int 3 0), (.ref 85), (.bool true), (.int 181 0), (.ref 86), .none, (.ref 87), (.ref 88), (.ref 89), (.int 275 0), (.int 45 0), (.str (sn [47, 99, 108, 97, 105, 109, 47, 99, 117, 116, 46, 112, 121]) 276)])), List.toArray []⟩
noncomputable def o_91 (_ : Params) : Obj := ⟨(.type "function"), none, (.func (fnS (sn [111, 117, 116, 95, 103, 114, 111, 117, 112, 105, 110, 103]) (sn [66, 97, 115, 101, 83, 116, 101, 109, 109, 101, 114, 46, 111, 117, 116, 95, 103, 114, 111, 117, 112, 105, 110, 103]) (mst 2 8) (.str (sn [115, 110, 111, 119, 98, 97, 108, 108, 115, 116, 101, 109, 109, 101, 114, 46, 98, 97, 115, 101, 115, 116, 101, 109, 109, 101, 114]) 194) (.ref 90))), List.toArray []⟩
noncomputable def o_97 (_ : Params) : Obj := ⟨(.type "code"), none, (.fields (List.toArray [(.str (sn [103, 111, 95, 111, 117, 116, 95, 103, 114, 111, 117, 112, 105, 110, 103]) 278), (.str (sn [66, 97, 115, 101, 83, 116, 101, 109, 109, 101, 114, 46, 103, 111, 95, 111, 117, 116, 95, 103, 114, 111, 117, 112, 105, 110, 103]) 279), (.str (sn [47, 99, 108, 97, 105, 109, 47, 99, 117, 116, 46, 112, 121]) 280), (.int 53 0), (.int 2 0), (.int 0 0), (.int 0 0), (.int 3 0), (.ref 92), (.bool true), (.int 181 0), (.ref 93), .none, (.ref 94), (.ref 95), (.ref 96), (.int 283 0), (.int 53 0), (.str (sn [47, 99, 108, 97, 105, 109, 47, 99, 117, 116, 46, 112, 121]) 284)])), List.toArray []⟩
noncomputable def o_98 (_ : Params) : Obj := ⟨(.type "function"), none, (.func (fnS (sn [103, 111, 95, 111, 117, 116, 95, 103, 114, 111, 117, 112, 105, 110, 103]) (sn [66, 97, 115, 101, 83, 116, 101, 109, 109, 101, 114, 46, 103, 111, 95, 111, 117, 116, 95, 103, 114, 111, 117, 112, 105, 110, 103]) (mst 2 9) (.str (sn [115, 110, 111, 119, 98, 97, 108, 108, 115, 116, 101, 109, 109, 101, 114, 46, 98, 97, 115, 101, 115, 116, 101, 109, 109, 101, 114]) 194) (.ref 97))), List.toArray []⟩
noncomputable def o_104 (_ : Params) : Obj := ⟨(.type "code"), none, (.fields (List.toArray [(.str (sn [111, 117, 116, 95, 103, 114, 111, 117, 112, 105, 110, 103, 95, 98]) 286), (.str (sn [66, 97, 115, 101, 83, 116, 101, 109, 109, 101, 114, 46, 111, 117, 116, 95, 103, 114, 111, 117, 112, 105, 110, 103, 95, 98]) 287), (.str (sn [47, 99, 108, 97, 105, 109, 47, 99, 117, 116, 46, 112, 121]) 288), (.int 60 0), (.int 2 0), (.int 0 0), (.int 0 0), (.int 3 0), (.ref 99), (.bool true), (.int 181 0), (.ref 100), .none, (.ref 101), (.ref 102), (.ref 103), (.int 291 0), (.int 60 0), (.str (sn [47, 99, 108, 97, 105, 109, 47, 99, 117, 116, 46, 112, 121]) 292)])), List.toArray []⟩
noncomputable def o_105 (_ : Params) : Obj := ⟨(.type "function"), none, (.func (fnS (sn [111, 117, 116, 95, 103, 114, 111, 117, 112, 105, 110, 103, 95, 98]) (sn [66, 97, 115, 101, 83, 116, 101, 109, 109, 101, 114, 46, 111, 117, 116, 95, 103, 114, 111, 117, 112, 105, 110, 103, 95, 98]) (mst 2 10) (.str (sn [115, 110, 111, 119, 98, 97, 108, 108, 115, 116, 101, 109, 109, 101, 114, 46, 98, 97, 115, 101, 115, 116, 101, 109, 109, 101, 114]) 194) (.ref 104))), List.toArray []⟩
noncomputable def o_111 (_ : Params) : Obj := ⟨(.type "code"), none, (.fields (List.toArray [(.str (sn [103, 111, 95, 111, 117, 116, 95, 103, 114, 111, 117, 112, 105, 110, 103, 95, 98]) 294), (.str (sn [66, 97, 115, 101, 83, 116, 101, 109, 109, 101, 114, 46, 103, 111, 95, 111, 117, 116, 95, 103, 114, 111, 117, 112, 105, 110, 103, 95, 98]) 295), (.str (sn [47, 99, 108, 97, 105, 109, 47, 99, 117, 116, 46, 112, 121]) 296), (.int 63 0), (.int 2 0), (.int 0 0), (.int 0 0), (.int 3 0), (.ref 106), (.bool true), (.int 181 0), (.ref 107), .none, (.ref 108), (.ref 109), (.ref 110), (.int 299 0), (.int 63 0), (.str (sn [47, 99, 108, 97, 105, 109, 47, 99, 117, 116, 46, 112, 121]) 300)])), List.toArray []⟩
noncomputable def o_112 (_ : Params) : Obj := ⟨(.type "function"), none, (.func (fnS (sn [103, 111, 95, 111, 117, 116, 95, 103, 114, 111, 117, 112, 105, 110, 103, 95, 98]) (sn [66, 97, 115, 101, 83, 116, 101, 109, 109, 101, 114, 46, 103, 111, 95, 111, 117, 116, 95, 103, 114, 111, 117, 112, 105, 110, 103, 95, 98]) (mst 2 11) (.str (sn [115, 110, 111, 119, 98, 97, 108, 108, 115, 116, 101, 109, 109, 101, 114, 46, 98, 97, 115, 101, 115, 116, 101, 109, 109, 101, 114]) 194) (.ref 111))), List.toArray []⟩
noncomputable def o_118 (_ : Params) : Obj := ⟨(.type "code"), none, (.fields (List.toArray [(.str (sn [101, 113, 95, 115]) 302), (.str (sn [66, 97, 115, 101, 83, 116, 101, 109, 109, 101, 114, 46, 101, 113, 95, 115]) 303), (.str (sn [47, 99, 108, 97, 105, 109, 47, 99, 117, 116, 46, 112, 121]) 304), (.int 66 0), (.int 2 0), (.int 0 0), (.int 0 0), (.int 3 0), (.ref 113), (.bool true), (.int 181 0), (.ref 114), .none, (.ref 115), (.ref 116), (.ref 117), (.int 307 0), (.int 66 0), (.str (sn [47, 99, 108, 97, 105, 109, 47, 99, 117, 116, 46, 112, 121]) 308)])), List.toArray []⟩
noncomputable def o_119 (_ : Params) : Obj := ⟨(.type "function"), none, (.func (fnS (sn [101, 113, 95, 115]) (sn [66, 97, 115, 101, 83, 116, 101, 109, 109, 101, 114, 46, 101, 113, 95, 115]) (mst 2 12) (.str (sn [115, 110, 111, 119, 98, 97, 108, 108, 115, 116, 101, 109, 109, 101, 114, 46, 98, 97, 115, 101, 115, 116, 101, 109, 109, 101, 114]) 194) (.ref 118))), List.toArray []⟩
noncomputable def o_125 (_ : Params) : Obj := ⟨(.type "code"), none, (.fields (List.toArray [(.str (sn [101, 113, 95, 115, 95, 98]) 310), (.str (sn [66, 97, 115, 101, 83, 116, 101, 109, 109, 101, 114, 46, 101, 113, 95, 115, 95, 98]) 311), (.str (sn [47, 99, 108, 97, 105, 109, 47, 99, 117, 116, 46, 112, 121]) 312), (.int 69 0), (.int 2 0), (.int 0 0), (.int 0 0), (.int 3 0), (.ref 120), (.bool true), (.int 181 0), (.ref 121), .none, (.ref 122), (.ref 123), (.ref 124), (.int 315 0), (.int 69 0), (.str (sn [47, 99, 108, 97, 105, 109, 47, 99, 117, 116, 46, 112, 121]) 316)])), List.toArray []⟩
noncomputable def o_126 (_ : Params) : Obj := ⟨(.type "function"), none, (.func (fnS (sn [101, 113, 95, 115, 95, 98]) (sn [66, 97, 115, 101, 83, 116, 101, 109, 109, 101, 114, 46, 101, 113, 95, 115, 95, 98]) (mst 2 13) (.str (sn [115, 110, 111, 119, 98, 97, 108, 108, 115, 116, 101, 109, 109, 101, 114, 46, 98, 97, 115, 101, 115, 116, 101, 109, 109, 101, 114]) 194) (.ref 125))), List.toArray []⟩
noncomputable def o_132 (_ : Params) : Obj := ⟨(.type "code"), none, (.fields (List.toArray [(.str (sn [102, 105, 110, 100, 95, 97, 109, 111, 110, 103]) 318), (.str (sn [66, 97, 115, 101, 83, 116, 101, 109, 109, 101, 114, 46, 102, 105, 110, 100, 95, 97, 109, 111, 110, 103]) 319), (.str (sn [47, 99, 108, 97, 105, 109, 47, 99, 117, 116, 46, 112, 121]) 320), (.int 75 0), (.int 2 0), (.int 0 0), (.int 0 0), (.int 3 0), (.ref 127), (.bool true), (.int 181 0), (.ref 128), .none, (.ref 129), (.ref 130), (.ref 131), (.int 335 0), (.int 75 0), (.str (sn [47, 99, 108, 97, 105, 109, 47, 99, 117, 116, 46, 112, 121]) 336)])), List.toArray []⟩
noncomputable def o_133 (_ : Params) : Obj := ⟨(.type "function"), none, (.func (fnS (sn [102, 105, 110, 100, 95, 97, 109, 111, 110, 103]) (sn [66, 97, 115, 101, 83, 116, 101, 109, 109, 101, 114, 46, 102, 105, 110, 100, 95, 97, 109, 111, 110, 103]) (mst 2 14) (.str (sn [115, 110, 111, 119, 98, 97, 108, 108, 115, 116, 101, 109, 109, 101, 114, 46, 98, 97, 115, 101, 115, 116, 101, 109, 109, 101, 114]) 194) (.ref 132))), List.toArray []⟩
noncomputable def o_139 (_ : Params) : Obj := ⟨(.type "code"), none, (.fields (List.toArray [(.str (sn [102, 105, 110, 100, 95, 97, 109, 111, 110, 103, 95, 98]) 338), (.str (sn [66, 97, 115, 101, 83, 116, 101, 109, 109, 101, 114, 46, 102, 105, 110, 100, 95, 97, 109, 111, 110, 103, 95, 98]) 339), (.str (sn [47, 99, 108, 97, 105, 109, 47, 99, 117, 116, 46, 112, 121]) 340), (.int 120 0), (.int 2 0), (.int 0 0), (.int 0 0), (.int 3 0), (.ref 134), (.bool true), (.int 181 0), (.ref 135), .none, (.ref 136), (.ref 137), (.ref 138), (.int 355 0), (.int 120 0), (.str (sn [47, 99, 108, 97, 105, 109, 47, 99, 117, 116, 46, 112, 121]) 356)])), List.toArray []⟩
noncomputable def o_140 (_ : Params) : Obj := ⟨(.type "function"), none, (.func (fnS (sn [102, 105, 110, 100, 95, 97, 109, 111, 110, 103, 95, 98]) (sn [66, 97, 115, 101, 83, 116, 101, 109, 109, 101, 114, 46, 102, 105, 110, 100, 95, 97, 109, 111, 110, 103, 95, 98]) (mst 2 15) (.str (sn [115, 110, 111, 119, 98, 97, 108, 108, 115, 116, 101, 109, 109, 101, 114, 46, 98, 97, 115, 101, 115, 116, 101, 109, 109, 101, 114]) 194) (.ref 139))), List.toArray []⟩
noncomputable def o_146 (_ : Params) : Obj := ⟨(.type "code"), none, (.fields (List.toArray [(.str (sn [114, 101, 112, 108, 97, 99, 101, 95, 115]) 358), (.str (sn [66, 97, 115, 101, 83, 116, 101, 109, 109, 101, 114, 46, 114, 101, 112, 108, 97, 99, 101, 95, 115]) 359), (.str (sn [47, 99, 108, 97, 105, 109, 47, 99, 117, 116, 46, 112, 121]) 360), (.int 165 0), (.int 4 0), (.int 0 0), (.int 0 0), (.int 3 0), (.ref 141), (.bool true), (.int 181 0), (.ref 142), .none, (.ref 143), (.ref 144), (.ref 145), (.int 366 0), (.int 165 0), (.str (sn [47, 99, 108, 97, 105, 109, 47, 99, 117, 116, 46, 112, 121]) 367)])), List.toArray []⟩
noncomputable def o_147 (_ : Params) : Obj := ⟨(.type "function"), none, (.func (fnS (sn [114, 101, 112, 108, 97, 99, 101, 95, 115]) (sn [66, 97, 115, 101, 83, 116, 101, 109, 109, 101, 114, 46, 114, 101, 112, 108, 97, 99, 101, 95, 115]) (mst 2 16) (.str (sn [115, 110, 111, 119, 98, 97, 108, 108, 115, 116, 101, 109, 109, 101, 114, 46, 98, 97, 115, 101, 115, 116, 101, 109, 109, 101, 114]) 194) (.ref 146))), List.toArray []⟩
noncomputable def o_153 (_ : Params) : Obj := ⟨(.type "code"), none, (.fields (List.toArray [(.str (sn [115, 108, 105, 99, 101, 95, 102, 114, 111, 109]) 369), (.str (sn [66, 97, 115, 101, 83, 116, 101, 109, 109, 101, 114, 46, 115, 108, 105, 99, 101, 95, 102, 114, 111, 109]) 370), (.str (sn [47, 99, 108, 97, 105, 109, 47, 99, 117, 116, 46, 112, 121]) 371), (.int 175 0), (.int 2 0), (.int 0 0), (.int 0 0), (.int 3 0), (.ref 148), (.bool true), (.int 181 0), (.ref 149), .none, (.ref 150), (.ref 151), (.ref 152), (.int 374 0), (.int 175 0), (.str (sn [47, 99, 108, 97, 105, 109, 47, 99, 117, 116, 46, 112, 121]) 375)])), List.toArray []⟩
noncomputable def o_154 (_ : Params) : Obj := ⟨(.type "function"), none, (.func (fnS (sn [115, 108, 105, 99, 101, 95, 102, 114, 111, 109]) (sn [66, 97, 115, 101, 83, 116, 101, 109, 109, 101, 114, 46, 115, 108, 105, 99, 101, 95, 102, 114, 111, 109]) (mst 2 17) (.str (sn [115, 110, 111, 119, 98, 97, 108, 108, 115, 116, 101, 109, 109, 101, 114, 46, 98, 97, 115, 101, 115, 116, 101, 109, 109, 101, 114]) 194) (.ref 153))), List.toArray []⟩
noncomputable def o_160 (_ : Params) : Obj := ⟨(.type "code"), none, (.fields (List.toArray [(.str (sn [115, 108, 105, 99, 101, 95, 100, 101, 108]) 377), (.str (sn [66, 97, 115, 101, 83, 116, 101, 109, 109, 101, 114, 46, 115, 108, 105, 99, 101, 95, 100, 101, 108]) 378), (.str (sn [47, 99, 108, 97, 105, 109, 47, 99, 117, 116, 46, 112, 121]) 379), (.int 183 0), (.int 1 0), (.int 0 0), (.int 0 0), (.int 3 0), (.ref 155), (.bool true), (.int 181 0), (.ref 156), .none, (.ref 157), (.ref 158), (.ref 159), (.int 381 0), (.int 183 0), (.str (sn [47, 99, 108, 97, 105, 109, 47, 99, 117, 116, 46, 112, 121]) 382)])), List.toArray []⟩
noncomputable def o_161 (_ : Params) : Obj := ⟨(.type "function"), none, (.func (fnS (sn [115, 108, 105, 99, 101, 95, 100, 101, 108]) (sn [66, 97, 115, 101, 83, 116, 101, 109, 109, 101, 114, 46, 115, 108, 105, 99, 101, 95, 100, 101, 108]) (mst 2 18) (.str (sn [115, 110, 111, 119, 98, 97, 108, 108, 115, 116, 101, 109, 109, 101, 114, 46, 98, 97, 115, 101, 115, 116, 101, 109, 109, 101, 114]) 194) (.ref 160))), List.toArray []⟩
noncomputable def o_167 (_ : Params) : Obj := ⟨(.type "code"), none, (.fields (List.toArray [(.str (sn [105, 110, 115, 101, 114, 116]) 384), (.str (sn [66, 97, 115, 101, 83, 116, 101, 109, 109, 101, 114, 46, 105, 110, 115, 101, 114, 116]) 385), (.str (sn [47, 99, 108, 97, 105, 109, 47, 99, 117, 116, 46, 112, 121]) 386), (.int 186 0), (.int 4 0), (.int 0 0), (.int 0 0), (.int 3 0), (.ref 162), (.bool true), (.int 181 0), (.ref 163), .none, (.ref 164), (.ref 165), (.ref 166), (.int 391 0), (.int 186 0), (.str (sn [47, 99, 108, 97, 105, 109, 47, 99, 117, 116, 46, 112, 121]) 392)])), List.toArray []⟩
noncomputable def o_168 (_ : Params) : Obj := ⟨(.type "function"), none, (.func (fnS (sn [105, 110, 115, 101, 114, 116]) (sn [66, 97, 115, 101, 83, 116, 101, 109, 109, 101, 114, 46, 105, 110, 115, 101, 114, 116]) (mst 2 19) (.str (sn [115, 110, 111, 119, 98, 97, 108, 108, 115, 116, 101, 109, 109, 101, 114, 46, 98, 97, 115, 101, 115, 116, 101, 109, 109, 101, 114]) 194) (.ref 167))), List.toArray []⟩
noncomputable def o_174 (_ : Params) : Obj := ⟨(.type "code"), none, (.fields (List.toArray [(.str (sn [115, 108, 105, 99, 101, 95, 116, 111]) 394), (.str (sn [66, 97, 115, 101, 83, 116, 101, 109, 109, 101, 114, 46, 115, 108, 105, 99, 101, 95, 116, 111]) 395), (.str (sn [47, 99, 108, 97, 105, 109, 47, 99, 117, 116, 46, 112, 121]) 396), (.int 189 0), (.int 1 0), (.int 0 0), (.int 0 0), (.int 3 0), (.ref 169), (.bool true), (.int 181 0), (.ref 170), .none, (.ref 171), (.ref 172), (.ref 173), (.int 398 0), (.int 189 0), (.str (sn [47, 99, 108, 97, 105, 109, 47, 99, 117, 116, 46, 112, 121]) 399)])), List.toArray []⟩
noncomputable def o_175 (_ : Params) : Obj := ⟨(.type "function"), none, (.func (fnS (sn [115, 108, 105, 99, 101, 95, 116, 111]) (sn [66, 97, 115, 101, 83, 116, 101, 109, 109, 101, 114, 46, 115, 108, 105, 99, 101, 95, 116, 111]) (mst 2 20) (.str (sn [115, 110, 111, 119, 98, 97, 108, 108, 115, 116, 101, 109, 109, 101, 114, 46, 98, 97, 115, 101, 115, 116, 101, 109, 109, 101, 114]) 194) (.ref 174))), List.toArray []⟩
noncomputable def o_181 (_ : Params) : Obj := ⟨(.type "code"), none, (.fields (List.toArray [(.str (sn [97, 115, 115, 105, 103, 110, 95, 116, 111]) 401), (.str (sn [66, 97, 115, 101, 83, 116, 101, 109, 109, 101, 114, 46, 97, 115, 115, 105, 103, 110, 95, 116, 111]) 402), (.str (sn [47, 99, 108, 97, 105, 109, 47, 99, 117, 116, 46, 112, 121]) 403), (.int 192 0), (.int 1 0), (.int 0 0), (.int 0 0), (.int 3 0), (.ref 176), (.bool true), (.int 181 0), (.ref 177), .none, (.ref 178), (.ref 179), (.ref 180), (.int 405 0), (.int 192 0), (.str (sn [47, 99, 108, 97, 105, 109, 47, 99, 117, 116, 46, 112, 121]) 406)])), List.toArray []⟩
noncomputable def o_182 (_ : Params) : Obj := ⟨(.type "function"), none, (.func (fnS (sn [97, 115, 115, 105, 103, 110, 95, 116, 111]) (sn [66, 97, 115, 101, 83, 116, 101, 109, 109, 101, 114, 46, 97, 115, 115, 105, 103, 110, 95, 116, 111]) (mst 2 21) (.str (sn [115, 110, 111, 119, 98, 97, 108, 108, 115, 116, 101, 109, 109, 101, 114, 46, 98, 97, 115, 101, 115, 116, 101, 109, 109, 101, 114]) 194) (.ref 181))), List.toArray []⟩
noncomputable def o_188 (_ : Params) : Obj := ⟨(.type "code"), none, (.fields (List.toArray [(.str (sn [115, 116, 101, 109, 87, 111, 114, 100]) 408), (.str (sn [66, 97, 115, 101, 83, 116, 101, 109, 109, 101, 114, 46, 115, 116, 101, 109, 87, 111, 114, 100]) 409), (.str (sn [47, 99, 108, 97, 105, 109, 47, 99, 117, 116, 46, 112, 121]) 410), (.int 195 0), (.int 2 0), (.int 0 0), (.int 0 0), (.int 3 0), (.ref 183), (.bool true), (.int 181 0), (.ref 184), .none, (.ref 185), (.ref 186), (.ref 187), (.int 413 0), (.int 195 0), (.str (sn [47, 99, 108, 97, 105, 109, 47, 99, 117, 116, 46, 112, 121]) 414)])), List.toArray []⟩
noncomputable def o_189 (_ : Params) : Obj := ⟨(.type "function"), none, (.func (fnS (sn [115, 116, 101, 109, 87, 111, 114, 100]) (sn [66, 97, 115, 101, 83, 116, 101, 109, 109, 101, 114, 46, 115, 116, 101, 109, 87, 111, 114, 100]) (mst 2 22) (.str (sn [115, 110, 111, 119, 98, 97, 108, 108, 115, 116, 101, 109, 109, 101, 114, 46, 98, 97, 115, 101, 115, 116, 101, 109, 109, 101, 114]) 194) (.ref 188))), List.toArray []⟩
noncomputable def o_195 (_ : Params) : Obj := ⟨(.type "code"), none, (.fields (List.toArray [(.str (sn [115, 116, 101, 109, 87, 111, 114, 100, 115]) 416), (.str (sn [66, 97, 115, 101, 83, 116, 101, 109, 109, 101, 114, 46, 115, 116, 101, 109, 87, 111, 114, 100, 115]) 417), (.str (sn [47, 99, 108, 97, 105, 109, 47, 99, 117, 116, 46, 112, 121]) 418), (.int 200 0), (.int 2 0), (.int 0 0), (.int 0 0), (.int 3 0), (.ref 190), (.bool true), (.int 181 0), (.ref 191), .none, (.ref 192), (.ref 193), (.ref 194), (.int 421 0), (.int 200 0), (.str (sn [47, 99, 108, 97, 105, 109, 47, 99, 117, 116, 46, 112, 121]) 422)])), List.toArray []⟩
noncomputable def o_196 (_ : Params) : Obj := ⟨(.type "function"), none, (.func (fnS (sn [115, 116, 101, 109, 87, 111, 114, 100, 115]) (sn [66, 97, 115, 101, 83, 116, 101, 109, 109, 101, 114, 46, 115, 116, 101, 109, 87, 111, 114, 100, 115]) (mst 2 23) (.str (sn [115, 110, 111, 119, 98, 97, 108, 108, 115, 116, 101, 109, 109, 101, 114, 46, 98, 97, 115, 101, 115, 116, 101, 109, 109, 101, 114]) 194) (.ref 195))), List.toArray []⟩
noncomputable def o_198 (P : Params) : Obj := ⟨(.type "dict"), none, (.dict (List.toArray [ke P (sn [95, 95, 109, 111, 100, 117, 108, 101, 95, 95]) 203 (.str (sn [115, 110, 111, 119, 98, 97, 108, 108, 115, 116, 101, 109, 109, 101, 114, 46, 98, 97, 115, 101, 115, 116, 101, 109, 109, 101, 114]) 194), ke P (sn [95, 95, 102, 105, 114, 115, 116, 108, 105, 110, 101, 110, 111, 95, 95]) 207 (.int 5 206), ke P (sn [95, 95, 105, 110, 105, 116, 95, 95]) 214 (.ref 35), ke P (sn [115, 101, 116, 95, 99, 117, 114, 114, 101, 110, 116]) 222 (.ref 42), ke P (sn [103, 101, 116, 95, 99, 117, 114, 114, 101, 110, 116]) 229 (.ref 49), ke P (sn [99, 111, 112, 121, 95, 102, 114, 111, 109]) 237 (.ref 56), ke P (sn [105, 110, 95, 103, 114, 111, 117, 112, 105, 110, 103]) 245 (.ref 63), ke P (sn [103, 111, 95, 105, 110, 95, 103, 114, 111, 117, 112, 105, 110, 103]) 253 (.ref 70), ke P (sn [105, 110, 95, 103, 114, 111, 117, 112, 105, 110, 103, 95, 98]) 261 (.ref 77), ke P (sn [103, 111, 95, 105, 110, 95, 103, 114, 111, 117, 112, 105, 110, 103, 95, 98]) 269 (.ref 84), ke P (sn [111, 117, 116, 95, 103, 114, 111, 117, 112, 105, 110, 103]) 277 (.ref 91), ke P (sn [103, 111, 95, 111, 117, 116, 95, 103, 114, 111, 117, 112, 105, 110, 103]) 285 (.ref 98), ke P (sn [111, 117, 116, 95, 103, 114, 111, 117, 112, 105, 110, 103, 95, 98]) 293 (.ref 105), ke P (sn [103, 111, 95, 111, 117, 116, 95, 103, 114, 111, 117, 112, 105, 110, 103, 95, 98]) 301 (.ref 112), ke P (sn [101, 113, 95, 115]) 309 (.ref 119), ke P (sn [101, 113, 95, 115, 95, 98]) 317 (.ref 126), ke P (sn [102, 105, 110, 100, 95, 97, 109, 111, 110, 103]) 337 (.ref 133), ke P (sn [102, 105, 110, 100, 95, 97, 109, 111, 110, 103, 95, 98]) 357 (.ref 140), ke P (sn [114, 101, 112, 108, 97, 99, 101, 95, 115]) 368 (.ref 147), ke P (sn [115, 108, 105, 99, 101, 95, 102, 114, 111, 109]) 376 (.ref 154), ke P (sn [115, 108, 105, 99, 101, 95, 100, 101, 108]) 383 (.ref 161), ke P (sn [105, 110, 115, 101, 114, 116]) 393 (.ref 168), ke P (sn [115, 108, 105, 99, 101, 95, 116, 111]) 400 (.ref 175), ke P (sn [97, 115, 115, 105, 103, 110, 95, 116, 111]) 407 (.ref 182), ke P (sn [115, 116, 101, 109, 87, 111, 114, 100]) 415 (.ref 189), ke P (sn [115, 116, 101, 109, 87, 111, 114, 100, 115]) 423 (.ref 196), ke P (sn [95, 95, 115, 116, 97, 116, 105, 99, 95, 97, 116, 116, 114, 105, 98, 117, 116, 101, 115, 95, 95]) 430 (.ref 197), ke P (sn [95, 95, 100, 105, 99, 116, 95, 95]) 432 (.ref 200), ke P (sn [95, 95, 119, 101, 97, 107, 114, 101, 102, 95, 95]) 434 (.ref 201), ke P (sn [95, 95, 100, 111, 99, 95, 95]) 435 .none]) 4), List.toArray []⟩
noncomputable def o_199 (_ : Params) : Obj := ⟨(.type "type"), none, (.cls { name := (sn [66, 97, 115, 101, 83, 116, 101, 109, 109, 101, 114]), bases := [(.type "object")], mro := [(.ref 199), (.type "object")], ns := 198, qualname := (sn [66, 97, 115, 101, 83, 116, 101, 109, 109, 101, 114]), hasDict := true, slotNames := [], subclasses := [(.ref 927)], abstract := false, collection := none, hasDel := false }), List.toArray [none, none, (some (.str (sn [66, 97, 115, 101, 83, 116, 101, 109, 109, 101, 114]) 196)), (some (.str (sn [66, 97, 115, 101, 83, 116, 101, 109, 109, 101, 114]) 204)), (some (.builtin "object.__new__")), (some (.bool true))]⟩
noncomputable def o_200 (_ : Params) : Obj := ⟨(.type "getset_descriptor"), none, (.fields (List.toArray [(.str (sn [95, 95, 100, 105, 99, 116, 95, 95]) 431), (.ref 199), (.builtin "function.__dict__"), (.builtin "function.__dict__#set")])), List.toArray []⟩
noncomputable def o_201 (_ : Params) : Obj := ⟨(.type "getset_descriptor"), none, (.fields (List.toArray [(.str (sn [95, 95, 119, 101, 97, 107, 114, 101, 102, 95, 95]) 433), (.ref 199), (.builtin "ExceptionGroup.__weakref__"), .none])), List.toArray []⟩
noncomputable def o_216 (_ : Params) : Obj := ⟨(.type "code"), none, (.fields (List.toArray [(.str (sn [95, 95, 105, 110, 105, 116, 95, 95]) 452), (.str (sn [65, 109, 111, 110, 103, 46, 95, 95, 105, 110, 105, 116, 95, 95]) 453), (.str (sn [47, 99, 108, 97, 105, 109, 47, 99, 117, 116, 46, 112, 121]) 454), (.int 205 0), (.int 4 0), (.int 0 0), (.int 0 0), (.int 3 0), (.ref 211), (.bool true), (.int 181 0), (.ref 212), .none, (.ref 213), (.ref 214), (.ref 215), (.int 459 0), (.int 205 0), (.str (sn [47, 99, 108, 97, 105, 109, 47, 99, 117, 116, 46, 112, 121]) 460)])), List.toArray []⟩
noncomputable def o_217 (_ : Params) : Obj := ⟨(.type "function"), none, (.func (fnS (sn [95, 95, 105, 110, 105, 116, 95, 95]) (sn [65, 109, 111, 110, 103, 46, 95, 95, 105, 110, 105, 116, 95, 95]) (mst 4 0) (.str (sn [115, 110, 111, 119, 98, 97, 108, 108, 115, 116, 101, 109, 109, 101, 114, 46, 97, 109, 111, 110, 103]) 438) (.ref 216))), List.toArray []⟩
noncomputable def o_219 (P : Params) : Obj := ⟨(.type "dict"), none, (.dict (List.toArray [ke P (sn [95, 95, 109, 111, 100, 117, 108, 101, 95, 95]) 447 (.str (sn [115, 110, 111, 119, 98, 97, 108, 108, 115, 116, 101, 109, 109, 101, 114, 46, 97, 109, 111, 110, 103]) 438), ke P (sn [95, 95, 102, 105, 114, 115, 116, 108, 105, 110, 101, 110, 111, 95, 95]) 451 (.int 203 450), ke P (sn [95, 95, 105, 110, 105, 116, 95, 95]) 461 (.ref 217), ke P (sn [95, 95, 115, 116, 97, 116, 105, 99, 95, 97, 116, 116, 114, 105, 98, 117, 116, 101, 115, 95, 95]) 465 (.ref 218), ke P (sn [95, 95, 100, 105, 99, 116, 95, 95]) 467 (.ref 221), ke P (sn [95, 95, 119, 101, 97, 107, 114, 101, 102, 95, 95]) 469 (.ref 222), ke P (sn [95, 95, 100, 111, 99, 95, 95]) 470 .none]) 4), List.toArray []⟩
noncomputable def o_220 (_ : Params) : Obj := ⟨(.type "type"), none, (.cls { name := (sn [65, 109, 111, 110, 103]), bases := [(.type "object")], mro := [(.ref 220), (.type "object")], ns := 219, qualname := (sn [65, 109, 111, 110, 103]), hasDict := true, slotNames := [], subclasses := [], abstract := false, collection := none, hasDel := false }), List.toArray [none, none, (some (.str (sn [65, 109, 111, 110, 103]) 440)), (some (.str (sn [65, 109, 111, 110, 103]) 448)), (some (.builtin "object.__new__")), (some (.bool true))]⟩
noncomputable def o_221 (_ : Params) : Obj := ⟨(.type "getset_descriptor"), none, (.fields (List.toArray [(.str (sn [95, 95, 100, 105, 99, 116, 95, 95]) 466), (.ref 220), (.builtin "function.__dict__"), (.builtin "function.__dict__#set")])), List.toArray []⟩
noncomputable def o_222 (_ : Params) : Obj := ⟨(.type "getset_descriptor"), none, (.fields (List.toArray [(.str (sn [95, 95, 119, 101, 97, 107, 114, 101, 102, 95, 95]) 468), (.ref 220), (.builtin "ExceptionGroup.__weakref__"), .none])), List.toArray []⟩
noncomputable def o_238 (_ : Params) : Obj := ⟨(.type "code"), none, (.fields (List.toArray [(.str (sn [114, 95, 109, 97, 114, 107, 95, 114, 101, 103, 105, 111, 110, 115]) 516), (.str (sn [83, 112, 97, 110, 105, 115, 104, 83, 116, 101, 109, 109, 101, 114, 46, 114, 95, 109, 97, 114, 107, 95, 114, 101, 103, 105, 111, 110, 115]) 517), (.str (sn [47, 99, 108, 97, 105, 109, 47, 99, 117, 116, 46, 112, 121]) 518), (.int 216 0), (.int 1 0), (.int 0 0), (.int 0 0), (.int 3 0), (.ref 233), (.bool true), (.int 181 0), (.ref 234), .none, (.ref 235), (.ref 236), (.ref 237), (.int 525 0), (.int 216 0), (.str (sn [47, 99, 108, 97, 105, 109, 47, 99, 117, 116, 46, 112, 121]) 526)])), List.toArray []⟩
noncomputable def o_239 (_ : Params) : Obj := ⟨(.type "function"), none, (.func (fnS (sn [114, 95, 109, 97, 114, 107, 95, 114, 101, 103, 105, 111, 110, 115]) (sn [83, 112, 97, 110, 105, 115, 104, 83, 116, 101, 109, 109, 101, 114, 46, 114, 95, 109, 97, 114, 107, 95, 114, 101, 103, 105, 111, 110, 115]) (mst 6 4) (.str (sn [115, 110, 111, 119, 98, 97, 108, 108, 115, 116, 101, 109, 109, 101, 114, 46, 115, 112, 97, 110, 105, 115, 104, 95, 115, 116, 101, 109, 109, 101, 114]) 473) (.ref 238))), List.toArray []⟩
noncomputable def o_245 (_ : Params) : Obj := ⟨(.type "code"), none, (.fields (List.toArray [(.str (sn [114, 95, 112, 111, 115, 116, 108, 117, 100, 101]) 528), (.str (sn [83, 112, 97, 110, 105, 115, 104, 83, 116, 101, 109, 109, 101, 114, 46, 114, 95, 112, 111, 115, 116, 108, 117, 100, 101]) 529), (.str (sn [47, 99, 108, 97, 105, 109, 47, 99, 117, 116, 46, 112, 121]) 530), (.int 295 0), (.int 1 0), (.int 0 0), (.int 0 0), (.int 3 0), (.ref 240), (.bool true), (.int 181 0), (.ref 241), .none, (.ref 242), (.ref 243), (.ref 244), (.int 534 0), (.int 295 0), (.str (sn [47, 99, 108, 97, 105, 109, 47, 99, 117, 116, 46, 112, 121]) 535)])), List.toArray []⟩
noncomputable def o_246 (_ : Params) : Obj := ⟨(.type "function"), none, (.func (fnS (sn [114, 95, 112, 111, 115, 116, 108, 117, 100, 101]) (sn [83, 112, 97, 110, 105, 115, 104, 83, 116, 101, 109, 109, 101, 114, 46, 114, 95, 112, 111, 115, 116, 108, 117, 100, 101]) (mst 6 5) (.str (sn [115, 110, 111, 119, 98, 97, 108, 108, 115, 116, 101, 109, 109, 101, 114, 46, 115, 112, 97, 110, 105, 115, 104, 95, 115, 116, 101, 109, 109, 101, 114]) 473) (.ref 245))), List.toArray []⟩
noncomputable def o_252 (_ : Params) : Obj := ⟨(.type "code"), none, (.fields (List.toArray [(.str (sn [114, 95, 82, 86]) 537), (.str (sn [83, 112, 97, 110, 105, 115, 104, 83, 116, 101, 109, 109, 101, 114, 46, 114, 95, 82, 86]) 538), (.str (sn [47, 99, 108, 97, 105, 109, 47, 99, 117, 116, 46, 112, 121]) 539), (.int 323 0), (.int 1 0), (.int 0 0), (.int 0 0), (.int 3 0), (.ref 247), (.bool true), (.int 181 0), (.ref 248), .none, (.ref 249), (.ref 250), (.ref 251), (.int 541 0), (.int 323 0), (.str (sn [47, 99, 108, 97, 105, 109, 47, 99, 117, 116, 46, 112, 121]) 542)])), List.toArray []⟩
noncomputable def o_253 (_ : Params) : Obj := ⟨(.type "function"), none, (.func (fnS (sn [114, 95, 82, 86]) (sn [83, 112, 97, 110, 105, 115, 104, 83, 116, 101, 109, 109, 101, 114, 46, 114, 95, 82, 86]) (mst 6 6) (.str (sn [115, 110, 111, 119, 98, 97, 108, 108, 115, 116, 101, 109, 109, 101, 114, 46, 115, 112, 97, 110, 105, 115, 104, 95, 115, 116, 101, 109, 109, 101, 114]) 473) (.ref 252))), List.toArray []⟩
noncomputable def o_259 (_ : Params) : Obj := ⟨(.type "code"), none, (.fields (List.toArray [(.str (sn [114, 95, 82, 50]) 544), (.str (sn [83, 112, 97, 110, 105, 115, 104, 83, 116, 101, 109, 109, 101, 114, 46, 114, 95, 82, 50]) 545), (.str (sn [47, 99, 108, 97, 105, 109, 47, 99, 117, 116, 46, 112, 121]) 546), (.int 326 0), (.int 1 0), (.int 0 0), (.int 0 0), (.int 3 0), (.ref 254), (.bool true), (.int 181 0), (.ref 255), .none, (.ref 256), (.ref 257), (.ref 258), (.int 548 0), (.int 326 0), (.str (sn [47, 99, 108, 97, 105, 109, 47, 99, 117, 116, 46, 112, 121]) 549)])), List.toArray []⟩
noncomputable def o_260 (_ : Params) : Obj := ⟨(.type "function"), none, (.func (fnS (sn [114, 95, 82, 50]) (sn [83, 112, 97, 110, 105, 115, 104, 83, 116, 101, 109, 109, 101, 114, 46, 114, 95, 82, 50]) (mst 6 7) (.str (sn [115, 110, 111, 119, 98, 97, 108, 108, 115, 116, 101, 109, 109, 101, 114, 46, 115, 112, 97, 110, 105, 115, 104, 95, 115, 116, 101, 109, 109, 101, 114]) 473) (.ref 259))), List.toArray []⟩
noncomputable def o_266 (_ : Params) : Obj := ⟨(.type "code"), none, (.fields (List.toArray [(.str (sn [114, 95, 97, 116, 116, 97, 99, 104, 101, 100, 95, 112, 114, 111, 110, 111, 117, 110]) 551), (.str (sn [83, 112, 97, 110, 105, 115, 104, 83, 116, 101, 109, 109, 101, 114, 46, 114, 95, 97, 116, 116, 97, 99, 104, 101, 100, 95, 112, 114, 111, 110, 111, 117, 110]) 552), (.str (sn [47, 99, 108, 97, 105, 109, 47, 99, 117, 116, 46, 112, 121]) 553), (.int 329 0), (.int 1 0), (.int 0 0), (.int 0 0), (.int 3 0), (.ref 261), (.bool true), (.int 181 0), (.ref 262), .none, (.ref 263), (.ref 264), (.ref 265), (.int 556 0), (.int 329 0), (.str (sn [47, 99, 108, 97, 105, 109, 47, 99, 117, 116, 46, 112, 121]) 557)])), List.toArray []⟩
noncomputable def o_267 (_ : Params) : Obj := ⟨(.type "function"), none, (.func (fnS (sn [114, 95, 97, 116, 116, 97, 99, 104, 101, 100, 95, 112, 114, 111, 110, 111, 117, 110]) (sn [83, 112, 97, 110, 105, 115, 104, 83, 116, 101, 109, 109, 101, 114, 46, 114, 95, 97, 116, 116, 97, 99, 104, 101, 100, 95, 112, 114, 111, 110, 111, 117, 110]) (mst 6 8) (.str (sn [115, 110, 111, 119, 98, 97, 108, 108, 115, 116, 101, 109, 109, 101, 114, 46, 115, 112, 97, 110, 105, 115, 104, 95, 115, 116, 101, 109, 109, 101, 114]) 473) (.ref 266))), List.toArray []⟩
noncomputable def o_273 (_ : Params) : Obj := ⟨(.type "code"), none, (.fields (List.toArray [(.str (sn [114, 95, 115, 116, 97, 110, 100, 97, 114, 100, 95, 115, 117, 102, 102, 105, 120]) 559), (.str (sn [83, 112, 97, 110, 105, 115, 104, 83, 116, 101, 109, 109, 101, 114, 46, 114, 95, 115, 116, 97, 110, 100, 97, 114, 100, 95, 115, 117, 102, 102, 105, 120]) 560), (.str (sn [47, 99, 108, 97, 105, 109, 47, 99, 117, 116, 46, 112, 121]) 561), (.int 363 0), (.int 1 0), (.int 0 0), (.int 0 0), (.int 3 0), (.ref 268), (.bool true), (.int 181 0), (.ref 269), .none, (.ref 270), (.ref 271), (.ref 272), (.int 569 0), (.int 363 0), (.str (sn [47, 99, 108, 97, 105, 109, 47, 99, 117, 116, 46, 112, 121]) 570)])), List.toArray []⟩
noncomputable def o_274 (_ : Params) : Obj := ⟨(.type "function"), none, (.func (fnS (sn [114, 95, 115, 116, 97, 110, 100, 97, 114, 100, 95, 115, 117, 102, 102, 105, 120]) (sn [83, 112, 97, 110, 105, 115, 104, 83, 116, 101, 109, 109, 101, 114, 46, 114, 95, 115, 116, 97, 110, 100, 97, 114, 100, 95, 115, 117, 102, 102, 105, 120]) (mst 6 9) (.str (sn [115, 110, 111, 119, 98, 97, 108, 108, 115, 116, 101, 109, 109, 101, 114, 46, 115, 112, 97, 110, 105, 115, 104, 95, 115, 116, 101, 109, 109, 101, 114]) 473) (.ref 273))), List.toArray []⟩
noncomputable def o_280 (_ : Params) : Obj := ⟨(.type "code"), none, (.fields (List.toArray [(.str (sn [114, 95, 121, 95, 118, 101, 114, 98, 95, 115, 117, 102, 102, 105, 120]) 572), (.str (sn [83, 112, 97, 110, 105, 115, 104, 83, 116, 101, 109, 109, 101, 114, 46, 114, 95, 121, 95, 118, 101, 114, 98, 95, 115, 117, 102, 102, 105, 120]) 573), (.str (sn [47, 99, 108, 97, 105, 109, 47, 99, 117, 116, 46, 112, 121]) 574), (.int 483 0), (.int 1 0), (.int 0 0), (.int 0 0), (.int 3 0), (.ref 275), (.bool true), (.int 181 0), (.ref 276), .none, (.ref 277), (.ref 278), (.ref 279), (.int 577 0), (.int 483 0), (.str (sn [47, 99, 108, 97, 105, 109, 47, 99, 117, 116, 46, 112, 121]) 578)])), List.toArray []⟩
noncomputable def o_281 (_ : Params) : Obj := ⟨(.type "function"), none, (.func (fnS (sn [114, 95, 121, 95, 118, 101, 114, 98, 95, 115, 117, 102, 102, 105, 120]) (sn [83, 112, 97, 110, 105, 115, 104, 83, 116, 101, 109, 109, 101, 114, 46, 114, 95, 121, 95, 118, 101, 114, 98, 95, 115, 117, 102, 102, 105, 120]) (mst 6 10) (.str (sn [115, 110, 111, 119, 98, 97, 108, 108, 115, 116, 101, 109, 109, 101, 114, 46, 115, 112, 97, 110, 105, 115, 104, 95, 115, 116, 101, 109, 109, 101, 114]) 473) (.ref 280))), List.toArray []⟩
noncomputable def o_287 (_ : Params) : Obj := ⟨(.type "code"), none, (.fields (List.toArray [(.str (sn [114, 95, 118, 101, 114, 98, 95, 115, 117, 102, 102, 105, 120]) 580), (.str (sn [83, 112, 97, 110, 105, 115, 104, 83, 116, 101, 109, 109, 101, 114, 46, 114, 95, 118, 101, 114, 98, 95, 115, 117, 102, 102, 105, 120]) 581), (.str (sn [47, 99, 108, 97, 105, 109, 47, 99, 117, 116, 46, 112, 121]) 582), (.int 500 0), (.int 1 0), (.int 0 0), (.int 0 0), (.int 3 0), (.ref 282), (.bool true), (.int 181 0), (.ref 283), .none, (.ref 284), (.ref 285), (.ref 286), (.int 588 0), (.int 500 0), (.str (sn [47, 99, 108, 97, 105, 109, 47, 99, 117, 116, 46, 112, 121]) 589)])), List.toArray []⟩
noncomputable def o_288 (_ : Params) : Obj := ⟨(.type "function"), none, (.func (fnS (sn [114, 95, 118, 101, 114, 98, 95, 115, 117, 102, 102, 105, 120]) (sn [83, 112, 97, 110, 105, 115, 104, 83, 116, 101, 109, 109, 101, 114, 46, 114, 95, 118, 101, 114, 98, 95, 115, 117, 102, 102, 105, 120]) (mst 6 11) (.str (sn [115, 110, 111, 119, 98, 97, 108, 108, 115, 116, 101, 109, 109, 101, 114, 46, 115, 112, 97, 110, 105, 115, 104, 95, 115, 116, 101, 109, 109, 101, 114]) 473) (.ref 287))), List.toArray []⟩
noncomputable def o_294 (_ : Params) : Obj := ⟨(.type "code"), none, (.fields (List.toArray [(.str (sn [114, 95, 114, 101, 115, 105, 100, 117, 97, 108, 95, 115, 117, 102, 102, 105, 120]) 591), (.str (sn [83, 112, 97, 110, 105, 115, 104, 83, 116, 101, 109, 109, 101, 114, 46, 114, 95, 114, 101, 115, 105, 100, 117, 97, 108, 95, 115, 117, 102, 102, 105, 120]) 592), (.str (sn [47, 99, 108, 97, 105, 109, 47, 99, 117, 116, 46, 112, 121]) 593), (.int 533 0), (.int 1 0), (.int 0 0), (.int 0 0), (.int 3 0), (.ref 289), (.bool true), (.int 181 0), (.ref 290), .none, (.ref 291), (.ref 292), (.ref 293), (.int 598 0), (.int 533 0), (.str (sn [47, 99, 108, 97, 105, 109, 47, 99, 117, 116, 46, 112, 121]) 599)])), List.toArray []⟩
noncomputable def o_295 (_ : Params) : Obj := ⟨(.type "function"), none, (.func (fnS (sn [114, 95, 114, 101, 115, 105, 100, 117, 97, 108, 95, 115, 117, 102, 102, 105, 120]) (sn [83, 112, 97, 110, 105, 115, 104, 83, 116, 101, 109, 109, 101, 114, 46, 114, 95, 114, 101, 115, 105, 100, 117, 97, 108, 95, 115, 117, 102, 102, 105, 120]) (mst 6 12) (.str (sn [115, 110, 111, 119, 98, 97, 108, 108, 115, 116, 101, 109, 109, 101, 114, 46, 115, 112, 97, 110, 105, 115, 104, 95, 115, 116, 101, 109, 109, 101, 114]) 473) (.ref 294))), List.toArray []⟩
noncomputable def o_301 (_ : Params) : Obj := ⟨(.type "code"), none, (.fields (List.toArray [(.str (sn [95, 115, 116, 101, 109]) 601), (.str (sn [83, 112, 97, 110, 105, 115, 104, 83, 116, 101, 109, 109, 101, 114, 46, 95, 115, 116, 101, 109]) 602), (.str (sn [47, 99, 108, 97, 105, 109, 47, 99, 117, 116, 46, 112, 121]) 603), (.int 569 0), (.int 1 0), (.int 0 0), (.int 0 0), (.int 3 0), (.ref 296), (.bool true), (.int 181 0), (.ref 297), .none, (.ref 298), (.ref 299), (.ref 300), (.int 610 0), (.int 569 0), (.str (sn [47, 99, 108, 97, 105, 109, 47, 99, 117, 116, 46, 112, 121]) 611)])), List.toArray []⟩
noncomputable def o_302 (_ : Params) : Obj := ⟨(.type "function"), none, (.func (fnS (sn [95, 115, 116, 101, 109]) (sn [83, 112, 97, 110, 105, 115, 104, 83, 116, 101, 109, 109, 101, 114, 46, 95, 115, 116, 101, 109]) (mst 6 13) (.str (sn [115, 110, 111, 119, 98, 97, 108, 108, 115, 116, 101, 109, 109, 101, 114, 46, 115, 112, 97, 110, 105, 115, 104, 95, 115, 116, 101, 109, 109, 101, 114]) 473) (.ref 301))), List.toArray []⟩
noncomputable def o_926 (P : Params) : Obj := ⟨(.type "dict"), none, (.dict (List.toArray [ke P (sn [95, 95, 109, 111, 100, 117, 108, 101, 95, 95]) 482 (.str (sn [115, 110, 111, 119, 98, 97, 108, 108, 115, 116, 101, 109, 109, 101, 114, 46, 115, 112, 97, 110, 105, 115, 104, 95, 115, 116, 101, 109, 109, 101, 114]) 473), ke P (sn [95, 95, 102, 105, 114, 115, 116, 108, 105, 110, 101, 110, 111, 95, 95]) 486 (.int 210 485), ke P (sn [103, 95, 118]) 509 (.ref 232), ke P (sn [73, 95, 112, 50]) 511 (.int 0 510), ke P (sn [73, 95, 112, 49]) 513 (.int 0 512), ke P (sn [73, 95, 112, 86]) 515 (.int 0 514), ke P (sn [114, 95, 109, 97, 114, 107, 95, 114, 101, 103, 105, 111, 110, 115]) 527 (.ref 239), ke P (sn [114, 95, 112, 111, 115, 116, 108, 117, 100, 101]) 536 (.ref 246), ke P (sn [114, 95, 82, 86]) 543 (.ref 253), ke P (sn [114, 95, 82, 50]) 550 (.ref 260), ke P (sn [114, 95, 97, 116, 116, 97, 99, 104, 101, 100, 95, 112, 114, 111, 110, 111, 117, 110]) 558 (.ref 267), ke P (sn [114, 95, 115, 116, 97, 110, 100, 97, 114, 100, 95, 115, 117, 102, 102, 105, 120]) 571 (.ref 274), ke P (sn [114, 95, 121, 95, 118, 101, 114, 98, 95, 115, 117, 102, 102, 105, 120]) 579 (.ref 281), ke P (sn [114, 95, 118, 101, 114, 98, 95, 115, 117, 102, 102, 105, 120]) 590 (.ref 288), ke P (sn [114, 95, 114, 101, 115, 105, 100, 117, 97, 108, 95, 115, 117, 102, 102, 105, 120]) 600 (.ref 295), ke P (sn [95, 115, 116, 101, 109]) 612 (.ref 302), ke P (sn [97, 95, 48]) 692 (.ref 321), ke P (sn [97, 95, 49]) 884 (.ref 361), ke P (sn [97, 95, 50]) 1039 (.ref 395), ke P (sn [97, 95, 51]) 1099 (.ref 408), ke P (sn [97, 95, 52]) 1142 (.ref 418), ke P (sn [97, 95, 53]) 1185 (.ref 428), ke P (sn [97, 95, 54]) 1857 (.ref 573), ke P (sn [97, 95, 55]) 2026 (.ref 610), ke P (sn [97, 95, 56]) 3330 (.ref 899), ke P (sn [97, 95, 57]) 3443 (.ref 924), ke P (sn [95, 95, 115, 116, 97, 116, 105, 99, 95, 97, 116, 116, 114, 105, 98, 117, 116, 101, 115, 95, 95]) 3451 (.ref 925), ke P (sn [95, 95, 100, 111, 99, 95, 95]) 3452 .none]) 2), List.toArray []⟩
noncomputable def o_927 (_ : Params) : Obj := ⟨(.type "type"), none, (.cls { name := (sn [83, 112, 97, 110, 105, 115, 104, 83, 116, 101, 109, 109, 101, 114]), bases := [(.ref 199)], mro := [(.ref 927), (.ref 199), (.type "object")], ns := 926, qualname := (sn [83, 112, 97, 110, 105, 115, 104, 83, 116, 101, 109, 109, 101, 114]), hasDict := true, slotNames := [], subclasses := [], abstract := false, collection := none, hasDel := false }), List.toArray [(some (.ref 225)), none, (some (.str (sn [83, 112, 97, 110, 105, 115, 104, 83, 116, 101, 109, 109, 101, 114]) 475)), (some (.str (sn [83, 112, 97, 110, 105, 115, 104, 83, 116, 101, 109, 109, 101, 114]) 483)), (some (.builtin "object.__new__")), (some (.bool true))]⟩
noncomputable def o_938 (P : Params) : Obj := ⟨(.type "dict"), none, (.dict (List.toArray [ke P (sn [95, 95, 109, 111, 100, 117, 108, 101, 95, 95]) 3462 (.str (sn [115, 110, 111, 119, 98, 97, 108, 108, 115, 116, 101, 109, 109, 101, 114, 46, 115, 112, 97, 110, 105, 115, 104, 95, 115, 116, 101, 109, 109, 101, 114]) 473), ke P (sn [95, 95, 102, 105, 114, 115, 116, 108, 105, 110, 101, 110, 111, 95, 95]) 3466 (.int 618 3465), ke P (sn [95, 95, 115, 116, 97, 116, 105, 99, 95, 97, 116, 116, 114, 105, 98, 117, 116, 101, 115, 95, 95]) 3467 (.ref 937), ke P (sn [95, 95, 119, 101, 97, 107, 114, 101, 102, 95, 95]) 3469 (.ref 940), ke P (sn [95, 95, 100, 111, 99, 95, 95]) 3470 .none]) 3), List.toArray []⟩
noncomputable def o_939 (_ : Params) : Obj := ⟨(.type "type"), none, (.cls { name := (sn [108, 97, 98, 48]), bases := [(.type "Exception")], mro := [(.ref 939), (.type "Exception"), (.type "BaseException"), (.type "object")], ns := 938, qualname := (sn [108, 97, 98, 48]), hasDict := true, slotNames := [], subclasses := [], abstract := false, collection := none, hasDel := false }), List.toArray [(some (.ref 930)), none, (some (.str (sn [108, 97, 98, 48]) 3455)), (some (.str (sn [108, 97, 98, 48]) 3463)), (some (.builtin "Exception.__new__")), (some (.bool true))]⟩
noncomputable def o_940 (_ : Params) : Obj := ⟨(.type "getset_descriptor"), none, (.fields (List.toArray [(.str (sn [95, 95, 119, 101, 97, 107, 114, 101, 102, 95, 95]) 3468), (.ref 939), (.builtin "ExceptionGroup.__weakref__"), .none])), List.toArray []⟩
noncomputable def o_951 (P : Params) : Obj := ⟨(.type "dict"), none, (.dict (List.toArray [ke P (sn [95, 95, 109, 111, 100, 117, 108, 101, 95, 95]) 3482 (.str (sn [115, 110, 111, 119, 98, 97, 108, 108, 115, 116, 101, 109, 109, 101, 114, 46, 115, 112, 97, 110, 105, 115, 104, 95, 115, 116, 101, 109, 109, 101, 114]) 473), ke P (sn [95, 95, 102, 105, 114, 115, 116, 108, 105, 110, 101, 110, 111, 95, 95]) 3486 (.int 620 3485), ke P (sn [95, 95, 115, 116, 97, 116, 105, 99, 95, 97, 116, 116, 114, 105, 98, 117, 116, 101, 115, 95, 95]) 3487 (.ref 950), ke P (sn [95, 95, 119, 101, 97, 107, 114, 101, 102, 95, 95]) 3489 (.ref 953), ke P (sn [95, 95, 100, 111, 99, 95, 95]) 3490 .none]) 3), List.toArray []⟩
noncomputable def o_952 (_ : Params) : Obj := ⟨(.type "type"), none, (.cls { name := (sn [108, 97, 98, 49]), bases := [(.type "Exception")], mro := [(.ref 952), (.type "Exception"), (.type "BaseException"), (.type "object")], ns := 951, qualname := (sn [108, 97, 98, 49]), hasDict := true, slotNames := [], subclasses := [], abstract := false, collection := none, hasDel := false }), List.toArray [(some (.ref 943)), none, (some (.str (sn [108, 97, 98, 49]) 3475)), (some (.str (sn [108, 97, 98, 49]) 3483)), (some (.builtin "Exception.__new__")), (some (.bool true))]⟩
noncomputable def o_953 (_ : Params) : Obj := ⟨(.type "getset_descriptor"), none, (.fields (List.toArray [(.str (sn [95, 95, 119, 101, 97, 107, 114, 101, 102, 95, 95]) 3488), (.ref 952), (.builtin "ExceptionGroup.__weakref__"), .none])), List.toArray []⟩
noncomputable def o_964 (P : Params) : Obj := ⟨(.type "dict"), none, (.dict (List.toArray [ke P (sn [95, 95, 109, 111, 100, 117, 108, 101, 95, 95]) 3502 (.str (sn [115, 110, 111, 119, 98, 97, 108, 108, 115, 116, 101, 109, 109, 101, 114, 46, 115, 112, 97, 110, 105, 115, 104, 95, 115, 116, 101, 109, 109, 101, 114]) 473), ke P (sn [95, 95, 102, 105, 114, 115, 116, 108, 105, 110, 101, 110, 111, 95, 95]) 3506 (.int 622 3505), ke P (sn [95, 95, 115, 116, 97, 116, 105, 99, 95, 97, 116, 116, 114, 105, 98, 117, 116, 101, 115, 95, 95]) 3507 (.ref 963), ke P (sn [95, 95, 119, 101, 97, 107, 114, 101, 102, 95, 95]) 3509 (.ref 966), ke P (sn [95, 95, 100, 111, 99, 95, 95]) 3510 .none]) 3), List.toArray []⟩
noncomputable def o_965 (_ : Params) : Obj := ⟨(.type "type"), none, (.cls { name := (sn [108, 97, 98, 50]), bases := [(.type "Exception")], mro := [(.ref 965), (.type "Exception"), (.type "BaseException"), (.type "object")], ns := 964, qualname := (sn [108, 97, 98, 50]), hasDict := true, slotNames := [], subclasses := [], abstract := false, collection := none, hasDel := false }), List.toArray [(some (.ref 956)), none, (some (.str (sn [108, 97, 98, 50]) 3495)), (some (.str (sn [108, 97, 98, 50]) 3503)), (some (.builtin "Exception.__new__")), (some (.bool true))]⟩
noncomputable def o_966 (_ : Params) : Obj := ⟨(.type "getset_descriptor"), none, (.fields (List.toArray [(.str (sn [95, 95, 119, 101, 97, 107, 114, 101, 102, 95, 95]) 3508), (.ref 965), (.builtin "ExceptionGroup.__weakref__"), .none])), List.toArray []⟩
noncomputable def o_974 (_ : Params) : Obj := ⟨(.type "code"), none, (.fields (List.toArray [(.str (sn [95, 108, 97, 119, 95, 118, 111, 119, 101, 108, 115]) 3519), (.str (sn [95, 108, 97, 119, 95, 118, 111, 119, 101, 108, 115]) 3520), (.str (sn [47, 99, 108, 97, 105, 109, 47, 99, 117, 116, 46, 112, 121]) 3521), (.int 626 0), (.int 0 0), (.int 0 0), (.int 0 0), (.int 3 0), (.ref 969), (.bool true), (.int 181 0), (.ref 970), .none, (.ref 971), (.ref 972), (.ref 973), (.int 3522 0), (.int 626 0), (.str (sn [47, 99, 108, 97, 105, 109, 47, 99, 117, 116, 46, 112, 121]) 3523)])), List.toArray []⟩
noncomputable def o_975 (_ : Params) : Obj := ⟨(.type "function"), none, (.func (fnS (sn [95, 108, 97, 119, 95, 118, 111, 119, 101, 108, 115]) (sn [95, 108, 97, 119, 95, 118, 111, 119, 101, 108, 115]) (fst 12) (.str (sn [108, 97, 119, 95, 105, 115, 48, 48, 49, 56, 95, 48, 49]) 3515) (.ref 974))), List.toArray []⟩
noncomputable def o_981 (_ : Params) : Obj := ⟨(.type "code"), none, (.fields (List.toArray [(.str (sn [95, 108, 97, 119, 95, 97, 99, 117, 116, 101, 115]) 3525), (.str (sn [95, 108, 97, 119, 95, 97, 99, 117, 116, 101, 115]) 3526), (.str (sn [47, 99, 108, 97, 105, 109, 47, 99, 117, 116, 46, 112, 121]) 3527), (.int 628 0), (.int 0 0), (.int 0 0), (.int 0 0), (.int 3 0), (.ref 976), (.bool true), (.int 181 0), (.ref 977), .none, (.ref 978), (.ref 979), (.ref 980), (.int 3528 0), (.int 628 0), (.str (sn [47, 99, 108, 97, 105, 109, 47, 99, 117, 116, 46, 112, 121]) 3529)])), List.toArray []⟩
noncomputable def o_982 (_ : Params) : Obj := ⟨(.type "function"), none, (.func (fnS (sn [95, 108, 97, 119, 95, 97, 99, 117, 116, 101, 115]) (sn [95, 108, 97, 119, 95, 97, 99, 117, 116, 101, 115]) (fst 13) (.str (sn [108, 97, 119, 95, 105, 115, 48, 48, 49, 56, 95, 48, 49]) 3515) (.ref 981))), List.toArray []⟩
noncomputable def o_983 (_ : Params) : Obj := ⟨(.type "list"), none, (.seq (List.toArray [(.str (sn [109, 101]) 3531), (.str (sn [115, 101]) 3532), (.str (sn [108, 97]) 3533), (.str (sn [108, 101]) 3534), (.str (sn [108, 111]) 3535), (.str (sn [108, 97, 115]) 3536), (.str (sn [108, 101, 115]) 3537), (.str (sn [108, 111, 115]) 3538), (.str (sn [110, 111, 115]) 3539), (.str (sn [115, 101, 108, 97]) 3540), (.str (sn [115, 101, 108, 111]) 3541), (.str (sn [115, 101, 108, 97, 115]) 3542), (.str (sn [115, 101, 108, 111, 115]) 3543)]) 0), List.toArray []⟩
noncomputable def o_984 (_ : Params) : Obj := ⟨(.type "list"), none, (.seq (List.toArray [(.str (sn [97, 110, 100, 111]) 3545), (.str (sn [105, 101, 110, 100, 111]) 3546), (.str (sn [121, 101, 110, 100, 111]) 3547), (.str (sn [225, 110, 100, 111]) 3548), (.str (sn [105, 233, 110, 100, 111]) 3549), (.str (sn [97, 114]) 3550), (.str (sn [101, 114]) 3551), (.str (sn [105, 114]) 3552), (.str (sn [225, 114]) 3553), (.str (sn [233, 114]) 3554), (.str (sn [237, 114]) 3555)]) 0), List.toArray []⟩
noncomputable def o_985 (_ : Params) : Obj := ⟨(.type "list"), none, (.seq (List.toArray [(.str (sn [97, 110, 122, 97]) 3557), (.str (sn [97, 110, 122, 97, 115]) 3558), (.str (sn [105, 99, 97]) 3559), (.str (sn [105, 99, 97, 115]) 3560), (.str (sn [105, 99, 111]) 3561), (.str (sn [105, 99, 111, 115]) 3562), (.str (sn [111, 115, 97]) 3563), (.str (sn [111, 115, 97, 115]) 3564), (.str (sn [111, 115, 111]) 3565), (.str (sn [111, 115, 111, 115]) 3566), (.str (sn [105, 115, 116, 97]) 3567), (.str (sn [105, 115, 116, 97, 115]) 3568), (.str (sn [105, 115, 109, 111]) 3569), (.str (sn [105, 115, 109, 111, 115]) 3570), (.str (sn [97, 98, 108, 101]) 3571), (.str (sn [97, 98, 108, 101, 115]) 3572), (.str (sn [105, 98, 108, 101]) 3573), (.str (sn [105, 98, 108, 101, 115]) 3574), (.str (sn [97, 109, 105, 101, 110, 116, 111]) 3575), (.str (sn [97, 109, 105, 101, 110, 116, 111, 115]) 3576), (.str (sn [105, 109, 105, 101, 110, 116, 111]) 3577), (.str (sn [105, 109, 105, 101, 110, 116, 111, 115]) 3578)]) 0), List.toArray []⟩
noncomputable def o_986 (_ : Params) : Obj := ⟨(.type "list"), none, (.seq (List.toArray []) 0), List.toArray []⟩
noncomputable def o_987 (_ : Params) : Obj := ⟨(.type "tuple"), none, (.seq (List.toArray [(.ref 985), (.str (sn []) 3579), (.ref 986)]) 0), List.toArray []⟩
noncomputable def o_988 (_ : Params) : Obj := ⟨(.type "list"), none, (.seq (List.toArray [(.str (sn [97, 110, 99, 105, 97]) 3580), (.str (sn [97, 110, 99, 105, 97, 115]) 3581), (.str (sn [97, 100, 111, 114, 97]) 3582), (.str (sn [97, 100, 111, 114, 97, 115]) 3583), (.str (sn [97, 100, 111, 114]) 3584), (.str (sn [97, 100, 111, 114, 101, 115]) 3585), (.str (sn [97, 110, 116, 101]) 3586), (.str (sn [97, 110, 116, 101, 115]) 3587), (.str (sn [97, 99, 105, 111, 110]) 3588), (.str (sn [97, 99, 105, 243, 110]) 3589), (.str (sn [97, 99, 105, 111, 110, 101, 115]) 3590)]) 0), List.toArray []⟩
noncomputable def o_989 (_ : Params) : Obj := ⟨(.type "list"), none, (.seq (List.toArray [(.str (sn [105, 99]) 3592)]) 0), List.toArray []⟩
noncomputable def o_990 (_ : Params) : Obj := ⟨(.type "tuple"), none, (.seq (List.toArray [(.ref 988), (.str (sn []) 3591), (.ref 989)]) 0), List.toArray []⟩
noncomputable def o_991 (_ : Params) : Obj := ⟨(.type "list"), none, (.seq (List.toArray [(.str (sn [108, 111, 103, 237, 97]) 3593), (.str (sn [108, 111, 103, 237, 97, 115]) 3594)]) 0), List.toArray []⟩
noncomputable def o_992 (_ : Params) : Obj := ⟨(.type "list"), none, (.seq (List.toArray []) 0), List.toArray []⟩
noncomputable def o_993 (_ : Params) : Obj := ⟨(.type "tuple"), none, (.seq (List.toArray [(.ref 991), (.str (sn [108, 111, 103]) 3595), (.ref 992)]) 0), List.toArray []⟩
noncomputable def o_994 (_ : Params) : Obj := ⟨(.type "list"), none, (.seq (List.toArray [(.str (sn [117, 99, 105, 111, 110]) 3596), (.str (sn [117, 99, 105, 243, 110]) 3597), (.str (sn [117, 99, 105, 111, 110, 101, 115]) 3598)]) 0), List.toArray []⟩
noncomputable def o_995 (_ : Params) : Obj := ⟨(.type "list"), none, (.seq (List.toArray []) 0), List.toArray []⟩
noncomputable def o_996 (_ : Params) : Obj := ⟨(.type "tuple"), none, (.seq (List.toArray [(.ref 994), (.str (sn [117]) 3599), (.ref 995)]) 0), List.toArray []⟩
noncomputable def o_997 (_ : Params) : Obj := ⟨(.type "list"), none, (.seq (List.toArray [(.str (sn [101, 110, 99, 105, 97]) 3600), (.str (sn [101, 110, 99, 105, 97, 115]) 3601)]) 0), List.toArray []⟩
noncomputable def o_998 (_ : Params) : Obj := ⟨(.type "list"), none, (.seq (List.toArray []) 0), List.toArray []⟩
noncomputable def o_999 (_ : Params) : Obj := ⟨(.type "tuple"), none, (.seq (List.toArray [(.ref 997), (.str (sn [101, 110, 116, 101]) 3602), (.ref 998)]) 0), List.toArray []⟩
noncomputable def o_1000 (_ : Params) : Obj := ⟨(.type "list"), none, (.seq (List.toArray [(.str (sn [97, 109, 101, 110, 116, 101]) 3603)]) 0), List.toArray []⟩
noncomputable def o_1001 (_ : Params) : Obj := ⟨(.type "list"), none, (.seq (List.toArray [(.str (sn [105, 99]) 3605), (.str (sn [97, 100]) 3606), (.str (sn [111, 115]) 3607), (.str (sn [105, 118]) 3608), (.str (sn [97, 116, 105, 118]) 3609)]) 0), List.toArray []⟩
noncomputable def o_1002 (_ : Params) : Obj := ⟨(.type "tuple"), none, (.seq (List.toArray [(.ref 1000), (.str (sn []) 3604), (.ref 1001)]) 0), List.toArray []⟩
noncomputable def o_1003 (_ : Params) : Obj := ⟨(.type "list"), none, (.seq (List.toArray [(.str (sn [109, 101, 110, 116, 101]) 3610)]) 0), List.toArray []⟩
noncomputable def o_1004 (_ : Params) : Obj := ⟨(.type "list"), none, (.seq (List.toArray [(.str (sn [97, 98, 108, 101]) 3612), (.str (sn [105, 98, 108, 101]) 3613), (.str (sn [97, 110, 116, 101]) 3614)]) 0), List.toArray []⟩
noncomputable def o_1005 (_ : Params) : Obj := ⟨(.type "tuple"), none, (.seq (List.toArray [(.ref 1003), (.str (sn []) 3611), (.ref 1004)]) 0), List.toArray []⟩
noncomputable def o_1006 (_ : Params) : Obj := ⟨(.type "list"), none, (.seq (List.toArray [(.str (sn [105, 100, 97, 100]) 3615), (.str (sn [105, 100, 97, 100, 101, 115]) 3616)]) 0), List.toArray []⟩
noncomputable def o_1007 (_ : Params) : Obj := ⟨(.type "list"), none, (.seq (List.toArray [(.str (sn [105, 99]) 3618), (.str (sn [97, 98, 105, 108]) 3619), (.str (sn [105, 118]) 3620)]) 0), List.toArray []⟩
noncomputable def o_1008 (_ : Params) : Obj := ⟨(.type "tuple"), none, (.seq (List.toArray [(.ref 1006), (.str (sn []) 3617), (.ref 1007)]) 0), List.toArray []⟩
noncomputable def o_1009 (_ : Params) : Obj := ⟨(.type "list"), none, (.seq (List.toArray [(.str (sn [105, 118, 97]) 3621), (.str (sn [105, 118, 97, 115]) 3622), (.str (sn [105, 118, 111]) 3623), (.str (sn [105, 118, 111, 115]) 3624)]) 0), List.toArray []⟩
noncomputable def o_1010 (_ : Params) : Obj := ⟨(.type "list"), none, (.seq (List.toArray [(.str (sn [97, 116]) 3626)]) 0), List.toArray []⟩
noncomputable def o_1011 (_ : Params) : Obj := ⟨(.type "tuple"), none, (.seq (List.toArray [(.ref 1009), (.str (sn []) 3625), (.ref 1010)]) 0), List.toArray []⟩
noncomputable def o_1012 (_ : Params) : Obj := ⟨(.type "list"), none, (.seq (List.toArray [(.ref 987), (.ref 990), (.ref 993), (.ref 996), (.ref 999), (.ref 1002), (.ref 1005), (.ref 1008), (.ref 1011)]) 0), List.toArray []⟩
noncomputable def o_1013 (_ : Params) : Obj := ⟨(.type "list"), none, (.seq (List.toArray [(.str (sn [105, 99]) 3628), (.str (sn [97, 100]) 3629), (.str (sn [111, 115]) 3630), (.str (sn [105, 118]) 3631), (.str (sn [97, 116]) 3632), (.str (sn [97, 98, 105, 108]) 3633), (.str (sn [103, 117]) 3634)]) 0), List.toArray []⟩
noncomputable def o_1014 (_ : Params) : Obj := ⟨(.type "list"), none, (.seq (List.toArray [(.str (sn [121, 97]) 3636), (.str (sn [121, 101]) 3637), (.str (sn [121, 111]) 3638), (.str (sn [121, 243]) 3639), (.str (sn [121, 97, 115]) 3640), (.str (sn [121, 101, 115]) 3641), (.str (sn [121, 97, 110]) 3642), (.str (sn [121, 101, 110]) 3643), (.str (sn [121, 97, 105, 115]) 3644), (.str (sn [121, 97, 109, 111, 115]) 3645), (.str (sn [121, 101, 114, 111, 110]) 3646), (.str (sn [121, 101, 110, 100, 111]) 3647)]) 0), List.toArray []⟩
noncomputable def o_1015 (_ : Params) : Obj := ⟨(.type "list"), none, (.seq (List.toArray [(.str (sn [97, 114]) 3649), (.str (sn [101, 114]) 3650), (.str (sn [105, 114]) 3651), (.str (sn [97, 100]) 3652), (.str (sn [101, 100]) 3653), (.str (sn [105, 100]) 3654), (.str (sn [97, 110, 100, 111]) 3655), (.str (sn [105, 101, 110, 100, 111]) 3656), (.str (sn [97, 100, 111]) 3657), (.str (sn [97, 100, 97]) 3658), (.str (sn [97, 100, 111, 115]) 3659), (.str (sn [97, 100, 97, 115]) 3660), (.str (sn [105, 100, 111]) 3661), (.str (sn [105, 100, 97]) 3662), (.str (sn [105, 100, 111, 115]) 3663), (.str (sn [105, 100, 97, 115]) 3664), (.str (sn [97, 115]) 3665), (.str (sn [97, 110]) 3666), (.str (sn [225, 105, 115]) 3667), (.str (sn [97, 109, 111, 115]) 3668), (.str (sn [101, 115]) 3669), (.str (sn [101, 110]) 3670), (.str (sn [233, 105, 115]) 3671), (.str (sn [101, 109, 111, 115]) 3672), (.str (sn [237, 115]) 3673), (.str (sn [105, 109, 111, 115]) 3674), (.str (sn [97, 98, 97]) 3675), (.str (sn [97, 98, 97, 115]) 3676), (.str (sn [97, 98, 97, 110]) 3677), (.str (sn [97, 98, 97, 105, 115]) 3678), (.str (sn [225, 98, 97, 109, 111, 115]) 3679), (.str (sn [237, 97]) 3680), (.str (sn [237, 97, 115]) 3681), (.str (sn [237, 97, 110]) 3682), (.str (sn [237, 97, 105, 115]) 3683), (.str (sn [237, 97, 109, 111, 115]) 3684), (.str (sn [97, 115, 116, 101]) 3685), (.str (sn [97, 115, 116, 101, 105, 115]) 3686), (.str (sn [97, 114, 111, 110]) 3687), (.str (sn [105, 115, 116, 101]) 3688), (.str (sn [105, 115, 116, 101, 105, 115]) 3689), (.str (sn [105, 101, 114, 111, 110]) 3690), (.str (sn [105, 243]) 3691), (.str (sn [97, 114, 97]) 3692), (.str (sn [97, 114, 97, 115]) 3693), (.str (sn [97, 114, 97, 110]) 3694), (.str (sn [97, 114, 97, 105, 115]) 3695), (.str (sn [225, 114, 97, 109, 111, 115]) 3696), (.str (sn [105, 101, 114, 97]) 3697), (.str (sn [105, 101, 114, 97, 115]) 3698), (.str (sn [105, 101, 114, 97, 110]) 3699), (.str (sn [105, 101, 114, 97, 105, 115]) 3700), (.str (sn [105, 233, 114, 97, 109, 111, 115]) 3701), (.str (sn [97, 115, 101]) 3702), (.str (sn [97, 115, 101, 115]) 3703), (.str (sn [97, 115, 101, 110]) 3704), (.str (sn [97, 115, 101, 105, 115]) 3705), (.str (sn [225, 115, 101, 109, 111, 115]) 3706), (.str (sn [105, 101, 115, 101]) 3707), (.str (sn [105, 101, 115, 101, 115]) 3708), (.str (sn [105, 101, 115, 101, 110]) 3709), (.str (sn [105, 101, 115, 101, 105, 115]) 3710), (.str (sn [105, 233, 115, 101, 109, 111, 115]) 3711), (.str (sn [97, 114, 233]) 3712), (.str (sn [97, 114, 225, 115]) 3713), (.str (sn [97, 114, 225]) 3714), (.str (sn [97, 114, 101, 109, 111, 115]) 3715), (.str (sn [97, 114, 233, 105, 115]) 3716), (.str (sn [97, 114, 225, 110]) 3717), (.str (sn [97, 114, 237, 97]) 3718), (.str (sn [97, 114, 237, 97, 115]) 3719), (.str (sn [97, 114, 237, 97, 110]) 3720), (.str (sn [97, 114, 237, 97, 105, 115]) 3721), (.str (sn [97, 114, 237, 97, 109, 111, 115]) 3722), (.str (sn [101, 114, 233]) 3723), (.str (sn [101, 114, 225, 115]) 3724), (.str (sn [101, 114, 225]) 3725), (.str (sn [101, 114, 101, 109, 111, 115]) 3726), (.str (sn [101, 114, 233, 105, 115]) 3727), (.str (sn [101, 114, 225, 110]) 3728), (.str (sn [101, 114, 237, 97]) 3729), (.str (sn [101, 114, 237, 97, 115]) 3730), (.str (sn [101, 114, 237, 97, 110]) 3731), (.str (sn [101, 114, 237, 97, 105, 115]) 3732), (.str (sn [101, 114, 237, 97, 109, 111, 115]) 3733), (.str (sn [105, 114, 233]) 3734), (.str (sn [105, 114, 225, 115]) 3735), (.str (sn [105, 114, 225]) 3736), (.str (sn [105, 114, 101, 109, 111, 115]) 3737), (.str (sn [105, 114, 233, 105, 115]) 3738), (.str (sn [105, 114, 225, 110]) 3739), (.str (sn [105, 114, 237, 97]) 3740), (.str (sn [105, 114, 237, 97, 115]) 3741), (.str (sn [105, 114, 237, 97, 110]) 3742), (.str (sn [105, 114, 237, 97, 105, 115]) 3743), (.str (sn [105, 114, 237, 97, 109, 111, 115]) 3744)]) 0), List.toArray []⟩
noncomputable def o_1021 (_ : Params) : Obj := ⟨(.type "code"), none, (.fields (List.toArray [(.str (sn [95, 108, 97, 119, 95, 115, 116, 97, 110, 100, 97, 114, 100]) 3746), (.str (sn [95, 108, 97, 119, 95, 115, 116, 97, 110, 100, 97, 114, 100]) 3747), (.str (sn [47, 99, 108, 97, 105, 109, 47, 99, 117, 116, 46, 112, 121]) 3748), (.int 636 0), (.int 0 0), (.int 0 0), (.int 0 0), (.int 3 0), (.ref 1016), (.bool true), (.int 181 0), (.ref 1017), .none, (.ref 1018), (.ref 1019), (.ref 1020), (.int 3751 0), (.int 636 0), (.str (sn [47, 99, 108, 97, 105, 109, 47, 99, 117, 116, 46, 112, 121]) 3752)])), List.toArray []⟩
noncomputable def o_1022 (_ : Params) : Obj := ⟨(.type "function"), none, (.func (fnS (sn [95, 108, 97, 119, 95, 115, 116, 97, 110, 100, 97, 114, 100]) (sn [95, 108, 97, 119, 95, 115, 116, 97, 110, 100, 97, 114, 100]) (fst 20) (.str (sn [108, 97, 119, 95, 105, 115, 48, 48, 49, 56, 95, 48, 49]) 3515) (.ref 1021))), List.toArray []⟩
noncomputable def o_1028 (_ : Params) : Obj := ⟨(.type "code"), none, (.fields (List.toArray [(.str (sn [95, 108, 97, 119, 95, 115, 104, 97, 112, 101]) 3754), (.str (sn [95, 108, 97, 119, 95, 115, 104, 97, 112, 101]) 3755), (.str (sn [47, 99, 108, 97, 105, 109, 47, 99, 117, 116, 46, 112, 121]) 3756), (.int 641 0), (.int 1 0), (.int 0 0), (.int 0 0), (.int 3 0), (.ref 1023), (.bool true), (.int 181 0), (.ref 1024), .none, (.ref 1025), (.ref 1026), (.ref 1027), (.int 3760 0), (.int 641 0), (.str (sn [47, 99, 108, 97, 105, 109, 47, 99, 117, 116, 46, 112, 121]) 3761)])), List.toArray []⟩
noncomputable def o_1029 (_ : Params) : Obj := ⟨(.type "function"), none, (.func (fnS (sn [95, 108, 97, 119, 95, 115, 104, 97, 112, 101]) (sn [95, 108, 97, 119, 95, 115, 104, 97, 112, 101]) (fst 21) (.str (sn [108, 97, 119, 95, 105, 115, 48, 48, 49, 56, 95, 48, 49]) 3515) (.ref 1028))), List.toArray []⟩
noncomputable def o_1035 (_ : Params) : Obj := ⟨(.type "code"), none, (.fields (List.toArray [(.str (sn [95, 108, 97, 119, 95, 112, 97, 115, 116]) 3763), (.str (sn [95, 108, 97, 119, 95, 112, 97, 115, 116]) 3764), (.str (sn [47, 99, 108, 97, 105, 109, 47, 99, 117, 116, 46, 112, 121]) 3765), (.int 646 0), (.int 3 0), (.int 0 0), (.int 0 0), (.int 3 0), (.ref 1030), (.bool true), (.int 181 0), (.ref 1031), .none, (.ref 1032), (.ref 1033), (.ref 1034), (.int 3769 0), (.int 646 0), (.str (sn [47, 99, 108, 97, 105, 109, 47, 99, 117, 116, 46, 112, 121]) 3770)])), List.toArray []⟩
noncomputable def o_1036 (_ : Params) : Obj := ⟨(.type "function"), none, (.func (fnS (sn [95, 108, 97, 119, 95, 112, 97, 115, 116]) (sn [95, 108, 97, 119, 95, 112, 97, 115, 116]) (fst 22) (.str (sn [108, 97, 119, 95, 105, 115, 48, 48, 49, 56, 95, 48, 49]) 3515) (.ref 1035))), List.toArray []⟩
noncomputable def o_1042 (_ : Params) : Obj := ⟨(.type "code"), none, (.fields (List.toArray [(.str (sn [95, 108, 97, 119, 95, 98, 101, 104, 105, 110, 100]) 3772), (.str (sn [95, 108, 97, 119, 95, 98, 101, 104, 105, 110, 100]) 3773), (.str (sn [47, 99, 108, 97, 105, 109, 47, 99, 117, 116, 46, 112, 121]) 3774), (.int 652 0), (.int 1 0), (.int 0 0), (.int 0 0), (.int 3 0), (.ref 1037), (.bool true), (.int 181 0), (.ref 1038), .none, (.ref 1039), (.ref 1040), (.ref 1041), (.int 3776 0), (.int 652 0), (.str (sn [47, 99, 108, 97, 105, 109, 47, 99, 117, 116, 46, 112, 121]) 3777)])), List.toArray []⟩
noncomputable def o_1043 (_ : Params) : Obj := ⟨(.type "function"), none, (.func (fnS (sn [95, 108, 97, 119, 95, 98, 101, 104, 105, 110, 100]) (sn [95, 108, 97, 119, 95, 98, 101, 104, 105, 110, 100]) (fst 23) (.str (sn [108, 97, 119, 95, 105, 115, 48, 48, 49, 56, 95, 48, 49]) 3515) (.ref 1042))), List.toArray []⟩
noncomputable def o_1049 (_ : Params) : Obj := ⟨(.type "code"), none, (.fields (List.toArray [(.str (sn [95, 108, 97, 119, 95, 101, 110, 100]) 3779), (.str (sn [95, 108, 97, 119, 95, 101, 110, 100]) 3780), (.str (sn [47, 99, 108, 97, 105, 109, 47, 99, 117, 116, 46, 112, 121]) 3781), (.int 658 0), (.int 2 0), (.int 0 0), (.int 0 0), (.int 3 0), (.ref 1044), (.bool true), (.int 181 0), (.ref 1045), .none, (.ref 1046), (.ref 1047), (.ref 1048), (.int 3785 0), (.int 658 0), (.str (sn [47, 99, 108, 97, 105, 109, 47, 99, 117, 116, 46, 112, 121]) 3786)])), List.toArray []⟩
noncomputable def o_1050 (_ : Params) : Obj := ⟨(.type "function"), none, (.func (fnS (sn [95, 108, 97, 119, 95, 101, 110, 100]) (sn [95, 108, 97, 119, 95, 101, 110, 100]) (fst 24) (.str (sn [108, 97, 119, 95, 105, 115, 48, 48, 49, 56, 95, 48, 49]) 3515) (.ref 1049))), List.toArray []⟩
noncomputable def o_1054 (_ : Params) : Obj := ⟨(.type "code"), none, (.fields (List.toArray [(.str (sn [95, 108, 97, 119, 95, 98, 97, 114, 101]) 3788), (.str (sn [95, 108, 97, 119, 95, 98, 97, 114, 101]) 3789), (.str (sn [47, 99, 108, 97, 105, 109, 47, 99, 117, 116, 46, 112, 121]) 3790), (.int 663 0), (.int 1 0), (.int 0 0), (.int 0 0), (.int 3 0), (.ref 1051), (.bool true), (.int 181 0), (.ref 1052), .none, .none, .none, (.ref 1053), (.int 3791 0), (.int 663 0), (.str (sn [47, 99, 108, 97, 105, 109, 47, 99, 117, 116, 46, 112, 121]) 3792)])), List.toArray []⟩
noncomputable def o_1055 (_ : Params) : Obj := ⟨(.type "function"), none, (.func (fnS (sn [95, 108, 97, 119, 95, 98, 97, 114, 101]) (sn [95, 108, 97, 119, 95, 98, 97, 114, 101]) (fst 25) (.str (sn [108, 97, 119, 95, 105, 115, 48, 48, 49, 56, 95, 48, 49]) 3515) (.ref 1054))), List.toArray []⟩
noncomputable def o_1061 (_ : Params) : Obj := ⟨(.type "code"), none, (.fields (List.toArray [(.str (sn [95, 108, 97, 119, 95, 115, 116, 101, 109]) 3794), (.str (sn [95, 108, 97, 119, 95, 115, 116, 101, 109]) 3795), (.str (sn [47, 99, 108, 97, 105, 109, 47, 99, 117, 116, 46, 112, 121]) 3796), (.int 665 0), (.int 1 0), (.int 0 0), (.int 0 0), (.int 3 0), (.ref 1056), (.bool true), (.int 181 0), (.ref 1057), .none, (.ref 1058), (.ref 1059), (.ref 1060), (.int 3812 0), (.int 665 0), (.str (sn [47, 99, 108, 97, 105, 109, 47, 99, 117, 116, 46, 112, 121]) 3813)])), List.toArray []⟩
noncomputable def o_1062 (_ : Params) : Obj := ⟨(.type "function"), none, (.func (fnS (sn [95, 108, 97, 119, 95, 115, 116, 101, 109]) (sn [95, 108, 97, 119, 95, 115, 116, 101, 109]) (fst 26) (.str (sn [108, 97, 119, 95, 105, 115, 48, 48, 49, 56, 95, 48, 49]) 3515) (.ref 1061))), List.toArray []⟩
noncomputable def o_1068 (_ : Params) : Obj := ⟨(.type "code"), none, (.fields (List.toArray [(.str (sn [95, 108, 97, 119, 95, 119, 111, 114, 100]) 3815), (.str (sn [95, 108, 97, 119, 95, 119, 111, 114, 100]) 3816), (.str (sn [47, 99, 108, 97, 105, 109, 47, 99, 117, 116, 46, 112, 121]) 3817), (.int 698 0), (.int 2 0), (.int 0 0), (.int 0 0), (.int 3 0), (.ref 1063), (.bool true), (.int 181 0), (.ref 1064), .none, (.ref 1065), (.ref 1066), (.ref 1067), (.int 3823 0), (.int 698 0), (.str (sn [47, 99, 108, 97, 105, 109, 47, 99, 117, 116, 46, 112, 121]) 3824)])), List.toArray []⟩
noncomputable def o_1069 (_ : Params) : Obj := ⟨(.type "function"), none, (.func (fnS (sn [95, 108, 97, 119, 95, 119, 111, 114, 100]) (sn [95, 108, 97, 119, 95, 119, 111, 114, 100]) (fst 27) (.str (sn [108, 97, 119, 95, 105, 115, 48, 48, 49, 56, 95, 48, 49]) 3515) (.ref 1068))), List.toArray []⟩
noncomputable def o_1075 (_ : Params) : Obj := ⟨(.type "code"), none, (.fields (List.toArray [(.str (sn [108, 97, 119]) 3826), (.str (sn [108, 97, 119]) 3827), (.str (sn [47, 99, 108, 97, 105, 109, 47, 99, 117, 116, 46, 112, 121]) 3828), (.int 707 0), (.int 1 0), (.int 0 0), (.int 0 0), (.int 3 0), (.ref 1070), (.bool true), (.int 181 0), (.ref 1071), .none, (.ref 1072), (.ref 1073), (.ref 1074), (.int 3832 0), (.int 707 0), (.str (sn [47, 99, 108, 97, 105, 109, 47, 99, 117, 116, 46, 112, 121]) 3833)])), List.toArray []⟩
noncomputable def o_1076 (_ : Params) : Obj := ⟨(.type "function"), none, (.func (fnS (sn [108, 97, 119]) (sn [108, 97, 119]) (fst 28) (.str (sn [108, 97, 119, 95, 105, 115, 48, 48, 49, 56, 95, 48, 49]) 3515) (.ref 1075))), List.toArray []⟩
noncomputable def p_2 (_ : Params) : Obj := ⟨.none, none, (.dict (List.toArray []) 0), List.toArray []⟩
noncomputable def p_3 (P : Params) : Obj := ⟨(.type "dict"), none, (.dict (List.toArray [ke P (sn [95, 95, 110, 97, 109, 101, 95, 95]) 165 (.str (sn [115, 110, 111, 119, 98, 97, 108, 108, 115, 116, 101, 109, 109, 101, 114, 46, 115, 112, 97, 110, 105, 115, 104, 95, 115, 116, 101, 109, 109, 101, 114]) 473), ke P (sn [95, 95, 100, 111, 99, 95, 95]) 166 .none, ke P (sn [95, 95, 112, 97, 99, 107, 97, 103, 101, 95, 95]) 167 .none, ke P (sn [95, 95, 108, 111, 97, 100, 101, 114, 95, 95]) 168 (.builtin "__main__.__loader__#\u006fpaque"), ke P (sn [95, 95, 115, 112, 101, 99, 95, 95]) 169 .none, ke P (sn [95, 95, 97, 110, 110, 111, 116, 97, 116, 105, 111, 110, 115, 95, 95]) 170 (.ref 6), ke P (sn [95, 95, 98, 117, 105, 108, 116, 105, 110, 115, 95, 95]) 171 (.ref 4), ke P (sn [95, 95, 102, 105, 108, 101, 95, 95]) 173 (.str (sn [47, 99, 108, 97, 105, 109, 47, 99, 117, 116, 46, 112, 121]) 172), ke P (sn [95, 95, 99, 97, 99, 104, 101, 100, 95, 95]) 174 .none, ke P (sn [95, 119, 97, 108, 108]) 193 (.ref 21), ke P (sn [66, 97, 115, 101, 83, 116, 101, 109, 109, 101, 114]) 437 (.ref 199), ke P (sn [65, 109, 111, 110, 103]) 472 (.ref 220)]) 12), List.toArray []⟩
noncomputable def p_12 (_ : Params) : Obj := ⟨.none, none, (.fields (List.toArray [(.int 1 0), (.int 0 0), (.ref 20), (.int 5 0), (.int 0 0), (.ref 27), (.int 203 0), (.int 0 0), (.ref 209)])), List.toArray []⟩
noncomputable def p_199 (_ : Params) : Obj := ⟨(.type "type"), none, (.cls { name := (sn [66, 97, 115, 101, 83, 116, 101, 109, 109, 101, 114]), bases := [(.type "object")], mro := [(.ref 199), (.type "object")], ns := 198, qualname := (sn [66, 97, 115, 101, 83, 116, 101, 109, 109, 101, 114]), hasDict := true, slotNames := [], subclasses := [], abstract := false, collection := none, hasDel := false }), List.toArray [none, none, (some (.str (sn [66, 97, 115, 101, 83, 116, 101, 109, 109, 101, 114]) 196)), (some (.str (sn [66, 97, 115, 101, 83, 116, 101, 109, 109, 101, 114]) 204)), (some (.builtin "object.__new__")), (some (.bool true))]⟩
noncomputable def q_3 (P : Params) : Obj := ⟨(.type "dict"), none, (.dict (List.toArray [ke P (sn [95, 95, 110, 97, 109, 101, 95, 95]) 165 (.str (sn [115, 110, 111, 119, 98, 97, 108, 108, 115, 116, 101, 109, 109, 101, 114, 46, 115, 112, 97, 110, 105, 115, 104, 95, 115, 116, 101, 109, 109, 101, 114]) 473), ke P (sn [95, 95, 100, 111, 99, 95, 95]) 166 .none, ke P (sn [95, 95, 112, 97, 99, 107, 97, 103, 101, 95, 95]) 167 .none, ke P (sn [95, 95, 108, 111, 97, 100, 101, 114, 95, 95]) 168 (.builtin "__main__.__loader__#\u006fpaque"), ke P (sn [95, 95, 115, 112, 101, 99, 95, 95]) 169 .none, ke P (sn [95, 95, 97, 110, 110, 111, 116, 97, 116, 105, 111, 110, 115, 95, 95]) 170 (.ref 6), ke P (sn [95, 95, 98, 117, 105, 108, 116, 105, 110, 115, 95, 95]) 171 (.ref 4), ke P (sn [95, 95, 102, 105, 108, 101, 95, 95]) 173 (.str (sn [47, 99, 108, 97, 105, 109, 47, 99, 117, 116, 46, 112, 121]) 172), ke P (sn [95, 95, 99, 97, 99, 104, 101, 100, 95, 95]) 174 .none, ke P (sn [95, 119, 97, 108, 108]) 193 (.ref 21), ke P (sn [66, 97, 115, 101, 83, 116, 101, 109, 109, 101, 114]) 437 (.ref 199), ke P (sn [65, 109, 111, 110, 103]) 472 (.ref 220), ke P (sn [83, 112, 97, 110, 105, 115, 104, 83, 116, 101, 109, 109, 101, 114]) 3454 (.ref 927)]) 13), List.toArray []⟩
noncomputable def q_12 (_ : Params) : Obj := ⟨.none, none, (.fields (List.toArray [(.int 1 0), (.int 0 0), (.ref 20), (.int 5 0), (.int 0 0), (.ref 27), (.int 203 0), (.int 0 0), (.ref 209), (.int 210 0), (.int 0 0), (.ref 230)])), List.toArray []⟩
noncomputable def o_4 (_ : Params) : Obj := ⟨(.type "module"), (some 0), .plain, List.toArray []⟩
noncomputable def o_13 (_ : Params) : Obj := ⟨(.type "code"), none, (.fields (List.toArray [(.str (sn [60, 109, 111, 100, 117, 108, 101, 62]) 182), (.str (sn [60, 109, 111, 100, 117, 108, 101, 62]) 183), (.str (sn [47, 99, 108, 97, 105, 109, 47, 99, 117, 116, 46, 112, 121]) 184), (.int 1 0), (.int 0 0), (.int 0 0), (.int 0 0), (.int 0 0), (.ref 11), (.bool false), (.int 181 0), (.ref 12), .none, .none, .none, .none, (.int 185 0), (.int 1 0), (.str (sn [47, 99, 108, 97, 105, 109, 47, 99, 117, 116, 46, 112, 121]) 186)])), List.toArray []⟩
noncomputable def l1 (P : Params) : List (Nat × Obj) := [(0, boot_o_0 P), (2, boot_o_2 P), (3, boot_o_3 P), (4, boot_o_4 P), (12, ⟨.none, none, .fields #[], #[]⟩), (13, o_13 P)]
noncomputable def l2 (P : Params) : List (Nat × Obj) := [(0, boot_o_0 P), (2, p_2 P), (3, p_3 P), (4, o_4 P), (12, p_12 P), (13, o_13 P), (198, o_198 P), (199, p_199 P), (216, o_216 P), (217, o_217 P), (219, o_219 P), (220, o_220 P)]
noncomputable def l3 (P : Params) : List (Nat × Obj) := [(0, boot_o_0 P), (2, p_2 P), (3, q_3 P), (4, o_4 P), (12, q_12 P), (13, o_13 P)]
noncomputable def k1 (P : Params) : List (Nat × Obj) := [(20, o_20 P), (21, o_21 P), (34, o_34 P), (35, o_35 P), (41, o_41 P), (42, o_42 P), (48, o_48 P), (49, o_49 P), (55, o_55 P), (56, o_56 P), (62, o_62 P), (63, o_63 P), (69, o_69 P), (70, o_70 P), (76, o_76 P), (77, o_77 P), (83, o_83 P), (84, o_84 P), (90, o_90 P), (91, o_91 P), (97, o_97 P), (98, o_98 P), (104, o_104 P), (105, o_105 P), (111, o_111 P), (112, o_112 P), (118, o_118 P), (119, o_119 P), (125, o_125 P), (126, o_126 P), (132, o_132 P), (133, o_133 P), (139, o_139 P), (140, o_140 P), (146, o_146 P), (147, o_147 P), (153, o_153 P), (154, o_154 P), (160, o_160 P), (161, o_161 P), (167, o_167 P), (168, o_168 P), (174, o_174 P), (175, o_175 P), (181, o_181 P), (182, o_182 P), (188, o_188 P), (189, o_189 P), (195, o_195 P), (196, o_196 P), (198, o_198 P), (200, o_200 P), (201, o_201 P), (216, o_216 P), (217, o_217 P), (219, o_219 P), (220, o_220 P), (221, o_221 P), (222, o_222 P)]
noncomputable def k2 (P : Params) : List (Nat × Obj) := [(199, o_199 P), (238, o_238 P), (239, o_239 P), (245, o_245 P), (246, o_246 P), (252, o_252 P), (253, o_253 P), (259, o_259 P), (260, o_260 P), (266, o_266 P), (267, o_267 P), (273, o_273 P), (274, o_274 P), (280, o_280 P), (281, o_281 P), (287, o_287 P), (288, o_288 P), (294, o_294 P), (295, o_295 P), (301, o_301 P), (302, o_302 P), (926, o_926 P), (927, o_927 P)]
noncomputable def k3 (P : Params) : List (Nat × Obj) := [(0, boot_o_0 P), (2, o_2 P), (3, o_3 P), (4, o_4 P), (938, o_938 P), (939, o_939 P), (940, o_940 P), (951, o_951 P), (952, o_952 P), (953, o_953 P), (964, o_964 P), (965, o_965 P), (966, o_966 P), (974, o_974 P), (975, o_975 P), (981, o_981 P), (982, o_982 P), (983, o_983 P), (984, o_984 P), (985, o_985 P), (986, o_986 P), (987, o_987 P), (988, o_988 P), (989, o_989 P), (990, o_990 P), (991, o_991 P), (992, o_992 P), (993, o_993 P), (994, o_994 P), (995, o_995 P), (996, o_996 P), (997, o_997 P), (998, o_998 P), (999, o_999 P), (1000, o_1000 P), (1001, o_1001 P), (1002, o_1002 P), (1003, o_1003 P), (1004, o_1004 P), (1005, o_1005 P), (1006, o_1006 P), (1007, o_1007 P), (1008, o_1008 P), (1009, o_1009 P), (1010, o_1010 P), (1011, o_1011 P), (1012, o_1012 P), (1013, o_1013 P), (1014, o_1014 P), (1015, o_1015 P), (1021, o_1021 P), (1022, o_1022 P), (1028, o_1028 P), (1029, o_1029 P), (1035, o_1035 P), (1036, o_1036 P), (1042, o_1042 P), (1043, o_1043 P), (1049, o_1049 P), (1050, o_1050 P), (1054, o_1054 P), (1055, o_1055 P), (1061, o_1061 P), (1062, o_1062 P), (1068, o_1068 P), (1069, o_1069 P), (1075, o_1075 P), (1076, o_1076 P)]
/-- the Among tables: lists, instances, their dicts -/
noncomputable def amF (P : Params) : List (Nat × Obj) := [
  (303, amD P 622 (sn []) 613 624 (.int (-1) 615) 626 (.int 6 616)),
  (304, instObj 220 303),
  (306, amD P 635 (sn [225]) 627 637 (.int 0 628) 639 (.int 1 629)),
  (307, instObj 220 306),
  (309, amD P 648 (sn [233]) 640 650 (.int 0 641) 652 (.int 2 642)),
  (310, instObj 220 309),
  (312, amD P 661 (sn [237]) 653 663 (.int 0 654) 665 (.int 3 655)),
  (313, instObj 220 312),
  (315, amD P 674 (sn [243]) 666 676 (.int 0 667) 678 (.int 4 668)),
  (316, instObj 220 315),
  (318, amD P 687 (sn [250]) 679 689 (.int 0 680) 691 (.int 5 681)),
  (319, instObj 220 318),
  (321, ⟨(.type "list"), none, (.seq (List.toArray [(.ref 304), (.ref 307), (.ref 310), (.ref 313), (.ref 316), (.ref 319)]) 0), List.toArray []⟩),
  (322, amD P 703 (sn [108, 97]) 693 705 (.int (-1) 695) 707 (.int (-1) 697)),
  (323, instObj 220 322),
  (325, amD P 717 (sn [115, 101, 108, 97]) 708 719 (.int 0 709) 721 (.int (-1) 711)),
  (326, instObj 220 325),
  (328, amD P 732 (sn [108, 101]) 722 734 (.int (-1) 724) 736 (.int (-1) 726)),
  (329, instObj 220 328),
  (331, amD P 747 (sn [109, 101]) 737 749 (.int (-1) 739) 751 (.int (-1) 741)),
  (332, instObj 220 331),
  (334, amD P 762 (sn [115, 101]) 752 764 (.int (-1) 754) 766 (.int (-1) 756)),
  (335, instObj 220 334),
  (337, amD P 777 (sn [108, 111]) 767 779 (.int (-1) 769) 781 (.int (-1) 771)),
  (338, instObj 220 337),
  (340, amD P 791 (sn [115, 101, 108, 111]) 782 793 (.int 5 783) 795 (.int (-1) 785)),
  (341, instObj 220 340),
  (343, amD P 806 (sn [108, 97, 115]) 796 808 (.int (-1) 798) 810 (.int (-1) 800)),
  (344, instObj 220 343),
  (346, amD P 820 (sn [115, 101, 108, 97, 115]) 811 822 (.int 7 812) 824 (.int (-1) 814)),
  (347, instObj 220 346),
  (349, amD P 835 (sn [108, 101, 115]) 825 837 (.int (-1) 827) 839 (.int (-1) 829)),
  (350, instObj 220 349),
  (352, amD P 850 (sn [108, 111, 115]) 840 852 (.int (-1) 842) 854 (.int (-1) 844)),
  (353, instObj 220 352),
  (355, amD P 864 (sn [115, 101, 108, 111, 115]) 855 866 (.int 10 856) 868 (.int (-1) 858)),
  (356, instObj 220 355),
  (358, amD P 879 (sn [110, 111, 115]) 869 881 (.int (-1) 871) 883 (.int (-1) 873)),
  (359, instObj 220 358),
  (361, ⟨(.type "list"), none, (.seq (List.toArray [(.ref 323), (.ref 326), (.ref 329), (.ref 332), (.ref 335), (.ref 338), (.ref 341), (.ref 344), (.ref 347), (.ref 350), (.ref 353), (.ref 356), (.ref 359)]) 0), List.toArray []⟩),
  (362, amD P 894 (sn [97, 110, 100, 111]) 885 896 (.int (-1) 887) 898 (.int 6 888)),
  (363, instObj 220 362),
  (365, amD P 908 (sn [105, 101, 110, 100, 111]) 899 910 (.int (-1) 901) 912 (.int 6 902)),
  (366, instObj 220 365),
  (368, amD P 922 (sn [121, 101, 110, 100, 111]) 913 924 (.int (-1) 915) 926 (.int 7 916)),
  (369, instObj 220 368),
  (371, amD P 936 (sn [225, 110, 100, 111]) 927 938 (.int (-1) 929) 940 (.int 2 930)),
  (372, instObj 220 371),
  (374, amD P 950 (sn [105, 233, 110, 100, 111]) 941 952 (.int (-1) 943) 954 (.int 1 944)),
  (375, instObj 220 374),
  (377, amD P 964 (sn [97, 114]) 955 966 (.int (-1) 957) 968 (.int 6 958)),
  (378, instObj 220 377),
  (380, amD P 978 (sn [101, 114]) 969 980 (.int (-1) 971) 982 (.int 6 972)),
  (381, instObj 220 380),
  (383, amD P 992 (sn [105, 114]) 983 994 (.int (-1) 985) 996 (.int 6 986)),
  (384, instObj 220 383),
  (386, amD P 1006 (sn [225, 114]) 997 1008 (.int (-1) 999) 1010 (.int 3 1000)),
  (387, instObj 220 386),
  (389, amD P 1020 (sn [233, 114]) 1011 1022 (.int (-1) 1013) 1024 (.int 4 1014)),
  (390, instObj 220 389),
  (392, amD P 1034 (sn [237, 114]) 1025 1036 (.int (-1) 1027) 1038 (.int 5 1028)),
  (393, instObj 220 392),
  (395, ⟨(.type "list"), none, (.seq (List.toArray [(.ref 363), (.ref 366), (.ref 369), (.ref 372), (.ref 375), (.ref 378), (.ref 381), (.ref 384), (.ref 387), (.ref 390), (.ref 393)]) 0), List.toArray []⟩),
  (396, amD P 1050 (sn [105, 99]) 1040 1052 (.int (-1) 1042) 1054 (.int (-1) 1044)),
  (397, instObj 220 396),
  (399, amD P 1065 (sn [97, 100]) 1055 1067 (.int (-1) 1057) 1069 (.int (-1) 1059)),
  (400, instObj 220 399),
  (402, amD P 1080 (sn [111, 115]) 1070 1082 (.int (-1) 1072) 1084 (.int (-1) 1074)),
  (403, instObj 220 402),
  (405, amD P 1094 (sn [105, 118]) 1085 1096 (.int (-1) 1087) 1098 (.int 1 1088)),
  (406, instObj 220 405),
  (408, ⟨(.type "list"), none, (.seq (List.toArray [(.ref 397), (.ref 400), (.ref 403), (.ref 406)]) 0), List.toArray []⟩),
  (409, amD P 1109 (sn [97, 98, 108, 101]) 1100 1111 (.int (-1) 1102) 1113 (.int 1 1103)),
  (410, instObj 220 409),
  (412, amD P 1123 (sn [105, 98, 108, 101]) 1114 1125 (.int (-1) 1116) 1127 (.int 1 1117)),
  (413, instObj 220 412),
  (415, amD P 1137 (sn [97, 110, 116, 101]) 1128 1139 (.int (-1) 1130) 1141 (.int 1 1131)),
  (416, instObj 220 415),
  (418, ⟨(.type "list"), none, (.seq (List.toArray [(.ref 410), (.ref 413), (.ref 416)]) 0), List.toArray []⟩),
  (419, amD P 1152 (sn [105, 99]) 1143 1154 (.int (-1) 1145) 1156 (.int 1 1146)),
  (420, instObj 220 419),
  (422, amD P 1166 (sn [97, 98, 105, 108]) 1157 1168 (.int (-1) 1159) 1170 (.int 1 1160)),
  (423, instObj 220 422),
  (425, amD P 1180 (sn [105, 118]) 1171 1182 (.int (-1) 1173) 1184 (.int 1 1174)),
  (426, instObj 220 425),
  (428, ⟨(.type "list"), none, (.seq (List.toArray [(.ref 420), (.ref 423), (.ref 426)]) 0), List.toArray []⟩),
  (429, amD P 1195 (sn [105, 99, 97]) 1186 1197 (.int (-1) 1188) 1199 (.int 1 1189)),
  (430, instObj 220 429),
  (432, amD P 1209 (sn [97, 110, 99, 105, 97]) 1200 1211 (.int (-1) 1202) 1213 (.int 2 1203)),
  (433, instObj 220 432),
  (435, amD P 1223 (sn [101, 110, 99, 105, 97]) 1214 1225 (.int (-1) 1216) 1227 (.int 5 1217)),
  (436, instObj 220 435),
  (438, amD P 1237 (sn [97, 100, 111, 114, 97]) 1228 1239 (.int (-1) 1230) 1241 (.int 2 1231)),
  (439, instObj 220 438),
  (441, amD P 1251 (sn [111, 115, 97]) 1242 1253 (.int (-1) 1244) 1255 (.int 1 1245)),
  (442, instObj 220 441),
  (444, amD P 1265 (sn [105, 115, 116, 97]) 1256 1267 (.int (-1) 1258) 1269 (.int 1 1259)),
  (445, instObj 220 444),
  (447, amD P 1279 (sn [105, 118, 97]) 1270 1281 (.int (-1) 1272) 1283 (.int 9 1273)),
  (448, instObj 220 447),
  (450, amD P 1293 (sn [97, 110, 122, 97]) 1284 1295 (.int (-1) 1286) 1297 (.int 1 1287)),
  (451, instObj 220 450),
  (453, amD P 1307 (sn [108, 111, 103, 237, 97]) 1298 1309 (.int (-1) 1300) 1311 (.int 3 1301)),
  (454, instObj 220 453),
  (456, amD P 1321 (sn [105, 100, 97, 100]) 1312 1323 (.int (-1) 1314) 1325 (.int 8 1315)),
  (457, instObj 220 456),
  (459, amD P 1335 (sn [97, 98, 108, 101]) 1326 1337 (.int (-1) 1328) 1339 (.int 1 1329)),
  (460, instObj 220 459),
  (462, amD P 1349 (sn [105, 98, 108, 101]) 1340 1351 (.int (-1) 1342) 1353 (.int 1 1343)),
  (463, instObj 220 462),
  (465, amD P 1363 (sn [97, 110, 116, 101]) 1354 1365 (.int (-1) 1356) 1367 (.int 2 1357)),
  (466, instObj 220 465),
  (468, amD P 1377 (sn [109, 101, 110, 116, 101]) 1368 1379 (.int (-1) 1370) 1381 (.int 7 1371)),
  (469, instObj 220 468),
  (471, amD P 1390 (sn [97, 109, 101, 110, 116, 101]) 1382 1392 (.int 13 1383) 1394 (.int 6 1384)),
  (472, instObj 220 471),
  (474, amD P 1404 (sn [97, 99, 105, 111, 110]) 1395 1406 (.int (-1) 1397) 1408 (.int 2 1398)),
  (475, instObj 220 474),
  (477, amD P 1418 (sn [117, 99, 105, 111, 110]) 1409 1420 (.int (-1) 1411) 1422 (.int 4 1412)),
  (478, instObj 220 477),
  (480, amD P 1432 (sn [97, 99, 105, 243, 110]) 1423 1434 (.int (-1) 1425) 1436 (.int 2 1426)),
  (481, instObj 220 480),
  (483, amD P 1446 (sn [117, 99, 105, 243, 110]) 1437 1448 (.int (-1) 1439) 1450 (.int 4 1440)),
  (484, instObj 220 483),
  (486, amD P 1460 (sn [105, 99, 111]) 1451 1462 (.int (-1) 1453) 1464 (.int 1 1454)),
  (487, instObj 220 486),
  (489, amD P 1474 (sn [105, 115, 109, 111]) 1465 1476 (.int (-1) 1467) 1478 (.int 1 1468)),
  (490, instObj 220 489),
  (492, amD P 1488 (sn [111, 115, 111]) 1479 1490 (.int (-1) 1481) 1492 (.int 1 1482)),
  (493, instObj 220 492),
  (495, amD P 1502 (sn [97, 109, 105, 101, 110, 116, 111]) 1493 1504 (.int (-1) 1495) 1506 (.int 1 1496)),
  (496, instObj 220 495),
  (498, amD P 1516 (sn [105, 109, 105, 101, 110, 116, 111]) 1507 1518 (.int (-1) 1509) 1520 (.int 1 1510)),
  (499, instObj 220 498),
  (501, amD P 1530 (sn [105, 118, 111]) 1521 1532 (.int (-1) 1523) 1534 (.int 9 1524)),
  (502, instObj 220 501),
  (504, amD P 1544 (sn [97, 100, 111, 114]) 1535 1546 (.int (-1) 1537) 1548 (.int 2 1538)),
  (505, instObj 220 504),
  (507, amD P 1558 (sn [105, 99, 97, 115]) 1549 1560 (.int (-1) 1551) 1562 (.int 1 1552)),
  (508, instObj 220 507),
  (510, amD P 1572 (sn [97, 110, 99, 105, 97, 115]) 1563 1574 (.int (-1) 1565) 1576 (.int 2 1566)),
  (511, instObj 220 510),
  (513, amD P 1586 (sn [101, 110, 99, 105, 97, 115]) 1577 1588 (.int (-1) 1579) 1590 (.int 5 1580)),
  (514, instObj 220 513),
  (516, amD P 1600 (sn [97, 100, 111, 114, 97, 115]) 1591 1602 (.int (-1) 1593) 1604 (.int 2 1594)),
  (517, instObj 220 516),
  (519, amD P 1614 (sn [111, 115, 97, 115]) 1605 1616 (.int (-1) 1607) 1618 (.int 1 1608)),
  (520, instObj 220 519),
  (522, amD P 1628 (sn [105, 115, 116, 97, 115]) 1619 1630 (.int (-1) 1621) 1632 (.int 1 1622)),
  (523, instObj 220 522),
  (525, amD P 1642 (sn [105, 118, 97, 115]) 1633 1644 (.int (-1) 1635) 1646 (.int 9 1636)),
  (526, instObj 220 525),
  (528, amD P 1656 (sn [97, 110, 122, 97, 115]) 1647 1658 (.int (-1) 1649) 1660 (.int 1 1650)),
  (529, instObj 220 528),
  (531, amD P 1670 (sn [108, 111, 103, 237, 97, 115]) 1661 1672 (.int (-1) 1663) 1674 (.int 3 1664)),
  (532, instObj 220 531),
  (534, amD P 1684 (sn [105, 100, 97, 100, 101, 115]) 1675 1686 (.int (-1) 1677) 1688 (.int 8 1678)),
  (535, instObj 220 534),
  (537, amD P 1698 (sn [97, 98, 108, 101, 115]) 1689 1700 (.int (-1) 1691) 1702 (.int 1 1692)),
  (538, instObj 220 537),
  (540, amD P 1712 (sn [105, 98, 108, 101, 115]) 1703 1714 (.int (-1) 1705) 1716 (.int 1 1706)),
  (541, instObj 220 540),
  (543, amD P 1726 (sn [97, 99, 105, 111, 110, 101, 115]) 1717 1728 (.int (-1) 1719) 1730 (.int 2 1720)),
  (544, instObj 220 543),
  (546, amD P 1740 (sn [117, 99, 105, 111, 110, 101, 115]) 1731 1742 (.int (-1) 1733) 1744 (.int 4 1734)),
  (547, instObj 220 546),
  (549, amD P 1754 (sn [97, 100, 111, 114, 101, 115]) 1745 1756 (.int (-1) 1747) 1758 (.int 2 1748)),
  (550, instObj 220 549),
  (552, amD P 1768 (sn [97, 110, 116, 101, 115]) 1759 1770 (.int (-1) 1761) 1772 (.int 2 1762)),
  (553, instObj 220 552),
  (555, amD P 1782 (sn [105, 99, 111, 115]) 1773 1784 (.int (-1) 1775) 1786 (.int 1 1776)),
  (556, instObj 220 555),
  (558, amD P 1796 (sn [105, 115, 109, 111, 115]) 1787 1798 (.int (-1) 1789) 1800 (.int 1 1790)),
  (559, instObj 220 558),
  (561, amD P 1810 (sn [111, 115, 111, 115]) 1801 1812 (.int (-1) 1803) 1814 (.int 1 1804)),
  (562, instObj 220 561),
  (564, amD P 1824 (sn [97, 109, 105, 101, 110, 116, 111, 115]) 1815 1826 (.int (-1) 1817) 1828 (.int 1 1818)),
  (565, instObj 220 564),
  (567, amD P 1838 (sn [105, 109, 105, 101, 110, 116, 111, 115]) 1829 1840 (.int (-1) 1831) 1842 (.int 1 1832)),
  (568, instObj 220 567),
  (570, amD P 1852 (sn [105, 118, 111, 115]) 1843 1854 (.int (-1) 1845) 1856 (.int 9 1846)),
  (571, instObj 220 570),
  (573, ⟨(.type "list"), none, (.seq (List.toArray [(.ref 430), (.ref 433), (.ref 436), (.ref 439), (.ref 442), (.ref 445), (.ref 448), (.ref 451), (.ref 454), (.ref 457), (.ref 460), (.ref 463), (.ref 466), (.ref 469), (.ref 472), (.ref 475), (.ref 478), (.ref 481), (.ref 484), (.ref 487), (.ref 490), (.ref 493), (.ref 496), (.ref 499), (.ref 502), (.ref 505), (.ref 508), (.ref 511), (.ref 514), (.ref 517), (.ref 520), (.ref 523), (.ref 526), (.ref 529), (.ref 532), (.ref 535), (.ref 538), (.ref 541), (.ref 544), (.ref 547), (.ref 550), (.ref 553), (.ref 556), (.ref 559), (.ref 562), (.ref 565), (.ref 568), (.ref 571)]) 0), List.toArray []⟩),
  (574, amD P 1867 (sn [121, 97]) 1858 1869 (.int (-1) 1860) 1871 (.int 1 1861)),
  (575, instObj 220 574),
  (577, amD P 1881 (sn [121, 101]) 1872 1883 (.int (-1) 1874) 1885 (.int 1 1875)),
  (578, instObj 220 577),
  (580, amD P 1895 (sn [121, 97, 110]) 1886 1897 (.int (-1) 1888) 1899 (.int 1 1889)),
  (581, instObj 220 580),
  (583, amD P 1909 (sn [121, 101, 110]) 1900 1911 (.int (-1) 1902) 1913 (.int 1 1903)),
  (584, instObj 220 583),
  (586, amD P 1923 (sn [121, 101, 114, 111, 110]) 1914 1925 (.int (-1) 1916) 1927 (.int 1 1917)),
  (587, instObj 220 586),
  (589, amD P 1937 (sn [121, 101, 110, 100, 111]) 1928 1939 (.int (-1) 1930) 1941 (.int 1 1931)),
  (590, instObj 220 589),
  (592, amD P 1951 (sn [121, 111]) 1942 1953 (.int (-1) 1944) 1955 (.int 1 1945)),
  (593, instObj 220 592),
  (595, amD P 1965 (sn [121, 97, 115]) 1956 1967 (.int (-1) 1958) 1969 (.int 1 1959)),
  (596, instObj 220 595),
  (598, amD P 1979 (sn [121, 101, 115]) 1970 1981 (.int (-1) 1972) 1983 (.int 1 1973)),
  (599, instObj 220 598),
  (601, amD P 1993 (sn [121, 97, 105, 115]) 1984 1995 (.int (-1) 1986) 1997 (.int 1 1987)),
  (602, instObj 220 601),
  (604, amD P 2007 (sn [121, 97, 109, 111, 115]) 1998 2009 (.int (-1) 2000) 2011 (.int 1 2001)),
  (605, instObj 220 604),
  (607, amD P 2021 (sn [121, 243]) 2012 2023 (.int (-1) 2014) 2025 (.int 1 2015)),
  (608, instObj 220 607),
  (610, ⟨(.type "list"), none, (.seq (List.toArray [(.ref 575), (.ref 578), (.ref 581), (.ref 584), (.ref 587), (.ref 590), (.ref 593), (.ref 596), (.ref 599), (.ref 602), (.ref 605), (.ref 608)]) 0), List.toArray []⟩),
  (611, amD P 2036 (sn [97, 98, 97]) 2027 2038 (.int (-1) 2029) 2040 (.int 2 2030)),
  (612, instObj 220 611),
  (614, amD P 2050 (sn [97, 100, 97]) 2041 2052 (.int (-1) 2043) 2054 (.int 2 2044)),
  (615, instObj 220 614),
  (617, amD P 2064 (sn [105, 100, 97]) 2055 2066 (.int (-1) 2057) 2068 (.int 2 2058)),
  (618, instObj 220 617),
  (620, amD P 2078 (sn [97, 114, 97]) 2069 2080 (.int (-1) 2071) 2082 (.int 2 2072)),
  (621, instObj 220 620),
  (623, amD P 2092 (sn [105, 101, 114, 97]) 2083 2094 (.int (-1) 2085) 2096 (.int 2 2086)),
  (624, instObj 220 623),
  (626, amD P 2106 (sn [237, 97]) 2097 2108 (.int (-1) 2099) 2110 (.int 2 2100)),
  (627, instObj 220 626),
  (629, amD P 2119 (sn [97, 114, 237, 97]) 2111 2121 (.int 5 2112) 2123 (.int 2 2113)),
  (630, instObj 220 629),
  (632, amD P 2132 (sn [101, 114, 237, 97]) 2124 2134 (.int 5 2125) 2136 (.int 2 2126)),
  (633, instObj 220 632),
  (635, amD P 2145 (sn [105, 114, 237, 97]) 2137 2147 (.int 5 2138) 2149 (.int 2 2139)),
  (636, instObj 220 635),
  (638, amD P 2159 (sn [97, 100]) 2150 2161 (.int (-1) 2152) 2163 (.int 2 2153)),
  (639, instObj 220 638),
  (641, amD P 2173 (sn [101, 100]) 2164 2175 (.int (-1) 2166) 2177 (.int 2 2167)),
  (642, instObj 220 641),
  (644, amD P 2187 (sn [105, 100]) 2178 2189 (.int (-1) 2180) 2191 (.int 2 2181)),
  (645, instObj 220 644),
  (647, amD P 2201 (sn [97, 115, 101]) 2192 2203 (.int (-1) 2194) 2205 (.int 2 2195)),
  (648, instObj 220 647),
  (650, amD P 2215 (sn [105, 101, 115, 101]) 2206 2217 (.int (-1) 2208) 2219 (.int 2 2209)),
  (651, instObj 220 650),
  (653, amD P 2229 (sn [97, 115, 116, 101]) 2220 2231 (.int (-1) 2222) 2233 (.int 2 2223)),
  (654, instObj 220 653),
  (656, amD P 2243 (sn [105, 115, 116, 101]) 2234 2245 (.int (-1) 2236) 2247 (.int 2 2237)),
  (657, instObj 220 656),
  (659, amD P 2257 (sn [97, 110]) 2248 2259 (.int (-1) 2250) 2261 (.int 2 2251)),
  (660, instObj 220 659),
  (662, amD P 2270 (sn [97, 98, 97, 110]) 2262 2272 (.int 16 2263) 2274 (.int 2 2264)),
  (663, instObj 220 662),
  (665, amD P 2283 (sn [97, 114, 97, 110]) 2275 2285 (.int 16 2276) 2287 (.int 2 2277)),
  (666, instObj 220 665),
  (668, amD P 2296 (sn [105, 101, 114, 97, 110]) 2288 2298 (.int 16 2289) 2300 (.int 2 2290)),
  (669, instObj 220 668),
  (671, amD P 2309 (sn [237, 97, 110]) 2301 2311 (.int 16 2302) 2313 (.int 2 2303)),
  (672, instObj 220 671),
  (674, amD P 2322 (sn [97, 114, 237, 97, 110]) 2314 2324 (.int 20 2315) 2326 (.int 2 2316)),
  (675, instObj 220 674),
  (677, amD P 2335 (sn [101, 114, 237, 97, 110]) 2327 2337 (.int 20 2328) 2339 (.int 2 2329)),
  (678, instObj 220 677),
  (680, amD P 2348 (sn [105, 114, 237, 97, 110]) 2340 2350 (.int 20 2341) 2352 (.int 2 2342)),
  (681, instObj 220 680),
  (683, amD P 2362 (sn [101, 110]) 2353 2364 (.int (-1) 2355) 2366 (.int 1 2356)),
  (684, instObj 220 683),
  (686, amD P 2375 (sn [97, 115, 101, 110]) 2367 2377 (.int 24 2368) 2379 (.int 2 2369)),
  (687, instObj 220 686),
  (689, amD P 2388 (sn [105, 101, 115, 101, 110]) 2380 2390 (.int 24 2381) 2392 (.int 2 2382)),
  (690, instObj 220 689),
  (692, amD P 2402 (sn [97, 114, 111, 110]) 2393 2404 (.int (-1) 2395) 2406 (.int 2 2396)),
  (693, instObj 220 692),
  (695, amD P 2416 (sn [105, 101, 114, 111, 110]) 2407 2418 (.int (-1) 2409) 2420 (.int 2 2410)),
  (696, instObj 220 695),
  (698, amD P 2430 (sn [97, 114, 225, 110]) 2421 2432 (.int (-1) 2423) 2434 (.int 2 2424)),
  (699, instObj 220 698),
  (701, amD P 2444 (sn [101, 114, 225, 110]) 2435 2446 (.int (-1) 2437) 2448 (.int 2 2438)),
  (702, instObj 220 701),
  (704, amD P 2458 (sn [105, 114, 225, 110]) 2449 2460 (.int (-1) 2451) 2462 (.int 2 2452)),
  (705, instObj 220 704),
  (707, amD P 2472 (sn [97, 100, 111]) 2463 2474 (.int (-1) 2465) 2476 (.int 2 2466)),
  (708, instObj 220 707),
  (710, amD P 2486 (sn [105, 100, 111]) 2477 2488 (.int (-1) 2479) 2490 (.int 2 2480)),
  (711, instObj 220 710),
  (713, amD P 2500 (sn [97, 110, 100, 111]) 2491 2502 (.int (-1) 2493) 2504 (.int 2 2494)),
  (714, instObj 220 713),
  (716, amD P 2514 (sn [105, 101, 110, 100, 111]) 2505 2516 (.int (-1) 2507) 2518 (.int 2 2508)),
  (717, instObj 220 716),
  (719, amD P 2528 (sn [97, 114]) 2519 2530 (.int (-1) 2521) 2532 (.int 2 2522)),
  (720, instObj 220 719),
  (722, amD P 2542 (sn [101, 114]) 2533 2544 (.int (-1) 2535) 2546 (.int 2 2536)),
  (723, instObj 220 722),
  (725, amD P 2556 (sn [105, 114]) 2547 2558 (.int (-1) 2549) 2560 (.int 2 2550)),
  (726, instObj 220 725),
  (728, amD P 2570 (sn [97, 115]) 2561 2572 (.int (-1) 2563) 2574 (.int 2 2564)),
  (729, instObj 220 728),
  (731, amD P 2583 (sn [97, 98, 97, 115]) 2575 2585 (.int 39 2576) 2587 (.int 2 2577)),
  (732, instObj 220 731),
  (734, amD P 2596 (sn [97, 100, 97, 115]) 2588 2598 (.int 39 2589) 2600 (.int 2 2590)),
  (735, instObj 220 734),
  (737, amD P 2609 (sn [105, 100, 97, 115]) 2601 2611 (.int 39 2602) 2613 (.int 2 2603)),
  (738, instObj 220 737),
  (740, amD P 2622 (sn [97, 114, 97, 115]) 2614 2624 (.int 39 2615) 2626 (.int 2 2616)),
  (741, instObj 220 740),
  (743, amD P 2635 (sn [105, 101, 114, 97, 115]) 2627 2637 (.int 39 2628) 2639 (.int 2 2629)),
  (744, instObj 220 743),
  (746, amD P 2648 (sn [237, 97, 115]) 2640 2650 (.int 39 2641) 2652 (.int 2 2642)),
  (747, instObj 220 746),
  (749, amD P 2661 (sn [97, 114, 237, 97, 115]) 2653 2663 (.int 45 2654) 2665 (.int 2 2655)),
  (750, instObj 220 749),
  (752, amD P 2674 (sn [101, 114, 237, 97, 115]) 2666 2676 (.int 45 2667) 2678 (.int 2 2668)),
  (753, instObj 220 752),
  (755, amD P 2687 (sn [105, 114, 237, 97, 115]) 2679 2689 (.int 45 2680) 2691 (.int 2 2681)),
  (756, instObj 220 755),
  (758, amD P 2701 (sn [101, 115]) 2692 2703 (.int (-1) 2694) 2705 (.int 1 2695)),
  (759, instObj 220 758),
  (761, amD P 2714 (sn [97, 115, 101, 115]) 2706 2716 (.int 49 2707) 2718 (.int 2 2708)),
  (762, instObj 220 761),
  (764, amD P 2727 (sn [105, 101, 115, 101, 115]) 2719 2729 (.int 49 2720) 2731 (.int 2 2721)),
  (765, instObj 220 764),
  (767, amD P 2741 (sn [97, 98, 97, 105, 115]) 2732 2743 (.int (-1) 2734) 2745 (.int 2 2735)),
  (768, instObj 220 767),
  (770, amD P 2755 (sn [97, 114, 97, 105, 115]) 2746 2757 (.int (-1) 2748) 2759 (.int 2 2749)),
  (771, instObj 220 770),
  (773, amD P 2769 (sn [105, 101, 114, 97, 105, 115]) 2760 2771 (.int (-1) 2762) 2773 (.int 2 2763)),
  (774, instObj 220 773),
  (776, amD P 2783 (sn [237, 97, 105, 115]) 2774 2785 (.int (-1) 2776) 2787 (.int 2 2777)),
  (777, instObj 220 776),
  (779, amD P 2796 (sn [97, 114, 237, 97, 105, 115]) 2788 2798 (.int 55 2789) 2800 (.int 2 2790)),
  (780, instObj 220 779),
  (782, amD P 2809 (sn [101, 114, 237, 97, 105, 115]) 2801 2811 (.int 55 2802) 2813 (.int 2 2803)),
  (783, instObj 220 782),
  (785, amD P 2822 (sn [105, 114, 237, 97, 105, 115]) 2814 2824 (.int 55 2815) 2826 (.int 2 2816)),
  (786, instObj 220 785),
  (788, amD P 2836 (sn [97, 115, 101, 105, 115]) 2827 2838 (.int (-1) 2829) 2840 (.int 2 2830)),
  (789, instObj 220 788),
  (791, amD P 2850 (sn [105, 101, 115, 101, 105, 115]) 2841 2852 (.int (-1) 2843) 2854 (.int 2 2844)),
  (792, instObj 220 791),
  (794, amD P 2864 (sn [97, 115, 116, 101, 105, 115]) 2855 2866 (.int (-1) 2857) 2868 (.int 2 2858)),
  (795, instObj 220 794),
  (797, amD P 2878 (sn [105, 115, 116, 101, 105, 115]) 2869 2880 (.int (-1) 2871) 2882 (.int 2 2872)),
  (798, instObj 220 797),
  (800, amD P 2892 (sn [225, 105, 115]) 2883 2894 (.int (-1) 2885) 2896 (.int 2 2886)),
  (801, instObj 220 800),
  (803, amD P 2906 (sn [233, 105, 115]) 2897 2908 (.int (-1) 2899) 2910 (.int 1 2900)),
  (804, instObj 220 803),
  (806, amD P 2919 (sn [97, 114, 233, 105, 115]) 2911 2921 (.int 64 2912) 2923 (.int 2 2913)),
  (807, instObj 220 806),
  (809, amD P 2932 (sn [101, 114, 233, 105, 115]) 2924 2934 (.int 64 2925) 2936 (.int 2 2926)),
  (810, instObj 220 809),
  (812, amD P 2945 (sn [105, 114, 233, 105, 115]) 2937 2947 (.int 64 2938) 2949 (.int 2 2939)),
  (813, instObj 220 812),
  (815, amD P 2959 (sn [97, 100, 111, 115]) 2950 2961 (.int (-1) 2952) 2963 (.int 2 2953)),
  (816, instObj 220 815),
  (818, amD P 2973 (sn [105, 100, 111, 115]) 2964 2975 (.int (-1) 2966) 2977 (.int 2 2967)),
  (819, instObj 220 818),
  (821, amD P 2987 (sn [97, 109, 111, 115]) 2978 2989 (.int (-1) 2980) 2991 (.int 2 2981)),
  (822, instObj 220 821),
  (824, amD P 3000 (sn [225, 98, 97, 109, 111, 115]) 2992 3002 (.int 70 2993) 3004 (.int 2 2994)),
  (825, instObj 220 824),
  (827, amD P 3013 (sn [225, 114, 97, 109, 111, 115]) 3005 3015 (.int 70 3006) 3017 (.int 2 3007)),
  (828, instObj 220 827),
  (830, amD P 3026 (sn [105, 233, 114, 97, 109, 111, 115]) 3018 3028 (.int 70 3019) 3030 (.int 2 3020)),
  (831, instObj 220 830),
  (833, amD P 3039 (sn [237, 97, 109, 111, 115]) 3031 3041 (.int 70 3032) 3043 (.int 2 3033)),
  (834, instObj 220 833),
  (836, amD P 3052 (sn [97, 114, 237, 97, 109, 111, 115]) 3044 3054 (.int 74 3045) 3056 (.int 2 3046)),
  (837, instObj 220 836),
  (839, amD P 3065 (sn [101, 114, 237, 97, 109, 111, 115]) 3057 3067 (.int 74 3058) 3069 (.int 2 3059)),
  (840, instObj 220 839),
  (842, amD P 3078 (sn [105, 114, 237, 97, 109, 111, 115]) 3070 3080 (.int 74 3071) 3082 (.int 2 3072)),
  (843, instObj 220 842),
  (845, amD P 3092 (sn [101, 109, 111, 115]) 3083 3094 (.int (-1) 3085) 3096 (.int 1 3086)),
  (846, instObj 220 845),
  (848, amD P 3105 (sn [97, 114, 101, 109, 111, 115]) 3097 3107 (.int 78 3098) 3109 (.int 2 3099)),
  (849, instObj 220 848),
  (851, amD P 3118 (sn [101, 114, 101, 109, 111, 115]) 3110 3120 (.int 78 3111) 3122 (.int 2 3112)),
  (852, instObj 220 851),
  (854, amD P 3131 (sn [105, 114, 101, 109, 111, 115]) 3123 3133 (.int 78 3124) 3135 (.int 2 3125)),
  (855, instObj 220 854),
  (857, amD P 3144 (sn [225, 115, 101, 109, 111, 115]) 3136 3146 (.int 78 3137) 3148 (.int 2 3138)),
  (858, instObj 220 857),
  (860, amD P 3157 (sn [105, 233, 115, 101, 109, 111, 115]) 3149 3159 (.int 78 3150) 3161 (.int 2 3151)),
  (861, instObj 220 860),
  (863, amD P 3171 (sn [105, 109, 111, 115]) 3162 3173 (.int (-1) 3164) 3175 (.int 2 3165)),
  (864, instObj 220 863),
  (866, amD P 3185 (sn [97, 114, 225, 115]) 3176 3187 (.int (-1) 3178) 3189 (.int 2 3179)),
  (867, instObj 220 866),
  (869, amD P 3199 (sn [101, 114, 225, 115]) 3190 3201 (.int (-1) 3192) 3203 (.int 2 3193)),
  (870, instObj 220 869),
  (872, amD P 3213 (sn [105, 114, 225, 115]) 3204 3215 (.int (-1) 3206) 3217 (.int 2 3207)),
  (873, instObj 220 872),
  (875, amD P 3227 (sn [237, 115]) 3218 3229 (.int (-1) 3220) 3231 (.int 2 3221)),
  (876, instObj 220 875),
  (878, amD P 3241 (sn [97, 114, 225]) 3232 3243 (.int (-1) 3234) 3245 (.int 2 3235)),
  (879, instObj 220 878),
  (881, amD P 3255 (sn [101, 114, 225]) 3246 3257 (.int (-1) 3248) 3259 (.int 2 3249)),
  (882, instObj 220 881),
  (884, amD P 3269 (sn [105, 114, 225]) 3260 3271 (.int (-1) 3262) 3273 (.int 2 3263)),
  (885, instObj 220 884),
  (887, amD P 3283 (sn [97, 114, 233]) 3274 3285 (.int (-1) 3276) 3287 (.int 2 3277)),
  (888, instObj 220 887),
  (890, amD P 3297 (sn [101, 114, 233]) 3288 3299 (.int (-1) 3290) 3301 (.int 2 3291)),
  (891, instObj 220 890),
  (893, amD P 3311 (sn [105, 114, 233]) 3302 3313 (.int (-1) 3304) 3315 (.int 2 3305)),
  (894, instObj 220 893),
  (896, amD P 3325 (sn [105, 243]) 3316 3327 (.int (-1) 3318) 3329 (.int 2 3319)),
  (897, instObj 220 896),
  (899, ⟨(.type "list"), none, (.seq (List.toArray [(.ref 612), (.ref 615), (.ref 618), (.ref 621), (.ref 624), (.ref 627), (.ref 630), (.ref 633), (.ref 636), (.ref 639), (.ref 642), (.ref 645), (.ref 648), (.ref 651), (.ref 654), (.ref 657), (.ref 660), (.ref 663), (.ref 666), (.ref 669), (.ref 672), (.ref 675), (.ref 678), (.ref 681), (.ref 684), (.ref 687), (.ref 690), (.ref 693), (.ref 696), (.ref 699), (.ref 702), (.ref 705), (.ref 708), (.ref 711), (.ref 714), (.ref 717), (.ref 720), (.ref 723), (.ref 726), (.ref 729), (.ref 732), (.ref 735), (.ref 738), (.ref 741), (.ref 744), (.ref 747), (.ref 750), (.ref 753), (.ref 756), (.ref 759), (.ref 762), (.ref 765), (.ref 768), (.ref 771), (.ref 774), (.ref 777), (.ref 780), (.ref 783), (.ref 786), (.ref 789), (.ref 792), (.ref 795), (.ref 798), (.ref 801), (.ref 804), (.ref 807), (.ref 810), (.ref 813), (.ref 816), (.ref 819), (.ref 822), (.ref 825), (.ref 828), (.ref 831), (.ref 834), (.ref 837), (.ref 840), (.ref 843), (.ref 846), (.ref 849), (.ref 852), (.ref 855), (.ref 858), (.ref 861), (.ref 864), (.ref 867), (.ref 870), (.ref 873), (.ref 876), (.ref 879), (.ref 882), (.ref 885), (.ref 888), (.ref 891), (.ref 894), (.ref 897)]) 0), List.toArray []⟩),
  (900, amD P 3340 (sn [97]) 3331 3342 (.int (-1) 3333) 3344 (.int 1 3334)),
  (901, instObj 220 900),
  (903, amD P 3354 (sn [101]) 3345 3356 (.int (-1) 3347) 3358 (.int 2 3348)),
  (904, instObj 220 903),
  (906, amD P 3368 (sn [111]) 3359 3370 (.int (-1) 3361) 3372 (.int 1 3362)),
  (907, instObj 220 906),
  (909, amD P 3382 (sn [111, 115]) 3373 3384 (.int (-1) 3375) 3386 (.int 1 3376)),
  (910, instObj 220 909),
  (912, amD P 3396 (sn [225]) 3387 3398 (.int (-1) 3389) 3400 (.int 1 3390)),
  (913, instObj 220 912),
  (915, amD P 3410 (sn [233]) 3401 3412 (.int (-1) 3403) 3414 (.int 2 3404)),
  (916, instObj 220 915),
  (918, amD P 3424 (sn [237]) 3415 3426 (.int (-1) 3417) 3428 (.int 1 3418)),
  (919, instObj 220 918),
  (921, amD P 3438 (sn [243]) 3429 3440 (.int (-1) 3431) 3442 (.int 1 3432)),
  (922, instObj 220 921),
  (924, ⟨(.type "list"), none, (.seq (List.toArray [(.ref 901), (.ref 904), (.ref 907), (.ref 910), (.ref 913), (.ref 916), (.ref 919), (.ref 922)]) 0), List.toArray []⟩)
]
end Sp
end
section
open PySem PySem.W PySem.Calls PyProof.Rows
set_option maxRecDepth 100000
set_option maxHeartbeats 1000000
namespace Sp
/-- what a call of Among needs of the heap -/
noncomputable def kAm (P : Params) : Frag := [(216, o_216 P), (217, o_217 P), (219, o_219 P), (220, o_220 P)]
theorem local_name {M : Model} {A : Around} {E : Value → Shared → Prop} {s : Shared} {name : Str} {scope : Scope} {L a : Addr} {cd : Value} {x : Str} {pos : Pos} {v : Value} {m : Str → Option Value} {Q : Value → Shared → Prop}
    (hn : s.heap.Ns L m) (hv : m x = some v) (h : Q v s) (hk : scope.kind = .function := by rfl) (hl : (envOf name scope L a cd).kindOf x = some .local := by rfl) (hd : (x == ("__debug__" : Str)) = false := by decide) :
    wpAny M A (eval (.Name x pos) (envOf name scope L a cd)) Q E s := wpAny_Name (wpAny_loadName_local hk hl hn hv h) hd
theorem mem_of_lookup {a : Nat} {o : Obj} : ∀ {l : List (Nat × Obj)}, l.lookup a = some o → (a, o) ∈ l
  | (b, p) :: l, h => by
    rw [List.lookup_cons] at h
    by_cases e : a = b
    · subst e
      simp at h
      subst h
      exact .head _
    · have : (a == b) = false := by simpa using e
      rw [this] at h
      exact .tail _ (mem_of_lookup h)
section
variable {w : World} {A : Around} {s : Shared} {R : Result → Shared → Prop}
theorem am_store {E : Value → Shared → Prop} {x dx : Addr} {es es' : List DictEntry} {n n' : Nat} {name : Str} {v : Value} {Q : Unit → Shared → Prop} {m : Str → Option Value} {L : Addr}
    (X : (kAm w.params).In s.heap) (hx : s.heap.get? x = some (instObj 220 dx)) (hdx : s.heap.get? dx = some (dictOf es n))
    (ht : takerIn (kAm w.params) 220 name = some none) (hl : (getL name es).isSome = true)
    (e : (putL name (PyData.keyHash w.params name) (.str name (s.toks + 1)) v es, putN name es n) = (es', n')) (hz : es'.length ≤ 1000) (hxd : x ≠ dx) (hL : s.heap.Ns L m) (hLd : L ≠ dx)
    (hK : ∀ p ∈ kAm w.params, p.1 ≠ dx)
    (h : ∀ h', h'.objs.size = s.heap.objs.size → (∀ b o, b ≠ dx → s.heap.get? b = some o → h'.get? b = some o) → (kAm w.params).In h' → h'.get? x = some (instObj 220 dx) → h'.get? dx = some (dictOf es' n') → h'.Ns L m → Q () { s with heap := h', toks := s.toks + 2 }) :
    wpAny (model pw w) A (setAttr (.ref x) name v) Q E s := by
  refine set_ex X ⟨hx, rfl, rfl, hdx⟩ rfl (by rfl) (by rfl) ht (by rfl) hl e hz fun h' hs hd => ?_
  have keep : ∀ b o, b ≠ dx → s.heap.get? b = some o → h'.get? b = some o := fun b o hb ho => (hs.2 b hb).trans ho
  refine h h' hs.1 keep (fun a o ho => keep a o ?_ (X a o ho)) (keep x _ hxd hx) hd ?_
  · intro q
    have hm : (a, o) ∈ kAm w.params := mem_of_lookup ho
    exact hK _ hm q
  · exact hL.sameBut hs hLd
theorem am_call {x : Str} {t u v : Nat} {i r : Int} (X : (kAm w.params).In s.heap) (hlim : s.heap.NoLimit) (hroom : A.depth + 3 < recursionLimit) (hn : 221 ≤ s.heap.objs.size)
    (h : ∀ h', h'.objs.size = s.heap.objs.size + 3 → h'.get? s.heap.objs.size = some (dictOf [ke w.params "s" (s.toks + 5) (.str x t), ke w.params "substring_i" (s.toks + 7) (.int i u), ke w.params "result" (s.toks + 9) (.int r v)] 3) →
      h'.get? (s.heap.objs.size + 1) = some (instObj 220 s.heap.objs.size) → (∀ b o, s.heap.get? b = some o → h'.get? b = some o) →
      R (.ok (.ret (.ref (s.heap.objs.size + 1)))) { s with heap := h', toks := s.toks + 10 }) :
    codeAny (model pw w) A (.call (.ref 220) ⟨[.str x t, .int i u, .int r v], []⟩) R s := by
  obtain ⟨hp, g, d, tk, os⟩ := s
  dsimp only at X hlim hn h ⊢
  have Y : Makes (model pw w) hp 220 := makes_of X (by rfl)
  have hi : Looks (model pw w) hp (typeLookup (.ref 220) "__init__") (some (.ref 217)) := looks_findIn X (by rfl)
  refine make_core Y hi (fun self => bind_fn X self (by rfl)) (.inl rfl) ?_
  have hdep : (A.under (.builtin "type.__call__" ⟨[.ref 220, .str x t, .int i u, .int r v], []⟩)).depth = A.depth + 1 := rfl
  have up : ∀ b o, hp.get? b = some o → ((hp.push emptyDict).push (instObj 220 hp.objs.size)).get? b = some o := fun b o e => Heap.get?_push_of_some _ (Heap.get?_push_of_some _ e)
  have X1 : (kAm w.params).In ((hp.push emptyDict).push (instObj 220 hp.objs.size)) := X.keeps up
  have sz : ((hp.push emptyDict).push (instObj 220 hp.objs.size)).objs.size = hp.objs.size + 2 := by rw [Heap.size_push, Heap.size_push]
  refine call_ex (o := o_217 w.params) (binds := [("self", .ref (hp.objs.size + 1)), ("s", .str x t), ("substring_i", .int i u), ("result", .int r v)]) (by rw [hdep]; omega) (X1 _ _ rfl) rfl (hlim.keeps up) (codeRec_of X1 (by rfl)) (BindsTo.of_eq (by kernel_rfl)) (locs (by rfl)) (fun h₁ hns hsb => ?_) rfl rfl rfl (by decide +kernel)
  dsimp only at hns hsb ⊢
  rw [sz] at hns hsb ⊢
  have k1 : ∀ b o, b ≠ hp.objs.size + 2 → ((hp.push emptyDict).push (instObj 220 hp.objs.size)).get? b = some o → h₁.get? b = some o := fun b o hb e => (hsb.2 b hb).trans (Heap.get?_push_of_some _ e)
  have hfr : ∀ a, a < hp.objs.size + 2 → a ≠ hp.objs.size + 2 := fun a h => Nat.ne_of_lt h
  have gx : h₁.get? (hp.objs.size + 1) = some (instObj 220 hp.objs.size) := k1 _ _ (neN (by omega)) (by
    have := Heap.get?_push_size (hp.push emptyDict) (o := instObj 220 hp.objs.size) rfl
    rw [Heap.size_push] at this; exact this)
  have gd : h₁.get? hp.objs.size = some (dictOf [] 0) := k1 _ _ (neN (by omega)) (Heap.get?_push_of_some _ (Heap.get?_push_size hp (o := emptyDict) rfl))
  have old : ∀ b o, hp.get? b = some o → h₁.get? b = some o := fun b o e => k1 b o (neN (by have := ltN (Heap.lt_size e); omega)) (up b o e)
  have X2 : (kAm w.params).In h₁ := X.keeps old
  have hsz : h₁.objs.size = hp.objs.size + 3 := by rw [hsb.1, Heap.size_push, sz]
  have hK : ∀ p ∈ kAm w.params, p.1 ≠ hp.objs.size := by
    intro p hp'
    simp only [kAm, List.mem_cons, List.not_mem_nil, or_false] at hp'
    rcases hp' with rfl | rfl | rfl | rfl <;> exact neN (by omega)
  refine wpAny_execs_cons (plainObj_wpAny_Assign_Attribute (local_name hns rfl (local_name hns rfl ?_ rfl (by rfl)) rfl (by rfl)))
  refine am_store (es := []) (n := 0) (es' := [ke w.params "s" (tk + 5) (.str x t)]) (n' := 1) X2 gx gd (by rfl) (by rfl) rfl (Nat.le_of_ble_eq_true rfl) (neN (by omega)) hns (neN (by omega)) hK fun h2 z2 q2 X3 gx2 gd2 ns2 => ?_
  refine wpAny_execs_cons (plainObj_wpAny_Assign_Attribute (local_name ns2 rfl (local_name ns2 rfl ?_ rfl (by rfl)) rfl (by rfl)))
  refine am_store (es' := [ke w.params "s" (tk + 5) (.str x t), ke w.params "substring_i" (tk + 7) (.int i u)]) (n' := 2) X3 gx2 gd2 (by rfl) (by rfl) rfl (Nat.le_of_ble_eq_true rfl) (neN (by omega)) ns2 (neN (by omega)) hK fun h3 z3 q3 X4 gx3 gd3 ns3 => ?_
  refine wpAny_execs_cons (plainObj_wpAny_Assign_Attribute (local_name ns3 rfl (local_name ns3 rfl ?_ rfl (by rfl)) rfl (by rfl)))
  refine am_store (es' := [ke w.params "s" (tk + 5) (.str x t), ke w.params "substring_i" (tk + 7) (.int i u), ke w.params "result" (tk + 9) (.int r v)]) (n' := 3) X4 gx3 gd3 (by rfl) (by rfl) rfl (Nat.le_of_ble_eq_true rfl) (neN (by omega)) ns3 (neN (by omega)) hK fun h4 z4 q4 X5 gx4 gd4 ns4 => ?_
  refine wpAny_execs_nil ?_
  refine ⟨rfl, ?_⟩
  exact h h4 (by rw [z4, z3, z2, hsz]) gd4 gx4 (fun b o e => q4 b o (neN (by have := ltN (Heap.lt_size e); omega)) (q3 b o (neN (by have := ltN (Heap.lt_size e); omega)) (q2 b o (neN (by have := ltN (Heap.lt_size e); omega)) (old b o e))))
end
end Sp
end
section
open PySem PySem.W PySem.Calls PyProof.Rows
set_option maxRecDepth 100000
set_option maxHeartbeats 1000000
namespace Sp
theorem PT.put_some (o : Obj) : ∀ (n : Nat) (t : PT) (i j : Nat) (x : Obj), (PT.put n t i o).get j = some x → (j = i ∧ x = o) ∨ t.get j = some x
  | 0, t, i, j, x, h => by exact absurd h (by show ¬((none : Option Obj) = some x); exact fun z => nomatch z)
  | n + 1, .nil, i, j, x, h => by
    left
    rw [PT.put_nil] at h
    by_cases hi : i = 0
    · subst hi
      rw [if_pos rfl, PT.get_node] at h
      by_cases hj : j = 0
      · subst hj; rw [if_pos rfl] at h; cases h; exact ⟨rfl, rfl⟩
      · rw [if_neg hj] at h; split at h <;> rw [PT.get_nil] at h <;> cases h
    · rw [if_neg hi] at h
      by_cases q : i % 2 = 1
      · rw [if_pos q, PT.get_node] at h
        by_cases hj : j = 0
        · rw [if_pos hj] at h; cases h
        · rw [if_neg hj] at h
          split at h
          · rename_i qj
            rcases PT.put_some o n .nil _ _ x h with ⟨e, z⟩ | z
            · exact ⟨half1 q qj e, z⟩
            · rw [PT.get_nil] at z; cases z
          · rw [PT.get_nil] at h; cases h
      · rw [if_neg q, PT.get_node] at h
        by_cases hj : j = 0
        · rw [if_pos hj] at h; cases h
        · rw [if_neg hj] at h
          split at h
          · rw [PT.get_nil] at h; cases h
          · rename_i qj
            rcases PT.put_some o n .nil _ _ x h with ⟨e, z⟩ | z
            · exact ⟨half0 hi hj q qj e, z⟩
            · rw [PT.get_nil] at z; cases z
  | n + 1, .node v l r, i, j, x, h => by
    rw [PT.put_node] at h
    rw [PT.get_node]
    by_cases hi : i = 0
    · subst hi
      rw [if_pos rfl, PT.get_node] at h
      by_cases hj : j = 0
      · subst hj; rw [if_pos rfl] at h; cases h; exact .inl ⟨rfl, rfl⟩
      · rw [if_neg hj] at h ⊢; exact .inr h
    · rw [if_neg hi] at h
      by_cases q : i % 2 = 1
      · rw [if_pos q, PT.get_node] at h
        by_cases hj : j = 0
        · rw [if_pos hj] at h ⊢; exact .inr h
        · rw [if_neg hj] at h ⊢
          split at h
          · rename_i qj
            rw [if_pos qj]
            rcases PT.put_some o n l _ _ x h with ⟨e, z⟩ | z
            · exact .inl ⟨half1 q qj e, z⟩
            · exact .inr z
          · rename_i qj; rw [if_neg qj]; exact .inr h
      · rw [if_neg q, PT.get_node] at h
        by_cases hj : j = 0
        · rw [if_pos hj] at h ⊢; exact .inr h
        · rw [if_neg hj] at h ⊢
          split at h
          · rename_i qj; rw [if_pos qj]; exact .inr h
          · rename_i qj
            rw [if_neg qj]
            rcases PT.put_some o n r _ _ x h with ⟨e, z⟩ | z
            · exact .inl ⟨half0 hi hj q qj e, z⟩
            · exact .inr z
noncomputable def mkT : List (Nat × Obj) → PT
  | [] => .nil
  | p :: r => (mkT r).set p.1 p.2
theorem mkT_mem {a : Nat} {o : Obj} : ∀ {l : List (Nat × Obj)}, (mkT l).get a = some o → (a, o) ∈ l
  | [], h => by cases h
  | p :: r, h => by
    rcases PT.put_some p.2 13 (mkT r) p.1 a o h with ⟨rfl, rfl⟩ | h
    · exact .head _
    · exact .tail _ (mkT_mem h)
/-- what stands at a stage's end, as a list -/
noncomputable def Stands (h : Heap) (l : List (Nat × Obj)) : Prop := ∀ p ∈ l, h.get? p.1 = some p.2
theorem Stands.mono {h h' : Heap} {l : List (Nat × Obj)} (x : Stands h l) (k : ∀ p ∈ l, h.get? p.1 = some p.2 → h'.get? p.1 = some p.2) : Stands h' l := fun p hp => k p hp (x p hp)
theorem gets_all {T : PT} : ∀ {l : List (Nat × Obj)}, l.map (fun p => T.get p.1) = l.map (fun p => some p.2) → ∀ p ∈ l, T.get p.1 = some p.2
  | [], _, p, hp => by cases hp
  | q :: r, h, p, hp => by
    rw [List.map_cons, List.map_cons] at h
    obtain ⟨h1, h2⟩ := List.cons.inj h
    rcases List.mem_cons.mp hp with rfl | hp
    · exact h1
    · exact gets_all h2 p hp
/-- a stage's start -/
noncomputable def stB (s : Shared) (l : List (Nat × Obj)) (fz : Nat → Bool) : Base := ⟨s, mkT l, fz⟩
theorem At.start {s : Shared} {l : List (Nat × Obj)} {fz : Nat → Bool} {n k : Nat} (x : Stands s.heap l) (hn : s.heap.objs.size = n) (hk : s.toks = k) : At (stB s l fz) ⟨mkT l, n, k⟩ s :=
  ⟨hn, fun a o h => x _ (mkT_mem h), hk, rfl, rfl, rfl, Nat.le_of_eq hn, fun a o h => .inl (by show ((mkT l).get a).isSome = true; rw [h]; rfl), fun a o h _ => h⟩
theorem At.stands {s₀ : Base} {st : St} {s : Shared} {l : List (Nat × Obj)} (A : At s₀ st s) (h : l.map (fun p => st.T.get p.1) = l.map (fun p => some p.2)) : Stands s.heap l := fun p hp => A.get _ _ (gets_all h p hp)
/-- what a stage does not know or must not write stays -/
theorem At.keeps {s : Shared} {l m : List (Nat × Obj)} {fz : Nat → Bool} {st : St} {s' : Shared} (A : At (stB s l fz) st s') (x : Stands s.heap m) (hm : ∀ p ∈ m, (fz p.1 || !(l.map (·.1)).contains p.1) = true) : Stands s'.heap m := fun p hp => by
  refine A.keep p.1 p.2 (x p hp) ?_
  rcases Bool.or_eq_true_iff.mp (hm p hp) with q | q
  · exact .inl q
  · right
    show (mkT l).get p.1 = none
    cases hg : (mkT l).get p.1 with
    | none => rfl
    | some o =>
      have := mkT_mem hg
      have hc : (l.map (·.1)).contains p.1 = true := List.contains_iff_mem.mpr (List.mem_map.mpr ⟨_, this, rfl⟩)
      rw [hc] at q; cases q
noncomputable def aOf (Γ : Ctx) : Around := { handled := Γ.handled, depth := frameCount Γ.below + Γ.code.weight, frames := none, guards := none, units := Γ.units }
theorem in_aOf (Γ : Ctx) : Γ.In (aOf Γ) := ⟨rfl, Nat.le_refl _, fun _ h => (nomatch h), fun _ h => (nomatch h), Nat.le_refl _⟩
noncomputable def bOf (Γ : Ctx) : Around := { handled := Γ.handled, depth := frameCount Γ.below, frames := none, guards := none, units := unitsOf Γ.below }
theorem below_bOf (Γ : Ctx) : Γ.Below (bOf Γ) := ⟨rfl, Nat.le_refl _, fun _ h => (nomatch h), fun _ h => (nomatch h), Nat.le_refl _⟩
noncomputable def refOf : Value → Option Addr
  | .ref a => some a
  | _ => none
theorem refOf_inv {v : Value} {a : Addr} (h : refOf v = some a) : v = .ref a := by
  cases v with
  | ref b => cases h; rfl
  | _ => exact none_inv h
noncomputable def strTok : Value → Option (Str × Tok)
  | .str x t => some (x, t)
  | _ => none
theorem strTok_inv {v : Value} {x : Str × Tok} (h : strTok v = some x) : v = .str x.1 x.2 := by
  cases v with
  | str y t => cases h; rfl
  | _ => exact none_inv h
noncomputable def intTok : Value → Option (Int × Tok)
  | .int x t => some (x, t)
  | _ => none
theorem intTok_inv {v : Value} {x : Int × Tok} (h : intTok v = some x) : v = .int x.1 x.2 := by
  cases v with
  | int y t => cases h; rfl
  | _ => exact none_inv h
/-- a call of Among -/
noncomputable def amCall : Code → Option ((Str × Tok) × (Int × Tok) × (Int × Tok))
  | .call f a => (refOf f).bind fun b => ifo (Nat.beq b 220 && a.kw.isEmpty) ((thr3 a.pos).bind fun p => (strTok p.1).bind fun x => (intTok p.2.1).bind fun i => (intTok p.2.2).map fun r => (x, i, r))
  | _ => none
theorem amCall_inv {c : Code} {y : (Str × Tok) × (Int × Tok) × (Int × Tok)} (h : amCall c = some y) : c = .call (.ref 220) ⟨[.str y.1.1 y.1.2, .int y.2.1.1 y.2.1.2, .int y.2.2.1 y.2.2.2], []⟩ := by
  cases c with
  | call f a =>
    obtain ⟨ps, kw⟩ := a
    obtain ⟨b, h1, h⟩ := ob_inv h
    obtain ⟨h2, h⟩ := ifo_inv h
    obtain ⟨p, h3, h⟩ := ob_inv h
    obtain ⟨x, h4, h⟩ := ob_inv h
    obtain ⟨i, h5, h⟩ := ob_inv h
    obtain ⟨r, h6, h⟩ := om_inv h
    obtain ⟨q1, q2⟩ := Bool.and_eq_true_iff.mp h2
    have q1 := Nat.eq_of_beq_eq_true q1
    have q2 := List.isEmpty_iff.mp q2
    have h3 := thr3_inv h3
    rw [strTok_inv h4, intTok_inv h5, intTok_inv h6] at h3
    rw [← h, refOf_inv h1, q1]
    simp only at q2 h3
    rw [q2, h3]
  | _ => exact none_inv h
/-- the oracle for calls of Among -/
noncomputable def orcB (P : Params) (Γ : Ctx) (st : St) (y : (Str × Tok) × (Int × Tok) × (Int × Tok)) : Option (Result × St) := match Nat.ble 221 st.n && Nat.ble (frameCount Γ.below) 900 with
    | true =>
      let d : Obj := dictOf [ke P "s" (st.k + 5) (.str y.1.1 y.1.2), ke P "substring_i" (st.k + 7) (.int y.2.1.1 y.2.1.2), ke P "result" (st.k + 9) (.int y.2.2.1 y.2.2.2)] 3
      let T1 := st.T.set st.n d
      let T2 := T1.set (st.n + 1) (instObj 220 st.n)
      (match (T1.get st.n).isSome && (T2.get (st.n + 1)).isSome with
      | true => some (.ok (.ret (.ref (st.n + 1))), ⟨T2, st.n + 3, st.k + 10⟩)
      | false => none)
    | false => none
noncomputable def orcAm (P : Params) (Γ : Ctx) (_ : Pos) (c : Code) (st : St) : Option (Result × St) := (amCall c).bind (orcB P Γ st)
structure AmBase (P : Params) (b : Base) : Prop where
  am : ∀ p ∈ kAm P, b.s.heap.get? p.1 = some p.2 ∧ b.fz p.1 = true
  st : b.s.heap.get? 2 = some (p_2 P) ∧ b.fz 2 = true
theorem limit_of {P : Params} {h : Heap} (e : h.get? 2 = some (p_2 P)) : h.NoLimit :=
  ⟨fun _ => none, ⟨_, _, _, e, rfl, fun x hx => by simp at hx, fun n => rfl⟩, rfl⟩
theorem orcAm_ok {w : World} {b : Base} (H : AmBase w.params b) : ClOk (model pw w) b (orcAm w.params) := by
  intro Γ p c st r st' h hc s A
  obtain ⟨y, hy, hh⟩ := ob_inv h
  clear h
  have h := hh
  clear hh
  obtain rfl := amCall_inv hy
  unfold orcB at h
  cases hq : Nat.ble 221 st.n && Nat.ble (frameCount Γ.below) 900 with
  | false => rw [hq] at h; cases h
  | true =>
    rw [hq] at h
    obtain ⟨q2, q3⟩ := Bool.and_eq_true_iff.mp hq
    have q2 := Nat.le_of_ble_eq_true q2
    have q3 := Nat.le_of_ble_eq_true q3
    dsimp only at h
    generalize hT1 : st.T.set st.n _ = T1 at h
    generalize hT2 : T1.set (st.n + 1) _ = T2 at h
    cases hs : (T1.get st.n).isSome && (T2.get (st.n + 1)).isSome with
    | false => rw [hs] at h; cases h
    | true =>
    rw [hs] at h
    subst hT2 hT1
    cases h
    obtain ⟨hs1, hs2⟩ := Bool.and_eq_true_iff.mp hs
    have X : (kAm w.params).In s.heap := fun a o e => (A.keep a o (H.am _ (mem_of_lookup e)).1 (.inl (H.am _ (mem_of_lookup e)).2))
    have hl : s.heap.NoLimit := limit_of (P := w.params) (A.keep 2 _ H.st.1 (.inl H.st.2))
    refine am_call (A := bOf Γ) (R := fun r' s' => r' = _ ∧ At b _ s') (x := y.1.1) (t := y.1.2) (u := y.2.1.2) (v := y.2.2.2) (i := y.2.1.1) (r := y.2.2.1) X hl (by show frameCount Γ.below + 3 < recursionLimit; have : recursionLimit = 1000 := rfl; omega) (by rw [A.size]; exact q2) (fun h' hz hd hi hk => ?_) Γ p hc (below_bOf Γ)
    refine ⟨by rw [A.size], ?_⟩
    refine ⟨by show h'.objs.size = _; rw [hz, A.size], fun a o e => ?_, by show s.toks + 10 = _; rw [A.toks], A.gens, A.drawn, A.os, Nat.le_trans A.ge (Nat.le_add_right _ _), fun a o e => ?_, fun a o e q => hk a o (A.keep a o e q)⟩
    · show h'.get? a = some o
      rw [PT.set_get hs2] at e
      by_cases e1 : a = st.n + 1
      · rw [if_pos e1] at e; cases e; rw [e1, ← A.size]; exact hi
      · rw [if_neg e1, PT.set_get hs1] at e
        by_cases e2 : a = st.n
        · rw [if_pos e2] at e; cases e; rw [e2, ← A.size, ← A.toks]; exact hd
        · rw [if_neg e2] at e; exact hk a o (A.get a o e)
    · rw [PT.set_get hs2] at e
      by_cases e1 : a = st.n + 1
      · exact .inr (by have := A.ge; omega)
      · rw [if_neg e1, PT.set_get hs1] at e
        by_cases e2 : a = st.n
        · exact .inr (by have := A.ge; omega)
        · rw [if_neg e2] at e; exact A.dom a o e
end Sp
end
section
open PySem PySem.W PySem.Calls PyProof.Rows
set_option maxRecDepth 100000
set_option maxHeartbeats 1000000
namespace Sp
noncomputable def natsEq : List Nat → List Nat → Bool
  | [], l => l.isEmpty
  | a :: x, l => match l with
    | [] => false
    | b :: y => Nat.beq a b && natsEq x y
theorem natsEq_iff : ∀ {x y : List Nat}, natsEq x y = true ↔ x = y
  | [], y => ⟨fun h => (List.isEmpty_iff.mp h).symm, fun h => h ▸ rfl⟩
  | _ :: _, [] => ⟨fun h => ff_el h, fun h => (nomatch h)⟩
  | a :: x, b :: y => by
    show (Nat.beq a b && natsEq x y) = true ↔ _
    rw [Bool.and_eq_true, natsEq_iff, Nat.beq_eq, List.cons.injEq]
noncomputable def strEqB (a b : Str) : Bool := natsEq a.cps.toList b.cps.toList
theorem strEqB_iff {a b : Str} : strEqB a b = true ↔ a = b := by
  unfold strEqB
  rw [natsEq_iff]
  constructor
  · intro h; cases a; cases b; simp only [Str.mk.injEq]; exact Array.toList_inj.mp h
  · rintro rfl; rfl
noncomputable def nodupB : List Str → Bool
  | [] => true
  | x :: r => r.all (fun y => !strEqB x y) && nodupB r
theorem nodup_of {l : List Str} (h : nodupB l = true) : l.Nodup := by
  induction l with
  | nil => exact List.nodup_nil
  | cons x r ih =>
    obtain ⟨a, b⟩ := Bool.and_eq_true_iff.mp h
    refine List.nodup_cons.mpr ⟨fun hm => ?_, ih b⟩
    have := List.all_eq_true.mp a x hm
    rw [strEqB_iff.mpr rfl] at this
    cases this
noncomputable def fldsOf : Data → Option (Array Value)
  | .fields vs => some vs
  | _ => none
theorem fldsOf_inv {d : Data} {vs : Array Value} (h : fldsOf d = some vs) : d = .fields vs := by
  cases d with
  | fields ws => cases h; rfl
  | _ => exact none_inv h
noncomputable def nameP : Expr → Option (Str × Pos)
  | .Name x p => some (x, p)
  | _ => none
theorem nameP_inv {e : Expr} {x : Str × Pos} (h : nameP e = some x) : e = .Name x.1 x.2 := by
  cases e with
  | Name y p => cases h; rfl
  | _ => exact none_inv h
noncomputable def setE : Expr → Option (List Expr)
  | .Set es k _ => ifo (Nat.beq k 0) (some es)
  | _ => none
theorem setE_inv {e : Expr} {x : List Expr} (h : setE e = some x) : ∃ p, e = .Set x 0 p := by
  cases e with
  | Set es k p =>
    obtain ⟨h1, h2⟩ := ifo_inv h
    have h1 := Nat.eq_of_beq_eq_true h1
    cases h2
    exact ⟨p, by rw [h1]⟩
  | _ => exact none_inv h
noncomputable def asgSet : Stmt → Option ((Str × Pos) × List Expr)
  | .Assign ts v _ => (one1 ts).bind fun t => (nameP t).bind fun np => (setE v).map fun es => (np, es)
  | _ => none
theorem asgSet_inv {s : Stmt} {y : (Str × Pos) × List Expr} (h : asgSet s = some y) : ∃ p2 p3, s = .Assign [.Name y.1.1 y.1.2] (.Set y.2 0 p2) p3 := by
  cases s with
  | Assign ts v p =>
    obtain ⟨t, h1, h⟩ := ob_inv h
    obtain ⟨np, h2, h⟩ := ob_inv h
    obtain ⟨es, h3, h⟩ := om_inv h
    obtain ⟨p2, h3⟩ := setE_inv h3
    exact ⟨p2, p, by rw [one1_inv h1, nameP_inv h2, h3, ← h]⟩
  | _ => exact none_inv h
noncomputable def isNext : Flow → Bool
  | .next => true
  | _ => false
theorem isNext_inv {f : Flow} (h : isNext f = true) : f = .next := by
  cases f with
  | next => rfl
  | _ => exact ff_el h
noncomputable def nextSt : Out Flow → Option St
  | .ok f _ st => ifo (isNext f) (some st)
  | _ => none
theorem nextSt_inv {o : Out Flow} {st : St} (h : nextSt o = some st) : ∃ p, o = .ok .next p st := by
  cases o with
  | ok f p s =>
    obtain ⟨h1, h2⟩ := ifo_inv h
    rw [isNext_inv h1]
    cases h2
    exact ⟨p, rfl⟩
  | _ => exact none_inv h
/-- the statement 'NAME = {three to thirty written texts}' -/
noncomputable def spG (fz : Nat → Bool) (bnd : Env → Str → Value → Sem Unit) (w : World) (prog : Program) (Γ : Ctx) (stm : Stmt) (env : Env) (st : St) : Option St :=
  (asgSet stm).bind fun y => (strsOf y.2).bind fun xs => (refOf env.code).bind fun c => (((st.T.get c).map (·.data)).bind fldsOf).bind fun _ =>
    ifo (nodupB xs && (Nat.ble 3 xs.length && (Nat.ble xs.length 30 && ((st.T.set st.n (SO.fold w st.k xs (SO.new w)).unled.obj).get st.n).isSome)))
      (nextSt (evT fz (fun _ _ _ _ => none) ⟨prog, w.params⟩ (standAt y.1.2 >>= fun _ => bnd env y.1.1 (.ref st.n) >>= fun _ => (pure Flow.next : Sem Flow)) Γ default ⟨st.T.set st.n (SO.fold w st.k xs (SO.new w)).unled.obj, st.n + 1, st.k + xs.length + xs.length⟩))
theorem cl_none {M : Model} {b : Base} : ClOk M b (fun _ _ _ _ => none) := fun _ _ _ _ _ _ h => by cases h
theorem wp_of_any {α : Type} {M : Model} {Γ : Ctx} {t : Sem α} {Q : α → Shared → Prop} {E : Value → Shared → Prop} {p : Pos} {s : Shared} (h : wpAny M (aOf Γ) t Q E s) : Sem.wp M Γ t (fun a _ s' => Q a s') (fun e _ s' => E e s') p s := h Γ p (in_aOf Γ)
theorem spG_ok {prog : Program} {w : World} {b : Base} : SpecOk (model prog w) b (spG b.fz bindName w prog) := by
  intro Γ st stm env st' h p s A
  obtain ⟨y, h1, g1⟩ := ob_inv h
  obtain ⟨xs, hx, g2⟩ := ob_inv g1
  obtain ⟨c, h3, g3⟩ := ob_inv g2
  obtain ⟨vs, h4, g4⟩ := ob_inv g3
  obtain ⟨hq, g5⟩ := ifo_inv g4
  clear h g1 g2 g3 g4
  obtain ⟨p2, p3, rfl⟩ := asgSet_inv h1
  have hc := refOf_inv h3
  obtain ⟨q1, hq⟩ := Bool.and_eq_true_iff.mp hq
  obtain ⟨q2, hq⟩ := Bool.and_eq_true_iff.mp hq
  obtain ⟨q3, q5⟩ := Bool.and_eq_true_iff.mp hq
  have q2 := Nat.le_of_ble_eq_true q2
  have q3 := Nat.le_of_ble_eq_true q3
  obtain ⟨o, vs, ho, hv⟩ : ∃ o vs, s.heap.get? c = some o ∧ o.data = .fields vs := by
    obtain ⟨d, h5, h6⟩ := ob_inv h4
    obtain ⟨o, h7, h8⟩ := om_inv h5
    exact ⟨o, vs, A.get c _ h7, h8.trans (fldsOf_inv h6)⟩
  rw [exec_Assign_Name env y.1.1 y.1.2 _ p3 rfl, Sem.wp_bind', Sem.wp_cmd_standAt, Sem.wp_bind']
  have h1 := wp_of_any (M := model prog w) (Γ := Γ) (p := p3) (E := fun _ _ => False) (disp_ex (A := aOf Γ) (prog := prog) (w := w) (env := env) (pos := p2) hx (nodup_of q1) (by omega) q3 hc ho hv
    (Q := fun v s' => v = .ref st.n ∧ At b ⟨st.T.set st.n (SO.fold w st.k xs (SO.new w)).unled.obj, st.n + 1, st.k + xs.length + xs.length⟩ s') (fun h' hs hg => ?_))
  · refine Sem.wp_mono _ Γ _ (fun v p' s' x => ?_) (fun _ _ _ x => x.elim) _ s h1
    obtain ⟨rfl, A1⟩ := x
    have q := evT_sound (cl_none (M := model prog w) (b := b)) (standAt y.1.2 >>= fun _ => bindName env y.1.1 (.ref st.n) >>= fun _ => (pure Flow.next : Sem Flow)) Γ default _ s' A1
    · obtain ⟨p2', he⟩ := nextSt_inv g5
      change Says (model prog w) b Γ _ default s' (evT b.fz (fun _ _ _ _ => none) ⟨prog, w.params⟩ _ Γ default _) at q
      rw [he] at q
      have q' := wp_start (p' := p') rfl q
      refine Sem.wp_mono _ Γ _ (fun f p'' s'' x => ?_) (fun _ _ _ x => x.elim) _ s' q'
      exact ⟨x.1, x.2.2⟩
  · rw [A.size] at hs hg ⊢
    refine ⟨rfl, ?_⟩
    have keep : ∀ a o, s.heap.get? a = some o → h'.get? a = some o := fun a o e => (hs.2 a (Nat.ne_of_lt (by rw [← A.size]; exact Heap.lt_size e))).trans (Heap.get?_push_of_some _ e)
    refine ⟨by show h'.objs.size = _; rw [hs.1, Heap.size_push, A.size], fun a o e => ?_, by show s.toks + xs.length + xs.length = _; rw [A.toks], A.gens, A.drawn, A.os, Nat.le_succ_of_le A.ge, fun a o e => ?_, fun a o e q => keep a o (A.keep a o e q)⟩
    · show h'.get? a = some o
      rw [PT.set_get q5] at e
      by_cases e1 : a = st.n
      · rw [if_pos e1] at e; cases e; rw [e1, ← A.toks]; exact hg
      · rw [if_neg e1] at e; exact keep a o (A.get a o e)
    · rw [PT.set_get q5] at e
      by_cases e1 : a = st.n
      · exact .inr (by have := A.ge; omega)
      · rw [if_neg e1] at e; exact A.dom a o e
end Sp
end
section
open PySem PySem.W PySem.Calls PyProof.Rows
namespace Sp
noncomputable def vows : List Str := ["a", "e", "i", "o", "u", "á", "é", "í", "ó", "ú", "ü"]
noncomputable def o_232 (w : World) : Obj := (SO.fold w 487 vows (SO.new w)).unled.obj
end Sp
end
section
open PySem PySem.W PySem.Calls PyProof.Rows
set_option maxRecDepth 100000
set_option maxHeartbeats 0
namespace Sp
noncomputable def denQ : Code → Sem Fin := PySem.W.Fast.tw11892475500146522536 PySem.W.Fast.tw14364793385576792824
noncomputable def exsQ : List Stmt → Env → Sem Flow := PySem.W.Fast.tw12563942051412417395
noncomputable def bstQ : List Stmt → Env → Sem Unit := PySem.W.Fast.tw1066825118222455980
noncomputable def mcQ : Module → Str → Option Nat → Sem Value := @PySem.W.Fast.tw17154629097778926822
noncomputable def nbQ : Value → Addr → Addr → Addr → Sem Addr := @PySem.W.Fast.tw12822647523644345616
theorem denQ_eq : denote table = denQ := by rw [table_eq_tree, PySem.W.Fast.te14364793385576792824, PySem.W.Fast.te11892475500146522536]; rfl
theorem exsQ_eq : execs = exsQ := PySem.W.Fast.te12563942051412417395
theorem bstQ_eq : blockStart = bstQ := PySem.W.Fast.te1066825118222455980
theorem mcQ_eq : @moduleCode = mcQ := PySem.W.Fast.te17154629097778926822
theorem nbQ_eq : @newBodyFrame = nbQ := PySem.W.Fast.te12822647523644345616
noncomputable def envM : Env := { scope := pw.main.scope, locals := mainNs, globals := mainNs, cells := [], code := .ref 13, frame := some 14 }
noncomputable def bodyM : List Stmt := behindTheImports pw
noncomputable def ctx0 : Ctx := ⟨.builtin "claim.caller" {}, none, none, [], none⟩
noncomputable def ctxM : Ctx := ⟨.body bodyM envM, none, none, [(.builtin "claim.caller" {}, default)], none⟩
noncomputable def preQ : Sem (Value × Addr) := mcQ pw.main pw.main.file none >>= fun code => nbQ code mainNs mainNs builtinsNs >>= fun frame => (pure (code, frame) : Sem (Value × Addr))
noncomputable def l0 (P : Params) : List (Nat × Obj) := [(0, boot_o_0 P), (2, boot_o_2 P), (3, boot_o_3 P), (4, boot_o_4 P)]
noncomputable def sett (w : World) : Setting := ⟨pw, w.params⟩
noncomputable def seeT {α β : Type} (f : α → β) (l : List (Nat × Obj)) (x : Out α) : Option (β × Nat × Nat × List (Option Obj)) := match x with
  | .ok a _ st => some (f a, st.n, st.k, l.map fun p => st.T.get p.1)
  | _ => none
noncomputable def seeS (l : List (Nat × Obj)) (x : Option (Flow × St)) : Option (Flow × Nat × Nat × List (Option Obj)) := match x with
  | some (f, st) => some (f, st.n, st.k, l.map fun p => st.T.get p.1)
  | none => none
theorem stage0 (w : World) : seeT id (l1 w.params) (evT (fun _ => false) (fun _ _ _ _ => none) (sett w) preQ ctx0 default ⟨mkT (l0 w.params), 11, boot_toks⟩) = some ((.ref 13, 14), 15, 187, (l1 w.params).map fun p => some p.2) := by kernel_rfl
theorem stage0b (w : World) : seeT id (l1 w.params) (evT (fun _ => false) (fun _ _ _ _ => none) (sett w) (bstQ bodyM envM) ctxM default ⟨mkT (l1 w.params), 15, 187⟩) = some ((), 15, 187, (l1 w.params).map fun p => some p.2) := by kernel_rfl
noncomputable def fz0 : Nat → Bool := fun _ => false
noncomputable def cl1 (w : World) := evC fz0 (fun _ _ _ _ => none) denQ exsQ bstQ (sett w) (fun _ _ _ _ => none) 40
theorem stage1 (w : World) : seeS (l2 w.params ++ k1 w.params) (evSs fz0 exsQ (sett w) (fun _ _ _ _ => none) (cl1 w) ctxM envM (bodyM.take 6) ⟨mkT (l1 w.params), 15, 187⟩) = some (.next, 225, 475, (l2 w.params ++ k1 w.params).map fun p => some p.2) := by kernel_rfl
noncomputable def bodyAt (i j : Nat) : List Stmt := (bodyM.drop i).take j
noncomputable def fz2 (a : Nat) : Bool := Nat.ble a 225 && !(Nat.beq a 3 || Nat.beq a 12 || Nat.beq a 199)
noncomputable def bndQ : Env → Str → Value → Sem Unit := bindName
noncomputable def cl2 (w : World) := evC fz2 (orcAm w.params) denQ exsQ bstQ (sett w) (spG fz2 bndQ w pw) 40
noncomputable def see2 (w : World) : List (Nat × Obj) := l3 w.params ++ k2 w.params ++ amF w.params ++ [(232, o_232 w)]
theorem stage2 (w : World) : seeS (see2 w) (evSs fz2 exsQ (sett w) (spG fz2 bndQ w pw) (cl2 w) ctxM envM (bodyAt 6 1) ⟨mkT (l2 w.params), 225, 475⟩) = some (.next, 930, 3455, (see2 w).map fun p => some p.2) := by kernel_rfl
end Sp
end
section
open PySem PySem.W PySem.Calls PyProof.Rows
set_option maxRecDepth 100000
set_option maxHeartbeats 0
namespace Sp
noncomputable def fz3 (a : Nat) : Bool := Nat.ble a 929 && !(Nat.beq a 2 || Nat.beq a 3 || Nat.beq a 12)
noncomputable def cl3 (w : World) := evC fz3 (fun _ _ _ _ => none) denQ exsQ bstQ (sett w) (fun _ _ _ _ => none) 40
theorem stage3 (w : World) : seeS (k3 w.params) (evSs fz3 exsQ (sett w) (fun _ _ _ _ => none) (cl3 w) ctxM envM (bodyAt 7 22) ⟨mkT (l3 w.params), 930, 3455⟩) = some (.next, 1077, 3835, (k3 w.params).map fun p => some p.2) := by kernel_rfl
end Sp
end
section
open PySem PySem.W PySem.Calls PyProof.Rows
set_option maxRecDepth 100000
set_option maxHeartbeats 1000000
set_option linter.all false
namespace Sp
section
variable {den : Code → Sem Fin} {prog : Program} {w : World}
noncomputable def doneS : Step → Bool
  | .halt o _ => match o with
    | .done _ => true
    | _ => false
  | _ => false
theorem doneS_ite {c : Prop} [Decidable c] {a b : Step} {P : Prop} (hf : doneS a = true → P) (hb : doneS b = true → P) (h : doneS (if c then a else b) = true) : P := by
  by_cases z : c
  · rw [if_pos z] at h; exact hf h
  · rw [if_neg z] at h; exact hb h
theorem no_ft {P : Prop} (h : false = true) : P := nomatch h
theorem halt_through {s s' : Shared} {t : Thread} {f : Flow} (h : step den prog w s t = .halt (.done f) s') : through t = true := by
  have h : doneS (step den prog w s t) = true := by rw [h]; rfl
  obtain ⟨heap, gens, drawn, toks, os⟩ := s
  obtain ⟨cur, code, pos, stack⟩ := t
  cases cur with
  | pure fin =>
    cases fin with
    | again c => exact no_ft h
    | done f => cases stack with
      | nil => rfl
      | cons F r => cases F with
        | ret => exact no_ft h
        | gen => exact no_ft h
  | raise e => cases stack with
    | nil => exact doneS_ite (a := .halt (.unsupported "lifetime:generator-with-cleanup-left-suspended") ⟨heap, gens, drawn, toks, os⟩) (b := .halt (.uncaught e) ⟨heap, gens, drawn, toks, os⟩) no_ft no_ft h
    | cons F r => cases F with
      | ret => exact no_ft h
      | gen => exact no_ft h
  | finish e => exact doneS_ite (a := .halt (.unsupported "lifetime:generator-with-cleanup-left-suspended") ⟨heap, gens, drawn, toks, os⟩) (b := .halt (.ended e) ⟨heap, gens, drawn, toks, os⟩) no_ft no_ft h
  | load a part k =>
    delta step at h; dsimp only at h
    generalize heap.get? a = o at h
    cases o <;> exact no_ft h
  | update a part f k =>
    delta step at h; dsimp only at h
    exact doneS_ite no_ft no_ft h
  | choose src n k =>
    delta step at h; dsimp only at h
    exact doneS_ite no_ft no_ft h
  | genState g k =>
    delta step at h; dsimp only at h
    generalize gens[g]? = o at h
    cases o <;> exact no_ft h
  | resume g r l k =>
    delta step at h; dsimp only at h
    generalize gens[g]? = o at h
    cases o with
    | none => exact no_ft h
    | some st => cases st with
      | fresh c => cases r with
        | send v => cases v <;> exact no_ft h
        | throw => exact no_ft h
      | suspended => exact no_ft h
      | running => exact no_ft h
      | finished => exact no_ft h
  | yield v g0 l kk =>
    delta step at h; dsimp only at h
    generalize splitAtGen stack = o at h
    cases o with
    | none => exact no_ft h
    | some x => obtain ⟨a, ⟨b, c, d, e⟩, f⟩ := x; exact no_ft h
  | unsupported => exact no_ft h
  | rule => exact no_ft h
  | «at» => exact no_ft h
  | alloc => exact no_ft h
  | loadIfAlive => exact no_ft h
  | point => exact no_ft h
  | register => exact no_ft h
  | fresh => exact no_ft h
  | ask => exact no_ft h
  | os => exact no_ft h
  | call => exact no_ft h
  | handled => exact no_ft h
  | stack => exact no_ft h
  | newGen => exact no_ft h
  | thread => exact no_ft h
  | fork => exact no_ft h
  | await => exact no_ft h
theorem last_of {s'' : Shared} {f : Flow} : ∀ (n : Nat) (s : Shared) (t : Thread), runN den prog w n s t = .halted (.done f) s'' → (∀ k s₁ t₁, runN den prog w k s t = .running s₁ t₁ → t₁.calm = true) → s.asleep →
    (∃ m t₁, schedN den prog w m (.single s t) = .running (.single s'' t₁) ∧ through t₁ = true) ∧ s''.heap.life = s.heap.life
  | 0, s, t, h, _, _ => by cases h
  | n + 1, s, t, h, hc, hz => by
    simp only [runN] at h
    cases hs : step den prog w s t with
    | halt o s' =>
      rw [hs] at h
      cases h
      have e := step_halt_same den prog w s s'' t _ hs
      subst e
      exact ⟨⟨0, t, rfl, halt_through hs⟩, rfl⟩
    | go s' t' =>
      rw [hs] at h
      have hl := step_life den prog w s s' t t' hs
      obtain ⟨⟨m, t₁, h1, h2⟩, l⟩ := last_of n s' t' h (fun k s₁ t₁ hk => hc (k + 1) s₁ t₁ (by simp only [runN, hs]; exact hk)) (Shared.asleep_of_life hl hz)
      have e : sstep den prog w (.single s t) = .go (.single s' t') := by
        rcases sstep_single den prog w s t (hc 0 s t rfl) hz with e | e
        · rw [e, hs]; rfl
        · rw [hs] at e; cases e
      exact ⟨⟨m + 1, t₁, by simp only [schedN, e]; exact h1, h2⟩, l.trans hl⟩
end
/-- a tree that ends well, run by the machine up to its last step -/
theorem runs_of {prog : Program} {w : World} {c : Code} {t : Sem Fin} {s : Shared} {P : Shared → Prop} (hz : s.asleep)
    (h : Sem.wp (model prog w) ⟨c, none, none, [], none⟩ t (fun fin _ s' => (∃ f, fin = .done f) ∧ P s' ∧ s'.gens = #[]) (fun _ _ _ => False) default s) :
    ∃ s₁, (∃ n t₁, schedN (denote table) prog w n (.single s ⟨t, c, default, []⟩) = .running (.single s₁ t₁) ∧ through t₁ = true) ∧ s₁.heap.life = s.heap.life ∧ P s₁ ∧ s₁.gens = #[] := by
  have h' := (wp_iff_halts (M := model prog w) (c := c) t (fun r s' => (∃ f, r = .ok f) ∧ P s' ∧ s'.gens = #[]) default s).mp (Sem.wp_mono _ _ t (fun fin p' s' x => ?_) (fun _ _ _ x => x.elim) default s h)
  · obtain ⟨n, r, s', hn, ⟨f, rfl⟩, hP, hg⟩ := h'
    obtain ⟨s'', hr, hf, hc⟩ := runNI_real _ _ _ hn (outcomeOf_ends (.ok f))
    have e := Shared.eq_of_forget_eq hf hg
    subst e
    obtain ⟨a, b⟩ := last_of n s _ hr hc hz
    exact ⟨s'', a, b, hP, hg⟩
  · obtain ⟨⟨f, rfl⟩, hP, hg⟩ := x
    exact ⟨⟨⟨f, rfl⟩, hP, hg⟩, by rw [hg]; simp [leftWithCleanup]⟩
theorem seeT_of {α β : Type} {f : α → β} {l : List (Nat × Obj)} {x : Out α} {b : β} {n k : Nat} {os : List (Option Obj)} (h : seeT f l x = some (b, n, k, os)) :
    ∃ a p st, x = .ok a p st ∧ f a = b ∧ st.n = n ∧ st.k = k ∧ l.map (fun p => st.T.get p.1) = os := by
  unfold seeT at h
  cases x with
  | ok a p st =>
    obtain ⟨h1, h2⟩ := Prod.mk.inj (Option.some.inj h)
    obtain ⟨h2, h3⟩ := Prod.mk.inj h2
    obtain ⟨h3, h4⟩ := Prod.mk.inj h3
    exact ⟨a, p, st, rfl, h1, h2, h3, h4⟩
  | err => cases h
  | no => cases h
theorem seeS_of {l : List (Nat × Obj)} {x : Option (Flow × St)} {b : Flow} {n k : Nat} {os : List (Option Obj)} (h : seeS l x = some (b, n, k, os)) :
    ∃ st, x = some (b, st) ∧ st.n = n ∧ st.k = k ∧ l.map (fun p => st.T.get p.1) = os := by
  unfold seeS at h
  cases x with
  | some y =>
    obtain ⟨f, st⟩ := y
    obtain ⟨h1, h2⟩ := Prod.mk.inj (Option.some.inj h)
    obtain ⟨h2, h3⟩ := Prod.mk.inj h2
    obtain ⟨h3, h4⟩ := Prod.mk.inj h3
    subst h1
    exact ⟨st, rfl, h2, h3, h4⟩
  | none => cases h
theorem wp_execs_append {M : Model} {Γ : Ctx} {env : Env} {Q : Flow → Pos → Shared → Prop} {E : Value → Pos → Shared → Prop} : ∀ (a b : List Stmt) (p : Pos) (s : Shared),
    Sem.wp M Γ (execs a env) (fun f p' s' => f = .next ∧ Sem.wp M Γ (execs b env) Q E p' s') E p s → Sem.wp M Γ (execs (a ++ b) env) Q E p s
  | [], b, p, s, h => by
    rw [execs_nil, Sem.wp_pure'] at h
    exact h.2
  | x :: a, b, p, s, h => by
    rw [execs_cons, Sem.wp_bind'] at h
    rw [List.cons_append, execs_cons, Sem.wp_bind']
    refine Sem.wp_mono M Γ _ (fun f p' s' q => ?_) (fun _ _ _ q => q) p s h
    cases f with
    | next => exact wp_execs_append a b p' s' q
    | brk => rw [Sem.wp_pure'] at q; cases q.1
    | cont => rw [Sem.wp_pure'] at q; cases q.1
    | ret v => rw [Sem.wp_pure'] at q; cases q.1
end Sp
end
section
open PySem PySem.W PySem.Calls PyProof.Rows
set_option maxRecDepth 100000
set_option maxHeartbeats 1000000
set_option linter.all false
namespace Sp
noncomputable def bk (P : Params) : List (Nat × Obj) := [(1, boot_o_1 P), (5, boot_o_5 P), (6, boot_o_6 P), (7, boot_o_7 P), (8, boot_o_8 P), (9, boot_o_9 P), (10, boot_o_10 P)]
/-- a stage's outcome -/
structure Hd (s s' : Shared) (l : List (Nat × Obj)) (n k : Nat) : Prop where
  st : Stands s'.heap l
  size : s'.heap.objs.size = n
  toks : s'.toks = k
  gens : s'.gens = s.gens
  drawn : s'.drawn = s.drawn
  os : s'.os = s.os
theorem Hd.trans {s s' s'' : Shared} {l l' : List (Nat × Obj)} {n k n' k' : Nat} (x : Hd s s' l n k) (y : Hd s' s'' l' n' k') : Hd s s'' l' n' k' := ⟨y.st, y.size, y.toks, y.gens.trans x.gens, y.drawn.trans x.drawn, y.os.trans x.os⟩
theorem Stands.app {h : Heap} {l m : List (Nat × Obj)} (x : Stands h l) (y : Stands h m) : Stands h (l ++ m) := fun p hp => (List.mem_append.mp hp).elim (x p) (y p)
theorem Stands.left {h : Heap} {l m : List (Nat × Obj)} (x : Stands h (l ++ m)) : Stands h l := fun p hp => x p (List.mem_append.mpr (.inl hp))
theorem Stands.right {h : Heap} {l m : List (Nat × Obj)} (x : Stands h (l ++ m)) : Stands h m := fun p hp => x p (List.mem_append.mpr (.inr hp))
noncomputable def keepB (fz : Nat → Bool) (l : List (Nat × Obj)) : List (Nat × Obj) → Bool
  | [] => true
  | p :: r => (fz p.1 || !(l.map (·.1)).contains p.1) && keepB fz l r
theorem keepB_of {fz : Nat → Bool} {l : List (Nat × Obj)} : ∀ {m : List (Nat × Obj)}, keepB fz l m = true → ∀ p ∈ m, (fz p.1 || !(l.map (·.1)).contains p.1) = true
  | [], _, p, hp => by cases hp
  | q :: r, h, p, hp => by
    obtain ⟨a, b⟩ := Bool.and_eq_true_iff.mp h
    rcases List.mem_cons.mp hp with rfl | hp
    · exact a
    · exact keepB_of b p hp
theorem spec_none {M : Model} {b : Base} : SpecOk M b (fun _ _ _ _ => none) := fun _ _ _ _ _ h => by cases h
section
variable {w : World}
theorem cl1_ok {b : Base} (hb : b.fz = fz0) : ClOk (model pw w) b (cl1 w) := by
  have h := evC_sound (prog := pw) (w := w) (s₀ := b) (cl_none (M := model pw w)) spec_none 40
  rw [denQ_eq, exsQ_eq, bstQ_eq, hb] at h
  exact h
theorem cl2_ok {b : Base} (hb : b.fz = fz2) (H : AmBase w.params b) : ClOk (model pw w) b (cl2 w) := by
  have h := evC_sound (prog := pw) (w := w) (s₀ := b) (orcAm_ok H) spG_ok 40
  rw [denQ_eq, exsQ_eq, bstQ_eq, hb] at h
  exact h
theorem cl3_ok {b : Base} (hb : b.fz = fz3) : ClOk (model pw w) b (cl3 w) := by
  have h := evC_sound (prog := pw) (w := w) (s₀ := b) (cl_none (M := model pw w)) spec_none 40
  rw [denQ_eq, exsQ_eq, bstQ_eq, hb] at h
  exact h
theorem st1 {s : Shared} {p : Pos} (hs : Stands s.heap (l1 w.params ++ bk w.params)) (hn : s.heap.objs.size = 15) (hk : s.toks = 187) :
    Sem.wp (model pw w) ctxM (execs (bodyM.take 6) envM) (fun f _ s' => f = .next ∧ Hd s s' (l2 w.params ++ k1 w.params ++ bk w.params) 225 475) (fun _ _ _ => False) p s := by
  obtain ⟨st, he, h1, h2, h3⟩ := seeS_of (stage1 w)
  have A := At.start (fz := fz0) hs.left hn hk
  rw [← exsQ_eq] at he
  have q := evSs_sound (cl1_ok (w := w) (b := stB s (l1 w.params) fz0) rfl) spec_none ctxM envM (bodyM.take 6) _ _ _ he p s A
  refine Sem.wp_mono _ _ _ (fun f p' s' x => ?_) (fun _ _ _ x => x) p s q
  obtain ⟨rfl, A'⟩ := x
  exact ⟨rfl, (At.stands A' h3).app (At.keeps A' hs.right (keepB_of (by kernel_rfl))), A'.size.trans h1, A'.toks.trans h2, A'.gens, A'.drawn, A'.os⟩
theorem st2 {s : Shared} {p : Pos} (hs : Stands s.heap (l2 w.params ++ k1 w.params ++ bk w.params)) (hn : s.heap.objs.size = 225) (hk : s.toks = 475) :
    Sem.wp (model pw w) ctxM (execs (bodyAt 6 1) envM) (fun f _ s' => f = .next ∧ Hd s s' (see2 w ++ (k1 w.params ++ bk w.params)) 930 3455) (fun _ _ _ => False) p s := by
  obtain ⟨st, he, h1, h2, h3⟩ := seeS_of (stage2 w)
  have A := At.start (fz := fz2) hs.left.left hn hk
  rw [← exsQ_eq] at he
  have hl := hs.left.left
  have HB : AmBase w.params (stB s (l2 w.params) fz2) := by
    refine ⟨fun q hq => ?_, hl (2, p_2 w.params) (.tail _ (.head _)), (rfl : fz2 2 = true)⟩
    simp only [kAm, List.mem_cons, List.not_mem_nil, or_false] at hq
    rcases hq with rfl | rfl | rfl | rfl
    · exact ⟨hl (216, _) (by simp [l2]), (rfl : fz2 216 = true)⟩
    · exact ⟨hl (217, _) (by simp [l2]), (rfl : fz2 217 = true)⟩
    · exact ⟨hl (219, _) (by simp [l2]), (rfl : fz2 219 = true)⟩
    · exact ⟨hl (220, _) (by simp [l2]), (rfl : fz2 220 = true)⟩
  have q := evSs_sound (cl2_ok (w := w) (b := stB s (l2 w.params) fz2) rfl HB) spG_ok ctxM envM (bodyAt 6 1) _ _ _ he p s A
  refine Sem.wp_mono _ _ _ (fun f p' s' x => ?_) (fun _ _ _ x => x) p s q
  obtain ⟨rfl, A'⟩ := x
  exact ⟨rfl, (At.stands A' h3).app (At.keeps A' (hs.left.right.app hs.right) (keepB_of (by kernel_rfl))), A'.size.trans h1, A'.toks.trans h2, A'.gens, A'.drawn, A'.os⟩
theorem st3 {s : Shared} {p : Pos} (hs : Stands s.heap (see2 w ++ (k1 w.params ++ bk w.params))) (hn : s.heap.objs.size = 930) (hk : s.toks = 3455) :
    Sem.wp (model pw w) ctxM (execs (bodyAt 7 22) envM) (fun f _ s' => f = .next ∧ Hd s s' (k3 w.params ++ (k2 w.params ++ amF w.params ++ [(232, o_232 w)] ++ (k1 w.params ++ bk w.params))) 1077 3835) (fun _ _ _ => False) p s := by
  obtain ⟨st, he, h1, h2, h3⟩ := seeS_of (stage3 w)
  have hl : Stands s.heap (l3 w.params) := hs.left.left.left.left
  have A := At.start (fz := fz3) hl hn hk
  rw [← exsQ_eq] at he
  have q := evSs_sound (cl3_ok (w := w) (b := stB s (l3 w.params) fz3) rfl) spec_none ctxM envM (bodyAt 7 22) _ _ _ he p s A
  refine Sem.wp_mono _ _ _ (fun f p' s' x => ?_) (fun _ _ _ x => x) p s q
  obtain ⟨rfl, A'⟩ := x
  have hm : Stands s.heap (k2 w.params ++ amF w.params ++ [(232, o_232 w)] ++ (k1 w.params ++ bk w.params)) := by
    have a := hs.left
    exact ((a.left.left.right.app a.left.right).app a.right).app hs.right
  exact ⟨rfl, (At.stands A' h3).app (At.keeps A' hm (keepB_of (by kernel_rfl))), A'.size.trans h1, A'.toks.trans h2, A'.gens, A'.drawn, A'.os⟩
end
theorem body_split : bodyM = bodyM.take 6 ++ (bodyAt 6 1 ++ bodyAt 7 22) := by kernel_rfl
theorem stage0p (w : World) : (match evT (fun _ => false) (fun _ _ _ _ => none) (sett w) preQ ctx0 default ⟨mkT (l0 w.params), 11, boot_toks⟩ with | .ok _ p _ => decide (p = default) | _ => false) = true := by kernel_rfl
end Sp
end
section
open PySem PySem.W PySem.Calls PyProof.Rows
set_option maxRecDepth 100000
set_option maxHeartbeats 1000000
set_option linter.all false
namespace Sp
noncomputable def finL (w : World) : List (Nat × Obj) := k3 w.params ++ (k2 w.params ++ amF w.params ++ [(232, o_232 w)] ++ (k1 w.params ++ bk w.params))
theorem boot_l0 (P : Params) : Stands (boot_heap P) (l0 P) := by
  intro p hp
  simp only [l0, List.mem_cons, List.not_mem_nil, or_false] at hp
  rcases hp with rfl | rfl | rfl | rfl <;> rfl
theorem boot_bk (P : Params) : Stands (boot_heap P) (bk P) := by
  intro p hp
  simp only [bk, List.mem_cons, List.not_mem_nil, or_false] at hp
  rcases hp with rfl | rfl | rfl | rfl | rfl | rfl | rfl <;> rfl
theorem top_wp {w : World} {s₀ : Shared} (h0 : s₀.heap = boot_heap w.params) (ht : s₀.toks = boot_toks) :
    Sem.wp (model pw w) ctx0 (topStub pw).cur (fun fin _ s' => (∃ f, fin = .done f) ∧ Hd s₀ s' (finL w) 1077 3835) (fun _ _ _ => False) default s₀ := by
  show Sem.wp (model pw w) ctx0 (do
      let code ← moduleCode pw.main
      let frame ← newBodyFrame code mainNs mainNs
      let _ ← run (.body (behindTheImports pw) { scope := pw.main.scope, locals := mainNs, globals := mainNs, cells := [], code, frame := some frame })
      ret .none) _ _ default s₀
  have A0 : At (stB s₀ (l0 w.params) fz0) ⟨mkT (l0 w.params), 11, boot_toks⟩ s₀ := At.start (h0 ▸ boot_l0 w.params) (by rw [h0]; rfl) ht
  have hbk : Stands s₀.heap (bk w.params) := h0 ▸ boot_bk w.params
  obtain ⟨a, p, st, he, hab, h1, h2, h3⟩ := seeT_of (stage0 w)
  have hpos := stage0p w
  rw [he] at hpos
  have hp := of_decide_eq_true hpos
  subst hp
  have hab : a = (.ref 13, 14) := hab
  subst hab
  have q := evT_sound (cl_none (M := model pw w) (b := stB s₀ (l0 w.params) fz0)) preQ ctx0 default _ s₀ A0
  change Says (model pw w) (stB s₀ (l0 w.params) fz0) ctx0 preQ default s₀ (evT (fun _ => false) (fun _ _ _ _ => none) (sett w) preQ ctx0 default ⟨mkT (l0 w.params), 11, boot_toks⟩) at q
  rw [he] at q
  change Sem.wp (model pw w) ctx0 preQ _ _ default s₀ at q
  unfold preQ at q
  rw [← mcQ_eq, ← nbQ_eq, Sem.wp_bind'] at q
  rw [Sem.wp_bind']
  refine Sem.wp_mono _ _ _ (fun code p1 s1 q => ?_) (fun _ _ _ x => x) _ _ q
  rw [Sem.wp_bind'] at q
  rw [Sem.wp_bind']
  refine Sem.wp_mono _ _ _ (fun frame p2 s2 q => ?_) (fun _ _ _ x => x) _ _ q
  rw [Sem.wp_pure'] at q
  obtain ⟨e, rfl, A1⟩ := q
  obtain ⟨rfl, rfl⟩ := Prod.mk.inj e
  have L1 : Stands s2.heap (l1 w.params) := At.stands A1 h3
  have B1 : Stands s2.heap (bk w.params) := At.keeps A1 hbk (keepB_of (by kernel_rfl))
  rw [Sem.wp_bind', Sem.wp_run]
  show wpCode (model pw w) ctxM _ default s2
  rw [wpCode_iff_wp]
  show Sem.wp (model pw w) ctxM (do blockStart bodyM envM; return Fin.done (← (execs bodyM envM).onRaise (leaving envM))) _ _ default s2
  rw [Sem.wp_bind']
  have A2 : At (stB s2 (l1 w.params) fz0) ⟨mkT (l1 w.params), 15, 187⟩ s2 := At.start L1 (A1.size.trans h1) (A1.toks.trans h2)
  obtain ⟨a', p', st', he', hab', h1', h2', h3'⟩ := seeT_of (stage0b w)
  have q' := evT_sound (cl_none (M := model pw w) (b := stB s2 (l1 w.params) fz0)) (bstQ bodyM envM) ctxM default _ s2 A2
  change Says (model pw w) (stB s2 (l1 w.params) fz0) ctxM (bstQ bodyM envM) default s2 (evT (fun _ => false) (fun _ _ _ _ => none) (sett w) (bstQ bodyM envM) ctxM default ⟨mkT (l1 w.params), 15, 187⟩) at q'
  rw [he'] at q'
  rw [← bstQ_eq] at q'
  change Sem.wp (model pw w) ctxM (blockStart bodyM envM) (OkQ _ _ _ _) (fun _ _ _ => False) default s2 at q'
  refine Sem.wp_mono _ _ _ (fun _ p3 s3 q => ?_) (fun _ _ _ x => x.elim) _ _ q'
  obtain ⟨_, _, A3⟩ := q
  have S3 : Stands s3.heap (l1 w.params ++ bk w.params) := (At.stands A3 h3').app (At.keeps A3 B1 (keepB_of (by kernel_rfl)))
  rw [Sem.wp_bind', Sem.wp_onRaise, body_split]
  refine wp_execs_append _ _ _ _ ?_
  refine Sem.wp_mono _ _ _ (fun f p4 s4 q => ?_) (fun _ _ _ x => x.elim) _ _ (st1 S3 (A3.size.trans h1') (A3.toks.trans h2'))
  obtain ⟨rfl, D1⟩ := q
  refine ⟨rfl, wp_execs_append _ _ _ _ ?_⟩
  refine Sem.wp_mono _ _ _ (fun f p5 s5 q => ?_) (fun _ _ _ x => x.elim) _ _ (st2 D1.st D1.size D1.toks)
  obtain ⟨rfl, D2⟩ := q
  refine ⟨rfl, ?_⟩
  refine Sem.wp_mono _ _ _ (fun f p6 s6 q => ?_) (fun _ _ _ x => x.elim) _ _ (st3 D2.st D2.size D2.toks)
  obtain ⟨rfl, D3⟩ := q
  rw [Sem.wp_pure']
  have D := (D1.trans D2).trans D3
  show Sem.wp (model pw w) ctx0 (ret .none : Sem Fin) (fun fin _ s' => (∃ f, fin = Fin.done f) ∧ Hd s₀ s' (finL w) 1077 3835) (fun _ _ _ => False) default s6
  have e0 : (ret .none : Sem Fin) = pure (.done (.ret .none)) := rfl
  rw [e0, Sem.wp_pure']
  exact ⟨⟨_, rfl⟩, D.st, D.size, D.toks, D.gens.trans (A3.gens.trans A1.gens), D.drawn.trans (A3.drawn.trans A1.drawn), D.os.trans (A3.os.trans A1.os)⟩
end Sp
end
section
open PySem PySem.W PySem.Calls PyProof.Rows
set_option maxRecDepth 100000
set_option maxHeartbeats 1000000
set_option linter.all false
namespace Sp
/-- the heap's few places that the statement looks at -/
noncomputable def hK (P : Params) : Heap := { objs := #[boot_o_0 P, boot_o_1 P, o_2 P, o_3 P, o_4 P] }
structure Like (P : Params) (h : Heap) : Prop where
  a0 : h.get? 0 = some (boot_o_0 P)
  a2 : h.get? 2 = some (o_2 P)
  a3 : h.get? 3 = some (o_3 P)
  a4 : h.get? 4 = some (o_4 P)
theorem like_hK (P : Params) : Like P (hK P) := ⟨rfl, rfl, rfl, rfl⟩
section
variable {P : Params} {h : Heap}
theorem Like.static (x : Like P h) (k : Str) : staticOf h k = staticOf (hK P) k := by
  unfold staticOf
  have e : cStatics = 2 := rfl
  rw [e, x.a2, (like_hK P).a2]
theorem Like.global (x : Like P h) (k : Str) : globalOf h k = globalOf (hK P) k := by
  unfold globalOf
  have e : mainNs = 3 := rfl
  rw [e, x.a3, (like_hK P).a3]
theorem Like.builtin (x : Like P h) (k : Str) : builtinOf h k = builtinOf (hK P) k := by
  unfold builtinOf
  have e : builtinsNs = 0 := rfl
  rw [e, x.a0, (like_hK P).a0]
theorem hK_acc (P : Params) : (hK P).accountedOkI (importedModules pw.main.body) = true := by kernel_rfl
theorem hK_stat (P : Params) : staticsOk (importedModules pw.main.body) (boot_heap P) (hK P) = true := by kernel_rfl
theorem hK_bound (P : Params) : namesBound pw (hK P) = true := by kernel_rfl
theorem hK_laid (P : Params) : laidKept (boot_heap P) (hK P) = true := by kernel_rfl
theorem hK_blt (P : Params) : (hK P).bltView = bltViewBooted := by kernel_rfl
theorem hK_ns (P : Params) : (hK P).isNs mainGlobals = true ∧ (hK P).isNs builtinsNs = true := ⟨by kernel_rfl, by kernel_rfl⟩
theorem Like.acc (x : Like P h) : staticsAccountedI h (importedModules pw.main.body) := by
  have q := Heap.accountedI_of_ok (hK_acc P)
  unfold staticsAccountedI at q ⊢
  simp only [x.static]
  exact q
theorem Like.stat (x : Like P h) : staticsBehindTheTop (importedModules pw.main.body) (boot_heap P) h := by
  have q := statics_of_ok (hK_stat P)
  unfold staticsBehindTheTop at q ⊢
  simp only [x.static]
  exact q
theorem Like.blt (x : Like P h) : builtinsAsBooted h := by
  intro k hk
  rw [x.builtin]
  exact (Pin.builtinOf_eq (hK_ns P).2 k).trans (Heap.of_bltView (hK_ns P).2 (hK_blt P) k hk)
theorem Like.bound (x : Like P h) : ∀ k v, globalOf h k = some v → k ∈ startupNames ∨ k ∈ pw.boundNames := by
  intro k v hv
  rw [x.global] at hv
  exact names_of_bound (hK_bound P) k v hv
theorem Like.laid (x : Like P h) : ∀ n ∈ laidNames, globalOf h n = globalOf (boot_heap P) n := by
  intro n hn
  rw [x.global]
  exact laid_of_kept (hK_laid P) n hn
theorem Like.keys (x : Like P h) : keysAreStrs h mainNs := by
  obtain ⟨o, es, n, ho, hd, he⟩ := Pin.keysAreStrs_of (hK_ns P).1
  have e : (hK P).get? mainGlobals = some (o_3 P) := (like_hK P).a3
  rw [e] at ho; cases ho
  exact ⟨_, es, n, x.a3, hd, he⟩
theorem Like.bmain (x : Like P h) : builtinsGlobalAsBooted h := by
  refine ⟨4, o_4 P, ?_, x.a4, rfl, rfl⟩
  rw [x.global]
  have e := Pin.globalOf_eq (hK_ns P).1 "__builtins__"
  rw [e]
  kernel_rfl
end
theorem top_ran {w : World} {s₀ : Shared} (h0 : s₀.heap = boot_heap w.params) (ht : s₀.toks = boot_toks) (hg : s₀.gens = #[]) (hz : s₀.asleep) :
    ∃ s₁, TopRan pw w s₀ s₁ ∧ Hd s₀ s₁ (finL w) 1077 3835 ∧ s₁.asleep ∧ s₁.gens = #[] ∧ Like w.params s₁.heap := by
  have q := top_wp (w := w) h0 ht
  obtain ⟨s₁, hrun, hlife, D, hgens⟩ := runs_of (prog := pw) (w := w) (P := fun s' => Hd s₀ s' (finL w) 1077 3835) hz (Sem.wp_mono _ _ _ (fun fin p s' x => ⟨x.1, x.2, x.2.gens.trans hg⟩) (fun _ _ _ x => x) _ _ q)
  have S := D.st
  have S3 : Stands s₁.heap (k3 w.params) := S.left
  have L : Like w.params s₁.heap := ⟨S3 (0, _) (.head _), S3 (2, _) (.tail _ (.head _)), S3 (3, _) (.tail _ (.tail _ (.head _))), S3 (4, _) (.tail _ (.tail _ (.tail _ (.head _))))⟩
  have SB : Stands s₁.heap (bk w.params) := S.right.right.right
  refine ⟨s₁, ⟨hrun, hlife, Shared.rest_eq D.os, ?_, L.acc, h0 ▸ L.stat, L.keys, L.blt, L.bmain, by rw [hgens]; simp, L.bound, h0 ▸ L.laid⟩, D, Shared.asleep_of_life hlife hz, hgens, L⟩
  intro b o hb hn
  have hn2 : b ≠ 2 := fun z => hn (.inr (.inl z))
  have hn3 : b ≠ 3 := fun z => hn (.inl z)
  rw [h0] at hb
  have hlt : b < 11 := Heap.lt_size hb
  match b, hlt with
  | 0, _ => cases hb; exact L.a0
  | 1, _ => cases hb; exact SB (1, _) (.head _)
  | 2, _ => exact (hn2 rfl).elim
  | 3, _ => exact (hn3 rfl).elim
  | 4, _ => cases hb; exact L.a4
  | 5, _ => cases hb; exact SB (5, _) (.tail _ (.head _))
  | 6, _ => cases hb; exact SB (6, _) (.tail _ (.tail _ (.head _)))
  | 7, _ => cases hb; exact SB (7, _) (.tail _ (.tail _ (.tail _ (.head _))))
  | 8, _ => cases hb; exact SB (8, _) (.tail _ (.tail _ (.tail _ (.tail _ (.head _)))))
  | 9, _ => cases hb; exact SB (9, _) (.tail _ (.tail _ (.tail _ (.tail _ (.tail _ (.head _))))))
  | 10, _ => cases hb; exact SB (10, _) (.tail _ (.tail _ (.tail _ (.tail _ (.tail _ (.tail _ (.head _)))))))
end Sp
end
section
namespace Sp
open PySem (Operator CmpOp)
/-- a row of an among table -/
structure Ent where
  s : List Nat
  sub : Int
  res : Int
/-- a rule of the law -/
structure Rul where
  ends : List (List Nat)
  ins : List Nat
  fur : List (List Nat)
/-- what a value is -/
inductive AV where
  | none | bool (b : Bool) | int (i : Int) | str (s : List Nat)
  | strs (l : List (List Nat)) | ints (l : List Int)
  | rule (r : Rul) | rules (l : List Rul)
  | self | amg (e : Ent) | tab (l : List Ent) | gv
/-- expressions -/
inductive CE where
  | var (i : Nat) | glob (g : Nat) | none | int (n : Int) | str (s : List Nat) | bool (b : Bool)
  | fld (e : CE) (f : Nat) | amf (e : CE) (k : Nat) | ctab (k : Nat)
  | call (f : Nat) (args : CE) | meth (i f : Nat) (args : CE)
  | nil | cons (a r : CE)
  | len (e : CE) | ord (e : CE) | min2 (a b : CE) | max2 (a b : CE) | endsw (a b : CE)
  | idx (a b : CE) | slice (a lo hi : CE)
  | bin (op : Operator) (a b : CE) | cmp (op : CmpOp) (a b : CE)
  | and (a b : CE) | or (a b : CE) | not (a : CE) | neg (a : CE) | ite (c a b : CE)
  | lst (l : List (List Nat))
/-- statements -/
inductive CS where
  | skip | seq (a b : CS)
  | asg (i : Nat) (e : CE) | setf (o : CE) (f : Nat) (e : CE) | augl (i : Nat) (op : Operator) (e : CE) | augf (o : CE) (f : Nat) (op : Operator) (e : CE)
  | ex (e : CE) | ret (e : CE) | ite (c : CE) (a b : CS) | whl (c : CE) (b : CS)
  | forR (i : Nat) (a b : CE) (st : Int) (body : CS) | forL (i : Nat) (e : CE) (body : CS) | forT (i j k : Nat) (e : CE) (body : CS)
  | tryS (b : CS) (k : Nat) | raise (k : Nat) | brk | cont | assert (e : CE)
inductive Fl where
  | next | brk | cont | ret (v : AV) | exc (k : Nat)
structure S where
  loc : List (Option AV)
  fs : List AV
noncomputable def S.set (σ : S) (i : Nat) (v : AV) : S := ⟨σ.loc.set i (some v), σ.fs⟩
noncomputable def S.get (σ : S) (i : Nat) : Option AV := (σ.loc[i]?).join
noncomputable def lim : Nat := 1048576
noncomputable def setF (l : List AV) (f : Nat) (v : AV) : Option (List AV) :=
  if f < l.length then some (l.set f v) else if f = l.length ∧ f < 9 then some (l ++ [v]) else none
noncomputable def gvL : List (List Nat) := [[97], [101], [105], [111], [117], [225], [233], [237], [243], [250], [252]]
noncomputable def avInt : AV → Option Int
  | .int i => some i
  | _ => none
theorem avInt_inv {a : AV} {i : Int} (h : avInt a = some i) : a = .int i := by
  cases a with
  | int j => cases h; rfl
  | _ => exact none_inv h
noncomputable def avStr : AV → Option (List Nat)
  | .str s => some s
  | _ => none
theorem avStr_inv {a : AV} {s : List Nat} (h : avStr a = some s) : a = .str s := by
  cases a with
  | str j => cases h; rfl
  | _ => exact none_inv h
noncomputable def avStrs : AV → Option (List (List Nat))
  | .strs s => some s
  | _ => none
theorem avStrs_inv {a : AV} {s : List (List Nat)} (h : avStrs a = some s) : a = .strs s := by
  cases a with
  | «strs» j => cases h; rfl
  | _ => exact none_inv h
noncomputable def addTo (b : AV) : AV → Option AV
  | .int x => (avInt b).map fun y => .int (x + y)
  | .str x => (avStr b).bind fun y => if x.length + y.length ≤ lim then some (.str (x ++ y)) else Option.none
  | .strs x => (avStrs b).bind fun y => if x.length + y.length ≤ lim then some (.strs (x ++ y)) else Option.none
  | _ => Option.none
noncomputable def opBin : Operator → AV → AV → Option AV
  | .Add, a, b => addTo b a
  | .Sub, a, b => o2 (fun x y => .int (x - y)) (avInt a) (avInt b)
  | .FloorDiv, a, b => (avInt a).bind fun x => (avInt b).bind fun y => if y = 2 then some (.int (x / 2)) else Option.none
  | .Mod, a, b => (avInt a).bind fun x => (avInt b).bind fun y => if 0 < y then some (.int (x % y)) else Option.none
  | .RShift, a, b => (avInt a).bind fun x => (avInt b).bind fun y => if y = 1 then some (.int (x / 2)) else Option.none
  | _, _, _ => Option.none
noncomputable def opAug : Operator → AV → AV → Option AV
  | .Add, a, b => o2 (fun x y => .int (x + y)) (avInt a) (avInt b)
  | .Sub, a, b => o2 (fun x y => .int (x - y)) (avInt a) (avInt b)
  | _, _, _ => Option.none
noncomputable def isScal : AV → Bool
  | .none => true
  | .bool _ => true
  | .int _ => true
  | .str _ => true
  | _ => false
noncomputable def eqTo (b : AV) : AV → Option Bool
  | .int x => (avInt b).map fun y => decide (x = y)
  | .str x => (avStr b).map fun y => decide (x = y)
  | _ => Option.none
noncomputable def neTo (b : AV) : AV → Option Bool
  | .int x => (avInt b).map fun y => decide (x ≠ y)
  | .str x => (avStr b).map fun y => decide (x ≠ y)
  | _ => Option.none
noncomputable def inTo (x : List Nat) : AV → Option Bool
  | .strs l => some (decide (x ∈ l))
  | .gv => some (decide (x ∈ gvL))
  | _ => Option.none
noncomputable def ninTo (x : List Nat) : AV → Option Bool
  | .strs l => some (decide (x ∉ l))
  | .gv => some (decide (x ∉ gvL))
  | _ => Option.none
noncomputable def opCmp : CmpOp → AV → AV → Option Bool
  | .Lt, a, b => o2 (fun x y => decide (x < y)) (avInt a) (avInt b)
  | .LtE, a, b => o2 (fun x y => decide (x ≤ y)) (avInt a) (avInt b)
  | .Gt, a, b => o2 (fun x y => decide (y < x)) (avInt a) (avInt b)
  | .GtE, a, b => o2 (fun x y => decide (y ≤ x)) (avInt a) (avInt b)
  | .Eq, a, b => eqTo b a
  | .NotEq, a, b => neTo b a
  | .In, a, b => (avStr a).bind fun x => inTo x b
  | .NotIn, a, b => (avStr a).bind fun x => ninTo x b
  | _, _, _ => Option.none
noncomputable def atIdx (i : Int) : AV → Option AV
  | .str l => if 0 ≤ i then (l[i.toNat]?).map fun c => .str [c] else Option.none
  | .strs l => if 0 ≤ i ∧ l.length ≤ lim then (l[i.toNat]?).map .str else Option.none
  | .tab l => if 0 ≤ i ∧ l.length ≤ lim then (l[i.toNat]?).map .amg else Option.none
  | .rule r => if i = 0 then some (.strs r.ends) else Option.none
  | _ => Option.none
noncomputable def opIdx (a b : AV) : Option AV := (avInt b).bind fun i => atIdx i a
noncomputable def loOf : AV → Option Nat
  | .none => some 0
  | .int i => if 0 ≤ i ∧ i ≤ 1048576 then some i.toNat else Option.none
  | _ => Option.none
noncomputable def hiOf (n : Nat) : AV → Option Nat
  | .none => some n
  | .int i => if 0 ≤ i ∧ i ≤ 1048576 then some i.toNat else Option.none
  | _ => Option.none
noncomputable def opSlice (u a b : AV) : Option AV := match u with
  | .str l => (loOf a).bind fun x => (hiOf l.length b).map fun y => .str ((l.take y).drop x)
  | .ints l => (loOf a).bind fun x => (hiOf l.length b).map fun y => .ints ((l.take y).drop x)
  | _ => Option.none
noncomputable def opLen : AV → Option AV
  | .str l => some (.int l.length)
  | .strs l => if l.length ≤ lim then some (.int l.length) else Option.none
  | .tab l => if l.length ≤ lim then some (.int l.length) else Option.none
  | _ => Option.none
noncomputable def opOrd (a : AV) : Option AV := (avStr a).bind fun l => (one1 l).map fun (c : Nat) => AV.int (c : Int)
noncomputable def opMin (a b : AV) : Option AV := o2 (fun x y => .int (min x y)) (avInt a) (avInt b)
noncomputable def opMax (a b : AV) : Option AV := o2 (fun x y => .int (max x y)) (avInt a) (avInt b)
noncomputable def opEnds (a b : AV) : Option AV := o2 (fun x y => .bool (y.isSuffixOf x)) (avStr a) (avStr b)
noncomputable def opNeg (a : AV) : Option AV := (avInt a).map fun x => .int (-x)
noncomputable def amPart (e : Ent) : Nat → Option AV
  | 0 => some (.str e.s)
  | 1 => some (.int e.sub)
  | 2 => some (.int e.res)
  | _ + 3 => Option.none
noncomputable def opAmf (a : AV) (k : Nat) : Option AV := match a with
  | .amg e => amPart e k
  | _ => Option.none
noncomputable def opFld (fs : List AV) : AV → Nat → Option AV
  | .self, f => fs[f]?
  | _, _ => Option.none
noncomputable def itemsOf : AV → Option (List AV)
  | .str l => some (l.map fun c => .str [c])
  | .ints l => some (l.map .int)
  | .rules l => some (l.map .rule)
  | _ => Option.none
noncomputable def rangeL (a b st : Int) : Option (List AV) :=
  if -lim ≤ a ∧ a ≤ lim ∧ -lim ≤ b ∧ b ≤ lim then
    if st = 1 then some ((List.range (b - a).toNat).map fun (k : Nat) => .int (a + k))
    else if st = -1 then some ((List.range (a - b).toNat).map fun (k : Nat) => .int (a - k))
    else Option.none
  else Option.none
/-- the tables that the text's top has made -/
structure Tabs where
  glob : Nat → Option AV
  tab : Nat → Option AV
section
variable (T : Tabs) (C : Nat → List AV → List AV → (AV → List AV → Prop) → Prop)
mutual
noncomputable def wE : CE → (AV → S → Prop) → S → Prop
  | .var i, Q, σ => ∃ v, σ.get i = some v ∧ Q v σ
  | .glob g, Q, σ => ∃ v, T.glob g = some v ∧ Q v σ
  | .none, Q, σ => Q .none σ
  | .int n, Q, σ => Q (.int n) σ
  | .str s, Q, σ => s.length ≤ lim ∧ Q (.str s) σ
  | .bool b, Q, σ => Q (.bool b) σ
  | .fld e f, Q, σ => wE e (fun a σ => ∃ v, opFld σ.fs a f = some v ∧ Q v σ) σ
  | .amf e k, Q, σ => wE e (fun a σ => ∃ v, opAmf a k = some v ∧ Q v σ) σ
  | .ctab k, Q, σ => ∃ v, T.tab k = some v ∧ Q v σ
  | .call f args, Q, σ => wA args (fun vs σ => C f vs σ.fs (fun v fs => Q v ⟨σ.loc, fs⟩)) σ
  | .meth i f args, Q, σ => σ.get i = some .self ∧ wA args (fun vs σ => C f (.self :: vs) σ.fs (fun v fs => Q v ⟨σ.loc, fs⟩)) σ
  | .nil, _, _ => False
  | .cons _ _, _, _ => False
  | .len e, Q, σ => wE e (fun a σ => ∃ v, opLen a = some v ∧ Q v σ) σ
  | .ord e, Q, σ => wE e (fun a σ => ∃ v, opOrd a = some v ∧ Q v σ) σ
  | .min2 a b, Q, σ => wE a (fun x σ => wE b (fun y σ => ∃ v, opMin x y = some v ∧ Q v σ) σ) σ
  | .max2 a b, Q, σ => wE a (fun x σ => wE b (fun y σ => ∃ v, opMax x y = some v ∧ Q v σ) σ) σ
  | .endsw a b, Q, σ => wE a (fun x σ => ∃ l, x = .str l ∧ wE b (fun y σ => ∃ v, opEnds x y = some v ∧ Q v σ) σ) σ
  | .idx a b, Q, σ => wE a (fun x σ => wE b (fun y σ => ∃ v, opIdx x y = some v ∧ Q v σ) σ) σ
  | .slice a lo hi, Q, σ => wE a (fun x σ => wE lo (fun y σ => wE hi (fun z σ => ∃ v, opSlice x y z = some v ∧ Q v σ) σ) σ) σ
  | .bin op a b, Q, σ => wE a (fun x σ => wE b (fun y σ => ∃ v, opBin op x y = some v ∧ Q v σ) σ) σ
  | .cmp op a b, Q, σ => wE a (fun x σ => wE b (fun y σ => ∃ v, opCmp op x y = some v ∧ Q (.bool v) σ) σ) σ
  | .and _ _, _, _ => False
  | .or _ _, _, _ => False
  | .not _, _, _ => False
  | .neg a, Q, σ => wE a (fun x σ => ∃ v, opNeg x = some v ∧ Q v σ) σ
  | .ite c a b, Q, σ => wT c (fun t σ => (t = true → wE a Q σ) ∧ (t = false → wE b Q σ)) σ
  | .lst l, Q, σ => (l.length ≤ lim ∧ ∀ s ∈ l, s.length ≤ lim) ∧ Q (.strs l) σ
/-- arguments -/
noncomputable def wA : CE → (List AV → S → Prop) → S → Prop
  | .nil, Q, σ => Q [] σ
  | .cons a r, Q, σ => wE a (fun v σ => wA r (fun vs σ => Q (v :: vs) σ) σ) σ
  | _, _, _ => False
/-- a test -/
noncomputable def wT : CE → (Bool → S → Prop) → S → Prop
  | .bool b, Q, σ => Q b σ
  | .not a, Q, σ => wT a (fun t σ => Q (!t) σ) σ
  | .and a b, Q, σ => wT a (fun t σ => (t = true → wT b Q σ) ∧ (t = false → Q false σ)) σ
  | .or a b, Q, σ => wT a (fun t σ => (t = true → Q true σ) ∧ (t = false → wT b Q σ)) σ
  | .cmp op a b, Q, σ => wE a (fun x σ => wE b (fun y σ => ∃ v, opCmp op x y = some v ∧ Q v σ) σ) σ
  | .meth i f args, Q, σ => σ.get i = some .self ∧ wA args (fun vs σ => C f (.self :: vs) σ.fs (fun v fs => ∃ b, v = .bool b ∧ Q b ⟨σ.loc, fs⟩)) σ
  | .endsw a b, Q, σ => wE a (fun x σ => ∃ l, x = .str l ∧ wE b (fun y σ => ∃ v, opEnds x y = some v ∧ ∃ t, v = .bool t ∧ Q t σ) σ) σ
  | .var i, Q, σ => ∃ v, σ.get i = some v ∧ ∃ b, v = .bool b ∧ Q b σ
  | _, _, _ => False
end
noncomputable def loopK (Q : Fl → S → Prop) (again : S → Prop) : Fl → S → Prop
  | .next, σ => again σ
  | .cont, σ => again σ
  | .brk, σ => Q .next σ
  | .ret v, σ => Q (.ret v) σ
  | .exc k, σ => Q (.exc k) σ
noncomputable def seqK (Q : Fl → S → Prop) (then_ : S → Prop) : Fl → S → Prop
  | .next, σ => then_ σ
  | .cont, σ => Q .cont σ
  | .brk, σ => Q .brk σ
  | .ret v, σ => Q (.ret v) σ
  | .exc k, σ => Q (.exc k) σ
noncomputable def tryK (Q : Fl → S → Prop) (k : Nat) : Fl → S → Prop
  | .next, σ => Q .next σ
  | .cont, σ => Q .cont σ
  | .brk, σ => Q .brk σ
  | .ret v, σ => Q (.ret v) σ
  | .exc j, σ => (j = k → Q .next σ) ∧ (j ≠ k → Q (.exc j) σ)
noncomputable def iterW (step : (S → Prop) → S → Prop) : Nat → S → Prop
  | 0, _ => False
  | n + 1, σ => step (iterW step n) σ
noncomputable def forW (step : AV → (S → Prop) → S → Prop) (done : S → Prop) : List AV → S → Prop
  | [], σ => done σ
  | v :: r, σ => step v (forW step done r) σ
noncomputable def wS : CS → (Fl → S → Prop) → S → Prop
  | .skip, Q, σ => Q .next σ
  | .seq a b, Q, σ => wS a (seqK Q (wS b Q)) σ
  | .asg i e, Q, σ => wE T C e (fun v σ => Q .next (σ.set i v)) σ
  | .setf o f e, Q, σ => wE T C e (fun v σ => wE T C o (fun x σ => x = .self ∧ ∃ fs, setF σ.fs f v = some fs ∧ Q .next ⟨σ.loc, fs⟩) σ) σ
  | .augl i op e, Q, σ => ∃ a, σ.get i = some a ∧ wE T C e (fun y σ => ∃ v, opAug op a y = some v ∧ Q .next (σ.set i v)) σ
  | .augf o f op e, Q, σ => wE T C o (fun x σ => x = .self ∧ ∃ a, σ.fs[f]? = some a ∧ wE T C e (fun y σ => ∃ v, opAug op a y = some v ∧ ∃ fs, setF σ.fs f v = some fs ∧ Q .next ⟨σ.loc, fs⟩) σ) σ
  | .ex e, Q, σ => wE T C e (fun v σ => isScal v = true ∧ Q .next σ) σ
  | .ret e, Q, σ => wE T C e (fun v σ => Q (.ret v) σ) σ
  | .ite c a b, Q, σ => wT T C c (fun t σ => (t = true → wS a Q σ) ∧ (t = false → wS b Q σ)) σ
  | .whl c b, Q, σ => ∃ n, iterW (fun again σ => wT T C c (fun t σ => (t = true → wS b (loopK Q again) σ) ∧ (t = false → Q .next σ)) σ) n σ
  | .forR i a b st body, Q, σ => wE T C a (fun x σ => wE T C b (fun y σ => ∃ p q l, x = .int p ∧ y = .int q ∧ rangeL p q st = some l ∧
      forW (fun v again σ => wS body (loopK Q again) (σ.set i v)) (Q .next) l σ) σ) σ
  | .forL i e body, Q, σ => wE T C e (fun x σ => ∃ l, itemsOf x = some l ∧
      forW (fun v again σ => wS body (loopK Q again) (σ.set i v)) (Q .next) l σ) σ
  | .forT i j k e body, Q, σ => wE T C e (fun x σ => ∃ l, x = .rules l ∧
      forW (fun v again σ => ∃ r, v = .rule r ∧ wS body (loopK Q again) (((σ.set i (.strs r.ends)).set j (.str r.ins)).set k (.strs r.fur))) (Q .next) (l.map .rule) σ) σ
  | .tryS b k, Q, σ => wS b (tryK Q k) σ
  | .raise k, Q, σ => Q (.exc k) σ
  | .brk, Q, σ => Q .brk σ
  | .cont, Q, σ => Q .cont σ
  | .assert e, Q, σ => wT T C e (fun t σ => t = true ∧ Q .next σ) σ
end
/-- a def: how many names it takes, how many it has, its body -/
structure CF where
  args : Nat
  locs : Nat
  body : CS
noncomputable def endK (Q : AV → List AV → Prop) : Fl → S → Prop
  | .ret v, σ => Q v σ.fs
  | .next, σ => Q .none σ.fs
  | _, _ => False
/-- a call: at most so deep -/
noncomputable def PC (T : Tabs) (prog : Nat → Option CF) (nat : Nat → List AV → Option AV) : Nat → Nat → List AV → List AV → (AV → List AV → Prop) → Prop
  | 0, _, _, _, _ => False
  | d + 1, f, args, fs, Q => match nat f args with
    | some v => Q v fs
    | none => ∃ c, prog f = some c ∧ args.length = c.args ∧ wS T (PC T prog nat d) c.body (endK Q) ⟨args.map some ++ List.replicate (c.locs - c.args) none, fs⟩
end Sp
end
section
namespace Sp
open PySem (Operator CmpOp Str Const Scope NameKind UnaryOp BoolOp Pos)
noncomputable def sL (s : Str) : List Nat := s.cps.toList
noncomputable def strIdx (x : Str) : List Str → Nat → Option Nat
  | [], _ => none
  | y :: r, n => if x = y then some n else strIdx x r (n + 1)
noncomputable def gnames : List Str := ["_law_signs", "_law_pronouns", "_law_forms", "_law_rules", "_law_inner", "_law_ys", "_law_verbs"]
noncomputable def fldNames : List Str := ["current", "cursor", "limit", "limit_backward", "bra", "ket", "I_pV", "I_p1", "I_p2"]
noncomputable def amNames : List Str := ["s", "substring_i", "result"]
noncomputable def tabNames : List Str := ["g_v", "a_0", "a_1", "a_2", "a_3", "a_4", "a_5", "a_6", "a_7", "a_8", "a_9"]
noncomputable def methNames : List Str := ["set_current", "get_current", "in_grouping", "go_in_grouping", "out_grouping", "go_out_grouping", "eq_s_b", "find_among", "find_among_b", "replace_s", "slice_from", "slice_del", "stemWord",
  "r_mark_regions", "r_postlude", "r_RV", "r_R2", "r_attached_pronoun", "r_standard_suffix", "r_y_verb_suffix", "r_verb_suffix", "r_residual_suffix", "_stem"]
noncomputable def funNames : List Str := ["_law_vowels", "_law_standard", "_law_shape", "_law_past", "_law_behind", "_law_end", "_law_bare", "_law_stem", "_law_word"]
noncomputable def labNames : List Str := ["lab0", "lab1", "lab2"]
/-- a def of the text has number 100 + its place; a method its place -/
noncomputable def funOff : Nat := 100
noncomputable def strC (e : PySem.Expr) : Option (List Nat) := (strCon e).map sL
theorem strC_inv {e : PySem.Expr} {x : List Nat} (h : strC e = some x) : ∃ s k p, e = .Constant (.str s) k p ∧ sL s = x := by
  obtain ⟨s, h1, h2⟩ := om_inv h
  obtain ⟨k, p, h3⟩ := strCon_inv h1
  exact ⟨s, k, p, h3, h2⟩
noncomputable def strsC : List PySem.Expr → Option (List (List Nat))
  | [] => some []
  | e :: r => (strC e).bind fun x => (strsC r).map (x :: ·)
noncomputable def isLoc (sc : Scope) (x : Str) : Option Nat := match sc.names.lookup x with
  | some .local => strIdx x (sc.names.map (·.1)) 0
  | _ => none
noncomputable def isGlob (sc : Scope) (x : Str) : Bool := match sc.names.lookup x with
  | some .globalImplicit => !(decide (x = "__debug__")) && !(decide (x = "__name__"))
  | _ => false
noncomputable def nameOf : PySem.Expr → Option Str
  | .Name x _ => some x
  | _ => none
theorem nameOf_inv {e : PySem.Expr} {x : Str} (h : nameOf e = some x) : ∃ p, e = .Name x p := by
  cases e with
  | Name y p => cases h; exact ⟨p, rfl⟩
  | _ => exact none_inv h
noncomputable def cArgs (f : PySem.Expr → Option CE) : List PySem.Expr → Option CE
  | [] => some .nil
  | x :: r => o2 .cons (f x) (cArgs f r)
noncomputable def okBase : PySem.Expr → Bool
  | .Name .. => true
  | .Subscript .. => true
  | _ => false
noncomputable def cName (sc : Scope) (x : Str) : Option CE := match isLoc sc x with
  | some i => some (.var i)
  | none => ifo (isGlob sc x) ((strIdx x gnames 0).map .glob)
theorem cName_inv {sc : Scope} {x : Str} {c : CE} (h : cName sc x = some c) : (∃ i, isLoc sc x = some i ∧ c = .var i) ∨ (isGlob sc x = true ∧ ∃ k, strIdx x gnames 0 = some k ∧ c = .glob k) := by
  unfold cName at h
  cases e : isLoc sc x with
  | some i => rw [e] at h; cases h; exact .inl ⟨i, rfl, rfl⟩
  | none =>
    rw [e] at h
    obtain ⟨h1, h2⟩ := ifo_inv h
    obtain ⟨k, h3, h4⟩ := om_inv h2
    exact .inr ⟨h1, k, h3, h4.symm⟩
noncomputable def cConst : Const → Option CE
  | .none => some .none
  | .bool b => some (.bool b)
  | .int i => some (.int i)
  | .str s => if s.cps.size ≤ lim then some (.str (sL s)) else none
  | _ => none
noncomputable def cFld (x : Str) (i : Nat) : Option CE := match strIdx x fldNames 0 with
  | some f => some (.fld (.var i) f)
  | none => (strIdx x amNames 0).map (.amf (.var i))
noncomputable def cAttr (sc : Scope) (x y : Str) : Option CE := if (decide (y = "SpanishStemmer") && isGlob sc y) = true then (strIdx x tabNames 0).map .ctab else (isLoc sc y).bind (cFld x)
theorem cAttr_inv {sc : Scope} {x y : Str} {c : CE} (h : cAttr sc x y = some c) : (y = "SpanishStemmer" ∧ isGlob sc y = true ∧ ∃ k, strIdx x tabNames 0 = some k ∧ c = .ctab k) ∨
    (∃ i, isLoc sc y = some i ∧ ((∃ f, strIdx x fldNames 0 = some f ∧ c = .fld (.var i) f) ∨ ∃ k, strIdx x amNames 0 = some k ∧ c = .amf (.var i) k)) := by
  rcases ite_inv h with ⟨h1, h2⟩ | ⟨_, h2⟩
  · obtain ⟨e1, e2⟩ := Bool.and_eq_true_iff.mp h1
    obtain ⟨k, h3, h4⟩ := om_inv h2
    exact .inl ⟨of_decide_eq_true e1, e2, k, h3, h4.symm⟩
  · obtain ⟨i, h3, h4⟩ := ob_inv h2
    refine .inr ⟨i, h3, ?_⟩
    unfold cFld at h4
    cases e : strIdx x fldNames 0 with
    | some f => rw [e] at h4; cases h4; exact .inl ⟨f, rfl, rfl⟩
    | none =>
      rw [e] at h4
      obtain ⟨k, h5, h6⟩ := om_inv h4
      exact .inr ⟨k, h5, h6.symm⟩
noncomputable def cUn : UnaryOp → Option CE → Option CE
  | .Not, a => a.map .not
  | .USub, a => a.map .neg
  | _, _ => none
noncomputable def bop : BoolOp → CE → CE → CE
  | .And, a, b => .and a b
  | .Or, a, b => .or a b
noncomputable def cPart (f : PySem.Expr → Option CE) : Option PySem.Expr → Option CE
  | some x => f x
  | none => some .none
noncomputable def cRest (f : PySem.Expr → Option CE) (op : BoolOp) (y : PySem.Expr) (p : Pos) : List PySem.Expr → Option CE
  | [] => f y
  | z :: r => f (.BoolOp op (y :: z :: r) p)
noncomputable def cBool (f : PySem.Expr → Option CE) (op : BoolOp) (p : Pos) : List PySem.Expr → Option CE
  | [] => none
  | x :: r => match r with
    | [] => none
    | y :: r => o2 (bop op) (f x) (cRest f op y p r)
noncomputable def cSub (f : PySem.Expr → Option CE) (v : PySem.Expr) : PySem.Expr → Option CE
  | .Slice lo hi st _ => ifo st.isNone (o3 .slice (f v) (cPart f lo) (cPart f hi))
  | i => o2 .idx (f v) (f i)
noncomputable def cBi (f : PySem.Expr → Option CE) (x : Str) (args : List PySem.Expr) : Option CE :=
  if x = "len" then (one1 args).bind fun a => (f a).map .len
  else if x = "ord" then (one1 args).bind fun a => (f a).map .ord
  else if x = "min" then (two2 args).bind fun a => o2 .min2 (f a.1) (f a.2)
  else if x = "max" then (two2 args).bind fun a => o2 .max2 (f a.1) (f a.2)
  else none
noncomputable def cCallN (sc : Scope) (f : PySem.Expr → Option CE) (x : Str) (args : List PySem.Expr) : Option CE := ifo (isGlob sc x) (match strIdx x funNames 0 with
  | some k => (cArgs f args).map (.call (funOff + k))
  | none => cBi f x args)
theorem cCallN_inv {sc : Scope} {f : PySem.Expr → Option CE} {x : Str} {args : List PySem.Expr} {c : CE} (h : cCallN sc f x args = some c) : isGlob sc x = true ∧
    ((∃ k a, strIdx x funNames 0 = some k ∧ cArgs f args = some a ∧ c = .call (funOff + k) a) ∨ (x = "len" ∧ ∃ y a, args = [y] ∧ f y = some a ∧ c = .len a) ∨ (x = "ord" ∧ ∃ y a, args = [y] ∧ f y = some a ∧ c = .ord a) ∨
      (x = "min" ∧ ∃ y z a b, args = [y, z] ∧ f y = some a ∧ f z = some b ∧ c = .min2 a b) ∨ (x = "max" ∧ ∃ y z a b, args = [y, z] ∧ f y = some a ∧ f z = some b ∧ c = .max2 a b)) := by
  obtain ⟨hg, h⟩ := ifo_inv h
  refine ⟨hg, ?_⟩
  cases e : strIdx x funNames 0 with
  | some k =>
    rw [e] at h
    obtain ⟨a, h1, h2⟩ := om_inv h
    exact .inl ⟨k, a, rfl, h1, h2.symm⟩
  | none =>
    rw [e] at h
    rcases ite_inv (show cBi f x args = some c from h) with ⟨h1, h⟩ | ⟨_, h⟩
    · obtain ⟨y, h2, h⟩ := ob_inv h
      obtain ⟨a, h3, h4⟩ := om_inv h
      exact .inr (.inl ⟨h1, y, a, one1_inv h2, h3, h4.symm⟩)
    rcases ite_inv h with ⟨h1, h⟩ | ⟨_, h⟩
    · obtain ⟨y, h2, h⟩ := ob_inv h
      obtain ⟨a, h3, h4⟩ := om_inv h
      exact .inr (.inr (.inl ⟨h1, y, a, one1_inv h2, h3, h4.symm⟩))
    rcases ite_inv h with ⟨h1, h⟩ | ⟨_, h⟩
    · obtain ⟨y, h2, h⟩ := ob_inv h
      obtain ⟨a, b, h3, h4, h5⟩ := o2_inv h
      exact .inr (.inr (.inr (.inl ⟨h1, y.1, y.2, a, b, two2_inv h2, h3, h4, h5.symm⟩)))
    rcases ite_inv h with ⟨h1, h⟩ | ⟨_, h⟩
    · obtain ⟨y, h2, h⟩ := ob_inv h
      obtain ⟨a, b, h3, h4, h5⟩ := o2_inv h
      exact .inr (.inr (.inr (.inr ⟨h1, y.1, y.2, a, b, two2_inv h2, h3, h4, h5.symm⟩)))
    · exact none_inv h
noncomputable def cCallA (sc : Scope) (f : PySem.Expr → Option CE) (o : PySem.Expr) (x : Str) (ok : Bool) (args : List PySem.Expr) : Option CE :=
  if x = "endswith" then (one1 args).bind fun y => ifo (ok && okBase o) (o2 .endsw (f o) (f y))
  else (nameOf o).bind fun y => ifo (ok && Nat.blt args.length 29) (o3 .meth (isLoc sc y) (strIdx x methNames 0) (cArgs f args))
noncomputable def cCall (sc : Scope) (f : PySem.Expr → Option CE) (args : List PySem.Expr) (p : Pos) : PySem.Expr → Option CE
  | .Name x _ => cCallN sc f x args
  | .Attribute o x ap => cCallA sc f o x (ap.endLine == p.line) args
  | _ => none
noncomputable def cE (sc : Scope) : Nat → PySem.Expr → Option CE
  | 0, _ => none
  | n + 1, e => match e with
    | .Name x _ => cName sc x
    | .Constant c _ _ => cConst c
    | .Attribute o x _ => (nameOf o).bind (cAttr sc x)
    | .BinOp l op r _ => o2 (.bin op) (cE sc n l) (cE sc n r)
    | .Compare l ops rs _ => (one1 ops).bind fun op => (one1 rs).bind fun r => o2 (.cmp op) (cE sc n l) (cE sc n r)
    | .UnaryOp op x _ => cUn op (cE sc n x)
    | .BoolOp op xs p => cBool (cE sc n) op p xs
    | .IfExp c a b _ => o3 .ite (cE sc n c) (cE sc n a) (cE sc n b)
    | .List es _ => (strsC es).map .lst
    | .Subscript v i _ => cSub (cE sc n) v i
    | .Call f args kws p => ifo kws.isEmpty (cCall sc (cE sc n) args p f)
    | _ => none
noncomputable def isPassS (l : List PySem.Stmt) : Bool := match one1 l with
  | some s => match s with
    | .Pass _ => true
    | _ => false
  | none => false
noncomputable def cAsg (sc : Scope) (e : Option CE) : PySem.Expr → Option CS
  | .Name x _ => o2 .asg (isLoc sc x) e
  | .Attribute o x _ => (nameOf o).bind fun y => o3 (fun i f c => .setf (.var i) f c) (isLoc sc y) (strIdx x fldNames 0) e
  | _ => none
noncomputable def cAug (sc : Scope) (op : Operator) (e : Option CE) : PySem.Expr → Option CS
  | .Name x _ => o2 (fun i c => .augl i op c) (isLoc sc x) e
  | .Attribute o x _ => (nameOf o).bind fun y => o3 (fun i f c => .augf (.var i) f op c) (isLoc sc y) (strIdx x fldNames 0) e
  | _ => none
noncomputable def isM1 : PySem.Expr → Bool
  | .UnaryOp op x _ => match op with
    | .USub => match x with
      | .Constant c _ _ => match c with
        | .int i => decide (i = 1)
        | _ => false
      | _ => false
    | _ => false
  | _ => false
theorem isM1_inv {e : PySem.Expr} (h : isM1 e = true) : ∃ k a b, e = .UnaryOp .USub (.Constant (.int 1) k a) b := by
  cases e with
  | UnaryOp op x b => cases op with
    | USub => cases x with
      | Constant c k a => cases c with
        | int i => have h := of_decide_eq_true (show decide (i = 1) = true from h); subst h; exact ⟨k, a, b, rfl⟩
        | _ => exact (nomatch (show false = true from h))
      | _ => exact (nomatch (show false = true from h))
    | _ => exact (nomatch (show false = true from h))
  | _ => exact (nomatch (show false = true from h))
noncomputable def cRange (sc : Scope) (i : Nat) (body : CS) (args : List PySem.Expr) : Option CS := match two2 args with
  | some a => o2 (fun p q => .forR i p q 1 body) (cE sc 40 a.1) (cE sc 40 a.2)
  | none => (thr3 args).bind fun a => ifo (isM1 a.2.2) (o2 (fun p q => .forR i p q (-1) body) (cE sc 40 a.1) (cE sc 40 a.2.1))
noncomputable def cIter (sc : Scope) (i : Nat) (body : CS) (it : PySem.Expr) : Option CS := match it with
  | .Call f args kws _ => ifo kws.isEmpty ((nameOf f).bind fun x => ifo (decide (x = "range") && isGlob sc x) (cRange sc i body args))
  | .Name x p => (cE sc 40 (.Name x p)).map fun e => .forL i e body
  | _ => none
noncomputable def cFor (sc : Scope) (body : Option CS) (it : PySem.Expr) : PySem.Expr → Option CS
  | .Name x _ => (isLoc sc x).bind fun i => body.bind fun b => cIter sc i b it
  | .Tuple es _ _ => (thr3 es).bind fun a => (nameOf a.1).bind fun x => (nameOf a.2.1).bind fun y => (nameOf a.2.2).bind fun z => (nameOf it).bind fun _ =>
      (isLoc sc x).bind fun i => (isLoc sc y).bind fun j => (isLoc sc z).bind fun k => o2 (fun e b => .forT i j k e b) (cE sc 40 it) body
  | _ => none
noncomputable def hType : PySem.ExceptHandler → Option PySem.Expr
  | .ExceptHandler t _ _ _ => t
noncomputable def hName : PySem.ExceptHandler → Option Str
  | .ExceptHandler _ n _ _ => n
noncomputable def hBody : PySem.ExceptHandler → List PySem.Stmt
  | .ExceptHandler _ _ b _ => b
noncomputable def cTry (sc : Scope) (body : Option CS) (h : PySem.ExceptHandler) : Option CS := ifo (hName h).isNone ((hType h).bind fun t => (nameOf t).bind fun l => ifo (isGlob sc l && isPassS (hBody h)) (o2 (fun k x => .tryS x k) (strIdx l labNames 0) body))
noncomputable def cRaise (sc : Scope) : PySem.Expr → Option CS
  | .Call f args kws _ => ifo (args.isEmpty && kws.isEmpty) ((nameOf f).bind fun l => ifo (isGlob sc l) ((strIdx l labNames 0).map .raise))
  | _ => none
noncomputable def c1 (sc : Scope) (f : List PySem.Stmt → Option CS) (s : PySem.Stmt) : Option CS := match s with
    | .Assign ts e _ => (one1 ts).bind (cAsg sc (cE sc 40 e))
    | .AugAssign t op e _ => cAug sc op (cE sc 40 e) t
    | .Expr e _ => (cE sc 40 e).map .ex
    | .Return e _ => e.bind fun e => (cE sc 40 e).map .ret
    | .If t a b _ => o3 .ite (cE sc 40 t) (f a) (f b)
    | .While t b els _ => ifo els.isEmpty (o2 .whl (cE sc 40 t) (f b))
    | .For t it b els _ => ifo els.isEmpty (cFor sc (f b) it t)
    | .Try b hs els fin _ => ifo (els.isEmpty && fin.isEmpty) ((one1 hs).bind (cTry sc (f b)))
    | .Raise e c _ => ifo c.isNone (e.bind (cRaise sc))
    | .Break _ => some .brk
    | .Continue _ => some .cont
    | .Pass _ => some .skip
    | .Assert e m _ => ifo m.isNone ((cE sc 40 e).map .assert)
    | _ => none
noncomputable def cS (sc : Scope) : Nat → List PySem.Stmt → Option CS
  | 0, _ => none
  | n + 1, l => match l with
    | [] => some .skip
    | s :: r => o2 .seq (c1 sc (cS sc n) s) (cS sc n r)
end Sp
end
section
open PySem PySem.W PySem.Calls PyProof.Rows
set_option maxRecDepth 100000
set_option linter.all false
set_option maxHeartbeats 1000000
namespace Sp
/-- the run's own objects: the stemmer, its dict, the heap at the run's start -/
structure G where
  w : World
  x : Addr
  dx : Addr
  B : Heap
noncomputable abbrev G.P (g : G) : Params := g.w.params
noncomputable def kL (P : Params) : Frag := k1 P ++ k2 P ++ k3 P
noncomputable abbrev clsA : Addr := 927
noncomputable abbrev gvA : Addr := 232
noncomputable def LR {α : Type} (R : Value → α → Prop) : List Value → List α → Prop
  | [], [] => True
  | v :: vs, a :: as => R v a ∧ LR R vs as
  | _, _ => False
noncomputable def IntR (v : Value) (i : Int) : Prop := ∃ t, v = .int i t
noncomputable def StrR (v : Value) (s : List Nat) : Prop := s.length ≤ lim ∧ ∃ t, v = .str ⟨s.toArray⟩ t
noncomputable def StrsR (h : Heap) (v : Value) (l : List (List Nat)) : Prop := ∃ a vs, v = .ref a ∧ h.IsList a vs.toArray ∧ LR StrR vs l
noncomputable def RulR (h : Heap) (v : Value) (r : Rul) : Prop :=
  ∃ a x y z o, v = .ref a ∧ h.get? a = some o ∧ o.cls = .type "tuple" ∧ (∃ n, o.data = .seq #[x, y, z] n) ∧ StrsR h x r.ends ∧ StrR y r.ins ∧ StrsR h z r.fur
noncomputable def AmgR (g : G) (h : Heap) (v : Value) (e : Ent) : Prop :=
  ∃ a d es n v1 v2 v3, v = .ref a ∧ g.B.get? a = some (instObj 220 d) ∧ g.B.get? d = some (dictOf es n) ∧ h.get? a = some (instObj 220 d) ∧ h.get? d = some (dictOf es n) ∧ getL "s" es = some (some v1) ∧ getL "substring_i" es = some (some v2) ∧ getL "result" es = some (some v3) ∧
    StrR v1 e.s ∧ IntR v2 e.sub ∧ IntR v3 e.res
noncomputable def RelV (g : G) (h : Heap) : Value → AV → Prop
  | v, .none => v = .none
  | v, .bool b => v = .bool b
  | v, .int i => IntR v i
  | v, .str s => StrR v s
  | v, .strs l => StrsR h v l
  | v, .ints l => ∃ a vs, v = .ref a ∧ h.IsList a vs.toArray ∧ LR IntR vs l ∧ l.length ≤ lim
  | v, .rule r => RulR h v r
  | v, .rules l => ∃ a vs, v = .ref a ∧ h.IsList a vs.toArray ∧ LR (RulR h) vs l
  | v, .self => v = .ref g.x
  | v, .amg e => AmgR g h v e
  | v, .tab l => ∃ a vs, v = .ref a ∧ h.IsList a vs.toArray ∧ LR (AmgR g h) vs l
  | v, .gv => v = .ref gvA
noncomputable def Solid (o : Obj) : Bool := match o.data with
  | .dict .. | .fields .. => false
  | _ => true
/-- what a step in frame L keeps, but for records -/
structure Kw (g : G) (L : Addr) (h h' : Heap) : Prop where
  low : ∀ b o, g.B.get? b = some o → h.get? b = some o → h'.get? b = some o
  solid : ∀ b o, Solid o = true → h.get? b = some o → h'.get? b = some o
  dict : ∀ b o es n, b ≠ L → b ≠ g.dx → h.get? b = some o → o.data = .dict es n → ∃ sl, h'.get? b = some { o with slots := sl }
/-- what a step in frame L keeps -/
structure Kp (g : G) (L : Addr) (h h' : Heap) : Prop extends Kw g L h h' where
  fld : ∀ b o vs, h.get? b = some o → o.data = .fields vs → h'.get? b = some o
theorem Kw.refl {g : G} {L : Addr} (h : Heap) : Kw g L h h := ⟨fun _ _ _ e => e, fun _ _ _ e => e, fun _ o _ _ _ _ e _ => ⟨o.slots, e⟩⟩
theorem Kp.refl {g : G} {L : Addr} (h : Heap) : Kp g L h h := ⟨.refl h, fun _ _ _ e _ => e⟩
theorem Kw.trans {g : G} {L : Addr} {h h' h'' : Heap} (x : Kw g L h h') (y : Kw g L h' h'') : Kw g L h h'' := by
  refine ⟨fun b o q e => y.low b o q (x.low b o q e), fun b o q e => y.solid b o q (x.solid b o q e), fun b o es n q1 q2 e d => ?_⟩
  obtain ⟨sl, e1⟩ := x.dict b o es n q1 q2 e d
  obtain ⟨sl', e2⟩ := y.dict b _ es n q1 q2 e1 d
  exact ⟨sl', e2⟩
theorem Kp.trans {g : G} {L : Addr} {h h' h'' : Heap} (x : Kp g L h h') (y : Kp g L h' h'') : Kp g L h h'' :=
  ⟨x.toKw.trans y.toKw, fun b o vs e d => y.fld b o vs (x.fld b o vs e d) d⟩
theorem Kp.ofKeeps {g : G} {L : Addr} {h h' : Heap} (k : ∀ b o, h.get? b = some o → h'.get? b = some o) : Kp g L h h' :=
  ⟨⟨fun b o _ e => k b o e, fun b o _ e => k b o e, fun b o _ _ _ _ e _ => ⟨o.slots, k b o e⟩⟩, fun b o _ e _ => k b o e⟩
theorem Kp.push {g : G} {L : Addr} (h : Heap) (o : Obj) : Kp g L h (h.push o) := .ofKeeps (fun _ _ e => Heap.get?_push_of_some _ e)
theorem ns_dictAt {h : Heap} {L : Addr} {m : Str → Option Value} (n : h.Ns L m) {o : Obj} (e : h.get? L = some o) : Solid o = false ∧ ∀ vs, o.data ≠ .fields vs := by
  obtain ⟨o', es, ep, ho, hd, _⟩ := n
  rw [ho] at e; cases e
  exact ⟨by unfold Solid; rw [hd], fun vs q => by rw [hd] at q; cases q⟩
theorem Kp.own {g : G} {L : Addr} {h h' : Heap} {m : Str → Option Value} (n : h.Ns L m) (hL : g.B.get? L = none) (hs : Heap.SameBut L h h') : Kp g L h h' := by
  refine ⟨⟨fun b o q e => (hs.2 b (by rintro rfl; rw [hL] at q; cases q)).trans e, fun b o q e => ?_, fun b o _ _ q _ e _ => ⟨o.slots, (hs.2 b q).trans e⟩⟩, fun b o vs e q => ?_⟩
  · refine (hs.2 b fun z => ?_).trans e
    subst z
    rw [(ns_dictAt n e).1] at q; cases q
  · refine (hs.2 b fun z => ?_).trans e
    subst z
    exact ((ns_dictAt n e).2 _ q).elim
theorem leA {a b : Nat} (h : a ≤ b) : a ≤ b := h
theorem ltA {a b : Nat} (h : a < b) : a < b := h
theorem neA {a b : Nat} (h : a ≠ b) : a ≠ b := h
theorem Kp.dx {g : G} {L : Addr} {h h' : Heap} {es : List DictEntry} {n : Nat} (e : h.get? g.dx = some (dictOf es n)) (hL : g.B.get? g.dx = none) (hs : Heap.SameBut g.dx h h') : Kp g L h h' := by
  refine ⟨⟨fun b o q e => (hs.2 b (by rintro rfl; rw [hL] at q; cases q)).trans e, fun b o q e' => ?_, fun b o _ _ _ q e _ => ⟨o.slots, (hs.2 b q).trans e⟩⟩, fun b o vs e' q => ?_⟩
  · refine (hs.2 b fun z => ?_).trans e'
    subst z
    rw [e] at e'; cases e'; cases q
  · refine (hs.2 b fun z => ?_).trans e'
    subst z
    rw [e] at e'; cases e'; cases q
section
variable {g : G} {L : Addr} {h h' : Heap}
theorem isList_kw {a : Addr} {its : Array Value} (x : h.IsList a its) (k : Kw g L h h') : h'.IsList a its := by
  obtain ⟨o, ho, hc, n, hd⟩ := x
  exact ⟨o, k.solid _ _ (by unfold Solid; rw [hd]) ho, hc, n, hd⟩
theorem LR.mono {α : Type} {R R' : Value → α → Prop} (i : ∀ v a, R v a → R' v a) : ∀ {vs : List Value} {as : List α}, LR R vs as → LR R' vs as
  | [], [], _ => trivial
  | v :: vs, a :: as, ⟨x, y⟩ => ⟨i v a x, LR.mono i y⟩
  | [], _ :: _, x => x.elim
  | _ :: _, [], x => x.elim
theorem LR.len {α : Type} {R : Value → α → Prop} : ∀ {vs : List Value} {as : List α}, LR R vs as → vs.length = as.length
  | [], [], _ => rfl
  | v :: vs, a :: as, ⟨_, y⟩ => by rw [List.length_cons, List.length_cons, LR.len y]
  | [], _ :: _, x => x.elim
  | _ :: _, [], x => x.elim
theorem LR.get {α : Type} {R : Value → α → Prop} : ∀ {vs : List Value} {as : List α} {i : Nat} {a : α}, LR R vs as → as[i]? = some a → ∃ v, vs[i]? = some v ∧ R v a
  | [], [], _, _, _, e => by cases e
  | v :: vs, b :: as, 0, a, ⟨x, _⟩, e => by cases e; exact ⟨v, rfl, x⟩
  | v :: vs, b :: as, i + 1, a, ⟨_, y⟩, e => LR.get (i := i) y e
  | [], _ :: _, _, _, x, _ => x.elim
  | _ :: _, [], _, _, x, _ => x.elim
theorem LR.app {α : Type} {R : Value → α → Prop} : ∀ {vs : List Value} {as : List α} {ws : List Value} {bs : List α}, LR R vs as → LR R ws bs → LR R (vs ++ ws) (as ++ bs)
  | [], [], _, _, _, y => y
  | v :: vs, a :: as, _, _, ⟨x, z⟩, y => ⟨x, LR.app z y⟩
  | [], _ :: _, _, _, x, _ => x.elim
  | _ :: _, [], _, _, x, _ => x.elim
theorem LR.drop {α : Type} {R : Value → α → Prop} : ∀ {vs : List Value} {as : List α} (n : Nat), LR R vs as → LR R (vs.drop n) (as.drop n)
  | _, _, 0, x => x
  | [], [], n + 1, _ => trivial
  | v :: vs, a :: as, n + 1, ⟨_, z⟩ => LR.drop (vs := vs) (as := as) n z
  | [], _ :: _, _ + 1, x => x.elim
  | _ :: _, [], _ + 1, x => x.elim
theorem LR.take {α : Type} {R : Value → α → Prop} : ∀ {vs : List Value} {as : List α} (n : Nat), LR R vs as → LR R (vs.take n) (as.take n)
  | _, _, 0, _ => trivial
  | [], [], n + 1, _ => trivial
  | v :: vs, a :: as, n + 1, ⟨y, z⟩ => ⟨y, LR.take (vs := vs) (as := as) n z⟩
  | [], _ :: _, _ + 1, x => x.elim
  | _ :: _, [], _ + 1, x => x.elim
theorem StrsR.kw {v : Value} {l : List (List Nat)} (x : StrsR h v l) (k : Kw g L h h') : StrsR h' v l := by
  obtain ⟨a, vs, e, i, r⟩ := x
  exact ⟨a, vs, e, isList_kw i k, r⟩
theorem RulR.kw {v : Value} {r : Rul} (x : RulR h v r) (k : Kw g L h h') : RulR h' v r := by
  obtain ⟨a, p, q, z, o, e, ho, hc, ⟨n, hd⟩, x1, x2, x3⟩ := x
  exact ⟨a, p, q, z, o, e, k.solid _ _ (by unfold Solid; rw [hd]) ho, hc, ⟨n, hd⟩, x1.kw k, x2, x3.kw k⟩
theorem AmgR.kw {v : Value} {r : Ent} (x : AmgR g h v r) (k : Kw g L h h') : AmgR g h' v r := by
  obtain ⟨a, d, es, n, v1, v2, v3, e, ha, hd, x1, x2, x3⟩ := x
  exact ⟨a, d, es, n, v1, v2, v3, e, ha, hd, k.low _ _ ha x1, k.low _ _ hd x2, x3⟩
theorem RelV.kw {v : Value} {a : AV} (x : RelV g h v a) (k : Kw g L h h') : RelV g h' v a := by
  cases a with
  | none => exact x
  | bool b => exact x
  | int i => exact x
  | str s => exact x
  | «strs» l => exact StrsR.kw x k
  | «ints» l => obtain ⟨a, vs, e, i, r⟩ := x; exact ⟨a, vs, e, isList_kw i k, r⟩
  | «rule» r => exact RulR.kw x k
  | «rules» l => obtain ⟨a, vs, e, i, r⟩ := x; exact ⟨a, vs, e, isList_kw i k, r.mono fun _ _ y => y.kw k⟩
  | self => exact x
  | amg e => exact AmgR.kw x k
  | tab l => obtain ⟨a, vs, e, i, r⟩ := x; exact ⟨a, vs, e, isList_kw i k, r.mono fun _ _ y => y.kw k⟩
  | gv => exact x
theorem isList_kp {a : Addr} {its : Array Value} (x : h.IsList a its) (k : Kp g L h h') : h'.IsList a its := isList_kw x k.toKw
theorem RelV.kp {v : Value} {a : AV} (x : RelV g h v a) (k : Kp g L h h') : RelV g h' v a := x.kw k.toKw
end
/-- the stemmer's dict -/
noncomputable def FsR (g : G) (h : Heap) : List Str → List DictEntry → List AV → Prop
  | _, [], [] => True
  | nm :: ns, e :: es, a :: fs => (∃ t, e.key = .str nm t) ∧ RelV g h e.val a ∧ FsR g h ns es fs
  | _, _, _ => False
theorem FsR.kw {g : G} {L : Addr} {h h' : Heap} (k : Kw g L h h') : ∀ {ns : List Str} {es : List DictEntry} {fs : List AV}, FsR g h ns es fs → FsR g h' ns es fs
  | _, [], [], _ => by unfold FsR; trivial
  | nm :: ns, e :: es, a :: fs, ⟨x, y, z⟩ => ⟨x, y.kw k, FsR.kw k z⟩
  | [], _ :: _, _, x => by simp [FsR] at x
  | _ :: _, [], _ :: _, x => by simp [FsR] at x
  | [], [], _ :: _, x => by simp [FsR] at x
  | _ :: _, _ :: _, [], x => by simp [FsR] at x
theorem FsR.kp {g : G} {L : Addr} {h h' : Heap} (k : Kp g L h h') {ns : List Str} {es : List DictEntry} {fs : List AV} (x : FsR g h ns es fs) : FsR g h' ns es fs := x.kw k.toKw
noncomputable def kC (w : World) : Frag := kL w.params ++ ((gvA, o_232 w) :: amF w.params)
/-- what the run found -/
structure Bok (g : G) : Prop where
  ks : ∀ p ∈ kL g.P, g.B.get? p.1 = some p.2
  gv : g.B.get? gvA = some (o_232 g.w)
  am : ∀ p ∈ amF g.P, g.B.get? p.1 = some p.2
structure Inv (g : G) (fs : List AV) (h : Heap) : Prop where
  bok : Bok g
  stay : ∀ b o, g.B.get? b = some o → h.get? b = some o
  nx : g.B.get? g.x = none
  nd : g.B.get? g.dx = none
  xd : g.x ≠ g.dx
  inst : h.get? g.x = some (instObj clsA g.dx)
  dict : ∃ es n, h.get? g.dx = some (dictOf es n) ∧ FsR g h fldNames es fs
theorem Inv.K {g : G} {fs : List AV} {h : Heap} (I : Inv g fs h) : (kL g.P).In h := fun a o e => I.stay _ _ (I.bok.ks _ (mem_of_lookup e))
theorem Inv.KC {g : G} {fs : List AV} {h : Heap} (I : Inv g fs h) : (kC g.w).In h := fun a o e => I.stay _ _ <| by
  have := mem_of_lookup e
  rcases List.mem_append.mp this with q | q
  · exact I.bok.ks _ q
  · rcases List.mem_cons.mp q with q | q
    · cases q; exact I.bok.gv
    · exact I.bok.am _ q
theorem Inv.kw {g : G} {L : Addr} {fs : List AV} {h h' : Heap} (I : Inv g fs h) (k : Kw g L h h') (hd : h'.get? g.dx = h.get? g.dx) : Inv g fs h' := by
  obtain ⟨es, n, a, b⟩ := I.dict
  exact ⟨I.bok, fun b o e => k.low b o e (I.stay b o e), I.nx, I.nd, I.xd, k.solid _ _ rfl I.inst, ⟨es, n, hd.trans a, b.kw k⟩⟩
theorem Inv.kp {g : G} {L : Addr} {fs : List AV} {h h' : Heap} (I : Inv g fs h) (k : Kp g L h h') (hd : h'.get? g.dx = h.get? g.dx) : Inv g fs h' := I.kw k.toKw hd
structure Rep (g : G) (L : Addr) (V : List Str) (σ : S) (h : Heap) : Prop where
  ns : ∃ m, h.Ns L m ∧ ∀ i x av, V[i]? = some x → σ.get i = some av → ∃ v, m x = some v ∧ RelV g h v av
  len : σ.loc.length = V.length
  inv : Inv g σ.fs h
  nL : g.B.get? L = none
  Ld : L ≠ g.dx
/-- the frames beneath -/
noncomputable def Frs (g : G) (h : Heap) (N : Addr) (outer : List Env) : Prop :=
  ∀ env ∈ outer, env.scope.kind ≠ .module ∧ ∃ L o es n, env.frame = some L ∧ g.B.get? L = none ∧ L < N ∧ L ≠ g.dx ∧ h.get? L = some o ∧ o.data = .dict es n
theorem Frs.kw {g : G} {L N : Addr} {h h' : Heap} {outer : List Env} (x : Frs g h N outer) (hN : N ≤ L) (k : Kw g L h h') : Frs g h' N outer := fun env he => by
  obtain ⟨a, L', o, es, n, b, c, d, e, f, i⟩ := x env he
  obtain ⟨sl, q⟩ := k.dict L' o es n (Nat.ne_of_lt (Nat.lt_of_lt_of_le d hN)) e f i
  exact ⟨a, L', _, es, n, b, c, d, e, q, i⟩
theorem Frs.kp {g : G} {L N : Addr} {h h' : Heap} {outer : List Env} (x : Frs g h N outer) (hN : N ≤ L) (k : Kp g L h h') : Frs g h' N outer := x.kw hN k.toKw
theorem Frs.mono {g : G} {N N' : Addr} {h : Heap} {outer : List Env} (x : Frs g h N outer) (hN : N ≤ N') : Frs g h N' outer := fun env he => by
  obtain ⟨a, L', o, es, n, b, c, d, e, f, i⟩ := x env he
  exact ⟨a, L', o, es, n, b, c, Nat.lt_of_lt_of_le d hN, e, f, i⟩
noncomputable def Sm (s s' : Shared) : Prop := s'.gens = s.gens ∧ s'.drawn = s.drawn ∧ s'.os = s.os
theorem Sm.refl (s : Shared) : Sm s s := ⟨rfl, rfl, rfl⟩
theorem Sm.trans {s s' s'' : Shared} (x : Sm s s') (y : Sm s' s'') : Sm s s'' := ⟨y.1.trans x.1, y.2.1.trans x.2.1, y.2.2.trans x.2.2⟩
theorem Sm.of (s : Shared) (h : Heap) (k : Nat) : Sm s { s with heap := h, toks := k } := ⟨rfl, rfl, rfl⟩
end Sp
end
section
open PySem PySem.W PySem.Calls PyProof.Rows
set_option maxRecDepth 100000
set_option maxHeartbeats 2000000
set_option linter.all false
namespace Sp
noncomputable abbrev theLaw : OpenLaw := PySem.Challenge.rw_is0018_01
/-- what the call has to show -/
noncomputable def LawOK (w : World) : Prop := ∀ (s : Shared) (a : Addr) (vs : List Value) (l : List Int), Stands s.heap (finL w) → s.gens = #[] → l.length ≤ 63 → s.heap.IsList a vs.toArray → LR IntR vs l →
  wpAny (model pw w) callerA (call (.ref 1076) [.ref a]) (fun u s' => u = .bool true ∧ (∀ b o, s.heap.get? b = some o → s'.heap.get? b = some o) ∧ s'.os = s.os ∧ s'.gens = #[]) (fun _ _ => False) s
theorem law_said : theLaw.wellSaid = true := by rw [PySem.W.Fast.te9446332074065402090]; kernel_rfl
theorem law_promised : theLaw.row.toRowW.promised := RowW.promised_of_found (by kernel_rfl)
theorem law_bare : theLaw.row.prog.bare := ⟨by kernel_rfl, by kernel_rfl, by kernel_rfl, by kernel_rfl, by kernel_rfl, by kernel_rfl⟩
theorem law_opens : opensWell theLaw.row.prog = true := by kernel_rfl
end Sp
end
section
open PySem PySem.W PySem.Calls PyProof.Rows
set_option maxRecDepth 100000
set_option maxHeartbeats 2000000
set_option linter.all false
namespace Sp
theorem law_plain : opening pw = plainProg pw.main.scope.names := by kernel_rfl
theorem law_fence : ∀ s, fenceModules? pw s = some s := fun s => by kernel_rfl
theorem behind (w : World) : (∃ s, AfterRun (opening pw) w s) ∧ ∀ s, AfterRun (opening pw) w s → ∃ s₀, fenceModules? pw s = some s₀ ∧ s₀.gens = #[] ∧ s₀.heap = boot_heap w.params ∧ s₀.toks = boot_toks ∧ s₀.asleep := by
  have h := boot_open (p := pw) (N := 600) law_plain rfl law_fence w
  rw [← table_eq_tree] at h
  obtain ⟨s₀, h2, e⟩ := Option.map_eq_some_iff.mp h
  obtain ⟨s, h4, h5⟩ := Option.bind_eq_some_iff.mp h2
  have A := AfterImport.of_importEnds h4
  refine ⟨⟨s, A⟩, fun s' hs' => ?_⟩
  obtain rfl : s' = s := AfterImport.unique hs' A
  obtain ⟨e1, e2⟩ := Prod.mk.inj e
  obtain ⟨e2, e3⟩ := Prod.mk.inj e2
  obtain ⟨_, e4⟩ := Prod.mk.inj e3
  exact ⟨s₀, h5, e2, e1, e4, Shared.asleep_of_life (fence_lifeW h5) A.life⟩
theorem law_global (P : Params) : (hK P).nsMap mainGlobals "law" = some (.ref 1076) := by kernel_rfl
theorem law_def : pw.theDef "law" = some (fArgs (fst 28), fBody (fst 28), fScope (fst 28)) := by kernel_rfl
theorem law_args : (fArgs (fst 28)).defaults = [] ∧ kwWritten? (fArgs (fst 28)).kwonlyargs (fArgs (fst 28)).kw_defaults = some [] := ⟨by kernel_rfl, by kernel_rfl⟩
theorem law_isdef {w : World} {s₀ s₁ : Shared} (D : Hd s₀ s₁ (finL w) 1077 3835) (L : Like w.params s₁.heap) : isTheDefsW pw s₁.heap "law" := by
  refine ⟨1076, o_1076 w.params, _, _, _, _, ?_, ?_, rfl, law_def, rfl, rfl, rfl, rfl, rfl, rfl, rfl, rfl, .inl ⟨law_args.1, rfl⟩, [], law_args.2, .inl ⟨rfl, rfl⟩⟩
  · rw [L.global, Pin.globalOf_eq (hK_ns _).1]; exact law_global _
  · refine D.st.left (1076, _) ?_
    exact mem_of_lookup (by kernel_rfl)
theorem items_int : ∀ {xs : List WData}, WShape.hasItems [] xs .int = true → ∃ ds : List Int, xs = ds.map .int
  | [], _ => ⟨[], rfl⟩
  | x :: xs, h => by
    obtain ⟨h1, h2⟩ := Bool.and_eq_true_iff.mp (show (WShape.has [] x .int && WShape.hasItems [] xs .int) = true from h)
    obtain ⟨ds, rfl⟩ := items_int h2
    cases x with
    | int i => exact ⟨i :: ds, rfl⟩
    | _ => exact no_ft h1
theorem pre_parts {args : List WData} (h : theLaw.row.toRowW.claim.pre args = true) : ∃ ds : List Int, args = [.list (ds.map .int)] ∧ ds.length ≤ 63 := by
  obtain ⟨h1, h2⟩ := pre_splitW (r := theLaw.row.toRowW) h
  obtain ⟨d, r, rfl, hd, hr⟩ := hasAllW_cons (e := .list .int) (es := []) h1
  have hr := hasAllW_nil hr
  subst hr
  cases d with
  | list xs =>
    have hd : WShape.hasItems theLaw.row.records xs .int = true := by
      have hd : (WShape.hasItems theLaw.row.records xs .int || false) = true := hd
      rwa [Bool.or_false] at hd
    obtain ⟨ds, rfl⟩ := items_int hd
    refine ⟨ds, rfl, ?_⟩
    have h2 : (WTm.and (.not (.lt (.lit (.int 63)) (.len (.arg 0)))) (.lit (.bool true))).holds [] { args := [.list (ds.map .int)] } = true := h2
    rcases Nat.lt_or_ge 63 ds.length with q | q
    · exfalso
      have e := w_and (R := []) (e := { args := [.list (ds.map .int)] }) (w_not (w_lt (w_lit (d := .int 63)) (w_len_list (w_arg (i := 0) rfl)))) (w_lit (d := .bool true))
      unfold WTm.holds at h2
      rw [e, List.length_map, decide_eq_true (by omega)] at h2
      exact no_ft h2
    · exact q
  | _ => exact no_ft hd
theorem reads_ints {R : WRecords} {cl : Str → Option Addr} {h : Heap} : ∀ {vs : List Value} {ds : List Int} {as : List Addr}, ReadsAllW R cl h vs (ds.map .int) as → LR IntR vs ds
  | [], [], _, _ => trivial
  | [], _ :: _, _, x => by cases x
  | _ :: _, [], _, x => by cases x
  | v :: vs, d :: ds, _, x => by
    cases x with
    | cons a b =>
      refine ⟨?_, reads_ints b⟩
      cases a with
      | int i t => exact ⟨t, rfl⟩
theorem law_post (args : List WData) : theLaw.row.toRowW.claim.post args (.bool true) args = true := by
  have e := w_eq (R := []) (e := { args := args, res := some (.bool true), after := args }) (show WTm.res.value [] { args := args, res := some (.bool true), after := args } = some (.bool true) from rfl) (w_lit (d := .bool true))
  have h : (WTm.eq .res (.lit (.bool true))).holds [] { args := args, res := some (.bool true), after := args } = true := by
    unfold WTm.holds
    rw [e, show same (.bool true) (.bool true) = true by first | rfl | decide +kernel]
  exact Bool.and_eq_true_iff.mpr ⟨rfl, h⟩
theorem left_of {a b : Bool} (h : (a && b) = true) : a = true := (Bool.and_eq_true_iff.mp h).1
theorem row_said : theLaw.row.wellSaid = true := by
  have this := law_said
  unfold OpenLaw.wellSaid at this
  repeat (first | with_reducible exact this | replace this := left_of this)
theorem law_holds (H : ∀ w, LawOK w) : theLaw.Holds := by
  refine ⟨law_said, row_said, law_promised, ⟨law_bare, law_opens, rfl⟩, law_promised.witness, fun w => ⟨(behind w).1, fun s' hs' => ?_⟩⟩
  obtain ⟨s₀, hf, hg, h0, ht, hz⟩ := (behind w).2 s' hs'
  obtain ⟨s, hT, D, hz1, hg1, L⟩ := top_ran h0 ht hg hz
  refine ⟨s₀, hf, hg, s, hT, fun n hn => ?_, fun x hx => (by cases hx), fun x hx => (by cases hx), ?_⟩
  · have hn := List.mem_singleton.mp hn
    subst hn
    exact law_isdef D L
  refine ClaimW.callFrom_of_specN (c := theLaw.row.toRowW.claim) (tree := fun vs => do match ← nsGet mainNs theLaw.row.name with
      | some f => do ret (← PySem.call f vs)
      | none => unsupported "claim.caller:no-such-global") hz1 (by rw [hg1]; simp [leftWithCleanup]) fun args hpre hlay ord hord => ?_
  obtain ⟨⟨vs, s₁⟩, hlaid⟩ := Option.isSome_iff_exists.mp (layAllW_isSome (P := w.params) (ord := ord) (R := []) (cl := classAt s.heap) (fun c hc => by cases hc) args theLaw.row.args s (pre_splitW (r := theLaw.row.toRowW) hpre).1)
  have keeps := layAllW_keeps _ _ _ hlaid
  have hal := layAllW_rest _ _ _ hlaid
  obtain ⟨as, hrd, hin, hold⟩ := reads_layAllW hord _ _ _ hlaid hlay s₁.heap (fun _ _ e => e)
  obtain ⟨ds, rfl, hlen⟩ := pre_parts hpre
  have st1 : Stands s₁.heap (finL w) := fun p hp => keeps _ _ (D.st p hp)
  obtain ⟨a, ws, hv, hl, hr⟩ : ∃ a ws, vs = [.ref a] ∧ s₁.heap.IsList a ws.toArray ∧ LR IntR ws ds := by
    cases hrd with
    | cons x y =>
      cases y with
      | nil =>
        cases x with
        | list h1 h2 h3 h4 =>
          exact ⟨_, _, rfl, ⟨_, h1, h2, _, by simpa using h3⟩, reads_ints h4⟩
  subst hv
  have G : s₁.heap.Ns mainGlobals (s₁.heap.nsMap mainGlobals) := by
    refine .of_isNs ?_
    have e : s₁.heap.get? mainGlobals = some (o_3 w.params) := keeps _ _ L.a3
    have e' := (hK_ns w.params).1
    unfold Heap.isNs at e' ⊢
    have e2 : (hK w.params).get? mainGlobals = some (o_3 w.params) := (like_hK _).a3
    rw [e2] at e'
    rw [e]
    exact e'
  have gl : s₁.heap.nsMap mainGlobals theLaw.row.name = some (.ref 1076) := by
    have e : s₁.heap.get? mainGlobals = some (o_3 w.params) := keeps _ _ L.a3
    have e' := law_global w.params
    have e2 : (hK w.params).get? mainGlobals = some (o_3 w.params) := (like_hK _).a3
    unfold Heap.nsMap at e' ⊢
    rw [e2] at e'
    rw [e]
    exact e'
  refine ⟨[.ref a], s₁, hlaid, wpAny_bind (wpAny_nsGet G ?_)⟩
  rw [gl]
  have hs1 : s₁.gens = #[] := hal.1.trans hg1
  refine wpAny_bind (wpAny_mono (H w { s₁ with gens := #[] } a ws ds st1 rfl hlen hl hr) (fun u s' q => ?_) (fun _ _ x => x.elim))
  obtain ⟨rfl, hkeep, hos, hgens⟩ := q
  refine wpAny_pure ⟨_, rfl, ?_⟩
  have good : GoodW theLaw.row.toRowW.claim (classAt s.heap) (ExcName.means s.heap) [.list (ds.map .int)] { s₁ with gens := #[] } (.ok (.ret (.bool true))) s' :=
    ⟨.inl ⟨.bool true, .bool true, [], rfl, fun _ => rfl, .bool true, law_post _, fun _ => ⟨List.nodup_nil, fun a ha => by cases ha⟩⟩, hkeep, hos, hgens⟩
  obtain ⟨z1, z2, z3⟩ := good.endsN (c := theLaw.row.toRowW.claim) rfl rfl (ident_freeW (r := theLaw.row.toRowW) rfl rfl rfl) hrd hold hal.2.2.1
  exact ⟨z1, z2, z3, fun q => by cases q⟩
end Sp
end
section
open PySem PySem.W PySem.Calls PyProof.Rows
set_option maxRecDepth 100000
set_option maxHeartbeats 1000000
set_option linter.all false
namespace Sp
noncomputable def methAddr : List Nat := [42, 49, 63, 70, 91, 98, 126, 133, 140, 147, 154, 161, 189, 239, 246, 253, 260, 267, 274, 281, 288, 295, 302]
noncomputable def funAddr : List Nat := [975, 1022, 1029, 1036, 1043, 1050, 1055, 1062, 1069]
noncomputable def fnAddr (f : Nat) : Nat := if f < 100 then methAddr.getD f 0 else funAddr.getD (f - 100) 0
noncomputable def okMeth (P : Params) (nm : Str) (a : Nat) : Bool :=
  (match findIn (kL P) (.ref clsA) nm with | some (some (.ref b)) => Nat.beq a b | _ => false) &&
  (match typeIn (kL P) (.ref a) with | some (.type t) => t == "function" | _ => false) && fnIn (kL P) a &&
  (match keepIn (kL P) (.ref a) with | true => true | false => false)
noncomputable def okMeths (P : Params) : List Str → List Nat → Bool
  | [], [] => true
  | x :: xs, a :: as => okMeth P x a && okMeths P xs as
  | _, _ => false
theorem meths_ok (P : Params) : okMeths P methNames methAddr = true := by kernel_rfl
noncomputable def okFun (P : Params) (nm : Str) (a : Nat) : Bool :=
  (match nsIn (kL P) mainGlobals nm with | some (some (.ref b)) => Nat.beq a b | _ => false) && (match keepIn (kL P) (.ref a) with | true => true | false => false)
noncomputable def okFuns (P : Params) : List Str → List Nat → Bool
  | [], [] => true
  | x :: xs, a :: as => okFun P x a && okFuns P xs as
  | _, _ => false
theorem funs_ok (P : Params) : okFuns P funNames funAddr = true := by kernel_rfl
noncomputable def okFld (P : Params) (nm : Str) : Bool :=
  (match findIn (kL P) (.ref clsA) nm with | some attr => noGet (kL P) attr | none => false) && (match takerIn (kL P) clsA nm with | some none => true | _ => false)
theorem flds_ok (P : Params) : fldNames.all (okFld P) = true := by kernel_rfl
theorem cls_facts (P : Params) : (match findIn (kL P) (.ref clsA) "__getattribute__" with | some (some (.builtin s)) => s == "object.__getattribute__" | _ => false) = true ∧
    (match findIn (kL P) (.ref clsA) "__getattr__" with | some none => true | _ => false) = true ∧ hasDictIn (kL P) clsA = true ∧ plainOver (kL P) clsA = true ∧
    (match findIn (kL P) (.ref clsA) "__setattr__" with | some (some (.builtin s)) => s == "object.__setattr__" | _ => false) = true :=
  ⟨by kernel_rfl, by kernel_rfl, by kernel_rfl, by kernel_rfl, by kernel_rfl⟩
theorem am_facts (P : Params) : (match findIn (kL P) (.ref 220) "__getattribute__" with | some (some (.builtin s)) => s == "object.__getattribute__" | _ => false) = true ∧
    hasDictIn (kL P) 220 = true ∧ (amNames.all fun nm => match findIn (kL P) (.ref 220) nm with | some attr => noGet (kL P) attr | none => false) = true :=
  ⟨by kernel_rfl, by kernel_rfl, by kernel_rfl⟩
theorem main_ns (P : Params) : nsOkIn (kL P) mainGlobals = true := by kernel_rfl
theorem bi_ns (P : Params) : nsOkIn (kL P) builtinsNs = true := by kernel_rfl
section
variable {M : Model} {A : Around} {E : Value → Shared → Prop} {s : Shared} {P : Params} {nm : Str} {sc : Scope} {L fa : Addr} {cd : Value} {x : Str} {pos : Pos} {v : Value} {Q : Value → Shared → Prop}
theorem gname (X : (kL P).In s.heap) (e : nsIn (kL P) mainGlobals x = some (some v)) (h : Q v s) (hk : sc.kind = .function)
    (hx : sc.names.lookup x = some .globalImplicit) (hd : (x == ("__debug__" : Str)) = false) : wpAny M A (eval (.Name x pos) (envOf nm sc L fa cd)) Q E s :=
  have G : s.heap.Ns mainGlobals (s.heap.nsMap mainGlobals) := .of_isNs (isNs_of_in X (main_ns P))
  Calls.Name_function_global hk hx (Calls.loadGlobal_global (env := envOf nm sc L fa cd) G (mg_of X G e) h) hd
theorem bname (X : (kL P).In s.heap) (e : nsIn (kL P) mainGlobals x = some none) (e2 : nsIn (kL P) builtinsNs x = some (some v)) (h : Q v s) (hk : sc.kind = .function)
    (hx : sc.names.lookup x = some .globalImplicit) (hd : (x == ("__debug__" : Str)) = false) : wpAny M A (eval (.Name x pos) (envOf nm sc L fa cd)) Q E s :=
  have G : s.heap.Ns mainGlobals (s.heap.nsMap mainGlobals) := .of_isNs (isNs_of_in X (main_ns P))
  have B : s.heap.Ns builtinsNs (s.heap.nsMap builtinsNs) := .of_isNs (isNs_of_in X (bi_ns P))
  have b2 : s.heap.nsMap builtinsNs x = some v := by
    obtain ⟨o, es, ep, ho, hd, _, hf⟩ := B
    unfold nsIn at e2
    split at e2
    · rename_i c d es' n' sl q
      have := X _ _ q
      rw [ho] at this; cases this; cases hd
      rw [← hf]
      unfold nsFind findBy
      rw [← Array.find?_toList]
      split at e2
      · rename_i he; cases e2; rw [he]; rfl
      · split at e2 <;> cases e2
    · cases e2
  Calls.Name_function_global hk hx (Calls.loadGlobal_builtin (env := envOf nm sc L fa cd) G (mg_none_of X G e) B b2 h) hd
end
end Sp
end
section
open PySem PySem.W PySem.Calls PyProof.Rows
set_option maxRecDepth 100000
set_option maxHeartbeats 1000000
set_option linter.all false
namespace Sp
theorem isStr_str {x y : Str} {t : Tok} : (Value.str x t).isStr y = decide (x = y) := by
  show (x == y) = _
  rw [Bool.eq_iff_iff, beq_iff_eq, decide_eq_true_eq]
theorem getL_cons {nm : Str} {e : DictEntry} {es : List DictEntry} {x : Str} {t : Tok} (h : e.key = .str x t) : getL nm (e :: es) = if x = nm then some (some e.val) else getL nm es := by
  have hr : e.refKey = false := by unfold DictEntry.refKey; rw [h]
  unfold getL
  rw [List.find?_cons, h, isStr_str]
  by_cases q : x = nm
  · simp [q]
  · simp only [q, decide_false, List.any_cons, hr, Bool.false_or, if_false]
theorem fsR_get {g : G} {h : Heap} : ∀ {ns : List Str} {es : List DictEntry} {fs : List AV} {f : Nat} {nm : Str} {av : AV}, FsR g h ns es fs → ns.Nodup → ns[f]? = some nm → fs[f]? = some av → ∃ v, getL nm es = some (some v) ∧ RelV g h v av
  | n :: ns, e :: es, a :: fs, 0, nm, av, ⟨⟨t, x⟩, y, z⟩, hd, h1, h2 => by
    cases h1; cases h2
    exact ⟨_, by rw [getL_cons x, if_pos rfl], y⟩
  | n :: ns, e :: es, a :: fs, f + 1, nm, av, ⟨⟨t, x⟩, y, z⟩, hd, h1, h2 => by
    rw [List.nodup_cons] at hd
    obtain ⟨v, q1, q2⟩ := fsR_get (f := f) z hd.2 h1 h2
    refine ⟨v, ?_, q2⟩
    rw [getL_cons x, if_neg]; exact q1
    rintro rfl
    exact hd.1 (List.mem_of_getElem? h1)
  | _, [], [], f, _, _, _, _, _, h2 => by cases h2
  | [], _ :: _, _, _, _, _, x, _, _, _ => by simp [FsR] at x
  | _ :: _, [], _ :: _, _, _, _, x, _, _, _ => by simp [FsR] at x
  | [], [], _ :: _, _, _, _, x, _, _, _ => by simp [FsR] at x
  | _ :: _, _ :: _, [], _, _, _, x, _, _, _ => by simp [FsR] at x
theorem fsR_none {g : G} {h : Heap} : ∀ {ns : List Str} {es : List DictEntry} {fs : List AV} {nm : Str}, FsR g h ns es fs → nm ∉ ns → getL nm es = some none
  | n :: ns, e :: es, a :: fs, nm, ⟨⟨t, x⟩, y, z⟩, hn => by
    rw [List.mem_cons, not_or] at hn
    rw [getL_cons x, if_neg (Ne.symm hn.1)]
    exact fsR_none z hn.2
  | _, [], [], _, _, _ => rfl
  | [], _ :: _, _, _, x, _ => by simp [FsR] at x
  | _ :: _, [], _ :: _, _, x, _ => by simp [FsR] at x
  | [], [], _ :: _, _, x, _ => by simp [FsR] at x
  | _ :: _, _ :: _, [], _, x, _ => by simp [FsR] at x
theorem fsR_put {g : G} {h : Heap} {hsh : Int} {tk : Tok} {v : Value} {av : AV} (rv : RelV g h v av) : ∀ {ns : List Str} {es : List DictEntry} {fs : List AV} {f : Nat} {nm : Str}, FsR g h ns es fs → ns.Nodup → ns[f]? = some nm → f ≤ fs.length →
    FsR g h ns (putL nm hsh (.str nm tk) v es) (if f < fs.length then fs.set f av else fs ++ [av])
  | n :: ns, e :: es, a :: fs, 0, nm, ⟨⟨t, x⟩, y, z⟩, hd, h1, h2 => by
    cases h1
    rw [if_pos (by simp)]
    unfold putL
    rw [x, isStr_str, if_pos (by simp)]
    exact ⟨⟨t, rfl⟩, rv, z⟩
  | n :: ns, e :: es, a :: fs, f + 1, nm, ⟨⟨t, x⟩, y, z⟩, hd, h1, h2 => by
    rw [List.nodup_cons] at hd
    have := fsR_put rv (hsh := hsh) (tk := tk) (f := f) z hd.2 h1 (by simpa using h2)
    have hne : n ≠ nm := by rintro rfl; exact hd.1 (List.mem_of_getElem? h1)
    unfold putL
    rw [x, isStr_str, decide_eq_false hne]
    simp only [List.length_cons, Nat.add_lt_add_iff_right]
    by_cases q : f < fs.length
    · rw [if_pos q] at this ⊢
      exact ⟨⟨t, x⟩, y, this⟩
    · rw [if_neg q] at this ⊢
      exact ⟨⟨t, x⟩, y, this⟩
  | n :: ns, [], [], 0, nm, _, _, h1, _ => by
    cases h1
    exact ⟨⟨tk, rfl⟩, rv, by unfold FsR; trivial⟩
  | _, [], [], f + 1, _, _, _, _, h2 => by simp at h2
  | [], [], [], 0, _, _, _, h1, _ => by cases h1
  | [], _ :: _, _, _, _, x, _, _, _ => by simp [FsR] at x
  | _ :: _, [], _ :: _, _, _, x, _, _, _ => by simp [FsR] at x
  | [], [], _ :: _, _, _, x, _, _, _ => by simp [FsR] at x
  | _ :: _, _ :: _, [], _, _, x, _, _, _ => by simp [FsR] at x
theorem fsR_len {g : G} {h : Heap} : ∀ {ns : List Str} {es : List DictEntry} {fs : List AV}, FsR g h ns es fs → es.length ≤ ns.length ∧ es.length = fs.length
  | n :: ns, e :: es, a :: fs, ⟨⟨t, x⟩, y, z⟩ => by
    obtain ⟨p, q⟩ := fsR_len z
    simp only [List.length_cons]; omega
  | _, [], [], _ => ⟨Nat.zero_le _, rfl⟩
  | [], _ :: _, _, x => by simp [FsR] at x
  | _ :: _, [], _ :: _, x => by simp [FsR] at x
  | [], [], _ :: _, x => by simp [FsR] at x
  | _ :: _, _ :: _, [], x => by simp [FsR] at x
theorem fsR_some {g : G} {h : Heap} {nm : Str} : ∀ {ns : List Str} {es : List DictEntry} {fs : List AV}, FsR g h ns es fs → (getL nm es).isSome = true
  | n :: ns, e :: es, a :: fs, ⟨⟨t, x⟩, y, z⟩ => by
    rw [getL_cons x]
    split
    · rfl
    · exact fsR_some z
  | _, [], [], _ => rfl
  | [], _ :: _, _, x => by simp [FsR] at x
  | _ :: _, [], _ :: _, x => by simp [FsR] at x
  | [], [], _ :: _, x => by simp [FsR] at x
  | _ :: _, _ :: _, [], x => by simp [FsR] at x
theorem fsR_nth {g : G} {h : Heap} : ∀ {ns : List Str} {es : List DictEntry} {fs : List AV} {f : Nat} , FsR g h ns es fs → f < fs.length → ∃ nm, ns[f]? = some nm
  | n :: ns, e :: es, a :: fs, 0, _, _ => ⟨n, rfl⟩
  | n :: ns, e :: es, a :: fs, f + 1, ⟨⟨t, x⟩, y, z⟩, hl => fsR_nth (f := f) z (by simpa using hl)
  | _, [], [], _, _, hl => by simp at hl
  | [], _ :: _, _, _, x, _ => by simp [FsR] at x
  | _ :: _, [], _ :: _, _, x, _ => by simp [FsR] at x
  | [], [], _ :: _, _, x, _ => by simp [FsR] at x
  | _ :: _, _ :: _, [], _, x, _ => by simp [FsR] at x
theorem fld_nodup : fldNames.Nodup := by decide +kernel
theorem relV_handed {g : G} {h : Heap} {v : Value} {a : AV} (x : RelV g h v a) : handedIn v = true := by
  cases a with
  | none => have x : v = .none := x; subst x; rfl
  | bool b => have x : v = .bool b := x; subst x; rfl
  | int i => obtain ⟨t, rfl⟩ := x; rfl
  | str s => obtain ⟨_, t, rfl⟩ := x; rfl
  | «strs» l => obtain ⟨a, vs, rfl, _⟩ := x; rfl
  | «ints» l => obtain ⟨a, vs, rfl, _⟩ := x; rfl
  | «rule» r => obtain ⟨a, p, q, z, o, rfl, _⟩ := x; rfl
  | «rules» l => obtain ⟨a, vs, rfl, _⟩ := x; rfl
  | self => have x : v = .ref g.x := x; subst x; rfl
  | amg e => obtain ⟨a, d, es, n, v1, v2, v3, rfl, _⟩ := x; rfl
  | tab l => obtain ⟨a, vs, rfl, _⟩ := x; rfl
  | gv => have x : v = .ref gvA := x; subst x; rfl
theorem ga_of {K : Frag} {t : Value} {n : Str} {s : String} (h : (match findIn K t n with | some (some (.builtin x)) => x == s | _ => false) = true) : findIn K t n = some (some (.builtin s)) := by
  split at h
  · rename_i x e; rw [e, beq_iff_eq.mp h]
  · cases h
theorem none_of {K : Frag} {t : Value} {n : Str} (h : (match findIn K t n with | some none => true | _ => false) = true) : findIn K t n = some none := by
  split at h
  · rename_i e; exact e
  · cases h
theorem meth_at {P : Params} : ∀ {xs : List Str} {as : List Nat} {k : Nat} {nm : Str}, okMeths P xs as = true → xs[k]? = some nm → ∃ a, as[k]? = some a ∧ okMeth P nm a = true
  | [], [], _, _, _, e => by cases e
  | x :: xs, a :: as, 0, nm, h, e => by cases e; exact ⟨a, rfl, (Bool.and_eq_true_iff.mp h).1⟩
  | x :: xs, a :: as, k + 1, nm, h, e => meth_at (k := k) (Bool.and_eq_true_iff.mp h).2 e
  | [], _ :: _, _, _, h, _ => by cases h
  | _ :: _, [], _, _, h, _ => by cases h
theorem fun_at {P : Params} : ∀ {xs : List Str} {as : List Nat} {k : Nat} {nm : Str}, okFuns P xs as = true → xs[k]? = some nm → ∃ a, as[k]? = some a ∧ okFun P nm a = true
  | [], [], _, _, _, e => by cases e
  | x :: xs, a :: as, 0, nm, h, e => by cases e; exact ⟨a, rfl, (Bool.and_eq_true_iff.mp h).1⟩
  | x :: xs, a :: as, k + 1, nm, h, e => fun_at (k := k) (Bool.and_eq_true_iff.mp h).2 e
  | [], _ :: _, _, _, h, _ => by cases h
  | _ :: _, [], _, _, h, _ => by cases h
theorem okMeth_of {P : Params} {nm : Str} {a : Nat} (h : okMeth P nm a = true) : findIn (kL P) (.ref clsA) nm = some (some (.ref a)) ∧ typeIn (kL P) (.ref a) = some (.type "function") ∧ fnIn (kL P) a = true ∧ keepIn (kL P) (.ref a) = true := by
  unfold okMeth at h
  simp only [Bool.and_eq_true] at h
  obtain ⟨⟨⟨h1, h2⟩, h3⟩, h4⟩ := h
  refine ⟨?_, ?_, h3, ?_⟩
  · split at h1
    · rename_i b e; rw [e, Nat.eq_of_beq_eq_true h1]
    · cases h1
  · split at h2
    · rename_i t e; rw [e, beq_iff_eq.mp h2]
    · cases h2
  · split at h4
    · assumption
    · cases h4
theorem okFun_of {P : Params} {nm : Str} {a : Nat} (h : okFun P nm a = true) : nsIn (kL P) mainGlobals nm = some (some (.ref a)) ∧ keepIn (kL P) (.ref a) = true := by
  unfold okFun at h
  simp only [Bool.and_eq_true] at h
  obtain ⟨h1, h4⟩ := h
  refine ⟨?_, ?_⟩
  · split at h1
    · rename_i b e; rw [e, Nat.eq_of_beq_eq_true h1]
    · cases h1
  · split at h4
    · assumption
    · cases h4
theorem okFld_of {P : Params} {nm : Str} (h : nm ∈ fldNames) : ∃ attr, findIn (kL P) (.ref clsA) nm = some attr ∧ noGet (kL P) attr = true ∧ takerIn (kL P) clsA nm = some none := by
  have h := List.all_eq_true.mp (flds_ok P) nm h
  unfold okFld at h
  obtain ⟨h1, h2⟩ := Bool.and_eq_true_iff.mp h
  split at h1
  · rename_i attr e
    refine ⟨attr, e, h1, ?_⟩
    split at h2
    · rename_i e; exact e
    · cases h2
  · cases h1
section
variable {g : G} {A : Around} {E : Value → Shared → Prop} {s : Shared} {fs : List AV}
theorem inst_at {h : Heap} (I : Inv g fs h) : ∃ es n, InstAt h g.x (instObj clsA g.dx) clsA (some (dictOf es n)) ∧ FsR g h fldNames es fs := by
  obtain ⟨es, n, a, b⟩ := I.dict
  exact ⟨es, n, ⟨I.inst, rfl, rfl, a⟩, b⟩
/-- a field of the stemmer -/
theorem fld_read {Q : Value → Shared → Prop} {nm : Str} {f : Nat} {av : AV} {expr : Bool} (I : Inv g fs s.heap) (hf : fldNames[f]? = some nm) (ha : fs[f]? = some av) (h : ∀ v, RelV g s.heap v av → Q v { s with toks := s.toks + 1 }) :
    wpAny (model pw g.w) A (getAttr (.ref g.x) nm expr) Q E s := by
  obtain ⟨es, n, J, F⟩ := inst_at I
  obtain ⟨v, hv, rv⟩ := fsR_get F fld_nodup hf ha
  obtain ⟨attr, e1, e2, _⟩ := okFld_of (P := g.P) (List.mem_of_getElem? hf)
  exact get_value I.K J (ga_of (cls_facts g.P).1) (findObj_own (cls_facts g.P).2.2.1 e1 e2 (by rw [lookIn_dict]; exact hv)) (relV_handed rv) (h v rv)
/-- a method of the stemmer -/
theorem meth_read {Q : Value × List Value → Shared → Prop} {pl : Sem Bool} {nm : Str} {k : Nat} (I : Inv g fs s.heap) (hk : methNames[k]? = some nm) (h : Q (.ref (fnAddr k), [.ref g.x]) s) :
    wpAny (model pw g.w) A (getMethod (.ref g.x) nm pl) Q E s := by
  obtain ⟨es, n, J, F⟩ := inst_at I
  obtain ⟨a, ha, hm⟩ := meth_at (meths_ok g.P) hk
  obtain ⟨m1, m2, _, _⟩ := okMeth_of hm
  have hlt : k < 23 := by
    have : k < methNames.length := (List.getElem?_eq_some_iff.mp hk).1
    exact this
  have e : fnAddr k = a := by
    unfold fnAddr
    rw [if_pos (by omega), List.getD_eq_getElem?_getD, ha]; rfl
  rw [e] at h
  refine method_fn I.K J (ga_of (cls_facts g.P).1) (none_of (cls_facts g.P).2.1) m1 m2 ?_ h
  show (lookIn nm (dictOf es n)).map _ = _
  rw [lookIn_dict, fsR_none F ?_]; rfl
  have hd : ∀ x ∈ methNames, x ∉ fldNames := by decide +kernel
  exact hd nm (List.mem_of_getElem? hk)
/-- a store into a field of the stemmer -/
theorem fld_set {Q : Unit → Shared → Prop} {nm : Str} {f : Nat} {v : Value} {av : AV} {fs' : List AV} (I : Inv g fs s.heap) (hf : fldNames[f]? = some nm) (rv : RelV g s.heap v av) (hs : setF fs f av = some fs')
    (h : ∀ h' k, Heap.SameBut g.dx s.heap h' → Inv g fs' h' → Q () { s with heap := h', toks := k }) :
    wpAny (model pw g.w) A (setAttr (.ref g.x) nm v) Q E s := by
  obtain ⟨es, n, J, F⟩ := inst_at I
  obtain ⟨attr, e1, e2, e3⟩ := okFld_of (P := g.P) (List.mem_of_getElem? hf)
  have hfl : f ≤ fs.length ∧ fs' = if f < fs.length then fs.set f av else fs ++ [av] := by
    unfold setF at hs
    split at hs
    · rename_i q; cases hs; exact ⟨Nat.le_of_lt q, by rw [if_pos q]⟩
    · split at hs
      · rename_i q1 q2; cases hs; exact ⟨by omega, by rw [if_neg q1]⟩
      · cases hs
  have P1 := fsR_put rv (hsh := PyData.keyHash g.P nm) (tk := s.toks + 1) F fld_nodup hf hfl.1
  rw [← hfl.2] at P1
  have hl : (getL nm es).isSome = true := by
    by_cases q : f < fs.length
    · obtain ⟨av', ha⟩ : ∃ x, fs[f]? = some x := ⟨_, List.getElem?_eq_getElem q⟩
      obtain ⟨v', hv, _⟩ := fsR_get F fld_nodup hf ha
      rw [hv]; rfl
    · exact fsR_some F
  refine set_ex I.K J rfl (ga_of (cls_facts g.P).2.2.2.2) (cls_facts g.P).2.2.2.1 e3 (cls_facts g.P).2.2.1 hl rfl (Nat.le_trans (fsR_len P1).1 (by decide)) fun h' hsb hd => h h' _ hsb ?_
  obtain ⟨es0, n0', a0, b0⟩ := I.dict
  have k : Kp g g.dx s.heap h' := Kp.dx a0 I.nd hsb
  exact ⟨I.bok, fun b o e => k.low b o e (I.stay b o e), I.nx, I.nd, I.xd, k.solid _ _ rfl I.inst, ⟨_, _, hd, P1.kp k⟩⟩
end
end Sp
end
section
namespace Sp
noncomputable def t_0 : List Ent := [⟨[], (-1), 6⟩, ⟨[225], 0, 1⟩, ⟨[233], 0, 2⟩, ⟨[237], 0, 3⟩, ⟨[243], 0, 4⟩, ⟨[250], 0, 5⟩]
noncomputable def t_1 : List Ent := [⟨[108, 97], (-1), (-1)⟩, ⟨[115, 101, 108, 97], 0, (-1)⟩, ⟨[108, 101], (-1), (-1)⟩, ⟨[109, 101], (-1), (-1)⟩, ⟨[115, 101], (-1), (-1)⟩, ⟨[108, 111], (-1), (-1)⟩, ⟨[115, 101, 108, 111], 5, (-1)⟩, ⟨[108, 97, 115], (-1), (-1)⟩, ⟨[115, 101, 108, 97, 115], 7, (-1)⟩, ⟨[108, 101, 115], (-1), (-1)⟩, ⟨[108, 111, 115], (-1), (-1)⟩, ⟨[115, 101, 108, 111, 115], 10, (-1)⟩, ⟨[110, 111, 115], (-1), (-1)⟩]
noncomputable def t_2 : List Ent := [⟨[97, 110, 100, 111], (-1), 6⟩, ⟨[105, 101, 110, 100, 111], (-1), 6⟩, ⟨[121, 101, 110, 100, 111], (-1), 7⟩, ⟨[225, 110, 100, 111], (-1), 2⟩, ⟨[105, 233, 110, 100, 111], (-1), 1⟩, ⟨[97, 114], (-1), 6⟩, ⟨[101, 114], (-1), 6⟩, ⟨[105, 114], (-1), 6⟩, ⟨[225, 114], (-1), 3⟩, ⟨[233, 114], (-1), 4⟩, ⟨[237, 114], (-1), 5⟩]
noncomputable def t_3 : List Ent := [⟨[105, 99], (-1), (-1)⟩, ⟨[97, 100], (-1), (-1)⟩, ⟨[111, 115], (-1), (-1)⟩, ⟨[105, 118], (-1), 1⟩]
noncomputable def t_4 : List Ent := [⟨[97, 98, 108, 101], (-1), 1⟩, ⟨[105, 98, 108, 101], (-1), 1⟩, ⟨[97, 110, 116, 101], (-1), 1⟩]
noncomputable def t_5 : List Ent := [⟨[105, 99], (-1), 1⟩, ⟨[97, 98, 105, 108], (-1), 1⟩, ⟨[105, 118], (-1), 1⟩]
noncomputable def t_6 : List Ent := [⟨[105, 99, 97], (-1), 1⟩, ⟨[97, 110, 99, 105, 97], (-1), 2⟩, ⟨[101, 110, 99, 105, 97], (-1), 5⟩, ⟨[97, 100, 111, 114, 97], (-1), 2⟩, ⟨[111, 115, 97], (-1), 1⟩, ⟨[105, 115, 116, 97], (-1), 1⟩, ⟨[105, 118, 97], (-1), 9⟩, ⟨[97, 110, 122, 97], (-1), 1⟩, ⟨[108, 111, 103, 237, 97], (-1), 3⟩, ⟨[105, 100, 97, 100], (-1), 8⟩, ⟨[97, 98, 108, 101], (-1), 1⟩, ⟨[105, 98, 108, 101], (-1), 1⟩, ⟨[97, 110, 116, 101], (-1), 2⟩, ⟨[109, 101, 110, 116, 101], (-1), 7⟩, ⟨[97, 109, 101, 110, 116, 101], 13, 6⟩, ⟨[97, 99, 105, 111, 110], (-1), 2⟩, ⟨[117, 99, 105, 111, 110], (-1), 4⟩, ⟨[97, 99, 105, 243, 110], (-1), 2⟩, ⟨[117, 99, 105, 243, 110], (-1), 4⟩, ⟨[105, 99, 111], (-1), 1⟩, ⟨[105, 115, 109, 111], (-1), 1⟩, ⟨[111, 115, 111], (-1), 1⟩, ⟨[97, 109, 105, 101, 110, 116, 111], (-1), 1⟩, ⟨[105, 109, 105, 101, 110, 116, 111], (-1), 1⟩, ⟨[105, 118, 111], (-1), 9⟩, ⟨[97, 100, 111, 114], (-1), 2⟩, ⟨[105, 99, 97, 115], (-1), 1⟩, ⟨[97, 110, 99, 105, 97, 115], (-1), 2⟩, ⟨[101, 110, 99, 105, 97, 115], (-1), 5⟩, ⟨[97, 100, 111, 114, 97, 115], (-1), 2⟩, ⟨[111, 115, 97, 115], (-1), 1⟩, ⟨[105, 115, 116, 97, 115], (-1), 1⟩, ⟨[105, 118, 97, 115], (-1), 9⟩, ⟨[97, 110, 122, 97, 115], (-1), 1⟩, ⟨[108, 111, 103, 237, 97, 115], (-1), 3⟩, ⟨[105, 100, 97, 100, 101, 115], (-1), 8⟩, ⟨[97, 98, 108, 101, 115], (-1), 1⟩, ⟨[105, 98, 108, 101, 115], (-1), 1⟩, ⟨[97, 99, 105, 111, 110, 101, 115], (-1), 2⟩, ⟨[117, 99, 105, 111, 110, 101, 115], (-1), 4⟩, ⟨[97, 100, 111, 114, 101, 115], (-1), 2⟩, ⟨[97, 110, 116, 101, 115], (-1), 2⟩, ⟨[105, 99, 111, 115], (-1), 1⟩, ⟨[105, 115, 109, 111, 115], (-1), 1⟩, ⟨[111, 115, 111, 115], (-1), 1⟩, ⟨[97, 109, 105, 101, 110, 116, 111, 115], (-1), 1⟩, ⟨[105, 109, 105, 101, 110, 116, 111, 115], (-1), 1⟩, ⟨[105, 118, 111, 115], (-1), 9⟩]
noncomputable def t_7 : List Ent := [⟨[121, 97], (-1), 1⟩, ⟨[121, 101], (-1), 1⟩, ⟨[121, 97, 110], (-1), 1⟩, ⟨[121, 101, 110], (-1), 1⟩, ⟨[121, 101, 114, 111, 110], (-1), 1⟩, ⟨[121, 101, 110, 100, 111], (-1), 1⟩, ⟨[121, 111], (-1), 1⟩, ⟨[121, 97, 115], (-1), 1⟩, ⟨[121, 101, 115], (-1), 1⟩, ⟨[121, 97, 105, 115], (-1), 1⟩, ⟨[121, 97, 109, 111, 115], (-1), 1⟩, ⟨[121, 243], (-1), 1⟩]
noncomputable def t_8 : List Ent := [⟨[97, 98, 97], (-1), 2⟩, ⟨[97, 100, 97], (-1), 2⟩, ⟨[105, 100, 97], (-1), 2⟩, ⟨[97, 114, 97], (-1), 2⟩, ⟨[105, 101, 114, 97], (-1), 2⟩, ⟨[237, 97], (-1), 2⟩, ⟨[97, 114, 237, 97], 5, 2⟩, ⟨[101, 114, 237, 97], 5, 2⟩, ⟨[105, 114, 237, 97], 5, 2⟩, ⟨[97, 100], (-1), 2⟩, ⟨[101, 100], (-1), 2⟩, ⟨[105, 100], (-1), 2⟩, ⟨[97, 115, 101], (-1), 2⟩, ⟨[105, 101, 115, 101], (-1), 2⟩, ⟨[97, 115, 116, 101], (-1), 2⟩, ⟨[105, 115, 116, 101], (-1), 2⟩, ⟨[97, 110], (-1), 2⟩, ⟨[97, 98, 97, 110], 16, 2⟩, ⟨[97, 114, 97, 110], 16, 2⟩, ⟨[105, 101, 114, 97, 110], 16, 2⟩, ⟨[237, 97, 110], 16, 2⟩, ⟨[97, 114, 237, 97, 110], 20, 2⟩, ⟨[101, 114, 237, 97, 110], 20, 2⟩, ⟨[105, 114, 237, 97, 110], 20, 2⟩, ⟨[101, 110], (-1), 1⟩, ⟨[97, 115, 101, 110], 24, 2⟩, ⟨[105, 101, 115, 101, 110], 24, 2⟩, ⟨[97, 114, 111, 110], (-1), 2⟩, ⟨[105, 101, 114, 111, 110], (-1), 2⟩, ⟨[97, 114, 225, 110], (-1), 2⟩, ⟨[101, 114, 225, 110], (-1), 2⟩, ⟨[105, 114, 225, 110], (-1), 2⟩, ⟨[97, 100, 111], (-1), 2⟩, ⟨[105, 100, 111], (-1), 2⟩, ⟨[97, 110, 100, 111], (-1), 2⟩, ⟨[105, 101, 110, 100, 111], (-1), 2⟩, ⟨[97, 114], (-1), 2⟩, ⟨[101, 114], (-1), 2⟩, ⟨[105, 114], (-1), 2⟩, ⟨[97, 115], (-1), 2⟩, ⟨[97, 98, 97, 115], 39, 2⟩, ⟨[97, 100, 97, 115], 39, 2⟩, ⟨[105, 100, 97, 115], 39, 2⟩, ⟨[97, 114, 97, 115], 39, 2⟩, ⟨[105, 101, 114, 97, 115], 39, 2⟩, ⟨[237, 97, 115], 39, 2⟩, ⟨[97, 114, 237, 97, 115], 45, 2⟩, ⟨[101, 114, 237, 97, 115], 45, 2⟩, ⟨[105, 114, 237, 97, 115], 45, 2⟩, ⟨[101, 115], (-1), 1⟩, ⟨[97, 115, 101, 115], 49, 2⟩, ⟨[105, 101, 115, 101, 115], 49, 2⟩, ⟨[97, 98, 97, 105, 115], (-1), 2⟩, ⟨[97, 114, 97, 105, 115], (-1), 2⟩, ⟨[105, 101, 114, 97, 105, 115], (-1), 2⟩, ⟨[237, 97, 105, 115], (-1), 2⟩, ⟨[97, 114, 237, 97, 105, 115], 55, 2⟩, ⟨[101, 114, 237, 97, 105, 115], 55, 2⟩, ⟨[105, 114, 237, 97, 105, 115], 55, 2⟩, ⟨[97, 115, 101, 105, 115], (-1), 2⟩, ⟨[105, 101, 115, 101, 105, 115], (-1), 2⟩, ⟨[97, 115, 116, 101, 105, 115], (-1), 2⟩, ⟨[105, 115, 116, 101, 105, 115], (-1), 2⟩, ⟨[225, 105, 115], (-1), 2⟩, ⟨[233, 105, 115], (-1), 1⟩, ⟨[97, 114, 233, 105, 115], 64, 2⟩, ⟨[101, 114, 233, 105, 115], 64, 2⟩, ⟨[105, 114, 233, 105, 115], 64, 2⟩, ⟨[97, 100, 111, 115], (-1), 2⟩, ⟨[105, 100, 111, 115], (-1), 2⟩, ⟨[97, 109, 111, 115], (-1), 2⟩, ⟨[225, 98, 97, 109, 111, 115], 70, 2⟩, ⟨[225, 114, 97, 109, 111, 115], 70, 2⟩, ⟨[105, 233, 114, 97, 109, 111, 115], 70, 2⟩, ⟨[237, 97, 109, 111, 115], 70, 2⟩, ⟨[97, 114, 237, 97, 109, 111, 115], 74, 2⟩, ⟨[101, 114, 237, 97, 109, 111, 115], 74, 2⟩, ⟨[105, 114, 237, 97, 109, 111, 115], 74, 2⟩, ⟨[101, 109, 111, 115], (-1), 1⟩, ⟨[97, 114, 101, 109, 111, 115], 78, 2⟩, ⟨[101, 114, 101, 109, 111, 115], 78, 2⟩, ⟨[105, 114, 101, 109, 111, 115], 78, 2⟩, ⟨[225, 115, 101, 109, 111, 115], 78, 2⟩, ⟨[105, 233, 115, 101, 109, 111, 115], 78, 2⟩, ⟨[105, 109, 111, 115], (-1), 2⟩, ⟨[97, 114, 225, 115], (-1), 2⟩, ⟨[101, 114, 225, 115], (-1), 2⟩, ⟨[105, 114, 225, 115], (-1), 2⟩, ⟨[237, 115], (-1), 2⟩, ⟨[97, 114, 225], (-1), 2⟩, ⟨[101, 114, 225], (-1), 2⟩, ⟨[105, 114, 225], (-1), 2⟩, ⟨[97, 114, 233], (-1), 2⟩, ⟨[101, 114, 233], (-1), 2⟩, ⟨[105, 114, 233], (-1), 2⟩, ⟨[105, 243], (-1), 2⟩]
noncomputable def t_9 : List Ent := [⟨[97], (-1), 1⟩, ⟨[101], (-1), 2⟩, ⟨[111], (-1), 1⟩, ⟨[111, 115], (-1), 1⟩, ⟨[225], (-1), 1⟩, ⟨[233], (-1), 2⟩, ⟨[237], (-1), 1⟩, ⟨[243], (-1), 1⟩]
noncomputable def g_signs : List Nat := [97, 98, 99, 100, 101, 102, 103, 104, 105, 106, 107, 108, 109, 110, 111, 112, 113, 114, 115, 116, 117, 118, 119, 120, 121, 122, 225, 233, 237, 243, 250, 252, 241, 231, 65, 201, 39, 45]
noncomputable def g_pronouns : List (List Nat) := [[109, 101], [115, 101], [108, 97], [108, 101], [108, 111], [108, 97, 115], [108, 101, 115], [108, 111, 115], [110, 111, 115], [115, 101, 108, 97], [115, 101, 108, 111], [115, 101, 108, 97, 115], [115, 101, 108, 111, 115]]
noncomputable def g_forms : List (List Nat) := [[97, 110, 100, 111], [105, 101, 110, 100, 111], [121, 101, 110, 100, 111], [225, 110, 100, 111], [105, 233, 110, 100, 111], [97, 114], [101, 114], [105, 114], [225, 114], [233, 114], [237, 114]]
noncomputable def g_inner : List (List Nat) := [[105, 99], [97, 100], [111, 115], [105, 118], [97, 116], [97, 98, 105, 108], [103, 117]]
noncomputable def g_ys : List (List Nat) := [[121, 97], [121, 101], [121, 111], [121, 243], [121, 97, 115], [121, 101, 115], [121, 97, 110], [121, 101, 110], [121, 97, 105, 115], [121, 97, 109, 111, 115], [121, 101, 114, 111, 110], [121, 101, 110, 100, 111]]
noncomputable def g_verbs : List (List Nat) := [[97, 114], [101, 114], [105, 114], [97, 100], [101, 100], [105, 100], [97, 110, 100, 111], [105, 101, 110, 100, 111], [97, 100, 111], [97, 100, 97], [97, 100, 111, 115], [97, 100, 97, 115], [105, 100, 111], [105, 100, 97], [105, 100, 111, 115], [105, 100, 97, 115], [97, 115], [97, 110], [225, 105, 115], [97, 109, 111, 115], [101, 115], [101, 110], [233, 105, 115], [101, 109, 111, 115], [237, 115], [105, 109, 111, 115], [97, 98, 97], [97, 98, 97, 115], [97, 98, 97, 110], [97, 98, 97, 105, 115], [225, 98, 97, 109, 111, 115], [237, 97], [237, 97, 115], [237, 97, 110], [237, 97, 105, 115], [237, 97, 109, 111, 115], [97, 115, 116, 101], [97, 115, 116, 101, 105, 115], [97, 114, 111, 110], [105, 115, 116, 101], [105, 115, 116, 101, 105, 115], [105, 101, 114, 111, 110], [105, 243], [97, 114, 97], [97, 114, 97, 115], [97, 114, 97, 110], [97, 114, 97, 105, 115], [225, 114, 97, 109, 111, 115], [105, 101, 114, 97], [105, 101, 114, 97, 115], [105, 101, 114, 97, 110], [105, 101, 114, 97, 105, 115], [105, 233, 114, 97, 109, 111, 115], [97, 115, 101], [97, 115, 101, 115], [97, 115, 101, 110], [97, 115, 101, 105, 115], [225, 115, 101, 109, 111, 115], [105, 101, 115, 101], [105, 101, 115, 101, 115], [105, 101, 115, 101, 110], [105, 101, 115, 101, 105, 115], [105, 233, 115, 101, 109, 111, 115], [97, 114, 233], [97, 114, 225, 115], [97, 114, 225], [97, 114, 101, 109, 111, 115], [97, 114, 233, 105, 115], [97, 114, 225, 110], [97, 114, 237, 97], [97, 114, 237, 97, 115], [97, 114, 237, 97, 110], [97, 114, 237, 97, 105, 115], [97, 114, 237, 97, 109, 111, 115], [101, 114, 233], [101, 114, 225, 115], [101, 114, 225], [101, 114, 101, 109, 111, 115], [101, 114, 233, 105, 115], [101, 114, 225, 110], [101, 114, 237, 97], [101, 114, 237, 97, 115], [101, 114, 237, 97, 110], [101, 114, 237, 97, 105, 115], [101, 114, 237, 97, 109, 111, 115], [105, 114, 233], [105, 114, 225, 115], [105, 114, 225], [105, 114, 101, 109, 111, 115], [105, 114, 233, 105, 115], [105, 114, 225, 110], [105, 114, 237, 97], [105, 114, 237, 97, 115], [105, 114, 237, 97, 110], [105, 114, 237, 97, 105, 115], [105, 114, 237, 97, 109, 111, 115]]
noncomputable def g_rules : List Rul := [⟨[[97, 110, 122, 97], [97, 110, 122, 97, 115], [105, 99, 97], [105, 99, 97, 115], [105, 99, 111], [105, 99, 111, 115], [111, 115, 97], [111, 115, 97, 115], [111, 115, 111], [111, 115, 111, 115], [105, 115, 116, 97], [105, 115, 116, 97, 115], [105, 115, 109, 111], [105, 115, 109, 111, 115], [97, 98, 108, 101], [97, 98, 108, 101, 115], [105, 98, 108, 101], [105, 98, 108, 101, 115], [97, 109, 105, 101, 110, 116, 111], [97, 109, 105, 101, 110, 116, 111, 115], [105, 109, 105, 101, 110, 116, 111], [105, 109, 105, 101, 110, 116, 111, 115]], [], []⟩, ⟨[[97, 110, 99, 105, 97], [97, 110, 99, 105, 97, 115], [97, 100, 111, 114, 97], [97, 100, 111, 114, 97, 115], [97, 100, 111, 114], [97, 100, 111, 114, 101, 115], [97, 110, 116, 101], [97, 110, 116, 101, 115], [97, 99, 105, 111, 110], [97, 99, 105, 243, 110], [97, 99, 105, 111, 110, 101, 115]], [], [[105, 99]]⟩, ⟨[[108, 111, 103, 237, 97], [108, 111, 103, 237, 97, 115]], [108, 111, 103], []⟩, ⟨[[117, 99, 105, 111, 110], [117, 99, 105, 243, 110], [117, 99, 105, 111, 110, 101, 115]], [117], []⟩, ⟨[[101, 110, 99, 105, 97], [101, 110, 99, 105, 97, 115]], [101, 110, 116, 101], []⟩, ⟨[[97, 109, 101, 110, 116, 101]], [], [[105, 99], [97, 100], [111, 115], [105, 118], [97, 116, 105, 118]]⟩, ⟨[[109, 101, 110, 116, 101]], [], [[97, 98, 108, 101], [105, 98, 108, 101], [97, 110, 116, 101]]⟩, ⟨[[105, 100, 97, 100], [105, 100, 97, 100, 101, 115]], [], [[105, 99], [97, 98, 105, 108], [105, 118]]⟩, ⟨[[105, 118, 97], [105, 118, 97, 115], [105, 118, 111], [105, 118, 111, 115]], [], [[97, 116]]⟩]
noncomputable def tabs : Tabs where
  glob := fun
    | 0 => some (.str g_signs) | 1 => some (.strs g_pronouns) | 2 => some (.strs g_forms) | 3 => some (.rules g_rules) | 4 => some (.strs g_inner) | 5 => some (.strs g_ys) | 6 => some (.strs g_verbs)
    | _ => none
  tab := fun
    | 0 => some .gv | 1 => some (.tab t_0) | 2 => some (.tab t_1) | 3 => some (.tab t_2) | 4 => some (.tab t_3) | 5 => some (.tab t_4) | 6 => some (.tab t_5) | 7 => some (.tab t_6) | 8 => some (.tab t_7) | 9 => some (.tab t_8) | 10 => some (.tab t_9)
    | _ => none
end Sp
end
section
open PySem PySem.W PySem.Calls PyProof.Rows
set_option maxRecDepth 100000
set_option maxHeartbeats 1000000
set_option linter.all false
namespace Sp
noncomputable def natsEqB : List Nat → List Nat → Bool
  | [], l => l.isEmpty
  | a :: x, l => match l with
    | [] => false
    | b :: y => Nat.beq a b && natsEqB x y
theorem natsEqB_eq : ∀ {x y : List Nat}, natsEqB x y = true → x = y
  | [], y, h => (List.isEmpty_iff.mp h).symm
  | _ :: _, [], h => ff_el h
  | a :: x, b :: y, h => by
    obtain ⟨h1, h2⟩ := Bool.and_eq_true_iff.mp (show (Nat.beq a b && natsEqB x y) = true from h)
    rw [Nat.eq_of_beq_eq_true h1, natsEqB_eq h2]
noncomputable def isTy (s : String) : Value → Bool
  | .type n => decide (n = s)
  | _ => false
theorem isTy_inv {s : String} {v : Value} (h : isTy s v = true) : v = .type s := by
  cases v with
  | type n => rw [of_decide_eq_true (show decide (n = s) = true from h)]
  | _ => exact ff_el h
noncomputable def isPlain : Data → Bool
  | .plain => true
  | _ => false
theorem isPlain_inv {d : Data} (h : isPlain d = true) : d = .plain := by
  cases d with
  | plain => rfl
  | _ => exact ff_el h
noncomputable def seqOf : Data → Option (List Value)
  | .seq vs _ => some vs.toList
  | _ => none
theorem seqOf_inv {d : Data} {vs : List Value} (h : seqOf d = some vs) : ∃ n, d = .seq vs.toArray n := by
  cases d with
  | seq xs n => cases h; exact ⟨n, by simp⟩
  | _ => exact none_inv h
noncomputable def dicOf : Data → Option (List DictEntry)
  | .dict es _ => some es.toList
  | _ => none
theorem dicOf_inv {d : Data} {es : List DictEntry} (h : dicOf d = some es) : ∃ n, d = .dict es.toArray n := by
  cases d with
  | dict xs n => cases h; exact ⟨n, by simp⟩
  | _ => exact none_inv h
noncomputable def instOf (o : Obj) : Option Addr := ifo (decide (refOf o.cls = some 220) && (isPlain o.data && o.slots.toList.isEmpty)) o.dict
theorem slots_nil {α : Type} {x : Array α} (h : x.toList.isEmpty = true) : x = #[] := by
  have := List.isEmpty_iff.mp h
  simpa using this
theorem instOf_inv {o : Obj} {d : Addr} (h : instOf o = some d) : o = ⟨.ref 220, some d, .plain, #[]⟩ := by
  obtain ⟨cls, dd, data, sl⟩ := o
  obtain ⟨h1, h2⟩ := ifo_inv h
  obtain ⟨a, h1⟩ := Bool.and_eq_true_iff.mp h1
  obtain ⟨b, c⟩ := Bool.and_eq_true_iff.mp h1
  have a := refOf_inv (of_decide_eq_true a)
  have b := isPlain_inv b
  have c := slots_nil c
  have h2 : dd = some d := h2
  simp only at a b c
  rw [a, b, c, h2]
noncomputable def dcOf (o : Obj) : Option (List DictEntry) := ifo (isTy "dict" o.cls && (o.dict.isNone && o.slots.toList.isEmpty)) (dicOf o.data)
theorem dcOf_inv {o : Obj} {es : List DictEntry} (h : dcOf o = some es) : ∃ n, o = ⟨.type "dict", none, .dict es.toArray n, #[]⟩ := by
  obtain ⟨cls, dd, data, sl⟩ := o
  obtain ⟨h1, h2⟩ := ifo_inv h
  obtain ⟨a, h1⟩ := Bool.and_eq_true_iff.mp h1
  obtain ⟨b, c⟩ := Bool.and_eq_true_iff.mp h1
  have a := isTy_inv a
  have b := Option.isNone_iff_eq_none.mp b
  have c := slots_nil c
  obtain ⟨n, h2⟩ := dicOf_inv h2
  simp only at a b c h2
  exact ⟨n, by rw [a, b, c, h2]⟩
noncomputable def sqOf (s : String) (o : Obj) : Option (List Value) := ifo (isTy s o.cls) (seqOf o.data)
theorem sqOf_inv {s : String} {o : Obj} {vs : List Value} (h : sqOf s o = some vs) : o.cls = .type s ∧ ∃ n, o.data = .seq vs.toArray n := by
  obtain ⟨h1, h2⟩ := ifo_inv h
  exact ⟨isTy_inv h1, seqOf_inv h2⟩
/-- known objects, as a tree -/
noncomputable def amT (P : Params) : PT := mkT (amF P)
noncomputable def kT (P : Params) : PT := mkT (kL P)
noncomputable def strChk (v : Value) (s : List Nat) : Bool := match v with
  | .str x _ => natsEqB x.cps.toList s && Nat.ble s.length lim
  | _ => false
noncomputable def intChk (v : Value) (i : Int) : Bool := match v with
  | .int j _ => decide (j = i)
  | _ => false
noncomputable def amChk (T : PT) (v : Value) (e : Ent) : Bool := oB (fun a => oB (fun d => oB (fun es => oB (fun v => strChk v e.s) (getL "s" es).join && (oB (fun v => intChk v e.sub) (getL "substring_i" es).join && oB (fun v => intChk v e.res) (getL "result" es).join)) ((T.get d).bind dcOf)) ((T.get a).bind instOf)) (refOf v)
noncomputable def lChk {α : Type} (f : Value → α → Bool) : List Value → List α → Bool
  | [], l => l.isEmpty
  | v :: vs, l => match l with
    | [] => false
    | a :: as => f v a && lChk f vs as
theorem lChk_spec {α : Type} {f : Value → α → Bool} {R : Value → α → Prop} (h : ∀ v a, f v a = true → R v a) : ∀ {vs : List Value} {as : List α}, lChk f vs as = true → LR R vs as
  | [], as, e => by rw [List.isEmpty_iff.mp e]; trivial
  | _ :: _, [], e => ff_el e
  | v :: vs, a :: as, e => ⟨h _ _ (Bool.and_eq_true_iff.mp (show (f v a && lChk f vs as) = true from e)).1, lChk_spec h (Bool.and_eq_true_iff.mp (show (f v a && lChk f vs as) = true from e)).2⟩
theorem strChk_spec {v : Value} {s : List Nat} (h : strChk v s = true) : StrR v s := by
  cases v with
  | str x t =>
    obtain ⟨a, b⟩ := Bool.and_eq_true_iff.mp (show (natsEqB x.cps.toList s && Nat.ble s.length lim) = true from h)
    refine ⟨Nat.le_of_ble_eq_true b, t, ?_⟩
    have := natsEqB_eq a
    cases x
    simp only [Value.str.injEq, Str.mk.injEq, and_true]
    exact (by rw [← this])
  | _ => exact ff_el h
theorem intChk_spec {v : Value} {s : Int} (h : intChk v s = true) : IntR v s := by
  cases v with
  | int x t => exact ⟨t, by rw [of_decide_eq_true (show decide (x = s) = true from h)]⟩
  | _ => exact ff_el h
noncomputable def listAt (T : PT) (f : List Value → Bool) (a : Nat) : Bool := oB f ((T.get a).bind (sqOf "list"))
theorem listAt_spec {T : PT} {f : List Value → Bool} {a : Nat} {h : Heap} (hT : ∀ a o, T.get a = some o → h.get? a = some o) (e : listAt T f a = true) : ∃ vs, h.IsList a vs.toArray ∧ f vs = true := by
  obtain ⟨vs, h1, h2⟩ := oB_inv e
  obtain ⟨o, h3, h4⟩ := ob_inv h1
  obtain ⟨h5, n, h6⟩ := sqOf_inv h4
  exact ⟨vs, ⟨_, hT _ _ h3, h5, _, h6⟩, h2⟩
noncomputable def rulChk (T : PT) (v : Value) (r : Rul) : Bool := oB (fun a => oB (fun p => oB (fun x => listAt T (fun vs => lChk strChk vs r.ends) x) (refOf p.1) && (strChk p.2.1 r.ins && oB (fun z => listAt T (fun vs => lChk strChk vs r.fur) z) (refOf p.2.2))) (((T.get a).bind (sqOf "tuple")).bind thr3)) (refOf v)
theorem rulChk_spec {T : PT} {h : Heap} (hT : ∀ a o, T.get a = some o → h.get? a = some o) {v : Value} {r : Rul} (e : rulChk T v r = true) : RulR h v r := by
  obtain ⟨a, h1, e⟩ := oB_inv e
  obtain ⟨p, h2, e⟩ := oB_inv e
  obtain ⟨l, h2, h3⟩ := ob_inv h2
  obtain ⟨o, h4, h5⟩ := ob_inv h2
  obtain ⟨h6, n, h7⟩ := sqOf_inv h5
  obtain ⟨e1, e⟩ := Bool.and_eq_true_iff.mp e
  obtain ⟨e2, e3⟩ := Bool.and_eq_true_iff.mp e
  obtain ⟨x, q1, e1⟩ := oB_inv e1
  obtain ⟨z, q3, e3⟩ := oB_inv e3
  obtain ⟨vs, l1, c1⟩ := listAt_spec hT e1
  obtain ⟨ws, l2, c2⟩ := listAt_spec hT e3
  have h3 := thr3_inv h3
  rw [refOf_inv q1, refOf_inv q3] at h3
  rw [h3] at h7
  exact ⟨a, _, _, _, _, refOf_inv h1, hT _ _ h4, h6, ⟨_, h7⟩, ⟨_, vs, rfl, l1, lChk_spec (fun _ _ => strChk_spec) c1⟩, strChk_spec e2, ⟨_, ws, rfl, l2, lChk_spec (fun _ _ => strChk_spec) c2⟩⟩
section
variable {g : G} {fs : List AV} {h : Heap}
theorem amT_at (I : Inv g fs h) : ∀ a o, (amT g.P).get a = some o → h.get? a = some o ∧ g.B.get? a = some o := fun a o e => by
  have := mkT_mem e
  exact ⟨I.stay _ _ (I.bok.am _ this), I.bok.am _ this⟩
theorem amChk_spec (I : Inv g fs h) {v : Value} {e : Ent} (x : amChk (amT g.P) v e = true) : AmgR g h v e := by
  obtain ⟨a, q0, x⟩ := oB_inv x
  obtain ⟨d, q1, x⟩ := oB_inv x
  obtain ⟨es, q2, x⟩ := oB_inv x
  obtain ⟨o1, q1, r1⟩ := ob_inv q1
  obtain ⟨o2, q2, r2⟩ := ob_inv q2
  obtain ⟨n, r2⟩ := dcOf_inv r2
  obtain rfl := instOf_inv r1
  obtain rfl := r2
  obtain ⟨x1, x⟩ := Bool.and_eq_true_iff.mp x
  obtain ⟨x2, x3⟩ := Bool.and_eq_true_iff.mp x
  obtain ⟨v1, p1, x1⟩ := oB_inv x1
  obtain ⟨v2, p2, x2⟩ := oB_inv x2
  obtain ⟨v3, p3, x3⟩ := oB_inv x3
  exact ⟨a, d, es, n, v1, v2, v3, refOf_inv q0, (amT_at I _ _ q1).2, (amT_at I _ _ q2).2, (amT_at I _ _ q1).1, (amT_at I _ _ q2).1, oj_inv p1, oj_inv p2, oj_inv p3, strChk_spec x1, intChk_spec x2, intChk_spec x3⟩
end
noncomputable def tabAddr : List Nat := [232, 321, 361, 395, 408, 418, 428, 573, 610, 899, 924]
noncomputable def tabC (P : Params) (a : Nat) : AV → Bool
  | .tab l => listAt (amT P) (fun vs => lChk (amChk (amT P)) vs l) a
  | .gv => Nat.beq a 232
  | _ => false
noncomputable def tabOk (P : Params) (k : Nat) : Bool := oB (fun t => oB (fun a => tabC P a t) tabAddr[k]?) (tabs.tab k)
theorem tabs_ok (P : Params) : (tabOk P 0 && tabOk P 1 && tabOk P 2 && tabOk P 3 && tabOk P 4 && tabOk P 5 && tabOk P 6 && tabOk P 7 && tabOk P 8 && tabOk P 9 && tabOk P 10) = true := by kernel_rfl
theorem cls_reads (w : World) : readsIn (kC w) clsA (.type "type") = true := by kernel_rfl
noncomputable def valRef : CFound → Option Addr
  | .val v => refOf v
  | _ => none
noncomputable def okTabs (w : World) : List Str → List Nat → Bool
  | [], l => l.isEmpty
  | x :: xs, l => match l with
    | [] => false
    | a :: as => oB (fun b => Nat.beq a b) ((findCls (kC w) (.ref clsA) (.type "type") x).bind valRef) && okTabs w xs as
theorem tabNs_ok (w : World) : okTabs w tabNames tabAddr = true := by kernel_rfl
theorem stem_name (P : Params) : nsIn (kL P) mainGlobals "SpanishStemmer" = some (some (.ref clsA)) := by kernel_rfl
theorem okTabs_at {w : World} : ∀ {xs : List Str} {as : List Nat} {k : Nat} {nm : Str}, okTabs w xs as = true → xs[k]? = some nm → ∃ a, as[k]? = some a ∧ findCls (kC w) (.ref clsA) (.type "type") nm = some (.val (.ref a))
  | [], _, _, _, _, e => nomatch e
  | _ :: _, [], _, _, h, _ => ff_el h
  | x :: xs, a :: as, k, nm, h, e => by
    obtain ⟨h1, h2⟩ := Bool.and_eq_true_iff.mp (show (oB (fun b => Nat.beq a b) ((findCls (kC w) (.ref clsA) (.type "type") x).bind valRef) && okTabs w xs as) = true from h)
    cases k with
    | zero =>
      cases e
      refine ⟨a, rfl, ?_⟩
      obtain ⟨b, h3, h4⟩ := oB_inv h1
      obtain ⟨c, h5, h6⟩ := ob_inv h3
      rw [Nat.eq_of_beq_eq_true h4, h5]
      cases c with
      | val v => rw [refOf_inv (show refOf v = some b from h6)]
      | _ => exact none_inv h6
    | succ k => exact okTabs_at (k := k) h2 e
noncomputable def globC (P : Params) (v : Value) : AV → Bool
  | .str s => strChk v s
  | .strs l => oB (fun a => listAt (kT P) (fun vs => lChk strChk vs l) a) (refOf v)
  | .rules l => oB (fun a => listAt (kT P) (fun vs => lChk (rulChk (kT P)) vs l) a) (refOf v)
  | _ => false
noncomputable def globOk (P : Params) (k : Nat) (nm : Str) : Bool := oB (fun t => oB (fun v => globC P v t) (nsIn (kL P) mainGlobals nm).join) (tabs.glob k)
noncomputable def globsOk (P : Params) : Nat → List Str → Bool
  | _, [] => true
  | k, x :: xs => globOk P k x && globsOk P (k + 1) xs
theorem globs_ok (P : Params) : globsOk P 0 gnames = true := by kernel_rfl
theorem globs_at {P : Params} : ∀ {xs : List Str} {i k : Nat} {nm : Str}, globsOk P i xs = true → xs[k]? = some nm → globOk P (i + k) nm = true
  | x :: xs, i, 0, nm, h, e => by cases e; exact (Bool.and_eq_true_iff.mp h).1
  | x :: xs, i, k + 1, nm, h, e => by
    have := globs_at (i := i + 1) (k := k) (Bool.and_eq_true_iff.mp h).2 e
    rw [show i + (k + 1) = i + 1 + k by omega]; exact this
  | [], _, _, _, _, e => by cases e
section
variable {g : G} {fs : List AV} {h : Heap}
theorem kT_at (I : Inv g fs h) : ∀ a o, (kT g.P).get a = some o → h.get? a = some o := fun a o e => by
  have := mkT_mem e
  exact I.stay _ _ (I.bok.ks _ this)
theorem tab_rel (I : Inv g fs h) {k : Nat} {v : AV} (e : tabs.tab k = some v) : ∃ a, tabAddr[k]? = some a ∧ RelV g h (.ref a) v := by
  have hk : k < 11 := by
    rcases Nat.lt_or_ge k 11 with q | q
    · exact q
    · exfalso
      obtain ⟨j, rfl⟩ : ∃ j, k = j + 11 := ⟨k - 11, by omega⟩
      cases e
  have ok : tabOk g.P k = true := by
    have := tabs_ok g.P
    simp only [Bool.and_eq_true] at this
    obtain ⟨⟨⟨⟨⟨⟨⟨⟨⟨⟨h0, h1⟩, h2⟩, h3⟩, h4⟩, h5⟩, h6⟩, h7⟩, h8⟩, h9⟩, h10⟩ := this
    match k, hk with
    | 0, _ => exact h0
    | 1, _ => exact h1
    | 2, _ => exact h2
    | 3, _ => exact h3
    | 4, _ => exact h4
    | 5, _ => exact h5
    | 6, _ => exact h6
    | 7, _ => exact h7
    | 8, _ => exact h8
    | 9, _ => exact h9
    | 10, _ => exact h10
  obtain ⟨t, h1, ok⟩ := oB_inv ok
  obtain ⟨a, h2, ok⟩ := oB_inv ok
  rw [h1] at e
  cases e
  cases v with
  | tab l =>
    obtain ⟨vs, l1, c1⟩ := listAt_spec (fun a o e => (amT_at I a o e).1) ok
    exact ⟨a, h2, a, vs, rfl, l1, lChk_spec (fun _ _ => amChk_spec I) c1⟩
  | gv => exact ⟨a, h2, by rw [Nat.eq_of_beq_eq_true ok]; rfl⟩
  | _ => exact ff_el ok
theorem glob_rel (I : Inv g fs h) {k : Nat} {nm : Str} {v : AV} (hk : gnames[k]? = some nm) (e : tabs.glob k = some v) : ∃ u, nsIn (kL g.P) mainGlobals nm = some (some u) ∧ RelV g h u v := by
  have ok := globs_at (globs_ok g.P) hk
  rw [Nat.zero_add] at ok
  obtain ⟨t, h1, ok⟩ := oB_inv ok
  obtain ⟨u, h2, ok⟩ := oB_inv ok
  rw [h1] at e
  cases e
  refine ⟨u, oj_inv h2, ?_⟩
  cases v with
  | str s => exact strChk_spec ok
  | «strs» l =>
    obtain ⟨a, q, ok⟩ := oB_inv ok
    obtain ⟨vs, l1, c1⟩ := listAt_spec (kT_at I) ok
    exact ⟨a, vs, refOf_inv q, l1, lChk_spec (fun _ _ => strChk_spec) c1⟩
  | rules l =>
    obtain ⟨a, q, ok⟩ := oB_inv ok
    obtain ⟨vs, l1, c1⟩ := listAt_spec (kT_at I) ok
    exact ⟨a, vs, refOf_inv q, l1, lChk_spec (fun _ _ => rulChk_spec (kT_at I)) c1⟩
  | _ => exact ff_el ok
end
end Sp
end
section
open PySem PySem.W PySem.Calls PyProof.Rows
set_option maxRecDepth 100000
set_option maxHeartbeats 1000000
set_option linter.all false
namespace Sp
/-- what an operation may end in -/
noncomputable def Res (g : G) (s : Shared) (av : AV) (Q : Value → Shared → Prop) : Prop :=
  ∀ v h' k, (∀ b o, s.heap.get? b = some o → h'.get? b = some o) → RelV g h' v av → Q v { s with heap := h', toks := k }
theorem Res.here {g : G} {s : Shared} {av : AV} {Q : Value → Shared → Prop} (h : Res g s av Q) {v : Value} {k : Nat} (r : RelV g s.heap v av) : Q v { s with toks := k } := h v s.heap k (fun _ _ e => e) r
theorem lim_lt : lim ≤ sizeLine := by unfold lim; rw [sizeLine_eq]; omega
theorem str_len (s : List Nat) : (⟨s.toArray⟩ : Str).length = s.length := by show s.toArray.size = _; simp
theorem str_app (a b : List Nat) : (⟨a.toArray⟩ : Str) ++ (⟨b.toArray⟩ : Str) = ⟨(a ++ b).toArray⟩ := by
  apply Str.ext'
  rw [Str.cps_append]; simp
section
variable {g : G} {A : Around} {E : Value → Shared → Prop} {s : Shared} {Q : Value → Shared → Prop} {u v : Value} {a b r : AV}
theorem op_bin {op : Operator} (ho : opBin op a b = some r) (hu : RelV g s.heap u a) (hv : RelV g s.heap v b) (h : Res g s r Q) : wpAny (model pw g.w) A (binaryOp op u v) Q E s := by
  cases op with
  | Add => cases a with
    | int x =>
      obtain ⟨y, hy, rfl⟩ := om_inv (show (avInt b).map (fun y => AV.int (x + y)) = some r from ho)
      obtain rfl := avInt_inv hy
      obtain ⟨t, rfl⟩ := hu; obtain ⟨t', rfl⟩ := hv; exact P.add_int (h.here ⟨_, rfl⟩)
    | str x =>
      obtain ⟨y, hy, ho⟩ := ob_inv (show (avStr b).bind (fun y => if x.length + y.length ≤ lim then some (AV.str (x ++ y)) else none) = some r from ho)
      obtain rfl := avStr_inv hy
      obtain ⟨l1, t, rfl⟩ := hu; obtain ⟨l2, t', rfl⟩ := hv
      rcases ite_inv ho with ⟨e, ho⟩ | ⟨_, ho⟩
      · cases ho
        refine SBL.add (fun t' k => ?_) (by rw [str_len, str_len]; exact Nat.le_trans e lim_lt)
        intro _
        rw [str_app]
        exact h.here ⟨by rw [List.length_append]; exact e, _, rfl⟩
      · exact none_inv ho
    | «strs» x =>
      obtain ⟨y, hy, ho⟩ := ob_inv (show (avStrs b).bind (fun y => if x.length + y.length ≤ lim then some (AV.strs (x ++ y)) else none) = some r from ho)
      obtain rfl := avStrs_inv hy
      obtain ⟨l, vs, rfl, hl, r1⟩ := hu; obtain ⟨l', ws, rfl, hb, r2⟩ := hv
      rcases ite_inv ho with ⟨e, ho⟩ | ⟨_, ho⟩
      · cases ho
        obtain ⟨⟨cls, dd, data, sl⟩, ho, hc, n, hd⟩ := id hl
        obtain ⟨⟨cls2, dd2, data2, sl2⟩, ho2, hc2, n2, hd2⟩ := id hb
        simp only at hc hd hc2 hd2
        subst hc hd hc2 hd2
        have e1 : vs.toArray ++ ws.toArray = (vs ++ ws).toArray := by simp
        refine concat_meets ⟨_, ho, rfl⟩ ⟨_, ho2, rfl⟩ noFill_list_add seq_list_add PySem.F.slot_list_add PySem.F.entry_list_add (PySem.F.args_list_add_2 _ _) (list_addW l l' vs.toArray ws.toArray n n2 dd dd2 sl sl2 (by simp only [List.size_toArray]; rw [r1.len, r2.len]; exact Nat.le_trans e lim_lt)) ⟨ho, ho2, ?_⟩
        rw [e1]
        exact h _ _ s.toks (fun _ _ e => Heap.get?_push_of_some _ e) ⟨_, _, rfl, ⟨_, Heap.get?_push_size _ rfl, rfl, _, rfl⟩, r1.app r2⟩
      · exact none_inv ho
    | _ => exact none_inv ho
  | Sub =>
    obtain ⟨x, y, hx, hy, rfl⟩ := o2_inv (show o2 (fun x y => AV.int (x - y)) (avInt a) (avInt b) = some r from ho)
    obtain rfl := avInt_inv hx; obtain rfl := avInt_inv hy
    obtain ⟨t, rfl⟩ := hu; obtain ⟨t', rfl⟩ := hv; exact P.sub_int (h.here ⟨_, rfl⟩)
  | FloorDiv =>
    obtain ⟨x, hx, ho⟩ := ob_inv (show (avInt a).bind (fun x => (avInt b).bind fun y => if y = 2 then some (AV.int (x / 2)) else none) = some r from ho)
    obtain ⟨y, hy, ho⟩ := ob_inv ho
    obtain rfl := avInt_inv hx; obtain rfl := avInt_inv hy
    obtain ⟨t, rfl⟩ := hu; obtain ⟨t', rfl⟩ := hv
    rcases ite_inv ho with ⟨e, ho⟩ | ⟨_, ho⟩
    · subst e; cases ho
      refine floordiv_int (by decide) ?_ (Or.inl (PyProof.noPylong_of_log2 (by decide +kernel)))
      rw [Int.fdiv_eq_ediv_of_nonneg _ (by decide)]
      exact h.here ⟨_, rfl⟩
    · exact none_inv ho
  | Mod =>
    obtain ⟨x, hx, ho⟩ := ob_inv (show (avInt a).bind (fun x => (avInt b).bind fun y => if 0 < y then some (AV.int (x % y)) else none) = some r from ho)
    obtain ⟨y, hy, ho⟩ := ob_inv ho
    obtain rfl := avInt_inv hx; obtain rfl := avInt_inv hy
    obtain ⟨t, rfl⟩ := hu; obtain ⟨t', rfl⟩ := hv
    rcases ite_inv ho with ⟨e, ho⟩ | ⟨_, ho⟩
    · cases ho
      refine mod_int' (by omega) ?_
      rw [Int.fmod_eq_emod_of_nonneg _ (by omega)]
      exact h.here ⟨_, rfl⟩
    · exact none_inv ho
  | RShift =>
    obtain ⟨x, hx, ho⟩ := ob_inv (show (avInt a).bind (fun x => (avInt b).bind fun y => if y = 1 then some (AV.int (x / 2)) else none) = some r from ho)
    obtain ⟨y, hy, ho⟩ := ob_inv ho
    obtain rfl := avInt_inv hx; obtain rfl := avInt_inv hy
    obtain ⟨t, rfl⟩ := hu; obtain ⟨t', rfl⟩ := hv
    rcases ite_inv ho with ⟨e, ho⟩ | ⟨_, ho⟩
    · subst e; cases ho
      refine rshift_int (by decide) ?_
      rw [Int.fdiv_eq_ediv_of_nonneg _ (by decide)]
      exact h.here ⟨_, rfl⟩
    · exact none_inv ho
  | _ => exact none_inv ho
theorem op_iadd {op : Operator} (ho : opAug op a b = some r) (hu : RelV g s.heap u a) (hv : RelV g s.heap v b) (h : Res g s r Q) : wpAny (model pw g.w) A (inplaceOp op u v) Q E s := by
  cases op with
  | Add =>
    obtain ⟨x, y, hx, hy, rfl⟩ := o2_inv (show o2 (fun x y => AV.int (x + y)) (avInt a) (avInt b) = some r from ho)
    obtain rfl := avInt_inv hx; obtain rfl := avInt_inv hy
    obtain ⟨t, rfl⟩ := hu; obtain ⟨t', rfl⟩ := hv; exact P.iadd_int (h.here ⟨_, rfl⟩)
  | Sub =>
    obtain ⟨x, y, hx, hy, rfl⟩ := o2_inv (show o2 (fun x y => AV.int (x - y)) (avInt a) (avInt b) = some r from ho)
    obtain rfl := avInt_inv hx; obtain rfl := avInt_inv hy
    obtain ⟨t, rfl⟩ := hu; obtain ⟨t', rfl⟩ := hv; exact P.isub_int (h.here ⟨_, rfl⟩)
  | _ => exact none_inv ho
theorem strsAre_of {vs : List Value} {l : List (List Nat)} (x : LR StrR vs l) : StrsAre vs (l.map fun s => ⟨s.toArray⟩) := by
  induction vs generalizing l with
  | nil =>
    cases l with
    | nil => exact .nil
    | cons _ _ => exact x.elim
  | cons v vs ih =>
    cases l with
    | nil => exact x.elim
    | cons a as =>
      obtain ⟨⟨_, t, rfl⟩, y⟩ := x
      exact .cons _ _ (ih y)
theorem any_str (l : List (List Nat)) (x : List Nat) : ((l.map fun s => (⟨s.toArray⟩ : Str)).any (· == ⟨x.toArray⟩)) = decide (x ∈ l) := by
  rw [Bool.eq_iff_iff, List.any_eq_true, decide_eq_true_eq]
  constructor
  · rintro ⟨y, hy, e⟩
    obtain ⟨z, hz, rfl⟩ := List.mem_map.mp hy
    have := beq_iff_eq.mp e
    rw [Str.mk.injEq] at this
    have : z = x := by simpa using congrArg Array.toList this
    exact this ▸ hz
  · intro hx
    exact ⟨_, List.mem_map.mpr ⟨x, hx, rfl⟩, beq_iff_eq.mpr rfl⟩
theorem beq_list (x y : List Nat) : ((⟨x.toArray⟩ : Str).cps.toList == (⟨y.toArray⟩ : Str).cps.toList) = decide (x = y) := by
  rw [Bool.eq_iff_iff, beq_iff_eq, decide_eq_true_eq]
theorem fold_ok {prog : Program} {w : World} : ∀ (xs : List Str) (k : Nat) (o : SO) (S : Str → Bool) (n : Nat), o.Ok w prog S n → (SO.fold w k xs o).Ok w prog (fun x => S x || decide (x ∈ xs)) (n + xs.length)
  | [], k, o, S, n, O => by
    have : (fun x => S x || decide (x ∈ ([] : List Str))) = S := by funext x; simp
    rw [this]; exact O
  | x :: xs, k, o, S, n, O => by
    have := fold_ok xs (k + 1) (o.add w x k) _ _ (O.add (x := x) (tk := k))
    rw [List.length_cons, Nat.add_comm xs.length, ← Nat.add_assoc]
    have e : (fun y => S y || decide (y ∈ x :: xs)) = fun y => (S y || decide (y = x)) || decide (y ∈ xs) := by
      funext y; simp [List.mem_cons, Bool.or_assoc]
    rw [e]; exact this
theorem gv_set (w : World) {h : Heap} (e : h.get? gvA = some (o_232 w)) : h.SetOf (strKind pw w) gvA (fun x => decide (x ∈ vows)) 11 := by
  have O := (fold_ok (prog := pw) vows 487 (SO.new w) _ _ (new_ok (w := w) (prog := pw))).unled
  have hs : ((SO.fold w 487 vows (SO.new w)).unled.es).size = 11 := O.size
  refine ⟨_, _, _, _, e, ⟨rfl, rfl, rfl⟩, rfl, O.el, fun k => ?_, by rw [hs]; decide, O.fits, hs⟩
  have := O.mem k
  simpa using this
theorem vows_mem (x : List Nat) : decide ((⟨x.toArray⟩ : Str) ∈ vows) = decide (x ∈ gvL) := by
  have e : vows = gvL.map fun s => (⟨s.toArray⟩ : Str) := by decide +kernel
  rw [e, ← any_str, Bool.eq_iff_iff, List.any_eq_true, decide_eq_true_eq]
  constructor
  · intro h; exact ⟨_, h, beq_iff_eq.mpr rfl⟩
  · rintro ⟨y, hy, q⟩; rw [beq_iff_eq] at q; exact q ▸ hy
theorem op_cmp {fs : List AV} {op : CmpOp} {t : Bool} (I : Inv g fs s.heap) (ho : opCmp op a b = some t) (hu : RelV g s.heap u a) (hv : RelV g s.heap v b) (h : ∀ k, Q (.bool t) { s with toks := k }) :
    wpAny (model pw g.w) A (compareOp op u v) Q E s := by
  have h0 : Q (.bool t) s := h s.toks
  cases op with
  | Lt =>
    obtain ⟨x, y, hx, hy, rfl⟩ := o2_inv (show o2 (fun x y => decide (x < y)) (avInt a) (avInt b) = some t from ho)
    obtain rfl := avInt_inv hx; obtain rfl := avInt_inv hy
    obtain ⟨t, rfl⟩ := hu; obtain ⟨t', rfl⟩ := hv; exact P.lt_int h0
  | LtE =>
    obtain ⟨x, y, hx, hy, rfl⟩ := o2_inv (show o2 (fun x y => decide (x ≤ y)) (avInt a) (avInt b) = some t from ho)
    obtain rfl := avInt_inv hx; obtain rfl := avInt_inv hy
    obtain ⟨t, rfl⟩ := hu; obtain ⟨t', rfl⟩ := hv; exact P.le_int h0
  | Gt =>
    obtain ⟨x, y, hx, hy, rfl⟩ := o2_inv (show o2 (fun x y => decide (y < x)) (avInt a) (avInt b) = some t from ho)
    obtain rfl := avInt_inv hx; obtain rfl := avInt_inv hy
    obtain ⟨t, rfl⟩ := hu; obtain ⟨t', rfl⟩ := hv; exact P.gt_int h0
  | GtE =>
    obtain ⟨x, y, hx, hy, rfl⟩ := o2_inv (show o2 (fun x y => decide (y ≤ x)) (avInt a) (avInt b) = some t from ho)
    obtain rfl := avInt_inv hx; obtain rfl := avInt_inv hy
    obtain ⟨t, rfl⟩ := hu; obtain ⟨t', rfl⟩ := hv; exact P.ge_int h0
  | Eq => cases a with
    | int x =>
      obtain ⟨y, hy, rfl⟩ := om_inv (show (avInt b).map (fun y => decide (x = y)) = some t from ho)
      obtain rfl := avInt_inv hy
      obtain ⟨t, rfl⟩ := hu; obtain ⟨t', rfl⟩ := hv; exact P.eq_int h0
    | str x =>
      obtain ⟨y, hy, rfl⟩ := om_inv (show (avStr b).map (fun y => decide (x = y)) = some t from ho)
      obtain rfl := avStr_inv hy
      obtain ⟨_, t, rfl⟩ := hu; obtain ⟨_, t', rfl⟩ := hv
      refine P.eq_str ?_
      rw [beq_list]; exact h0
    | _ => exact none_inv ho
  | NotEq => cases a with
    | int x =>
      obtain ⟨y, hy, rfl⟩ := om_inv (show (avInt b).map (fun y => decide (x ≠ y)) = some t from ho)
      obtain rfl := avInt_inv hy
      obtain ⟨t, rfl⟩ := hu; obtain ⟨t', rfl⟩ := hv
      refine P.ne_int ?_
      have : (x != y) = decide (x ≠ y) := by rw [Bool.eq_iff_iff, bne_iff_ne, decide_eq_true_eq]
      rw [this]; exact h0
    | str x =>
      obtain ⟨y, hy, rfl⟩ := om_inv (show (avStr b).map (fun y => decide (x ≠ y)) = some t from ho)
      obtain rfl := avStr_inv hy
      obtain ⟨_, t, rfl⟩ := hu; obtain ⟨_, t', rfl⟩ := hv
      refine P.ne_str ?_
      rw [bne, beq_list]
      simpa using h0
    | _ => exact none_inv ho
  | In =>
    obtain ⟨x, hx, ho⟩ := ob_inv (show (avStr a).bind (fun x => inTo x b) = some t from ho)
    obtain rfl := avStr_inv hx
    cases b with
    | «strs» l =>
      obtain ⟨_, t, rfl⟩ := hu; obtain ⟨l, vs, rfl, hl, r⟩ := hv; cases ho
      refine in_list_strs hl (strsAre_of r) ?_
      rw [any_str]; exact h0
    | gv =>
      obtain ⟨_, t, rfl⟩ := hu
      have hv : v = .ref gvA := hv
      subst hv; cases ho
      refine wpAny_inSet_of (knd := strKind pw g.w) (strKind_is pw g.w _ _) rfl (gv_set g.w (I.stay _ _ I.bok.gv)) ?_
      rw [vows_mem]; exact h _
    | _ => exact none_inv ho
  | NotIn =>
    obtain ⟨x, hx, ho⟩ := ob_inv (show (avStr a).bind (fun x => ninTo x b) = some t from ho)
    obtain rfl := avStr_inv hx
    cases b with
    | «strs» l =>
      obtain ⟨_, t, rfl⟩ := hu; obtain ⟨l, vs, rfl, hl, r⟩ := hv; cases ho
      refine notin_list_strs hl (strsAre_of r) ?_
      rw [any_str]; simpa using h0
    | gv =>
      obtain ⟨_, t, rfl⟩ := hu
      have hv : v = .ref gvA := hv
      subst hv; cases ho
      refine wpAny_notInSet_of (knd := strKind pw g.w) (strKind_is pw g.w _ _) rfl (gv_set g.w (I.stay _ _ I.bok.gv)) ?_
      rw [vows_mem]; simpa using h _
    | _ => exact none_inv ho
  | _ => exact none_inv ho
theorem len_int (n : Nat) (hn : n ≤ sizeLine) : ¬ ((n : Int) ≥ 2 ^ 63) := by rw [sizeLine_eq] at hn; omega
theorem op_len (ho : opLen a = some r) (hu : RelV g s.heap u a) (h : Res g s r Q) : wpAny (model pw g.w) A (call (.builtin "len") [u]) Q E s := by
  cases a with
  | str l =>
    obtain ⟨q, t, rfl⟩ := hu; cases ho
    refine P.len_str (by rw [str_len]; exact len_int _ (Nat.le_trans q lim_lt)) ?_
    rw [str_len]; exact h.here ⟨_, rfl⟩
  | «strs» x =>
    obtain ⟨l, vs, rfl, hi, q⟩ := hu
    rcases ite_inv (show (if x.length ≤ lim then some (AV.int x.length) else none) = some r from ho) with ⟨hl, ho⟩ | ⟨_, ho⟩
    · cases ho
      have e := q.len; rw [← List.size_toArray] at e
      refine Calls.call_len_list hi (by rw [e]; have := len_int _ (Nat.le_trans hl lim_lt); omega) ?_
      rw [e]; exact h.here ⟨_, rfl⟩
    · exact none_inv ho
  | tab x =>
    obtain ⟨l, vs, rfl, hi, q⟩ := hu
    rcases ite_inv (show (if x.length ≤ lim then some (AV.int x.length) else none) = some r from ho) with ⟨hl, ho⟩ | ⟨_, ho⟩
    · cases ho
      have e := q.len; rw [← List.size_toArray] at e
      refine Calls.call_len_list hi (by rw [e]; have := len_int _ (Nat.le_trans hl lim_lt); omega) ?_
      rw [e]; exact h.here ⟨_, rfl⟩
    · exact none_inv ho
  | _ => exact none_inv ho
theorem op_ord (ho : opOrd a = some r) (hu : RelV g s.heap u a) (h : Res g s r Q) : wpAny (model pw g.w) A (call (.builtin "ord") [u]) Q E s := by
  obtain ⟨l, hl, ho⟩ := ob_inv ho
  obtain ⟨c, hc, rfl⟩ := om_inv ho
  obtain rfl := avStr_inv hl
  obtain rfl := one1_inv hc
  obtain ⟨q, t, rfl⟩ := hu
  exact P.ord_of_char (h.here ⟨_, rfl⟩)
theorem op_min (hh : A.handled = none) (ho : opMin a b = some r) (hu : RelV g s.heap u a) (hv : RelV g s.heap v b) (h : Res g s r Q) : wpAny (model pw g.w) A (call (.builtin "min") [u, v]) Q E s := by
  obtain ⟨x, y, hx, hy, rfl⟩ := o2_inv ho
  obtain rfl := avInt_inv hx; obtain rfl := avInt_inv hy
  · obtain ⟨t, rfl⟩ := hu; obtain ⟨t', rfl⟩ := hv
    refine min_two_ints hh fun h' tk hk => h _ _ _ hk ?_
    split
    · exact ⟨_, by congr 1; omega⟩
    · exact ⟨_, by congr 1; omega⟩
theorem op_max (hh : A.handled = none) (ho : opMax a b = some r) (hu : RelV g s.heap u a) (hv : RelV g s.heap v b) (h : Res g s r Q) : wpAny (model pw g.w) A (call (.builtin "max") [u, v]) Q E s := by
  obtain ⟨x, y, hx, hy, rfl⟩ := o2_inv ho
  obtain rfl := avInt_inv hx; obtain rfl := avInt_inv hy
  · obtain ⟨t, rfl⟩ := hu; obtain ⟨t', rfl⟩ := hv
    refine max_two_ints hh fun h' tk hk => h _ _ _ hk ?_
    split
    · exact ⟨_, by congr 1; omega⟩
    · exact ⟨_, by congr 1; omega⟩
theorem ends_eq (x y : List Nat) : Txt.endswith ⟨x.toArray⟩ ⟨y.toArray⟩ = y.isSuffixOf x := by
  unfold Txt.endswith
  rw [StrLaws.subAt_eq]
  simp only [str_len]
  show (decide (0 + y.length ≤ x.length) && ((x.drop (x.length - y.length)).take y.length == y)) = _
  rw [Bool.eq_iff_iff, Bool.and_eq_true, decide_eq_true_eq, beq_iff_eq, List.isSuffixOf_iff_suffix]
  constructor
  · rintro ⟨h1, h2⟩
    rw [List.take_of_length_le (by rw [List.length_drop]; omega)] at h2
    refine ⟨x.take (x.length - y.length), ?_⟩
    have := List.take_append_drop (x.length - y.length) x
    rw [h2] at this
    exact this
  · rintro ⟨z, rfl⟩
    refine ⟨by simp, ?_⟩
    simp
theorem op_ends (ho : opEnds a b = some r) (hu : RelV g s.heap u a) (hv : RelV g s.heap v b) (h : Res g s r Q) : wpAny (model pw g.w) A (call (.builtin "str.endswith") [u, v]) Q E s := by
  obtain ⟨x, y, hx, hy, rfl⟩ := o2_inv ho
  obtain rfl := avStr_inv hx; obtain rfl := avStr_inv hy
  obtain ⟨q, t, rfl⟩ := hu; obtain ⟨q', t', rfl⟩ := hv
  refine SC.endswith ?_
  rw [ends_eq]
  exact h.here rfl
theorem op_neg (ho : opNeg a = some r) (hu : RelV g s.heap u a) (h : Res g s r Q) : wpAny (model pw g.w) A (unaryOp .USub u) Q E s := by
  obtain ⟨x, hx, rfl⟩ := om_inv ho
  obtain rfl := avInt_inv hx
  obtain ⟨t, rfl⟩ := hu
  exact P.neg_int (h.here ⟨_, rfl⟩)
theorem op_idx {value slice : Expr} (hn : ∀ o i, subscripted slice false o i = operate [o, i] (getItem o i)) (ho : opIdx a b = some r) (hu : RelV g s.heap u a) (hv : RelV g s.heap v b) (h : Res g s r Q) :
    wpAny (model pw g.w) A (subscriptTail value slice u v) Q E s := by
  obtain ⟨i, hi0, ho⟩ := ob_inv ho
  obtain rfl := avInt_inv hi0
  have fit : ∀ {i : Int} {n : Nat}, 0 ≤ i → i.toNat < n → n ≤ sizeLine → i < 2 ^ 63 := fun h0 h1 h2 => by rw [sizeLine_eq] at h2; omega
  cases a with
  | str l =>
    obtain ⟨q, t, rfl⟩ := hu; obtain ⟨t', rfl⟩ := hv
    rcases ite_inv (show (if 0 ≤ i then (l[i.toNat]?).map (fun c => AV.str [c]) else none) = some r from ho) with ⟨h0, ho⟩ | ⟨_, ho⟩
    · obtain ⟨c, hc, rfl⟩ := om_inv ho
      have hlt : i.toNat < l.length := (List.getElem?_eq_some_iff.mp hc).1
      have f := fit h0 hlt (Nat.le_trans q lim_lt)
      refine tail_any (typeIs_str _ _ _) F.slot_str_getitem.lookup (P.getItem_str (c := c) ?_ ?_ (h.here ⟨by show 1 ≤ lim; decide, _, rfl⟩)) (hn _ _)
      · rw [Bool.or_eq_false_iff]; exact ⟨decide_eq_false (by omega), decide_eq_false (by omega)⟩
      · rw [str_len]
        have : seqIndex? i l.length = some i.toNat := by
          unfold seqIndex?
          simp only [show ¬ (i < 0) from by omega, if_false]
          first | rw [if_pos (by omega)] | (simp; omega)
        rw [this, Option.bind_some]
        simpa using hc
    · exact none_inv ho
  | «strs» x =>
    obtain ⟨l, vs, rfl, hi, q⟩ := hu; obtain ⟨t', rfl⟩ := hv
    rcases ite_inv (show (if 0 ≤ i ∧ x.length ≤ lim then (x[i.toNat]?).map AV.str else none) = some r from ho) with ⟨h0, ho⟩ | ⟨_, ho⟩
    · obtain ⟨c, hc, rfl⟩ := om_inv ho
      have hlt := (List.getElem?_eq_some_iff.mp hc).1
      have f := fit h0.1 hlt (Nat.le_trans h0.2 lim_lt)
      obtain ⟨x, hx, rx⟩ := q.get hc
      exact tail_any hi.typeIs slot_list_getitem.lookup (wpAny_getItem_list hi h0.1 f (by simpa using hx) (h.here rx)) (hn _ _)
    · exact none_inv ho
  | tab x =>
    obtain ⟨l, vs, rfl, hi, q⟩ := hu; obtain ⟨t', rfl⟩ := hv
    rcases ite_inv (show (if 0 ≤ i ∧ x.length ≤ lim then (x[i.toNat]?).map AV.amg else none) = some r from ho) with ⟨h0, ho⟩ | ⟨_, ho⟩
    · obtain ⟨c, hc, rfl⟩ := om_inv ho
      have hlt := (List.getElem?_eq_some_iff.mp hc).1
      have f := fit h0.1 hlt (Nat.le_trans h0.2 lim_lt)
      obtain ⟨x, hx, rx⟩ := q.get hc
      exact tail_any hi.typeIs slot_list_getitem.lookup (wpAny_getItem_list hi h0.1 f (by simpa using hx) (h.here rx)) (hn _ _)
    · exact none_inv ho
  | rule x =>
    obtain ⟨t, x1, y, z, o, rfl, hg, hc, hd, r1, _⟩ := hu; obtain ⟨t', rfl⟩ := hv
    rcases ite_inv (show (if i = 0 then some (AV.strs x.ends) else none) = some r from ho) with ⟨e, ho⟩ | ⟨_, ho⟩
    · subst e; cases ho
      have it : IsTup s.heap t ([x1, y, z] : List Value).toArray := ⟨o, hg, hc, hd⟩
      exact tail_any it.typeIs slot_tuple_getitem.lookup (getItem_tuple it (by decide) (by decide) (j := 0) rfl rfl (h.here r1)) (hn _ _)
    · exact none_inv ho
  | _ => exact none_inv ho
end
end Sp
end
section
open PySem PySem.Builtin.Str PySem.W PySem.Calls PyProof.Rows
set_option maxRecDepth 100000
set_option maxHeartbeats 1000000
set_option linter.all false
namespace Sp
noncomputable def optOf : AV → Option Int
  | .int i => some i
  | _ => none
theorem part_of {g : G} {h : Heap} {v : Value} {a : AV} (r : RelV g h v a) (hp : a = .none ∨ ∃ i, a = .int i) : IsPart v (optOf a) ∧ ∃ l : Option (Int × Tok), v = partValue l ∧ l.map (·.1) = optOf a := by
  rcases hp with rfl | ⟨i, rfl⟩
  · have r : v = .none := r
    subst r; exact ⟨.none, none, rfl, rfl⟩
  · obtain ⟨t, rfl⟩ := r
    exact ⟨.int i t, some (i, t), rfl, rfl⟩
theorem picks' {α : Type} (l : List α) (a n : Nat) : ((List.range n).map (fun k => a + k)).filterMap (l[·]?) = (l.drop a).take n := by
  induction n with
  | zero => simp
  | succ n ih =>
    rw [List.range_succ, List.map_append, List.filterMap_append, ih, List.take_succ]
    simp [List.getElem?_drop]
    cases h : l[a + n]? <;> simp [h]
theorem sr_ar {x y : Nat} : ((if (x : Int) < y then ((y : Int) - x + 1 - 1) / 1 else 0) : Int).toNat = y - x := by
  rw [Int.ediv_one, Int.add_sub_cancel]
  by_cases z : (x : Int) < y
  · rw [if_pos z, Int.toNat_sub]
  · rw [if_neg z, Nat.sub_eq_zero_of_le (Int.ofNat_le.mp (Int.not_lt.mp z))]; rfl
theorem sr_eq (x y : Nat) : sliceRange x y 1 = (List.range (y - x)).map fun k => x + k := by
  unfold sliceRange
  have e : ((if (1 : Int) > 0 then (if (x : Int) < y then ((y : Int) - x + 1 - 1) / 1 else 0) else (if (x : Int) > y then ((x : Int) - y - 1 - 1) / (-1) else 0)) : Int).toNat = y - x := by
    rw [if_pos (by decide)]; exact sr_ar
  dsimp only
  rw [e]
  have f : (fun (k : Nat) => ((x : Int) + 1 * (k : Int)).toNat) = fun k => x + k := by funext k; rw [Int.one_mul]; rfl
  rw [f]
theorem range_pick {α : Type} (l : List α) (x y : Nat) (hx : x ≤ l.length) (hy : y ≤ l.length) : (sliceRange x y 1).filterMap (l[·]?) = (l.take y).drop x := by
  rw [sr_eq, picks', List.drop_take]
theorem clip_eq (i : Int) (n : Nat) (h : 0 ≤ i) : max 0 (min i (n : Int)) = ((min i.toNat n : Nat) : Int) := by
  obtain ⟨k, rfl⟩ := Int.eq_ofNat_of_zero_le h
  rw [Int.toNat_natCast]
  rcases Nat.le_total k n with q | q
  · rw [Nat.min_eq_left q, Int.min_eq_left (Int.ofNat_le.mpr q), Int.max_eq_right (Int.natCast_nonneg _)]
  · rw [Nat.min_eq_right q, Int.min_eq_right (Int.ofNat_le.mpr q), Int.max_eq_right (Int.natCast_nonneg _)]
theorem cut_le {α : Type} (l : List α) (x y : Nat) : ((l.take y).drop x).length ≤ l.length := by
  rw [List.length_drop, List.length_take]; exact Nat.le_trans (Nat.sub_le _ _) (Nat.min_le_right _ _)
theorem cut_full {α : Type} {l : List α} {x y : Nat} (h : ((l.take y).drop x).length = l.length) : (l.take y).drop x = l := ((List.drop_sublist _ _).trans (List.take_sublist _ _)).eq_of_length h
theorem lo_spec {b : AV} {x : Nat} (h : loOf b = some x) : (b = .none ∨ ∃ i, b = .int i) ∧ ∀ n : Nat, (match optOf b with | none => 0 | some i => max 0 (min (if i < 0 then i + n else i) (n : Int))) = ((min x n : Nat) : Int) := by
  unfold loOf at h
  split at h
  · cases h; exact ⟨.inl rfl, fun n => by simp [optOf]⟩
  · split at h
    · rename_i i q
      cases h
      refine ⟨.inr ⟨_, rfl⟩, fun n => ?_⟩
      simp only [optOf]
      rw [if_neg (by omega)]; exact clip_eq _ _ q.1
    · cases h
  · cases h
theorem hi_spec {b : AV} {n y : Nat} (h : hiOf n b = some y) : (b = .none ∨ ∃ i, b = .int i) ∧ (match optOf b with | none => (n : Int) | some i => max 0 (min (if i < 0 then i + n else i) (n : Int))) = ((min y n : Nat) : Int) := by
  unfold hiOf at h
  split at h
  · cases h; exact ⟨.inl rfl, by simp [optOf]⟩
  · split at h
    · rename_i i q
      cases h
      refine ⟨.inr ⟨_, rfl⟩, ?_⟩
      simp only [optOf]
      rw [if_neg (by omega)]; exact clip_eq _ _ q.1
    · cases h
  · cases h
theorem cut_eq {α : Type} (l : List α) (x y : Nat) : (l.take (min y l.length)).drop (min x l.length) = (l.take y).drop x := by
  have e1 : l.take (min y l.length) = l.take y := by
    rcases Nat.le_total y l.length with q | q
    · rw [Nat.min_eq_left q]
    · rw [Nat.min_eq_right q, List.take_of_length_le (Nat.le_refl _), List.take_of_length_le q]
  rw [e1]
  rcases Nat.le_total x l.length with q | q
  · rw [Nat.min_eq_left q]
  · rw [Nat.min_eq_right q, List.drop_of_length_le (by rw [List.length_take]; omega), List.drop_of_length_le (by rw [List.length_take]; omega)]
theorem str_idx {b c : AV} {n x y : Nat} (h1 : loOf b = some x) (h2 : hiOf n c = some y) : strSliceIndices (optOf b) (optOf c) 1 n = sliceRange (min x n : Nat) (min y n : Nat) 1 := by
  have e1 := (lo_spec h1).2 n
  have e2 := (hi_spec h2).2
  unfold strSliceIndices
  dsimp only
  simp only [show (1 : Int) > 0 from by decide, if_true]
  rw [← e1, ← e2]
  cases optOf b <;> cases optOf c <;> rfl
theorem list_idx {b c : AV} {n x y : Nat} (h1 : loOf b = some x) (h2 : hiOf n c = some y) : sliceBounds (optOf b) (optOf c) none n = (((min x n : Nat) : Int), ((min y n : Nat) : Int), 1) := by
  have e1 := (lo_spec h1).2 n
  have e2 := (hi_spec h2).2
  unfold sliceBounds
  dsimp only [Option.getD]
  simp only [show (1 : Int) > 0 from by decide, if_true]
  rw [← e1, ← e2]
  cases optOf b <;> cases optOf c <;> rfl
section
variable {g : G} {A : Around} {E : Value → Shared → Prop} {s : Shared} {Q : Value → Shared → Prop} {u v z : Value} {a b c r : AV}
theorem op_slice {value : Expr} {lo hi : Option Expr} {p : Pos} (ho : opSlice a b c = some r) (hu : RelV g s.heap u a) (hv : RelV g s.heap v b) (hz : RelV g s.heap z c) (h : Res g s r Q) :
    wpAny (model pw g.w) A (subscriptTail value (.Slice lo hi none p) u (.ref s.heap.objs.size)) Q E { s with heap := s.heap.push { cls := .type "slice", data := .fields #[v, z, .none] } } := by
  cases a with
  | str l =>
    have ho : ((loOf b).bind fun x => (hiOf l.length c).map fun y => AV.str ((l.take y).drop x)) = some r := ho
    obtain ⟨x, h1, ho⟩ := Option.bind_eq_some_iff.mp ho
    obtain ⟨y, h2, rfl⟩ := Option.map_eq_some_iff.mp ho
    obtain ⟨q, t, rfl⟩ := hu
    obtain ⟨_, lp, rfl, el⟩ := part_of hv (lo_spec h1).1
    obtain ⟨_, up, rfl, eu⟩ := part_of hz (hi_spec h2).1
    refine tail_any (typeIs_str _ _ _) F.slot_str_getitem.lookup (wpAny_getItem_str_slice (l := lp) (u := up) (st := none) ⟨_, Heap.get?_push_size _ rfl, rfl, rfl⟩ rfl ?_) rfl
    have pick : slicePicked ⟨l.toArray⟩ lp up none = sliceRange (min x l.length : Nat) (min y l.length : Nat) 1 := by
      unfold slicePicked
      rw [el, eu, str_len]
      exact str_idx h1 h2
    have val : (slicePicked ⟨l.toArray⟩ lp up none).filterMap ((⟨l.toArray⟩ : Str).cps[·]?) = (l.take y).drop x := by
      rw [pick]
      have : (fun (i : Nat) => (⟨l.toArray⟩ : Str).cps[i]?) = fun (i : Nat) => l[i]? := by funext i; simp
      rw [this, range_pick l _ _ (Nat.min_le_right _ _) (Nat.min_le_right _ _), cut_eq]
    have len : (slicePicked ⟨l.toArray⟩ lp up none).length = ((l.take y).drop x).length := by
      rw [pick, ← cut_eq, sr_eq, List.length_map, List.length_range, List.length_drop, List.length_take, Nat.min_eq_left (Nat.min_le_right _ _)]
    have kp : ∀ b o, s.heap.get? b = some o → (s.heap.push { cls := .type "slice", data := .fields #[partValue lp, partValue up, .none] }).get? b = some o := fun _ _ e => Heap.get?_push_of_some _ e
    have hlen : ((l.take y).drop x).length ≤ lim := Nat.le_trans (cut_le l x y) q
    unfold sliceMade
    split
    · rename_i hc
      have hl : ((l.take y).drop x).length = l.length := by
        have := (Bool.and_eq_true_iff.mp hc).2
        rw [beq_iff_eq, len, str_len] at this
        exact this
      have e := cut_full hl
      exact h _ _ _ kp ⟨hlen, t, by rw [e]⟩
    · rw [val]
      exact ⟨Nat.le_trans (by rw [str_len]; exact hlen) lim_lt, h _ _ _ kp ⟨hlen, _, rfl⟩⟩
  | «ints» l =>
    have ho : ((loOf b).bind fun x => (hiOf l.length c).map fun y => AV.ints ((l.take y).drop x)) = some r := ho
    obtain ⟨x, h1, ho⟩ := Option.bind_eq_some_iff.mp ho
    obtain ⟨y, h2, rfl⟩ := Option.map_eq_some_iff.mp ho
    obtain ⟨la, vs, rfl, hl, rr, hlen⟩ := hu
    obtain ⟨p1, _⟩ := part_of hv (lo_spec h1).1
    obtain ⟨p2, _⟩ := part_of hz (hi_spec h2).1
    have hl' := hl.push { cls := .type "slice", data := .fields #[v, z, .none] }
    have hn : vs.toArray.size = l.length := by rw [List.size_toArray]; exact rr.len
    refine tail_any hl'.typeIs slot_list_getitem.lookup (wpAny_getItem_list_slice hl' (Heap.IsSliceOf.new ..) p1 p2 .none (by simp) ?_ (by rw [hn]; exact Nat.le_trans hlen lim_lt)) rfl
    have val : slicePick vs.toArray (optOf b) (optOf c) none = ((vs.take y).drop x).toArray := by
      unfold slicePick
      rw [hn, list_idx h1 h2]
      have : (fun (i : Nat) => vs.toArray[i]?) = fun (i : Nat) => vs[i]? := by funext i; simp
      dsimp only
      rw [this, ← rr.len, range_pick vs _ _ (Nat.min_le_right _ _) (Nat.min_le_right _ _), cut_eq]
    rw [val]
    refine h _ _ s.toks (fun _ _ e => Heap.get?_push_of_some _ (Heap.get?_push_of_some _ e)) ⟨_, _, rfl, ⟨_, Heap.get?_push_size _ rfl, rfl, _, rfl⟩, (rr.take y).drop x, ?_⟩
    exact Nat.le_trans (cut_le l x y) hlen
  | _ => exact none_inv ho
end
end Sp
end
section
open PySem PySem.Builtin.Str PySem.W PySem.Calls PyProof.Rows
set_option maxRecDepth 100000
set_option maxHeartbeats 1000000
set_option linter.all false
namespace Sp
/-- a call with these arguments ends well -/
noncomputable def CallOK (g : G) (d f : Nat) (args fs : List AV) (Q : AV → List AV → Prop) : Prop :=
  ∀ (A : Around) (s : Shared) (R : Result → Shared → Prop) (vs : List Value) (outer : List Env), A.handled = none → A.frames = some outer → A.depth + d ≤ 900 → A.units + 20 * d ≤ 9000 →
    Frs g s.heap s.heap.objs.size outer → Inv g fs s.heap → LR (RelV g s.heap) vs args →
    (∀ v s' av fs', Sm s s' → Kp g s.heap.objs.size s.heap s'.heap → RelV g s'.heap v av → Inv g fs' s'.heap → Q av fs' → R (.ok (.ret v)) s') →
    codeAny (model pw g.w) A (.call (.ref (fnAddr f)) ⟨vs, []⟩) R s
/-- where a walk stands -/
structure Here (A : Around) (nm : Str) (sc : Scope) (L fa : Addr) (cd : Value) (outer : List Env) (d : Nat) : Prop where
  hh : A.handled = none
  fr : A.frames = some (envOf nm sc L fa cd :: outer)
  dp : A.depth + d ≤ 900
  un : A.units + 20 * d ≤ 9000
  hk : sc.kind = .function
  dbg : sc.names.lookup ("__debug__" : Str) = none
  nod : (sc.names.map (·.1)).Nodup
noncomputable abbrev vars (sc : Scope) : List Str := sc.names.map (·.1)
/-- what a piece of the walk ends in -/
noncomputable def Po {α : Type} (g : G) (L : Addr) (sc : Scope) (s : Shared) (R : α → Heap → S → Prop) (a : α) (s' : Shared) : Prop :=
  Sm s s' ∧ Kp g L s.heap s'.heap ∧ ∃ σ', Rep g L (vars sc) σ' s'.heap ∧ R a s'.heap σ'
noncomputable def RE (g : G) (Q : AV → S → Prop) (v : Value) (h : Heap) (σ : S) : Prop := ∃ av, RelV g h v av ∧ Q av σ
noncomputable def RA (g : G) (Q : List AV → S → Prop) (v : List Value) (h : Heap) (σ : S) : Prop := ∃ av, LR (RelV g h) v av ∧ Q av σ
noncomputable def RT (Q : Bool → S → Prop) (v : Bool) (_ : Heap) (σ : S) : Prop := Q v σ
section
variable {g : G} {L : Addr} {sc : Scope} {A : Around} {E : Value → Shared → Prop} {s s₁ : Shared} {α β : Type} {R R1 R2 : α → Heap → S → Prop} {R' : β → Heap → S → Prop} {outer : List Env}
theorem Po.then {t : Sem β} {a : α} (p : Po g L sc s R a s₁) (F : Frs g s.heap L outer)
    (h : ∀ σ, Rep g L (vars sc) σ s₁.heap → Frs g s₁.heap L outer → Kp g L s.heap s₁.heap → R a s₁.heap σ → wpAny (model pw g.w) A t (Po g L sc s₁ R') E s₁) : wpAny (model pw g.w) A t (Po g L sc s R') E s₁ := by
  obtain ⟨sm, kp, σ, rep, r⟩ := p
  refine wpAny_mono (h σ rep (F.kp (Nat.le_refl _) kp) kp r) (fun b s₂ q => ?_) fun _ _ x => x
  obtain ⟨sm', kp', σ', rep', r'⟩ := q
  exact ⟨sm.trans sm', kp.trans kp', σ', rep', r'⟩
theorem Po.map {b : β} {a : α} (p : Po g L sc s R a s₁) (h : ∀ σ, Rep g L (vars sc) σ s₁.heap → R a s₁.heap σ → Po g L sc s₁ R' b s₂) : Po g L sc s R' b s₂ := by
  obtain ⟨sm, kp, σ, rep, r⟩ := p
  obtain ⟨sm', kp', σ', rep', r'⟩ := h σ rep r
  exact ⟨sm.trans sm', kp.trans kp', σ', rep', r'⟩
theorem Po.here {σ : S} {a : α} (rep : Rep g L (vars sc) σ s.heap) (r : R a s.heap σ) : Po g L sc s R a s := ⟨.refl _, .refl _, σ, rep, r⟩
theorem Po.same {b : β} {a : α} {k : Nat} (p : Po g L sc s R a s₁) (h : ∀ σ, Rep g L (vars sc) σ s₁.heap → R a s₁.heap σ → R' b s₁.heap σ) : Po g L sc s R' b { s₁ with toks := k } := by
  obtain ⟨sm, kp, σ, rep, r⟩ := p
  exact ⟨⟨sm.1, sm.2.1, sm.2.2⟩, kp, σ, rep, h σ rep r⟩
end
theorem Rep.keep {g : G} {L : Addr} {V : List Str} {σ : S} {h h' : Heap} (R : Rep g L V σ h) (k : ∀ b o, h.get? b = some o → h'.get? b = some o) : Rep g L V σ h' := by
  have kp : Kp g L h h' := .ofKeeps k
  obtain ⟨m, n, r⟩ := R.ns
  obtain ⟨es, n0, a, b⟩ := R.inv.dict
  refine ⟨⟨m, n.keeps k, fun i x av h1 h2 => ?_⟩, R.len, R.inv.kp kp ((k _ _ a).trans a.symm), R.nL, R.Ld⟩
  obtain ⟨v, e, rv⟩ := r i x av h1 h2
  exact ⟨v, e, rv.kp kp⟩
theorem res_po {g : G} {L : Addr} {sc : Scope} {s : Shared} {σ : S} {r : AV} {Q : AV → S → Prop} (rep : Rep g L (vars sc) σ s.heap) (q : Q r σ) : Res g s r (Po g L sc s (RE g Q)) := fun v h' k kp rv =>
  ⟨.of s h' k, .ofKeeps kp, σ, rep.keep kp, r, rv, q⟩
theorem strIdx_at {x : Str} : ∀ {l : List Str} {n i : Nat}, strIdx x l n = some i → n ≤ i ∧ l[i - n]? = some x
  | [], n, i, h => by cases h
  | y :: r, n, i, h => by
    unfold strIdx at h
    split at h
    · rename_i e; cases h; subst e; simp
    · obtain ⟨a, b⟩ := strIdx_at h
      refine ⟨by omega, ?_⟩
      rw [show i - n = (i - (n + 1)) + 1 by omega]
      exact b
theorem strIdx_get {x : Str} {l : List Str} {i : Nat} (h : strIdx x l 0 = some i) : l[i]? = some x := (strIdx_at h).2
theorem isLoc_of {sc : Scope} {x : Str} {i : Nat} (h : isLoc sc x = some i) : sc.names.lookup x = some .local ∧ (vars sc)[i]? = some x := by
  unfold isLoc at h
  split at h
  · rename_i e; exact ⟨e, strIdx_get h⟩
  · cases h
theorem isGlob_of {sc : Scope} {x : Str} (h : isGlob sc x = true) : sc.names.lookup x = some .globalImplicit ∧ (x == ("__debug__" : Str)) = false := by
  unfold isGlob at h
  split at h
  · rename_i e
    simp only [Bool.and_eq_true, Bool.not_eq_true', decide_eq_false_iff_not] at h
    exact ⟨e, by rw [beq_eq_false_iff_ne]; exact h.1⟩
  · cases h
theorem starEach_of {sc : Scope} {n : Nat} {x : Expr} {c : CE} (h : cE sc n x = some c) (r : List Expr) (env : Env) : starEach (x :: r) env = (false, eval x env) :: starEach r env := by
  cases x <;> first | rfl | (cases n <;> cases h)
section
variable {g : G} {L fa : Addr} {nm : Str} {sc : Scope} {cd : Value} {A : Around} {E : Value → Shared → Prop} {s : Shared} {outer : List Env} {d : Nat} {σ : S}
theorem Here.nbg (H : Here A nm sc L fa cd outer d) {x : Str} (h : sc.names.lookup x = some .local) : (x == ("__debug__" : Str)) = false := by
  rw [beq_eq_false_iff_ne]
  rintro rfl
  rw [H.dbg] at h; cases h
theorem var_get (H : Here A nm sc L fa cd outer d) (rep : Rep g L (vars sc) σ s.heap) {x : Str} {i : Nat} {v : AV} {pos : Pos} {Q : Value → Shared → Prop} (hx : isLoc sc x = some i) (hv : σ.get i = some v) (h : ∀ u, RelV g s.heap u v → Q u s) :
    wpAny (model pw g.w) A (eval (.Name x pos) (envOf nm sc L fa cd)) Q E s := by
  obtain ⟨h1, h2⟩ := isLoc_of hx
  obtain ⟨m, n, r⟩ := rep.ns
  obtain ⟨u, hu, rv⟩ := r i x v h2 hv
  exact wpAny_Name (wpAny_loadName_local H.hk h1 n hu (h u rv)) (H.nbg h1)
theorem glob_get (H : Here A nm sc L fa cd outer d) (rep : Rep g L (vars sc) σ s.heap) {x : Str} {k : Nat} {v : AV} {pos : Pos} {Q : Value → Shared → Prop} (hx : isGlob sc x = true) (hk : strIdx x gnames 0 = some k) (hv : tabs.glob k = some v) (h : ∀ u, RelV g s.heap u v → Q u s) :
    wpAny (model pw g.w) A (eval (.Name x pos) (envOf nm sc L fa cd)) Q E s := by
  obtain ⟨h1, h2⟩ := isGlob_of hx
  obtain ⟨u, hu, rv⟩ := glob_rel rep.inv (strIdx_get hk) hv
  exact gname rep.inv.K hu (h u rv) H.hk h1 h2
end
theorem bi_len (P : Params) : nsIn (kL P) mainGlobals "len" = some none ∧ nsIn (kL P) builtinsNs "len" = some (some (.builtin "len")) := ⟨by kernel_rfl, by kernel_rfl⟩
theorem bi_ord (P : Params) : nsIn (kL P) mainGlobals "ord" = some none ∧ nsIn (kL P) builtinsNs "ord" = some (some (.builtin "ord")) := ⟨by kernel_rfl, by kernel_rfl⟩
theorem bi_min (P : Params) : nsIn (kL P) mainGlobals "min" = some none ∧ nsIn (kL P) builtinsNs "min" = some (some (.builtin "min")) := ⟨by kernel_rfl, by kernel_rfl⟩
theorem bi_max (P : Params) : nsIn (kL P) mainGlobals "max" = some none ∧ nsIn (kL P) builtinsNs "max" = some (some (.builtin "max")) := ⟨by kernel_rfl, by kernel_rfl⟩
theorem bi_range (P : Params) : nsIn (kL P) mainGlobals "range" = some none ∧ nsIn (kL P) builtinsNs "range" = some (some (.type "range")) := ⟨by kernel_rfl, by kernel_rfl⟩
end Sp
end
section
open PySem PySem.Builtin.Str PySem.W PySem.Calls PyProof.Rows
set_option maxRecDepth 100000
set_option maxHeartbeats 1000000
set_option linter.all false
namespace Sp
theorem Kp.call {g : G} {L N : Addr} {h h' : Heap} (k : Kp g N h h') (hN : h.objs.size ≤ N) : Kp g L h h' :=
  ⟨⟨k.low, k.solid, fun b o es n _ q e d => k.dict b o es n (Nat.ne_of_lt (Nat.lt_of_lt_of_le (Heap.lt_size e) hN)) q e d⟩, k.fld⟩
theorem Rep.call {g : G} {L N : Addr} {V : List Str} {σ : S} {h h' : Heap} {fs : List AV} (R : Rep g L V σ h) (k : Kp g N h h') (hN : h.objs.size ≤ N) (I : Inv g fs h') : Rep g L V ⟨σ.loc, fs⟩ h' := by
  obtain ⟨m, ⟨o, es, ep, ho, hd, hr⟩, r⟩ := R.ns
  obtain ⟨sl, e⟩ := k.dict L o es ep (Nat.ne_of_lt (Nat.lt_of_lt_of_le (Heap.lt_size ho) hN)) R.Ld ho hd
  refine ⟨⟨m, ⟨_, es, ep, e, hd, hr⟩, fun i x av h1 h2 => ?_⟩, R.len, I, R.nL, R.Ld⟩
  obtain ⟨v, e, rv⟩ := r i x av h1 h2
  exact ⟨v, e, rv.kp k⟩
section
variable {g : G} {L fa : Addr} {nm : Str} {sc : Scope} {cd : Value} {A : Around} {E : Value → Shared → Prop} {s : Shared} {outer : List Env} {d : Nat} {σ : S}
theorem Here.frs (H : Here A nm sc L fa cd outer d) (rep : Rep g L (vars sc) σ s.heap) (F : Frs g s.heap L outer) : Frs g s.heap s.heap.objs.size (envOf nm sc L fa cd :: outer) := by
  obtain ⟨m, ⟨o, es, ep, ho, hd, hr⟩, r⟩ := rep.ns
  intro env he
  rcases List.mem_cons.mp he with rfl | he
  · exact ⟨by show sc.kind ≠ _; rw [H.hk]; decide, L, o, es, ep, rfl, rep.nL, Heap.lt_size ho, rep.Ld, ho, hd⟩
  · exact F.mono (Nat.le_of_lt (Heap.lt_size ho)) env he
theorem call_po {f : Nat} {args : List AV} {vs : List Value} {Q : AV → S → Prop} (H : Here A nm sc L fa cd outer d) (rep : Rep g L (vars sc) σ s.heap) (F : Frs g s.heap L outer)
    (ok : CallOK g d f args σ.fs (fun v fs => Q v ⟨σ.loc, fs⟩)) (hv : LR (RelV g s.heap) vs args) : wpAny (model pw g.w) A (call (.ref (fnAddr f)) vs) (Po g L sc s (RE g Q)) E s := by
  refine wpAny_call (ok A s _ vs _ H.hh H.fr H.dp H.un (H.frs rep F) rep.inv hv ?_)
  intro v s' av fs' sm kp rv I q
  exact ⟨sm, kp.call (Nat.le_refl _), _, rep.call kp (Nat.le_refl _) I, av, rv, q⟩
end
theorem evalArgs_all {M : Model} {A : Around} {E : Value → Shared → Prop} {s : Shared} {f : Value} {Q : Args → Shared → Prop} : ∀ {l : List (Bool × Sem Value)}, l.any (·.1) = false → wpAny M A (spliced l) (fun vs s' => Q ⟨vs, []⟩ s') E s → wpAny M A (evalArgs f true l []) Q E s
  | [], _, h => by
    unfold evalArgs
    show wpAny M A (spliced [] >>= _) Q E s
    refine wpAny_bind (wpAny_mono h (fun vs s' h' => ?_) fun _ _ x => x)
    refine wpAny_bind (wpAny_pure (wpAny_holding ?_))
    exact wpAny_bind (wpAny_pure (wpAny_bind (wpAny_pure (wpAny_pure h'))))
  | (false, x) :: r, _, h => evalArgs_plain h
  | (true, x) :: r, e, _ => by cases e
theorem funs_fn {P : Params} {f : Str} {k : Nat} (h : strIdx f funNames 0 = some k) : nsIn (kL P) mainGlobals f = some (some (.ref (fnAddr (funOff + k)))) ∧ keepIn (kL P) (.ref (fnAddr (funOff + k))) = true := by
  obtain ⟨a, ha, hm⟩ := fun_at (funs_ok P) (strIdx_get h)
  have e : fnAddr (funOff + k) = a := by
    unfold fnAddr funOff
    rw [if_neg (by omega), show 100 + k - 100 = k by omega, List.getD_eq_getElem?_getD, ha]; rfl
  rw [e]; exact okFun_of hm
theorem meths_fn {P : Params} {f : Str} {k : Nat} (h : strIdx f methNames 0 = some k) : keepIn (kL P) (.ref (fnAddr k)) = true := by
  obtain ⟨a, ha, hm⟩ := meth_at (meths_ok P) (strIdx_get h)
  have hlt : k < 23 := (List.getElem?_eq_some_iff.mp (strIdx_get h)).1
  have e : fnAddr k = a := by
    unfold fnAddr
    rw [if_pos (by omega), List.getD_eq_getElem?_getD, ha]; rfl
  rw [e]; exact (okMeth_of hm).2.2.2
theorem amf_ok {P : Params} {x : Str} {k : Nat} (h : strIdx x amNames 0 = some k) : ∃ attr, findIn (kL P) (.ref 220) x = some attr ∧ noGet (kL P) attr = true := by
  have h := List.all_eq_true.mp (am_facts P).2.2 x (List.mem_of_getElem? (strIdx_get h))
  split at h
  · rename_i attr e; exact ⟨attr, e, h⟩
  · cases h
section
variable {g : G} {A : Around} {E : Value → Shared → Prop} {s : Shared} {fs : List AV} {u : Value} {a r : AV} {Q : Value → Shared → Prop}
theorem amf_read {x : Str} {k : Nat} {expr : Bool} (I : Inv g fs s.heap) (hk : strIdx x amNames 0 = some k) (ho : opAmf a k = some r) (hu : RelV g s.heap u a) (h : Res g s r Q) :
    wpAny (model pw g.w) A (getAttr u x expr) Q E s := by
  have go : ∀ (b d : Addr) (es : List DictEntry) (n : Nat) (v : Value), s.heap.get? b = some (instObj 220 d) → s.heap.get? d = some (dictOf es n) → getL x es = some (some v) → handedIn v = true → RelV g s.heap v r → wpAny (model pw g.w) A (getAttr (.ref b) x expr) Q E s := by
    intro b d es n v h1 h2 h3 h4 h5
    obtain ⟨attr, e1, e2⟩ := amf_ok (P := g.P) hk
    have J : W.InstAt s.heap b (instObj 220 d) 220 (some (dictOf es n)) := ⟨h1, rfl, rfl, h2⟩
    exact get_value I.K J (ga_of (am_facts g.P).1) (findObj_own (am_facts g.P).2.1 e1 e2 (by rw [lookIn_dict]; exact h3)) h4 (h.here h5)
  have hx := strIdx_get hk
  cases a with
  | amg en =>
    obtain ⟨b, d, es, n, v1, v2, v3, rfl, hb, hd, x1, x2, g1, g2, g3, r1, r2, r3⟩ := hu
    match k, ho, hx with
    | 0, ho, hx =>
      cases ho; cases hx
      exact go b d es n v1 x1 x2 g1 (relV_handed (g := g) (h := s.heap) (a := .str _) r1) r1
    | 1, ho, hx =>
      cases ho; cases hx
      exact go b d es n v2 x1 x2 g2 (relV_handed (g := g) (h := s.heap) (a := .int _) r2) r2
    | 2, ho, hx =>
      cases ho; cases hx
      exact go b d es n v3 x1 x2 g3 (relV_handed (g := g) (h := s.heap) (a := .int _) r3) r3
    | k + 3, ho, hx => exact none_inv ho
  | _ => exact none_inv ho
theorem tab_read {x : Str} {k : Nat} {expr : Bool} (I : Inv g fs s.heap) (hk : strIdx x tabNames 0 = some k) (ho : tabs.tab k = some r) (h : Res g s r Q) :
    wpAny (model pw g.w) A (getAttr (.ref clsA) x expr) Q E s := by
  obtain ⟨a, ha, hf⟩ := okTabs_at (tabNs_ok g.w) (strIdx_get hk)
  obtain ⟨b, hb, rb⟩ := tab_rel I ho
  rw [ha] at hb; cases hb
  exact cls_value I.KC (cls_reads g.w) hf rfl (h.here rb)
end
section
variable {g : G} {L fa : Addr} {nm : Str} {sc : Scope} {cd : Value} {A : Around} {E : Value → Shared → Prop} {outer : List Env} {d : Nat} {C : Nat → List AV → List AV → (AV → List AV → Prop) → Prop}
noncomputable abbrev EOK (g : G) (L fa : Addr) (nm : Str) (sc : Scope) (cd : Value) (A : Around) (E : Value → Shared → Prop) (outer : List Env) (C : Nat → List AV → List AV → (AV → List AV → Prop) → Prop) (n : Nat) : Prop :=
  ∀ e c, cE sc n e = some c → ∀ (Q : AV → S → Prop) (σ : S) (s : Shared), Rep g L (vars sc) σ s.heap → Frs g s.heap L outer → wE tabs C c Q σ →
    wpAny (model pw g.w) A (eval e (envOf nm sc L fa cd)) (Po g L sc s (RE g Q)) E s
noncomputable abbrev TOK (g : G) (L fa : Addr) (nm : Str) (sc : Scope) (cd : Value) (A : Around) (E : Value → Shared → Prop) (outer : List Env) (C : Nat → List AV → List AV → (AV → List AV → Prop) → Prop) (n : Nat) : Prop :=
  ∀ e c, cE sc n e = some c → ∀ (Q : Bool → S → Prop) (σ : S) (s : Shared), Rep g L (vars sc) σ s.heap → Frs g s.heap L outer → wT tabs C c Q σ →
    wpAny (model pw g.w) A (isTrue e (envOf nm sc L fa cd) (eval e (envOf nm sc L fa cd))) (Po g L sc s (RT Q)) E s
theorem args_ok {n : Nat} {pos : Pos} (ih : EOK g L fa nm sc cd A E outer C n) : ∀ args c, cArgs (cE sc n) args = some c → ∀ (Q : List AV → S → Prop) (σ : S) (s : Shared), Rep g L (vars sc) σ s.heap → Frs g s.heap L outer → wA tabs C c Q σ →
    wpAny (model pw g.w) A (spliced (backTo pos (starEach args (envOf nm sc L fa cd)))) (Po g L sc s (RA g Q)) E s
  | [], c, hc, Q, σ, s, rep, F, w => by
    cases hc
    exact spliced_nil (.here rep ⟨[], trivial, w⟩)
  | x :: r, c, hc, Q, σ, s, rep, F, w => by
    obtain ⟨a, b, h1, h2, rfl⟩ := o2_inv hc
    rw [starEach_of h1]
    refine spliced_cons ?_
    refine wpAny_mono (ih x a h1 _ σ s rep F w) (fun v s₁ p => p.then F fun σ₁ rep₁ F₁ k₁ ⟨av, rv, w₁⟩ => ?_) fun _ _ x => x
    refine wpAny_mono (args_ok ih r b h2 _ σ₁ s₁ rep₁ F₁ w₁) (fun vs s₂ p₂ => ?_) fun _ _ x => x
    obtain ⟨sm, kp, σ₂, rep₂, avs, rvs, q⟩ := p₂
    exact ⟨sm, kp, σ₂, rep₂, _, (show LR (RelV g _) (_ :: _) (_ :: _) from ⟨rv.kp kp, rvs⟩), q⟩
theorem args_plain {n : Nat} {pos : Pos} {env : Env} : ∀ {args c}, cArgs (cE sc n) args = some c → (backTo pos (starEach args env)).any (·.1) = false ∧ (backTo pos (starEach args env)).all (!·.1) = true ∧ args.all (fun _ => true) = true
  | [], c, hc => ⟨rfl, rfl, rfl⟩
  | x :: r, c, hc => by
    obtain ⟨a, b, h1, h2, rfl⟩ := o2_inv hc
    · rw [starEach_of h1]
      obtain ⟨q1, q2, _⟩ := args_plain (pos := pos) (env := env) h2
      exact ⟨by show (false || (backTo pos (starEach r env)).any (·.1)) = false; rw [q1]; rfl, by show (true && (backTo pos (starEach r env)).all (!·.1)) = true; rw [q2]; rfl, by simp⟩
end
end Sp
end
section
open PySem PySem.Builtin.Str PySem.W PySem.Calls PyProof.Rows
set_option maxRecDepth 100000
set_option maxHeartbeats 1000000
set_option linter.all false
namespace Sp
section
variable {g : G} {L fa : Addr} {nm : Str} {sc : Scope} {cd : Value} {A : Around} {E : Value → Shared → Prop} {outer : List Env} {d : Nat} {C : Nat → List AV → List AV → (AV → List AV → Prop) → Prop} {n : Nat}
  {s : Shared} {σ : S} {Q : AV → S → Prop}
/-- one piece, then the rest -/
theorem one {α : Type} {e : Expr} {c : CE} {K : AV → S → Prop} {R' : α → Heap → S → Prop} {k : Value → Sem α} (ih : (EOK g L fa nm sc cd A E outer C) n) (hc : cE sc n e = some c) (rep : Rep g L (vars sc) σ s.heap) (F : Frs g s.heap L outer) (w : wE tabs C c K σ)
    (h : ∀ v s₁ σ₁ av, Rep g L (vars sc) σ₁ s₁.heap → Frs g s₁.heap L outer → Kp g L s.heap s₁.heap → RelV g s₁.heap v av → K av σ₁ → wpAny (model pw g.w) A (k v) (Po g L sc s₁ R') E s₁) :
    wpAny (model pw g.w) A (eval e (envOf nm sc L fa cd)) (fun v s₁ => wpAny (model pw g.w) A (k v) (Po g L sc s R') E s₁) E s :=
  wpAny_mono (ih e c hc K σ s rep F w) (fun v s₁ p => p.then F fun σ₁ rep₁ F₁ k₁ ⟨av, rv, w₁⟩ => h v s₁ σ₁ av rep₁ F₁ k₁ rv w₁) fun _ _ x => x
/-- two pieces, then the rest -/
theorem two {α : Type} {e e' : Expr} {c c' : CE} {K : AV → AV → S → Prop} {R' : α → Heap → S → Prop} {k : Value → Value → Sem α} (ih : (EOK g L fa nm sc cd A E outer C) n) (hc : cE sc n e = some c) (hc' : cE sc n e' = some c') (rep : Rep g L (vars sc) σ s.heap) (F : Frs g s.heap L outer)
    (w : wE tabs C c (fun x σ => wE tabs C c' (fun y σ => K x y σ) σ) σ)
    (h : ∀ u v s₁ σ₁ a b, Rep g L (vars sc) σ₁ s₁.heap → Frs g s₁.heap L outer → RelV g s₁.heap u a → RelV g s₁.heap v b → K a b σ₁ → wpAny (model pw g.w) A (k u v) (Po g L sc s₁ R') E s₁) :
    wpAny (model pw g.w) A (eval e (envOf nm sc L fa cd)) (fun u s₁ => wpAny (model pw g.w) A (eval e' (envOf nm sc L fa cd)) (fun v s₂ => wpAny (model pw g.w) A (k u v) (Po g L sc s R') E s₂) E s₁) E s :=
  wpAny_mono (ih e c hc _ σ s rep F w) (fun u s₁ p => by
    obtain ⟨sm, kp, σ₁, rep₁, a, ru, w₁⟩ := p
    have F₁ := F.kp (Nat.le_refl _) kp
    refine wpAny_mono (ih e' c' hc' _ σ₁ s₁ rep₁ F₁ w₁) (fun v s₂ p₂ => ?_) fun _ _ x => x
    obtain ⟨sm₂, kp₂, σ₂, rep₂, b, rv, w₂⟩ := p₂
    refine wpAny_mono (h u v s₂ σ₂ a b rep₂ (F₁.kp (Nat.le_refl _) kp₂) (ru.kp kp₂) rv w₂) (fun r s₃ p₃ => ?_) fun _ _ x => x
    obtain ⟨sm₃, kp₃, σ₃, rep₃, q⟩ := p₃
    exact ⟨(sm.trans sm₂).trans sm₃, (kp.trans kp₂).trans kp₃, σ₃, rep₃, q⟩) fun _ _ x => x
theorem e_bin {l r : Expr} {op : Operator} {p : Pos} {a b : CE} (ih : (EOK g L fa nm sc cd A E outer C) n) (h1 : cE sc n l = some a) (h2 : cE sc n r = some b) (rep : Rep g L (vars sc) σ s.heap) (F : Frs g s.heap L outer) (w : wE tabs C (.bin op a b) Q σ) :
    wpAny (model pw g.w) A (eval (.BinOp l op r p) (envOf nm sc L fa cd)) (Po g L sc s (RE g Q)) E s := by
  refine wpAny_BinOp (two ih h1 h2 rep F w fun u v s₁ σ₁ a b rep₁ F₁ ru rv w₁ => ?_)
  obtain ⟨r, ho, q⟩ := w₁
  exact op_bin ho ru rv (res_po rep₁ q)
theorem cmp_marks {e : Expr} {b : CE} {op : CmpOp} (h2 : cE sc n e = some b) : behindInMarks op e = false := by
  cases e <;> first | rfl | (cases n <;> cases h2)
theorem e_cmp {l r : Expr} {op : CmpOp} {p : Pos} {a b : CE} (ih : (EOK g L fa nm sc cd A E outer C) n) (h1 : cE sc n l = some a) (h2 : cE sc n r = some b) (rep : Rep g L (vars sc) σ s.heap) (F : Frs g s.heap L outer) (w : wE tabs C (.cmp op a b) Q σ) :
    wpAny (model pw g.w) A (eval (.Compare l [op] [r] p) (envOf nm sc L fa cd)) (Po g L sc s (RE g Q)) E s := by
  refine wpAny_Compare1 (two ih h1 h2 rep F w fun u v s₁ σ₁ a b rep₁ F₁ ru rv w₁ => ?_) (cmp_marks h2)
  obtain ⟨r, ho, q⟩ := w₁
  exact op_cmp rep₁.inv ho ru rv fun k => ⟨.of s₁ s₁.heap k, .refl _, σ₁, rep₁, .bool r, rfl, q⟩
theorem t_cmp {l r : Expr} {op : CmpOp} {p : Pos} {a b : CE} {whole : Sem Value} {Q : Bool → S → Prop} (ih : (EOK g L fa nm sc cd A E outer C) n) (h1 : cE sc n l = some a) (h2 : cE sc n r = some b) (rep : Rep g L (vars sc) σ s.heap) (F : Frs g s.heap L outer) (w : wT tabs C (.cmp op a b) Q σ) :
    wpAny (model pw g.w) A (isTrue (.Compare l [op] [r] p) (envOf nm sc L fa cd) whole) (Po g L sc s (RT Q)) E s := by
  refine wpAny_isTrue_Compare1 (wpAny_mono (two (R' := RE g fun av σ => ∃ t, av = .bool t ∧ Q t σ) (k := fun u v => compareOp op u v) ih h1 h2 rep F w fun u v s₁ σ₁ a b rep₁ F₁ ru rv w₁ => ?_) (fun u s₁ h₁ => wpAny_mono h₁ (fun v s₂ h₂ => wpAny_mono h₂ (fun c s₃ p => ?_) fun _ _ x => x) fun _ _ x => x) fun _ _ x => x) (cmp_marks h2)
  · obtain ⟨r, ho, q⟩ := w₁
    exact op_cmp rep₁.inv ho ru rv fun k => ⟨.of s₁ s₁.heap k, .refl _, σ₁, rep₁, .bool r, rfl, r, rfl, q⟩
  · obtain ⟨sm, kp, σ₁, rep₁, av, rv, t, rfl, q⟩ := p
    have e : c = .bool t := rv
    subst e
    exact wpAny_truthy_bool ⟨sm, kp, σ₁, rep₁, q⟩
theorem e_neg {x : Expr} {p : Pos} {a : CE} (ih : (EOK g L fa nm sc cd A E outer C) n) (h1 : cE sc n x = some a) (rep : Rep g L (vars sc) σ s.heap) (F : Frs g s.heap L outer) (w : wE tabs C (.neg a) Q σ) :
    wpAny (model pw g.w) A (eval (.UnaryOp .USub x p) (envOf nm sc L fa cd)) (Po g L sc s (RE g Q)) E s := by
  refine wpAny_UnaryOp (one ih h1 rep F w fun v s₁ σ₁ av rep₁ F₁ k₁ rv w₁ => ?_)
  obtain ⟨r, ho, q⟩ := w₁
  exact op_neg ho rv (res_po rep₁ q)
theorem e_ite {t x y : Expr} {p : Pos} {c a b : CE} (ih : (EOK g L fa nm sc cd A E outer C) n) (it : (TOK g L fa nm sc cd A E outer C) n) (h0 : cE sc n t = some c) (h1 : cE sc n x = some a) (h2 : cE sc n y = some b) (rep : Rep g L (vars sc) σ s.heap) (F : Frs g s.heap L outer) (w : wE tabs C (.ite c a b) Q σ) :
    wpAny (model pw g.w) A (eval (.IfExp t x y p) (envOf nm sc L fa cd)) (Po g L sc s (RE g Q)) E s := by
  refine wpAny_IfExp (wpAny_mono (it t c h0 _ σ s rep F w) (fun b s₁ p => ?_) fun _ _ x => x)
  cases b
  · exact p.then F fun σ₁ rep₁ F₁ k₁ w₁ => ih y _ h2 Q σ₁ s₁ rep₁ F₁ (w₁.2 rfl)
  · exact p.then F fun σ₁ rep₁ F₁ k₁ w₁ => ih x _ h1 Q σ₁ s₁ rep₁ F₁ (w₁.1 rfl)
theorem sL_str (x : Str) : (⟨(sL x).toArray⟩ : Str) = x := by cases x; simp [sL]
theorem sL_len (x : Str) : (sL x).length = x.cps.size := by simp [sL]
theorem strs_list {pos : Pos} : ∀ (es : List Expr) (l : List (List Nat)), strsC es = some l → (∀ x ∈ l, x.length ≤ lim) → ∀ (s : Shared) (Q : List Value → Shared → Prop), (∀ vs k, LR StrR vs l → Q vs { s with toks := k }) →
    wpAny (model pw g.w) A (spliced (backTo pos (starEach es (envOf nm sc L fa cd)))) Q E s
  | [], l, hc, hl, s, Q, h => by cases hc; exact spliced_nil (h [] s.toks trivial)
  | e :: r, l, hc, hl, s, Q, h => by
    obtain ⟨x', h1, hc⟩ := ob_inv hc
    obtain ⟨l', h', rfl⟩ := om_inv hc
    obtain ⟨x, kd, cp, rfl, rfl⟩ := strC_inv h1
    refine spliced_cons (Constant_str (k := kd) (pos := cp) ?_)
    refine strs_list r l' h' (fun y hy => hl y (List.mem_cons_of_mem _ hy)) _ _ fun vs k q => h _ k ⟨⟨hl _ List.mem_cons_self, s.toks, by rw [sL_str]⟩, q⟩
theorem e_lst {es : List Expr} {p : Pos} {l : List (List Nat)} (h1 : strsC es = some l) (rep : Rep g L (vars sc) σ s.heap) (w : wE tabs C (.lst l) Q σ) :
    wpAny (model pw g.w) A (eval (.List es p) (envOf nm sc L fa cd)) (Po g L sc s (RE g Q)) E s := by
  refine wpAny_List (strs_list es l h1 w.1.2 s _ fun vs k q => ⟨Nat.le_trans (q.len ▸ w.1.1) lim_lt, ?_⟩)
  have kp : ∀ b o, s.heap.get? b = some o → (s.heap.push { cls := .type "list", data := .seq vs.toArray }).get? b = some o := fun _ _ e => Heap.get?_push_of_some _ e
  exact ⟨.of s _ k, .ofKeeps kp, σ, rep.keep kp, .strs l, ⟨_, vs, rfl, ⟨_, Heap.get?_push_size _ rfl, rfl, _, rfl⟩, q⟩, w.2⟩
theorem part_ok {o : Option Expr} {c : CE} (ih : (EOK g L fa nm sc cd A E outer C) n) (h : cPart (cE sc n) o = some c) (rep : Rep g L (vars sc) σ s.heap) (F : Frs g s.heap L outer) (w : wE tabs C c Q σ) :
    wpAny (model pw g.w) A (evalPart o (envOf nm sc L fa cd)) (Po g L sc s (RE g Q)) E s := by
  cases o with
  | none =>
    cases h
    exact wpAny_evalPart_none (.here rep ⟨.none, rfl, w⟩)
  | some x => exact wpAny_evalPart_some (ih x c h Q σ s rep F w)
theorem e_slice {v : Expr} {lo hi : Option Expr} {sp p : Pos} {a b c : CE} (ih : (EOK g L fa nm sc cd A E outer C) n) (h1 : cE sc n v = some a) (h2 : cPart (cE sc n) lo = some b) (h3 : cPart (cE sc n) hi = some c)
    (rep : Rep g L (vars sc) σ s.heap) (F : Frs g s.heap L outer) (w : wE tabs C (.slice a b c) Q σ) :
    wpAny (model pw g.w) A (eval (.Subscript v (.Slice lo hi none sp) p) (envOf nm sc L fa cd)) (Po g L sc s (RE g Q)) E s := by
  refine Subscript_ (wpAny_mono (ih v a h1 _ σ s rep F w) (fun u s₁ p₁ => ?_) fun _ _ x => x)
  obtain ⟨sm₁, kp₁, σ₁, rep₁, av, ru, w₁⟩ := p₁
  have F₁ := F.kp (Nat.le_refl _) kp₁
  refine wpAny_Slice (wpAny_mono (part_ok ih h2 rep₁ F₁ w₁) (fun x s₂ p₂ => ?_) fun _ _ x => x)
  obtain ⟨sm₂, kp₂, σ₂, rep₂, bv, rx, w₂⟩ := p₂
  have F₂ := F₁.kp (Nat.le_refl _) kp₂
  refine wpAny_mono (part_ok ih h3 rep₂ F₂ w₂) (fun y s₃ p₃ => wpAny_evalPart_none ?_) fun _ _ x => x
  obtain ⟨sm₃, kp₃, σ₃, rep₃, cv, ry, r, ho, q⟩ := p₃
  refine wpAny_mono (op_slice ho ((ru.kp kp₂).kp kp₃) (rx.kp kp₃) ry (res_po rep₃ q)) (fun r s₄ p₄ => ?_) fun _ _ x => x
  obtain ⟨sm₄, kp₄, q⟩ := p₄
  exact ⟨((sm₁.trans sm₂).trans sm₃).trans sm₄, ((kp₁.trans kp₂).trans kp₃).trans kp₄, q⟩
theorem e_idx {v i : Expr} {p : Pos} {a b : CE} (ih : (EOK g L fa nm sc cd A E outer C) n) (h1 : cE sc n v = some a) (h2 : cE sc n i = some b) (rep : Rep g L (vars sc) σ s.heap) (F : Frs g s.heap L outer) (w : wE tabs C (.idx a b) Q σ) :
    wpAny (model pw g.w) A (eval (.Subscript v i p) (envOf nm sc L fa cd)) (Po g L sc s (RE g Q)) E s := by
  refine Subscript_ (two (k := fun u j => subscriptTail v i u j) ih h1 h2 rep F w fun u j s₁ σ₁ a b rep₁ F₁ ru rv w₁ => ?_)
  obtain ⟨r, ho, q⟩ := w₁
  refine op_idx ?_ ho ru rv (res_po rep₁ q)
  intro o k
  cases i <;> first | rfl | (cases n <;> cases h2)
theorem e_fun {f : Str} {fp p : Pos} {args : List Expr} {k : Nat} {a : CE} (H : Here A nm sc L fa cd outer d) (hC : ∀ f args fs Q, C f args fs Q → CallOK g d f args fs Q) (ih : (EOK g L fa nm sc cd A E outer C) n) (hg : isGlob sc f = true) (hk : strIdx f funNames 0 = some k)
    (h1 : cArgs (cE sc n) args = some a) (rep : Rep g L (vars sc) σ s.heap) (F : Frs g s.heap L outer) (w : wE tabs C (.call (funOff + k) a) Q σ) :
    wpAny (model pw g.w) A (eval (.Call (.Name f fp) args [] p) (envOf nm sc L fa cd)) (Po g L sc s (RE g Q)) E s := by
  obtain ⟨g1, g2⟩ := isGlob_of hg
  obtain ⟨f1, f2⟩ := funs_fn (P := g.P) hk
  refine wpAny_Call_NameR (gname rep.inv.K f1 ?_ H.hk g1 g2)
  refine callWith_of (P := fun h => (kL g.P).In h) (by rw [(args_plain h1).1]; rfl) (keeps_K f2) (evalArgs_all (args_plain h1).1 ?_)
  refine wpAny_mono (args_ok ih args a h1 _ σ s rep F w) (fun vs s₁ p => ?_) fun _ _ x => x
  refine ⟨by obtain ⟨_, _, σ₁, rep₁, _⟩ := p; exact rep₁.inv.K, ?_⟩
  refine p.then F fun σ₁ rep₁ F₁ k₁ ⟨avs, rvs, w₁⟩ => ?_
  exact call_po H rep₁ F₁ (hC _ _ _ _ w₁) rvs
theorem e_bi {f : Str} {id : String} {fp p : Pos} {args : List Expr} {a : CE} {K : List AV → S → Prop} (H : Here A nm sc L fa cd outer d) (ih : (EOK g L fa nm sc cd A E outer C) n) (hg : isGlob sc f = true) (hf : nsIn (kL g.P) mainGlobals f = some none ∧ nsIn (kL g.P) builtinsNs f = some (some (.builtin id)))
    (h1 : cArgs (cE sc n) args = some a) (rep : Rep g L (vars sc) σ s.heap) (F : Frs g s.heap L outer) (w : wA tabs C a K σ)
    (h : ∀ vs avs s₁ σ₁, Rep g L (vars sc) σ₁ s₁.heap → LR (RelV g s₁.heap) vs avs → K avs σ₁ → wpAny (model pw g.w) A (call (.builtin id) vs) (Po g L sc s₁ (RE g Q)) E s₁) :
    wpAny (model pw g.w) A (eval (.Call (.Name f fp) args [] p) (envOf nm sc L fa cd)) (Po g L sc s (RE g Q)) E s := by
  obtain ⟨g1, g2⟩ := isGlob_of hg
  refine wpAny_Call_NameR (bname rep.inv.K hf.1 hf.2 ?_ H.hk g1 g2)
  refine callWith_builtin (args_plain h1).1 (evalArgs_all (args_plain h1).1 ?_)
  refine wpAny_mono (args_ok ih args a h1 _ σ s rep F w) (fun vs s₁ p => ?_) fun _ _ x => x
  exact p.then F fun σ₁ rep₁ F₁ k₁ ⟨avs, rvs, w₁⟩ => h vs avs s₁ σ₁ rep₁ rvs w₁
theorem form_few {m : Nat} {args : List (Bool × Sem Value)} (h : args.all (!·.1) = true) (hm : m < 29) : methodCallForm m args [] = true := by
  unfold methodCallForm
  rw [h]
  simp
  omega
theorem e_meth {y x : Str} {np ap p : Pos} {args : List Expr} {k i : Nat} {a : CE} (H : Here A nm sc L fa cd outer d) (hC : ∀ f args fs Q, C f args fs Q → CallOK g d f args fs Q) (ih : (EOK g L fa nm sc cd A E outer C) n) (hp : (ap.endLine == p.line) = true) (hn : args.length < 29) (hi : isLoc sc y = some i) (hk : strIdx x methNames 0 = some k)
    (h1 : cArgs (cE sc n) args = some a) (rep : Rep g L (vars sc) σ s.heap) (F : Frs g s.heap L outer) (w : wE tabs C (.meth i k a) Q σ) :
    wpAny (model pw g.w) A (eval (.Call (.Attribute (.Name y np) x ap) args [] p) (envOf nm sc L fa cd)) (Po g L sc s (RE g Q)) E s := by
  obtain ⟨hv, w⟩ := w
  rw [arm_eval_Call]
  have e1 : attributeBase (.Name y np) x (envOf nm sc L fa cd) (eval (.Name y np) (envOf nm sc L fa cd)) = eval (.Name y np) (envOf nm sc L fa cd) := rfl
  rw [e1]
  refine wpAny_bind (var_get H rep hi hv fun u ru => wpAny_bind (wpAny_standAt ?_))
  have ru : u = .ref g.x := ru
  subst ru
  have e2 : (backToKw p (keywordEach [] (envOf nm sc L fa cd))) = [] := rfl
  rw [e2]
  have e3 := form_few (m := args.length + ([] : List Keyword).length) (args_plain (pos := p) (env := (envOf nm sc L fa cd)) h1).2.1 hn
  unfold methodCall calleeOf methodCallPos
  rw [e3]
  simp only [hp, Bool.not_true, Bool.false_or, if_true]
  refine wpAny_bind (wpAny_holding (meth_read rep.inv (strIdx_get hk) (wpAny_bind (wpAny_pure ?_))))
  refine callWith_of (P := fun h => (kL g.P).In h) (by rw [(args_plain h1).1]; rfl) (keeps_K (meths_fn hk)) (evalArgs_all (args_plain h1).1 ?_)
  refine wpAny_mono (args_ok ih args a h1 _ σ s rep F w) (fun vs s₁ p => ?_) fun _ _ x => x
  refine ⟨by obtain ⟨_, _, σ₁, rep₁, _⟩ := p; exact rep₁.inv.K, ?_⟩
  refine p.then F fun σ₁ rep₁ F₁ k₁ ⟨avs, rvs, w₁⟩ => ?_
  exact call_po H rep₁ F₁ (hC _ _ _ _ w₁) (vs := .ref g.x :: vs) ⟨rfl, rvs⟩
theorem e_ends {o y : Expr} {ap p : Pos} {a b : CE} (ih : (EOK g L fa nm sc cd A E outer C) n) (ho : okBase o = true) (hp : (ap.endLine == p.line) = true) (h1 : cE sc n o = some a) (h2 : cE sc n y = some b) (rep : Rep g L (vars sc) σ s.heap) (F : Frs g s.heap L outer)
    (w : wE tabs C (.endsw a b) Q σ) : wpAny (model pw g.w) A (eval (.Call (.Attribute o "endswith" ap) [y] [] p) (envOf nm sc L fa cd)) (Po g L sc s (RE g Q)) E s := by
  rw [arm_eval_Call]
  have e1 : attributeBase o "endswith" (envOf nm sc L fa cd) (eval o (envOf nm sc L fa cd)) = eval o (envOf nm sc L fa cd) := by cases o <;> first | rfl | cases ho
  rw [e1]
  refine wpAny_bind (wpAny_mono (ih o a h1 _ σ s rep F w) (fun u s₁ p₁ => wpAny_bind (wpAny_standAt ?_)) fun _ _ x => x)
  obtain ⟨sm, kp, σ₁, rep₁, av, ru, l, rfl, w₁⟩ := p₁
  have F₁ := F.kp (Nat.le_refl _) kp
  obtain ⟨hl, t, rfl⟩ := ru
  have e2 : (backToKw p (keywordEach [] (envOf nm sc L fa cd))) = [] := rfl
  rw [e2]
  have h1' : cArgs (cE sc n) [y] = some (.cons b .nil) := by show o2 CE.cons (cE sc n y) (some .nil) = _; rw [h2]; rfl
  have e3 := form_few (m := [y].length + ([] : List Keyword).length) (args_plain (pos := p) (env := (envOf nm sc L fa cd)) h1').2.1 (by simp)
  unfold methodCall calleeOf methodCallPos
  rw [e3]
  simp only [hp, Bool.not_true, Bool.false_or, if_true]
  refine wpAny_bind (wpAny_holding (GM.endswith (wpAny_bind (wpAny_pure ?_))))
  refine callWith_builtin (args_plain h1').1 (evalArgs_all (args_plain h1').1 ?_)
  rw [starEach_of h2]
  refine spliced_cons (wpAny_mono (ih y b h2 _ σ₁ s₁ rep₁ F₁ w₁) (fun v s₂ p₂ => spliced_nil ?_) fun _ _ x => x)
  obtain ⟨sm₂, kp₂, σ₂, rep₂, bv, rv, r, ho, q⟩ := p₂
  refine wpAny_mono (op_ends (s := s₂) (u := .str ⟨l.toArray⟩ t) ho ⟨hl, t, rfl⟩ rv (res_po rep₂ q)) (fun r s₃ p₃ => ?_) fun _ _ x => x
  obtain ⟨sm₃, kp₃, q⟩ := p₃
  exact ⟨(sm.trans sm₂).trans sm₃, (kp.trans kp₂).trans kp₃, q⟩
end
end Sp
end
section
open PySem PySem.Builtin.Str PySem.W PySem.Calls PyProof.Rows
set_option maxRecDepth 100000
set_option maxHeartbeats 2000000
set_option linter.all false
namespace Sp
section
variable {g : G} {L fa : Addr} {nm : Str} {sc : Scope} {cd : Value} {A : Around} {E : Value → Shared → Prop} {outer : List Env} {d : Nat} {C : Nat → List AV → List AV → (AV → List AV → Prop) → Prop} {n : Nat}
  {s : Shared} {σ : S} {Q : AV → S → Prop}
theorem t_val {e : Expr} {c : CE} {Q : Bool → S → Prop} (ih : (EOK g L fa nm sc cd A E outer C) n) (hc : cE sc n e = some c) (he : isTrue e (envOf nm sc L fa cd) (eval e (envOf nm sc L fa cd)) = (do let v ← eval e (envOf nm sc L fa cd); standAt e.pos; holding [v] (truthy v))) (rep : Rep g L (vars sc) σ s.heap) (F : Frs g s.heap L outer)
    (w : wE tabs C c (fun av σ => ∃ t, av = .bool t ∧ Q t σ) σ) : wpAny (model pw g.w) A (isTrue e (envOf nm sc L fa cd) (eval e (envOf nm sc L fa cd))) (Po g L sc s (RT Q)) E s := by
  refine wpAny_isTrue_value (wpAny_mono (ih e c hc _ σ s rep F w) (fun v s₁ p => ?_) fun _ _ x => x) he
  obtain ⟨sm, kp, σ₁, rep₁, av, rv, t, rfl, q⟩ := p
  have e : v = .bool t := rv
  subst e
  exact wpAny_truthy_bool ⟨sm, kp, σ₁, rep₁, q⟩
theorem args1 {f : Expr → Option CE} {x : Expr} {a : CE} (h : f x = some a) : cArgs f [x] = some (.cons a .nil) := by show o2 CE.cons (f x) (some .nil) = _; rw [h]; rfl
theorem args2 {f : Expr → Option CE} {x y : Expr} {a b : CE} (h : f x = some a) (h' : f y = some b) : cArgs f [x, y] = some (.cons a (.cons b .nil)) := by
  show o2 CE.cons (f x) (cArgs f [y]) = _; rw [h, args1 h']; rfl
theorem e_bi1 {f : Str} {id : String} {fp p : Pos} {x : Expr} {a : CE} {K : AV → S → Prop} (H : Here A nm sc L fa cd outer d) (ih : (EOK g L fa nm sc cd A E outer C) n) (hg : isGlob sc f = true) (hf : nsIn (kL g.P) mainGlobals f = some none ∧ nsIn (kL g.P) builtinsNs f = some (some (.builtin id)))
    (h1 : cE sc n x = some a) (rep : Rep g L (vars sc) σ s.heap) (F : Frs g s.heap L outer) (w : wE tabs C a K σ)
    (h : ∀ v av s₁ σ₁, Rep g L (vars sc) σ₁ s₁.heap → RelV g s₁.heap v av → K av σ₁ → wpAny (model pw g.w) A (call (.builtin id) [v]) (Po g L sc s₁ (RE g Q)) E s₁) :
    wpAny (model pw g.w) A (eval (.Call (.Name f fp) [x] [] p) (envOf nm sc L fa cd)) (Po g L sc s (RE g Q)) E s := by
  obtain ⟨g1, g2⟩ := isGlob_of hg
  refine wpAny_Call_NameR (bname rep.inv.K hf.1 hf.2 ?_ H.hk g1 g2)
  refine callWith_builtin (args_plain (args1 h1)).1 (evalArgs_all (args_plain (args1 h1)).1 ?_)
  rw [starEach_of h1]
  refine spliced_cons (wpAny_mono (ih x a h1 _ σ s rep F w) (fun v s₂ p₂ => spliced_nil ?_) fun _ _ x => x)
  exact p₂.then F fun σ₁ rep₁ F₁ k₁ ⟨av, rv, w₁⟩ => h v av s₂ σ₁ rep₁ rv w₁
theorem e_bi2 {f : Str} {id : String} {fp p : Pos} {x y : Expr} {a b : CE} {K : AV → AV → S → Prop} (H : Here A nm sc L fa cd outer d) (ih : (EOK g L fa nm sc cd A E outer C) n) (hg : isGlob sc f = true) (hf : nsIn (kL g.P) mainGlobals f = some none ∧ nsIn (kL g.P) builtinsNs f = some (some (.builtin id)))
    (h1 : cE sc n x = some a) (h2 : cE sc n y = some b) (rep : Rep g L (vars sc) σ s.heap) (F : Frs g s.heap L outer) (w : wE tabs C a (fun x σ => wE tabs C b (fun y σ => K x y σ) σ) σ)
    (h : ∀ u v a b s₁ σ₁, Rep g L (vars sc) σ₁ s₁.heap → RelV g s₁.heap u a → RelV g s₁.heap v b → K a b σ₁ → wpAny (model pw g.w) A (call (.builtin id) [u, v]) (Po g L sc s₁ (RE g Q)) E s₁) :
    wpAny (model pw g.w) A (eval (.Call (.Name f fp) [x, y] [] p) (envOf nm sc L fa cd)) (Po g L sc s (RE g Q)) E s := by
  obtain ⟨g1, g2⟩ := isGlob_of hg
  refine wpAny_Call_NameR (bname rep.inv.K hf.1 hf.2 ?_ H.hk g1 g2)
  refine callWith_builtin (args_plain (args2 h1 h2)).1 (evalArgs_all (args_plain (args2 h1 h2)).1 ?_)
  rw [starEach_of h1]
  refine spliced_cons ?_
  rw [starEach_of h2]
  refine wpAny_mono (ih x a h1 _ σ s rep F w) (fun u s₁ p₁ => ?_) fun _ _ x => x
  obtain ⟨sm₁, kp₁, σ₁, rep₁, av, ru, w₁⟩ := p₁
  have F₁ := F.kp (Nat.le_refl _) kp₁
  refine spliced_cons (wpAny_mono (ih y b h2 _ σ₁ s₁ rep₁ F₁ w₁) (fun v s₂ p₂ => spliced_nil ?_) fun _ _ x => x)
  obtain ⟨sm₂, kp₂, σ₂, rep₂, bv, rv, w₂⟩ := p₂
  refine wpAny_mono (h u v av bv s₂ σ₂ rep₂ (ru.kp kp₂) rv w₂) (fun r s₃ p₃ => ?_) fun _ _ x => x
  obtain ⟨sm₃, kp₃, q⟩ := p₃
  exact ⟨(sm₁.trans sm₂).trans sm₃, (kp₁.trans kp₂).trans kp₃, q⟩
theorem t_not {x : Expr} {p : Pos} {a : CE} {whole : Sem Value} {Q : Bool → S → Prop} (it : (TOK g L fa nm sc cd A E outer C) n) (h1 : cE sc n x = some a) (rep : Rep g L (vars sc) σ s.heap) (F : Frs g s.heap L outer) (w : wT tabs C (.not a) Q σ) :
    wpAny (model pw g.w) A (isTrue (.UnaryOp .Not x p) (envOf nm sc L fa cd) whole) (Po g L sc s (RT Q)) E s := by
  exact wpAny_isTrue_Not (it x a h1 _ σ s rep F w)
theorem t_and {x y : Expr} {r : List Expr} {p : Pos} {a b : CE} {whole : Sem Value} {Q : Bool → S → Prop} (it : (TOK g L fa nm sc cd A E outer C) n) (h1 : cE sc n x = some a) (h2 : cRest (cE sc n) .And y p r = some b)
    (rep : Rep g L (vars sc) σ s.heap) (F : Frs g s.heap L outer) (w : wT tabs C (.and a b) Q σ) :
    wpAny (model pw g.w) A (isTrue (.BoolOp .And (x :: y :: r) p) (envOf nm sc L fa cd) whole) (Po g L sc s (RT Q)) E s := by
  refine wpAny_isTrue_BoolOp (wpAny_allTrue_And_cons (wpAny_mono (it x a h1 _ σ s rep F w) (fun t s₁ p₁ => ?_) fun _ _ x => x))
  cases t
  · exact p₁.map fun σ₁ rep₁ w₁ => .here rep₁ (w₁.2 rfl)
  · refine p₁.then F fun σ₁ rep₁ F₁ k₁ w₁ => ?_
    cases r with
    | nil =>
      refine wpAny_allTrue_And_cons (wpAny_mono (it y b h2 _ σ₁ s₁ rep₁ F₁ (w₁.1 rfl)) (fun t s₂ p₂ => ?_) fun _ _ x => x)
      cases t
      · exact p₂
      · exact wpAny_allTrue_And_nil p₂
    | cons z r =>
      have q := it (.BoolOp .And (y :: z :: r) p) b h2 _ σ₁ s₁ rep₁ F₁ (w₁.1 rfl)
      rw [arm_isTrue_BoolOp] at q
      exact q
theorem t_or {x y : Expr} {r : List Expr} {p : Pos} {a b : CE} {whole : Sem Value} {Q : Bool → S → Prop} (it : (TOK g L fa nm sc cd A E outer C) n) (h1 : cE sc n x = some a) (h2 : cRest (cE sc n) .Or y p r = some b)
    (rep : Rep g L (vars sc) σ s.heap) (F : Frs g s.heap L outer) (w : wT tabs C (.or a b) Q σ) :
    wpAny (model pw g.w) A (isTrue (.BoolOp .Or (x :: y :: r) p) (envOf nm sc L fa cd) whole) (Po g L sc s (RT Q)) E s := by
  refine wpAny_isTrue_BoolOp (wpAny_allTrue_Or_cons (wpAny_mono (it x a h1 _ σ s rep F w) (fun t s₁ p₁ => ?_) fun _ _ x => x))
  cases t
  · refine p₁.then F fun σ₁ rep₁ F₁ k₁ w₁ => ?_
    cases r with
    | nil =>
      refine wpAny_allTrue_Or_cons (wpAny_mono (it y b h2 _ σ₁ s₁ rep₁ F₁ (w₁.2 rfl)) (fun t s₂ p₂ => ?_) fun _ _ x => x)
      cases t
      · exact wpAny_allTrue_Or_nil p₂
      · exact p₂
    | cons z r =>
      have q := it (.BoolOp .Or (y :: z :: r) p) b h2 _ σ₁ s₁ rep₁ F₁ (w₁.2 rfl)
      rw [arm_isTrue_BoolOp] at q
      exact q
  · exact p₁.map fun σ₁ rep₁ w₁ => .here rep₁ (w₁.1 rfl)
theorem eo (H : Here A nm sc L fa cd outer d) (hC : ∀ f args fs Q, C f args fs Q → CallOK g d f args fs Q) (ih : (EOK g L fa nm sc cd A E outer C) n) (it : (TOK g L fa nm sc cd A E outer C) n) : (EOK g L fa nm sc cd A E outer C) (n + 1) := by
  intro e c hc Q σ s rep F w
  cases e with
  | Name x p =>
    rcases cName_inv hc with ⟨i, hi, rfl⟩ | ⟨hg, k, hk, rfl⟩
    · obtain ⟨v, hv, q⟩ := w
      exact var_get H rep hi hv fun u ru => .here rep ⟨v, ru, q⟩
    · obtain ⟨v, hv, q⟩ := w
      exact glob_get H rep hg hk hv fun u ru => .here rep ⟨v, ru, q⟩
  | Constant k0 k p => cases k0 with
    | none => cases hc; exact wpAny_pure (.here rep ⟨.none, rfl, w⟩)
    | bool b => cases hc; exact wpAny_pure (.here rep ⟨.bool _, rfl, w⟩)
    | int i => cases hc; exact wpAny_Constant_int ⟨.of s s.heap _, .refl _, σ, rep, .int _, ⟨_, rfl⟩, w⟩
    | str x =>
      rcases ite_inv (show (if x.cps.size ≤ lim then some (CE.str (sL x)) else none) = some c from hc) with ⟨hz, hc⟩ | ⟨_, hc⟩
      · cases hc
        exact Constant_str ⟨.of s s.heap _, .refl _, σ, rep, .str _, ⟨by rw [sL_len]; exact hz, _, by rw [sL_str]⟩, w.2⟩
      · exact none_inv hc
    | _ => exact none_inv hc
  | Attribute o x p =>
    obtain ⟨y, h1, hc⟩ := ob_inv hc
    obtain ⟨yp, rfl⟩ := nameOf_inv h1
    rcases cAttr_inv hc with ⟨rfl, hg, k, hk, rfl⟩ | ⟨i, hi, ⟨f, hf, rfl⟩ | ⟨k, hk, rfl⟩⟩
    · obtain ⟨g1, g2⟩ := isGlob_of hg
      obtain ⟨v, hv, q⟩ := w
      exact Attribute_name (gname rep.inv.K (stem_name g.P) (tab_read rep.inv hk hv (res_po rep q)) H.hk g1 g2)
    · obtain ⟨v, hv, r, ho, q⟩ := w
      refine Attribute_name (var_get H rep hi hv fun u ru => ?_)
      cases v with
      | self =>
        have ru : u = .ref g.x := ru
        subst ru
        exact fld_read rep.inv (strIdx_get hf) ho fun v rv => ⟨.of s s.heap _, .refl _, σ, rep, r, rv, q⟩
      | _ => exact none_inv ho
    · obtain ⟨v, hv, r, ho, q⟩ := w
      exact Attribute_name (var_get H rep hi hv fun u ru => amf_read rep.inv hk ho ru (res_po rep q))
  | BinOp l op r p =>
    obtain ⟨a, b, h1, h2, rfl⟩ := o2_inv hc
    exact e_bin ih h1 h2 rep F w
  | Compare l ops rs p =>
    obtain ⟨op, h1, hc⟩ := ob_inv hc
    obtain ⟨r, h2, hc⟩ := ob_inv hc
    obtain ⟨a, b, h3, h4, rfl⟩ := o2_inv hc
    rw [one1_inv h1, one1_inv h2]
    exact e_cmp ih h3 h4 rep F w
  | UnaryOp op x p => cases op with
    | Not => obtain ⟨a, _, rfl⟩ := om_inv (show (cE sc n x).map CE.not = some c from hc); exact w.elim
    | USub => obtain ⟨a, ha, rfl⟩ := om_inv (show (cE sc n x).map CE.neg = some c from hc); exact e_neg ih ha rep F w
    | _ => exact none_inv hc
  | BoolOp op xs p => cases xs with
    | nil => exact none_inv hc
    | cons x r => cases r with
      | nil => exact none_inv hc
      | cons y r =>
        obtain ⟨a, b, _, _, rfl⟩ := o2_inv hc
        cases op <;> exact w.elim
  | IfExp t x y p =>
    obtain ⟨a, b, c', h1, h2, h3, rfl⟩ := o3_inv hc
    exact e_ite ih it h1 h2 h3 rep F w
  | List es p =>
    obtain ⟨l, hl, rfl⟩ := om_inv hc
    exact e_lst hl rep w
  | Subscript v i p =>
    have idx : o2 CE.idx (cE sc n v) (cE sc n i) = some c → wpAny (model pw g.w) A (eval (.Subscript v i p) (envOf nm sc L fa cd)) (Po g L sc s (RE g Q)) E s := fun hc => by
      obtain ⟨a, b, h1, h2, rfl⟩ := o2_inv hc
      exact e_idx ih h1 h2 rep F w
    cases i with
    | Slice lo hi st sp =>
      obtain ⟨hst, hc⟩ := ifo_inv hc
      have := Option.isNone_iff_eq_none.mp hst
      subst this
      obtain ⟨a, b, c', h1, h2, h3, rfl⟩ := o3_inv hc
      exact e_slice ih h1 h2 h3 rep F w
    | _ => exact idx hc
  | Call f args kws p =>
    obtain ⟨hk, hc⟩ := ifo_inv hc
    have := List.isEmpty_iff.mp hk
    subst this
    cases f with
    | Name x fp =>
      obtain ⟨hg, hc⟩ := cCallN_inv hc
      rcases hc with ⟨k, a, hk, ha, rfl⟩ | ⟨rfl, y, a, rfl, ha, rfl⟩ | ⟨rfl, y, a, rfl, ha, rfl⟩ | ⟨rfl, y, z, a, b, rfl, ha, hb, rfl⟩ | ⟨rfl, y, z, a, b, rfl, ha, hb, rfl⟩
      · exact e_fun H hC ih hg hk ha rep F w
      · exact e_bi1 H ih hg (bi_len g.P) ha rep F w fun v av s₁ σ₁ rep₁ rv ⟨r, ho, q⟩ => op_len ho rv (res_po rep₁ q)
      · exact e_bi1 H ih hg (bi_ord g.P) ha rep F w fun v av s₁ σ₁ rep₁ rv ⟨r, ho, q⟩ => op_ord ho rv (res_po rep₁ q)
      · exact e_bi2 H ih hg (bi_min g.P) ha hb rep F w fun u v a b s₁ σ₁ rep₁ ru rv ⟨r, ho, q⟩ => op_min H.hh ho ru rv (res_po rep₁ q)
      · exact e_bi2 H ih hg (bi_max g.P) ha hb rep F w fun u v a b s₁ σ₁ rep₁ ru rv ⟨r, ho, q⟩ => op_max H.hh ho ru rv (res_po rep₁ q)
    | Attribute o x ap =>
      rcases ite_inv (show cCallA sc (cE sc n) o x (ap.endLine == p.line) args = some c from hc) with ⟨rfl, hc⟩ | ⟨_, hc⟩
      · obtain ⟨y, h1, hc⟩ := ob_inv hc
        obtain ⟨h2, hc⟩ := ifo_inv hc
        obtain ⟨a, b, h3, h4, rfl⟩ := o2_inv hc
        obtain ⟨hp, hb⟩ := Bool.and_eq_true_iff.mp h2
        rw [one1_inv h1]
        exact e_ends ih hb hp h3 h4 rep F w
      · obtain ⟨y, h1, hc⟩ := ob_inv hc
        obtain ⟨yp, rfl⟩ := nameOf_inv h1
        obtain ⟨h2, hc⟩ := ifo_inv hc
        obtain ⟨i, k, a, h3, h4, h5, rfl⟩ := o3_inv hc
        obtain ⟨hp, hb⟩ := Bool.and_eq_true_iff.mp h2
        exact e_meth H hC ih hp (Nat.le_of_ble_eq_true hb) h3 h4 h5 rep F w
    | _ => exact none_inv hc
  | _ => exact none_inv hc
end
end Sp
end
section
open PySem PySem.Builtin.Str PySem.W PySem.Calls PyProof.Rows
set_option maxRecDepth 100000
set_option maxHeartbeats 2000000
set_option linter.all false
namespace Sp
section
variable {g : G} {L fa : Addr} {nm : Str} {sc : Scope} {cd : Value} {A : Around} {E : Value → Shared → Prop} {outer : List Env} {d : Nat} {C : Nat → List AV → List AV → (AV → List AV → Prop) → Prop} {n : Nat}
  {s : Shared} {σ : S} {Q : AV → S → Prop}
theorem cE_n {n : Nat} {e : Expr} {c : CE} (h : cE sc n e = some c) : ∃ m, n = m + 1 := by
  cases n with
  | zero => cases h
  | succ m => exact ⟨m, rfl⟩
noncomputable def plainC : CE → Prop
  | .cmp .. => False
  | .and .. => False
  | .or .. => False
  | .not .. => False
  | _ => True
theorem t_plain {c : CE} {Q : Bool → S → Prop} {σ : S} (hc : plainC c) (w : wT tabs C c Q σ) : wE tabs C c (fun av σ => ∃ t, av = .bool t ∧ Q t σ) σ := by
  cases c <;> first
    | exact hc.elim
    | (exact w.elim)
    | exact w
    | exact ⟨_, rfl, w⟩
noncomputable def isPl : Expr → Bool
  | .Compare .. => false
  | .UnaryOp op _ _ => match op with
    | .Not => false
    | _ => true
  | .BoolOp .. => false
  | .IfExp .. => false
  | _ => true
theorem plain_of {e : Expr} {c : CE} (hc : cE sc (n + 1) e = some c) (hp : isPl e = true) : plainC c := by
  cases e with
  | Name x p => rcases cName_inv hc with ⟨i, hi, rfl⟩ | ⟨hg, k, hk, rfl⟩ <;> trivial
  | Constant k0 k p =>
    cases k0 with
    | none => cases hc; trivial
    | bool b => cases hc; trivial
    | int i => cases hc; trivial
    | str x =>
      rcases ite_inv (show (if x.cps.size ≤ lim then some (CE.str (sL x)) else none) = some c from hc) with ⟨hz, hc⟩ | ⟨_, hc⟩
      · cases hc; trivial
      · exact none_inv hc
    | _ => exact none_inv hc
  | Attribute o x p =>
    obtain ⟨y, h1, hc⟩ := ob_inv hc
    rcases cAttr_inv hc with ⟨rfl, hg, k, hk, rfl⟩ | ⟨i, hi, ⟨f, hf, rfl⟩ | ⟨k, hk, rfl⟩⟩ <;> trivial
  | BinOp l op r p =>
    obtain ⟨a, b, h1, h2, rfl⟩ := o2_inv hc
    trivial
  | UnaryOp op x p => cases op with
    | Not => cases hp
    | USub => obtain ⟨a, ha, rfl⟩ := om_inv (show (cE sc n x).map CE.neg = some c from hc); trivial
    | _ => exact none_inv hc
  | List es p =>
    obtain ⟨l, hl, rfl⟩ := om_inv hc
    trivial
  | Subscript v i p =>
    have idx : o2 CE.idx (cE sc n v) (cE sc n i) = some c → plainC c := fun hc => by
      obtain ⟨a, b, h1, h2, rfl⟩ := o2_inv hc
      trivial
    cases i with
    | Slice lo hi st sp =>
      obtain ⟨hst, hc⟩ := ifo_inv hc
      obtain ⟨a, b, c', h1, h2, h3, rfl⟩ := o3_inv hc
      trivial
    | _ => exact idx hc
  | Call f args kws p =>
    obtain ⟨hk, hc⟩ := ifo_inv hc
    cases f with
    | Name x fp =>
      obtain ⟨hg, hc⟩ := cCallN_inv hc
      rcases hc with ⟨k, a, hk, ha, rfl⟩ | ⟨rfl, y, a, rfl, ha, rfl⟩ | ⟨rfl, y, a, rfl, ha, rfl⟩ | ⟨rfl, y, z, a, b, rfl, ha, hb, rfl⟩ | ⟨rfl, y, z, a, b, rfl, ha, hb, rfl⟩ <;> trivial
    | Attribute o x ap =>
      rcases ite_inv (show cCallA sc (cE sc n) o x (ap.endLine == p.line) args = some c from hc) with ⟨rfl, hc⟩ | ⟨_, hc⟩
      · obtain ⟨y, h1, hc⟩ := ob_inv hc
        obtain ⟨h2, hc⟩ := ifo_inv hc
        obtain ⟨a, b, h3, h4, rfl⟩ := o2_inv hc
        trivial
      · obtain ⟨y, h1, hc⟩ := ob_inv hc
        obtain ⟨h2, hc⟩ := ifo_inv hc
        obtain ⟨i, k, a, h3, h4, h5, rfl⟩ := o3_inv hc
        trivial
    | _ => exact none_inv hc
  | Compare => cases hp
  | BoolOp => cases hp
  | IfExp => cases hp
  | _ => exact none_inv hc
theorem to (e1 : (EOK g L fa nm sc cd A E outer C) (n + 1)) (ih : (EOK g L fa nm sc cd A E outer C) n) (it : (TOK g L fa nm sc cd A E outer C) n) : (TOK g L fa nm sc cd A E outer C) (n + 1) := by
  intro e c hc Q σ s rep F w
  have pl := plain_of hc
  cases e with
  | Compare l ops rs p =>
    obtain ⟨op, h1, hc⟩ := ob_inv hc
    obtain ⟨r, h2, hc⟩ := ob_inv hc
    obtain ⟨a, b, h3, h4, rfl⟩ := o2_inv hc
    rw [one1_inv h1, one1_inv h2]
    exact t_cmp ih h3 h4 rep F w
  | UnaryOp op x p => cases op with
    | Not => obtain ⟨a, ha, rfl⟩ := om_inv (show (cE sc n x).map CE.not = some c from hc); exact t_not it ha rep F w
    | USub => exact t_val e1 hc rfl rep F (t_plain (pl rfl) w)
    | _ => exact none_inv hc
  | BoolOp op xs p => cases xs with
    | nil => exact none_inv hc
    | cons x r => cases r with
      | nil => exact none_inv hc
      | cons y r =>
        obtain ⟨a, b, h1, h2, rfl⟩ := o2_inv hc
        cases op
        · exact t_and it h1 h2 rep F w
        · exact t_or it h1 h2 rep F w
  | IfExp t x y p =>
    obtain ⟨a, b, c', h1, h2, h3, rfl⟩ := o3_inv hc
    exact w.elim
  | Name => exact t_val e1 hc rfl rep F (t_plain (pl rfl) w)
  | Constant => exact t_val e1 hc rfl rep F (t_plain (pl rfl) w)
  | Attribute => exact t_val e1 hc rfl rep F (t_plain (pl rfl) w)
  | BinOp => exact t_val e1 hc rfl rep F (t_plain (pl rfl) w)
  | List => exact t_val e1 hc rfl rep F (t_plain (pl rfl) w)
  | Subscript => exact t_val e1 hc rfl rep F (t_plain (pl rfl) w)
  | Call => exact t_val e1 hc rfl rep F (t_plain (pl rfl) w)
  | _ => exact none_inv hc
theorem eoto (H : Here A nm sc L fa cd outer d) (hC : ∀ f args fs Q, C f args fs Q → CallOK g d f args fs Q) : ∀ n, (EOK g L fa nm sc cd A E outer C) n ∧ (TOK g L fa nm sc cd A E outer C) n
  | 0 => ⟨fun e c hc => (by cases hc), fun e c hc => (by cases hc)⟩
  | n + 1 => have q := eoto H hC n; have e1 := eo H hC q.1 q.2; ⟨e1, to e1 q.1 q.2⟩
end
end Sp
end
section
open PySem PySem.Builtin.Str PySem.W PySem.Calls PyProof.Rows
set_option maxRecDepth 100000
set_option maxHeartbeats 2000000
set_option linter.all false
namespace Sp
noncomputable def labA (k : Nat) : Addr := if k = 0 then 939 else if k = 1 then 952 else 965
/-- what a step of an exception in flight keeps; N: a heap that knows neither it nor its record of places -/
structure Ks (g : G) (N h h' : Heap) : Prop where
  low : ∀ b o, g.B.get? b = some o → h.get? b = some o → h'.get? b = some o
  solid : ∀ b o, Solid o = true → h.get? b = some o → h'.get? b = some o
  dict : ∀ b o es n, h.get? b = some o → o.data = .dict es n → ∃ sl, h'.get? b = some { o with slots := sl }
  dx : h'.get? g.dx = h.get? g.dx
  fld : ∀ b o vs, N.get? b ≠ none → h.get? b = some o → o.data = .fields vs → h'.get? b = some o
theorem Ks.refl {g : G} {N : Heap} (h : Heap) : Ks g N h h := ⟨fun _ _ _ e => e, fun _ _ _ e => e, fun _ o _ _ e _ => ⟨o.slots, e⟩, rfl, fun _ _ _ _ e _ => e⟩
theorem Ks.trans {g : G} {N h h' h'' : Heap} (x : Ks g N h h') (y : Ks g N h' h'') : Ks g N h h'' := by
  refine ⟨fun b o q e => y.low b o q (x.low b o q e), fun b o q e => y.solid b o q (x.solid b o q e), fun b o es n e d => ?_, y.dx.trans x.dx, fun b o vs q e d => y.fld b o vs q (x.fld b o vs q e d) d⟩
  obtain ⟨sl, e1⟩ := x.dict b o es n e d
  obtain ⟨sl', e2⟩ := y.dict b _ es n e1 d
  exact ⟨sl', e2⟩
theorem Ks.kw {g : G} {N h h' : Heap} {L : Addr} (x : Ks g N h h') : Kw g L h h' := ⟨x.low, x.solid, fun b o es n _ _ e d => x.dict b o es n e d⟩
theorem Kp.ks {g : G} {L : Addr} {h h' h'' : Heap} (x : Kp g L h h') (y : Ks g h h' h'') : Kp g L h h'' :=
  ⟨x.toKw.trans y.kw, fun b o vs e d => y.fld b o vs (by rw [e]; simp) (x.fld b o vs e d) d⟩
theorem Rep.ks {g : G} {L : Addr} {V : List Str} {σ : S} {N h h' : Heap} (R : Rep g L V σ h) (k : Ks g N h h') : Rep g L V σ h' := by
  obtain ⟨m, ⟨o, es, ep, ho, hd, hr⟩, r⟩ := R.ns
  obtain ⟨sl, e⟩ := k.dict L o es ep ho hd
  refine ⟨⟨m, ⟨_, es, ep, e, hd, hr⟩, fun i x av h1 h2 => ?_⟩, R.len, R.inv.kw (k.kw (L := L)) k.dx, R.nL, R.Ld⟩
  obtain ⟨v, e, rv⟩ := r i x av h1 h2
  exact ⟨v, e, rv.kw (k.kw (L := L))⟩
theorem Frs.ks {g : G} {L : Addr} {N h h' : Heap} {outer : List Env} (x : Frs g h L outer) (k : Ks g N h h') : Frs g h' L outer := x.kw (Nat.le_refl _) k.kw
/-- the record of places of an exception that this frame has seen -/
noncomputable def XT (N : Heap) (L : Addr) (e : Addr) (vs : Array Value) (h : Heap) : Prop :=
  ∃ T oT ts fl, vs[1]? = some (.ref T) ∧ N.get? T = none ∧ T ≠ e ∧ h.get? T = some oT ∧ oT.data = .fields ts ∧ ts[3]? = some fl ∧ (fl = .none ∨ fl = rawInt L)
noncomputable def XNo (N : Heap) (L : Addr) (k : Nat) (e : Addr) (h : Heap) : Prop :=
  N.get? e = none ∧ ∃ oe vs, h.get? e = some oe ∧ oe.cls = .ref (labA k) ∧ oe.data = .fields vs ∧ XT N L e vs h
noncomputable def XAt (N : Heap) (L : Addr) (k : Nat) (e : Addr) (h : Heap) : Prop :=
  N.get? e = none ∧ ∃ oe vs, h.get? e = some oe ∧ oe.cls = .ref (labA k) ∧ oe.data = .fields vs ∧ (vs[1]? = some .none ∨ XT N L e vs h)
theorem XNo.at {N : Heap} {L : Addr} {k : Nat} {e : Addr} {h : Heap} (x : XNo N L k e h) : XAt N L k e h := by
  obtain ⟨a, oe, vs, b, c, d, y⟩ := x
  exact ⟨a, oe, vs, b, c, d, .inr y⟩
theorem XAt.mono {N N' : Heap} {L : Addr} {k : Nat} {e : Addr} {h : Heap} (x : XAt N L k e h) (hn : ∀ b, N.get? b = none → N'.get? b = none) : XAt N' L k e h := by
  obtain ⟨a, oe, vs, b, c, d, y⟩ := x
  refine ⟨hn _ a, oe, vs, b, c, d, y.imp id ?_⟩
  rintro ⟨T, oT, ts, fl, h1, h2, h3⟩
  exact ⟨T, oT, ts, fl, h1, hn _ h2, h3⟩
/-- N lies beneath h -/
structure Und (g : G) (N h : Heap) : Prop where
  base : ∀ b, N.get? b = none → g.B.get? b = none
  dx : N.get? g.dx ≠ none
  dom : ∀ b, h.get? b = none → N.get? b = none
theorem slots_ks {g : G} {N h h' : Heap} {l : List Env} (hs : Heap.SlotsOnly (l.filterMap (·.frame)) h h') (F : ∀ env ∈ l, ∃ L o es n, env.frame = some L ∧ g.B.get? L = none ∧ L ≠ g.dx ∧ h.get? L = some o ∧ o.data = .dict es n) : Ks g N h h' := by
  have fr : ∀ b, b ∈ l.filterMap (·.frame) → g.B.get? b = none ∧ b ≠ g.dx ∧ ∃ o es n, h.get? b = some o ∧ o.data = .dict es n := by
    intro b hb
    obtain ⟨env, he, hf⟩ := List.mem_filterMap.mp hb
    obtain ⟨L, o, es, n, h1, h2, h3, h4, h5⟩ := F env he
    rw [h1] at hf; cases hf
    exact ⟨h2, h3, o, es, n, h4, h5⟩
  refine ⟨fun b o q e => ?_, fun b o q e => ?_, fun b o es n e d => hs.2.2 b o e, ?_, fun b o vs _ e d => ?_⟩
  · refine (hs.2.1 b fun hb => ?_).trans e
    rw [(fr b hb).1] at q; cases q
  · refine (hs.2.1 b fun hb => ?_).trans e
    obtain ⟨o', es, n, h1, h2⟩ := (fr b hb).2.2
    rw [h1] at e; cases e
    unfold Solid at q; rw [h2] at q; cases q
  · exact hs.2.1 _ fun hb => (fr _ hb).2.1 rfl
  · refine (hs.2.1 b fun hb => ?_).trans e
    obtain ⟨o', es, n, h1, h2⟩ := (fr b hb).2.2
    rw [h1] at e; cases e
    rw [h2] at d; cases d
theorem frames_ks {g : G} {L : Addr} {h : Heap} {outer : List Env} (F : Frs g h L outer) : ∀ env ∈ outer, ∃ L o es n, env.frame = some L ∧ g.B.get? L = none ∧ L ≠ g.dx ∧ h.get? L = some o ∧ o.data = .dict es n := fun env he => by
  obtain ⟨_, L, o, es, n, h1, h2, _, h3, h4, h5⟩ := F env he
  exact ⟨L, o, es, n, h1, h2, h3, h4, h5⟩
theorem setFields_ks {g : G} {N h : Heap} {T : Addr} {oT : Obj} {ts : Array Value} {i : Nat} {v : Value} (U : Und g N h) (hN : N.get? T = none) (hT : h.get? T = some oT) (hd : oT.data = .fields ts) :
    Ks g N h (h.update T (Obj.mapFields (·.setIfInBounds i v))) := by
  have other : ∀ b, b ≠ T → (h.update T (Obj.mapFields (·.setIfInBounds i v))).get? b = h.get? b := fun b hb => Heap.get?_update_other _ _ (Ne.symm hb)
  refine ⟨fun b o q e => (other b ?_).trans e, fun b o q e => (other b ?_).trans e, fun b o es n e d => ⟨o.slots, (other b ?_).trans e⟩, other _ ?_, fun b o vs q e d => (other b ?_).trans e⟩
  · rintro rfl; rw [U.base _ hN] at q; cases q
  · rintro rfl; rw [hT] at e; cases e; unfold Solid at q; rw [hd] at q; cases q
  · rintro rfl; rw [hT] at e; cases e; rw [hd] at d; cases d
  · intro z; exact U.dx (z ▸ hN)
  · rintro rfl; exact q hN
theorem Und.to {g : G} {N h h' : Heap} (U : Und g N h) (hd : ∀ b, h'.get? b = none → h.get? b = none) : Und g N h' := ⟨U.base, U.dx, fun b e => U.dom b (hd b e)⟩
section
variable {g : G} {L fa : Addr} {nm : Str} {sc : Scope} {cd : Value} {A : Around} {E : Value → Shared → Prop} {outer : List Env} {d : Nat} {s : Shared} {σ : S} {N : Heap} {k : Nat} {e : Addr} {Q : Unit → Shared → Prop}
theorem entry_ok {oe : Obj} {vs : Array Value} {head : Value} {hadNext : Bool} (H : Here A nm sc L fa cd outer d) (rep : Rep g L (vars sc) σ s.heap) (F : Frs g s.heap L outer) (U : Und g N s.heap)
    (he : s.heap.get? e = some oe) (hd : oe.data = .fields vs) (hsz : 1 < vs.size) (hc : oe.cls = .ref (labA k)) (hN : N.get? e = none) (h : ∀ h', Ks g N s.heap h' → XNo N L k e h' → Q () { s with heap := h' }) :
    wpAny (model pw g.w) A (do let a ← frameOf (envOf nm sc L fa cd); let pl ← entryPlaceOf L hadNext; let b ← EntryCells.newEntry head a .none (rawInt L) .none pl; setField (.ref e) 1 b) Q E s := by
  have FF : ∀ env ∈ (envOf nm sc L fa cd) :: outer, ∃ L o es n, env.frame = some L ∧ g.B.get? L = none ∧ L ≠ g.dx ∧ s.heap.get? L = some o ∧ o.data = .dict es n := by
    intro env hm
    rcases List.mem_cons.mp hm with rfl | hm
    · obtain ⟨m, ⟨o, es, ep, ho, hdd, _⟩, _⟩ := rep.ns
      exact ⟨L, o, es, ep, rfl, rep.nL, rep.Ld, ho, hdd⟩
    · exact frames_ks F env hm
  have ff : s.heap.FunFrames ({} : Heap) ((envOf nm sc L fa cd) :: outer) := by
    have go : ∀ l : List Env, (∀ env ∈ l, env.scope.kind ≠ .module) → (∀ env ∈ l, ∃ L o es n, env.frame = some L ∧ g.B.get? L = none ∧ L ≠ g.dx ∧ s.heap.get? L = some o ∧ o.data = .dict es n) → s.heap.FunFrames ({} : Heap) l := by
      intro l
      induction l with
      | nil => intros; trivial
      | cons env rest ih =>
        intro h1 h2
        obtain ⟨L', o, es, n, q1, q2, q3, q4, q5⟩ := h2 env List.mem_cons_self
        exact ⟨h1 env List.mem_cons_self, ⟨L', o, q1, Heap.get?_none_of_le (Nat.zero_le _), q4, fun vs q => by rw [q5] at q; cases q⟩, ih (fun e' he' => h1 e' (List.mem_cons_of_mem _ he')) fun e' he' => h2 e' (List.mem_cons_of_mem _ he')⟩
    refine go _ (fun env hm => ?_) FF
    rcases List.mem_cons.mp hm with rfl | hm
    · show sc.kind ≠ _; rw [H.hk]; decide
    · exact (F env hm).1
  refine wpAny_bind (wpAny_frameOf_fun H.fr ff rfl fun h₁ hs₁ => ?_)
  have k1 : Ks g N s.heap h₁ := slots_ks hs₁ FF
  refine wpAny_bind (wpAny_entryPlaceOf fun pl hpl => ?_)
  unfold EntryCells.newEntry newFields
  refine wpAny_bind (wpAny_newObj_type ?_ (hpl.sizeOk5 _ _ _ _ _))
  have nf : e ∉ ((envOf nm sc L fa cd) :: outer).filterMap (·.frame) := fun hb => by
    obtain ⟨env, he', hf⟩ := List.mem_filterMap.mp hb
    obtain ⟨L', o, es, n, q1, _, _, q4, q5⟩ := FF env he'
    rw [q1] at hf; cases hf
    rw [he] at q4; cases q4
    rw [hd] at q5; cases q5
  have he₁ : h₁.get? e = some oe := (hs₁.2.1 e nf).trans he
  have U₁ : Und g N h₁ := U.to fun b q => by
    cases z : s.heap.get? b with
    | none => rfl
    | some o => obtain ⟨sl, w⟩ := hs₁.2.2 b o z; rw [q] at w; cases w
  generalize hobj : ({ cls := .type "traceback", dict := none, data := .fields ([head, .ref L, .none, rawInt L, .none] ++ (if pl.isEmpty then List.replicate 6 Value.none else pl)).toArray } : Obj) = ob
  have he₂ := Heap.get?_push_of_some (h := h₁) ob he₁
  refine wpAny_setField he₂ hd hsz (h _ ?_ ?_)
  · have U₂ : Und g N (h₁.push ob) := U₁.to fun b q => by
      cases z : h₁.get? b with
      | none => rfl
      | some o => rw [Heap.get?_push_of_some _ z] at q; cases q
    refine (k1.trans ?_).trans (setFields_ks U₂ hN he₂ hd)
    have kp : ∀ b o, h₁.get? b = some o → (h₁.push ob).get? b = some o := fun _ _ z => Heap.get?_push_of_some _ z
    have edx : (h₁.push ob).get? g.dx = h₁.get? g.dx := by
      obtain ⟨es, n, q, _⟩ := (rep.ks k1).inv.dict
      rw [q]; exact kp _ _ q
    exact ⟨fun b o _ z => kp b o z, fun b o _ z => kp b o z, fun b o es n z _ => ⟨o.slots, kp b o z⟩, edx, fun b o vs _ z _ => kp b o z⟩
  · have hTe : h₁.objs.size ≠ e := Nat.ne_of_gt (Heap.lt_size he₁)
    have hT : (h₁.push ob).get? h₁.objs.size = some ob := Heap.get?_push_size h₁ (by rw [← hobj]; rfl)
    refine ⟨hN, _, _, Heap.get?_update_self _ he₂ (Obj.isFreed_of_fields (Obj.data_mapFields hd _)), (Obj.cls_mapFields ..).trans hc, Obj.data_mapFields hd _, h₁.objs.size, ob, _, rawInt L, by simp [hsz], U₁.dom _ (Heap.get?_none_of_le (Nat.le_refl _)), hTe, (Heap.get?_update_other _ _ (Ne.symm hTe)).trans hT, by rw [← hobj], ?_, .inr rfl⟩
    simp
end
end Sp
end
section
open PySem PySem.Builtin.Str PySem.W PySem.Calls PyProof.Rows
set_option maxRecDepth 100000
set_option maxHeartbeats 2000000
set_option linter.all false
namespace Sp
theorem update_live {h : Heap} {a : Addr} {f : Obj → Obj} {o : Obj} (ho : h.get? a = some o) (hf : (f o).isFreed = false) : ∀ b, (h.update a f).get? b = none → h.get? b = none := fun b q => by
  by_cases z : b = a
  · subst z; rw [Heap.get?_update_self _ ho hf] at q; cases q
  · rwa [Heap.get?_update_other _ _ (Ne.symm z)] at q
section
variable {g : G} {L fa : Addr} {nm : Str} {sc : Scope} {cd : Value} {A : Around} {E : Value → Shared → Prop} {outer : List Env} {d : Nat} {s : Shared} {σ : S} {N : Heap} {k : Nat} {e : Addr} {Q : Unit → Shared → Prop}
theorem note_ok (H : Here A nm sc L fa cd outer d) (rep : Rep g L (vars sc) σ s.heap) (F : Frs g s.heap L outer) (U : Und g N s.heap) (X : XAt N L k e s.heap)
    (h : ∀ h', Ks g N s.heap h' → XNo N L k e h' → Q () { s with heap := h' }) : wpAny (model pw g.w) A (noteFrame (.ref e) (envOf nm sc L fa cd)) Q E s := by
  obtain ⟨hN, oe, vs, he, hc, hd, hx⟩ := X
  unfold noteFrame
  have hf : ((envOf nm sc L fa cd)).frame = some L := rfl
  simp only [hf]
  rcases hx with h1 | ⟨T, oT, ts, fl, h1, hNT, hTe, hT, hdT, h3, hfl⟩
  · refine wpAny_bind (wpAny_field he hd h1 ?_)
    rw [if_neg (by decide)]
    exact entry_ok H rep F U he hd (Array.getElem?_eq_some_iff.mp h1).1 hc hN h
  · refine wpAny_bind (wpAny_field he hd h1 ?_)
    rw [if_pos (show (Value.ref T != Value.none) = true from by simp)]
    refine wpAny_bind (wpAny_field hT hdT h3 ?_)
    rcases hfl with rfl | rfl
    · rw [if_neg (show ¬ ((Value.none == rawInt L) = true) from by simp [rawInt])]
      refine wpAny_bind (wpAny_setField hT hdT (Array.getElem?_eq_some_iff.mp h3).1 ?_)
      have k1 := setFields_ks (g := g) (i := 3) (v := .none) U hNT hT hdT
      have U1 : Und g N _ := U.to (update_live (f := Obj.mapFields (·.setIfInBounds 3 Value.none)) hT (Obj.isFreed_of_fields (Obj.data_mapFields hdT _)))
      exact entry_ok (s := { s with heap := s.heap.update T (Obj.mapFields (·.setIfInBounds 3 Value.none)) }) H (rep.ks k1) (F.ks k1) U1 ((Heap.get?_update_other _ _ hTe).trans he) hd (Array.getElem?_eq_some_iff.mp h1).1 hc hN
        fun h' k2 x => h h' (k1.trans k2) x
    · rw [if_pos (show (rawInt L == rawInt L) = true from by simp)]
      exact wpAny_pure (h s.heap (.refl _) ⟨hN, oe, vs, he, hc, hd, T, oT, ts, rawInt L, h1, hNT, hTe, hT, hdT, h3, .inr rfl⟩)
theorem flight_ok {fr : Option Addr} (hfr : fr = none ∨ fr = some L) (U : Und g N s.heap) (X : XNo N L k e s.heap) (h : ∀ h', Ks g N s.heap h' → XNo N L k e h' → Q () { s with heap := h' }) : wpAny (model pw g.w) A (setFlight (.ref e) fr) Q E s := by
  obtain ⟨hN, oe, vs, he, hc, hd, T, oT, ts, fl, h1, hNT, hTe, hT, hdT, h3, hfl⟩ := X
  unfold setFlight
  refine wpAny_bind (wpAny_field he hd h1 ?_)
  rw [if_pos (show (Value.ref T != Value.none) = true from by simp)]
  refine wpAny_setField hT hdT (Array.getElem?_eq_some_iff.mp h3).1 (h _ (setFields_ks U hNT hT hdT) ?_)
  refine ⟨hN, oe, vs, (Heap.get?_update_other _ _ hTe).trans he, hc, hd, T, _, _, fr.elim Value.none (fun f => rawInt f), h1, hNT, hTe, Heap.get?_update_self _ hT (Obj.isFreed_of_fields (Obj.data_mapFields hdT _)), Obj.data_mapFields hdT _, ?_, ?_⟩
  · have := (Array.getElem?_eq_some_iff.mp h3).1
    simp [this]
  · rcases hfr with rfl | rfl
    · exact .inl rfl
    · exact .inr rfl
theorem came_ok {E' : Value → Shared → Prop} (U : Und g N s.heap) (X : XNo N L k e s.heap) (h : ∀ h', Ks g N s.heap h' → XNo N L k e h' → E' (.ref e) { s with heap := h' }) : cameBackBy (model pw g.w) A (envOf nm sc L fa cd) E' (.ref e) s := by
  unfold cameBackBy
  obtain ⟨hN, oe, vs, he, hc, hd, T, oT, ts, fl, h1, r⟩ := id X
  refine wpAny_bind (wpAny_field he hd h1 ?_)
  have e1 : (Value.ref T == Value.none) = false := by simp
  rw [e1]
  exact flight_ok (.inr rfl) U X h
theorem pass_ok {α : Type} {what : String} {Q' : α → Shared → Prop} (U : Und g N s.heap) (X : XNo N L k e s.heap) (h : ∀ h', Ks g N s.heap h' → XNo N L k e h' → E (.ref e) { s with heap := h' }) : wpAny (model pw g.w) A (PySem.passOn what (.ref e) (envOf nm sc L fa cd) : Sem α) Q' E s := by
  unfold PySem.passOn
  obtain ⟨hN, oe, vs, he, hc, hd, T, oT, ts, fl, h1, r⟩ := id X
  refine wpAny_bind (wpAny_field he hd h1 ?_)
  have e1 : (Value.ref T == Value.none) = false := by simp
  rw [e1]
  refine wpAny_bind (flight_ok (.inr rfl) U X fun h' k x => ?_)
  exact wpAny_throw (h h' k x)
end
theorem lab_name (P : Params) (k : Nat) (nm : Str) (h : strIdx nm labNames 0 = some k) : nsIn (kL P) mainGlobals nm = some (some (.ref (labA k))) := by
  have hx := strIdx_get h
  match k, hx with
  | 0, hx => cases hx; kernel_rfl
  | 1, hx => cases hx; kernel_rfl
  | 2, hx => cases hx; kernel_rfl
  | n + 3, hx => cases hx
theorem lab_exm (P : Params) : exmOne (kL P) (.ref 939) (.ref 939) = some true ∧ exmOne (kL P) (.ref 939) (.ref 952) = some false ∧ exmOne (kL P) (.ref 939) (.ref 965) = some false ∧
    exmOne (kL P) (.ref 952) (.ref 939) = some false ∧ exmOne (kL P) (.ref 952) (.ref 952) = some true ∧ exmOne (kL P) (.ref 952) (.ref 965) = some false ∧
    exmOne (kL P) (.ref 965) (.ref 939) = some false ∧ exmOne (kL P) (.ref 965) (.ref 952) = some false ∧ exmOne (kL P) (.ref 965) (.ref 965) = some true :=
  ⟨by kernel_rfl, by kernel_rfl, by kernel_rfl, by kernel_rfl, by kernel_rfl, by kernel_rfl, by kernel_rfl, by kernel_rfl, by kernel_rfl⟩
theorem lab_exc (P : Params) : excIn (kL P) 939 [.type "Exception", .type "BaseException", .type "object"] "Exception.__new__" = true ∧ excIn (kL P) 952 [.type "Exception", .type "BaseException", .type "object"] "Exception.__new__" = true ∧
    excIn (kL P) 965 [.type "Exception", .type "BaseException", .type "object"] "Exception.__new__" = true := ⟨by kernel_rfl, by kernel_rfl, by kernel_rfl⟩
end Sp
end
section
open PySem PySem.Builtin.Str PySem.W PySem.Calls PyProof.Rows
set_option maxRecDepth 100000
set_option maxHeartbeats 2000000
set_option linter.all false
namespace Sp
theorem exc_k {K : Frag} {h : Heap} {C : Addr} {bmB : List Value} {newId : String} {P : Prop} (X : K.In h) (q : excIn K C bmB newId = true)
    (kk : ∀ bm N nm q bs hdct sn sub ab col dd k0 k1 k2 k3 k5 mN, h.get? C = some (excClassObj nm q C N bs bm hdct sn sub ab col dd k0 k1 k2 k3 k5 newId) → h.Ns N mN → mN "__init__" = none → OwnTail h bmB bm → P) : P := by
  unfold excIn at q
  split at q
  case h_2 => cases q
  rename_i dd cd sl at_
  split at q
  case h_2 => cases q
  rename_i C' bm k0 k1 k2 k3 n k5 em es
  rw [Bool.and_eq_true, Bool.and_eq_true, Bool.and_eq_true, Bool.and_eq_true, Bool.and_eq_true] at q
  obtain ⟨⟨⟨⟨⟨q1, q2⟩, q3⟩, q4⟩, q5⟩, q6⟩ := q
  have q1 := beq_iff_eq.mp q1
  have q2 := beq_iff_eq.mp q2
  have q3 : cd.hasDel = false := by simpa using q3
  have q6 := beq_iff_eq.mp q6
  subst q1 q2
  cases cd with
  | mk nm bs mro ns qn hd sn sub ab col del =>
    have em : mro = .ref C' :: bm := em
    have q3 : del = false := q3
    subst em q3
    have es : sl = #[k0, k1, k2, k3, some (.builtin n), k5] := by
      cases sl with
      | mk l => exact congrArg Array.mk es
    subst es
    exact kk bm ns nm qn bs hd sn sub ab col dd k0 k1 k2 k3 k5 _ (X _ _ at_) (.of_isNs (isNs_of_in X q5)) (nsMap_none_of_in X q5 q6) (tail_of_in X q4)
theorem lab_in (P : Params) (k : Nat) : excIn (kL P) (labA k) [.type "Exception", .type "BaseException", .type "object"] "Exception.__new__" = true := by
  obtain ⟨a, b, c⟩ := lab_exc P
  unfold labA
  split
  · exact a
  · split
    · exact b
    · exact c
theorem lab_match (P : Params) (j k : Nat) (hj : j < 3) (hk : k < 3) : exmOne (kL P) (.ref (labA j)) (.ref (labA k)) = some (decide (j = k)) := by
  obtain ⟨a, b, c, d, e, f, g, h, i⟩ := lab_exm P
  match j, k, hj, hk with
  | 0, 0, _, _ => exact a
  | 0, 1, _, _ => exact b
  | 0, 2, _, _ => exact c
  | 1, 0, _, _ => exact d
  | 1, 1, _, _ => exact e
  | 1, 2, _, _ => exact f
  | 2, 0, _, _ => exact g
  | 2, 1, _, _ => exact h
  | 2, 2, _, _ => exact i
section
variable {g : G} {L fa : Addr} {nm : Str} {sc : Scope} {cd : Value} {A : Around} {E : Value → Shared → Prop} {outer : List Env} {d : Nat} {s : Shared} {σ : S} {N : Heap} {k : Nat} {e : Addr}
theorem raise_ok {l : Str} {lp cp pos : Pos} {Q : Flow → Shared → Prop} (H : Here A nm sc L fa cd outer d) (rep : Rep g L (vars sc) σ s.heap) (hg : isGlob sc l = true) (hk : strIdx l labNames 0 = some k)
    (h : ∀ h' e, (∀ b o, s.heap.get? b = some o → h'.get? b = some o) → XAt s.heap L k e h' → E (.ref e) { s with heap := h' }) :
    wpAny (model pw g.w) A (exec (.Raise (some (.Call (.Name l lp) [] [] cp)) none pos) (envOf nm sc L fa cd)) Q E s := by
  obtain ⟨g1, g2⟩ := isGlob_of hg
  refine exc_k rep.inv.K (lab_in g.P k) fun bm N nm' q bs hdct sn sub ab col dd k0 k1 k2 k3 k5 mN hC hN hni T => ?_
  refine wpAny_Raise_call_subT (C := labA k) (nm := nm') (q := q) (N := N) (bs := bs) (bm := bm) (hdct := hdct) (sn := sn) (sub := sub) (ab := ab) (col := col) (dd := dd) (k0 := k0) (k1 := k1) (k2 := k2) (k3 := k3) (k5 := k5)
    PySem.F.excBase_Exception (mN := mN) (T.hasType PySem.F.excBase_Exception.hasBase) H.hh rfl hni (gname rep.inv.K (lab_name g.P k l hk) ⟨rfl, ?_⟩ H.hk g1 g2)
  refine evalArgs_nil3 ⟨rfl, Nat.zero_le _, hC, hN, T, fun h' e M => h h' e M.keeps ?_⟩
  obtain ⟨t, he, _, _⟩ := M.there
  exact ⟨M.new, _, _, he, rfl, rfl, .inl rfl⟩
theorem exm_ok {E : Value → Shared → Prop} {A : Around} {j : Nat} {Q : Bool → Shared → Prop} (hj : j < 3) (hk : k < 3) (I : (kL g.P).In s.heap) (X : XAt N L j e s.heap) (h : Q (decide (j = k)) s) : wpAny (model pw g.w) A (excMatches (.ref e) (.ref (labA k))) Q E s := by
  obtain ⟨_, oe, vs, he, hc, hd, _⟩ := X
  have LT : Looks (model pw g.w) s.heap (typeOf (.ref e)) (.ref (labA j)) := by
    rw [← hc]
    exact (Looks.ld he).andThen .now
  exact (exm_one I LT (lab_match g.P j k hj hk)).here h
end
end Sp
end
section
open PySem PySem.Builtin.Str PySem.W PySem.Calls PyProof.Rows
set_option maxRecDepth 100000
set_option maxHeartbeats 2000000
set_option linter.all false
namespace Sp
noncomputable def RF (g : G) (Q : Fl → S → Prop) : Flow → Heap → S → Prop
  | .next, _, σ => Q .next σ
  | .brk, _, σ => Q .brk σ
  | .cont, _, σ => Q .cont σ
  | .ret v, h, σ => ∃ av, RelV g h v av ∧ Q (.ret av) σ
noncomputable def PoX (g : G) (L : Addr) (sc : Scope) (s : Shared) (Q : Fl → S → Prop) (v : Value) (s' : Shared) : Prop :=
  ∃ e k σ', v = .ref e ∧ k < 3 ∧ Sm s s' ∧ Kp g L s.heap s'.heap ∧ Rep g L (vars sc) σ' s'.heap ∧ XAt s.heap L k e s'.heap ∧ Q (.exc k) σ'
section
variable {g : G} {L : Addr} {V : List Str} {σ σ' : S} {h h' : Heap}
theorem kp_dom (R : Rep g L V σ h) (R' : Rep g L V σ' h') (k : Kp g L h h') : ∀ b, h'.get? b = none → h.get? b = none := fun b e => by
  cases q : h.get? b with
  | none => rfl
  | some o =>
    exfalso
    by_cases z : b = L
    · subst z
      obtain ⟨m, ⟨o', es, ep, ho, _⟩, _⟩ := R'.ns
      rw [ho] at e; cases e
    by_cases z' : b = g.dx
    · subst z'
      obtain ⟨es, n, ho, _⟩ := R'.inv.dict
      rw [ho] at e; cases e
    cases hd : o.data with
    | dict es n =>
      obtain ⟨sl, w⟩ := k.dict b o es n z z' q hd
      rw [w] at e; cases e
    | fields vs =>
      have w := k.fld b o vs q hd
      rw [w] at e; cases e
    | _ =>
      have w := k.solid b o (by unfold Solid; rw [hd]) q
      rw [w] at e; cases e
theorem und_of (R : Rep g L V σ h) (R' : Rep g L V σ' h') (k : Kp g L h h') : Und g h h' := by
  refine ⟨fun b e => ?_, ?_, kp_dom R R' k⟩
  · cases q : g.B.get? b with
    | none => rfl
    | some o => have w := R.inv.stay b o q; rw [w] at e; cases e
  · obtain ⟨es, n, ho, _⟩ := R.inv.dict
    rw [ho]; simp
end
section
variable {g : G} {L : Addr} {sc : Scope} {A : Around} {s s₁ : Shared} {Q : Fl → S → Prop} {outer : List Env} {σ σ₁ : S}
theorem liftF {t : Sem Flow} (rep : Rep g L (vars sc) σ s.heap) (rep₁ : Rep g L (vars sc) σ₁ s₁.heap) (sm : Sm s s₁) (kp : Kp g L s.heap s₁.heap)
    (h : wpAny (model pw g.w) A t (Po g L sc s₁ (RF g Q)) (PoX g L sc s₁ Q) s₁) : wpAny (model pw g.w) A t (Po g L sc s (RF g Q)) (PoX g L sc s Q) s₁ := by
  refine wpAny_mono h (fun f s₂ p => ?_) (fun e s₂ p => ?_)
  · obtain ⟨sm₂, kp₂, q⟩ := p
    exact ⟨sm.trans sm₂, kp.trans kp₂, q⟩
  · obtain ⟨e, k, σ₂, rfl, hk, sm₂, kp₂, rep₂, x, q⟩ := p
    exact ⟨e, k, σ₂, rfl, hk, sm.trans sm₂, kp.trans kp₂, rep₂, x.mono (kp_dom rep rep₁ kp), q⟩
end
section
variable {g : G} {L fa : Addr} {nm : Str} {sc : Scope} {cd : Value} {A : Around} {E : Value → Shared → Prop} {outer : List Env} {d : Nat} {C : Nat → List AV → List AV → (AV → List AV → Prop) → Prop}
  {s : Shared} {σ : S}
theorem get_set {σ : S} {i j : Nat} {v : AV} (hi : i < σ.loc.length) : (σ.set i v).get j = if j = i then some v else σ.get j := by
  unfold S.get S.set
  by_cases q : j = i
  · subst q
    simp [hi]
  · rw [if_neg q]
    show ((σ.loc.set i (some v))[j]?).join = _
    rw [List.getElem?_set_ne (Ne.symm q)]
theorem nodup_at {l : List Str} (h : l.Nodup) {i j : Nat} {x : Str} (hi : l[i]? = some x) (hj : l[j]? = some x) : j = i := by
  exact (List.getElem?_inj (List.getElem?_eq_some_iff.mp hj).1 h).mp (hj.trans hi.symm)
theorem store_ok {x : Str} {i : Nat} {v : Value} {av : AV} {Q : Unit → Shared → Prop} (H : Here A nm sc L fa cd outer d) (rep : Rep g L (vars sc) σ s.heap) (hx : isLoc sc x = some i) (rv : RelV g s.heap v av)
    (h : ∀ h' k, Kp g L s.heap h' → Rep g L (vars sc) (σ.set i av) h' → Q () { s with heap := h', toks := k }) : wpAny (model pw g.w) A (storeName (envOf nm sc L fa cd) x v) Q E s := by
  obtain ⟨h1, h2⟩ := isLoc_of hx
  obtain ⟨m, n, r⟩ := rep.ns
  have hp : (sc.kind == .class || (sc.kind == .module && ((envOf nm sc L fa cd)).locals != ((envOf nm sc L fa cd)).globals)) = false := by rw [H.hk]; rfl
  refine wpAny_storeName_local h1 n (fun h' n' sb => ?_) hp
  have kp : Kp g L s.heap h' := Kp.own n rep.nL sb
  refine h h' _ kp ⟨⟨_, n', fun j y aw hy ha => ?_⟩, ?_, rep.inv.kp kp (sb.2 _ (Ne.symm rep.Ld)), rep.nL, rep.Ld⟩
  · have hi : i < σ.loc.length := by rw [rep.len]; exact (List.getElem?_eq_some_iff.mp h2).1
    rw [get_set hi] at ha
    by_cases q : j = i
    · rw [if_pos q] at ha
      cases ha
      subst q
      rw [h2] at hy; cases hy
      exact ⟨v, by rw [if_pos rfl], rv.kp kp⟩
    · rw [if_neg q] at ha
      obtain ⟨u, hu, ru⟩ := r j y aw hy ha
      refine ⟨u, ?_, ru.kp kp⟩
      rw [if_neg]; exact hu
      rintro rfl
      exact q (nodup_at H.nod h2 hy)
  · show (σ.loc.set i (some av)).length = _
    rw [List.length_set]; exact rep.len
theorem setf_ok {x : Str} {f : Nat} {v : Value} {av : AV} {fs' : List AV} {Q : Unit → Shared → Prop} (rep : Rep g L (vars sc) σ s.heap) (hf : strIdx x fldNames 0 = some f) (rv : RelV g s.heap v av) (hs : setF σ.fs f av = some fs')
    (h : ∀ h' k, Kp g L s.heap h' → Rep g L (vars sc) ⟨σ.loc, fs'⟩ h' → Q () { s with heap := h', toks := k }) : wpAny (model pw g.w) A (setAttr (.ref g.x) x v) Q E s := by
  refine fld_set rep.inv (strIdx_get hf) rv hs fun h' k sb I => ?_
  obtain ⟨es0, n0', a0, b0⟩ := rep.inv.dict
  have kp : Kp g L s.heap h' := Kp.dx a0 rep.inv.nd sb
  obtain ⟨m, n, r⟩ := rep.ns
  refine h h' k kp ⟨⟨m, n.sameBut sb rep.Ld, fun j y aw hy ha => ?_⟩, rep.len, I, rep.nL, rep.Ld⟩
  obtain ⟨u, hu, ru⟩ := r j y aw hy ha
  exact ⟨u, hu, ru.kp kp⟩
theorem swaps_of {n : Nat} {e : Expr} {c : CE} {t : Option Expr} {l : Nat} {env : Env} (h : cE sc n e = some c) : swapsWith e t l env = pure false := by
  cases e <;> first | rfl | (cases n <;> cases h)
variable {Q : Fl → S → Prop}
theorem s_asg {x : Str} {xp pos : Pos} {e : Expr} {i : Nat} {c : CE} {n : Nat} (H : Here A nm sc L fa cd outer d) (ih : ∀ E, EOK g L fa nm sc cd A E outer C n) (hx : isLoc sc x = some i) (hc : cE sc n e = some c) (rep : Rep g L (vars sc) σ s.heap) (F : Frs g s.heap L outer)
    (w : wS tabs C (.asg i c) Q σ) : wpAny (model pw g.w) A (exec (.Assign [.Name x xp] e pos) (envOf nm sc L fa cd)) (Po g L sc s (RF g Q)) E s := by
  refine wpAny_Assign_Name (wpAny_mono (ih _ e c hc _ σ s rep F w) (fun v s₁ p => ?_) fun _ _ x => x) (swaps_of hc)
  obtain ⟨sm, kp, σ₁, rep₁, av, rv, q⟩ := p
  exact store_ok H rep₁ hx rv fun h' k kp' rep' => ⟨⟨sm.1, sm.2.1, sm.2.2⟩, kp.trans kp', _, rep', q⟩
theorem s_setf {x y : Str} {yp ap pos : Pos} {e : Expr} {i f : Nat} {c : CE} {n : Nat} (H : Here A nm sc L fa cd outer d) (ih : ∀ E, EOK g L fa nm sc cd A E outer C n) (hy : isLoc sc y = some i) (hf : strIdx x fldNames 0 = some f) (hc : cE sc n e = some c) (rep : Rep g L (vars sc) σ s.heap) (F : Frs g s.heap L outer)
    (w : wS tabs C (.setf (.var i) f c) Q σ) : wpAny (model pw g.w) A (exec (.Assign [.Attribute (.Name y yp) x ap] e pos) (envOf nm sc L fa cd)) (Po g L sc s (RF g Q)) E s := by
  refine plainObj_wpAny_Assign_Attribute (wpAny_mono (ih _ e c hc _ σ s rep F w) (fun v s₁ p => ?_) fun _ _ x => x) (swaps_of hc)
  obtain ⟨sm, kp, σ₁, rep₁, av, rv, w₁⟩ := p
  obtain ⟨v', hv, rfl, fs', hs, q⟩ := w₁
  refine var_get H rep₁ hy hv fun u ru => ?_
  have ru : u = .ref g.x := ru
  subst ru
  exact setf_ok rep₁ hf rv hs fun h' k kp' rep' => ⟨⟨sm.1, sm.2.1, sm.2.2⟩, kp.trans kp', _, rep', q⟩
theorem s_augl {x : Str} {xp pos : Pos} {e : Expr} {op : Operator} {i : Nat} {c : CE} {n : Nat} (H : Here A nm sc L fa cd outer d) (ih : ∀ E, EOK g L fa nm sc cd A E outer C n) (hx : isLoc sc x = some i) (hc : cE sc n e = some c) (rep : Rep g L (vars sc) σ s.heap) (F : Frs g s.heap L outer)
    (w : wS tabs C (.augl i op c) Q σ) : wpAny (model pw g.w) A (exec (.AugAssign (.Name x xp) op e pos) (envOf nm sc L fa cd)) (Po g L sc s (RF g Q)) E s := by
  obtain ⟨a, ha, w⟩ := w
  obtain ⟨h1, h2⟩ := isLoc_of hx
  obtain ⟨m, n', r⟩ := rep.ns
  obtain ⟨u, hu, ru⟩ := r i x a h2 ha
  refine wpAny_AugAssign_Name (wpAny_loadName_local H.hk h1 n' hu (wpAny_mono (ih _ e c hc _ σ s rep F w) (fun v s₁ p => ?_) fun _ _ x => x))
  obtain ⟨sm, kp, σ₁, rep₁, av, rv, v', ho, q⟩ := p
  refine op_iadd ho (ru.kp kp) rv fun z h' k kk rz => ?_
  exact store_ok (s := { s₁ with heap := h', toks := k }) H (rep₁.keep kk) hx rz fun h'' k kp' rep' => ⟨⟨sm.1, sm.2.1, sm.2.2⟩, (kp.trans (.ofKeeps kk)).trans kp', _, rep', q⟩
theorem s_augf {x y : Str} {yp ap pos : Pos} {e : Expr} {op : Operator} {i f : Nat} {c : CE} {n : Nat} (H : Here A nm sc L fa cd outer d) (ih : ∀ E, EOK g L fa nm sc cd A E outer C n) (hy : isLoc sc y = some i) (hf : strIdx x fldNames 0 = some f) (hc : cE sc n e = some c) (rep : Rep g L (vars sc) σ s.heap) (F : Frs g s.heap L outer)
    (w : wS tabs C (.augf (.var i) f op c) Q σ) : wpAny (model pw g.w) A (exec (.AugAssign (.Attribute (.Name y yp) x ap) op e pos) (envOf nm sc L fa cd)) (Po g L sc s (RF g Q)) E s := by
  obtain ⟨a, ha, rfl, b, hb, w⟩ := w
  refine wpAny_AugAssign_AttributeAny (var_get H rep hy ha fun u ru => ?_)
  have ru : u = .ref g.x := ru
  subst ru
  refine fld_read rep.inv (strIdx_get hf) hb fun old rold => ?_
  have w : wE tabs C c (fun y σ => ∃ v, opAug op b y = some v ∧ ∃ fs, setF σ.fs f v = some fs ∧ Q .next ⟨σ.loc, fs⟩) σ := w
  refine wpAny_mono (ih _ e c hc _ σ { s with toks := s.toks + 1 } rep F w) (fun v s₁ p => ?_) fun _ _ x => x
  obtain ⟨sm, kp, σ₁, rep₁, av, rv, v', ho, fs', hs, q⟩ := p
  refine op_iadd ho (rold.kp kp) rv fun z h' k kk rz => ?_
  exact setf_ok (s := { s₁ with heap := h', toks := k }) (rep₁.keep kk) hf rz hs fun h'' k kp' rep' => ⟨⟨sm.1, sm.2.1, sm.2.2⟩, (kp.trans (.ofKeeps kk)).trans kp', _, rep', q⟩
theorem scal_ref {v : Value} {a : AV} {h : Heap} (r : RelV g h v a) (hs : isScal a = true) : ∀ b, v ≠ .ref b := by
  cases a with
  | none => have r : v = .none := r; subst r; intro b q; cases q
  | bool t => have r : v = .bool t := r; subst r; intro b q; cases q
  | int i => obtain ⟨t, rfl⟩ := r; intro b q; cases q
  | str l => obtain ⟨_, t, rfl⟩ := r; intro b q; cases q
  | _ => cases hs
theorem s_ex {pos : Pos} {e : Expr} {c : CE} {n : Nat} (H : Here A nm sc L fa cd outer d) (ih : ∀ E, EOK g L fa nm sc cd A E outer C n) (hc : cE sc n e = some c) (rep : Rep g L (vars sc) σ s.heap) (F : Frs g s.heap L outer)
    (w : wS tabs C (.ex c) Q σ) : wpAny (model pw g.w) A (exec (.Expr e pos) (envOf nm sc L fa cd)) (Po g L sc s (RF g Q)) E s := by
  have hi : interactive (envOf nm sc L fa cd) = false := by
    unfold interactive
    have : ((envOf nm sc L fa cd)).scope.kind = .function := H.hk
    rw [this]; rfl
  refine wpAny_Expr (wpAny_mono (ih _ e c hc _ σ s rep F w) (fun v s₁ p => ?_) fun _ _ x => x) hi (swaps_of hc)
  obtain ⟨sm, kp, σ₁, rep₁, av, rv, hsc, q⟩ := p
  have nr := scal_ref rv hsc
  have fin : Po g L sc s (RF g Q) .next s₁ := ⟨sm, kp, σ₁, rep₁, q⟩
  cases v with
  | ref b => exact (nr b rfl).elim
  | _ => exact fin
theorem s_ret {pos : Pos} {e : Expr} {c : CE} {n : Nat} (ih : ∀ E, EOK g L fa nm sc cd A E outer C n) (hc : cE sc n e = some c) (rep : Rep g L (vars sc) σ s.heap) (F : Frs g s.heap L outer)
    (w : wS tabs C (.ret c) Q σ) : wpAny (model pw g.w) A (exec (.Return (some e) pos) (envOf nm sc L fa cd)) (Po g L sc s (RF g Q)) E s := by
  refine wpAny_Return_some (wpAny_mono (ih _ e c hc _ σ s rep F w) (fun v s₁ p => ?_) fun _ _ x => x)
  obtain ⟨sm, kp, σ₁, rep₁, av, rv, q⟩ := p
  exact ⟨sm, kp, σ₁, rep₁, av, rv, q⟩
theorem s_assert {pos : Pos} {e : Expr} {c : CE} {n : Nat} (it : ∀ E, TOK g L fa nm sc cd A E outer C n) (hc : cE sc n e = some c) (rep : Rep g L (vars sc) σ s.heap) (F : Frs g s.heap L outer)
    (w : wS tabs C (.assert c) Q σ) : wpAny (model pw g.w) A (exec (.Assert e none pos) (envOf nm sc L fa cd)) (Po g L sc s (RF g Q)) E s := by
  refine wpAny_Assert_holds (wpAny_mono (it _ e c hc _ σ s rep F w) (fun v s₁ p => ?_) fun _ _ x => x)
  obtain ⟨sm, kp, σ₁, rep₁, ht, q⟩ := p
  exact ⟨ht, sm, kp, σ₁, rep₁, q⟩
noncomputable abbrev SOK (g : G) (L fa : Addr) (nm : Str) (sc : Scope) (cd : Value) (A : Around) (outer : List Env) (C : Nat → List AV → List AV → (AV → List AV → Prop) → Prop) (st : List Stmt) (c : CS) : Prop :=
  ∀ (Q : Fl → S → Prop) (σ : S) (s : Shared), Rep g L (vars sc) σ s.heap → Frs g s.heap L outer → wS tabs C c Q σ → wpAny (model pw g.w) A (execs st (envOf nm sc L fa cd)) (Po g L sc s (RF g Q)) (PoX g L sc s Q) s
theorem s_if {pos : Pos} {e : Expr} {c : CE} {n : Nat} {a b : List Stmt} {x y : CS} (it : ∀ E, TOK g L fa nm sc cd A E outer C n) (hc : cE sc n e = some c) (ha : SOK g L fa nm sc cd A outer C a x) (hb : SOK g L fa nm sc cd A outer C b y)
    (rep : Rep g L (vars sc) σ s.heap) (F : Frs g s.heap L outer) (w : wS tabs C (.ite c x y) Q σ) : wpAny (model pw g.w) A (exec (.If e a b pos) (envOf nm sc L fa cd)) (Po g L sc s (RF g Q)) (PoX g L sc s Q) s := by
  refine wpAny_If (wpAny_mono (it _ e c hc _ σ s rep F w) (fun v s₁ p => ?_) fun _ _ x => x)
  obtain ⟨sm, kp, σ₁, rep₁, w₁, w₂⟩ := p
  cases v
  · exact liftF rep rep₁ sm kp (hb Q σ₁ s₁ rep₁ (F.kp (Nat.le_refl _) kp) (w₂ rfl))
  · exact liftF rep rep₁ sm kp (ha Q σ₁ s₁ rep₁ (F.kp (Nat.le_refl _) kp) (w₁ rfl))
theorem s_raise {l : Str} {lp cp pos : Pos} {k : Nat} (H : Here A nm sc L fa cd outer d) (hg : isGlob sc l = true) (hk : strIdx l labNames 0 = some k) (rep : Rep g L (vars sc) σ s.heap) (w : wS tabs C (.raise k) Q σ) :
    wpAny (model pw g.w) A (exec (.Raise (some (.Call (.Name l lp) [] [] cp)) none pos) (envOf nm sc L fa cd)) (Po g L sc s (RF g Q)) (PoX g L sc s Q) s := by
  have k3 : k < 3 := (List.getElem?_eq_some_iff.mp (strIdx_get hk)).1
  exact raise_ok H rep hg hk fun h' e kk x => ⟨e, k, σ, rfl, k3, .of s h' s.toks, .ofKeeps kk, rep.keep kk, x, w⟩
theorem s_try {l : Str} {lp hp pos pp : Pos} {k : Nat} {b : List Stmt} {x : CS} (H : Here A nm sc L fa cd outer d) (hg : isGlob sc l = true) (hk : strIdx l labNames 0 = some k) (hb : SOK g L fa nm sc cd A outer C b x)
    (rep : Rep g L (vars sc) σ s.heap) (F : Frs g s.heap L outer) (w : wS tabs C (.tryS x k) Q σ) :
    wpAny (model pw g.w) A (exec (.Try b [.ExceptHandler (some (.Name l lp)) none [.Pass pp] hp] [] [] pos) (envOf nm sc L fa cd)) (Po g L sc s (RF g Q)) (PoX g L sc s Q) s := by
  have k3 : k < 3 := (List.getElem?_eq_some_iff.mp (strIdx_get hk)).1
  obtain ⟨g1, g2⟩ := isGlob_of hg
  refine wpAny_Try_except (wpAny_mono (hb (tryK Q k) σ s rep F w) (fun f s₁ p => ?_) (fun e s₁ p => ?_))
  · obtain ⟨sm, kp, σ₁, rep₁, q⟩ := p
    cases f with
    | next => exact wpAny_execs_nil ⟨sm, kp, σ₁, rep₁, q⟩
    | brk => exact ⟨sm, kp, σ₁, rep₁, q⟩
    | cont => exact ⟨sm, kp, σ₁, rep₁, q⟩
    | ret v => exact ⟨sm, kp, σ₁, rep₁, q⟩
  · obtain ⟨e, j, σ₁, rfl, j3, sm, kp, rep₁, X, q1, q2⟩ := p
    have F₁ := F.kp (Nat.le_refl _) kp
    refine note_ok H rep₁ F₁ (und_of rep rep₁ kp) X fun h₂ y₂ x₂ => ?_
    have rep₂ := rep₁.ks y₂
    have kp₂ := kp.ks y₂
    refine flight_ok (.inl rfl) (und_of rep rep₂ kp₂) x₂ fun h₃ y₃ x₃ => ?_
    have rep₃ := rep₂.ks y₃
    have kp₃ := kp₂.ks y₃
    refine wpAny_handleBy_cons (codeAny_handlers_test (gname rep₃.inv.K (lab_name g.P k l hk) (exm_ok j3 k3 rep₃.inv.K x₃.at ?_) H.hk g1 g2)) (by intro z; cases z)
    by_cases z : j = k
    · simp only [z, decide_true, if_true]
      refine codeAny_handlers_suite (flight_ok (.inl rfl) (und_of rep rep₃ kp₃) x₃ fun h₄ y₄ x₄ => wpAny_execs_cons (wpAny_Pass (wpAny_execs_nil ?_)))
      exact ⟨⟨sm.1, sm.2.1, sm.2.2⟩, kp₃.ks y₄, σ₁, rep₃.ks y₄, q1 z⟩
    · simp only [z, decide_false]
      refine wpAny_handleBy_nil (pass_ok (und_of rep rep₃ kp₃) x₃ fun h₄ y₄ x₄ => ?_)
      exact ⟨e, j, σ₁, rfl, j3, ⟨sm.1, sm.2.1, sm.2.2⟩, kp₃.ks y₄, rep₃.ks y₄, x₄.at, q2 z⟩
end
end Sp
end
section
open PySem PySem.Builtin.Str PySem.W PySem.Calls PyProof.Rows
set_option maxRecDepth 100000
set_option maxHeartbeats 2000000
set_option linter.all false
namespace Sp
section
variable {g : G} {L fa : Addr} {nm : Str} {sc : Scope} {cd : Value} {A : Around} {E : Value → Shared → Prop} {outer : List Env} {d : Nat} {C : Nat → List AV → List AV → (AV → List AV → Prop) → Prop}
  {s : Shared} {σ : S} {Q : Fl → S → Prop}
/-- an exception that leaves a loop -/
theorem err_loop {s₁ : Shared} {e : Value} {again : S → Prop} (H : Here A nm sc L fa cd outer d) (rep : Rep g L (vars sc) σ s.heap) (F : Frs g s.heap L outer) (p : PoX g L sc s (loopK Q again) e s₁) :
    notedBy (model pw g.w) A (envOf nm sc L fa cd) (fun e s' => cameBackBy (model pw g.w) A (envOf nm sc L fa cd) (PoX g L sc s Q) e s') e s₁ := by
  obtain ⟨e, j, σ₁, rfl, j3, sm, kp, rep₁, X, q⟩ := p
  have F₁ := F.kp (Nat.le_refl _) kp
  refine note_ok H rep₁ F₁ (und_of rep rep₁ kp) X fun h₂ y₂ x₂ => ?_
  have rep₂ := rep₁.ks y₂
  have kp₂ := kp.ks y₂
  refine came_ok (s := { s₁ with heap := h₂ }) (und_of rep rep₂ kp₂) x₂ fun h₃ y₃ x₃ => ?_
  exact ⟨e, j, σ₁, rfl, j3, ⟨sm.1, sm.2.1, sm.2.2⟩, kp₂.ks y₃, rep₂.ks y₃, x₃.at, q⟩
theorem px_trans {s₁ : Shared} {σ₁ : S} {e : Value} {s₂ : Shared} {Q : Fl → S → Prop} (rep : Rep g L (vars sc) σ s.heap) (rep₁ : Rep g L (vars sc) σ₁ s₁.heap) (sm : Sm s s₁) (kp : Kp g L s.heap s₁.heap) (p : PoX g L sc s₁ Q e s₂) : PoX g L sc s Q e s₂ := by
  obtain ⟨e, k, σ₂, rfl, hk, sm₂, kp₂, rep₂, x, q⟩ := p
  exact ⟨e, k, σ₂, rfl, hk, sm.trans sm₂, kp.trans kp₂, rep₂, x.mono (kp_dom rep rep₁ kp), q⟩
theorem s_whl {pos : Pos} {e : Expr} {c : CE} {n : Nat} {b : List Stmt} {x : CS} (H : Here A nm sc L fa cd outer d) (it : ∀ E, TOK g L fa nm sc cd A E outer C n) (hc : cE sc n e = some c) (hb : SOK g L fa nm sc cd A outer C b x)
    (rep : Rep g L (vars sc) σ s.heap) (F : Frs g s.heap L outer) (w : wS tabs C (.whl c x) Q σ) : wpAny (model pw g.w) A (exec (.While e b [] pos) (envOf nm sc L fa cd)) (Po g L sc s (RF g Q)) (PoX g L sc s Q) s := by
  obtain ⟨N, w⟩ := w
  refine wpAny_While (codeAny_whileLoop (fun n s' => Sm s s' ∧ Kp g L s.heap s'.heap ∧ ∃ σ', Rep g L (vars sc) σ' s'.heap ∧ iterW (fun again σ => wT tabs C c (fun t σ => (t = true → wS tabs C x (loopK Q again) σ) ∧ (t = false → Q .next σ)) σ) n σ') ?_ N ⟨.refl _, .refl _, σ, rep, w⟩)
  rintro n s' ⟨sm, kp, σ', rep', w'⟩
  cases n with
  | zero => exact w'.elim
  | succ n =>
    have w' : wT tabs C c _ σ' := w'
    have F' := F.kp (Nat.le_refl _) kp
    refine wpAny_mono (it _ e c hc _ σ' s' rep' F' w') (fun t s₂ p => ?_) fun _ _ x => x
    obtain ⟨sm₂, kp₂, σ₂, rep₂, w₁, w₂⟩ := p
    have smA := sm.trans sm₂
    have kpA := kp.trans kp₂
    cases t
    · exact wpAny_execs_nil ⟨smA, kpA, σ₂, rep₂, w₂ rfl⟩
    · refine wpAny_mono (hb _ σ₂ s₂ rep₂ (F'.kp (Nat.le_refl _) kp₂) (w₁ rfl)) (fun f s₃ p => ?_) (fun ex s₃ p => ?_)
      · obtain ⟨sm₃, kp₃, σ₃, rep₃, q⟩ := p
        have smB := smA.trans sm₃
        have kpB := kpA.trans kp₃
        cases f with
        | next => exact ⟨n, Nat.lt_succ_self n, smB, kpB, σ₃, rep₃, q⟩
        | cont => exact ⟨n, Nat.lt_succ_self n, smB, kpB, σ₃, rep₃, q⟩
        | brk => exact ⟨smB, kpB, σ₃, rep₃, q⟩
        | ret v => obtain ⟨av, rv, q⟩ := q; exact ⟨smB, kpB, σ₃, rep₃, av, rv, q⟩
      · exact err_loop H rep F (px_trans rep rep₂ smA kpA p)
/-- what a walked thing is -/
structure Wk (g : G) (fp : List Addr) (I : Addr) (St : Nat → Heap → Prop) : Prop where
  fix : ∀ j h, St j h → ∀ b ∈ fp, ∃ o, h.get? b = some o ∧ ((∃ vs, o.data = .fields vs) ∨ Solid o = true)
  it : ∀ j h, St j h → ∃ o vs, h.get? I = some o ∧ o.data = .fields vs
  new : g.B.get? I = none
theorem walk_kw {fp : List Addr} {I : Addr} {St : Nat → Heap → Prop} {j : Nat} {h h' : Heap} (K : Wk g fp I St) (st : St j h) (k : ∀ b o, b ∉ [I] → h.get? b = some o → h'.get? b = some o) : Kw g L h h' := by
  obtain ⟨oI, vs, hI, hd⟩ := K.it j h st
  refine ⟨fun b o q e => k b o ?_ e, fun b o q e => k b o ?_ e, fun b o es n _ _ e d => ⟨o.slots, k b o ?_ e⟩⟩
  · intro z
    have z := List.mem_singleton.mp z
    subst z
    rw [K.new] at q; cases q
  · intro z
    have z := List.mem_singleton.mp z
    subst z
    rw [hI] at e; cases e
    unfold Solid at q; rw [hd] at q; cases q
  · intro z
    have z := List.mem_singleton.mp z
    subst z
    rw [hI] at e; cases e
    rw [hd] at d; cases d
theorem Rep.kw {V : List Str} {h h' : Heap} (R : Rep g L V σ h) (k : Kw g L h h') (h1 : h'.get? L = h.get? L) (h2 : h'.get? g.dx = h.get? g.dx) : Rep g L V σ h' := by
  obtain ⟨m, ⟨o, es, ep, ho, hd, hr⟩, r⟩ := R.ns
  refine ⟨⟨m, ⟨o, es, ep, h1.trans ho, hd, hr⟩, fun i x av e1 e2 => ?_⟩, R.len, R.inv.kw k h2, R.nL, R.Ld⟩
  obtain ⟨v, e, rv⟩ := r i x av e1 e2
  exact ⟨v, e, rv.kw k⟩
theorem for_ok {target : Expr} {I : Addr} {fp : List Addr} {items : List AV} {P : Nat → Value → Prop} {St : Nat → Heap → Prop} {b : List Stmt} {step : AV → (S → Prop) → S → Prop} {s₁ : Shared}
    (H : Here A nm sc L fa cd outer d) (W : Walks pw g.w A I fp [I] items.length P St) (K : Wk g fp I St)
    (hgo : ∀ (s' : Shared) (v : Value) (Q' : Unit → Shared → Prop) (E' : Value → Shared → Prop), (∃ j, St j s'.heap) → Q' () s' → wpAny (model pw g.w) A (letOwnedTupleGo target (.ref I) v) Q' E' s')
    (hturn : ∀ av v (s' : Shared) σ K E', step av K σ → RelV g s'.heap v av → Rep g L (vars sc) σ s'.heap → Frs g s'.heap L outer →
      wpAny (model pw g.w) A (assign target (envOf nm sc L fa cd) v) (fun _ s₂ => wpAny (model pw g.w) A (execs b (envOf nm sc L fa cd)) (Po g L sc s' (RF g (loopK Q K))) (PoX g L sc s' (loopK Q K)) s₂) E' s')
    (rep : Rep g L (vars sc) σ s.heap) (F : Frs g s.heap L outer) (hI : s.heap.get? I = none)
    (sm : Sm s s₁) (kp : Kp g L s.heap s₁.heap) {σ₁ : S} (rep₁ : Rep g L (vars sc) σ₁ s₁.heap) (st : St 0 s₁.heap) (hrel : ∀ j v, P j v → ∃ av, items[j]? = some av ∧ RelV g s₁.heap v av)
    (w : forW step (Q .next) items σ₁) :
    codeAny (model pw g.w) A (.forLoop target (.ref I) b [] (envOf nm sc L fa cd)) (fun r s' => match r with | .ok f => Po g L sc s (RF g Q) f s' | .error e => cameBackBy (model pw g.w) A (envOf nm sc L fa cd) (PoX g L sc s Q) e s') s₁ := by
  refine codeAny_forLoop_any (fun n s' => ∃ j σ', j + n = items.length ∧ Sm s s' ∧ Kp g L s.heap s'.heap ∧ Rep g L (vars sc) σ' s'.heap ∧ St j s'.heap ∧ (∀ j v, P j v → ∃ av, items[j]? = some av ∧ RelV g s'.heap v av) ∧ forW step (Q .next) (items.drop j) σ') ?_ items.length
    ⟨0, σ₁, Nat.zero_add _, sm, kp, rep₁, st, hrel, w⟩
  rintro n s' ⟨j, σ', hj, sm', kp', rep', st', hrel', w'⟩
  have F' := F.kp (Nat.le_refl _) kp'
  obtain ⟨oI, vI, hoI, hdI⟩ := K.it j _ st'
  have neL : L ≠ I := by
    rintro rfl
    obtain ⟨m, ⟨o, es, ep, ho, hd, hr⟩, r⟩ := rep'.ns
    rw [hoI] at ho; cases ho; rw [hdI] at hd; cases hd
  have neD : g.dx ≠ I := by
    rintro rfl
    obtain ⟨es, n, a, _⟩ := rep'.inv.dict
    rw [hoI] at a; cases a; cases hdI
  have step_ok : ∀ h', (∀ b o, b ∉ [I] → s'.heap.get? b = some o → h'.get? b = some o) → Rep g L (vars sc) σ' h' ∧ Kp g L s.heap h' ∧ Kw g L s'.heap h' := by
    intro h' k
    have kw : Kw g L s'.heap h' := walk_kw K st' k
    have liveL : h'.get? L = s'.heap.get? L := by
      obtain ⟨m, ⟨o, es, ep, ho, hd, hr⟩, r⟩ := rep'.ns
      rw [ho]; exact k _ _ (fun z => neL (List.mem_singleton.mp z)) ho
    have liveD : h'.get? g.dx = s'.heap.get? g.dx := by
      obtain ⟨es, n, a, _⟩ := rep'.inv.dict
      rw [a]; exact k _ _ (fun z => neD (List.mem_singleton.mp z)) a
    refine ⟨rep'.kw kw liveL liveD, ⟨kp'.toKw.trans kw, fun b o vs e d => k b o (fun z => ?_) (kp'.fld b o vs e d)⟩, kw⟩
    have z := List.mem_singleton.mp z
    subst z
    rw [hI] at e; cases e
  cases n with
  | zero =>
    have ej : j = items.length := by omega
    subst ej
    refine W.done s' _ _ st' fun h' tk k => ?_
    obtain ⟨rep₂, kp₂, kw⟩ := step_ok h' k
    rw [List.drop_length] at w'
    exact wpAny_execs_nil ⟨⟨sm'.1, sm'.2.1, sm'.2.2⟩, kp₂, σ', rep₂, w'⟩
  | succ n =>
    have hlt : j < items.length := by omega
    refine W.item j s' _ _ hlt st' fun v h' tk hP st₂ k => ?_
    obtain ⟨rep₂, kp₂, kw⟩ := step_ok h' k
    have hrel₂ : ∀ j v, P j v → ∃ av, items[j]? = some av ∧ RelV g h' v av := fun j v p => by
      obtain ⟨av, a, b⟩ := hrel' j v p
      exact ⟨av, a, b.kw kw⟩
    obtain ⟨av, hav, rv⟩ := hrel₂ j v hP
    have e : items.drop j = av :: items.drop (j + 1) := by
      obtain ⟨q1, q2⟩ := List.getElem?_eq_some_iff.mp hav
      rw [List.drop_eq_getElem_cons q1, q2]
    rw [e] at w'
    have w' : step av (forW step (Q .next) (items.drop (j + 1))) σ' := w'
    have sm₂ : Sm s { s' with heap := h', toks := tk } := ⟨sm'.1, sm'.2.1, sm'.2.2⟩
    refine hgo { s' with heap := h', toks := tk } v _ _ ⟨j + 1, st₂⟩ ?_
    refine wpAny_mono (hturn av v { s' with heap := h', toks := tk } σ' _ _ w' rv rep₂ (F.kp (Nat.le_refl _) kp₂)) (fun _ s₃ hb => wpAny_mono hb (fun f s₄ p => ?_) (fun ex s₄ p => ?_)) fun _ _ x => x
    · obtain ⟨sm₃, kp₃, σ₃, rep₃, q⟩ := p
      have smB := sm₂.trans sm₃
      have kpB := kp₂.trans kp₃
      have stn : St (j + 1) s₄.heap := by
        refine W.frame (j + 1) h' s₄.heap st₂ fun b hb o ho => ?_
        obtain ⟨o', q1, q2⟩ := K.fix (j + 1) h' st₂ b hb
        rw [ho] at q1; cases q1
        rcases q2 with ⟨vs, q2⟩ | q2
        · exact kp₃.fld b o vs ho q2
        · exact kp₃.solid b o q2 ho
      have hreln : ∀ j v, P j v → ∃ av, items[j]? = some av ∧ RelV g s₄.heap v av := fun j v p => by
        obtain ⟨av, a, b⟩ := hrel₂ j v p
        exact ⟨av, a, b.kp kp₃⟩
      cases f with
      | next => exact ⟨n, Nat.lt_succ_self n, j + 1, σ₃, by omega, smB, kpB, rep₃, stn, hreln, q⟩
      | cont => exact ⟨n, Nat.lt_succ_self n, j + 1, σ₃, by omega, smB, kpB, rep₃, stn, hreln, q⟩
      | brk => exact ⟨smB, kpB, σ₃, rep₃, q⟩
      | ret v => obtain ⟨av, rv, q⟩ := q; exact ⟨smB, kpB, σ₃, rep₃, av, rv, q⟩
    · exact err_loop H rep F (px_trans rep rep₂ sm₂ kp₂ p)
end
end Sp
end
section
open PySem PySem.Builtin.Str PySem.W PySem.Calls PyProof.Rows
set_option maxRecDepth 100000
set_option maxHeartbeats 2000000
set_option linter.all false
namespace Sp
section
variable {g : G} {L fa : Addr} {nm : Str} {sc : Scope} {cd : Value} {A : Around} {E : Value → Shared → Prop} {outer : List Env} {d : Nat} {C : Nat → List AV → List AV → (AV → List AV → Prop) → Prop}
  {s : Shared} {σ : S} {Q : Fl → S → Prop}
theorem base_new (rep : Rep g L (vars sc) σ s.heap) : g.B.get? s.heap.objs.size = none := by
  cases q : g.B.get? s.heap.objs.size with
  | none => rfl
  | some o => have w := rep.inv.stay _ o q; exact absurd (Heap.lt_size w) (Nat.lt_irrefl _)
/-- a list is walked -/
theorem list_walk {a : Addr} {vs : List Value} {l : List AV} {s₁ : Shared} (hh : A.handled = none) (rep : Rep g L (vars sc) σ s₁.heap) (hl : s₁.heap.IsList a vs.toArray) (r : LR (RelV g s₁.heap) vs l) {Q' : Value → Shared → Prop}
    (h : ∀ (P : Nat → Value → Prop) (St : Nat → Heap → Prop) (h' : Heap), (∀ b o, s₁.heap.get? b = some o → h'.get? b = some o) → Walks pw g.w A s₁.heap.objs.size [s₁.heap.objs.size, a] [s₁.heap.objs.size] l.length P St → Wk g [s₁.heap.objs.size, a] s₁.heap.objs.size St → St 0 h' →
      (∀ j h, St j h → h.IsListIter s₁.heap.objs.size a j) → (∀ j v, P j v → ∃ av, l[j]? = some av ∧ RelV g h' v av) → Q' (.ref s₁.heap.objs.size) { s₁ with heap := h' }) : wpAny (model pw g.w) A (pyIter (.ref a)) Q' E s₁ := by
  have kp : ∀ b o, s₁.heap.get? b = some o → (s₁.heap.push { cls := .type "list_iterator", data := .fields #[.ref a, .int 0 0] }).get? b = some o := fun _ _ e => Heap.get?_push_of_some _ e
  have hne : a ≠ s₁.heap.objs.size := by obtain ⟨o, ho, _⟩ := hl; exact Nat.ne_of_lt (Heap.lt_size ho)
  refine wpAny_pyIter_list hl (h (fun i v => vs.toArray[i]? = some v) (fun i h => h.IsListIter s₁.heap.objs.size a i ∧ h.IsList a vs.toArray) _ kp ?_ ?_ ?_ (fun j h st => st.1) ?_)
  · have e : l.length = vs.toArray.size := by rw [List.size_toArray, r.len]
    rw [e]
    exact Walks.list hh _ a hne _
  · refine ⟨fun j h st b hb => ?_, fun j h st => ?_, base_new rep⟩
    · rcases List.mem_cons.mp hb with rfl | hb
      · obtain ⟨⟨o, ho, _, hd⟩, _⟩ := st; exact ⟨o, ho, .inl ⟨_, hd⟩⟩
      · rcases List.mem_cons.mp hb with rfl | hb
        · obtain ⟨_, o, ho, _, n, hd⟩ := st; exact ⟨o, ho, .inr (by unfold Solid; rw [hd])⟩
        · cases hb
    · obtain ⟨⟨o, ho, _, hd⟩, _⟩ := st; exact ⟨o, _, ho, hd⟩
  · exact ⟨⟨_, Heap.get?_push_size _ rfl, rfl, rfl⟩, hl.push _⟩
  · intro j v p
    have p : vs[j]? = some v := by simpa using p
    have hlt : j < l.length := by rw [← r.len]; exact (List.getElem?_eq_some_iff.mp p).1
    obtain ⟨v', q1, q2⟩ := r.get (List.getElem?_eq_getElem hlt)
    rw [p] at q1; cases q1
    exact ⟨_, List.getElem?_eq_getElem hlt, q2.kp (.ofKeeps (L := L) kp)⟩
theorem str_walk {l : List Nat} {t : Tok} {s₁ : Shared} (hh : A.handled = none) (hz : l.length ≤ lim) (rep : Rep g L (vars sc) σ s₁.heap) {Q' : Value → Shared → Prop}
    (h : ∀ (P : Nat → Value → Prop) (St : Nat → Heap → Prop) (h' : Heap), (∀ b o, s₁.heap.get? b = some o → h'.get? b = some o) → Walks pw g.w A s₁.heap.objs.size [s₁.heap.objs.size] [s₁.heap.objs.size] (l.map fun c => AV.str [c]).length P St → Wk g [s₁.heap.objs.size] s₁.heap.objs.size St → St 0 h' →
      (∀ j v, P j v → ∃ av, (l.map fun c => AV.str [c])[j]? = some av ∧ RelV g h' v av) → Q' (.ref s₁.heap.objs.size) { s₁ with heap := h' }) : wpAny (model pw g.w) A (pyIter (.str ⟨l.toArray⟩ t)) Q' E s₁ := by
  have go : ∀ ty : String, (Walks pw g.w A s₁.heap.objs.size [s₁.heap.objs.size] [s₁.heap.objs.size] (⟨l.toArray⟩ : Str).cps.size (SignAt ⟨l.toArray⟩) (fun i h => h.IsStrIter s₁.heap.objs.size ty ⟨l.toArray⟩ t i)) →
      Q' (.ref s₁.heap.objs.size) { s₁ with heap := s₁.heap.push { cls := .type ty, data := .fields #[.str ⟨l.toArray⟩ t, .int 0 0] } } := by
    intro ty W
    refine h (SignAt ⟨l.toArray⟩) (fun i h => h.IsStrIter s₁.heap.objs.size ty ⟨l.toArray⟩ t i) _ (fun _ _ e => Heap.get?_push_of_some _ e) (by rw [List.length_map]; simpa using W) ⟨fun j h st b hb => ?_, fun j h st => ?_, base_new rep⟩ ⟨_, Heap.get?_push_size _ rfl, rfl, rfl⟩ ?_
    · have hb := List.mem_singleton.mp hb
      subst hb
      obtain ⟨o, ho, _, hd⟩ := st; exact ⟨o, ho, .inl ⟨_, hd⟩⟩
    · obtain ⟨o, ho, _, hd⟩ := st; exact ⟨o, _, ho, hd⟩
    · rintro j v ⟨c, u, hc, rfl⟩
      have hc : l[j]? = some c := by simpa using hc
      exact ⟨.str [c], by rw [List.getElem?_map, hc]; rfl, by show 1 ≤ lim; decide, u, rfl⟩
  cases ha : (⟨l.toArray⟩ : Str).cps.all (· < 128)
  · exact wpAny_pyIter_wide ha (go _ (Walks.strWide hh _ _ t))
  · exact wpAny_pyIter_ascii ha (go _ (Walks.strAscii hh _ _ t))
theorem LR.map {α β : Type} {R : Value → α → Prop} {R' : Value → β → Prop} {f : α → β} : ∀ {vs : List Value} {as : List α}, LR R vs as → (∀ v a, R v a → R' v (f a)) → LR R' vs (as.map f)
  | [], [], _, _ => trivial
  | v :: vs, a :: as, ⟨x, y⟩, h => ⟨h v a x, LR.map y h⟩
  | [], _ :: _, x, _ => x.elim
  | _ :: _, [], x, _ => x.elim
theorem turn_name {x : Str} {xp : Pos} {i : Nat} {b : List Stmt} {y : CS} (H : Here A nm sc L fa cd outer d) (hx : isLoc sc x = some i) (hb : SOK g L fa nm sc cd A outer C b y) (av : AV) (v : Value) (s' : Shared) (σ : S) (K : S → Prop) (E' : Value → Shared → Prop)
    (w : wS tabs C y (loopK Q K) (σ.set i av)) (rv : RelV g s'.heap v av) (rep : Rep g L (vars sc) σ s'.heap) (F : Frs g s'.heap L outer) :
    wpAny (model pw g.w) A (assign (.Name x xp) (envOf nm sc L fa cd) v) (fun _ s₂ => wpAny (model pw g.w) A (execs b (envOf nm sc L fa cd)) (Po g L sc s' (RF g (loopK Q K))) (PoX g L sc s' (loopK Q K)) s₂) E' s' :=
  wpAny_assign_Name (store_ok H rep hx rv fun h' k kp rep' => liftF rep rep' ⟨rfl, rfl, rfl⟩ kp (hb _ _ { s' with heap := h', toks := k } rep' (F.kp (Nat.le_refl _) kp) w))
theorem s_forL {x t : Str} {xp tp pos : Pos} {i : Nat} {e : CE} {b : List Stmt} {y : CS} {n : Nat} (H : Here A nm sc L fa cd outer d) (ih : ∀ E, EOK g L fa nm sc cd A E outer C n) (hx : isLoc sc x = some i) (hc : cE sc n (.Name t tp) = some e) (hb : SOK g L fa nm sc cd A outer C b y)
    (rep : Rep g L (vars sc) σ s.heap) (F : Frs g s.heap L outer) (w : wS tabs C (.forL i e y) Q σ) :
    wpAny (model pw g.w) A (exec (.For (.Name x xp) (.Name t tp) b [] pos) (envOf nm sc L fa cd)) (Po g L sc s (RF g Q)) (PoX g L sc s Q) s := by
  refine wpAny_For (wpAny_mono (ih _ _ e hc _ σ s rep F w) (fun v s₁ p => ?_) fun _ _ x => x)
  obtain ⟨sm, kp, σ₁, rep₁, av, rv, l, hl, w₁⟩ := p
  have F₁ := F.kp (Nat.le_refl _) kp
  have hI : s.heap.get? s₁.heap.objs.size = none := kp_dom rep rep₁ kp _ (Heap.get?_none_of_le (Nat.le_refl _))
  have hgo : ∀ (s' : Shared) (v : Value) (Q' : Unit → Shared → Prop) (E' : Value → Shared → Prop), Q' () s' → wpAny (model pw g.w) A (letOwnedTupleGo (.Name x xp) (.ref s₁.heap.objs.size) v) Q' E' s' := fun s' v Q' E' q => wpAny_pure q
  have lists : ∀ (a : Addr) (vs : List Value), s₁.heap.IsList a vs.toArray → LR (RelV g s₁.heap) vs l → v = .ref a → wpAny (model pw g.w) A (pyIter v) (fun it s₂ => codeAny (model pw g.w) A (.forLoop (.Name x xp) it b [] (envOf nm sc L fa cd)) (fun r s' => match r with | .ok f => Po g L sc s (RF g Q) f s' | .error e => cameBackBy (model pw g.w) A (envOf nm sc L fa cd) (PoX g L sc s Q) e s') s₂) (PoX g L sc s Q) s₁ := by
    rintro a vs hl r rfl
    refine list_walk H.hh rep₁ hl r fun P St h' k W K st li hrel => ?_
    exact for_ok (s₁ := { s₁ with heap := h' }) H W K (fun s' v Q' E' _ q => hgo s' v Q' E' q) (fun av v s' σ K E' w rv rep F => turn_name H hx hb av v s' σ K E' w rv rep F) rep F hI ⟨sm.1, sm.2.1, sm.2.2⟩ (kp.trans (.ofKeeps k)) (rep₁.keep k) st hrel w₁
  cases av with
  | str q =>
    cases hl
    obtain ⟨hz, u, rfl⟩ := rv
    refine str_walk H.hh hz rep₁ fun P St h' k W K st hrel => ?_
    exact for_ok (s₁ := { s₁ with heap := h' }) H W K (fun s' v Q' E' _ q => hgo s' v Q' E' q) (fun av v s' σ K E' w rv rep F => turn_name H hx hb av v s' σ K E' w rv rep F) rep F hI ⟨sm.1, sm.2.1, sm.2.2⟩ (kp.trans (.ofKeeps k)) (rep₁.keep k) st hrel w₁
  | «ints» q =>
    cases hl
    obtain ⟨a, vs, rfl, hl, r, _⟩ := rv
    exact lists a vs hl (r.map fun _ _ x => x) rfl
  | rules q =>
    cases hl
    obtain ⟨a, vs, rfl, hl, r⟩ := rv
    exact lists a vs hl (r.map fun _ _ x => x) rfl
  | _ => exact none_inv hl
end
end Sp
end
section
open PySem PySem.Builtin.Str PySem.W PySem.Calls PyProof.Rows
set_option maxRecDepth 100000
set_option maxHeartbeats 2000000
set_option linter.all false
namespace Sp
theorem rsize1 {a b : Int} {l : List AV} (h : rangeL a b 1 = some l) : Builtin.Range.rangeSize a b 1 = (l.length : Int) ∧ Builtin.Range.small a b 1 = true ∧ ∀ j, j < l.length → l[j]? = some (.int (a + (j : Int) * 1)) := by
  unfold rangeL at h
  split at h
  · rename_i hb
    simp only [if_true] at h
    cases h
    unfold lim at hb
    refine ⟨?_, ?_, fun j hj => ?_⟩
    · rw [rangeSize_one, List.length_map, List.length_range]; split <;> omega
    · refine small_one ?_ ?_ ?_ ?_ <;> omega
    · rw [List.length_map, List.length_range] at hj
      rw [List.getElem?_map, List.getElem?_range hj, Int.mul_one]; rfl
  · cases h
theorem rsize2 {a b : Int} {l : List AV} (h : rangeL a b (-1) = some l) : Builtin.Range.rangeSize a b (-1) = (l.length : Int) ∧ Builtin.Range.small a b (-1) = true ∧ ∀ j, j < l.length → l[j]? = some (.int (a + (j : Int) * (-1))) := by
  unfold rangeL at h
  split at h
  · rename_i hb
    rw [if_neg (by decide), if_pos rfl] at h
    cases h
    unfold lim at hb
    have sz : Builtin.Range.rangeSize a b (-1) = (((List.range (a - b).toNat).map fun (k : Nat) => AV.int (a - k)).length : Int) := by
      unfold Builtin.Range.rangeSize
      rw [if_neg (by decide), List.length_map, List.length_range]
      split
      · rw [show -(-1 : Int) = 1 from rfl, Int.ediv_one]; omega
      · omega
    refine ⟨sz, ?_, fun j hj => ?_⟩
    · unfold Builtin.Range.small
      rw [sz, List.length_map, List.length_range]
      simp only [Builtin.Range.rangeFitsLong, Bool.and_eq_true, Bool.or_eq_true, decide_eq_true_eq, beq_iff_eq, show ¬ ((-1 : Int) > 0) by decide, if_false]
      omega
    · rw [List.length_map, List.length_range] at hj
      rw [List.getElem?_map, List.getElem?_range hj]
      show some (AV.int (a - (j : Int))) = _
      congr 2; omega
  · cases h
section
variable {g : G} {L fa : Addr} {nm : Str} {sc : Scope} {cd : Value} {A : Around} {E : Value → Shared → Prop} {outer : List Env} {d : Nat} {C : Nat → List AV → List AV → (AV → List AV → Prop) → Prop}
  {s : Shared} {σ : S} {Q : Fl → S → Prop}
/-- a range is walked -/
theorem range_loop {x : Str} {xp : Pos} {i : Nat} {b : List Stmt} {y : CS} {p q st : Int} {l : List AV} {t u v : Tok} {s₁ : Shared} {σ₁ : S} {r : Addr} (H : Here A nm sc L fa cd outer d) (hx : isLoc sc x = some i) (hb : SOK g L fa nm sc cd A outer C b y)
    (hr : IsRange s₁.heap r p q st t u v) (hs : Builtin.Range.rangeSize p q st = (l.length : Int)) (hsm : Builtin.Range.small p q st = true) (hl : ∀ j, j < l.length → l[j]? = some (.int (p + (j : Int) * st)))
    (rep : Rep g L (vars sc) σ s.heap) (F : Frs g s.heap L outer) (sm : Sm s s₁) (kp : Kp g L s.heap s₁.heap) (rep₁ : Rep g L (vars sc) σ₁ s₁.heap)
    (w : forW (fun v again σ => wS tabs C y (loopK Q again) (σ.set i v)) (Q .next) l σ₁) :
    wpAny (model pw g.w) A (pyIter (.ref r)) (fun it s₂ => codeAny (model pw g.w) A (.forLoop (.Name x xp) it b [] (envOf nm sc L fa cd)) (fun r s' => match r with | .ok f => Po g L sc s (RF g Q) f s' | .error e => cameBackBy (model pw g.w) A (envOf nm sc L fa cd) (PoX g L sc s Q) e s') s₂) (PoX g L sc s Q) s₁ := by
  refine wpAny_pyIter_range hr hsm ?_
  have kk : ∀ b o, s₁.heap.get? b = some o → (s₁.heap.push { cls := .type "range_iterator", data := .fields #[rawInt p, rawInt (Builtin.Range.rangeSize p q st), rawInt st] }).get? b = some o := fun _ _ e => Heap.get?_push_of_some _ e
  have hI : s.heap.get? s₁.heap.objs.size = none := kp_dom rep rep₁ kp _ (Heap.get?_none_of_le (Nat.le_refl _))
  refine for_ok (s₁ := { s₁ with heap := _ }) H (Walks.range H.hh s₁.heap.objs.size p st l.length).bound ⟨fun j h st b hb => ?_, fun j h st => ⟨_, _, st, rfl⟩, base_new rep₁⟩ (fun s' v Q' E' _ q => wpAny_pure q)
    (fun av v s' σ K E' w rv rep F => turn_name H hx hb av v s' σ K E' w rv rep F) rep F hI ⟨sm.1, sm.2.1, sm.2.2⟩ (kp.trans (.ofKeeps kk)) (rep₁.keep kk) ?_ ?_ w
  · have hb := List.mem_singleton.mp hb
    subst hb
    exact ⟨_, st, .inl ⟨_, rfl⟩⟩
  · rw [hs]
    have e1 : p + ((0 : Nat) : Int) * st = p := by simp
    have e2 : (l.length : Int) - ((0 : Nat) : Int) = (l.length : Int) := by simp
    show IsRangeIter _ _ (p + ((0 : Nat) : Int) * st) ((l.length : Int) - ((0 : Nat) : Int)) st
    rw [e1, e2]
    exact Heap.get?_push_size _ rfl
  · rintro j v ⟨hj, t, rfl⟩
    exact ⟨_, hl j hj, t, rfl⟩
theorem s_forR {x f : Str} {xp fp cp pos : Pos} {i : Nat} {a c : CE} {p q : Expr} {b : List Stmt} {y : CS} {n : Nat} (H : Here A nm sc L fa cd outer d) (ih : ∀ E, EOK g L fa nm sc cd A E outer C n) (hx : isLoc sc x = some i) (hf : f = "range") (hg : isGlob sc f = true)
    (h1 : cE sc n p = some a) (h2 : cE sc n q = some c) (hb : SOK g L fa nm sc cd A outer C b y) (rep : Rep g L (vars sc) σ s.heap) (F : Frs g s.heap L outer) (w : wS tabs C (.forR i a c 1 y) Q σ) :
    wpAny (model pw g.w) A (exec (.For (.Name x xp) (.Call (.Name f fp) [p, q] [] cp) b [] pos) (envOf nm sc L fa cd)) (Po g L sc s (RF g Q)) (PoX g L sc s Q) s := by
  obtain ⟨g1, g2⟩ := isGlob_of hg
  subst hf
  refine wpAny_For (wpAny_Call_NameR (bname rep.inv.K (bi_range g.P).1 (bi_range g.P).2 ?_ H.hk g1 g2))
  refine PyProof.Rows.callWith_type (args_plain (args2 h1 h2)).1 (evalArgs_all (args_plain (args2 h1 h2)).1 ?_)
  rw [starEach_of h1]
  refine spliced_cons ?_
  rw [starEach_of h2]
  refine wpAny_mono (ih _ p a h1 _ σ s rep F w) (fun u s₁ p₁ => ?_) fun _ _ x => x
  obtain ⟨sm₁, kp₁, σ₁, rep₁, av, ru, w₁⟩ := p₁
  have F₁ := F.kp (Nat.le_refl _) kp₁
  refine spliced_cons (wpAny_mono (ih _ q c h2 _ σ₁ s₁ rep₁ F₁ w₁) (fun v s₂ p₂ => spliced_nil ?_) fun _ _ x => x)
  obtain ⟨sm₂, kp₂, σ₂, rep₂, bv, rv, P, Z, l, rfl, rfl, hl, w₂⟩ := p₂
  obtain ⟨t, rfl⟩ := ru
  obtain ⟨t', rfl⟩ := rv
  refine call_range_2 ?_
  obtain ⟨z1, z2, z3⟩ := rsize1 hl
  have kk : ∀ b o, s₂.heap.get? b = some o → (s₂.heap.push { cls := .type "range", data := .fields #[.int P t, .int Z t', .int 1 s₂.toks] }).get? b = some o := fun _ _ e => Heap.get?_push_of_some _ e
  exact range_loop (s₁ := { s₂ with heap := _, toks := _ }) H hx hb (IsRange.new ..) z1 z2 z3 rep F ⟨(sm₁.trans sm₂).1, (sm₁.trans sm₂).2.1, (sm₁.trans sm₂).2.2⟩ ((kp₁.trans kp₂).trans (.ofKeeps kk)) (rep₂.keep kk) w₂
theorem s_forD {x f : Str} {xp fp cp pos op1 up : Pos} {k1 : Nat} {i : Nat} {a c : CE} {p q : Expr} {b : List Stmt} {y : CS} {n : Nat} (H : Here A nm sc L fa cd outer d) (ih : ∀ E, EOK g L fa nm sc cd A E outer C (n + 2)) (hx : isLoc sc x = some i) (hf : f = "range") (hg : isGlob sc f = true)
    (h1 : cE sc (n + 2) p = some a) (h2 : cE sc (n + 2) q = some c) (hb : SOK g L fa nm sc cd A outer C b y) (rep : Rep g L (vars sc) σ s.heap) (F : Frs g s.heap L outer) (w : wS tabs C (.forR i a c (-1) y) Q σ) :
    wpAny (model pw g.w) A (exec (.For (.Name x xp) (.Call (.Name f fp) [p, q, .UnaryOp .USub (.Constant (.int 1) k1 op1) up] [] cp) b [] pos) (envOf nm sc L fa cd)) (Po g L sc s (RF g Q)) (PoX g L sc s Q) s := by
  obtain ⟨g1, g2⟩ := isGlob_of hg
  subst hf
  have h3 : cE sc (n + 2) (.UnaryOp .USub (.Constant (.int 1) k1 op1) up) = some (.neg (.int 1)) := rfl
  have hA : cArgs (cE sc (n + 2)) [p, q, .UnaryOp .USub (.Constant (.int 1) k1 op1) up] = some (.cons a (.cons c (.cons (.neg (.int 1)) .nil))) := by
    show o2 CE.cons (cE sc (n + 2) p) (cArgs (cE sc (n + 2)) [q, .UnaryOp .USub (.Constant (.int 1) k1 op1) up]) = _
    rw [h1, args2 h2 h3]; rfl
  refine wpAny_For (wpAny_Call_NameR (bname rep.inv.K (bi_range g.P).1 (bi_range g.P).2 ?_ H.hk g1 g2))
  refine PyProof.Rows.callWith_type (args_plain hA).1 (evalArgs_all (args_plain hA).1 ?_)
  rw [starEach_of h1]
  refine spliced_cons ?_
  rw [starEach_of h2]
  refine wpAny_mono (ih _ p a h1 _ σ s rep F w) (fun u s₁ p₁ => ?_) fun _ _ x => x
  obtain ⟨sm₁, kp₁, σ₁, rep₁, av, ru, w₁⟩ := p₁
  have F₁ := F.kp (Nat.le_refl _) kp₁
  refine spliced_cons (wpAny_mono (ih _ q c h2 _ σ₁ s₁ rep₁ F₁ w₁) (fun v s₂ p₂ => ?_) fun _ _ x => x)
  obtain ⟨sm₂, kp₂, σ₂, rep₂, bv, rv, P, Z, l, rfl, rfl, hl, w₂⟩ := p₂
  have F₂ := F₁.kp (Nat.le_refl _) kp₂
  rw [starEach_of h3]
  have w₃ : wE tabs C (.neg (.int 1)) (fun z σ => z = .int (-1) ∧ forW (fun v again σ => wS tabs C y (loopK Q again) (σ.set i v)) (Q .next) l σ) σ₂ := by
    exact ⟨_, rfl, rfl, w₂⟩
  refine spliced_cons (wpAny_mono (ih _ _ _ h3 _ σ₂ s₂ rep₂ F₂ w₃) (fun z s₃ p₃ => spliced_nil ?_) fun _ _ x => x)
  obtain ⟨sm₃, kp₃, σ₃, rep₃, zv, rz, rfl, w₄⟩ := p₃
  obtain ⟨t, rfl⟩ := ru
  obtain ⟨t', rfl⟩ := rv
  obtain ⟨t'', rfl⟩ := rz
  refine call_range_3 (by decide) ?_
  obtain ⟨z1, z2, z3⟩ := rsize2 hl
  have kk : ∀ b o, s₃.heap.get? b = some o → (s₃.heap.push { cls := .type "range", data := .fields #[.int P t, .int Z t', .int (-1) t''] }).get? b = some o := fun _ _ e => Heap.get?_push_of_some _ e
  have smA := (sm₁.trans sm₂).trans sm₃
  exact range_loop (s₁ := { s₃ with heap := _, toks := _ }) H hx hb (IsRange.new ..) z1 z2 z3 rep F ⟨smA.1, smA.2.1, smA.2.2⟩ (((kp₁.trans kp₂).trans kp₃).trans (.ofKeeps kk)) (rep₃.keep kk) w₄
theorem s_forT {x y z t : Str} {xp yp zp tp cp pos : Pos} {cx : Nat} {i j k : Nat} {e : CE} {b : List Stmt} {bc : CS} {n : Nat} (H : Here A nm sc L fa cd outer d) (ih : ∀ E, EOK g L fa nm sc cd A E outer C n) (hx : isLoc sc x = some i) (hy : isLoc sc y = some j) (hz : isLoc sc z = some k)
    (hc : cE sc n (.Name t tp) = some e) (hb : SOK g L fa nm sc cd A outer C b bc)
    (rep : Rep g L (vars sc) σ s.heap) (F : Frs g s.heap L outer) (w : wS tabs C (.forT i j k e bc) Q σ) :
    wpAny (model pw g.w) A (exec (.For (.Tuple [.Name x xp, .Name y yp, .Name z zp] cx cp) (.Name t tp) b [] pos) (envOf nm sc L fa cd)) (Po g L sc s (RF g Q)) (PoX g L sc s Q) s := by
  refine wpAny_For (wpAny_mono (ih _ _ e hc _ σ s rep F w) (fun v s₁ p => ?_) fun _ _ x => x)
  obtain ⟨sm, kp, σ₁, rep₁, av, rv, l, rfl, w₁⟩ := p
  have F₁ := F.kp (Nat.le_refl _) kp
  have hI : s.heap.get? s₁.heap.objs.size = none := kp_dom rep rep₁ kp _ (Heap.get?_none_of_le (Nat.le_refl _))
  obtain ⟨a, vs, rfl, hl, r⟩ := rv
  refine list_walk H.hh rep₁ hl (l := l.map .rule) (r.map fun _ _ x => x) fun P St h' kk W K st li hrel => ?_
  refine for_ok (s₁ := { s₁ with heap := h' }) H W K ?_ ?_ rep F hI ⟨sm.1, sm.2.1, sm.2.2⟩ (kp.trans (.ofKeeps kk)) (rep₁.keep kk) st hrel w₁
  · rintro s' v Q' E' ⟨m, st'⟩ q
    obtain ⟨o, ho, hcl, hd⟩ := li m _ st'
    unfold letOwnedTupleGo
    cases v with
    | ref b =>
      refine wpAny_bind (wpAny_load ho ?_)
      rw [hcl, hd]
      exact wpAny_pure q
    | _ => exact wpAny_pure q
  · rintro av v s' σ K E' ⟨r, rfl, w⟩ rv rep F
    obtain ⟨ta, v1, v2, v3, o, rfl, ho, hcl, ⟨m, hd⟩, r1, r2, r3⟩ := rv
    refine wpAny_assign_Tuple H.hh ⟨o, ho, hcl, m, hd⟩ rfl rfl fun h₁ ex => ?_
    have k₁ : ∀ b o, s'.heap.get? b = some o → h₁.get? b = some o := fun b o e => ex b o (Nat.ne_of_lt (Heap.lt_size e)) e
    have kp₁ : Kp g L s'.heap h₁ := .ofKeeps k₁
    have a1 : RelV g h₁ v1 (.strs r.ends) := RelV.kp (a := .strs r.ends) r1 kp₁
    have a2 : RelV g h₁ v2 (.str r.ins) := r2
    have a3 : RelV g h₁ v3 (.strs r.fur) := RelV.kp (a := .strs r.fur) r3 kp₁
    show wpAny _ _ (assignInOrder [assign (.Name x xp) (envOf nm sc L fa cd), assign (.Name y yp) (envOf nm sc L fa cd), assign (.Name z zp) (envOf nm sc L fa cd)] [v1, v2, v3]) _ _ _
    unfold assignInOrder
    refine wpAny_bind (wpAny_holding (wpAny_assign_Name (store_ok (s := { s' with heap := h₁ }) H (rep.keep k₁) hx a1 fun h₂ t₂ kp₂ rep₂ => ?_)))
    unfold assignInOrder
    refine wpAny_bind (wpAny_holding (wpAny_assign_Name (store_ok (s := { s' with heap := h₂, toks := t₂ }) H rep₂ hy (a2.kp kp₂) fun h₃ t₃ kp₃ rep₃ => ?_)))
    unfold assignInOrder
    refine wpAny_bind (wpAny_holding (wpAny_assign_Name (store_ok (s := { s' with heap := h₃, toks := t₃ }) H rep₃ hz ((a3.kp kp₂).kp kp₃) fun h₄ t₄ kp₄ rep₄ => ?_)))
    unfold assignInOrder
    refine wpAny_pure ?_
    have kpA := ((kp₁.trans kp₂).trans kp₃).trans kp₄
    exact liftF rep rep₄ ⟨rfl, rfl, rfl⟩ kpA (hb _ _ { s' with heap := h₄, toks := t₄ } rep₄ (F.kp (Nat.le_refl _) kpA) w)
end
end Sp
end
section
open PySem PySem.Builtin.Str PySem.W PySem.Calls PyProof.Rows
set_option maxRecDepth 100000
set_option maxHeartbeats 2000000
set_option linter.all false
namespace Sp
section
variable {g : G} {L fa : Addr} {nm : Str} {sc : Scope} {cd : Value} {A : Around} {outer : List Env} {d : Nat} {C : Nat → List AV → List AV → (AV → List AV → Prop) → Prop}
  {s : Shared} {σ : S} {Q : Fl → S → Prop}
theorem pass_of {h : List Stmt} (e : isPassS h = true) : ∃ p, h = [.Pass p] := by
  unfold isPassS at e
  cases q : one1 h with
  | none => rw [q] at e; cases e
  | some st =>
    rw [q] at e
    have := one1_inv q
    subst this
    cases st with
    | Pass p => exact ⟨p, rfl⟩
    | _ => exact (nomatch (show false = true from e))
theorem for_k {f : Option CS} {t it : Expr} {c : CS} {P : Prop} (hc : cFor sc f it t = some c) (k1 : ∀ x xp i b, t = .Name x xp → isLoc sc x = some i → f = some b → cIter sc i b it = some c → P)
    (k2 : ∀ x xp y yp z zp cx tp u up i j k e b, t = .Tuple [.Name x xp, .Name y yp, .Name z zp] cx tp → it = .Name u up → isLoc sc x = some i → isLoc sc y = some j → isLoc sc z = some k → cE sc 40 (.Name u up) = some e → f = some b → c = .forT i j k e b → P) : P := by
  cases t with
  | Name x xp =>
    obtain ⟨i, h1, hc⟩ := ob_inv hc
    obtain ⟨b, h2, hc⟩ := ob_inv hc
    exact k1 x xp i b rfl h1 h2 hc
  | Tuple es cx tp =>
    obtain ⟨a, h1, hc⟩ := ob_inv hc
    obtain ⟨x, h2, hc⟩ := ob_inv hc
    obtain ⟨y, h3, hc⟩ := ob_inv hc
    obtain ⟨z, h4, hc⟩ := ob_inv hc
    obtain ⟨u, h5, hc⟩ := ob_inv hc
    obtain ⟨i, h6, hc⟩ := ob_inv hc
    obtain ⟨j, h7, hc⟩ := ob_inv hc
    obtain ⟨k, h8, hc⟩ := ob_inv hc
    obtain ⟨e, b, h9, h10, h11⟩ := o2_inv hc
    obtain ⟨xp, q1⟩ := nameOf_inv h2
    obtain ⟨yp, q2⟩ := nameOf_inv h3
    obtain ⟨zp, q3⟩ := nameOf_inv h4
    obtain ⟨up, q4⟩ := nameOf_inv h5
    have e1 := thr3_inv h1
    rw [q1, q2, q3] at e1
    exact k2 x xp y yp z zp cx tp u up i j k e b (by rw [e1]) q4 h6 h7 h8 (q4 ▸ h9) h10 h11.symm
  | _ => exact none_inv hc
theorem try_inv {f : Option CS} {h : ExceptHandler} {c : CS} (hc : cTry sc f h = some c) : ∃ l lp hp p k x, h = .ExceptHandler (some (.Name l lp)) none [.Pass p] hp ∧ isGlob sc l = true ∧ strIdx l labNames 0 = some k ∧ f = some x ∧ c = .tryS x k := by
  obtain ⟨t, n, b, hp⟩ := h
  obtain ⟨h1, hcc⟩ := ifo_inv hc; replace hc := hcc; clear hcc
  obtain ⟨e, h2, hcc⟩ := ob_inv hc; replace hc := hcc; clear hcc
  obtain ⟨l, h3, hcc⟩ := ob_inv hc; replace hc := hcc; clear hcc
  obtain ⟨h4, hcc⟩ := ifo_inv hc; replace hc := hcc; clear hcc
  obtain ⟨k, x, h5, h6, rfl⟩ := o2_inv hc
  obtain ⟨g1, g2⟩ := Bool.and_eq_true_iff.mp h4
  obtain ⟨lp, rfl⟩ := nameOf_inv h3
  obtain ⟨p, q⟩ := pass_of g2
  have q : b = [.Pass p] := q
  have h2 : t = some (.Name l lp) := h2
  have hn : n = none := Option.isNone_iff_eq_none.mp h1
  subst q h2 hn
  exact ⟨l, lp, hp, p, k, x, rfl, g1, h5, h6, rfl⟩
theorem c1_ok (H : Here A nm sc L fa cd outer d) (hC : ∀ f args fs Q, C f args fs Q → CallOK g d f args fs Q) {f : List Stmt → Option CS} (hf : ∀ st c, f st = some c → SOK g L fa nm sc cd A outer C st c) (st : Stmt) (c : CS) (hc : c1 sc f st = some c)
    (Q : Fl → S → Prop) (σ : S) (s : Shared) (rep : Rep g L (vars sc) σ s.heap) (F : Frs g s.heap L outer) (w : wS tabs C c Q σ) : wpAny (model pw g.w) A (exec st (envOf nm sc L fa cd)) (Po g L sc s (RF g Q)) (PoX g L sc s Q) s := by
  have ih : ∀ E, EOK g L fa nm sc cd A E outer C 40 := fun E => (eoto H hC 40).1
  have it : ∀ E, TOK g L fa nm sc cd A E outer C 40 := fun E => (eoto H hC 40).2
  cases st with
  | Assign ts e p =>
    obtain ⟨t, h1, hcc⟩ := ob_inv hc; replace hc := hcc; clear hcc
    have := one1_inv h1
    subst this
    clear h1
    cases t with
    | Name x xp =>
      obtain ⟨i, a, h1, h2, rfl⟩ := o2_inv hc
      exact s_asg H ih h1 h2 rep F w
    | Attribute o x ap =>
      obtain ⟨y, h0, hcc⟩ := ob_inv hc; replace hc := hcc; clear hcc
      obtain ⟨yp, rfl⟩ := nameOf_inv h0
      obtain ⟨i, k, a, h1, h2, h3, rfl⟩ := o3_inv hc
      exact s_setf H ih h1 h2 h3 rep F w
    | _ => exact none_inv hc
  | AugAssign t op e p => cases t with
    | Name x xp =>
      obtain ⟨i, a, h1, h2, rfl⟩ := o2_inv (show o2 (fun i c => CS.augl i op c) (isLoc sc x) (cE sc 40 e) = some c from hc)
      exact s_augl H ih h1 h2 rep F w
    | Attribute o x ap =>
      obtain ⟨y, h0, hc⟩ := ob_inv (show (nameOf o).bind (fun y => o3 (fun i f c => CS.augf (.var i) f op c) (isLoc sc y) (strIdx x fldNames 0) (cE sc 40 e)) = some c from hc)
      obtain ⟨yp, rfl⟩ := nameOf_inv h0
      obtain ⟨i, k, a, h1, h2, h3, rfl⟩ := o3_inv hc
      exact s_augf H ih h1 h2 h3 rep F w
    | _ => exact none_inv hc
  | Expr e p =>
    obtain ⟨a, ha, rfl⟩ := om_inv hc
    exact s_ex H ih ha rep F w
  | Return e p =>
    obtain ⟨x, rfl, hcc⟩ := ob_inv hc; replace hc := hcc; clear hcc
    obtain ⟨a, ha, rfl⟩ := om_inv hc
    exact s_ret ih ha rep F w
  | If t a b p =>
    obtain ⟨x, y, z, h1, h2, h3, rfl⟩ := o3_inv hc
    exact s_if it h1 (hf _ _ h2) (hf _ _ h3) rep F w
  | While t b els p =>
    obtain ⟨h0, hcc⟩ := ifo_inv hc; replace hc := hcc; clear hcc
    have := List.isEmpty_iff.mp h0
    subst this
    obtain ⟨x, y, h1, h2, rfl⟩ := o2_inv hc
    exact s_whl H it h1 (hf _ _ h2) rep F w
  | For t iter b els p =>
    obtain ⟨h0, hcc⟩ := ifo_inv hc; replace hc := hcc; clear hcc
    have := List.isEmpty_iff.mp h0
    subst this
    refine for_k hc (fun x xp i bb e0 hi hb hcc => ?_) (fun x xp y yp z zp cx tp u up i j k e bb e0 e1 h1 h2 h3 h4 h5 e2 => ?_)
    · subst e0
      clear hc
      have hc := hcc
      clear hcc
      cases iter with
      | Call fn args kws cp =>
        obtain ⟨h1, hcc⟩ := ifo_inv hc; replace hc := hcc; clear hcc
        have := List.isEmpty_iff.mp h1
        subst this
        obtain ⟨r, h2, hcc⟩ := ob_inv hc; replace hc := hcc; clear hcc
        obtain ⟨rp, rfl⟩ := nameOf_inv h2
        obtain ⟨h3, hcc⟩ := ifo_inv hc; replace hc := hcc; clear hcc
        obtain ⟨ey, hg⟩ := Bool.and_eq_true_iff.mp h3
        have ey := of_decide_eq_true ey
        unfold cRange at hc
        cases q : two2 args with
        | some a =>
          rw [q] at hc
          have := two2_inv q
          subst this
          obtain ⟨x1, x2, h4, h5, rfl⟩ := o2_inv hc
          exact s_forR H ih hi ey hg h4 h5 (hf _ _ hb) rep F w
        | none =>
          rw [q] at hc
          obtain ⟨a, h4, hcc⟩ := ob_inv hc; replace hc := hcc; clear hcc
          have := thr3_inv h4
          subst this
          obtain ⟨h5, hcc⟩ := ifo_inv hc; replace hc := hcc; clear hcc
          obtain ⟨k1, o1, u1, hm⟩ := isM1_inv h5
          obtain ⟨x1, x2, h6, h7, rfl⟩ := o2_inv hc
          rw [hm]
          exact s_forD (n := 38) H ih hi ey hg h6 h7 (hf _ _ hb) rep F w
      | Name u up =>
        obtain ⟨a, ha, rfl⟩ := om_inv hc
        exact s_forL H ih hi ha (hf _ _ hb) rep F w
      | _ => exact none_inv hc
    · subst e0 e1 e2
      exact s_forT H ih h1 h2 h3 h4 (hf _ _ h5) rep F w
  | Try b hs els fin p =>
    obtain ⟨h0, hcc⟩ := ifo_inv hc; replace hc := hcc; clear hcc
    obtain ⟨q1, q2⟩ := Bool.and_eq_true_iff.mp h0
    have q1 := List.isEmpty_iff.mp q1
    have q2 := List.isEmpty_iff.mp q2
    subst q1 q2
    obtain ⟨h, h1, hcc⟩ := ob_inv hc; replace hc := hcc; clear hcc
    have := one1_inv h1
    subst this
    obtain ⟨l, lp, hp, pp, k, x, rfl, hg, hk, hb, rfl⟩ := try_inv hc
    exact s_try H hg hk (hf _ _ hb) rep F w
  | Raise e ca p =>
    obtain ⟨h0, hcc⟩ := ifo_inv hc; replace hc := hcc; clear hcc
    have := Option.isNone_iff_eq_none.mp h0
    subst this
    obtain ⟨x, rfl, hcc⟩ := ob_inv hc; replace hc := hcc; clear hcc
    cases x with
    | Call fn args kws cp =>
      obtain ⟨h1, hcc⟩ := ifo_inv hc; replace hc := hcc; clear hcc
      obtain ⟨q1, q2⟩ := Bool.and_eq_true_iff.mp h1
      have q1 := List.isEmpty_iff.mp q1
      have q2 := List.isEmpty_iff.mp q2
      subst q1 q2
      obtain ⟨l, h2, hcc⟩ := ob_inv hc; replace hc := hcc; clear hcc
      obtain ⟨lp, rfl⟩ := nameOf_inv h2
      obtain ⟨hg, hcc⟩ := ifo_inv hc; replace hc := hcc; clear hcc
      obtain ⟨k, hk, rfl⟩ := om_inv hc
      exact s_raise H hg hk rep w
    | _ => exact none_inv hc
  | Break => cases hc; exact wpAny_Break ⟨.refl _, .refl _, σ, rep, w⟩
  | Continue => cases hc; exact wpAny_Continue ⟨.refl _, .refl _, σ, rep, w⟩
  | Pass => cases hc; exact wpAny_Pass ⟨.refl _, .refl _, σ, rep, w⟩
  | Assert e m p =>
    obtain ⟨h0, hcc⟩ := ifo_inv hc; replace hc := hcc; clear hcc
    have := Option.isNone_iff_eq_none.mp h0
    subst this
    obtain ⟨a, ha, rfl⟩ := om_inv hc
    exact s_assert it ha rep F w
  | _ => exact none_inv hc
theorem cs_ok (H : Here A nm sc L fa cd outer d) (hC : ∀ f args fs Q, C f args fs Q → CallOK g d f args fs Q) : ∀ n st c, cS sc n st = some c → SOK g L fa nm sc cd A outer C st c
  | 0, st, c, hc => by cases hc
  | n + 1, [], c, hc => by
    cases hc
    intro Q σ s rep F w
    exact wpAny_execs_nil ⟨.refl _, .refl _, σ, rep, w⟩
  | n + 1, t :: r, c, hc => by
    obtain ⟨a, b, h1, h2, rfl⟩ := o2_inv hc
    · intro Q σ s rep F w
      refine wpAny_execs_cons (wpAny_mono (c1_ok H hC (cs_ok H hC n) t a h1 _ σ s rep F w) (fun f s₁ p => ?_) (fun e s₁ p => ?_))
      · obtain ⟨sm, kp, σ₁, rep₁, q⟩ := p
        cases f with
        | next => exact liftF rep rep₁ sm kp (cs_ok H hC n r b h2 Q σ₁ s₁ rep₁ (F.kp (Nat.le_refl _) kp) q)
        | brk => exact ⟨sm, kp, σ₁, rep₁, q⟩
        | cont => exact ⟨sm, kp, σ₁, rep₁, q⟩
        | ret v => obtain ⟨av, rv, q⟩ := q; exact ⟨sm, kp, σ₁, rep₁, av, rv, q⟩
      · obtain ⟨e, k, σ₁, rfl, hk, sm, kp, rep₁, x, q⟩ := p
        exact ⟨e, k, σ₁, rfl, hk, sm, kp, rep₁, x, q⟩
end
end Sp
end
section
set_option maxRecDepth 100000
namespace Sp
open PySem (Operator CmpOp)
/-- [self, value, len] -/
noncomputable def b_set_current : CS := CS.seq (CS.setf (CE.var 0) 0 (CE.var 1)) (CS.seq (CS.setf (CE.var 0) 1 (CE.int 0)) (CS.seq (CS.setf (CE.var 0) 2 (CE.len (CE.fld (CE.var 0) 0))) (CS.seq (CS.setf (CE.var 0) 3 (CE.int 0)) (CS.seq (CS.setf (CE.var 0) 4 (CE.fld (CE.var 0) 1)) (CS.seq (CS.setf (CE.var 0) 5 (CE.fld (CE.var 0) 2)) (CS.skip))))))
/-- [self] -/
noncomputable def b_get_current : CS := CS.seq (CS.ret (CE.fld (CE.var 0) 0)) (CS.skip)
/-- [self, s] -/
noncomputable def b_in_grouping : CS := CS.seq (CS.ite (CE.cmp (CmpOp.GtE) (CE.fld (CE.var 0) 1) (CE.fld (CE.var 0) 2)) (CS.seq (CS.ret (CE.bool false)) (CS.skip)) (CS.skip)) (CS.seq (CS.ite (CE.cmp (CmpOp.NotIn) (CE.idx (CE.fld (CE.var 0) 0) (CE.fld (CE.var 0) 1)) (CE.var 1)) (CS.seq (CS.ret (CE.bool false)) (CS.skip)) (CS.skip)) (CS.seq (CS.augf (CE.var 0) 1 (Operator.Add) (CE.int 1)) (CS.seq (CS.ret (CE.bool true)) (CS.skip))))
/-- [self, s] -/
noncomputable def b_go_in_grouping : CS := CS.seq (CS.whl (CE.cmp (CmpOp.Lt) (CE.fld (CE.var 0) 1) (CE.fld (CE.var 0) 2)) (CS.seq (CS.ite (CE.cmp (CmpOp.NotIn) (CE.idx (CE.fld (CE.var 0) 0) (CE.fld (CE.var 0) 1)) (CE.var 1)) (CS.seq (CS.ret (CE.bool true)) (CS.skip)) (CS.skip)) (CS.seq (CS.augf (CE.var 0) 1 (Operator.Add) (CE.int 1)) (CS.skip)))) (CS.seq (CS.ret (CE.bool false)) (CS.skip))
/-- [self, s] -/
noncomputable def b_out_grouping : CS := CS.seq (CS.ite (CE.cmp (CmpOp.GtE) (CE.fld (CE.var 0) 1) (CE.fld (CE.var 0) 2)) (CS.seq (CS.ret (CE.bool false)) (CS.skip)) (CS.skip)) (CS.seq (CS.ite (CE.cmp (CmpOp.NotIn) (CE.idx (CE.fld (CE.var 0) 0) (CE.fld (CE.var 0) 1)) (CE.var 1)) (CS.seq (CS.augf (CE.var 0) 1 (Operator.Add) (CE.int 1)) (CS.seq (CS.ret (CE.bool true)) (CS.skip))) (CS.skip)) (CS.seq (CS.ret (CE.bool false)) (CS.skip)))
/-- [self, s] -/
noncomputable def b_go_out_grouping : CS := CS.seq (CS.whl (CE.cmp (CmpOp.Lt) (CE.fld (CE.var 0) 1) (CE.fld (CE.var 0) 2)) (CS.seq (CS.ite (CE.cmp (CmpOp.In) (CE.idx (CE.fld (CE.var 0) 0) (CE.fld (CE.var 0) 1)) (CE.var 1)) (CS.seq (CS.ret (CE.bool true)) (CS.skip)) (CS.skip)) (CS.seq (CS.augf (CE.var 0) 1 (Operator.Add) (CE.int 1)) (CS.skip)))) (CS.seq (CS.ret (CE.bool false)) (CS.skip))
/-- [self, s, len] -/
noncomputable def b_eq_s_b : CS := CS.seq (CS.ite (CE.endsw (CE.slice (CE.fld (CE.var 0) 0) (CE.fld (CE.var 0) 3) (CE.fld (CE.var 0) 1)) (CE.var 1)) (CS.seq (CS.augf (CE.var 0) 1 (Operator.Sub) (CE.len (CE.var 1))) (CS.seq (CS.ret (CE.bool true)) (CS.skip))) (CS.skip)) (CS.seq (CS.ret (CE.bool false)) (CS.skip))
/-- [self, v, i, j, c, l, common_i, common_j, first_key_inspected, k, diff, common, w, i2, len, min, range, ord] -/
noncomputable def b_find_among : CS := CS.seq (CS.asg 2 (CE.int 0)) (CS.seq (CS.asg 3 (CE.len (CE.var 1))) (CS.seq (CS.asg 4 (CE.fld (CE.var 0) 1)) (CS.seq (CS.asg 5 (CE.fld (CE.var 0) 2)) (CS.seq (CS.asg 6 (CE.int 0)) (CS.seq (CS.asg 7 (CE.int 0)) (CS.seq (CS.asg 8 (CE.bool false)) (CS.seq (CS.whl (CE.bool true) (CS.seq (CS.asg 9 (CE.bin (Operator.Add) (CE.var 2) (CE.bin (Operator.RShift) (CE.bin (Operator.Sub) (CE.var 3) (CE.var 2)) (CE.int 1)))) (CS.seq (CS.asg 10 (CE.int 0)) (CS.seq (CS.asg 11 (CE.min2 (CE.var 6) (CE.var 7))) (CS.seq (CS.asg 12 (CE.idx (CE.var 1) (CE.var 9))) (CS.seq (CS.forR 13 (CE.var 11) (CE.len (CE.amf (CE.var 12) 0)) 1 (CS.seq (CS.ite (CE.cmp (CmpOp.Eq) (CE.bin (Operator.Add) (CE.var 4) (CE.var 11)) (CE.var 5)) (CS.seq (CS.asg 10 (CE.neg (CE.int 1))) (CS.seq (CS.brk) (CS.skip))) (CS.skip)) (CS.seq (CS.asg 10 (CE.bin (Operator.Sub) (CE.ord (CE.idx (CE.fld (CE.var 0) 0) (CE.bin (Operator.Add) (CE.var 4) (CE.var 11)))) (CE.ord (CE.idx (CE.amf (CE.var 12) 0) (CE.var 13))))) (CS.seq (CS.ite (CE.cmp (CmpOp.NotEq) (CE.var 10) (CE.int 0)) (CS.seq (CS.brk) (CS.skip)) (CS.skip)) (CS.seq (CS.augl 11 (Operator.Add) (CE.int 1)) (CS.skip)))))) (CS.seq (CS.ite (CE.cmp (CmpOp.Lt) (CE.var 10) (CE.int 0)) (CS.seq (CS.asg 3 (CE.var 9)) (CS.seq (CS.asg 7 (CE.var 11)) (CS.skip))) (CS.seq (CS.asg 2 (CE.var 9)) (CS.seq (CS.asg 6 (CE.var 11)) (CS.skip)))) (CS.seq (CS.ite (CE.cmp (CmpOp.LtE) (CE.bin (Operator.Sub) (CE.var 3) (CE.var 2)) (CE.int 1)) (CS.seq (CS.ite (CE.cmp (CmpOp.Gt) (CE.var 2) (CE.int 0)) (CS.seq (CS.brk) (CS.skip)) (CS.skip)) (CS.seq (CS.ite (CE.cmp (CmpOp.Eq) (CE.var 3) (CE.var 2)) (CS.seq (CS.brk) (CS.skip)) (CS.skip)) (CS.seq (CS.ite (CE.var 8) (CS.seq (CS.brk) (CS.skip)) (CS.skip)) (CS.seq (CS.asg 8 (CE.bool true)) (CS.skip))))) (CS.skip)) (CS.skip))))))))) (CS.seq (CS.whl (CE.bool true) (CS.seq (CS.asg 12 (CE.idx (CE.var 1) (CE.var 2))) (CS.seq (CS.ite (CE.cmp (CmpOp.GtE) (CE.var 6) (CE.len (CE.amf (CE.var 12) 0))) (CS.seq (CS.setf (CE.var 0) 1 (CE.bin (Operator.Add) (CE.var 4) (CE.len (CE.amf (CE.var 12) 0)))) (CS.seq (CS.ret (CE.amf (CE.var 12) 2)) (CS.skip))) (CS.skip)) (CS.seq (CS.asg 2 (CE.amf (CE.var 12) 1)) (CS.seq (CS.ite (CE.cmp (CmpOp.Lt) (CE.var 2) (CE.int 0)) (CS.seq (CS.ret (CE.int 0)) (CS.skip)) (CS.skip)) (CS.skip)))))) (CS.seq (CS.ret (CE.neg (CE.int 1))) (CS.skip))))))))))
/-- [self, v, i, j, c, lb, common_i, common_j, first_key_inspected, k, diff, common, w, i2, len, min, range, ord] -/
noncomputable def b_find_among_b : CS := CS.seq (CS.asg 2 (CE.int 0)) (CS.seq (CS.asg 3 (CE.len (CE.var 1))) (CS.seq (CS.asg 4 (CE.fld (CE.var 0) 1)) (CS.seq (CS.asg 5 (CE.fld (CE.var 0) 3)) (CS.seq (CS.asg 6 (CE.int 0)) (CS.seq (CS.asg 7 (CE.int 0)) (CS.seq (CS.asg 8 (CE.bool false)) (CS.seq (CS.whl (CE.bool true) (CS.seq (CS.asg 9 (CE.bin (Operator.Add) (CE.var 2) (CE.bin (Operator.RShift) (CE.bin (Operator.Sub) (CE.var 3) (CE.var 2)) (CE.int 1)))) (CS.seq (CS.asg 10 (CE.int 0)) (CS.seq (CS.asg 11 (CE.min2 (CE.var 6) (CE.var 7))) (CS.seq (CS.asg 12 (CE.idx (CE.var 1) (CE.var 9))) (CS.seq (CS.forR 13 (CE.bin (Operator.Sub) (CE.bin (Operator.Sub) (CE.len (CE.amf (CE.var 12) 0)) (CE.int 1)) (CE.var 11)) (CE.neg (CE.int 1)) (-1) (CS.seq (CS.ite (CE.cmp (CmpOp.Eq) (CE.bin (Operator.Sub) (CE.var 4) (CE.var 11)) (CE.var 5)) (CS.seq (CS.asg 10 (CE.neg (CE.int 1))) (CS.seq (CS.brk) (CS.skip))) (CS.skip)) (CS.seq (CS.asg 10 (CE.bin (Operator.Sub) (CE.ord (CE.idx (CE.fld (CE.var 0) 0) (CE.bin (Operator.Sub) (CE.bin (Operator.Sub) (CE.var 4) (CE.int 1)) (CE.var 11)))) (CE.ord (CE.idx (CE.amf (CE.var 12) 0) (CE.var 13))))) (CS.seq (CS.ite (CE.cmp (CmpOp.NotEq) (CE.var 10) (CE.int 0)) (CS.seq (CS.brk) (CS.skip)) (CS.skip)) (CS.seq (CS.augl 11 (Operator.Add) (CE.int 1)) (CS.skip)))))) (CS.seq (CS.ite (CE.cmp (CmpOp.Lt) (CE.var 10) (CE.int 0)) (CS.seq (CS.asg 3 (CE.var 9)) (CS.seq (CS.asg 7 (CE.var 11)) (CS.skip))) (CS.seq (CS.asg 2 (CE.var 9)) (CS.seq (CS.asg 6 (CE.var 11)) (CS.skip)))) (CS.seq (CS.ite (CE.cmp (CmpOp.LtE) (CE.bin (Operator.Sub) (CE.var 3) (CE.var 2)) (CE.int 1)) (CS.seq (CS.ite (CE.cmp (CmpOp.Gt) (CE.var 2) (CE.int 0)) (CS.seq (CS.brk) (CS.skip)) (CS.skip)) (CS.seq (CS.ite (CE.cmp (CmpOp.Eq) (CE.var 3) (CE.var 2)) (CS.seq (CS.brk) (CS.skip)) (CS.skip)) (CS.seq (CS.ite (CE.var 8) (CS.seq (CS.brk) (CS.skip)) (CS.skip)) (CS.seq (CS.asg 8 (CE.bool true)) (CS.skip))))) (CS.skip)) (CS.skip))))))))) (CS.seq (CS.whl (CE.bool true) (CS.seq (CS.asg 12 (CE.idx (CE.var 1) (CE.var 2))) (CS.seq (CS.ite (CE.cmp (CmpOp.GtE) (CE.var 6) (CE.len (CE.amf (CE.var 12) 0))) (CS.seq (CS.setf (CE.var 0) 1 (CE.bin (Operator.Sub) (CE.var 4) (CE.len (CE.amf (CE.var 12) 0)))) (CS.seq (CS.ret (CE.amf (CE.var 12) 2)) (CS.skip))) (CS.skip)) (CS.seq (CS.asg 2 (CE.amf (CE.var 12) 1)) (CS.seq (CS.ite (CE.cmp (CmpOp.Lt) (CE.var 2) (CE.int 0)) (CS.seq (CS.ret (CE.int 0)) (CS.skip)) (CS.skip)) (CS.skip)))))) (CS.seq (CS.ret (CE.neg (CE.int 1))) (CS.skip))))))))))
/-- [self, c_bra, c_ket, s, adjustment, len] -/
noncomputable def b_replace_s : CS := CS.seq (CS.asg 4 (CE.bin (Operator.Sub) (CE.len (CE.var 3)) (CE.bin (Operator.Sub) (CE.var 2) (CE.var 1)))) (CS.seq (CS.setf (CE.var 0) 0 (CE.bin (Operator.Add) (CE.bin (Operator.Add) (CE.slice (CE.fld (CE.var 0) 0) (CE.int 0) (CE.var 1)) (CE.var 3)) (CE.slice (CE.fld (CE.var 0) 0) (CE.var 2) (CE.none)))) (CS.seq (CS.augf (CE.var 0) 2 (Operator.Add) (CE.var 4)) (CS.seq (CS.ite (CE.cmp (CmpOp.GtE) (CE.fld (CE.var 0) 1) (CE.var 2)) (CS.seq (CS.augf (CE.var 0) 1 (Operator.Add) (CE.var 4)) (CS.skip)) (CS.seq (CS.ite (CE.cmp (CmpOp.Gt) (CE.fld (CE.var 0) 1) (CE.var 1)) (CS.seq (CS.setf (CE.var 0) 1 (CE.var 1)) (CS.skip)) (CS.skip)) (CS.skip))) (CS.seq (CS.ret (CE.var 4)) (CS.skip)))))
/-- [self, s, len] -/
noncomputable def b_slice_from : CS := CS.seq (CS.assert (CE.cmp (CmpOp.GtE) (CE.fld (CE.var 0) 4) (CE.int 0))) (CS.seq (CS.assert (CE.cmp (CmpOp.LtE) (CE.fld (CE.var 0) 4) (CE.fld (CE.var 0) 5))) (CS.seq (CS.assert (CE.cmp (CmpOp.LtE) (CE.fld (CE.var 0) 5) (CE.fld (CE.var 0) 2))) (CS.seq (CS.assert (CE.cmp (CmpOp.LtE) (CE.fld (CE.var 0) 2) (CE.len (CE.fld (CE.var 0) 0)))) (CS.seq (CS.ex (CE.meth 0 9 (CE.cons (CE.fld (CE.var 0) 4) (CE.cons (CE.fld (CE.var 0) 5) (CE.cons (CE.var 1) (CE.nil)))))) (CS.seq (CS.setf (CE.var 0) 5 (CE.bin (Operator.Add) (CE.fld (CE.var 0) 4) (CE.len (CE.var 1)))) (CS.skip))))))
/-- [self] -/
noncomputable def b_slice_del : CS := CS.seq (CS.ret (CE.meth 0 10 (CE.cons (CE.str []) (CE.nil)))) (CS.skip)
/-- [self, word] -/
noncomputable def b_stemWord : CS := CS.seq (CS.ex (CE.meth 0 0 (CE.cons (CE.var 1) (CE.nil)))) (CS.seq (CS.ex (CE.meth 0 22 (CE.nil))) (CS.seq (CS.ret (CE.meth 0 1 (CE.nil))) (CS.skip)))
/-- [self, v_1, v_2, v_3, v_4, v_5, SpanishStemmer, lab1, lab2, lab0] -/
noncomputable def b_r_mark_regions : CS := CS.seq (CS.setf (CE.var 0) 6 (CE.fld (CE.var 0) 2)) (CS.seq (CS.setf (CE.var 0) 7 (CE.fld (CE.var 0) 2)) (CS.seq (CS.setf (CE.var 0) 8 (CE.fld (CE.var 0) 2)) (CS.seq (CS.asg 1 (CE.fld (CE.var 0) 1)) (CS.seq (CS.tryS (CS.seq (CS.whl (CE.bool true) (CS.seq (CS.asg 2 (CE.fld (CE.var 0) 1)) (CS.seq (CS.tryS (CS.seq (CS.ite (CE.not (CE.meth 0 2 (CE.cons (CE.ctab 0) (CE.nil)))) (CS.seq (CS.raise 1) (CS.skip)) (CS.skip)) (CS.seq (CS.whl (CE.bool true) (CS.seq (CS.asg 3 (CE.fld (CE.var 0) 1)) (CS.seq (CS.tryS (CS.seq (CS.ite (CE.not (CE.meth 0 4 (CE.cons (CE.ctab 0) (CE.nil)))) (CS.seq (CS.raise 2) (CS.skip)) (CS.skip)) (CS.seq (CS.ite (CE.not (CE.meth 0 5 (CE.cons (CE.ctab 0) (CE.nil)))) (CS.seq (CS.raise 2) (CS.skip)) (CS.skip)) (CS.seq (CS.augf (CE.var 0) 1 (Operator.Add) (CE.int 1)) (CS.seq (CS.brk) (CS.skip))))) 2) (CS.seq (CS.setf (CE.var 0) 1 (CE.var 3)) (CS.seq (CS.ite (CE.not (CE.meth 0 2 (CE.cons (CE.ctab 0) (CE.nil)))) (CS.seq (CS.raise 1) (CS.skip)) (CS.skip)) (CS.seq (CS.ite (CE.not (CE.meth 0 3 (CE.cons (CE.ctab 0) (CE.nil)))) (CS.seq (CS.raise 1) (CS.skip)) (CS.skip)) (CS.seq (CS.augf (CE.var 0) 1 (Operator.Add) (CE.int 1)) (CS.seq (CS.brk) (CS.skip))))))))) (CS.seq (CS.brk) (CS.skip)))) 1) (CS.seq (CS.setf (CE.var 0) 1 (CE.var 2)) (CS.seq (CS.ite (CE.not (CE.meth 0 4 (CE.cons (CE.ctab 0) (CE.nil)))) (CS.seq (CS.raise 0) (CS.skip)) (CS.skip)) (CS.seq (CS.whl (CE.bool true) (CS.seq (CS.asg 4 (CE.fld (CE.var 0) 1)) (CS.seq (CS.tryS (CS.seq (CS.ite (CE.not (CE.meth 0 4 (CE.cons (CE.ctab 0) (CE.nil)))) (CS.seq (CS.raise 1) (CS.skip)) (CS.skip)) (CS.seq (CS.ite (CE.not (CE.meth 0 5 (CE.cons (CE.ctab 0) (CE.nil)))) (CS.seq (CS.raise 1) (CS.skip)) (CS.skip)) (CS.seq (CS.augf (CE.var 0) 1 (Operator.Add) (CE.int 1)) (CS.seq (CS.brk) (CS.skip))))) 1) (CS.seq (CS.setf (CE.var 0) 1 (CE.var 4)) (CS.seq (CS.ite (CE.not (CE.meth 0 2 (CE.cons (CE.ctab 0) (CE.nil)))) (CS.seq (CS.raise 0) (CS.skip)) (CS.skip)) (CS.seq (CS.ite (CE.cmp (CmpOp.GtE) (CE.fld (CE.var 0) 1) (CE.fld (CE.var 0) 2)) (CS.seq (CS.raise 0) (CS.skip)) (CS.skip)) (CS.seq (CS.augf (CE.var 0) 1 (Operator.Add) (CE.int 1)) (CS.seq (CS.brk) (CS.skip))))))))) (CS.seq (CS.brk) (CS.skip)))))))) (CS.seq (CS.setf (CE.var 0) 6 (CE.fld (CE.var 0) 1)) (CS.skip))) 0) (CS.seq (CS.setf (CE.var 0) 1 (CE.var 1)) (CS.seq (CS.asg 5 (CE.fld (CE.var 0) 1)) (CS.seq (CS.tryS (CS.seq (CS.ite (CE.not (CE.meth 0 5 (CE.cons (CE.ctab 0) (CE.nil)))) (CS.seq (CS.raise 0) (CS.skip)) (CS.skip)) (CS.seq (CS.augf (CE.var 0) 1 (Operator.Add) (CE.int 1)) (CS.seq (CS.ite (CE.not (CE.meth 0 3 (CE.cons (CE.ctab 0) (CE.nil)))) (CS.seq (CS.raise 0) (CS.skip)) (CS.skip)) (CS.seq (CS.augf (CE.var 0) 1 (Operator.Add) (CE.int 1)) (CS.seq (CS.setf (CE.var 0) 7 (CE.fld (CE.var 0) 1)) (CS.seq (CS.ite (CE.not (CE.meth 0 5 (CE.cons (CE.ctab 0) (CE.nil)))) (CS.seq (CS.raise 0) (CS.skip)) (CS.skip)) (CS.seq (CS.augf (CE.var 0) 1 (Operator.Add) (CE.int 1)) (CS.seq (CS.ite (CE.not (CE.meth 0 3 (CE.cons (CE.ctab 0) (CE.nil)))) (CS.seq (CS.raise 0) (CS.skip)) (CS.skip)) (CS.seq (CS.augf (CE.var 0) 1 (Operator.Add) (CE.int 1)) (CS.seq (CS.setf (CE.var 0) 8 (CE.fld (CE.var 0) 1)) (CS.skip))))))))))) 0) (CS.seq (CS.setf (CE.var 0) 1 (CE.var 5)) (CS.seq (CS.ret (CE.bool true)) (CS.skip))))))))))
/-- [self, v_1, among_var, SpanishStemmer, lab0] -/
noncomputable def b_r_postlude : CS := CS.seq (CS.whl (CE.bool true) (CS.seq (CS.asg 1 (CE.fld (CE.var 0) 1)) (CS.seq (CS.tryS (CS.seq (CS.setf (CE.var 0) 4 (CE.fld (CE.var 0) 1)) (CS.seq (CS.asg 2 (CE.meth 0 7 (CE.cons (CE.ctab 1) (CE.nil)))) (CS.seq (CS.setf (CE.var 0) 5 (CE.fld (CE.var 0) 1)) (CS.seq (CS.ite (CE.cmp (CmpOp.Eq) (CE.var 2) (CE.int 1)) (CS.seq (CS.ex (CE.meth 0 10 (CE.cons (CE.str [97]) (CE.nil)))) (CS.skip)) (CS.seq (CS.ite (CE.cmp (CmpOp.Eq) (CE.var 2) (CE.int 2)) (CS.seq (CS.ex (CE.meth 0 10 (CE.cons (CE.str [101]) (CE.nil)))) (CS.skip)) (CS.seq (CS.ite (CE.cmp (CmpOp.Eq) (CE.var 2) (CE.int 3)) (CS.seq (CS.ex (CE.meth 0 10 (CE.cons (CE.str [105]) (CE.nil)))) (CS.skip)) (CS.seq (CS.ite (CE.cmp (CmpOp.Eq) (CE.var 2) (CE.int 4)) (CS.seq (CS.ex (CE.meth 0 10 (CE.cons (CE.str [111]) (CE.nil)))) (CS.skip)) (CS.seq (CS.ite (CE.cmp (CmpOp.Eq) (CE.var 2) (CE.int 5)) (CS.seq (CS.ex (CE.meth 0 10 (CE.cons (CE.str [117]) (CE.nil)))) (CS.skip)) (CS.seq (CS.ite (CE.cmp (CmpOp.GtE) (CE.fld (CE.var 0) 1) (CE.fld (CE.var 0) 2)) (CS.seq (CS.raise 0) (CS.skip)) (CS.skip)) (CS.seq (CS.augf (CE.var 0) 1 (Operator.Add) (CE.int 1)) (CS.skip)))) (CS.skip))) (CS.skip))) (CS.skip))) (CS.skip))) (CS.seq (CS.cont) (CS.skip)))))) 0) (CS.seq (CS.setf (CE.var 0) 1 (CE.var 1)) (CS.seq (CS.brk) (CS.skip)))))) (CS.seq (CS.ret (CE.bool true)) (CS.skip))
/-- [self] -/
noncomputable def b_r_RV : CS := CS.seq (CS.ret (CE.cmp (CmpOp.LtE) (CE.fld (CE.var 0) 6) (CE.fld (CE.var 0) 1))) (CS.skip)
/-- [self] -/
noncomputable def b_r_R2 : CS := CS.seq (CS.ret (CE.cmp (CmpOp.LtE) (CE.fld (CE.var 0) 8) (CE.fld (CE.var 0) 1))) (CS.skip)
/-- [self, among_var, SpanishStemmer] -/
noncomputable def b_r_attached_pronoun : CS := CS.seq (CS.setf (CE.var 0) 5 (CE.fld (CE.var 0) 1)) (CS.seq (CS.ite (CE.cmp (CmpOp.Eq) (CE.meth 0 8 (CE.cons (CE.ctab 2) (CE.nil))) (CE.int 0)) (CS.seq (CS.ret (CE.bool false)) (CS.skip)) (CS.skip)) (CS.seq (CS.setf (CE.var 0) 4 (CE.fld (CE.var 0) 1)) (CS.seq (CS.asg 1 (CE.meth 0 8 (CE.cons (CE.ctab 3) (CE.nil)))) (CS.seq (CS.ite (CE.cmp (CmpOp.Eq) (CE.var 1) (CE.int 0)) (CS.seq (CS.ret (CE.bool false)) (CS.skip)) (CS.skip)) (CS.seq (CS.ite (CE.not (CE.meth 0 15 (CE.nil))) (CS.seq (CS.ret (CE.bool false)) (CS.skip)) (CS.skip)) (CS.seq (CS.ite (CE.cmp (CmpOp.Eq) (CE.var 1) (CE.int 1)) (CS.seq (CS.setf (CE.var 0) 4 (CE.fld (CE.var 0) 1)) (CS.seq (CS.ex (CE.meth 0 10 (CE.cons (CE.str [105, 101, 110, 100, 111]) (CE.nil)))) (CS.skip))) (CS.seq (CS.ite (CE.cmp (CmpOp.Eq) (CE.var 1) (CE.int 2)) (CS.seq (CS.setf (CE.var 0) 4 (CE.fld (CE.var 0) 1)) (CS.seq (CS.ex (CE.meth 0 10 (CE.cons (CE.str [97, 110, 100, 111]) (CE.nil)))) (CS.skip))) (CS.seq (CS.ite (CE.cmp (CmpOp.Eq) (CE.var 1) (CE.int 3)) (CS.seq (CS.setf (CE.var 0) 4 (CE.fld (CE.var 0) 1)) (CS.seq (CS.ex (CE.meth 0 10 (CE.cons (CE.str [97, 114]) (CE.nil)))) (CS.skip))) (CS.seq (CS.ite (CE.cmp (CmpOp.Eq) (CE.var 1) (CE.int 4)) (CS.seq (CS.setf (CE.var 0) 4 (CE.fld (CE.var 0) 1)) (CS.seq (CS.ex (CE.meth 0 10 (CE.cons (CE.str [101, 114]) (CE.nil)))) (CS.skip))) (CS.seq (CS.ite (CE.cmp (CmpOp.Eq) (CE.var 1) (CE.int 5)) (CS.seq (CS.setf (CE.var 0) 4 (CE.fld (CE.var 0) 1)) (CS.seq (CS.ex (CE.meth 0 10 (CE.cons (CE.str [105, 114]) (CE.nil)))) (CS.skip))) (CS.seq (CS.ite (CE.cmp (CmpOp.Eq) (CE.var 1) (CE.int 6)) (CS.seq (CS.ex (CE.meth 0 11 (CE.nil))) (CS.skip)) (CS.seq (CS.ite (CE.or (CE.cmp (CmpOp.LtE) (CE.fld (CE.var 0) 1) (CE.fld (CE.var 0) 3)) (CE.cmp (CmpOp.NotEq) (CE.idx (CE.fld (CE.var 0) 0) (CE.bin (Operator.Sub) (CE.fld (CE.var 0) 1) (CE.int 1))) (CE.str [117]))) (CS.seq (CS.ret (CE.bool false)) (CS.skip)) (CS.skip)) (CS.seq (CS.augf (CE.var 0) 1 (Operator.Sub) (CE.int 1)) (CS.seq (CS.ex (CE.meth 0 11 (CE.nil))) (CS.skip))))) (CS.skip))) (CS.skip))) (CS.skip))) (CS.skip))) (CS.skip))) (CS.seq (CS.ret (CE.bool true)) (CS.skip))))))))
/-- [self, among_var, v_1, v_2, v_3, v_4, v_5, SpanishStemmer, lab0] -/
noncomputable def b_r_standard_suffix : CS := CS.seq (CS.setf (CE.var 0) 5 (CE.fld (CE.var 0) 1)) (CS.seq (CS.asg 1 (CE.meth 0 8 (CE.cons (CE.ctab 7) (CE.nil)))) (CS.seq (CS.ite (CE.cmp (CmpOp.Eq) (CE.var 1) (CE.int 0)) (CS.seq (CS.ret (CE.bool false)) (CS.skip)) (CS.skip)) (CS.seq (CS.setf (CE.var 0) 4 (CE.fld (CE.var 0) 1)) (CS.seq (CS.ite (CE.cmp (CmpOp.Eq) (CE.var 1) (CE.int 1)) (CS.seq (CS.ite (CE.not (CE.meth 0 16 (CE.nil))) (CS.seq (CS.ret (CE.bool false)) (CS.skip)) (CS.skip)) (CS.seq (CS.ex (CE.meth 0 11 (CE.nil))) (CS.skip))) (CS.seq (CS.ite (CE.cmp (CmpOp.Eq) (CE.var 1) (CE.int 2)) (CS.seq (CS.ite (CE.not (CE.meth 0 16 (CE.nil))) (CS.seq (CS.ret (CE.bool false)) (CS.skip)) (CS.skip)) (CS.seq (CS.ex (CE.meth 0 11 (CE.nil))) (CS.seq (CS.asg 2 (CE.bin (Operator.Sub) (CE.fld (CE.var 0) 2) (CE.fld (CE.var 0) 1))) (CS.seq (CS.tryS (CS.seq (CS.setf (CE.var 0) 5 (CE.fld (CE.var 0) 1)) (CS.seq (CS.ite (CE.not (CE.meth 0 6 (CE.cons (CE.str [105, 99]) (CE.nil)))) (CS.seq (CS.setf (CE.var 0) 1 (CE.bin (Operator.Sub) (CE.fld (CE.var 0) 2) (CE.var 2))) (CS.seq (CS.raise 0) (CS.skip))) (CS.skip)) (CS.seq (CS.setf (CE.var 0) 4 (CE.fld (CE.var 0) 1)) (CS.seq (CS.ite (CE.not (CE.meth 0 16 (CE.nil))) (CS.seq (CS.setf (CE.var 0) 1 (CE.bin (Operator.Sub) (CE.fld (CE.var 0) 2) (CE.var 2))) (CS.seq (CS.raise 0) (CS.skip))) (CS.skip)) (CS.seq (CS.ex (CE.meth 0 11 (CE.nil))) (CS.skip)))))) 0) (CS.skip))))) (CS.seq (CS.ite (CE.cmp (CmpOp.Eq) (CE.var 1) (CE.int 3)) (CS.seq (CS.ite (CE.not (CE.meth 0 16 (CE.nil))) (CS.seq (CS.ret (CE.bool false)) (CS.skip)) (CS.skip)) (CS.seq (CS.ex (CE.meth 0 10 (CE.cons (CE.str [108, 111, 103]) (CE.nil)))) (CS.skip))) (CS.seq (CS.ite (CE.cmp (CmpOp.Eq) (CE.var 1) (CE.int 4)) (CS.seq (CS.ite (CE.not (CE.meth 0 16 (CE.nil))) (CS.seq (CS.ret (CE.bool false)) (CS.skip)) (CS.skip)) (CS.seq (CS.ex (CE.meth 0 10 (CE.cons (CE.str [117]) (CE.nil)))) (CS.skip))) (CS.seq (CS.ite (CE.cmp (CmpOp.Eq) (CE.var 1) (CE.int 5)) (CS.seq (CS.ite (CE.not (CE.meth 0 16 (CE.nil))) (CS.seq (CS.ret (CE.bool false)) (CS.skip)) (CS.skip)) (CS.seq (CS.ex (CE.meth 0 10 (CE.cons (CE.str [101, 110, 116, 101]) (CE.nil)))) (CS.skip))) (CS.seq (CS.ite (CE.cmp (CmpOp.Eq) (CE.var 1) (CE.int 6)) (CS.seq (CS.ite (CE.cmp (CmpOp.Gt) (CE.fld (CE.var 0) 7) (CE.fld (CE.var 0) 1)) (CS.seq (CS.ret (CE.bool false)) (CS.skip)) (CS.skip)) (CS.seq (CS.ex (CE.meth 0 11 (CE.nil))) (CS.seq (CS.asg 3 (CE.bin (Operator.Sub) (CE.fld (CE.var 0) 2) (CE.fld (CE.var 0) 1))) (CS.seq (CS.tryS (CS.seq (CS.setf (CE.var 0) 5 (CE.fld (CE.var 0) 1)) (CS.seq (CS.asg 1 (CE.meth 0 8 (CE.cons (CE.ctab 4) (CE.nil)))) (CS.seq (CS.ite (CE.cmp (CmpOp.Eq) (CE.var 1) (CE.int 0)) (CS.seq (CS.setf (CE.var 0) 1 (CE.bin (Operator.Sub) (CE.fld (CE.var 0) 2) (CE.var 3))) (CS.seq (CS.raise 0) (CS.skip))) (CS.skip)) (CS.seq (CS.setf (CE.var 0) 4 (CE.fld (CE.var 0) 1)) (CS.seq (CS.ite (CE.not (CE.meth 0 16 (CE.nil))) (CS.seq (CS.setf (CE.var 0) 1 (CE.bin (Operator.Sub) (CE.fld (CE.var 0) 2) (CE.var 3))) (CS.seq (CS.raise 0) (CS.skip))) (CS.skip)) (CS.seq (CS.ex (CE.meth 0 11 (CE.nil))) (CS.seq (CS.ite (CE.cmp (CmpOp.Eq) (CE.var 1) (CE.int 1)) (CS.seq (CS.setf (CE.var 0) 5 (CE.fld (CE.var 0) 1)) (CS.seq (CS.ite (CE.not (CE.meth 0 6 (CE.cons (CE.str [97, 116]) (CE.nil)))) (CS.seq (CS.setf (CE.var 0) 1 (CE.bin (Operator.Sub) (CE.fld (CE.var 0) 2) (CE.var 3))) (CS.seq (CS.raise 0) (CS.skip))) (CS.skip)) (CS.seq (CS.setf (CE.var 0) 4 (CE.fld (CE.var 0) 1)) (CS.seq (CS.ite (CE.not (CE.meth 0 16 (CE.nil))) (CS.seq (CS.setf (CE.var 0) 1 (CE.bin (Operator.Sub) (CE.fld (CE.var 0) 2) (CE.var 3))) (CS.seq (CS.raise 0) (CS.skip))) (CS.skip)) (CS.seq (CS.ex (CE.meth 0 11 (CE.nil))) (CS.skip)))))) (CS.skip)) (CS.skip)))))))) 0) (CS.skip))))) (CS.seq (CS.ite (CE.cmp (CmpOp.Eq) (CE.var 1) (CE.int 7)) (CS.seq (CS.ite (CE.not (CE.meth 0 16 (CE.nil))) (CS.seq (CS.ret (CE.bool false)) (CS.skip)) (CS.skip)) (CS.seq (CS.ex (CE.meth 0 11 (CE.nil))) (CS.seq (CS.asg 4 (CE.bin (Operator.Sub) (CE.fld (CE.var 0) 2) (CE.fld (CE.var 0) 1))) (CS.seq (CS.tryS (CS.seq (CS.setf (CE.var 0) 5 (CE.fld (CE.var 0) 1)) (CS.seq (CS.ite (CE.cmp (CmpOp.Eq) (CE.meth 0 8 (CE.cons (CE.ctab 5) (CE.nil))) (CE.int 0)) (CS.seq (CS.setf (CE.var 0) 1 (CE.bin (Operator.Sub) (CE.fld (CE.var 0) 2) (CE.var 4))) (CS.seq (CS.raise 0) (CS.skip))) (CS.skip)) (CS.seq (CS.setf (CE.var 0) 4 (CE.fld (CE.var 0) 1)) (CS.seq (CS.ite (CE.not (CE.meth 0 16 (CE.nil))) (CS.seq (CS.setf (CE.var 0) 1 (CE.bin (Operator.Sub) (CE.fld (CE.var 0) 2) (CE.var 4))) (CS.seq (CS.raise 0) (CS.skip))) (CS.skip)) (CS.seq (CS.ex (CE.meth 0 11 (CE.nil))) (CS.skip)))))) 0) (CS.skip))))) (CS.seq (CS.ite (CE.cmp (CmpOp.Eq) (CE.var 1) (CE.int 8)) (CS.seq (CS.ite (CE.not (CE.meth 0 16 (CE.nil))) (CS.seq (CS.ret (CE.bool false)) (CS.skip)) (CS.skip)) (CS.seq (CS.ex (CE.meth 0 11 (CE.nil))) (CS.seq (CS.asg 5 (CE.bin (Operator.Sub) (CE.fld (CE.var 0) 2) (CE.fld (CE.var 0) 1))) (CS.seq (CS.tryS (CS.seq (CS.setf (CE.var 0) 5 (CE.fld (CE.var 0) 1)) (CS.seq (CS.ite (CE.cmp (CmpOp.Eq) (CE.meth 0 8 (CE.cons (CE.ctab 6) (CE.nil))) (CE.int 0)) (CS.seq (CS.setf (CE.var 0) 1 (CE.bin (Operator.Sub) (CE.fld (CE.var 0) 2) (CE.var 5))) (CS.seq (CS.raise 0) (CS.skip))) (CS.skip)) (CS.seq (CS.setf (CE.var 0) 4 (CE.fld (CE.var 0) 1)) (CS.seq (CS.ite (CE.not (CE.meth 0 16 (CE.nil))) (CS.seq (CS.setf (CE.var 0) 1 (CE.bin (Operator.Sub) (CE.fld (CE.var 0) 2) (CE.var 5))) (CS.seq (CS.raise 0) (CS.skip))) (CS.skip)) (CS.seq (CS.ex (CE.meth 0 11 (CE.nil))) (CS.skip)))))) 0) (CS.skip))))) (CS.seq (CS.ite (CE.not (CE.meth 0 16 (CE.nil))) (CS.seq (CS.ret (CE.bool false)) (CS.skip)) (CS.skip)) (CS.seq (CS.ex (CE.meth 0 11 (CE.nil))) (CS.seq (CS.asg 6 (CE.bin (Operator.Sub) (CE.fld (CE.var 0) 2) (CE.fld (CE.var 0) 1))) (CS.seq (CS.tryS (CS.seq (CS.setf (CE.var 0) 5 (CE.fld (CE.var 0) 1)) (CS.seq (CS.ite (CE.not (CE.meth 0 6 (CE.cons (CE.str [97, 116]) (CE.nil)))) (CS.seq (CS.setf (CE.var 0) 1 (CE.bin (Operator.Sub) (CE.fld (CE.var 0) 2) (CE.var 6))) (CS.seq (CS.raise 0) (CS.skip))) (CS.skip)) (CS.seq (CS.setf (CE.var 0) 4 (CE.fld (CE.var 0) 1)) (CS.seq (CS.ite (CE.not (CE.meth 0 16 (CE.nil))) (CS.seq (CS.setf (CE.var 0) 1 (CE.bin (Operator.Sub) (CE.fld (CE.var 0) 2) (CE.var 6))) (CS.seq (CS.raise 0) (CS.skip))) (CS.skip)) (CS.seq (CS.ex (CE.meth 0 11 (CE.nil))) (CS.skip)))))) 0) (CS.skip)))))) (CS.skip))) (CS.skip))) (CS.skip))) (CS.skip))) (CS.skip))) (CS.skip))) (CS.skip))) (CS.seq (CS.ret (CE.bool true)) (CS.skip))))))
/-- [self, v_2, SpanishStemmer] -/
noncomputable def b_r_y_verb_suffix : CS := CS.seq (CS.ite (CE.cmp (CmpOp.Lt) (CE.fld (CE.var 0) 1) (CE.fld (CE.var 0) 6)) (CS.seq (CS.ret (CE.bool false)) (CS.skip)) (CS.skip)) (CS.seq (CS.asg 1 (CE.fld (CE.var 0) 3)) (CS.seq (CS.setf (CE.var 0) 3 (CE.fld (CE.var 0) 6)) (CS.seq (CS.setf (CE.var 0) 5 (CE.fld (CE.var 0) 1)) (CS.seq (CS.ite (CE.cmp (CmpOp.Eq) (CE.meth 0 8 (CE.cons (CE.ctab 8) (CE.nil))) (CE.int 0)) (CS.seq (CS.setf (CE.var 0) 3 (CE.var 1)) (CS.seq (CS.ret (CE.bool false)) (CS.skip))) (CS.skip)) (CS.seq (CS.setf (CE.var 0) 4 (CE.fld (CE.var 0) 1)) (CS.seq (CS.setf (CE.var 0) 3 (CE.var 1)) (CS.seq (CS.ite (CE.or (CE.cmp (CmpOp.LtE) (CE.fld (CE.var 0) 1) (CE.fld (CE.var 0) 3)) (CE.cmp (CmpOp.NotEq) (CE.idx (CE.fld (CE.var 0) 0) (CE.bin (Operator.Sub) (CE.fld (CE.var 0) 1) (CE.int 1))) (CE.str [117]))) (CS.seq (CS.ret (CE.bool false)) (CS.skip)) (CS.skip)) (CS.seq (CS.augf (CE.var 0) 1 (Operator.Sub) (CE.int 1)) (CS.seq (CS.ex (CE.meth 0 11 (CE.nil))) (CS.seq (CS.ret (CE.bool true)) (CS.skip)))))))))))
/-- [self, v_2, among_var, v_3, v_4, SpanishStemmer, lab0] -/
noncomputable def b_r_verb_suffix : CS := CS.seq (CS.ite (CE.cmp (CmpOp.Lt) (CE.fld (CE.var 0) 1) (CE.fld (CE.var 0) 6)) (CS.seq (CS.ret (CE.bool false)) (CS.skip)) (CS.skip)) (CS.seq (CS.asg 1 (CE.fld (CE.var 0) 3)) (CS.seq (CS.setf (CE.var 0) 3 (CE.fld (CE.var 0) 6)) (CS.seq (CS.setf (CE.var 0) 5 (CE.fld (CE.var 0) 1)) (CS.seq (CS.asg 2 (CE.meth 0 8 (CE.cons (CE.ctab 9) (CE.nil)))) (CS.seq (CS.ite (CE.cmp (CmpOp.Eq) (CE.var 2) (CE.int 0)) (CS.seq (CS.setf (CE.var 0) 3 (CE.var 1)) (CS.seq (CS.ret (CE.bool false)) (CS.skip))) (CS.skip)) (CS.seq (CS.setf (CE.var 0) 4 (CE.fld (CE.var 0) 1)) (CS.seq (CS.setf (CE.var 0) 3 (CE.var 1)) (CS.seq (CS.ite (CE.cmp (CmpOp.Eq) (CE.var 2) (CE.int 1)) (CS.seq (CS.asg 3 (CE.bin (Operator.Sub) (CE.fld (CE.var 0) 2) (CE.fld (CE.var 0) 1))) (CS.seq (CS.tryS (CS.seq (CS.ite (CE.or (CE.cmp (CmpOp.LtE) (CE.fld (CE.var 0) 1) (CE.fld (CE.var 0) 3)) (CE.cmp (CmpOp.NotEq) (CE.idx (CE.fld (CE.var 0) 0) (CE.bin (Operator.Sub) (CE.fld (CE.var 0) 1) (CE.int 1))) (CE.str [117]))) (CS.seq (CS.setf (CE.var 0) 1 (CE.bin (Operator.Sub) (CE.fld (CE.var 0) 2) (CE.var 3))) (CS.seq (CS.raise 0) (CS.skip))) (CS.skip)) (CS.seq (CS.augf (CE.var 0) 1 (Operator.Sub) (CE.int 1)) (CS.seq (CS.asg 4 (CE.bin (Operator.Sub) (CE.fld (CE.var 0) 2) (CE.fld (CE.var 0) 1))) (CS.seq (CS.ite (CE.or (CE.cmp (CmpOp.LtE) (CE.fld (CE.var 0) 1) (CE.fld (CE.var 0) 3)) (CE.cmp (CmpOp.NotEq) (CE.idx (CE.fld (CE.var 0) 0) (CE.bin (Operator.Sub) (CE.fld (CE.var 0) 1) (CE.int 1))) (CE.str [103]))) (CS.seq (CS.setf (CE.var 0) 1 (CE.bin (Operator.Sub) (CE.fld (CE.var 0) 2) (CE.var 3))) (CS.seq (CS.raise 0) (CS.skip))) (CS.skip)) (CS.seq (CS.augf (CE.var 0) 1 (Operator.Sub) (CE.int 1)) (CS.seq (CS.setf (CE.var 0) 1 (CE.bin (Operator.Sub) (CE.fld (CE.var 0) 2) (CE.var 4))) (CS.skip))))))) 0) (CS.seq (CS.setf (CE.var 0) 4 (CE.fld (CE.var 0) 1)) (CS.seq (CS.ex (CE.meth 0 11 (CE.nil))) (CS.skip))))) (CS.seq (CS.ex (CE.meth 0 11 (CE.nil))) (CS.skip))) (CS.seq (CS.ret (CE.bool true)) (CS.skip))))))))))
/-- [self, among_var, v_1, v_2, SpanishStemmer, lab0] -/
noncomputable def b_r_residual_suffix : CS := CS.seq (CS.setf (CE.var 0) 5 (CE.fld (CE.var 0) 1)) (CS.seq (CS.asg 1 (CE.meth 0 8 (CE.cons (CE.ctab 10) (CE.nil)))) (CS.seq (CS.ite (CE.cmp (CmpOp.Eq) (CE.var 1) (CE.int 0)) (CS.seq (CS.ret (CE.bool false)) (CS.skip)) (CS.skip)) (CS.seq (CS.setf (CE.var 0) 4 (CE.fld (CE.var 0) 1)) (CS.seq (CS.ite (CE.cmp (CmpOp.Eq) (CE.var 1) (CE.int 1)) (CS.seq (CS.ite (CE.not (CE.meth 0 15 (CE.nil))) (CS.seq (CS.ret (CE.bool false)) (CS.skip)) (CS.skip)) (CS.seq (CS.ex (CE.meth 0 11 (CE.nil))) (CS.skip))) (CS.seq (CS.ite (CE.not (CE.meth 0 15 (CE.nil))) (CS.seq (CS.ret (CE.bool false)) (CS.skip)) (CS.skip)) (CS.seq (CS.ex (CE.meth 0 11 (CE.nil))) (CS.seq (CS.asg 2 (CE.bin (Operator.Sub) (CE.fld (CE.var 0) 2) (CE.fld (CE.var 0) 1))) (CS.seq (CS.tryS (CS.seq (CS.setf (CE.var 0) 5 (CE.fld (CE.var 0) 1)) (CS.seq (CS.ite (CE.or (CE.cmp (CmpOp.LtE) (CE.fld (CE.var 0) 1) (CE.fld (CE.var 0) 3)) (CE.cmp (CmpOp.NotEq) (CE.idx (CE.fld (CE.var 0) 0) (CE.bin (Operator.Sub) (CE.fld (CE.var 0) 1) (CE.int 1))) (CE.str [117]))) (CS.seq (CS.setf (CE.var 0) 1 (CE.bin (Operator.Sub) (CE.fld (CE.var 0) 2) (CE.var 2))) (CS.seq (CS.raise 0) (CS.skip))) (CS.skip)) (CS.seq (CS.augf (CE.var 0) 1 (Operator.Sub) (CE.int 1)) (CS.seq (CS.setf (CE.var 0) 4 (CE.fld (CE.var 0) 1)) (CS.seq (CS.asg 3 (CE.bin (Operator.Sub) (CE.fld (CE.var 0) 2) (CE.fld (CE.var 0) 1))) (CS.seq (CS.ite (CE.or (CE.cmp (CmpOp.LtE) (CE.fld (CE.var 0) 1) (CE.fld (CE.var 0) 3)) (CE.cmp (CmpOp.NotEq) (CE.idx (CE.fld (CE.var 0) 0) (CE.bin (Operator.Sub) (CE.fld (CE.var 0) 1) (CE.int 1))) (CE.str [103]))) (CS.seq (CS.setf (CE.var 0) 1 (CE.bin (Operator.Sub) (CE.fld (CE.var 0) 2) (CE.var 2))) (CS.seq (CS.raise 0) (CS.skip))) (CS.skip)) (CS.seq (CS.augf (CE.var 0) 1 (Operator.Sub) (CE.int 1)) (CS.seq (CS.setf (CE.var 0) 1 (CE.bin (Operator.Sub) (CE.fld (CE.var 0) 2) (CE.var 3))) (CS.seq (CS.ite (CE.not (CE.meth 0 15 (CE.nil))) (CS.seq (CS.setf (CE.var 0) 1 (CE.bin (Operator.Sub) (CE.fld (CE.var 0) 2) (CE.var 2))) (CS.seq (CS.raise 0) (CS.skip))) (CS.skip)) (CS.seq (CS.ex (CE.meth 0 11 (CE.nil))) (CS.skip))))))))))) 0) (CS.skip)))))) (CS.seq (CS.ret (CE.bool true)) (CS.skip))))))
/-- [self, v_1, v_2, v_3, v_4, v_5, lab1, lab0] -/
noncomputable def b_p_stem : CS := CS.seq (CS.ex (CE.meth 0 13 (CE.nil))) (CS.seq (CS.setf (CE.var 0) 3 (CE.fld (CE.var 0) 1)) (CS.seq (CS.setf (CE.var 0) 1 (CE.fld (CE.var 0) 2)) (CS.seq (CS.asg 1 (CE.bin (Operator.Sub) (CE.fld (CE.var 0) 2) (CE.fld (CE.var 0) 1))) (CS.seq (CS.ex (CE.meth 0 17 (CE.nil))) (CS.seq (CS.setf (CE.var 0) 1 (CE.bin (Operator.Sub) (CE.fld (CE.var 0) 2) (CE.var 1))) (CS.seq (CS.asg 2 (CE.bin (Operator.Sub) (CE.fld (CE.var 0) 2) (CE.fld (CE.var 0) 1))) (CS.seq (CS.tryS (CS.seq (CS.whl (CE.bool true) (CS.seq (CS.asg 3 (CE.bin (Operator.Sub) (CE.fld (CE.var 0) 2) (CE.fld (CE.var 0) 1))) (CS.seq (CS.tryS (CS.seq (CS.ite (CE.not (CE.meth 0 18 (CE.nil))) (CS.seq (CS.raise 1) (CS.skip)) (CS.skip)) (CS.seq (CS.brk) (CS.skip))) 1) (CS.seq (CS.setf (CE.var 0) 1 (CE.bin (Operator.Sub) (CE.fld (CE.var 0) 2) (CE.var 3))) (CS.seq (CS.tryS (CS.seq (CS.ite (CE.not (CE.meth 0 19 (CE.nil))) (CS.seq (CS.raise 1) (CS.skip)) (CS.skip)) (CS.seq (CS.brk) (CS.skip))) 1) (CS.seq (CS.setf (CE.var 0) 1 (CE.bin (Operator.Sub) (CE.fld (CE.var 0) 2) (CE.var 3))) (CS.seq (CS.ite (CE.not (CE.meth 0 20 (CE.nil))) (CS.seq (CS.raise 0) (CS.skip)) (CS.skip)) (CS.seq (CS.brk) (CS.skip))))))))) (CS.skip)) 0) (CS.seq (CS.setf (CE.var 0) 1 (CE.bin (Operator.Sub) (CE.fld (CE.var 0) 2) (CE.var 2))) (CS.seq (CS.asg 4 (CE.bin (Operator.Sub) (CE.fld (CE.var 0) 2) (CE.fld (CE.var 0) 1))) (CS.seq (CS.ex (CE.meth 0 21 (CE.nil))) (CS.seq (CS.setf (CE.var 0) 1 (CE.bin (Operator.Sub) (CE.fld (CE.var 0) 2) (CE.var 4))) (CS.seq (CS.setf (CE.var 0) 1 (CE.fld (CE.var 0) 3)) (CS.seq (CS.asg 5 (CE.fld (CE.var 0) 1)) (CS.seq (CS.ex (CE.meth 0 14 (CE.nil))) (CS.seq (CS.setf (CE.var 0) 1 (CE.var 5)) (CS.seq (CS.ret (CE.bool true)) (CS.skip)))))))))))))))))
/-- [] -/
noncomputable def b_law_vowels : CS := CS.seq (CS.ret (CE.lst [[97], [101], [105], [111], [117], [225], [233], [237], [243], [250], [252]])) (CS.skip)
/-- [ends, rule, _law_rules] -/
noncomputable def b_law_standard : CS := CS.seq (CS.asg 0 (CE.lst [])) (CS.seq (CS.forL 1 (CE.glob 3) (CS.seq (CS.asg 0 (CE.bin (Operator.Add) (CE.var 0) (CE.idx (CE.var 1) (CE.int 0)))) (CS.skip))) (CS.seq (CS.ret (CE.var 0)) (CS.skip)))
/-- [word, shape, sign, _law_vowels] -/
noncomputable def b_law_shape : CS := CS.seq (CS.asg 1 (CE.str [])) (CS.seq (CS.forL 2 (CE.var 0) (CS.seq (CS.asg 1 (CE.bin (Operator.Add) (CE.var 1) (CE.ite (CE.cmp (CmpOp.In) (CE.var 2) (CE.call 100 (CE.nil))) (CE.str [118]) (CE.str [99])))) (CS.skip))) (CS.seq (CS.ret (CE.var 1)) (CS.skip)))
/-- [shape, part, place, len] -/
noncomputable def b_law_past : CS := CS.seq (CS.whl (CE.cmp (CmpOp.LtE) (CE.bin (Operator.Add) (CE.var 2) (CE.len (CE.var 1))) (CE.len (CE.var 0))) (CS.seq (CS.ite (CE.cmp (CmpOp.Eq) (CE.slice (CE.var 0) (CE.var 2) (CE.bin (Operator.Add) (CE.var 2) (CE.len (CE.var 1)))) (CE.var 1)) (CS.seq (CS.ret (CE.bin (Operator.Add) (CE.var 2) (CE.len (CE.var 1)))) (CS.skip)) (CS.skip)) (CS.seq (CS.augl 2 (Operator.Add) (CE.int 1)) (CS.skip)))) (CS.seq (CS.ret (CE.len (CE.var 0))) (CS.skip))
/-- [shape, len, _law_past] -/
noncomputable def b_law_behind : CS := CS.seq (CS.ite (CE.cmp (CmpOp.Lt) (CE.len (CE.var 0)) (CE.int 3)) (CS.seq (CS.ret (CE.len (CE.var 0))) (CS.skip)) (CS.skip)) (CS.seq (CS.ite (CE.cmp (CmpOp.Eq) (CE.slice (CE.var 0) (CE.none) (CE.int 2)) (CE.str [99, 118])) (CS.seq (CS.ret (CE.int 3)) (CS.skip)) (CS.skip)) (CS.seq (CS.ret (CE.call 103 (CE.cons (CE.var 0) (CE.cons (CE.ite (CE.cmp (CmpOp.Eq) (CE.slice (CE.var 0) (CE.none) (CE.int 2)) (CE.str [118, 118])) (CE.str [99]) (CE.str [118])) (CE.cons (CE.int 2) (CE.nil)))))) (CS.skip)))
/-- [text, ends, size, range, min, len] -/
noncomputable def b_law_end : CS := CS.seq (CS.forR 2 (CE.min2 (CE.len (CE.var 0)) (CE.int 8)) (CE.int 0) (-1) (CS.seq (CS.ite (CE.cmp (CmpOp.In) (CE.slice (CE.var 0) (CE.bin (Operator.Sub) (CE.len (CE.var 0)) (CE.var 2)) (CE.none)) (CE.var 1)) (CS.seq (CS.ret (CE.slice (CE.var 0) (CE.bin (Operator.Sub) (CE.len (CE.var 0)) (CE.var 2)) (CE.none))) (CS.skip)) (CS.skip)) (CS.skip))) (CS.seq (CS.ret (CE.str [])) (CS.skip))
/-- [word, shape, behind, first, second, pronoun, body, form, end, low, ends, instead, further, stem, more, _law_shape, _law_behind, _law_past, _law_end, _law_pronouns, len, _law_forms, _law_bare, _law_standard, _law_rules, _law_ys, _law_verbs] -/
noncomputable def b_law_stem : CS := CS.seq (CS.asg 1 (CE.call 102 (CE.cons (CE.var 0) (CE.nil)))) (CS.seq (CS.asg 2 (CE.call 104 (CE.cons (CE.var 1) (CE.nil)))) (CS.seq (CS.asg 3 (CE.call 103 (CE.cons (CE.var 1) (CE.cons (CE.str [118, 99]) (CE.cons (CE.int 0) (CE.nil)))))) (CS.seq (CS.asg 4 (CE.call 103 (CE.cons (CE.var 1) (CE.cons (CE.str [118, 99]) (CE.cons (CE.var 3) (CE.nil)))))) (CS.seq (CS.asg 5 (CE.call 105 (CE.cons (CE.var 0) (CE.cons (CE.glob 1) (CE.nil))))) (CS.seq (CS.asg 6 (CE.slice (CE.var 0) (CE.none) (CE.bin (Operator.Sub) (CE.len (CE.var 0)) (CE.len (CE.var 5))))) (CS.seq (CS.asg 7 (CE.call 105 (CE.cons (CE.var 6) (CE.cons (CE.glob 2) (CE.nil))))) (CS.seq (CS.ite (CE.and (CE.cmp (CmpOp.NotEq) (CE.var 5) (CE.str [])) (CE.and (CE.cmp (CmpOp.NotEq) (CE.var 7) (CE.str [])) (CE.and (CE.cmp (CmpOp.GtE) (CE.bin (Operator.Sub) (CE.len (CE.var 6)) (CE.len (CE.var 7))) (CE.var 2)) (CE.or (CE.cmp (CmpOp.NotEq) (CE.var 7) (CE.str [121, 101, 110, 100, 111])) (CE.endsw (CE.var 6) (CE.str [117, 121, 101, 110, 100, 111])))))) (CS.seq (CS.asg 0 (CE.bin (Operator.Add) (CE.slice (CE.var 6) (CE.none) (CE.bin (Operator.Sub) (CE.len (CE.var 6)) (CE.len (CE.var 7)))) (CE.call 106 (CE.cons (CE.var 7) (CE.nil))))) (CS.skip)) (CS.skip)) (CS.seq (CS.asg 8 (CE.call 105 (CE.cons (CE.var 0) (CE.cons (CE.call 101 (CE.nil)) (CE.nil))))) (CS.seq (CS.asg 9 (CE.ite (CE.cmp (CmpOp.Eq) (CE.var 8) (CE.str [97, 109, 101, 110, 116, 101])) (CE.var 3) (CE.var 4))) (CS.seq (CS.ite (CE.and (CE.cmp (CmpOp.NotEq) (CE.var 8) (CE.str [])) (CE.cmp (CmpOp.GtE) (CE.bin (Operator.Sub) (CE.len (CE.var 0)) (CE.len (CE.var 8))) (CE.var 9))) (CS.seq (CS.forT 10 11 12 (CE.glob 3) (CS.seq (CS.ite (CE.cmp (CmpOp.In) (CE.var 8) (CE.var 10)) (CS.seq (CS.asg 13 (CE.bin (Operator.Add) (CE.slice (CE.var 0) (CE.none) (CE.bin (Operator.Sub) (CE.len (CE.var 0)) (CE.len (CE.var 8)))) (CE.var 11))) (CS.seq (CS.asg 14 (CE.call 105 (CE.cons (CE.slice (CE.var 13) (CE.var 4) (CE.none)) (CE.cons (CE.var 12) (CE.nil))))) (CS.skip))) (CS.skip)) (CS.skip))) (CS.seq (CS.asg 0 (CE.slice (CE.var 13) (CE.none) (CE.bin (Operator.Sub) (CE.len (CE.var 13)) (CE.len (CE.var 14))))) (CS.skip))) (CS.seq (CS.asg 8 (CE.call 105 (CE.cons (CE.slice (CE.var 0) (CE.var 2) (CE.none)) (CE.cons (CE.glob 5) (CE.nil))))) (CS.seq (CS.asg 13 (CE.slice (CE.var 0) (CE.none) (CE.bin (Operator.Sub) (CE.len (CE.var 0)) (CE.len (CE.var 8))))) (CS.seq (CS.ite (CE.and (CE.cmp (CmpOp.NotEq) (CE.var 8) (CE.str [])) (CE.endsw (CE.var 13) (CE.str [117]))) (CS.seq (CS.asg 0 (CE.var 13)) (CS.skip)) (CS.seq (CS.asg 8 (CE.call 105 (CE.cons (CE.slice (CE.var 0) (CE.var 2) (CE.none)) (CE.cons (CE.glob 6) (CE.nil))))) (CS.seq (CS.asg 0 (CE.slice (CE.var 0) (CE.none) (CE.bin (Operator.Sub) (CE.len (CE.var 0)) (CE.len (CE.var 8))))) (CS.seq (CS.ite (CE.and (CE.cmp (CmpOp.In) (CE.var 8) (CE.lst [[101, 110], [101, 115], [233, 105, 115], [101, 109, 111, 115]])) (CE.endsw (CE.var 0) (CE.str [103, 117]))) (CS.seq (CS.asg 0 (CE.slice (CE.var 0) (CE.none) (CE.bin (Operator.Sub) (CE.len (CE.var 0)) (CE.int 1)))) (CS.skip)) (CS.skip)) (CS.skip))))) (CS.skip))))) (CS.seq (CS.asg 8 (CE.call 105 (CE.cons (CE.slice (CE.var 0) (CE.var 2) (CE.none)) (CE.cons (CE.lst [[111, 115], [97], [111], [225], [237], [243], [101], [233]]) (CE.nil))))) (CS.seq (CS.asg 0 (CE.slice (CE.var 0) (CE.none) (CE.bin (Operator.Sub) (CE.len (CE.var 0)) (CE.len (CE.var 8))))) (CS.seq (CS.ite (CE.and (CE.cmp (CmpOp.In) (CE.var 8) (CE.lst [[101], [233]])) (CE.and (CE.endsw (CE.var 0) (CE.str [103, 117])) (CE.cmp (CmpOp.GtE) (CE.bin (Operator.Sub) (CE.len (CE.var 0)) (CE.int 1)) (CE.var 2)))) (CS.seq (CS.asg 0 (CE.slice (CE.var 0) (CE.none) (CE.bin (Operator.Sub) (CE.len (CE.var 0)) (CE.int 1)))) (CS.skip)) (CS.skip)) (CS.seq (CS.ret (CE.call 106 (CE.cons (CE.var 0) (CE.nil)))) (CS.skip)))))))))))))))
/-- [numbers, size, pieces, word, number, _law_pronouns, _law_forms, _law_standard, _law_inner, _law_ys, _law_verbs, _law_signs, len, max] -/
noncomputable def b_law_word : CS := CS.seq (CS.asg 2 (CE.bin (Operator.Add) (CE.bin (Operator.Add) (CE.bin (Operator.Add) (CE.bin (Operator.Add) (CE.bin (Operator.Add) (CE.glob 1) (CE.glob 2)) (CE.call 101 (CE.nil))) (CE.glob 4)) (CE.glob 5)) (CE.glob 6))) (CS.seq (CS.asg 3 (CE.str [])) (CS.seq (CS.forL 4 (CE.var 0) (CS.seq (CS.ite (CE.cmp (CmpOp.Eq) (CE.bin (Operator.Mod) (CE.var 4) (CE.int 2)) (CE.int 0)) (CS.seq (CS.asg 3 (CE.bin (Operator.Add) (CE.var 3) (CE.idx (CE.glob 0) (CE.bin (Operator.Mod) (CE.bin (Operator.FloorDiv) (CE.var 4) (CE.int 2)) (CE.len (CE.glob 0)))))) (CS.skip)) (CS.seq (CS.asg 3 (CE.bin (Operator.Add) (CE.var 3) (CE.idx (CE.var 2) (CE.bin (Operator.Mod) (CE.bin (Operator.FloorDiv) (CE.var 4) (CE.int 2)) (CE.len (CE.var 2)))))) (CS.skip))) (CS.skip))) (CS.seq (CS.ret (CE.slice (CE.var 3) (CE.max2 (CE.int 0) (CE.bin (Operator.Sub) (CE.len (CE.var 3)) (CE.var 1))) (CE.none))) (CS.skip))))
noncomputable def progL : List (Nat × CF) := [(0, ⟨2, 3, b_set_current⟩),
  (1, ⟨1, 1, b_get_current⟩),
  (2, ⟨2, 2, b_in_grouping⟩),
  (3, ⟨2, 2, b_go_in_grouping⟩),
  (4, ⟨2, 2, b_out_grouping⟩),
  (5, ⟨2, 2, b_go_out_grouping⟩),
  (6, ⟨2, 3, b_eq_s_b⟩),
  (7, ⟨2, 18, b_find_among⟩),
  (8, ⟨2, 18, b_find_among_b⟩),
  (9, ⟨4, 6, b_replace_s⟩),
  (10, ⟨2, 3, b_slice_from⟩),
  (11, ⟨1, 1, b_slice_del⟩),
  (12, ⟨2, 2, b_stemWord⟩),
  (13, ⟨1, 10, b_r_mark_regions⟩),
  (14, ⟨1, 5, b_r_postlude⟩),
  (15, ⟨1, 1, b_r_RV⟩),
  (16, ⟨1, 1, b_r_R2⟩),
  (17, ⟨1, 3, b_r_attached_pronoun⟩),
  (18, ⟨1, 9, b_r_standard_suffix⟩),
  (19, ⟨1, 3, b_r_y_verb_suffix⟩),
  (20, ⟨1, 7, b_r_verb_suffix⟩),
  (21, ⟨1, 6, b_r_residual_suffix⟩),
  (22, ⟨1, 8, b_p_stem⟩),
  (100, ⟨0, 0, b_law_vowels⟩),
  (101, ⟨0, 3, b_law_standard⟩),
  (102, ⟨1, 4, b_law_shape⟩),
  (103, ⟨3, 4, b_law_past⟩),
  (104, ⟨1, 3, b_law_behind⟩),
  (105, ⟨2, 6, b_law_end⟩),
  (107, ⟨1, 27, b_law_stem⟩),
  (108, ⟨2, 14, b_law_word⟩)]
noncomputable def prog (f : Nat) : Option CF := progL.lookup f
end Sp
end
section
open PySem PySem.Builtin.Str PySem.W PySem.Calls PyProof.Rows
set_option maxRecDepth 100000
set_option maxHeartbeats 2000000
set_option linter.all false
namespace Sp
theorem nolim_ok (P : Params) : nsOkIn (kL P) cStatics = true ∧ nsIn (kL P) cStatics "sys.recursionlimit" = some none := ⟨by kernel_rfl, by kernel_rfl⟩
theorem noLimit_of {P : Params} {h : Heap} (X : (kL P).In h) : h.NoLimit := ⟨_, .of_isNs (isNs_of_in X (nolim_ok P).1), nsMap_none_of_in X (nolim_ok P).1 (nolim_ok P).2⟩
/-- a def of the text, as the walk wants it -/
structure FnA (P : Params) (fa : Addr) (cf : CF) (nm : Str) (params : Arguments) (body : List Stmt) (sc : Scope) : Prop where
  look : ∃ n dV kV doc pm an cdv ct dd sl c, (kL P).lookup fa = some ⟨c, dd, .func (fnOf n nm params body sc dV kV doc pm an cdv ct), sl⟩ ∧ codeIn (kL P) cdv nm = true ∧
    ∀ (vs : List Value) (s : Shared), vs.length = cf.args → BindsTo s (fnOf n nm params body sc dV kV doc pm an cdv ct) ⟨vs, []⟩ (((vars sc).take cf.args).zip vs)
  comp : cS sc 60 body = some cf.body
  size : (vars sc).length = cf.locs
  few : cf.args ≤ cf.locs
  kind : sc.kind = .function
  coro : sc.isCoroutine = false
  gen : sc.isGenerator = false
  cell : ∀ x ∈ sc.names, x.2 ≠ .cell
  dbg : sc.names.lookup ("__debug__" : Str) = none
  nod : (vars sc).Nodup
  loc : ∀ x ∈ (vars sc).take cf.args, sc.names.lookup x = some .local
/-- what is reckoned of a def -/
noncomputable def fnOK (cf : CF) (sc : Scope) : Bool := decide ((vars sc).length = cf.locs) && (decide (cf.args ≤ cf.locs) && (decide (sc.kind = .function) && ((!sc.isCoroutine) && ((!sc.isGenerator) && (decide (∀ x ∈ sc.names, x.2 ≠ .cell) && (decide (sc.names.lookup ("__debug__" : Str) = none) && (decide ((vars sc).Nodup) && decide (∀ x ∈ (vars sc).take cf.args, sc.names.lookup x = some .local))))))))
theorem FnA.of {P : Params} {fa : Addr} {cf : CF} {nm : Str} {params : Arguments} {body : List Stmt} {sc : Scope} (look : ∃ n dV kV doc pm an cdv ct dd sl c, (kL P).lookup fa = some ⟨c, dd, .func (fnOf n nm params body sc dV kV doc pm an cdv ct), sl⟩ ∧ codeIn (kL P) cdv nm = true ∧
    ∀ (vs : List Value) (s : Shared), vs.length = cf.args → BindsTo s (fnOf n nm params body sc dV kV doc pm an cdv ct) ⟨vs, []⟩ (((vars sc).take cf.args).zip vs)) (comp : cS sc 60 body = some cf.body) (h : fnOK cf sc = true) : FnA P fa cf nm params body sc := by
  obtain ⟨h1, h⟩ := Bool.and_eq_true_iff.mp h
  obtain ⟨h2, h⟩ := Bool.and_eq_true_iff.mp h
  obtain ⟨h3, h⟩ := Bool.and_eq_true_iff.mp h
  obtain ⟨h4, h⟩ := Bool.and_eq_true_iff.mp h
  obtain ⟨h5, h⟩ := Bool.and_eq_true_iff.mp h
  obtain ⟨h6, h⟩ := Bool.and_eq_true_iff.mp h
  obtain ⟨h7, h⟩ := Bool.and_eq_true_iff.mp h
  obtain ⟨h8, h9⟩ := Bool.and_eq_true_iff.mp h
  exact ⟨look, comp, of_decide_eq_true h1, of_decide_eq_true h2, of_decide_eq_true h3, by simpa using h4, by simpa using h5, of_decide_eq_true h6, of_decide_eq_true h7, of_decide_eq_true h8, of_decide_eq_true h9⟩
theorem lookOf {P : Params} {fa : Addr} {cf : CF} {nm : Str} {params : Arguments} {body : List Stmt} {sc : Scope} {n dV kV doc pm an cdv ct dd sl c} (h1 : (kL P).lookup fa = some ⟨c, dd, .func (fnOf n nm params body sc dV kV doc pm an cdv ct), sl⟩) (h2 : codeIn (kL P) cdv nm = true)
    (h3 : ∀ (vs : List Value) (s : Shared), vs.length = cf.args → BindsTo s (fnOf n nm params body sc dV kV doc pm an cdv ct) ⟨vs, []⟩ (((vars sc).take cf.args).zip vs)) (comp : cS sc 60 body = some cf.body) (h : fnOK cf sc = true) : FnA P fa cf nm params body sc :=
  .of ⟨n, dV, kV, doc, pm, an, cdv, ct, dd, sl, c, h1, h2, h3⟩ comp h
noncomputable abbrev FnF (P : Params) (f : Nat) (cf : CF) (nm : Str) (params : Arguments) (body : List Stmt) (sc : Scope) : Prop := FnA P (fnAddr f) cf nm params body sc
noncomputable def CallAt (g : G) (d : Nat) (fa : Addr) (args fs : List AV) (Q : AV → List AV → Prop) : Prop :=
  ∀ (A : Around) (s : Shared) (R : Result → Shared → Prop) (vs : List Value) (outer : List Env), A.handled = none → A.frames = some outer → A.depth + d ≤ 900 → A.units + 20 * d ≤ 9000 →
    Frs g s.heap s.heap.objs.size outer → Inv g fs s.heap → LR (RelV g s.heap) vs args →
    (∀ v s' av fs', Sm s s' → Kp g s.heap.objs.size s.heap s'.heap → RelV g s'.heap v av → Inv g fs' s'.heap → Q av fs' → R (.ok (.ret v)) s') →
    codeAny (model pw g.w) A (.call (.ref fa) ⟨vs, []⟩) R s
theorem len_s {α : Type} {l : List α} {n : Nat} (h : l.length = n + 1) : ∃ a r, l = a :: r ∧ r.length = n := by
  cases l with
  | nil => cases h
  | cons a r => exact ⟨a, r, rfl, Nat.succ.inj h⟩
section
variable {F : FuncData} {xs : List Str}
theorem of_a0 (h : ∀ s, BindsTo s F ⟨[], []⟩ (xs.zip [])) : ∀ (vs : List Value) (s : Shared), vs.length = 0 → BindsTo s F ⟨vs, []⟩ (xs.zip vs) := fun vs s e => by
  rw [List.eq_nil_of_length_eq_zero e]; exact h s
theorem of_a1 (h : ∀ a s, BindsTo s F ⟨[a], []⟩ (xs.zip [a])) : ∀ (vs : List Value) (s : Shared), vs.length = 1 → BindsTo s F ⟨vs, []⟩ (xs.zip vs) := fun vs s e => by
  obtain ⟨a, r, e1, e2⟩ := len_s e
  rw [e1, List.eq_nil_of_length_eq_zero e2]; exact h a s
theorem of_a2 (h : ∀ a b s, BindsTo s F ⟨[a, b], []⟩ (xs.zip [a, b])) : ∀ (vs : List Value) (s : Shared), vs.length = 2 → BindsTo s F ⟨vs, []⟩ (xs.zip vs) := fun vs s e => by
  obtain ⟨a, r, e1, e2⟩ := len_s e
  obtain ⟨b, r', e3, e4⟩ := len_s e2
  rw [e1, e3, List.eq_nil_of_length_eq_zero e4]; exact h a b s
theorem of_a3 (h : ∀ a b c s, BindsTo s F ⟨[a, b, c], []⟩ (xs.zip [a, b, c])) : ∀ (vs : List Value) (s : Shared), vs.length = 3 → BindsTo s F ⟨vs, []⟩ (xs.zip vs) := fun vs s e => by
  obtain ⟨a, r, e1, e2⟩ := len_s e
  obtain ⟨b, r', e3, e4⟩ := len_s e2
  obtain ⟨c, r'', e5, e6⟩ := len_s e4
  rw [e1, e3, e5, List.eq_nil_of_length_eq_zero e6]; exact h a b c s
theorem of_a4 (h : ∀ a b c d s, BindsTo s F ⟨[a, b, c, d], []⟩ (xs.zip [a, b, c, d])) : ∀ (vs : List Value) (s : Shared), vs.length = 4 → BindsTo s F ⟨vs, []⟩ (xs.zip vs) := fun vs s e => by
  obtain ⟨a, r, e1, e2⟩ := len_s e
  obtain ⟨b, r', e3, e4⟩ := len_s e2
  obtain ⟨c, r'', e5, e6⟩ := len_s e4
  obtain ⟨d, r3, e7, e8⟩ := len_s e6
  rw [e1, e3, e5, e7, List.eq_nil_of_length_eq_zero e8]; exact h a b c d s
end
theorem zip_lookup : ∀ {xs : List Str} {vs : List Value} {i : Nat} {x : Str} {v : Value}, xs.Nodup → xs[i]? = some x → vs[i]? = some v → (xs.zip vs).reverse.lookup x = some v
  | [], _, _, _, _, _, h, _ => by cases h
  | _ :: _, [], _, _, _, _, _, h => by cases h
  | y :: xs, u :: vs, 0, x, v, nd, h1, h2 => by
    cases h1; cases h2
    rw [List.zip_cons_cons, List.reverse_cons, List.lookup_append]
    have : ((xs.zip vs).reverse).lookup y = none := by
      rw [List.lookup_eq_none_iff]
      intro p hp
      have hm := List.of_mem_zip (List.mem_reverse.mp hp)
      rw [List.nodup_cons] at nd
      rw [bne_iff_ne] 
      rintro rfl
      exact nd.1 hm.1
    rw [this]
    simp
  | y :: xs, u :: vs, i + 1, x, v, nd, h1, h2 => by
    rw [List.zip_cons_cons, List.reverse_cons, List.lookup_append, zip_lookup (i := i) (List.nodup_cons.mp nd).2 h1 h2]
    rfl
theorem LR.get' {α : Type} {R : Value → α → Prop} {vs : List Value} {as : List α} (r : LR R vs as) {i : Nat} {a : α} (h : as[i]? = some a) : ∃ v, vs[i]? = some v ∧ R v a := r.get h
theorem FnA.lookK {P : Params} {fa : Addr} {cf : CF} {nm : Str} {params : Arguments} {body : List Stmt} {sc : Scope} {R : Prop} (K : FnA P fa cf nm params body sc) (k : ∀ n dV kV doc pm an cdv ct dd sl c, (kL P).lookup fa = some ⟨c, dd, .func (fnOf n nm params body sc dV kV doc pm an cdv ct), sl⟩ → codeIn (kL P) cdv nm = true →
    (∀ (vs : List Value) (s : Shared), vs.length = cf.args → BindsTo s (fnOf n nm params body sc dV kV doc pm an cdv ct) ⟨vs, []⟩ (((vars sc).take cf.args).zip vs)) → R) : R := by
  obtain ⟨n, dV, kV, doc, pm, an, cdv, ct, dd, sl, c, look, code, bind⟩ := K.look
  exact k n dV kV doc pm an cdv ct dd sl c look code bind
theorem call_fnA {g : G} {d : Nat} {fa : Addr} {cf : CF} {nm : Str} {params : Arguments} {body : List Stmt} {sc : Scope} (K : FnA g.P fa cf nm params body sc) {C : Nat → List AV → List AV → (AV → List AV → Prop) → Prop}
    (hC : ∀ f args fs Q, C f args fs Q → CallOK g d f args fs Q) {args fs : List AV} {Q : AV → List AV → Prop} (hn : args.length = cf.args) (w : wS tabs C cf.body (endK Q) ⟨args.map some ++ List.replicate (cf.locs - cf.args) none, fs⟩) :
    CallAt g (d + 1) fa args fs Q := by
  intro A s R vs outer hh fr dp un F I rv k
  refine K.lookK fun n dV kV doc pm an cdv ct dd sl c look code bind => ?_
  have hvs : vs.length = cf.args := rv.len.trans hn
  have hlen : ((vars sc).take cf.args).length = vs.length := by rw [List.length_take, K.size, Nat.min_eq_left K.few, hvs]
  refine call_ex (by have : recursionLimit = 1000 := rfl; omega) (I.K _ _ look) rfl (noLimit_of I.K) (codeRec_of I.K code) (bind vs s hvs) (fun y hy => K.loc _ (List.of_mem_zip hy).1) (fun h₁ ns sb => ?_) K.coro K.gen K.kind K.cell
  have kk : ∀ b o, s.heap.get? b = some o → h₁.get? b = some o := fun b o e => (sb.2 b (Nat.ne_of_lt (Heap.lt_size e))).trans (Heap.get?_push_of_some _ e)
  have kp : Kp g s.heap.objs.size s.heap h₁ := .ofKeeps kk
  have H : Here (A.deeper (envOf nm sc s.heap.objs.size fa cdv)) nm sc s.heap.objs.size fa cdv outer d := ⟨hh, Around.frames_deeper fr, by show A.depth + 1 + d ≤ 900; omega, by show A.units + 3 + 20 * d ≤ 9000; omega, K.kind, K.dbg, K.nod⟩
  obtain ⟨es0, n0, hdx, _⟩ := I.dict
  have rep : Rep g s.heap.objs.size (vars sc) ⟨args.map some ++ List.replicate (cf.locs - cf.args) none, fs⟩ h₁ := by
    refine ⟨⟨_, ns, fun i x av hx ha => ?_⟩, ?_, I.kp kp ((kk _ _ hdx).trans hdx.symm), ?_, ?_⟩
    · have hi : i < args.length := by
        rcases Nat.lt_or_ge i args.length with q | q
        · exact q
        · exfalso
          have ha : ((args.map some ++ List.replicate (cf.locs - cf.args) none)[i]?).join = some av := ha
          rw [List.getElem?_append_right (by rw [List.length_map]; exact q)] at ha
          rw [List.getElem?_replicate] at ha
          split at ha <;> cases ha
      have ha : args[i]? = some av := by
        have ha : ((args.map some ++ List.replicate (cf.locs - cf.args) none)[i]?).join = some av := ha
        rw [List.getElem?_append_left (by rw [List.length_map]; exact hi), List.getElem?_map] at ha
        rw [List.getElem?_eq_getElem hi] at ha ⊢
        exact ha
      obtain ⟨v, hv, r⟩ := rv.get ha
      refine ⟨v, zip_lookup (i := i) ?_ ?_ hv, r.kp kp⟩
      · exact K.nod.sublist (List.take_sublist _ _)
      · rw [List.getElem?_take_of_lt (by omega)]; exact hx
    · show (args.map some ++ List.replicate (cf.locs - cf.args) none).length = _
      rw [List.length_append, List.length_map, List.length_replicate, hn, K.size]
      have := K.few
      omega
    · cases q : g.B.get? s.heap.objs.size with
      | none => rfl
      | some o => exact absurd (Heap.lt_size (I.stay _ o q)) (Nat.lt_irrefl _)
    · rintro z
      rw [← z] at hdx
      exact absurd (Heap.lt_size hdx) (Nat.lt_irrefl _)
  refine wpAny_mono (cs_ok H hC 60 body cf.body K.comp (endK Q) _ { s with heap := h₁, toks := _ } rep (F.kp (Nat.le_refl _) kp) w) (fun fl s' p => ?_) (fun e s' p => ?_)
  · obtain ⟨sm, kp', σ', rep', q⟩ := p
    have sm' : Sm s s' := ⟨sm.1, sm.2.1, sm.2.2⟩
    cases fl with
    | next => exact k .none s' .none σ'.fs sm' (kp.trans kp') rfl rep'.inv q
    | brk => exact q.elim
    | cont => exact q.elim
    | ret v => obtain ⟨av, r, q⟩ := q; exact k v s' av σ'.fs sm' (kp.trans kp') r rep'.inv q
  · obtain ⟨e, j, σ', _, _, _, _, _, _, q⟩ := p
    exact q.elim
theorem call_fn {g : G} {d f : Nat} {cf : CF} {nm : Str} {params : Arguments} {body : List Stmt} {sc : Scope} (K : FnF g.P f cf nm params body sc) {C : Nat → List AV → List AV → (AV → List AV → Prop) → Prop}
    (hC : ∀ f args fs Q, C f args fs Q → CallOK g d f args fs Q) {args fs : List AV} {Q : AV → List AV → Prop} (hn : args.length = cf.args) (w : wS tabs C cf.body (endK Q) ⟨args.map some ++ List.replicate (cf.locs - cf.args) none, fs⟩) :
    CallOK g (d + 1) f args fs Q := call_fnA K hC hn w
end Sp
end
section
open PySem PySem.Builtin.Str PySem.W PySem.Calls PyProof.Rows
set_option maxRecDepth 100000
set_option maxHeartbeats 4000000
set_option linter.all false
namespace Sp
theorem ff_0 (P : Params) : ∃ nm, FnF P 0 ⟨2, 3, b_set_current⟩ nm (fArgs (mst 2 1)) (fBody (mst 2 1)) (fScope (mst 2 1)) := ⟨_, lookOf (by kernel_rfl : (kL P).lookup (fnAddr 0) = some (o_42 P)) (by kernel_rfl) (of_a2 fun a b s => BindsTo.of_eq (by kernel_rfl)) (by kernel_rfl) (by kernel_rfl)⟩
theorem ff_1 (P : Params) : ∃ nm, FnF P 1 ⟨1, 1, b_get_current⟩ nm (fArgs (mst 2 2)) (fBody (mst 2 2)) (fScope (mst 2 2)) := ⟨_, lookOf (by kernel_rfl : (kL P).lookup (fnAddr 1) = some (o_49 P)) (by kernel_rfl) (of_a1 fun a s => BindsTo.of_eq (by kernel_rfl)) (by kernel_rfl) (by kernel_rfl)⟩
theorem ff_2 (P : Params) : ∃ nm, FnF P 2 ⟨2, 2, b_in_grouping⟩ nm (fArgs (mst 2 4)) (fBody (mst 2 4)) (fScope (mst 2 4)) := ⟨_, lookOf (by kernel_rfl : (kL P).lookup (fnAddr 2) = some (o_63 P)) (by kernel_rfl) (of_a2 fun a b s => BindsTo.of_eq (by kernel_rfl)) (by kernel_rfl) (by kernel_rfl)⟩
theorem ff_3 (P : Params) : ∃ nm, FnF P 3 ⟨2, 2, b_go_in_grouping⟩ nm (fArgs (mst 2 5)) (fBody (mst 2 5)) (fScope (mst 2 5)) := ⟨_, lookOf (by kernel_rfl : (kL P).lookup (fnAddr 3) = some (o_70 P)) (by kernel_rfl) (of_a2 fun a b s => BindsTo.of_eq (by kernel_rfl)) (by kernel_rfl) (by kernel_rfl)⟩
theorem ff_4 (P : Params) : ∃ nm, FnF P 4 ⟨2, 2, b_out_grouping⟩ nm (fArgs (mst 2 8)) (fBody (mst 2 8)) (fScope (mst 2 8)) := ⟨_, lookOf (by kernel_rfl : (kL P).lookup (fnAddr 4) = some (o_91 P)) (by kernel_rfl) (of_a2 fun a b s => BindsTo.of_eq (by kernel_rfl)) (by kernel_rfl) (by kernel_rfl)⟩
theorem ff_5 (P : Params) : ∃ nm, FnF P 5 ⟨2, 2, b_go_out_grouping⟩ nm (fArgs (mst 2 9)) (fBody (mst 2 9)) (fScope (mst 2 9)) := ⟨_, lookOf (by kernel_rfl : (kL P).lookup (fnAddr 5) = some (o_98 P)) (by kernel_rfl) (of_a2 fun a b s => BindsTo.of_eq (by kernel_rfl)) (by kernel_rfl) (by kernel_rfl)⟩
theorem ff_6 (P : Params) : ∃ nm, FnF P 6 ⟨2, 3, b_eq_s_b⟩ nm (fArgs (mst 2 13)) (fBody (mst 2 13)) (fScope (mst 2 13)) := ⟨_, lookOf (by kernel_rfl : (kL P).lookup (fnAddr 6) = some (o_126 P)) (by kernel_rfl) (of_a2 fun a b s => BindsTo.of_eq (by kernel_rfl)) (by kernel_rfl) (by kernel_rfl)⟩
theorem ff_7 (P : Params) : ∃ nm, FnF P 7 ⟨2, 18, b_find_among⟩ nm (fArgs (mst 2 14)) (fBody (mst 2 14)) (fScope (mst 2 14)) := ⟨_, lookOf (by kernel_rfl : (kL P).lookup (fnAddr 7) = some (o_133 P)) (by kernel_rfl) (of_a2 fun a b s => BindsTo.of_eq (by kernel_rfl)) (by kernel_rfl) (by kernel_rfl)⟩
theorem ff_8 (P : Params) : ∃ nm, FnF P 8 ⟨2, 18, b_find_among_b⟩ nm (fArgs (mst 2 15)) (fBody (mst 2 15)) (fScope (mst 2 15)) := ⟨_, lookOf (by kernel_rfl : (kL P).lookup (fnAddr 8) = some (o_140 P)) (by kernel_rfl) (of_a2 fun a b s => BindsTo.of_eq (by kernel_rfl)) (by kernel_rfl) (by kernel_rfl)⟩
theorem ff_9 (P : Params) : ∃ nm, FnF P 9 ⟨4, 6, b_replace_s⟩ nm (fArgs (mst 2 16)) (fBody (mst 2 16)) (fScope (mst 2 16)) := ⟨_, lookOf (by kernel_rfl : (kL P).lookup (fnAddr 9) = some (o_147 P)) (by kernel_rfl) (of_a4 fun a b c d s => BindsTo.of_eq (by kernel_rfl)) (by kernel_rfl) (by kernel_rfl)⟩
theorem ff_10 (P : Params) : ∃ nm, FnF P 10 ⟨2, 3, b_slice_from⟩ nm (fArgs (mst 2 17)) (fBody (mst 2 17)) (fScope (mst 2 17)) := ⟨_, lookOf (by kernel_rfl : (kL P).lookup (fnAddr 10) = some (o_154 P)) (by kernel_rfl) (of_a2 fun a b s => BindsTo.of_eq (by kernel_rfl)) (by kernel_rfl) (by kernel_rfl)⟩
theorem ff_11 (P : Params) : ∃ nm, FnF P 11 ⟨1, 1, b_slice_del⟩ nm (fArgs (mst 2 18)) (fBody (mst 2 18)) (fScope (mst 2 18)) := ⟨_, lookOf (by kernel_rfl : (kL P).lookup (fnAddr 11) = some (o_161 P)) (by kernel_rfl) (of_a1 fun a s => BindsTo.of_eq (by kernel_rfl)) (by kernel_rfl) (by kernel_rfl)⟩
theorem ff_12 (P : Params) : ∃ nm, FnF P 12 ⟨2, 2, b_stemWord⟩ nm (fArgs (mst 2 22)) (fBody (mst 2 22)) (fScope (mst 2 22)) := ⟨_, lookOf (by kernel_rfl : (kL P).lookup (fnAddr 12) = some (o_189 P)) (by kernel_rfl) (of_a2 fun a b s => BindsTo.of_eq (by kernel_rfl)) (by kernel_rfl) (by kernel_rfl)⟩
theorem ff_13 (P : Params) : ∃ nm, FnF P 13 ⟨1, 10, b_r_mark_regions⟩ nm (fArgs (mst 6 4)) (fBody (mst 6 4)) (fScope (mst 6 4)) := ⟨_, lookOf (by kernel_rfl : (kL P).lookup (fnAddr 13) = some (o_239 P)) (by kernel_rfl) (of_a1 fun a s => BindsTo.of_eq (by kernel_rfl)) (by kernel_rfl) (by kernel_rfl)⟩
theorem ff_14 (P : Params) : ∃ nm, FnF P 14 ⟨1, 5, b_r_postlude⟩ nm (fArgs (mst 6 5)) (fBody (mst 6 5)) (fScope (mst 6 5)) := ⟨_, lookOf (by kernel_rfl : (kL P).lookup (fnAddr 14) = some (o_246 P)) (by kernel_rfl) (of_a1 fun a s => BindsTo.of_eq (by kernel_rfl)) (by kernel_rfl) (by kernel_rfl)⟩
theorem ff_15 (P : Params) : ∃ nm, FnF P 15 ⟨1, 1, b_r_RV⟩ nm (fArgs (mst 6 6)) (fBody (mst 6 6)) (fScope (mst 6 6)) := ⟨_, lookOf (by kernel_rfl : (kL P).lookup (fnAddr 15) = some (o_253 P)) (by kernel_rfl) (of_a1 fun a s => BindsTo.of_eq (by kernel_rfl)) (by kernel_rfl) (by kernel_rfl)⟩
theorem ff_16 (P : Params) : ∃ nm, FnF P 16 ⟨1, 1, b_r_R2⟩ nm (fArgs (mst 6 7)) (fBody (mst 6 7)) (fScope (mst 6 7)) := ⟨_, lookOf (by kernel_rfl : (kL P).lookup (fnAddr 16) = some (o_260 P)) (by kernel_rfl) (of_a1 fun a s => BindsTo.of_eq (by kernel_rfl)) (by kernel_rfl) (by kernel_rfl)⟩
theorem ff_17 (P : Params) : ∃ nm, FnF P 17 ⟨1, 3, b_r_attached_pronoun⟩ nm (fArgs (mst 6 8)) (fBody (mst 6 8)) (fScope (mst 6 8)) := ⟨_, lookOf (by kernel_rfl : (kL P).lookup (fnAddr 17) = some (o_267 P)) (by kernel_rfl) (of_a1 fun a s => BindsTo.of_eq (by kernel_rfl)) (by kernel_rfl) (by kernel_rfl)⟩
theorem ff_18 (P : Params) : ∃ nm, FnF P 18 ⟨1, 9, b_r_standard_suffix⟩ nm (fArgs (mst 6 9)) (fBody (mst 6 9)) (fScope (mst 6 9)) := ⟨_, lookOf (by kernel_rfl : (kL P).lookup (fnAddr 18) = some (o_274 P)) (by kernel_rfl) (of_a1 fun a s => BindsTo.of_eq (by kernel_rfl)) (by kernel_rfl) (by kernel_rfl)⟩
theorem ff_19 (P : Params) : ∃ nm, FnF P 19 ⟨1, 3, b_r_y_verb_suffix⟩ nm (fArgs (mst 6 10)) (fBody (mst 6 10)) (fScope (mst 6 10)) := ⟨_, lookOf (by kernel_rfl : (kL P).lookup (fnAddr 19) = some (o_281 P)) (by kernel_rfl) (of_a1 fun a s => BindsTo.of_eq (by kernel_rfl)) (by kernel_rfl) (by kernel_rfl)⟩
theorem ff_20 (P : Params) : ∃ nm, FnF P 20 ⟨1, 7, b_r_verb_suffix⟩ nm (fArgs (mst 6 11)) (fBody (mst 6 11)) (fScope (mst 6 11)) := ⟨_, lookOf (by kernel_rfl : (kL P).lookup (fnAddr 20) = some (o_288 P)) (by kernel_rfl) (of_a1 fun a s => BindsTo.of_eq (by kernel_rfl)) (by kernel_rfl) (by kernel_rfl)⟩
theorem ff_21 (P : Params) : ∃ nm, FnF P 21 ⟨1, 6, b_r_residual_suffix⟩ nm (fArgs (mst 6 12)) (fBody (mst 6 12)) (fScope (mst 6 12)) := ⟨_, lookOf (by kernel_rfl : (kL P).lookup (fnAddr 21) = some (o_295 P)) (by kernel_rfl) (of_a1 fun a s => BindsTo.of_eq (by kernel_rfl)) (by kernel_rfl) (by kernel_rfl)⟩
theorem ff_22 (P : Params) : ∃ nm, FnF P 22 ⟨1, 8, b_p_stem⟩ nm (fArgs (mst 6 13)) (fBody (mst 6 13)) (fScope (mst 6 13)) := ⟨_, lookOf (by kernel_rfl : (kL P).lookup (fnAddr 22) = some (o_302 P)) (by kernel_rfl) (of_a1 fun a s => BindsTo.of_eq (by kernel_rfl)) (by kernel_rfl) (by kernel_rfl)⟩
theorem ff_100 (P : Params) : ∃ nm, FnF P 100 ⟨0, 0, b_law_vowels⟩ nm (fArgs (fst 12)) (fBody (fst 12)) (fScope (fst 12)) := ⟨_, lookOf (by kernel_rfl : (kL P).lookup (fnAddr 100) = some (o_975 P)) (by kernel_rfl) (of_a0 fun  s => BindsTo.of_eq (by kernel_rfl)) (by kernel_rfl) (by kernel_rfl)⟩
theorem ff_101 (P : Params) : ∃ nm, FnF P 101 ⟨0, 3, b_law_standard⟩ nm (fArgs (fst 20)) (fBody (fst 20)) (fScope (fst 20)) := ⟨_, lookOf (by kernel_rfl : (kL P).lookup (fnAddr 101) = some (o_1022 P)) (by kernel_rfl) (of_a0 fun  s => BindsTo.of_eq (by kernel_rfl)) (by kernel_rfl) (by kernel_rfl)⟩
theorem ff_102 (P : Params) : ∃ nm, FnF P 102 ⟨1, 4, b_law_shape⟩ nm (fArgs (fst 21)) (fBody (fst 21)) (fScope (fst 21)) := ⟨_, lookOf (by kernel_rfl : (kL P).lookup (fnAddr 102) = some (o_1029 P)) (by kernel_rfl) (of_a1 fun a s => BindsTo.of_eq (by kernel_rfl)) (by kernel_rfl) (by kernel_rfl)⟩
theorem ff_103 (P : Params) : ∃ nm, FnF P 103 ⟨3, 4, b_law_past⟩ nm (fArgs (fst 22)) (fBody (fst 22)) (fScope (fst 22)) := ⟨_, lookOf (by kernel_rfl : (kL P).lookup (fnAddr 103) = some (o_1036 P)) (by kernel_rfl) (of_a3 fun a b c s => BindsTo.of_eq (by kernel_rfl)) (by kernel_rfl) (by kernel_rfl)⟩
theorem ff_104 (P : Params) : ∃ nm, FnF P 104 ⟨1, 3, b_law_behind⟩ nm (fArgs (fst 23)) (fBody (fst 23)) (fScope (fst 23)) := ⟨_, lookOf (by kernel_rfl : (kL P).lookup (fnAddr 104) = some (o_1043 P)) (by kernel_rfl) (of_a1 fun a s => BindsTo.of_eq (by kernel_rfl)) (by kernel_rfl) (by kernel_rfl)⟩
theorem ff_105 (P : Params) : ∃ nm, FnF P 105 ⟨2, 6, b_law_end⟩ nm (fArgs (fst 24)) (fBody (fst 24)) (fScope (fst 24)) := ⟨_, lookOf (by kernel_rfl : (kL P).lookup (fnAddr 105) = some (o_1050 P)) (by kernel_rfl) (of_a2 fun a b s => BindsTo.of_eq (by kernel_rfl)) (by kernel_rfl) (by kernel_rfl)⟩
theorem ff_107 (P : Params) : ∃ nm, FnF P 107 ⟨1, 27, b_law_stem⟩ nm (fArgs (fst 26)) (fBody (fst 26)) (fScope (fst 26)) := ⟨_, lookOf (by kernel_rfl : (kL P).lookup (fnAddr 107) = some (o_1062 P)) (by kernel_rfl) (of_a1 fun a s => BindsTo.of_eq (by kernel_rfl)) (by kernel_rfl) (by kernel_rfl)⟩
theorem ff_108 (P : Params) : ∃ nm, FnF P 108 ⟨2, 14, b_law_word⟩ nm (fArgs (fst 27)) (fBody (fst 27)) (fScope (fst 27)) := ⟨_, lookOf (by kernel_rfl : (kL P).lookup (fnAddr 108) = some (o_1069 P)) (by kernel_rfl) (of_a2 fun a b s => BindsTo.of_eq (by kernel_rfl)) (by kernel_rfl) (by kernel_rfl)⟩
end Sp
end
section
namespace Sp
noncomputable def bareC (c : Nat) : Nat := if c = 225 then 97 else if c = 233 then 101 else if c = 237 then 105 else if c = 243 then 111 else if c = 250 then 117 else c
/-- the def that is told apart -/
noncomputable def bareS : AV → Option AV
  | .str l => some (.str (l.map bareC))
  | _ => none
noncomputable def natF (f : Nat) (args : List AV) : Option AV := ifo (decide (f = 106)) ((one1 args).bind bareS)
/-- a call of the text's defs -/
noncomputable def PCt : Nat → Nat → List AV → List AV → (AV → List AV → Prop) → Prop := PC tabs prog natF
end Sp
end
section
open PySem PySem.Builtin.Str PySem.W PySem.Calls PyProof.Rows
set_option maxRecDepth 100000
set_option maxHeartbeats 2000000
set_option linter.all false
namespace Sp
noncomputable def acP (t : Nat → Tok) : List (Str × Value) := [("á", .str "a" (t 0)), ("é", .str "e" (t 1)), ("í", .str "i" (t 2)), ("ó", .str "o" (t 3)), ("ú", .str "u" (t 4))]
theorem acutes_facts (P : Params) : nsIn (kL P) mainGlobals "_law_acutes" = some (some (.ref 982)) ∧ keepIn (kL P) (.ref 982) = true ∧ (kL P).lookup 982 = some (o_982 P) ∧ codeIn (kL P) (.ref 981) "_law_acutes" = true ∧ (kL P).lookup 1055 = some (o_1055 P) ∧ codeIn (kL P) (.ref 1054) "_law_bare" = true ∧ (kL P).lookup 1022 = some (o_1022 P) :=
  ⟨by kernel_rfl, by kernel_rfl, by kernel_rfl, by kernel_rfl, by kernel_rfl, by kernel_rfl, by kernel_rfl⟩
theorem ac_k {P : Prop} (k : ∀ k1 q1 k2 q2 k3 q3 k4 q4 k5 q5 l1 r1 l2 r2 l3 r3 l4 r4 l5 r5 p p', fBody (fst 13) = [.Return (some (.Dict [some (.Constant (.str "á") k1 q1), some (.Constant (.str "é") k2 q2), some (.Constant (.str "í") k3 q3), some (.Constant (.str "ó") k4 q4), some (.Constant (.str "ú") k5 q5)]
    [.Constant (.str "a") l1 r1, .Constant (.str "e") l2 r2, .Constant (.str "i") l3 r3, .Constant (.str "o") l4 r4, .Constant (.str "u") l5 r5] p)) p'] → P) : P :=
  k _ _ _ _ _ _ _ _ _ _ _ _ _ _ _ _ _ _ _ _ _ _ rfl
section
variable {w : World} {A : Around} {E : Value → Shared → Prop} {s : Shared} {R : Result → Shared → Prop}
theorem acutes_call (X : (kL w.params).In s.heap) (hroom : A.depth < 990)
    (h : ∀ h' k a t, (∀ b o, s.heap.get? b = some o → h'.get? b = some o) → h'.DictOf (PySem.strKind pw w) a (acP t) → (a == sysModules) = false → R (.ok (.ret (.ref a))) { s with heap := h', toks := k }) :
    codeAny (model pw w) A (.call (.ref 982) ⟨[], []⟩) R s := by
  obtain ⟨_, _, look, code, _, _, look2⟩ := acutes_facts w.params
  refine call_ex (o := o_982 w.params) (binds := []) (by have : recursionLimit = 1000 := rfl; omega) (X _ _ look) rfl (noLimit_of X) (codeRec_of X code) (BindsTo.of_eq (by kernel_rfl)) (fun y hy => by cases hy) (fun h₁ ns sb => ?_) (by kernel_rfl) (by kernel_rfl) (by kernel_rfl) (by decide +kernel)
  have k1 : ∀ b o, s.heap.get? b = some o → h₁.get? b = some o := fun b o e => (sb.2 b (Nat.ne_of_lt (Heap.lt_size e))).trans (Heap.get?_push_of_some _ e)
  refine ac_k fun _ _ _ _ _ _ _ _ _ _ _ _ _ _ _ _ _ _ _ _ _ _ hb => ?_
  rw [hb]
  refine wpAny_execs_cons ?_
  refine wpAny_Return_some ?_
  refine wpAny_Dict_walk (knd := PySem.strKind pw w) rfl rfl (by simp) (Nat.le_of_ble_eq_true rfl) ?_
  refine pairTrees_cons_walk ?_
  refine Constant_str ?_
  refine Constant_str ?_
  refine pairTrees_cons_walk ?_
  refine Constant_str ?_
  refine Constant_str ?_
  refine pairTrees_cons_walk ?_
  refine Constant_str ?_
  refine Constant_str ?_
  refine pairTrees_cons_walk ?_
  refine Constant_str ?_
  refine Constant_str ?_
  refine pairTrees_cons_walk ?_
  refine Constant_str ?_
  refine Constant_str ?_
  refine pairTrees_nil_walk ?_
  have hnew : ((h₁.push { cls := .type "dict", data := .dict #[] }).DictOf (PySem.strKind pw w) h₁.objs.size []) := Heap.DictOf.new ..
  refine display_done_str (by rfl) (show (["á", "é", "í", "ó", "ú"] : List Str).Nodup from by decide +kernel) hnew fun h' hd hs => ?_
  refine h h' _ h₁.objs.size (fun i => s.toks + (2 * i + 1)) (fun b o e => (hs.2 b (Nat.ne_of_lt (Heap.lt_size (k1 b o e)))).trans (Heap.get?_push_of_some _ (k1 b o e))) hd ?_
  have hlt : 1022 < h₁.objs.size := Heap.lt_size (k1 _ _ (X _ _ look2))
  rw [beq_eq_false_iff_ne]
  exact (Nat.ne_of_lt (Nat.lt_trans (by decide) hlt)).symm
end
end Sp
end
section
open PySem PySem.Builtin.Str PySem.W PySem.Calls PyProof.Rows
set_option maxRecDepth 100000
set_option maxHeartbeats 2000000
set_option linter.all false
namespace Sp
noncomputable def bareN : List (Str × NameKind) := [((".0" : Str), .local), (("sign" : Str), .local), (("_law_acutes" : Str), .globalImplicit)]
theorem bare_k {P : Prop} (k : ∀ k0 p0 ap p1 p2 c1 p3 p4 c2 p5 p6 p7 p8 p9 p10 sc p11 p p12,
    fBody (fst 25) = [.Return (some (.Call (.Attribute (.Constant (.str "") k0 p0) "join" ap) [.ListComp (.IfExp (.Compare (.Name "sign" p1) [.In] [.Call (.Name "_law_acutes" p2) [] [] c1] p3) (.Subscript (.Call (.Name "_law_acutes" p4) [] [] c2) (.Name "sign" p5) p6) (.Name "sign" p7) p8) [⟨.Name "sign" p9, .Name "word" p10, [], 0⟩] sc p11] [] p)) p12] → sc.names = bareN → sc.kind = .function → (ap.endLine == p.line) = true → P) : P :=
  k _ _ _ _ _ _ _ _ _ _ _ _ _ _ _ _ _ _ _ rfl rfl rfl rfl
theorem ac_val (t : Nat → Tok) (c : Nat) : (valueAt (acP t) ⟨#[c]⟩).isSome = decide (bareC c ≠ c) ∧ ∀ v, valueAt (acP t) ⟨#[c]⟩ = some v → ∃ u, v = .str ⟨#[bareC c]⟩ u := by
  have e : ∀ a : Nat, ((⟨#[a]⟩ : Str) = ⟨#[c]⟩) = (a = c) := by
    intro a
    simp
  have s1 : ("á" : Str) = ⟨#[225]⟩ := by decide +kernel
  have s2 : ("é" : Str) = ⟨#[233]⟩ := by decide +kernel
  have s3 : ("í" : Str) = ⟨#[237]⟩ := by decide +kernel
  have s4 : ("ó" : Str) = ⟨#[243]⟩ := by decide +kernel
  have s5 : ("ú" : Str) = ⟨#[250]⟩ := by decide +kernel
  have r1 : ("a" : Str) = ⟨#[97]⟩ := by decide +kernel
  have r2 : ("e" : Str) = ⟨#[101]⟩ := by decide +kernel
  have r3 : ("i" : Str) = ⟨#[105]⟩ := by decide +kernel
  have r4 : ("o" : Str) = ⟨#[111]⟩ := by decide +kernel
  have r5 : ("u" : Str) = ⟨#[117]⟩ := by decide +kernel
  unfold valueAt acP bareC
  simp only [List.find?_cons, List.find?_nil, s1, s2, s3, s4, s5, r1, r2, r3, r4, r5, e]
  by_cases h1 : c = 225
  · subst h1; simp
  by_cases h2 : c = 233
  · subst h2; simp
  by_cases h3 : c = 237
  · subst h3; simp
  by_cases h4 : c = 243
  · subst h4; simp
  by_cases h5 : c = 250
  · subst h5; simp
  have n1 : ¬ 225 = c := Ne.symm h1
  have n2 : ¬ 233 = c := Ne.symm h2
  have n3 : ¬ 237 = c := Ne.symm h3
  have n4 : ¬ 243 = c := Ne.symm h4
  have n5 : ¬ 250 = c := Ne.symm h5
  simp [h1, h2, h3, h4, h5, n1, n2, n3, n4, n5]
theorem join_bare : ∀ l : List Nat, Txt.join "" (l.map fun c => (⟨#[c]⟩ : Str)) = ⟨l.toArray⟩ := by
  intro l
  show glued "" _ = _
  rw [StrLaws.glued_eq_join]
  have e0 : ("" : Str) = ⟨#[]⟩ := by decide +kernel
  rw [e0]
  induction l with
  | nil => rfl
  | cons c l ih =>
    cases l with
    | nil => rfl
    | cons d l =>
      show (⟨#[c]⟩ : Str) ++ ⟨#[]⟩ ++ Str.join ⟨#[]⟩ ((d :: l).map fun c => (⟨#[c]⟩ : Str)) = _
      rw [ih]
      apply Str.ext'
      rw [Str.cps_append, Str.cps_append]
      simp
theorem paired_bare {F : Value → Value → Prop} (hF : ∀ v y, F v y → ∃ c u t, v = .str ⟨#[c]⟩ u ∧ y = .str ⟨#[bareC c]⟩ t) : ∀ {vs ys : List Value}, Paired F vs ys → ∀ (l : List Nat), vs.length = l.length → (∀ (j : Nat) (v : Value), vs[j]? = some v → ∃ c u, l[j]? = some c ∧ v = .str ⟨#[c]⟩ u) →
    ∃ ll : List (Str × Tok), ys = strValues ll ∧ ll.map (·.1) = (l.map bareC).map fun c => (⟨#[c]⟩ : Str)
  | _, _, .nil, [], _, _ => ⟨[], rfl, rfl⟩
  | _, _, .nil, _ :: _, h, _ => by cases h
  | _, _, .cons _ _, [], h, _ => by cases h
  | _, _, .cons (a := v) (b := y) f p, c :: l, h, hv => by
    obtain ⟨ll, e1, e2⟩ := paired_bare hF p l (by simpa using h) fun j v hj => hv (j + 1) v hj
    obtain ⟨c', u, t, rfl, rfl⟩ := hF _ _ f
    obtain ⟨c'', u', q1, q2⟩ := hv 0 _ rfl
    cases q1
    have : c' = c := by
      injection q2 with q2
      simpa using q2
    subst this
    refine ⟨(⟨#[bareC c']⟩, t) :: ll, by rw [e1]; rfl, ?_⟩
    simp only [List.map_cons, e2]
end Sp
end
section
open PySem PySem.Builtin.Str PySem.W PySem.Calls PyProof.Rows
set_option maxRecDepth 100000
set_option maxHeartbeats 2000000
set_option linter.all false
namespace Sp
section
variable {w : World} {A : Around} {E : Value → Shared → Prop} {s : Shared} {sc : Scope} {C : Addr} {env : Env}
theorem rel_names (hn : sc.names = bareN) : (relabel sc env).names = bareN := by
  unfold relabel
  rw [hn]
  rfl
theorem sign_get {m : Str → Option Value} {v : Value} {p : Pos} {Q : Value → Shared → Prop} (hn : sc.names = bareN) (hk : sc.kind = .function) (ns : s.heap.Ns C m) (hv : m "sign" = some v) (h : Q v s) :
    wpAny (model pw w) A (eval (.Name "sign" p) (compEnvC sc [] C env)) Q E s := by
  refine wpAny_Name (wpAny_loadName_local (env := compEnvC sc [] C env) hk ?_ ns hv h)
  show (relabel sc env).names.lookup _ = _
  rw [rel_names hn]
  decide +kernel
theorem ac_get {c p : Pos} {Q : Value → Shared → Prop} (hn : sc.names = bareN) (hk : sc.kind = .function) (hg : env.globals = mainGlobals) (X : (kL w.params).In s.heap) (hroom : A.depth < 990)
    (h : ∀ h' k a t, (∀ b o, s.heap.get? b = some o → h'.get? b = some o) → h'.DictOf (PySem.strKind pw w) a (acP t) → (a == sysModules) = false → Q (.ref a) { s with heap := h', toks := k }) :
    wpAny (model pw w) A (eval (.Call (.Name "_law_acutes" p) [] [] c) (compEnvC sc [] C env)) Q E s := by
  have G : s.heap.Ns mainGlobals (s.heap.nsMap mainGlobals) := .of_isNs (isNs_of_in X (main_ns w.params))
  have hx : (compEnvC sc [] C env).kindOf "_law_acutes" = some .globalImplicit := by
    show (relabel sc env).names.lookup _ = _
    rw [rel_names hn]
    decide +kernel
  refine wpAny_Call_NameR (Calls.Name_function_global hk hx (Calls.loadGlobal_global (env := compEnvC sc [] C env) (hg.symm ▸ G) (mg_of X G (acutes_facts w.params).1) ?_))
  refine callWith_of (P := fun h => (kL w.params).In h) rfl (keeps_K (acutes_facts w.params).2.1) (evalArgs_nil3 ⟨X, ?_⟩)
  exact wpAny_call (acutes_call X hroom fun h' k a t kk hd hs => h h' k a t kk hd hs)
end
noncomputable def bF (v y : Value) : Prop := ∃ c u t, v = .str ⟨#[c]⟩ u ∧ y = .str ⟨#[bareC c]⟩ t
theorem bare_ok {g : G} {d : Nat} {l : List Nat} {fs : List AV} {Q : AV → List AV → Prop} (q : Q (.str (l.map bareC)) fs) : CallOK g (d + 1) 106 [.str l] fs Q := by
  intro A s R vs outer hh fr dp un F I rv k
  obtain ⟨v, rfl⟩ : ∃ v, vs = [v] := by
    have := rv.len
    obtain ⟨v, r, e1, e2⟩ := len_s this
    rw [List.eq_nil_of_length_eq_zero e2] at e1
    exact ⟨v, e1⟩
  obtain ⟨⟨hl, tk, rfl⟩, _⟩ := rv
  obtain ⟨_, _, _, _, look, code, look2⟩ := acutes_facts g.P
  have e : fnAddr 106 = 1055 := rfl
  rw [e]
  have hrl : recursionLimit = 1000 := rfl
  refine call_ex (o := o_1055 g.P) (binds := [("word", .str ⟨l.toArray⟩ tk)]) (by omega) (I.K _ _ look) rfl (noLimit_of I.K) (codeRec_of I.K code) (BindsTo.of_eq (by kernel_rfl)) (fun y hy => ?_) (fun h₁ ns sb => ?_) (by kernel_rfl) (by kernel_rfl) (by kernel_rfl) (by decide +kernel)
  · have hy := List.mem_singleton.mp hy
    subst hy
    kernel_rfl
  have k1 : ∀ b o, s.heap.get? b = some o → h₁.get? b = some o := fun b o e => (sb.2 b (Nat.ne_of_lt (Heap.lt_size e))).trans (Heap.get?_push_of_some _ e)
  have X1 : (kL g.P).In h₁ := I.K.keeps k1
  refine bare_k fun k0 p0 ap p1 p2 c1 p3 p4 c2 p5 p6 p7 p8 p9 p10 sc p11 p p12 hb hn hk hp => ?_
  rw [hb]
  have hd : (A.deeper (envOf "_law_bare" (fScope (fst 25)) s.heap.objs.size 1055 (.ref 1054))).depth = A.depth + 1 := rfl
  have hh' : (A.deeper (envOf "_law_bare" (fScope (fst 25)) s.heap.objs.size 1055 (.ref 1054))).handled = none := hh
  refine wpAny_execs_cons ?_
  refine wpAny_Return_some ?_
  rw [arm_eval_Call]
  have e1 : ∀ env, attributeBase (.Constant (.str "") k0 p0) "join" env (eval (.Constant (.str "") k0 p0) env) = eval (.Constant (.str "") k0 p0) env := fun _ => rfl
  rw [e1]
  refine wpAny_bind ?_
  refine Constant_str ?_
  refine wpAny_bind (wpAny_standAt ?_)
  have e2 : ∀ env, (backToKw p (keywordEach [] env)) = [] := fun _ => rfl
  rw [e2]
  generalize hlc : Expr.ListComp _ _ _ _ = lc
  have st : ∀ env, starEach [lc] env = [(false, eval lc env)] := fun env => by rw [← hlc]; rfl
  have e3 : ∀ env m, m < 29 → methodCallForm m (backTo p (starEach [lc] env)) [] = true := fun env m hm => form_few (by rw [st]; rfl) hm
  unfold methodCall calleeOf methodCallPos
  rw [e3 _ _ (by simp)]
  simp only [hp, Bool.not_true, Bool.false_or, if_true]
  refine wpAny_bind (wpAny_holding ?_)
  refine GM.join ?_
  refine wpAny_bind (wpAny_pure ?_)
  refine callWith_builtin (by rw [st]; rfl) (evalArgs_all (by rw [st]; rfl) ?_)
  rw [st]
  refine spliced_cons ?_
  rw [← hlc]
  refine wpAny_ListComp_free (fun _ => true) bF (closureFor_none (by rw [hn]; decide +kernel)) (by rw [hn]; decide +kernel) hk (by rw [hn]; decide +kernel) (by rw [hn]; decide +kernel) ?_
  refine wpAny_Name (wpAny_loadName_local (by kernel_rfl) (by kernel_rfl) ns (by rfl) ?_)
  refine wpAny_pyIter_strU ?_
  generalize hob : ({ cls := .type (strIterType ⟨l.toArray⟩), data := .fields #[.str ⟨l.toArray⟩ tk, .int 0 0] } : Obj) = ob
  have k2 : ∀ b o, h₁.get? b = some o → (h₁.push ob).get? b = some o := fun _ _ e => Heap.get?_push_of_some _ e
  have W : ∃ St : Nat → Heap → Prop, Walks pw g.w (A.deeper (envOf "_law_bare" (fScope (fst 25)) s.heap.objs.size 1055 (.ref 1054))) h₁.objs.size [h₁.objs.size] [h₁.objs.size] (⟨l.toArray⟩ : Str).cps.size (SignAt ⟨l.toArray⟩) St ∧ St 0 (h₁.push ob) := by
    cases ha : (⟨l.toArray⟩ : Str).cps.all (· < 128)
    · refine ⟨_, Walks.strWide hh' _ _ tk, ob, Heap.get?_push_size _ (by rw [← hob]; rfl), ?_, by rw [← hob]; rfl⟩
      rw [← hob]; show Value.type (strIterType _) = _; unfold strIterType; rw [ha]; rfl
    · refine ⟨_, Walks.strAscii hh' _ _ tk, ob, Heap.get?_push_size _ (by rw [← hob]; rfl), ?_, by rw [← hob]; rfl⟩
      rw [← hob]; show Value.type (strIterType _) = _; unfold strIterType; rw [ha]; rfl
  obtain ⟨St, W, st0⟩ := W
  have hz : (⟨l.toArray⟩ : Str).cps.size ≤ sizeLine := by
    have : (⟨l.toArray⟩ : Str).cps.size = l.length := by simp
    rw [this]; exact Nat.le_trans hl lim_lt
  refine ⟨h₁.objs.size, _, _, _, _, St, rfl, W, hz, st0, fun b hb => by rw [List.mem_singleton.mp hb]; show h₁.objs.size < (h₁.push ob).objs.size; rw [Heap.size_push]; exact Nat.lt_succ_self _, ⟨?_, ?_⟩, ?_⟩
  · intro Cc i v s₃ m₃ E' _ hv _ _ _ _
    exact wpAny_pure ⟨rfl, s₃.heap, s₃.toks, rfl, fun _ _ e => e⟩
  · intro Cc i v s₃ m₃ E' _ hv _ ns₃ hm keep _
    obtain ⟨c, u, hc, rfl⟩ := hv
    have X3 : (kL g.P).In s₃.heap := fun a o e => keep a o (fun z => by
      have z := List.mem_singleton.mp z
      subst z
      exact absurd (Heap.lt_size (X1 _ _ e)) (Nat.lt_irrefl _)) (k2 _ _ (X1 a o e))
    have room : (A.deeper (envOf "_law_bare" (fScope (fst 25)) s.heap.objs.size 1055 (.ref 1054))).depth < 990 := by rw [hd]; omega
    refine wpAny_IfExp ?_
    refine wpAny_isTrue_Compare1 ?_ rfl
    refine sign_get hn hk ns₃ hm ?_
    refine ac_get hn hk rfl X3 room fun h₄ t₄ a t kk hdict hs => ?_
    refine wpAny_in_of (strKind_is pw g.w _ _) hs hdict.mapOf ?_
    refine wpAny_truthy_bool ?_
    have ns₄ : h₄.Ns Cc m₃ := ns₃.keeps kk
    rw [(ac_val t c).1]
    by_cases hbc : bareC c = c
    · simp only [hbc, ne_eq, not_true_eq_false, decide_false, Bool.false_eq_true, if_false]
      refine sign_get (s := { s₃ with heap := h₄, toks := t₄ + 1 }) hn hk ns₄ hm ?_
      exact ⟨⟨c, u, u, rfl, by rw [hbc]⟩, h₄, t₄ + 1, rfl, kk⟩
    · simp only [hbc, ne_eq, not_false_eq_true, decide_true, if_true]
      refine Subscript_ ?_
      refine ac_get (s := { s₃ with heap := h₄, toks := t₄ + 1 }) hn hk rfl (X3.keeps kk) room fun h₅ t₅ a₂ t₂ kk₂ hdict₂ hs₂ => ?_
      refine sign_get (s := { s₃ with heap := h₅, toks := t₅ }) hn hk (ns₄.keeps kk₂) hm ?_
      obtain ⟨y, hy⟩ : ∃ y, valueAt (acP t₂) (⟨#[c]⟩ : Str) = some y := Option.isSome_iff_exists.mp (by rw [(ac_val t₂ c).1]; simpa using hbc)
      obtain ⟨z, rfl⟩ := (ac_val t₂ c).2 y hy
      refine tail_any hdict₂.mapOf.typeIs slot_dict_getitem.lookup (wpAny_getItem_of (strKind_is pw g.w _ _) hdict₂.mapOf hy ?_) rfl
      exact ⟨⟨c, u, z, rfl, rfl⟩, h₅, t₅ + 1, rfl, fun b o e => kk₂ b o (kk b o e)⟩
  · intro D h' t' ys vs hD hL hpl hlen hP hF keep
    refine spliced_nil ?_
    have hfil : vs.filter (fun _ => true) = vs := by simp
    rw [hfil] at hF
    obtain ⟨ll, e4, e5⟩ := paired_bare (fun v y h => h) hF l (by rw [hlen]; simp) (fun j v hj => by
      obtain ⟨c, u, h1, h2⟩ := hP j v hj
      exact ⟨c, u, by simpa using h1, h2⟩)
    have hys : ys = (strValues ll).toArray := by rw [← e4]
    rw [hys] at hL
    refine SC.join hL e5 ?_ ?_
    · unfold JoinOk
      rw [Bool.not_eq_true']
      refine StrLaws.joinFits (B := 1) ?_ ?_
      · intro y hy
        obtain ⟨c, _, rfl⟩ := List.mem_map.mp hy
        exact Nat.le_refl _
      · have e0 : ("" : Str).length = 0 := by decide +kernel
        rw [e0, List.length_map, List.length_map]
        unfold lim at hl
        omega
    · intro t'' k'
      refine k _ _ (.str (l.map bareC)) fs ⟨rfl, rfl, rfl⟩ ?_ ⟨by rw [List.length_map]; exact hl, t'', by rw [join_bare]⟩ ?_ q
      all_goals
        have kf : ∀ b o, s.heap.get? b = some o → h'.get? b = some o := fun b o e => keep b o (fun z => by
          have z := List.mem_singleton.mp z
          subst z
          exact absurd (Heap.lt_size (k1 _ _ e)) (Nat.lt_irrefl _)) (k2 _ _ (k1 b o e))
        first
          | exact .ofKeeps kf
          | exact I.kp (.ofKeeps (L := s.heap.objs.size) kf) (by obtain ⟨es, n, hdx, _⟩ := I.dict; exact (kf _ _ hdx).trans hdx.symm)
end Sp
end
section
open PySem PySem.Builtin.Str PySem.W PySem.Calls PyProof.Rows
set_option maxRecDepth 100000
set_option maxHeartbeats 2000000
set_option linter.all false
namespace Sp
noncomputable def FnE (P : Params) (p : Nat × CF) : Prop := ∃ nm params body sc, FnF P p.1 p.2 nm params body sc
theorem FnE.of {P : Params} {k : Nat} {c : CF} {a : Arguments} {b : List Stmt} {s : Scope} (h : ∃ nm, FnF P k c nm a b s) : FnE P (k, c) := h.elim fun _ h => ⟨_, _, _, _, h⟩
theorem FnE.cons {P : Params} {p : Nat × CF} {l : List (Nat × CF)} (h : FnE P p) (k : ∀ q ∈ l, FnE P q) : ∀ q ∈ p :: l, FnE P q := List.forall_mem_cons.mpr ⟨h, k⟩
theorem FnE.nil {P : Params} : ∀ q ∈ ([] : List (Nat × CF)), FnE P q := fun _ h => nomatch h
theorem prog_all (P : Params) : ∀ q ∈ progL, FnE P q := .cons (.of (ff_0 P)) (.cons (.of (ff_1 P)) (.cons (.of (ff_2 P)) (.cons (.of (ff_3 P)) (.cons (.of (ff_4 P)) (.cons (.of (ff_5 P)) (.cons (.of (ff_6 P)) (.cons (.of (ff_7 P)) (.cons (.of (ff_8 P)) (.cons (.of (ff_9 P)) (.cons (.of (ff_10 P)) (.cons (.of (ff_11 P)) (.cons (.of (ff_12 P)) (.cons (.of (ff_13 P)) (.cons (.of (ff_14 P)) (.cons (.of (ff_15 P)) (.cons (.of (ff_16 P)) (.cons (.of (ff_17 P)) (.cons (.of (ff_18 P)) (.cons (.of (ff_19 P)) (.cons (.of (ff_20 P)) (.cons (.of (ff_21 P)) (.cons (.of (ff_22 P)) (.cons (.of (ff_100 P)) (.cons (.of (ff_101 P)) (.cons (.of (ff_102 P)) (.cons (.of (ff_103 P)) (.cons (.of (ff_104 P)) (.cons (.of (ff_105 P)) (.cons (.of (ff_107 P)) (.cons (.of (ff_108 P)) (.nil)))))))))))))))))))))))))))))))
theorem mem_lk {α : Type} {a : Nat} {o : α} : ∀ {l : List (Nat × α)}, l.lookup a = some o → (a, o) ∈ l
  | [], h => nomatch h
  | p :: r, h => by
    rw [List.lookup_cons] at h
    cases e : a == p.1 with
    | true =>
      rw [e] at h
      have h := Option.some.inj h
      have e := eq_of_beq e
      rw [← h, e]; exact .head _
    | false => rw [e] at h; exact .tail _ (mem_lk h)
theorem prog_ok {P : Params} {f : Nat} {c : CF} (h : prog f = some c) : FnE P (f, c) := prog_all P _ (mem_lk h)
theorem nat_inv {f : Nat} {args : List AV} {v : AV} (h : natF f args = some v) : ∃ l, f = 106 ∧ args = [.str l] ∧ v = .str (l.map bareC) := by
  obtain ⟨h1, h⟩ := ifo_inv h
  obtain ⟨a, h2, h⟩ := ob_inv h
  have h1 := of_decide_eq_true h1
  have h2 := one1_inv h2
  subst h1 h2
  cases a with
  | str l => cases h; exact ⟨l, rfl, rfl, rfl⟩
  | _ => exact none_inv h
theorem pc_ok {g : G} : ∀ (d f : Nat) (args fs : List AV) (Q : AV → List AV → Prop), PCt d f args fs Q → CallOK g d f args fs Q
  | 0, _, _, _, _, h => h.elim
  | d + 1, f, args, fs, Q, h => by
    have h : (match natF f args with
      | some v => Q v fs
      | none => ∃ c, prog f = some c ∧ args.length = c.args ∧ wS tabs (PCt d) c.body (endK Q) ⟨args.map some ++ List.replicate (c.locs - c.args) none, fs⟩) := h
    cases hv : natF f args with
    | some v =>
      rw [hv] at h
      obtain ⟨l, rfl, rfl, rfl⟩ := nat_inv hv
      exact bare_ok h
    | none =>
      rw [hv] at h
      obtain ⟨c, hc, hn, w⟩ := h
      obtain ⟨nm, params, body, sc, K⟩ := prog_ok (P := g.P) hc
      exact call_fn K (pc_ok d) hn w
end Sp
end
section
set_option maxRecDepth 100000
namespace Sp
open PySem (Operator CmpOp)
/-- [self] -/
noncomputable def b_init : CS := CS.seq (CS.ex (CE.meth 0 0 (CE.cons (CE.str []) (CE.nil)))) (CS.skip)
/-- [script, stemmer, word, SpanishStemmer, _law_word, _law_stem] -/
noncomputable def b_law_rest : CS := CS.seq (CS.ex (CE.meth 1 12 (CE.cons (CE.call 108 (CE.cons (CE.slice (CE.var 0) (CE.int 16) (CE.int 24)) (CE.cons (CE.int 10) (CE.nil)))) (CE.nil)))) (CS.seq (CS.asg 2 (CE.call 108 (CE.cons (CE.slice (CE.var 0) (CE.none) (CE.int 16)) (CE.cons (CE.int 24) (CE.nil))))) (CS.seq (CS.ret (CE.cmp (CmpOp.Eq) (CE.meth 1 12 (CE.cons (CE.var 2) (CE.nil))) (CE.call 107 (CE.cons (CE.var 2) (CE.nil))))) (CS.skip)))
end Sp
end
section
set_option maxRecDepth 100000
set_option linter.all false
namespace Sp
noncomputable def fs0 : List AV := [.str [], .int 0, .int 0, .int 0, .int 0, .int 0]
theorem len_succ {α : Type} {l : List α} {n : Nat} (h : l.length = n + 1) : ∃ a r, l = a :: r ∧ r.length = n := by
  cases l with
  | nil => cases h
  | cons a r => exact ⟨a, r, rfl, Nat.succ.inj h⟩
theorem len_le {α : Type} {l : List α} {n : Nat} (h : n + 1 ≤ l.length) : ∃ a r, l = a :: r ∧ n ≤ r.length := by
  cases l with
  | nil => cases h
  | cons a r => exact ⟨a, r, rfl, Nat.le_of_succ_le_succ h⟩
theorem set_current_ok {d : Nat} {s : List Nat} {fs : List AV} {Q : AV → List AV → Prop} (hz : s.length ≤ lim) (hf : fs = [] ∨ 6 ≤ fs.length) (h : Q .none ([.str s, .int 0, .int s.length, .int 0, .int 0, .int s.length] ++ fs.drop 6)) : PCt (d + 1) 0 [.self, .str s] fs Q := by
  refine ⟨⟨2, 3, b_set_current⟩, rfl, rfl, ?_⟩
  rcases hf with rfl | hf
  · exact ⟨_, rfl, _, rfl, rfl, _, rfl, _, rfl, rfl, _, rfl, _, rfl, _, rfl, _, rfl, _, rfl, rfl, _, rfl, _, rfl, rfl, _, rfl, _, rfl, _, rfl, _, rfl, rfl, _, rfl, _, rfl, _, rfl, _, rfl, rfl, _, rfl, h⟩
  · obtain ⟨a0, f1, e0, g0⟩ := len_le hf
    obtain ⟨a1, f2, e1, g1⟩ := len_le g0
    obtain ⟨a2, f3, e2, g2⟩ := len_le g1
    obtain ⟨a3, f4, e3, g3⟩ := len_le g2
    obtain ⟨a4, f5, e4, g4⟩ := len_le g3
    obtain ⟨a5, f6, e5, g5⟩ := len_le g4
    subst e0 e1 e2 e3 e4 e5
    exact ⟨_, rfl, _, rfl, rfl, _, rfl, _, rfl, rfl, _, rfl, _, rfl, _, rfl, _, rfl, _, rfl, rfl, _, rfl, _, rfl, rfl, _, rfl, _, rfl, _, rfl, _, rfl, rfl, _, rfl, _, rfl, _, rfl, _, rfl, rfl, _, rfl, h⟩
theorem init_ok {d : Nat} {Q : AV → List AV → Prop} (h : Q .none fs0) : wS tabs (PCt (d + 1)) b_init (endK Q) ⟨[some .self], []⟩ := by
  exact ⟨rfl, Nat.zero_le _, set_current_ok (Nat.zero_le _) (.inl rfl) ⟨rfl, h⟩⟩
end Sp
end
section
open PySem PySem.Builtin.Str PySem.W PySem.Calls PyProof.Rows
set_option maxRecDepth 100000
set_option maxHeartbeats 2000000
set_option linter.all false
namespace Sp
theorem ff_init (P : Params) : ∃ nm, FnA P 35 ⟨1, 1, b_init⟩ nm (fArgs (mst 2 0)) (fBody (mst 2 0)) (fScope (mst 2 0)) := ⟨_, lookOf (by kernel_rfl : (kL P).lookup 35 = some (o_35 P)) (by kernel_rfl) (of_a1 fun a s => BindsTo.of_eq (by kernel_rfl)) (by kernel_rfl) (by kernel_rfl)⟩
theorem law_k {P : Prop} (k : ∀ xp cp p pos, fBody (fst 28) = .Assign [.Name "stemmer" xp] (.Call (.Name "SpanishStemmer" cp) [] [] p) pos :: (fBody (fst 28)).drop 1 → P) : P := k _ _ _ _ rfl
theorem law_facts (P : Params) : (kL P).lookup 1076 = some (o_1076 P) ∧ codeIn (kL P) (.ref 1075) "law" = true ∧ keepIn (kL P) (.ref clsA) = true ∧ makesIn (kL P) clsA = true ∧ findIn (kL P) (.ref clsA) "__init__" = some (some (.ref 35)) ∧
    (typeIn (kL P) (.ref 35) = some (.type "function")) := ⟨by kernel_rfl, by kernel_rfl, by kernel_rfl, by kernel_rfl, by kernel_rfl, by kernel_rfl⟩
theorem law_scope : cS (fScope (fst 28)) 60 ((fBody (fst 28)).drop 1) = some b_law_rest ∧ (fScope (fst 28)).kind = .function ∧ (fScope (fst 28)).names.lookup ("__debug__" : Str) = none ∧ isLoc (fScope (fst 28)) "stemmer" = some 1 ∧ isGlob (fScope (fst 28)) "SpanishStemmer" = true ∧ (vars (fScope (fst 28))).length = 6 ∧ (vars (fScope (fst 28)))[0]? = some ("script" : Str) :=
  ⟨by kernel_rfl, by kernel_rfl, by kernel_rfl, by kernel_rfl, by kernel_rfl, by kernel_rfl, by kernel_rfl⟩
theorem law_nod : (vars (fScope (fst 28))).Nodup := by decide +kernel
/-- the pure half: what the law's own steps show -/
noncomputable def LawPure : Prop := ∀ l : List Int, l.length ≤ 63 → wS tabs (PCt 30) b_law_rest (endK fun v _ => v = .bool true) ⟨[some (.ints l), some .self, none, none, none, none], fs0⟩
theorem kl_fin {w : World} {h : Heap} (S : Stands h (finL w)) : (∀ p ∈ kL w.params, h.get? p.1 = some p.2) ∧ h.get? gvA = some (o_232 w) ∧ ∀ p ∈ amF w.params, h.get? p.1 = some p.2 := by
  have a : Stands h (k3 w.params) := S.left
  have b := S.right
  have k2' : Stands h (k2 w.params) := b.left.left.left
  have am : Stands h (amF w.params) := b.left.left.right
  have gv : Stands h [(232, o_232 w)] := b.left.right
  have k1' : Stands h (k1 w.params) := b.right.left
  exact ⟨(k1'.app k2').app a, gv _ (.head _), am⟩
theorem law_ok (w : World) (HP : LawPure) : LawOK w := by
  intro s a vs l S hg hlen hl hr
  obtain ⟨hk, hv, ha⟩ := kl_fin S
  have X : (kL w.params).In s.heap := fun b o e => hk _ (mem_of_lookup e)
  obtain ⟨f1, f2, f3, f4, f5, f6⟩ := law_facts w.params
  have hrl : recursionLimit = 1000 := rfl
  refine wpAny_call ?_
  refine call_ex (o := o_1076 w.params) (binds := [("script", .ref a)]) (by decide) (X _ _ f1) rfl (noLimit_of X) (codeRec_of X f2) (BindsTo.of_eq (by kernel_rfl)) (fun y hy => ?_) (fun h₁ ns sb => ?_) (by kernel_rfl) (by kernel_rfl) (by kernel_rfl) (by decide +kernel)
  · have hy := List.mem_singleton.mp hy
    subst hy
    kernel_rfl
  have kk1 : ∀ b o, s.heap.get? b = some o → h₁.get? b = some o := fun b o e => (sb.2 b (Nat.ne_of_lt (Heap.lt_size e))).trans (Heap.get?_push_of_some _ e)
  have X1 : (kL w.params).In h₁ := X.keeps kk1
  have sz1 : h₁.objs.size = s.heap.objs.size + 1 := by rw [sb.1, Heap.size_push]
  obtain ⟨sc1, sc2, sc3, sc4, sc5, sc6, sc7⟩ := law_scope
  refine law_k fun xp cp p pos hb => ?_
  rw [hb]
  generalize hrest : (fBody (fst 28)).drop 1 = rest at sc1 hb ⊢
  generalize hsc : fScope (fst 28) = sc at sc1 sc2 sc3 sc4 sc5 sc6 sc7 ns ⊢
  have nod : (vars sc).Nodup := hsc ▸ law_nod
  generalize hg' : ({ w := w, x := h₁.objs.size + 1, dx := h₁.objs.size, B := s.heap } : G) = g
  have gw : g.w = w := by rw [← hg']
  have gx : g.x = h₁.objs.size + 1 := by rw [← hg']
  have gd : g.dx = h₁.objs.size := by rw [← hg']
  have gB : g.B = s.heap := by rw [← hg']
  have H : Here (callerA.deeper (envOf "law" sc s.heap.objs.size 1076 (.ref 1075))) "law" sc s.heap.objs.size 1076 (.ref 1075) [] 30 := ⟨rfl, rfl, by show callerA.depth + 1 + 30 ≤ 900; decide, by show callerA.units + 3 + 600 ≤ 9000; decide, sc2, sc3, nod⟩
  obtain ⟨g1, g2⟩ := isGlob_of sc5
  refine wpAny_execs_cons ?_
  refine wpAny_Assign_Name ?_
  refine wpAny_Call_NameR (gname X1 (stem_name w.params) ?_ sc2 g1 g2)
  refine callWith_of (P := fun h => (kL w.params).In h) rfl (keeps_K f3) (evalArgs_nil3 ⟨X1, ?_⟩)
  refine wpAny_call ?_
  refine make_core (makes_of X1 f4) (looks_findIn X1 f5) (fun self => bind_fn X1 self f6) (.inl rfl) ?_
  obtain ⟨nmi, Ki⟩ := ff_init g.P
  have hcall := call_fnA (g := g) (d := 30) Ki (pc_ok 30) (args := [.self]) (fs := []) (Q := fun v fs => v = .none ∧ fs = fs0) rfl (init_ok (d := 29) ⟨rfl, rfl⟩)
  generalize hh2 : (h₁.push emptyDict).push (instObj 927 h₁.objs.size) = h₂
  have up : ∀ b o, h₁.get? b = some o → h₂.get? b = some o := fun b o e => by rw [← hh2]; exact Heap.get?_push_of_some _ (Heap.get?_push_of_some _ e)
  have sz2 : h₂.objs.size = h₁.objs.size + 2 := by rw [← hh2, Heap.size_push, Heap.size_push]
  have gxo : h₂.get? g.x = some (instObj clsA g.dx) := by
    rw [gx, gd, ← hh2]
    have := Heap.get?_push_size (h₁.push emptyDict) (o := instObj 927 h₁.objs.size) rfl
    rw [Heap.size_push] at this; exact this
  have gdo : h₂.get? g.dx = some (dictOf [] 0) := by
    rw [gd, ← hh2]
    exact Heap.get?_push_of_some _ (Heap.get?_push_size h₁ (o := emptyDict) rfl)
  have none_of : ∀ b, s.heap.objs.size ≤ b → g.B.get? b = none := fun b e => by rw [gB]; exact Heap.get?_none_of_le e
  have I : Inv g [] h₂ := by
    refine ⟨⟨?_, ?_, ?_⟩, ?_, ?_, ?_, ?_, gxo, ⟨[], 0, gdo, by unfold FsR; trivial⟩⟩
    · rw [gB, G.P, gw]; exact hk
    · rw [gB, gw]; exact hv
    · rw [gB, G.P, gw]; exact ha
    · rw [gB]; exact fun b o e => up b o (kk1 b o e)
    · exact none_of _ (by rw [gx, sz1]; exact Nat.le_succ_of_le (Nat.le_succ _))
    · exact none_of _ (by rw [gd, sz1]; exact Nat.le_succ _)
    · rw [gx, gd]; exact Nat.succ_ne_self _
  have hlist : h₂.IsList a vs.toArray := by
    obtain ⟨o, ho, r⟩ := hl
    exact ⟨o, up _ _ (kk1 _ _ ho), r⟩
  have rep : Rep g s.heap.objs.size (vars sc) ⟨[some (.ints l), none, none, none, none, none], []⟩ h₂ := by
    refine ⟨⟨_, ns.keeps up, fun i x av hx hav => ?_⟩, sc6.symm, I, none_of _ (Nat.le_refl _), ?_⟩
    · match i with
      | 0 =>
        rw [sc7] at hx
        cases hx
        cases hav
        exact ⟨.ref a, rfl, a, vs, rfl, hlist, hr, Nat.le_trans hlen (by decide)⟩
      | 1 => cases hav
      | 2 => cases hav
      | 3 => cases hav
      | 4 => cases hav
      | 5 => cases hav
      | n + 6 => cases hav
    · rw [gd, sz1]; exact Nat.ne_of_lt (Nat.lt_succ_self _)
  have frs : Frs g h₂ h₂.objs.size [envOf "law" sc s.heap.objs.size 1076 (.ref 1075)] := H.frs (s := ⟨h₂, s.gens, s.drawn, s.toks + 1, s.os⟩) rep (fun env he => by cases he)
  subst gw
  refine hcall _ ⟨h₂, _, _, _, _⟩ _ [.ref (h₁.objs.size + 1)] [envOf "law" sc s.heap.objs.size 1076 (.ref 1075)] rfl rfl (Nat.le_of_ble_eq_true rfl) (Nat.le_of_ble_eq_true rfl) frs I ⟨by rw [← gx]; rfl, trivial⟩ ?_
  rintro v s' av fs' sm kp rv I' ⟨rfl, rfl⟩
  have rv : v = .none := rv
  subst rv
  refine ⟨rfl, ?_⟩
  have rep' := rep.call kp (Nat.le_refl _) I'
  refine store_ok (av := .self) H rep' sc4 (by rw [← gx]; rfl) fun h₃ k₃ kp₃ rep₃ => ?_
  have w3 := HP l hlen
  refine wpAny_mono (cs_ok H (pc_ok 30) 60 rest b_law_rest sc1 _ _ { s' with heap := h₃, toks := k₃ } rep₃ (fun env he => by cases he) w3) (fun fl s₄ q => ?_) (fun e s₄ q => ?_)
  · obtain ⟨sm₄, kp₄, σ₄, rep₄, q⟩ := q
    cases fl with
    | ret v =>
      obtain ⟨av, rv, q⟩ := q
      have q : av = .bool true := q
      subst q
      have rv : v = .bool true := rv
      subst rv
      refine ⟨rfl, ?_, ?_, ?_⟩
      · intro b o e
        exact rep₄.inv.stay b o (by rw [gB]; exact e)
      · exact sm₄.2.2.trans sm.2.2
      · exact (sm₄.1.trans sm.1).trans hg
    | next => cases q
    | brk => exact q.elim
    | cont => exact q.elim
  · obtain ⟨e, j, σ', _, _, _, _, _, _, q⟩ := q
    exact q.elim
end Sp
end
section
set_option linter.all false
namespace Sp.Pu
/-- t before k, sign by sign -/
noncomputable def ltL : List Nat → List Nat → Bool
  | _, [] => false
  | [], _ :: _ => true
  | a :: x, b :: y => if a < b then true else if a = b then ltL x y else false
noncomputable def lcp : List Nat → List Nat → Nat
  | a :: x, b :: y => if a = b then lcp x y + 1 else 0
  | _, _ => 0
/-- the program's own comparison -/
noncomputable def cmpGo : List Nat → List Nat → Nat → Int × Nat
  | _, [], n => (0, n)
  | [], _ :: _, n => (-1, n)
  | a :: x, b :: y, n => if a = b then cmpGo x y (n + 1) else ((a : Int) - b, n)
theorem lcp_le_l : ∀ x y : List Nat, lcp x y ≤ x.length
  | [], y => by cases y <;> simp [lcp]
  | a :: x, [] => by simp [lcp]
  | a :: x, b :: y => by
    unfold lcp
    split
    · have := lcp_le_l x y; simp; omega
    · simp
theorem lcp_le_r : ∀ x y : List Nat, lcp x y ≤ y.length
  | [], y => by cases y <;> simp [lcp]
  | a :: x, [] => by simp [lcp]
  | a :: x, b :: y => by
    unfold lcp
    split
    · have := lcp_le_r x y; simp; omega
    · simp
theorem lcp_take : ∀ (x y : List Nat) (m : Nat), m ≤ lcp x y → x.take m = y.take m
  | _, _, 0, _ => by simp
  | [], y, m + 1, h => by cases y <;> simp [lcp] at h
  | a :: x, [], m + 1, h => by simp [lcp] at h
  | a :: x, b :: y, m + 1, h => by
    unfold lcp at h
    split at h
    · rename_i e; subst e
      rw [List.take_succ_cons, List.take_succ_cons, lcp_take x y m (by omega)]
    · omega
theorem lcp_of_take : ∀ (x y : List Nat) (m : Nat), m ≤ x.length → x.take m = y.take m → m ≤ y.length → m ≤ lcp x y
  | _, _, 0, _, _, _ => Nat.zero_le _
  | [], y, m + 1, h, _, _ => by simp at h
  | a :: x, [], m + 1, _, _, h => by simp at h
  | a :: x, b :: y, m + 1, h1, h2, h3 => by
    rw [List.take_succ_cons, List.take_succ_cons] at h2
    obtain ⟨e, h2'⟩ := List.cons.inj h2
    subst e
    unfold lcp
    rw [if_pos rfl]
    have := lcp_of_take x y m (by simpa using h1) h2' (by simpa using h3)
    omega
theorem pre_iff_lcp {p x : List Nat} : p <+: x ↔ p.length ≤ lcp x p := by
  constructor
  · rintro ⟨r, rfl⟩
    exact lcp_of_take _ _ _ (by simp) (by simp) (Nat.le_refl _)
  · intro h
    have := lcp_take x p p.length h
    rw [List.take_length] at this
    rw [← this]
    exact List.take_prefix _ _
theorem cmpGo_eq : ∀ (t k : List Nat) (n : Nat), (cmpGo t k n).2 = n + lcp t k ∧ (decide ((cmpGo t k n).1 < 0) = ltL t k)
  | t, [], n => by cases t <;> simp [cmpGo, lcp, ltL]
  | [], b :: y, n => by simp [cmpGo, lcp, ltL]
  | a :: x, b :: y, n => by
    unfold cmpGo lcp ltL
    by_cases e : a = b
    · subst e
      have := cmpGo_eq x y (n + 1)
      simp only [if_true, Nat.lt_irrefl, if_false]
      exact ⟨by rw [this.1]; omega, this.2⟩
    · simp only [if_neg e, Nat.add_zero, true_and]
      split
      · rw [decide_eq_true]; omega
      · rw [decide_eq_false]; omega
theorem lcp_drop : ∀ (t k : List Nat) (m : Nat), m ≤ lcp t k → lcp t k = m + lcp (t.drop m) (k.drop m) ∧ ltL t k = ltL (t.drop m) (k.drop m)
  | _, _, 0, _ => by simp
  | [], k, m + 1, h => by cases k <;> simp [lcp] at h
  | a :: x, [], m + 1, h => by simp [lcp] at h
  | a :: x, b :: y, m + 1, h => by
    unfold lcp at h
    split at h
    · rename_i e; subst e
      have := lcp_drop x y m (by omega)
      refine ⟨?_, ?_⟩
      · conv => lhs; unfold lcp
        rw [if_pos rfl, this.1, List.drop_succ_cons, List.drop_succ_cons]; omega
      · conv => lhs; unfold ltL
        rw [if_neg (Nat.lt_irrefl _), if_pos rfl, this.2]; rfl
    · omega
/-- comparing from a shared beginning -/
theorem cmp_from {t k : List Nat} {m : Nat} (h : m ≤ lcp t k) : (cmpGo (t.drop m) (k.drop m) m).2 = lcp t k ∧ decide ((cmpGo (t.drop m) (k.drop m) m).1 < 0) = ltL t k := by
  obtain ⟨a, b⟩ := cmpGo_eq (t.drop m) (k.drop m) m
  obtain ⟨c, d⟩ := lcp_drop t k m h
  exact ⟨by rw [a, c], by rw [b, d]⟩
theorem lt_trans' : ∀ {x y z : List Nat}, ltL x y = true → ltL y z = true → ltL x z = true
  | x, y, [], _, h => by cases y <;> simp [ltL] at h
  | x, [], _ :: _, h, _ => by cases x <;> simp [ltL] at h
  | [], b :: y, c :: z, _, _ => rfl
  | a :: x, b :: y, c :: z, h1, h2 => by
    unfold ltL at h1 h2 ⊢
    split at h1
    · split at h2
      · rw [if_pos (by omega)]
      · split at h2
        · rw [if_pos (by omega)]
        · cases h2
    · split at h1
      · split at h2
        · rw [if_pos (by omega)]
        · split at h2
          · rw [if_neg (by omega), if_pos (by omega)]; exact lt_trans' h1 h2
          · cases h2
      · cases h1
theorem lt_irrefl' : ∀ (x : List Nat), ltL x x = false
  | [] => rfl
  | a :: x => by unfold ltL; simp [lt_irrefl' x]
/-- a key between two that share a beginning shares it -/
theorem between : ∀ {x y z : List Nat} (m : Nat), ltL x y = true → ltL y z = true → m ≤ x.length → m ≤ z.length → x.take m = z.take m → m ≤ y.length ∧ y.take m = x.take m
  | _, _, _, 0, _, _, _, _, _ => by simp
  | [], _, _, m + 1, _, _, h, _, _ => by simp at h
  | _ :: _, _, [], m + 1, _, _, _, h, _ => by simp at h
  | a :: x, [], c :: z, m + 1, h, _, _, _, _ => by simp [ltL] at h
  | a :: x, b :: y, c :: z, m + 1, h1, h2, h3, h4, h5 => by
    rw [List.take_succ_cons, List.take_succ_cons] at h5
    obtain ⟨e0, h5'⟩ := List.cons.inj h5
    subst e0
    unfold ltL at h1 h2
    have e : a = b := by
      split at h1
      · split at h2
        · omega
        · split at h2
          · omega
          · cases h2
      · split at h1
        · assumption
        · cases h1
    subst e
    rw [if_neg (Nat.lt_irrefl _), if_pos rfl] at h1 h2
    have := between m h1 h2 (by simpa using h3) (by simpa using h4) h5'
    exact ⟨by simpa using this.1, by rw [List.take_succ_cons, List.take_succ_cons, this.2]⟩
theorem pre_not_lt : ∀ {p t : List Nat}, p <+: t → ltL t p = false
  | [], t, _ => by cases t <;> rfl
  | a :: p, [], h => by simp at h
  | a :: p, b :: t, h => by
    obtain ⟨e, h'⟩ := List.cons_prefix_cons.mp h
    subst e
    unfold ltL
    rw [if_neg (Nat.lt_irrefl _), if_pos rfl]
    exact pre_not_lt h'
/-- a beginning of t that is not behind x, x not behind t: a beginning of x -/
theorem sandwich : ∀ {p x t : List Nat}, p <+: t → ltL x p = false → ltL t x = false → p <+: x
  | [], x, t, _, _, _ => List.nil_prefix
  | a :: p, x, [], h, _, _ => by simp at h
  | a :: p, [], b :: t, _, h, _ => by simp [ltL] at h
  | a :: p, c :: x, b :: t, h, h1, h2 => by
    obtain ⟨e0, h'⟩ := List.cons_prefix_cons.mp h
    subst e0
    unfold ltL at h1 h2
    have e : a = c := by
      split at h1
      · cases h1
      · split at h2
        · cases h2
        · omega
    subst e
    rw [if_neg (Nat.lt_irrefl _), if_pos rfl] at h1 h2
    exact List.cons_prefix_cons.mpr ⟨rfl, sandwich h' h1 h2⟩
end Sp.Pu
end
section
set_option linter.all false
set_option maxRecDepth 100000
namespace Sp.Pu
/-- the table's keys, last sign first -/
noncomputable def keyB (T : List Ent) (i : Nat) : List Nat := match T[i]? with
  | some e => e.s.reverse
  | none => []
/-- a table in order: keys K, its links -/
structure TOK (T : List Ent) (K : Nat → List Nat) : Prop where
  ne : 0 < T.length
  lim : T.length ≤ lim
  srt : ∀ i j, i < j → j < T.length → ltL (K i) (K j) = true
  sub : ∀ i e, T[i]? = some e → (e.sub < 0 ∧ ∀ j, j < T.length → K j <+: K i → j = i) ∨ (∃ m : Nat, e.sub = (m : Int) ∧ m < i ∧ K m <+: K i ∧ ∀ j, j < T.length → j ≠ i → K j <+: K i → K j <+: K m)
/-- what the search answers -/
noncomputable def Best (T : List Ent) (K : Nat → List Nat) (t : List Nat) (c : Nat) : Prop := c < T.length ∧ K c <+: t ∧ ∀ p, p < T.length → K p <+: t → K p <+: K c
noncomputable def NoKey (T : List Ent) (K : Nat → List Nat) (t : List Nat) : Prop := ∀ p, p < T.length → ¬ K p <+: t
section
variable {T : List Ent} {K : Nat → List Nat} {t : List Nat}
structure SI (T : List Ent) (K : Nat → List Nat) (t : List Nat) (i j ci cj : Nat) (fl : Bool) : Prop where
  lt : i < j
  jn : j ≤ T.length
  lo : (i = 0 ∧ ci = 0) ∨ (ltL t (K i) = false ∧ ci = lcp t (K i))
  hi : (j = T.length ∧ cj = 0) ∨ (j < T.length ∧ ltL t (K j) = true ∧ cj = lcp t (K j))
  fl : fl = true → i = 0 ∧ j = 1
/-- where the search ends -/
noncomputable def EX (T : List Ent) (K : Nat → List Nat) (t : List Nat) (i ci : Nat) : Prop :=
  i < T.length ∧ ((ltL t (K i) = false ∧ ci = lcp t (K i) ∧ ∀ p, i < p → p < T.length → ltL t (K p) = true) ∨ (i = 0 ∧ ci = 0 ∧ ltL t (K 0) = true))
theorem SI.start (O : TOK T K) : SI T K t 0 T.length 0 0 false := ⟨O.ne, Nat.le_refl _, .inl ⟨rfl, rfl⟩, .inl ⟨rfl, rfl⟩, fun h => by cases h⟩
theorem SI.mid {i j ci cj : Nat} {fl : Bool} (O : TOK T K) (h : SI T K t i j ci cj fl) : i ≤ i + (j - i) / 2 ∧ i + (j - i) / 2 < j ∧ i + (j - i) / 2 < T.length ∧ min ci cj ≤ lcp t (K (i + (j - i) / 2)) := by
  have := h.lt
  have := h.jn
  refine ⟨by omega, by omega, by omega, ?_⟩
  rcases h.lo with ⟨_, rfl⟩ | ⟨a1, a2⟩
  · simp
  rcases h.hi with ⟨_, rfl⟩ | ⟨b0, b1, b2⟩
  · simp
  by_cases e : (j - i) / 2 = 0
  · rw [e, Nat.add_zero, ← a2]; exact Nat.min_le_left _ _
  have m1 : min ci cj ≤ lcp t (K i) := by rw [← a2]; exact Nat.min_le_left _ _
  have m2 : min ci cj ≤ lcp t (K j) := by rw [← b2]; exact Nat.min_le_right _ _
  have e1 := lcp_take _ _ _ m1
  have e2 := lcp_take _ _ _ m2
  obtain ⟨q1, q2⟩ := between (min ci cj) (O.srt i (i + (j - i) / 2) (by omega) (by omega)) (O.srt (i + (j - i) / 2) j (by omega) b0) (Nat.le_trans m1 (lcp_le_r _ _)) (Nat.le_trans m2 (lcp_le_r _ _)) (e1.symm.trans e2)
  exact lcp_of_take _ _ _ (Nat.le_trans m1 (lcp_le_l _ _)) (e1.trans q2.symm) q1
/-- a turn -/
theorem SI.turn {i j ci cj k : Nat} {fl : Bool} (O : TOK T K) (h : SI T K t i j ci cj fl) (hk : k = i + (j - i) / 2) :
    (ltL t (K k) = true → (¬ k - i ≤ 1 → SI T K t i k ci (lcp t (K k)) false) ∧ (k - i ≤ 1 → (0 < i → EX T K t i ci) ∧ (i = 0 → (k = 0 → EX T K t 0 ci) ∧ (k = 1 → fl = false ∧ SI T K t 0 1 ci (lcp t (K k)) true)))) ∧
    (ltL t (K k) = false → (¬ j - k ≤ 1 → SI T K t k j (lcp t (K k)) cj false) ∧ (j - k ≤ 1 → (0 < k → EX T K t k (lcp t (K k))) ∧ (k = 0 → j = 1 ∧ (fl = true → EX T K t 0 (lcp t (K k))) ∧ SI T K t 0 1 (lcp t (K k)) cj true))) := by
  obtain ⟨m1, m2, m3, _⟩ := h.mid O
  rw [← hk] at m1 m2 m3
  have hlt := h.lt
  have hjn := h.jn
  refine ⟨fun c => ⟨fun q => ?_, fun q => ⟨fun p => ?_, fun p => ⟨fun z => ?_, fun z => ?_⟩⟩⟩, fun c => ⟨fun q => ?_, fun q => ⟨fun p => ?_, fun p => ⟨?_, fun z => ?_, ?_⟩⟩⟩⟩
  · exact ⟨by omega, by omega, h.lo, .inr ⟨m3, c, rfl⟩, fun z => by cases z⟩
  · rcases h.lo with ⟨e, _⟩ | ⟨a1, a2⟩
    · omega
    refine ⟨by omega, .inl ⟨a1, a2, fun r hr hr2 => ?_⟩⟩
    have hki : k ≠ i := by
      rintro rfl
      rw [a1] at c; cases c
    by_cases e : r = k
    · rw [e]; exact c
    · exact lt_trans' c (O.srt k r (by omega) hr2)
  · subst z
    refine ⟨O.ne, .inr ⟨rfl, ?_, c⟩⟩
    rcases h.lo with ⟨_, e⟩ | ⟨a1, _⟩
    · exact e
    · rw [p] at a1; rw [a1] at c; cases c
  · subst p
    refine ⟨?_, by omega, by omega, h.lo, .inr ⟨by omega, z ▸ c, by rw [z]⟩, fun _ => ⟨rfl, rfl⟩⟩
    cases fl with
    | false => rfl
    | true => have := (h.fl rfl).2; omega
  · exact ⟨by omega, hjn, .inr ⟨c, rfl⟩, h.hi, fun z => by cases z⟩
  · refine ⟨m3, .inl ⟨c, rfl, fun r hr hr2 => ?_⟩⟩
    rcases h.hi with ⟨e, _⟩ | ⟨b0, b1, _⟩
    · omega
    by_cases e : r = j
    · rw [e]; exact b1
    · exact lt_trans' b1 (O.srt j r (by omega) hr2)
  · omega
  · subst p
    refine ⟨m3, .inl ⟨c, rfl, fun r hr hr2 => ?_⟩⟩
    rcases h.hi with ⟨e, _⟩ | ⟨b0, b1, _⟩
    · omega
    by_cases e : r = j
    · rw [e]; exact b1
    · exact lt_trans' b1 (O.srt j r (by omega) hr2)
  · subst p
    have e : j = 1 := by omega
    subst e
    exact ⟨by omega, hjn, .inr ⟨c, rfl⟩, h.hi, fun _ => ⟨rfl, rfl⟩⟩
/-- the links' walk -/
structure CH (T : List Ent) (K : Nat → List Nat) (t : List Nat) (ci c : Nat) : Prop where
  lt : c < T.length
  iff : (K c).length ≤ ci ↔ K c <+: t
  all : ∀ p, p < T.length → K p <+: t → K p <+: K c
  sub : ∀ m, m < T.length → K m <+: K c → ((K m).length ≤ ci ↔ K m <+: t)
theorem CH.start {i ci : Nat} (O : TOK T K) (h : EX T K t i ci) : CH T K t ci i := by
  obtain ⟨hi, h⟩ := h
  rcases h with ⟨h1, h2, h3⟩ | ⟨rfl, rfl, h1⟩
  · have iff : ∀ m, m < T.length → K m <+: K i → ((K m).length ≤ ci ↔ K m <+: t) := by
      intro m hm hp
      obtain ⟨r, hr⟩ := hp
      rw [h2, pre_iff_lcp]
      constructor
      · intro q
        have e := lcp_take _ _ _ q
        refine lcp_of_take _ _ _ (Nat.le_trans q (lcp_le_l _ _)) ?_ (Nat.le_refl _)
        rw [e, ← hr]; simp
      · intro q
        have e := lcp_take _ _ _ q
        refine lcp_of_take _ _ _ (Nat.le_trans q (lcp_le_l _ _)) ?_ (by rw [← hr]; simp)
        rw [e, ← hr]; simp
    refine ⟨hi, iff i hi List.prefix_rfl, fun p hp q => ?_, iff⟩
    refine sandwich q ?_ h1
    rcases Nat.lt_trichotomy p i with e | e | e
    · cases z : ltL (K i) (K p) with
      | false => rfl
      | true => have := lt_trans' z (O.srt p i e hi); rw [lt_irrefl'] at this; cases this
    · rw [e]; exact lt_irrefl' _
    · have := h3 p e hp
      rw [pre_not_lt q] at this; cases this
  · have no : ∀ p, p < T.length → ¬ K p <+: t := by
      intro p hp q
      have e := pre_not_lt q
      by_cases z : p = 0
      · subst z; rw [h1] at e; cases e
      · have := lt_trans' h1 (O.srt 0 p (by omega) hp)
        rw [this] at e; cases e
    have len : ∀ m, m < T.length → ¬ (K m).length ≤ 0 := by
      intro m hm q
      have : K m = [] := List.eq_nil_of_length_eq_zero (by omega)
      exact no m hm (by rw [this]; exact List.nil_prefix)
    exact ⟨hi, ⟨fun q => (len 0 hi q).elim, fun q => (no 0 hi q).elim⟩, fun p hp q => (no p hp q).elim, fun m hm _ => ⟨fun q => (len m hm q).elim, fun q => (no m hm q).elim⟩⟩
theorem CH.found {ci c : Nat} (h : CH T K t ci c) (q : (K c).length ≤ ci) : Best T K t c := ⟨h.lt, h.iff.mp q, h.all⟩
theorem CH.next {ci c : Nat} {e : Ent} (O : TOK T K) (h : CH T K t ci c) (he : T[c]? = some e) (q : ¬ (K c).length ≤ ci) : (e.sub < 0 ∧ NoKey T K t) ∨ ∃ m : Nat, e.sub = (m : Int) ∧ m < c ∧ CH T K t ci m := by
  have nc : ¬ K c <+: t := fun z => q (h.iff.mpr z)
  rcases O.sub c e he with ⟨a, b⟩ | ⟨m, a, b, d, f⟩
  · left
    refine ⟨a, fun p hp z => ?_⟩
    have := b p hp (h.all p hp z)
    subst this
    exact nc z
  · right
    refine ⟨m, a, b, Nat.lt_trans b h.lt, h.sub m (Nat.lt_trans b h.lt) d, fun p hp z => f p hp (fun w => nc (w ▸ z)) (h.all p hp z), fun p hp z => h.sub p hp (z.trans d)⟩
end
end Sp.Pu
end
section
set_option linter.all false
set_option maxRecDepth 100000
namespace Sp
open PySem (Operator CmpOp)
/-- the stemmer's nine fields -/
noncomputable def FS (w : List Nat) (c l b x y p q r : Int) : List AV := [.str w, .int c, .int l, .int b, .int x, .int y, .int p, .int q, .int r]
section
variable (T : Tabs)
/-- a plain expression's value -/
noncomputable def ev : CE → S → Option AV
  | .var i, σ => σ.get i
  | .glob g, _ => T.glob g
  | .none, _ => some .none
  | .int n, _ => some (.int n)
  | .str s, _ => if s.length ≤ lim then some (.str s) else Option.none
  | .bool b, _ => some (.bool b)
  | .fld e f, σ => (ev e σ).bind fun a => opFld σ.fs a f
  | .amf e k, σ => (ev e σ).bind fun a => opAmf a k
  | .ctab k, _ => T.tab k
  | .len e, σ => (ev e σ).bind opLen
  | .ord e, σ => (ev e σ).bind opOrd
  | .neg e, σ => (ev e σ).bind opNeg
  | .min2 a b, σ => (ev a σ).bind fun x => (ev b σ).bind fun y => opMin x y
  | .max2 a b, σ => (ev a σ).bind fun x => (ev b σ).bind fun y => opMax x y
  | .idx a b, σ => (ev a σ).bind fun x => (ev b σ).bind fun y => opIdx x y
  | .bin op a b, σ => (ev a σ).bind fun x => (ev b σ).bind fun y => opBin op x y
  | .cmp op a b, σ => (ev a σ).bind fun x => (ev b σ).bind fun y => (opCmp op x y).map .bool
  | .slice a b c, σ => (ev a σ).bind fun x => (ev b σ).bind fun y => (ev c σ).bind fun z => opSlice x y z
  | .lst l, _ => if (Nat.ble l.length lim && l.all fun s => Nat.ble s.length lim) = true then some (.strs l) else Option.none
  | .endsw a b, σ => (ev a σ).bind fun x => (ev b σ).bind fun y => opEnds x y
  | _, _ => Option.none
end
section
variable {T : Tabs} {C : Nat → List AV → List AV → (AV → List AV → Prop) → Prop} {Q : Fl → S → Prop} {a b : CS} {σ : S}
theorem bind_some' {α β : Type} {o : Option α} {f : α → Option β} {v : β} (h : o.bind f = some v) : ∃ x, o = some x ∧ f x = some v := by
  cases o with
  | none => cases h
  | some x => exact ⟨x, rfl, h⟩
theorem ev_ok : ∀ (e : CE) {v : AV} {P : AV → S → Prop}, ev T e σ = some v → P v σ → wE T C e P σ := by
  intro e
  induction e with
  | var i => intro v P h p; exact ⟨v, h, p⟩
  | glob g => intro v P h p; exact ⟨v, h, p⟩
  | none => intro v P h p; cases h; exact p
  | int n => intro v P h p; cases h; exact p
  | str s =>
    intro v P h p
    by_cases z : s.length ≤ lim
    · have h : (if s.length ≤ lim then some (AV.str s) else Option.none) = some v := h
      rw [if_pos z] at h; cases h; exact ⟨z, p⟩
    · have h : (if s.length ≤ lim then some (AV.str s) else Option.none) = some v := h
      rw [if_neg z] at h; cases h
  | bool b => intro v P h p; cases h; exact p
  | fld e f ih => intro v P h p; obtain ⟨x, h1, h2⟩ := bind_some' h; exact ih h1 ⟨v, h2, p⟩
  | amf e f ih => intro v P h p; obtain ⟨x, h1, h2⟩ := bind_some' h; exact ih h1 ⟨v, h2, p⟩
  | ctab k => intro v P h p; exact ⟨v, h, p⟩
  | len e ih => intro v P h p; obtain ⟨x, h1, h2⟩ := bind_some' h; exact ih h1 ⟨v, h2, p⟩
  | ord e ih => intro v P h p; obtain ⟨x, h1, h2⟩ := bind_some' h; exact ih h1 ⟨v, h2, p⟩
  | neg e ih => intro v P h p; obtain ⟨x, h1, h2⟩ := bind_some' h; exact ih h1 ⟨v, h2, p⟩
  | min2 a b iha ihb => intro v P h p; obtain ⟨x, h1, h⟩ := bind_some' h; obtain ⟨y, h2, h3⟩ := bind_some' h; exact iha h1 (ihb h2 ⟨v, h3, p⟩)
  | max2 a b iha ihb => intro v P h p; obtain ⟨x, h1, h⟩ := bind_some' h; obtain ⟨y, h2, h3⟩ := bind_some' h; exact iha h1 (ihb h2 ⟨v, h3, p⟩)
  | idx a b iha ihb => intro v P h p; obtain ⟨x, h1, h⟩ := bind_some' h; obtain ⟨y, h2, h3⟩ := bind_some' h; exact iha h1 (ihb h2 ⟨v, h3, p⟩)
  | bin op a b iha ihb => intro v P h p; obtain ⟨x, h1, h⟩ := bind_some' h; obtain ⟨y, h2, h3⟩ := bind_some' h; exact iha h1 (ihb h2 ⟨v, h3, p⟩)
  | cmp op a b iha ihb =>
    intro v P h p; obtain ⟨x, h1, h⟩ := bind_some' h; obtain ⟨y, h2, h3⟩ := bind_some' h
    obtain ⟨t, h4, rfl⟩ := Option.map_eq_some_iff.mp h3
    exact iha h1 (ihb h2 ⟨t, h4, p⟩)
  | slice a b c iha ihb ihc => intro v P h p; obtain ⟨x, h1, h⟩ := bind_some' h; obtain ⟨y, h2, h⟩ := bind_some' h; obtain ⟨z, h3, h4⟩ := bind_some' h; exact iha h1 (ihb h2 (ihc h3 ⟨v, h4, p⟩))
  | endsw a b iha ihb =>
    intro v P h p; obtain ⟨x, h1, h⟩ := bind_some' h; obtain ⟨y, h2, h3⟩ := bind_some' h
    cases x with
    | str l => exact iha h1 ⟨l, rfl, ihb h2 ⟨v, h3, p⟩⟩
    | _ => cases h3
  | lst l =>
    intro v P h p
    have h : (if (Nat.ble l.length lim && l.all fun s => Nat.ble s.length lim) = true then some (AV.strs l) else Option.none) = some v := h
    by_cases z : (Nat.ble l.length lim && l.all fun s => Nat.ble s.length lim) = true
    · rw [if_pos z] at h; cases h
      obtain ⟨z1, z2⟩ := Bool.and_eq_true_iff.mp z
      exact ⟨⟨Nat.le_of_ble_eq_true z1, fun s hs => Nat.le_of_ble_eq_true (List.all_eq_true.mp z2 s hs)⟩, p⟩
    · rw [if_neg z] at h; cases h
  | _ => intro v P h p; cases h
theorem ev_ends {x y : CE} {s t : List Nat} (ha : ev T x σ = some (.str s)) (hb : ev T y σ = some (.str t)) : ev T (.endsw x y) σ = some (.bool (decide (t <:+ s))) := by
  show ((ev T x σ).bind fun x => (ev T y σ).bind fun y => opEnds x y) = _
  rw [ha, hb]
  show some (AV.bool (t.isSuffixOf s)) = _
  by_cases z : t <:+ s
  · rw [List.isSuffixOf_iff_suffix.mpr z, decide_eq_true z]
  · rw [decide_eq_false z, show t.isSuffixOf s = false from Bool.eq_false_iff.mpr fun h => z (List.isSuffixOf_iff_suffix.mp h)]
theorem ev_bin {op : Operator} {a b : CE} {x y v : AV} (ha : ev T a σ = some x) (hb : ev T b σ = some y) (h : opBin op x y = some v) : ev T (.bin op a b) σ = some v := by
  show ((ev T a σ).bind fun x => (ev T b σ).bind fun y => opBin op x y) = _
  rw [ha, hb]; exact h
theorem ev_idx {a b : CE} {x y v : AV} (ha : ev T a σ = some x) (hb : ev T b σ = some y) (h : opIdx x y = some v) : ev T (.idx a b) σ = some v := by
  show ((ev T a σ).bind fun x => (ev T b σ).bind fun y => opIdx x y) = _
  rw [ha, hb]; exact h
theorem ev_ord {a : CE} {x v : AV} (ha : ev T a σ = some x) (h : opOrd x = some v) : ev T (.ord a) σ = some v := by
  show ((ev T a σ).bind opOrd) = _
  rw [ha]; exact h
theorem ev_slice {a b c : CE} {x y z v : AV} (ha : ev T a σ = some x) (hb : ev T b σ = some y) (hc : ev T c σ = some z) (h : opSlice x y z = some v) : ev T (.slice a b c) σ = some v := by
  show ((ev T a σ).bind fun x => (ev T b σ).bind fun y => (ev T c σ).bind fun z => opSlice x y z) = _
  rw [ha, hb, hc]; exact h
theorem ev_cmp {op : CmpOp} {a b : CE} {x y : AV} {t : Bool} (ha : ev T a σ = some x) (hb : ev T b σ = some y) (h : opCmp op x y = some t) : ev T (.cmp op a b) σ = some (.bool t) := by
  show ((ev T a σ).bind fun x => (ev T b σ).bind fun y => (opCmp op x y).map AV.bool) = _
  rw [ha, hb]
  show (opCmp op x y).map AV.bool = _
  rw [h]; rfl
/-- a plain test: an expression whose value is a bool -/
theorem tv_cmp {op : CmpOp} {x y : CE} {t : Bool} {P : Bool → S → Prop} (h : ev T (.cmp op x y) σ = some (.bool t)) (p : P t σ) : wT T C (.cmp op x y) P σ := by
  obtain ⟨v, h1, h⟩ := bind_some' h; obtain ⟨w, h2, h3⟩ := bind_some' h
  obtain ⟨t', h4, e⟩ := Option.map_eq_some_iff.mp h3
  cases e
  exact ev_ok x h1 (ev_ok y h2 ⟨_, h4, p⟩)
theorem tv_ends {x y : CE} {t : Bool} {P : Bool → S → Prop} (h : ev T (.endsw x y) σ = some (.bool t)) (p : P t σ) : wT T C (.endsw x y) P σ := by
  obtain ⟨v, h1, h⟩ := bind_some' h; obtain ⟨w, h2, h3⟩ := bind_some' h
  cases v with
  | str l => exact ev_ok x h1 ⟨l, rfl, ev_ok y h2 ⟨.bool t, h3, t, rfl, p⟩⟩
  | _ => cases h3
theorem tv_var {i : Nat} {t : Bool} {P : Bool → S → Prop} (h : ev T (.var i) σ = some (.bool t)) (p : P t σ) : wT T C (.var i) P σ := ⟨_, h, t, rfl, p⟩
/-- what a plain test is -/
noncomputable def isTest : CE → Bool
  | .cmp .. => true
  | .endsw .. => true
  | .var _ => true
  | _ => false
theorem tv_ok {c : CE} {t : Bool} {P : Bool → S → Prop} (hc : isTest c = true) (h : ev T c σ = some (.bool t)) (p : P t σ) : wT T C c P σ := by
  cases c with
  | cmp => exact tv_cmp h p
  | endsw => exact tv_ends h p
  | var => exact tv_var h p
  | _ => cases hc
-- statements
theorem sq2 (h : ∀ R, R = wS T C b Q → wS T C a (seqK Q R) σ) : wS T C (.seq a b) Q σ := h _ rfl
theorem sqi (h : wS T C a (seqK Q (wS T C b Q)) σ) : wS T C (.seq a b) Q σ := h
theorem sk' (h : Q .next σ) : wS T C .skip Q σ := h
theorem sk {R : S → Prop} (h : R σ) : wS T C .skip (seqK Q R) σ := h
theorem g_asg {i : Nat} {e : CE} {v : AV} {loc : List (Option AV)} {fs : List AV} (h : ev T e ⟨loc, fs⟩ = some v) (k : wS T C b Q ⟨loc.set i (some v), fs⟩) : wS T C (.seq (.asg i e) b) Q ⟨loc, fs⟩ := ev_ok e h k
theorem g_setf {e : CE} {v : AV} {f : Nat} {loc : List (Option AV)} {fs fs' : List AV} (h : ev T e ⟨some .self :: loc, fs⟩ = some v) (hf : setF fs f v = some fs') (k : wS T C b Q ⟨some .self :: loc, fs'⟩) :
    wS T C (.seq (.setf (.var 0) f e) b) Q ⟨some .self :: loc, fs⟩ := ev_ok e h ⟨.self, rfl, rfl, fs', hf, k⟩
theorem g_augl {i : Nat} {op : Operator} {e : CE} {x v y : AV} {loc : List (Option AV)} {fs : List AV} (hx : (⟨loc, fs⟩ : S).get i = some x) (h : ev T e ⟨loc, fs⟩ = some y) (ho : opAug op x y = some v) (k : wS T C b Q ⟨loc.set i (some v), fs⟩) : wS T C (.seq (.augl i op e) b) Q ⟨loc, fs⟩ :=
  ⟨x, hx, ev_ok e h ⟨v, ho, k⟩⟩
theorem g_augf {f : Nat} {op : Operator} {e : CE} {x v y : AV} {loc : List (Option AV)} {fs fs' : List AV} (hx : fs[f]? = some x) (h : ev T e ⟨some .self :: loc, fs⟩ = some y) (ho : opAug op x y = some v) (hf : setF fs f v = some fs') (k : wS T C b Q ⟨some .self :: loc, fs'⟩) :
    wS T C (.seq (.augf (.var 0) f op e) b) Q ⟨some .self :: loc, fs⟩ := ⟨.self, rfl, rfl, x, hx, ev_ok e h ⟨v, ho, fs', hf, k⟩⟩
theorem g_ret {e : CE} {v : AV} (h : ev T e σ = some v) (k : Q (.ret v) σ) : wS T C (.seq (.ret e) b) Q σ := ev_ok e h k
theorem g_ite {c : CE} {t : Bool} {d : CS} (hc : isTest c = true) (h : ev T c σ = some (.bool t)) (h1 : t = true → wS T C a (seqK Q (wS T C d Q)) σ) (h2 : t = false → wS T C b (seqK Q (wS T C d Q)) σ) : wS T C (.seq (.ite c a b) d) Q σ :=
  tv_ok hc h ⟨h1, h2⟩
/-- a test of a proposition -/
theorem g_if {c : CE} {P : Prop} [Decidable P] {d : CS} (hc : isTest c = true) (h : ev T c σ = some (.bool (decide P))) (h1 : P → wS T C a (seqK Q (wS T C d Q)) σ) (h2 : ¬ P → wS T C b (seqK Q (wS T C d Q)) σ) : wS T C (.seq (.ite c a b) d) Q σ :=
  g_ite hc h (fun t => h1 (of_decide_eq_true t)) (fun t => h2 (of_decide_eq_false t))
theorem g_t {c : CE} {d : CS} (hc : isTest c = true) (h : ev T c σ = some (.bool true)) (h1 : wS T C a (seqK Q (wS T C d Q)) σ) : wS T C (.seq (.ite c a b) d) Q σ := g_ite hc h (fun _ => h1) (fun t => by cases t)
theorem g_f {c : CE} {d : CS} (hc : isTest c = true) (h : ev T c σ = some (.bool false)) (h1 : wS T C b (seqK Q (wS T C d Q)) σ) : wS T C (.seq (.ite c a b) d) Q σ := g_ite hc h (fun t => by cases t) (fun _ => h1)
theorem g_ifs {c : CE} {P : Prop} [Decidable P] {d : CS} (hc : isTest c = true) (h : ev T c σ = some (.bool (decide P))) (h1 : P → wS T C a (seqK Q (wS T C d Q)) σ) (h2 : ¬ P → wS T C d Q σ) : wS T C (.seq (.ite c a .skip) d) Q σ := g_if hc h h1 h2
theorem g_fs {c : CE} {d : CS} (hc : isTest c = true) (h : ev T c σ = some (.bool false)) (h1 : wS T C d Q σ) : wS T C (.seq (.ite c a .skip) d) Q σ := g_f hc h h1
theorem g_asgi {i : Nat} {c x y : CE} {P : Prop} [Decidable P] {u v : AV} {d : CS} {loc : List (Option AV)} {fs : List AV} (hc : isTest c = true) (h : ev T c ⟨loc, fs⟩ = some (.bool (decide P))) (hx : ev T x ⟨loc, fs⟩ = some u) (hy : ev T y ⟨loc, fs⟩ = some v)
    (h1 : P → wS T C d Q ⟨loc.set i (some u), fs⟩) (h2 : ¬ P → wS T C d Q ⟨loc.set i (some v), fs⟩) : wS T C (.seq (.asg i (.ite c x y)) d) Q ⟨loc, fs⟩ :=
  tv_ok (P := fun t σ => (t = true → wE T C x _ σ) ∧ (t = false → wE T C y _ σ)) hc h ⟨fun t => ev_ok x hx (h1 (of_decide_eq_true t)), fun t => ev_ok y hy (h2 (of_decide_eq_false t))⟩
-- a test made of tests
theorem i_not {c : CE} (h : wS T C (.ite c b a) Q σ) : wS T C (.ite (.not c) a b) Q σ := by
  have e : (fun (t : Bool) (σ : S) => ((!t) = true → wS T C a Q σ) ∧ ((!t) = false → wS T C b Q σ)) = (fun t σ => (t = true → wS T C b Q σ) ∧ (t = false → wS T C a Q σ)) := by
    funext t σ
    cases t
    · exact propext ⟨fun h => ⟨(fun z => by cases z), fun _ => h.1 rfl⟩, fun h => ⟨fun _ => h.2 rfl, (fun z => by cases z)⟩⟩
    · exact propext ⟨fun h => ⟨fun _ => h.2 rfl, (fun z => by cases z)⟩, fun h => ⟨(fun z => by cases z), fun _ => h.1 rfl⟩⟩
  show wT T C c (fun (t : Bool) (σ : S) => ((!t) = true → wS T C a Q σ) ∧ ((!t) = false → wS T C b Q σ)) σ
  rw [e]; exact h
theorem i_p {c : CE} {P : Prop} [Decidable P] (hc : isTest c = true) (h : ev T c σ = some (.bool (decide P))) (h1 : P → wS T C a Q σ) (h2 : ¬ P → wS T C b Q σ) : wS T C (.ite c a b) Q σ :=
  tv_ok (P := fun t σ => (t = true → wS T C a Q σ) ∧ (t = false → wS T C b Q σ)) hc h ⟨fun t => h1 (of_decide_eq_true t), fun t => h2 (of_decide_eq_false t)⟩
theorem i_andp {c d : CE} {P : Prop} [Decidable P] (hc : isTest c = true) (h : ev T c σ = some (.bool (decide P))) (h1 : P → wS T C (.ite d a b) Q σ) (h2 : ¬ P → wS T C b Q σ) : wS T C (.ite (.and c d) a b) Q σ :=
  tv_ok (P := fun t σ => (t = true → wT T C d _ σ) ∧ (t = false → _)) hc h ⟨fun z => h1 (of_decide_eq_true z), fun z => ⟨(fun z => by cases z), fun _ => h2 (of_decide_eq_false z)⟩⟩
theorem i_orp {c d : CE} {P : Prop} [Decidable P] (hc : isTest c = true) (h : ev T c σ = some (.bool (decide P))) (h1 : P → wS T C a Q σ) (h2 : ¬ P → wS T C (.ite d a b) Q σ) : wS T C (.ite (.or c d) a b) Q σ :=
  tv_ok (P := fun t σ => (t = true → _) ∧ (t = false → wT T C d _ σ)) hc h ⟨fun z => ⟨fun _ => h1 (of_decide_eq_true z), (fun z => by cases z)⟩, fun z => h2 (of_decide_eq_false z)⟩
theorem i_and {c d : CE} (hc : isTest c = true) {t : Bool} (h : ev T c σ = some (.bool t)) (h1 : t = true → wS T C (.ite d a b) Q σ) (h2 : t = false → wS T C b Q σ) : wS T C (.ite (.and c d) a b) Q σ :=
  tv_ok (P := fun t σ => (t = true → wT T C d _ σ) ∧ (t = false → _)) hc h ⟨h1, fun z => ⟨(fun z => by cases z), fun _ => h2 z⟩⟩
theorem i_or {c d : CE} (hc : isTest c = true) {t : Bool} (h : ev T c σ = some (.bool t)) (h1 : t = true → wS T C a Q σ) (h2 : t = false → wS T C (.ite d a b) Q σ) : wS T C (.ite (.or c d) a b) Q σ :=
  tv_ok (P := fun t σ => (t = true → _) ∧ (t = false → wT T C d _ σ)) hc h ⟨fun z => ⟨fun _ => h1 z, (fun z => by cases z)⟩, h2⟩
end
section
variable {T : Tabs} {C : Nat → List AV → List AV → (AV → List AV → Prop) → Prop} {Q : Fl → S → Prop} {b : CS} {W : List Nat} {ci lm l x y p q r v : Int} {e : CE} {loc : List (Option AV)}
theorem g_f1 (h : ev T e ⟨some .self :: loc, FS W ci lm l x y p q r⟩ = some (.int v)) (k : wS T C b Q ⟨some .self :: loc, FS W v lm l x y p q r ⟩) : wS T C (.seq (.setf (.var 0) 1 e) b) Q ⟨some .self :: loc, FS W ci lm l x y p q r⟩ := g_setf h rfl k
theorem g_f2 (h : ev T e ⟨some .self :: loc, FS W ci lm l x y p q r⟩ = some (.int v)) (k : wS T C b Q ⟨some .self :: loc, FS W ci v l x y p q r ⟩) : wS T C (.seq (.setf (.var 0) 2 e) b) Q ⟨some .self :: loc, FS W ci lm l x y p q r⟩ := g_setf h rfl k
theorem g_f3 (h : ev T e ⟨some .self :: loc, FS W ci lm l x y p q r⟩ = some (.int v)) (k : wS T C b Q ⟨some .self :: loc, FS W ci lm v x y p q r ⟩) : wS T C (.seq (.setf (.var 0) 3 e) b) Q ⟨some .self :: loc, FS W ci lm l x y p q r⟩ := g_setf h rfl k
theorem g_f4 (h : ev T e ⟨some .self :: loc, FS W ci lm l x y p q r⟩ = some (.int v)) (k : wS T C b Q ⟨some .self :: loc, FS W ci lm l v y p q r ⟩) : wS T C (.seq (.setf (.var 0) 4 e) b) Q ⟨some .self :: loc, FS W ci lm l x y p q r⟩ := g_setf h rfl k
theorem g_f5 (h : ev T e ⟨some .self :: loc, FS W ci lm l x y p q r⟩ = some (.int v)) (k : wS T C b Q ⟨some .self :: loc, FS W ci lm l x v p q r ⟩) : wS T C (.seq (.setf (.var 0) 5 e) b) Q ⟨some .self :: loc, FS W ci lm l x y p q r⟩ := g_setf h rfl k
theorem g_f6 (h : ev T e ⟨some .self :: loc, FS W ci lm l x y p q r⟩ = some (.int v)) (k : wS T C b Q ⟨some .self :: loc, FS W ci lm l x y v q r ⟩) : wS T C (.seq (.setf (.var 0) 6 e) b) Q ⟨some .self :: loc, FS W ci lm l x y p q r⟩ := g_setf h rfl k
theorem g_f7 (h : ev T e ⟨some .self :: loc, FS W ci lm l x y p q r⟩ = some (.int v)) (k : wS T C b Q ⟨some .self :: loc, FS W ci lm l x y p v r ⟩) : wS T C (.seq (.setf (.var 0) 7 e) b) Q ⟨some .self :: loc, FS W ci lm l x y p q r⟩ := g_setf h rfl k
theorem g_f8 (h : ev T e ⟨some .self :: loc, FS W ci lm l x y p q r⟩ = some (.int v)) (k : wS T C b Q ⟨some .self :: loc, FS W ci lm l x y p q v ⟩) : wS T C (.seq (.setf (.var 0) 8 e) b) Q ⟨some .self :: loc, FS W ci lm l x y p q r⟩ := g_setf h rfl k
theorem g_add (h : ev T e ⟨some .self :: loc, FS W ci lm l x y p q r⟩ = some (.int v)) (k : wS T C b Q ⟨some .self :: loc, FS W (ci + v) lm l x y p q r⟩) : wS T C (.seq (.augf (.var 0) 1 .Add e) b) Q ⟨some .self :: loc, FS W ci lm l x y p q r⟩ := g_augf rfl h rfl rfl k
theorem g_sub (h : ev T e ⟨some .self :: loc, FS W ci lm l x y p q r⟩ = some (.int v)) (k : wS T C b Q ⟨some .self :: loc, FS W (ci - v) lm l x y p q r⟩) : wS T C (.seq (.augf (.var 0) 1 .Sub e) b) Q ⟨some .self :: loc, FS W ci lm l x y p q r⟩ := g_augf rfl h rfl rfl k
variable {a0 a1 a2 a3 a4 a5 a6 a7 a8 a9 a10 a11 a12 a13 a14 : Option AV} {rest : List (Option AV)} {fs : List AV} {u : AV}
theorem g_a0 (h : ev T e ⟨a0 :: rest, fs⟩ = some u) (k : wS T C b Q ⟨some u :: rest, fs⟩) : wS T C (.seq (.asg 0 e) b) Q ⟨a0 :: rest, fs⟩ := g_asg h k
theorem g_a1 (h : ev T e ⟨a0 :: a1 :: rest, fs⟩ = some u) (k : wS T C b Q ⟨a0 :: some u :: rest, fs⟩) : wS T C (.seq (.asg 1 e) b) Q ⟨a0 :: a1 :: rest, fs⟩ := g_asg h k
theorem g_a2 (h : ev T e ⟨a0 :: a1 :: a2 :: rest, fs⟩ = some u) (k : wS T C b Q ⟨a0 :: a1 :: some u :: rest, fs⟩) : wS T C (.seq (.asg 2 e) b) Q ⟨a0 :: a1 :: a2 :: rest, fs⟩ := g_asg h k
theorem g_a3 (h : ev T e ⟨a0 :: a1 :: a2 :: a3 :: rest, fs⟩ = some u) (k : wS T C b Q ⟨a0 :: a1 :: a2 :: some u :: rest, fs⟩) : wS T C (.seq (.asg 3 e) b) Q ⟨a0 :: a1 :: a2 :: a3 :: rest, fs⟩ := g_asg h k
theorem g_a4 (h : ev T e ⟨a0 :: a1 :: a2 :: a3 :: a4 :: rest, fs⟩ = some u) (k : wS T C b Q ⟨a0 :: a1 :: a2 :: a3 :: some u :: rest, fs⟩) : wS T C (.seq (.asg 4 e) b) Q ⟨a0 :: a1 :: a2 :: a3 :: a4 :: rest, fs⟩ := g_asg h k
theorem g_a5 (h : ev T e ⟨a0 :: a1 :: a2 :: a3 :: a4 :: a5 :: rest, fs⟩ = some u) (k : wS T C b Q ⟨a0 :: a1 :: a2 :: a3 :: a4 :: some u :: rest, fs⟩) : wS T C (.seq (.asg 5 e) b) Q ⟨a0 :: a1 :: a2 :: a3 :: a4 :: a5 :: rest, fs⟩ := g_asg h k
theorem g_a6 (h : ev T e ⟨a0 :: a1 :: a2 :: a3 :: a4 :: a5 :: a6 :: rest, fs⟩ = some u) (k : wS T C b Q ⟨a0 :: a1 :: a2 :: a3 :: a4 :: a5 :: some u :: rest, fs⟩) : wS T C (.seq (.asg 6 e) b) Q ⟨a0 :: a1 :: a2 :: a3 :: a4 :: a5 :: a6 :: rest, fs⟩ := g_asg h k
theorem g_a7 (h : ev T e ⟨a0 :: a1 :: a2 :: a3 :: a4 :: a5 :: a6 :: a7 :: rest, fs⟩ = some u) (k : wS T C b Q ⟨a0 :: a1 :: a2 :: a3 :: a4 :: a5 :: a6 :: some u :: rest, fs⟩) : wS T C (.seq (.asg 7 e) b) Q ⟨a0 :: a1 :: a2 :: a3 :: a4 :: a5 :: a6 :: a7 :: rest, fs⟩ := g_asg h k
theorem g_a8 (h : ev T e ⟨a0 :: a1 :: a2 :: a3 :: a4 :: a5 :: a6 :: a7 :: a8 :: rest, fs⟩ = some u) (k : wS T C b Q ⟨a0 :: a1 :: a2 :: a3 :: a4 :: a5 :: a6 :: a7 :: some u :: rest, fs⟩) : wS T C (.seq (.asg 8 e) b) Q ⟨a0 :: a1 :: a2 :: a3 :: a4 :: a5 :: a6 :: a7 :: a8 :: rest, fs⟩ := g_asg h k
theorem g_a9 (h : ev T e ⟨a0 :: a1 :: a2 :: a3 :: a4 :: a5 :: a6 :: a7 :: a8 :: a9 :: rest, fs⟩ = some u) (k : wS T C b Q ⟨a0 :: a1 :: a2 :: a3 :: a4 :: a5 :: a6 :: a7 :: a8 :: some u :: rest, fs⟩) : wS T C (.seq (.asg 9 e) b) Q ⟨a0 :: a1 :: a2 :: a3 :: a4 :: a5 :: a6 :: a7 :: a8 :: a9 :: rest, fs⟩ := g_asg h k
theorem g_a10 (h : ev T e ⟨a0 :: a1 :: a2 :: a3 :: a4 :: a5 :: a6 :: a7 :: a8 :: a9 :: a10 :: rest, fs⟩ = some u) (k : wS T C b Q ⟨a0 :: a1 :: a2 :: a3 :: a4 :: a5 :: a6 :: a7 :: a8 :: a9 :: some u :: rest, fs⟩) : wS T C (.seq (.asg 10 e) b) Q ⟨a0 :: a1 :: a2 :: a3 :: a4 :: a5 :: a6 :: a7 :: a8 :: a9 :: a10 :: rest, fs⟩ := g_asg h k
theorem g_a11 (h : ev T e ⟨a0 :: a1 :: a2 :: a3 :: a4 :: a5 :: a6 :: a7 :: a8 :: a9 :: a10 :: a11 :: rest, fs⟩ = some u) (k : wS T C b Q ⟨a0 :: a1 :: a2 :: a3 :: a4 :: a5 :: a6 :: a7 :: a8 :: a9 :: a10 :: some u :: rest, fs⟩) : wS T C (.seq (.asg 11 e) b) Q ⟨a0 :: a1 :: a2 :: a3 :: a4 :: a5 :: a6 :: a7 :: a8 :: a9 :: a10 :: a11 :: rest, fs⟩ := g_asg h k
theorem g_a12 (h : ev T e ⟨a0 :: a1 :: a2 :: a3 :: a4 :: a5 :: a6 :: a7 :: a8 :: a9 :: a10 :: a11 :: a12 :: rest, fs⟩ = some u) (k : wS T C b Q ⟨a0 :: a1 :: a2 :: a3 :: a4 :: a5 :: a6 :: a7 :: a8 :: a9 :: a10 :: a11 :: some u :: rest, fs⟩) : wS T C (.seq (.asg 12 e) b) Q ⟨a0 :: a1 :: a2 :: a3 :: a4 :: a5 :: a6 :: a7 :: a8 :: a9 :: a10 :: a11 :: a12 :: rest, fs⟩ := g_asg h k
theorem g_a13 (h : ev T e ⟨a0 :: a1 :: a2 :: a3 :: a4 :: a5 :: a6 :: a7 :: a8 :: a9 :: a10 :: a11 :: a12 :: a13 :: rest, fs⟩ = some u) (k : wS T C b Q ⟨a0 :: a1 :: a2 :: a3 :: a4 :: a5 :: a6 :: a7 :: a8 :: a9 :: a10 :: a11 :: a12 :: some u :: rest, fs⟩) : wS T C (.seq (.asg 13 e) b) Q ⟨a0 :: a1 :: a2 :: a3 :: a4 :: a5 :: a6 :: a7 :: a8 :: a9 :: a10 :: a11 :: a12 :: a13 :: rest, fs⟩ := g_asg h k
theorem g_a14 (h : ev T e ⟨a0 :: a1 :: a2 :: a3 :: a4 :: a5 :: a6 :: a7 :: a8 :: a9 :: a10 :: a11 :: a12 :: a13 :: a14 :: rest, fs⟩ = some u) (k : wS T C b Q ⟨a0 :: a1 :: a2 :: a3 :: a4 :: a5 :: a6 :: a7 :: a8 :: a9 :: a10 :: a11 :: a12 :: a13 :: some u :: rest, fs⟩) : wS T C (.seq (.asg 14 e) b) Q ⟨a0 :: a1 :: a2 :: a3 :: a4 :: a5 :: a6 :: a7 :: a8 :: a9 :: a10 :: a11 :: a12 :: a13 :: a14 :: rest, fs⟩ := g_asg h k
theorem g_f0 {W' : List Nat} (h : ev T e ⟨some .self :: loc, FS W ci lm l x y p q r⟩ = some (.str W')) (k : wS T C b Q ⟨some .self :: loc, FS W' ci lm l x y p q r⟩) : wS T C (.seq (.setf (.var 0) 0 e) b) Q ⟨some .self :: loc, FS W ci lm l x y p q r⟩ := g_setf h rfl k
theorem g_add2 (h : ev T e ⟨some .self :: loc, FS W ci lm l x y p q r⟩ = some (.int v)) (k : wS T C b Q ⟨some .self :: loc, FS W ci (lm + v) l x y p q r⟩) : wS T C (.seq (.augf (.var 0) 2 .Add e) b) Q ⟨some .self :: loc, FS W ci lm l x y p q r⟩ := g_augf rfl h rfl rfl k
theorem g_ass {σ : S} (hc : isTest e = true) (h : ev T e σ = some (.bool true)) (k : wS T C b Q σ) : wS T C (.seq (.assert e) b) Q σ := tv_ok (P := fun t σ => t = true ∧ _) hc h ⟨rfl, k⟩
theorem off0 {a : Int} : ev T (.bin .Sub (.fld (.var 0) 2) (.fld (.var 0) 1)) ⟨some .self :: loc, FS W a a l x y p q r⟩ = some (.int 0) := by
  show some (AV.int (a - a)) = _
  rw [Int.sub_self]
theorem back0 {i : Nat} (h : (⟨some .self :: loc, FS W ci lm l x y p q r⟩ : S).get i = some (.int 0)) : ev T (.bin .Sub (.fld (.var 0) 2) (.var i)) ⟨some .self :: loc, FS W ci lm l x y p q r⟩ = some (.int lm) := by
  show ((S.get _ i).bind fun y => opBin .Sub (.int lm) y) = _
  rw [h]
  show some (AV.int (lm - 0)) = _
  rw [Int.sub_zero]
end
theorem pcu {d f : Nat} {args fs : List AV} {Q : AV → List AV → Prop} (c : CF) (hn : natF f args = none) (hp : prog f = some c) (hl : args.length = c.args)
    (h : wS tabs (PCt d) c.body (endK Q) ⟨args.map some ++ List.replicate (c.locs - c.args) none, fs⟩) : PCt (d + 1) f args fs Q := by
  have e : PCt (d + 1) f args fs Q = (match natF f args with
    | some v => Q v fs
    | none => ∃ c, prog f = some c ∧ args.length = c.args ∧ wS tabs (PC tabs prog natF d) c.body (endK Q) ⟨args.map some ++ List.replicate (c.locs - c.args) none, fs⟩) := rfl
  rw [e, hn]; exact ⟨c, hp, hl, h⟩
theorem w_forL {T : Tabs} {C : Nat → List AV → List AV → (AV → List AV → Prop) → Prop} {i : Nat} {e : CE} {b : CS} {Q : Fl → S → Prop} {σ : S} : wS T C (.forL i e b) Q σ = wE T C e (fun x σ => ∃ l, itemsOf x = some l ∧
      forW (fun v again σ => wS T C b (loopK Q again) (σ.set i v)) (Q .next) l σ) σ := rfl
end Sp
end
section
set_option linter.all false
set_option maxRecDepth 100000
set_option maxHeartbeats 1000000
namespace Sp.Pu
open PySem (Operator CmpOp)
theorem ob_add (a b : Int) : opBin .Add (.int a) (.int b) = some (.int (a + b)) := rfl
theorem ob_sub (a b : Int) : opBin .Sub (.int a) (.int b) = some (.int (a - b)) := rfl
theorem ob_rsh (a : Int) : opBin .RShift (.int a) (.int 1) = some (.int (a / 2)) := rfl
theorem ob_fdiv (a : Int) : opBin .FloorDiv (.int a) (.int 2) = some (.int (a / 2)) := rfl
theorem ob_sadd (a b : List Nat) : opBin .Add (.str a) (.str b) = if a.length + b.length ≤ lim then some (.str (a ++ b)) else none := rfl
theorem oc_lt (a b : Int) : opCmp .Lt (.int a) (.int b) = some (decide (a < b)) := rfl
theorem oc_le (a b : Int) : opCmp .LtE (.int a) (.int b) = some (decide (a ≤ b)) := rfl
theorem oc_gt (a b : Int) : opCmp .Gt (.int a) (.int b) = some (decide (b < a)) := rfl
theorem oc_ge (a b : Int) : opCmp .GtE (.int a) (.int b) = some (decide (b ≤ a)) := rfl
theorem oc_eq (a b : Int) : opCmp .Eq (.int a) (.int b) = some (decide (a = b)) := rfl
theorem oc_ne (a b : Int) : opCmp .NotEq (.int a) (.int b) = some (decide (a ≠ b)) := rfl
theorem oc_seq (a b : List Nat) : opCmp .Eq (.str a) (.str b) = some (decide (a = b)) := rfl
theorem oc_sne (a b : List Nat) : opCmp .NotEq (.str a) (.str b) = some (decide (a ≠ b)) := rfl
theorem oc_in (a : List Nat) (l : List (List Nat)) : opCmp .In (.str a) (.strs l) = some (decide (a ∈ l)) := rfl
theorem oc_nin (a : List Nat) (l : List (List Nat)) : opCmp .NotIn (.str a) (.strs l) = some (decide (a ∉ l)) := rfl
theorem oc_ing (a : List Nat) : opCmp .In (.str a) .gv = some (decide (a ∈ gvL)) := rfl
theorem oc_ning (a : List Nat) : opCmp .NotIn (.str a) .gv = some (decide (a ∉ gvL)) := rfl
theorem oa_add (a b : Int) : opAug .Add (.int a) (.int b) = some (.int (a + b)) := rfl
theorem oa_sub (a b : Int) : opAug .Sub (.int a) (.int b) = some (.int (a - b)) := rfl
theorem oneg (a : Int) : opNeg (.int a) = some (.int (-a)) := rfl
theorem oamf0 (e : Ent) : opAmf (.amg e) 0 = some (.str e.s) := rfl
theorem oamf1 (e : Ent) : opAmf (.amg e) 1 = some (.int e.sub) := rfl
theorem oamf2 (e : Ent) : opAmf (.amg e) 2 = some (.int e.res) := rfl
theorem ofld (fs : List AV) (f : Nat) : opFld fs .self f = fs[f]? := rfl
theorem oord (c : Nat) : opOrd (.str [c]) = some (.int c) := rfl
theorem olens (l : List Nat) : opLen (.str l) = some (.int l.length) := rfl
theorem olent (l : List Ent) (h : l.length ≤ lim) : opLen (.tab l) = some (.int l.length) := by show (if _ then _ else _) = _; rw [if_pos h]
section
variable (a0 a1 a2 a3 a4 a5 a6 a7 a8 v : AV)
theorem sF0 : setF [a0, a1, a2, a3, a4, a5, a6, a7, a8] 0 v = some [v, a1, a2, a3, a4, a5, a6, a7, a8] := rfl
theorem sF1 : setF [a0, a1, a2, a3, a4, a5, a6, a7, a8] 1 v = some [a0, v, a2, a3, a4, a5, a6, a7, a8] := rfl
theorem sF2 : setF [a0, a1, a2, a3, a4, a5, a6, a7, a8] 2 v = some [a0, a1, v, a3, a4, a5, a6, a7, a8] := rfl
theorem sF3 : setF [a0, a1, a2, a3, a4, a5, a6, a7, a8] 3 v = some [a0, a1, a2, v, a4, a5, a6, a7, a8] := rfl
theorem sF4 : setF [a0, a1, a2, a3, a4, a5, a6, a7, a8] 4 v = some [a0, a1, a2, a3, v, a5, a6, a7, a8] := rfl
theorem sF5 : setF [a0, a1, a2, a3, a4, a5, a6, a7, a8] 5 v = some [a0, a1, a2, a3, a4, v, a6, a7, a8] := rfl
theorem sF6 : setF [a0, a1, a2, a3, a4, a5, a6, a7, a8] 6 v = some [a0, a1, a2, a3, a4, a5, v, a7, a8] := rfl
theorem sF7 : setF [a0, a1, a2, a3, a4, a5, a6, a7, a8] 7 v = some [a0, a1, a2, a3, a4, a5, a6, v, a8] := rfl
theorem sF8 : setF [a0, a1, a2, a3, a4, a5, a6, a7, a8] 8 v = some [a0, a1, a2, a3, a4, a5, a6, a7, v] := rfl
end
theorem oidx (l : List Nat) (n : Nat) (c : Nat) (h : l[n]? = some c) : opIdx (.str l) (.int (n : Int)) = some (.str [c]) := by
  show (if 0 ≤ (n : Int) then (l[(n : Int).toNat]?).map (fun c => AV.str [c]) else none) = _
  rw [if_pos (by omega)]
  simp [h]
theorem oidx' (l : List Nat) (i : Int) (n : Nat) (c : Nat) (e : i = (n : Int)) (h : l[n]? = some c) : opIdx (.str l) (.int i) = some (.str [c]) := by
  subst e; exact oidx l n c h
theorem oidxt (l : List Ent) (n : Nat) (c : Ent) (hl : l.length ≤ lim) (h : l[n]? = some c) : opIdx (.tab l) (.int (n : Int)) = some (.amg c) := by
  show (if 0 ≤ (n : Int) ∧ l.length ≤ lim then (l[(n : Int).toNat]?).map AV.amg else none) = _
  rw [if_pos ⟨by omega, hl⟩]
  simp [h]
/-- q - 1, .., 0 -/
noncomputable def dnL (q : Nat) : List AV := (List.range q).map fun (k : Nat) => AV.int (((q : Int) - 1) - k)
theorem dnL_succ (q : Nat) : dnL (q + 1) = .int q :: dnL q := by
  unfold dnL
  rw [List.range_succ_eq_map, List.map_cons, List.map_map]
  refine List.cons_eq_cons.mpr ⟨?_, List.map_congr_left fun k _ => ?_⟩
  · have : ((q + 1 : Nat) : Int) - 1 - ((0 : Nat) : Int) = q := by omega
    rw [this]
  · show AV.int (((q + 1 : Nat) : Int) - 1 - ((k + 1 : Nat) : Int)) = AV.int ((q : Int) - 1 - (k : Int))
    have : ((q + 1 : Nat) : Int) - 1 - ((k + 1 : Nat) : Int) = (q : Int) - 1 - (k : Int) := by omega
    rw [this]
theorem rangeL_down (q : Nat) (hq : q ≤ 1048576) (a : Int) (e : a = (q : Int) - 1) : rangeL a (-1) (-1) = some (dnL q) := by
  subst e
  unfold rangeL lim
  rw [if_pos (by omega), if_neg (by decide), if_pos rfl]
  unfold dnL
  rw [show ((q : Int) - 1 - -1).toNat = q by omega]
noncomputable def upL (a q : Nat) : List AV := (List.range q).map fun (k : Nat) => AV.int ((a : Int) + k)
theorem upL_succ (a q : Nat) : upL a (q + 1) = .int a :: upL (a + 1) q := by
  unfold upL
  rw [List.range_succ_eq_map, List.map_cons, List.map_map]
  refine List.cons_eq_cons.mpr ⟨?_, List.map_congr_left fun k _ => ?_⟩
  · have : (a : Int) + ((0 : Nat) : Int) = a := by omega
    rw [this]
  · show AV.int ((a : Int) + ((k + 1 : Nat) : Int)) = AV.int (((a + 1 : Nat) : Int) + (k : Int))
    have : (a : Int) + ((k + 1 : Nat) : Int) = ((a + 1 : Nat) : Int) + (k : Int) := by omega
    rw [this]
theorem rangeL_up (a b : Nat) (ha : a ≤ 1048576) (hb : b ≤ 1048576) : rangeL a b 1 = some (upL a (b - a)) := by
  unfold rangeL lim
  rw [if_pos (by omega), if_pos rfl]
  unfold upL
  rw [show ((b : Int) - (a : Int)).toNat = b - a by omega]
/-- a turn of a for loop -/
noncomputable def stepW (C : Nat → List AV → List AV → (AV → List AV → Prop) → Prop) (body : CS) (i : Nat) (Q : Fl → S → Prop) : AV → (S → Prop) → S → Prop := fun v again σ => wS tabs C body (loopK Q again) (σ.set i v)
noncomputable def body_inner_b : CS := (CS.seq (CS.ite (CE.cmp (CmpOp.Eq) (CE.bin (Operator.Sub) (CE.var 4) (CE.var 11)) (CE.var 5)) (CS.seq (CS.asg 10 (CE.neg (CE.int 1))) (CS.seq (CS.brk) (CS.skip))) (CS.skip)) (CS.seq (CS.asg 10 (CE.bin (Operator.Sub) (CE.ord (CE.idx (CE.fld (CE.var 0) 0) (CE.bin (Operator.Sub) (CE.bin (Operator.Sub) (CE.var 4) (CE.int 1)) (CE.var 11)))) (CE.ord (CE.idx (CE.amf (CE.var 12) 0) (CE.var 13))))) (CS.seq (CS.ite (CE.cmp (CmpOp.NotEq) (CE.var 10) (CE.int 0)) (CS.seq (CS.brk) (CS.skip)) (CS.skip)) (CS.seq (CS.augl 11 (Operator.Add) (CE.int 1)) (CS.skip)))))
/-- find_among's names -/
noncomputable def lb (T : List Ent) (i j c l ci cj : Nat) (fl : Bool) (k : Option AV) (df : Option AV) (cm : Option AV) (w : Option AV) (i2 : Option AV) : List (Option AV) :=
  [some .self, some (.tab T), some (.int i), some (.int j), some (.int c), some (.int l), some (.int ci), some (.int cj), some (.bool fl), k, df, cm, w, i2, none, none, none, none]
theorem tb_len {W : List Nat} {c l : Nat} (hc : c ≤ W.length) : ((W.take c).drop l).reverse.length = c - l := by
  rw [List.length_reverse, List.length_drop, List.length_take, Nat.min_eq_left hc]
theorem tb_nil {W : List Nat} {c l n : Nat} (hc : c ≤ W.length) (hn : c - l ≤ n) : (((W.take c).drop l).reverse).drop n = [] := List.drop_eq_nil_of_le (by rw [tb_len hc]; exact hn)
theorem ar_b {c l n : Nat} (hl : l ≤ c) (h : n < c - l) : l + (c - l - 1 - n) = c - 1 - n := by omega
theorem ar_c {c l n : Nat} (h : n < c - l) : c - l - 1 - n < c - l := by omega
theorem tb_at {W : List Nat} {c l n : Nat} (hl : l ≤ c) (hc : c ≤ W.length) (h : n < c - l) : ∃ a, (((W.take c).drop l).reverse).drop n = a :: (((W.take c).drop l).reverse).drop (n + 1) ∧ W[c - 1 - n]? = some a := by
  have hlt : n < ((W.take c).drop l).reverse.length := by rw [tb_len hc]; exact h
  have hd : ((W.take c).drop l).length = c - l := by rw [List.length_drop, List.length_take, Nat.min_eq_left hc]
  refine ⟨((W.take c).drop l).reverse[n], List.drop_eq_getElem_cons hlt, ?_⟩
  rw [List.getElem_reverse, List.getElem_drop, List.getElem_take, List.getElem?_eq_some_iff]
  refine ⟨by omega, ?_⟩
  congr 1
  rw [hd, ar_b hl h]
theorem key_at {s : List Nat} {m n : Nat} (h : n + (m + 1) = s.length) : ∃ a, s.reverse.drop n = a :: s.reverse.drop (n + 1) ∧ s[m]? = some a := by
  have hk : n < s.reverse.length := by rw [List.length_reverse]; omega
  refine ⟨s.reverse[n], List.drop_eq_getElem_cons hk, ?_⟩
  rw [List.getElem_reverse, List.getElem?_eq_some_iff]
  refine ⟨by omega, ?_⟩
  congr 1; omega
theorem ar_1 {c l n : Nat} (hn : n ≤ c - l) (hl : l ≤ c) (z : ¬ (c : Int) - (n : Int) = (l : Int)) : n < c - l := by omega
theorem ar_2 {c l n : Nat} (hl : l ≤ c) (z : (c : Int) - (n : Int) = (l : Int)) : c - l ≤ n := by omega
theorem ar_3 {c l n : Nat} (h : n < c - l) : (c : Int) - 1 - (n : Int) = ((c - 1 - n : Nat) : Int) := by omega
theorem ar_4 {a b : Nat} (h : (a : Int) - (b : Int) ≠ 0) : ¬ a = b := fun e => h (by rw [e]; exact Int.sub_self _)
theorem ar_5 {a b : Nat} (h : ¬ (a : Int) - (b : Int) ≠ 0) : a = b := by omega
section
variable {C : Nat → List AV → List AV → (AV → List AV → Prop) → Prop} {T : List Ent} {i j c l ci cj : Nat} {fl : Bool} {k : Option AV} {e : Ent} {W : List Nat} {lm b x y p q r : Int}
theorem inner_b {Q : Fl → S → Prop} (hl : l ≤ c) (hc : c ≤ W.length) : ∀ (m n : Nat) (i2 : Option AV), n + m = e.s.length → n ≤ c - l →
    (∀ i2, Q .next ⟨lb T i j c l ci cj fl k (some (.int (cmpGo ((((W.take c).drop l).reverse).drop n) (e.s.reverse.drop n) n).1)) (some (.int ((cmpGo ((((W.take c).drop l).reverse).drop n) (e.s.reverse.drop n) n).2 : Nat))) (some (.amg e)) i2, FS W c lm b x y p q r⟩) →
    forW (stepW C body_inner_b 13 Q) (Q .next) (dnL m) ⟨lb T i j c l ci cj fl k (some (.int 0)) (some (.int (n : Nat))) (some (.amg e)) i2, FS W c lm b x y p q r⟩
  | 0, n, i2, hn, ht, h => by
    have e0 : e.s.reverse.drop n = [] := List.drop_eq_nil_of_le (by rw [List.length_reverse, ← hn]; exact Nat.le_refl _)
    rw [e0] at h
    have e1 : ∀ t, cmpGo t [] n = (0, n) := fun t => by cases t <;> rfl
    rw [e1] at h
    exact h i2
  | m + 1, n, i2, hn, ht, h => by
    rw [dnL_succ]
    show wS tabs C body_inner_b (loopK Q (forW (stepW C body_inner_b 13 Q) (Q .next) (dnL m))) _
    have IH := inner_b (Q := Q) hl hc m (n + 1) (some (.int m)) (by rw [← hn, Nat.add_assoc, Nat.add_comm 1 m])
    generalize forW (stepW C body_inner_b 13 Q) (Q .next) (dnL m) = ag at IH ⊢
    obtain ⟨kb, ek, es⟩ := key_at hn
    rw [ek] at h
    show wS tabs C body_inner_b (loopK Q ag) ⟨lb T i j c l ci cj fl k (some (.int 0)) (some (.int (n : Nat))) (some (.amg e)) (some (.int m)), FS W c lm b x y p q r⟩
    unfold body_inner_b
    have hd : cmpGo [] (kb :: e.s.reverse.drop (n + 1)) n = (-1, n) := rfl
    refine g_ifs (P := (c : Int) - (n : Int) = (l : Int)) rfl rfl (fun z => ?_) (fun z => ?_)
    · rw [tb_nil hc (ar_2 hl z), hd] at h
      exact g_a10 rfl (h (some (.int m)))
    · have hlt := ar_1 ht hl z
      obtain ⟨ta, et, ew⟩ := tb_at hl hc hlt
      rw [et] at h
      have i1 := oidx' W ((c : Int) - 1 - (n : Int)) (c - 1 - n) _ (ar_3 hlt) ew
      have i3 := oidx e.s m _ es
      have hg : cmpGo (ta :: (((W.take c).drop l).reverse).drop (n + 1)) (kb :: e.s.reverse.drop (n + 1)) n = if ta = kb then cmpGo ((((W.take c).drop l).reverse).drop (n + 1)) (e.s.reverse.drop (n + 1)) (n + 1) else ((ta : Int) - kb, n) := rfl
      rw [hg] at h
      refine g_a10 (ev_bin (ev_ord (ev_idx rfl rfl i1) rfl) (ev_ord (ev_idx rfl rfl i3) rfl) rfl) (g_ifs (P := (ta : Int) - (kb : Int) ≠ 0) rfl rfl (fun d => ?_) (fun d => g_augl rfl rfl rfl ?_))
      · rw [if_neg (ar_4 d)] at h
        exact h (some (.int m))
      · have d := ar_5 d
        subst d
        rw [if_pos rfl] at h
        have e0 : (ta : Int) - (ta : Int) = 0 := Int.sub_self _
        dsimp only
        rw [e0]
        exact IH hlt h
end
end Sp.Pu
end
section
set_option linter.all false
set_option maxRecDepth 100000
set_option maxHeartbeats 1000000
namespace Sp.Pu
open PySem (Operator CmpOp)
noncomputable def for_b : CS := CS.forR 13 (CE.bin (Operator.Sub) (CE.bin (Operator.Sub) (CE.len (CE.amf (CE.var 12) 0)) (CE.int 1)) (CE.var 11)) (CE.neg (CE.int 1)) (-1) body_inner_b
noncomputable def tail_b : CS := (CS.seq (CS.ite (CE.cmp (CmpOp.Lt) (CE.var 10) (CE.int 0)) (CS.seq (CS.asg 3 (CE.var 9)) (CS.seq (CS.asg 7 (CE.var 11)) (CS.skip))) (CS.seq (CS.asg 2 (CE.var 9)) (CS.seq (CS.asg 6 (CE.var 11)) (CS.skip)))) (CS.seq (CS.ite (CE.cmp (CmpOp.LtE) (CE.bin (Operator.Sub) (CE.var 3) (CE.var 2)) (CE.int 1)) (CS.seq (CS.ite (CE.cmp (CmpOp.Gt) (CE.var 2) (CE.int 0)) (CS.seq (CS.brk) (CS.skip)) (CS.skip)) (CS.seq (CS.ite (CE.cmp (CmpOp.Eq) (CE.var 3) (CE.var 2)) (CS.seq (CS.brk) (CS.skip)) (CS.skip)) (CS.seq (CS.ite (CE.var 8) (CS.seq (CS.brk) (CS.skip)) (CS.skip)) (CS.seq (CS.asg 8 (CE.bool true)) (CS.skip))))) (CS.skip)) (CS.skip)))
noncomputable def head_b (f : CS) : CS := (CS.seq (CS.asg 9 (CE.bin (Operator.Add) (CE.var 2) (CE.bin (Operator.RShift) (CE.bin (Operator.Sub) (CE.var 3) (CE.var 2)) (CE.int 1)))) (CS.seq (CS.asg 10 (CE.int 0)) (CS.seq (CS.asg 11 (CE.min2 (CE.var 6) (CE.var 7))) (CS.seq (CS.asg 12 (CE.idx (CE.var 1) (CE.var 9))) (CS.seq f tail_b)))))
theorem omin (a b : Int) : opMin (.int a) (.int b) = some (.int (min a b)) := rfl
section
variable {C : Nat → List AV → List AV → (AV → List AV → Prop) → Prop} {T : List Ent} {i j c l ci cj : Nat} {fl : Bool} {e : Ent} {W : List Nat} {lm b x y p q r : Int}
theorem for_b_ok {Q : Fl → S → Prop} {k i2 : Option AV} {n : Nat} (hs : e.s.length ≤ 1048576) (hl : l ≤ c) (hc : c ≤ W.length) (hn : n ≤ e.s.length) (hn2 : n ≤ c - l)
    (h : ∀ i2, Q .next ⟨lb T i j c l ci cj fl k (some (.int (cmpGo ((((W.take c).drop l).reverse).drop n) (e.s.reverse.drop n) n).1)) (some (.int ((cmpGo ((((W.take c).drop l).reverse).drop n) (e.s.reverse.drop n) n).2 : Nat))) (some (.amg e)) i2, FS W c lm b x y p q r⟩) :
    wS tabs C for_b Q ⟨lb T i j c l ci cj fl k (some (.int 0)) (some (.int (n : Nat))) (some (.amg e)) i2, FS W c lm b x y p q r⟩ := by
  have IH := inner_b (C := C) (Q := Q) hl hc (e.s.length - n) n i2 (by omega) hn2 h
  have hr := rangeL_down (e.s.length - n) (by omega) ((e.s.length : Int) - 1 - n) (by omega)
  show wE tabs C _ (fun x σ => wE tabs C _ (fun y σ => ∃ p q l, x = .int p ∧ y = .int q ∧ rangeL p q (-1) = some l ∧ forW (stepW C body_inner_b 13 Q) (Q .next) l σ) σ) _
  generalize stepW C body_inner_b 13 Q = stp at IH ⊢
  exact ev_ok (.bin .Sub (.bin .Sub (.len (.amf (.var 12) 0)) (.int 1)) (.var 11)) rfl ⟨_, rfl, _, _, _, rfl, rfl, hr, IH⟩
noncomputable def tail2 : CS := (CS.seq (CS.ite (CE.cmp (CmpOp.LtE) (CE.bin (Operator.Sub) (CE.var 3) (CE.var 2)) (CE.int 1)) (CS.seq (CS.ite (CE.cmp (CmpOp.Gt) (CE.var 2) (CE.int 0)) (CS.seq (CS.brk) (CS.skip)) (CS.skip)) (CS.seq (CS.ite (CE.cmp (CmpOp.Eq) (CE.var 3) (CE.var 2)) (CS.seq (CS.brk) (CS.skip)) (CS.skip)) (CS.seq (CS.ite (CE.var 8) (CS.seq (CS.brk) (CS.skip)) (CS.skip)) (CS.seq (CS.asg 8 (CE.bool true)) (CS.skip))))) (CS.skip)) (CS.skip))
theorem ar_6 {a b : Nat} (h : (a : Int) - (b : Int) ≤ 1) : a - b ≤ 1 := by omega
theorem ar_7 {a b : Nat} (h : ¬ (a : Int) - (b : Int) ≤ 1) : ¬ a - b ≤ 1 := by omega
theorem ar_8 {i j k : Nat} (hk : k = i + (j - i) / 2) (z : ¬ k - i ≤ 1) : ¬ j ≤ i + 1 := by omega
theorem ar_9 {i j k : Nat} (hk : k = i + (j - i) / 2) (z : ¬ j - k ≤ 1) : ¬ j ≤ i + 1 := by omega
theorem ar_10 {i j k : Nat} (hk : k = i + (j - i) / 2) (z : ¬ k - i ≤ 1) : k - i < j - i := by omega
theorem ar_11 {i j k : Nat} (hk : k = i + (j - i) / 2) (z : ¬ j - k ≤ 1) : j - k < j - i := by omega
theorem ar_12 {i k : Nat} (h : k - i ≤ 1) (e : i = 0) (f : k ≠ i) : k = 1 := by omega
theorem ar_13 {i j k : Nat} (hk : k = i + (j - i) / 2) (h : i < j) (e : j = k) : False := by omega
theorem tail2_ok {Q : Fl → S → Prop} {k df cm w i2 : Option AV} {fs : List AV} (h1 : ¬ (j : Int) - i ≤ 1 → Q .next ⟨lb T i j c l ci cj fl k df cm w i2, fs⟩) (h2 : (j : Int) - i ≤ 1 → 0 < i → Q .brk ⟨lb T i j c l ci cj fl k df cm w i2, fs⟩)
    (h3 : (j : Int) - i ≤ 1 → i = 0 → j = i → Q .brk ⟨lb T i j c l ci cj fl k df cm w i2, fs⟩) (h4 : (j : Int) - i ≤ 1 → i = 0 → j ≠ i → fl = true → Q .brk ⟨lb T i j c l ci cj fl k df cm w i2, fs⟩)
    (h5 : (j : Int) - i ≤ 1 → i = 0 → j ≠ i → fl = false → Q .next ⟨lb T i j c l ci cj true k df cm w i2, fs⟩) : wS tabs C tail2 Q ⟨lb T i j c l ci cj fl k df cm w i2, fs⟩ := by
  refine g_ifs (P := (j : Int) - i ≤ 1) rfl rfl (fun z => g_ifs (P := (0 : Int) < (i : Int)) rfl rfl (fun z2 => h2 z (Int.ofNat_lt.mp z2)) (fun z2 => ?_)) (fun z => sk' (h1 z))
  have i0 : i = 0 := by omega
  refine g_ifs (P := (j : Int) = (i : Int)) rfl rfl (fun z3 => h3 z i0 (Int.ofNat.inj z3)) (fun z3 => ?_)
  have ji : j ≠ i := fun e => z3 (congrArg Int.ofNat e)
  exact g_ite (t := fl) rfl rfl (fun t => h4 z i0 ji t) (fun t => sk (g_a8 rfl (h5 z i0 ji t)))
theorem tail_b_ok {Q : Fl → S → Prop} {K : Nat → List Nat} {t : List Nat} {k : Nat} {df : Int} {w i2 : Option AV} (O : TOK T K) (hS : SI T K t i j ci cj fl) (hk : k = i + (j - i) / 2) (hd : decide (df < 0) = ltL t (K k)) {fs : List AV}
    (hbrk : ∀ i j ci cj fl w i2 k df cm, EX T K t i ci → Q .brk ⟨lb T i j c l ci cj fl k df cm w i2, fs⟩)
    (hnext : ∀ i' j' ci' cj' fl' w i2 k df cm, SI T K t i' j' ci' cj' fl' → (j' - i' < j - i ∨ fl' = true ∧ fl = false) → (fl = true → False) → Q .next ⟨lb T i' j' c l ci' cj' fl' k df cm w i2, fs⟩) :
    wS tabs C tail_b Q ⟨lb T i j c l ci cj fl (some (.int (k : Nat))) (some (.int df)) (some (.int (lcp t (K k) : Nat))) w i2, fs⟩ := by
  obtain ⟨tu1, tu2⟩ := hS.turn O hk
  obtain ⟨m1, m2, m3, _⟩ := hS.mid O
  rw [← hk] at m1 m2 m3
  have hlt := hS.lt
  have hfl := hS.fl
  have ff : ¬ j ≤ i + 1 → fl = false := fun z => by
    cases fl with
    | false => rfl
    | true => have := hfl rfl; omega
  show wS tabs C (CS.seq (CS.ite (CE.cmp .Lt (CE.var 10) (CE.int 0)) (CS.seq (CS.asg 3 (CE.var 9)) (CS.seq (CS.asg 7 (CE.var 11)) CS.skip)) (CS.seq (CS.asg 2 (CE.var 9)) (CS.seq (CS.asg 6 (CE.var 11)) CS.skip))) tail2) Q _
  refine g_if (P := df < 0) rfl rfl (fun d => ?_) (fun d => ?_)
  · have lt : ltL t (K k) = true := by rw [← hd]; exact decide_eq_true d
    obtain ⟨a1, a2⟩ := tu1 lt
    clear tu1 tu2
    refine g_a3 rfl (g_a7 rfl (sk (tail2_ok (i := i) (j := k) (ci := ci) (cj := lcp t (K k)) (fun z => ?_) (fun z p => ?_) (fun z p e => ?_) (fun z p e f => ?_) (fun z p e f => ?_))))
    · have f := ff (ar_8 hk (ar_7 z))
      subst f
      exact hnext i k ci (lcp t (K k)) false _ _ _ _ _ (a1 (ar_7 z)) (.inl (ar_10 hk (ar_7 z))) (fun z => by cases z)
    · exact hbrk _ _ _ _ _ _ _ _ _ _ ((a2 (ar_6 z)).1 p)
    · subst p
      exact hbrk _ _ _ _ _ _ _ _ _ _ (((a2 (ar_6 z)).2 rfl).1 e)
    · have e1 := ar_12 (ar_6 z) p e
      have := ((a2 (ar_6 z)).2 p).2 e1
      rw [f] at this
      cases this.1
    · have e1 := ar_12 (ar_6 z) p e
      have := (((a2 (ar_6 z)).2 p).2 e1).2
      rw [← p] at this
      have e2 : SI T K t i k ci (lcp t (K k)) true := by
        have := (((a2 (ar_6 z)).2 p).2 e1).2
        subst p; rw [← e1] at this; exact this
      exact hnext _ _ _ _ _ _ _ _ _ _ e2 (.inr ⟨rfl, f⟩) (fun z => by rw [f] at z; cases z)
  · have lt : ltL t (K k) = false := by rw [← hd]; exact decide_eq_false d
    obtain ⟨a1, a2⟩ := tu2 lt
    clear tu1 tu2
    refine g_a2 rfl (g_a6 rfl (sk (tail2_ok (i := k) (j := j) (ci := lcp t (K k)) (cj := cj) (fun z => ?_) (fun z p => ?_) (fun z p e => ?_) (fun z p e f => ?_) (fun z p e f => ?_))))
    · have f := ff (ar_9 hk (ar_7 z))
      subst f
      exact hnext k j (lcp t (K k)) cj false _ _ _ _ _ (a1 (ar_7 z)) (.inl (ar_11 hk (ar_7 z))) (fun z => by cases z)
    · exact hbrk _ _ _ _ _ _ _ _ _ _ ((a2 (ar_6 z)).1 p)
    · exact (ar_13 hk hlt e).elim
    · have := ((a2 (ar_6 z)).2 p).2.1 f
      rw [← p] at this
      exact hbrk _ _ _ _ _ _ _ _ _ _ this
    · have e2 : SI T K t k j (lcp t (K k)) cj true := by
        obtain ⟨j1, _, this⟩ := (a2 (ar_6 z)).2 p
        rw [p] at this ⊢
        rw [j1]; exact this
      exact hnext _ _ _ _ _ _ _ _ _ _ e2 (.inr ⟨rfl, f⟩) (fun z => by rw [f] at z; cases z)
theorem head_b_ok {Q : Fl → S → Prop} {K : Nat → List Nat} {t : List Nat} {k0 df0 cm0 w0 i0 : Option AV} {f : CS} {fs : List AV} (O : TOK T K) (hS : SI T K t i j ci cj fl)
    (hT : ∀ e n i2 Q, T[i + (j - i) / 2]? = some e → n ≤ lcp t (K (i + (j - i) / 2)) →
      (∀ i2 df, decide (df < 0) = ltL t (K (i + (j - i) / 2)) → Q .next ⟨lb T i j c l ci cj fl (some (.int ((i + (j - i) / 2 : Nat) : Int))) (some (.int df)) (some (.int (lcp t (K (i + (j - i) / 2)) : Nat))) (some (.amg e)) i2, fs⟩) →
      wS tabs C f Q ⟨lb T i j c l ci cj fl (some (.int ((i + (j - i) / 2 : Nat) : Int))) (some (.int 0)) (some (.int (n : Nat))) (some (.amg e)) i2, fs⟩)
    (hbrk : ∀ i j ci cj fl w i2 k df cm, EX T K t i ci → Q .brk ⟨lb T i j c l ci cj fl k df cm w i2, fs⟩)
    (hnext : ∀ i' j' ci' cj' fl' w i2 k df cm, SI T K t i' j' ci' cj' fl' → (j' - i' < j - i ∨ fl' = true ∧ fl = false) → (fl = true → False) → Q .next ⟨lb T i' j' c l ci' cj' fl' k df cm w i2, fs⟩) :
    wS tabs C (head_b f) Q ⟨lb T i j c l ci cj fl k0 df0 cm0 w0 i0, fs⟩ := by
  obtain ⟨m1, m2, m3, m4⟩ := hS.mid O
  have hlt := hS.lt
  obtain ⟨e, he⟩ : ∃ e, T[i + (j - i) / 2]? = some e := ⟨_, List.getElem?_eq_getElem m3⟩
  have hk : (i : Int) + ((j : Int) - i) / 2 = ((i + (j - i) / 2 : Nat) : Int) := by omega
  have hm : min (ci : Int) (cj : Int) = ((min ci cj : Nat) : Int) := by omega
  have hx := oidxt T (i + (j - i) / 2) e O.lim he
  have main := hT e (min ci cj) i0 (seqK Q (wS tabs C tail_b Q)) he m4 (fun i2 df hdf => tail_b_ok (w := some (.amg e)) (i2 := i2) (c := c) (l := l) (fs := fs) O hS rfl hdf hbrk hnext)
  generalize hkk : i + (j - i) / 2 = kk at *
  exact g_a9 (congrArg (fun i => some (AV.int i)) hk) (g_a10 rfl (g_a11 (congrArg (fun i => some (AV.int i)) hm) (g_a12 (ev_idx rfl rfl hx) main)))
/-- the search's loop -/
noncomputable def stepO (C : Nat → List AV → List AV → (AV → List AV → Prop) → Prop) (body : CS) (Q : Fl → S → Prop) : (S → Prop) → S → Prop := fun again σ => wT tabs C (.bool true) (fun t σ => (t = true → wS tabs C body (loopK Q again) σ) ∧ (t = false → Q .next σ)) σ
theorem outer_ok {Q : Fl → S → Prop} {K : Nat → List Nat} {t : List Nat} {f : CS} {fs : List AV} (O : TOK T K)
    (hT : ∀ i j ci cj fl k e n i2 Q, T[k]? = some e → n ≤ lcp t (K k) →
      (∀ i2 df, decide (df < 0) = ltL t (K k) → Q .next ⟨lb T i j c l ci cj fl (some (.int (k : Nat))) (some (.int df)) (some (.int (lcp t (K k) : Nat))) (some (.amg e)) i2, fs⟩) →
      wS tabs C f Q ⟨lb T i j c l ci cj fl (some (.int (k : Nat))) (some (.int 0)) (some (.int (n : Nat))) (some (.amg e)) i2, fs⟩)
    (hend : ∀ i j ci cj fl w i2 k df cm, EX T K t i ci → Q .next ⟨lb T i j c l ci cj fl k df cm w i2, fs⟩) :
    ∀ (m i j ci cj : Nat) (fl : Bool) (k0 df0 cm0 w0 i0 : Option AV), SI T K t i j ci cj fl → (if fl then 1 else j - i + 1) ≤ m →
      iterW (stepO C (head_b f) Q) m ⟨lb T i j c l ci cj fl k0 df0 cm0 w0 i0, fs⟩
  | 0, i, j, ci, cj, fl, k0, df0, cm0, w0, i0, hS, hm => by cases fl <;> simp at hm
  | m + 1, i, j, ci, cj, fl, k0, df0, cm0, w0, i0, hS, hm => by
    show stepO C (head_b f) Q (iterW (stepO C (head_b f) Q) m) _
    have IH := outer_ok (Q := Q) O hT hend m
    generalize iterW (stepO C (head_b f) Q) m = ag at IH ⊢
    refine (⟨fun _ => ?_, fun z => by cases z⟩ : (true = true → wS tabs C (head_b f) (loopK Q ag) _) ∧ (true = false → _))
    refine head_b_ok O hS (fun e n i2 Q => hT i j ci cj fl _ e n i2 Q) hend ?_
    intro i' j' ci' cj' fl' w i2 k df cm S1 h1 h2
    have ff : fl = false := by cases fl with | false => rfl | true => exact (h2 rfl).elim
    subst ff
    refine IH i' j' ci' cj' fl' k df cm w i2 S1 ?_
    have := hS.lt
    simp at hm
    cases fl' with
    | true => simp; omega
    | false => simp at h1 ⊢; omega
end
end Sp.Pu
end
section
set_option linter.all false
set_option maxRecDepth 100000
set_option maxHeartbeats 1000000
namespace Sp.Pu
open PySem (Operator CmpOp)
noncomputable def links (op : Operator) : CS := (CS.seq (CS.asg 12 (CE.idx (CE.var 1) (CE.var 2))) (CS.seq (CS.ite (CE.cmp (CmpOp.GtE) (CE.var 6) (CE.len (CE.amf (CE.var 12) 0))) (CS.seq (CS.setf (CE.var 0) 1 (CE.bin op (CE.var 4) (CE.len (CE.amf (CE.var 12) 0)))) (CS.seq (CS.ret (CE.amf (CE.var 12) 2)) (CS.skip))) (CS.skip)) (CS.seq (CS.asg 2 (CE.amf (CE.var 12) 1)) (CS.seq (CS.ite (CE.cmp (CmpOp.Lt) (CE.var 2) (CE.int 0)) (CS.seq (CS.ret (CE.int 0)) (CS.skip)) (CS.skip)) (CS.skip)))))
section
variable {C : Nat → List AV → List AV → (AV → List AV → Prop) → Prop} {T : List Ent} {c l : Nat} {W : List Nat} {lm b x y p q r : Int} {K : Nat → List Nat} {t : List Nat} {op : Operator} {mv : Nat → Int}
theorem links_ok {Q : Fl → S → Prop} (O : TOK T K) (hK : ∀ k e, T[k]? = some e → (K k).length = e.s.length) (hop : ∀ n : Nat, opBin op (.int c) (.int n) = some (.int (mv n)))
    (hyes : ∀ m e loc, T[m]? = some e → Best T K t m → Q (.ret (.int e.res)) ⟨loc, FS W (mv e.s.length) lm b x y p q r⟩)
    (hno : ∀ loc, NoKey T K t → Q (.ret (.int 0)) ⟨loc, FS W c lm b x y p q r⟩) :
    ∀ (n i j ci cj : Nat) (fl : Bool) (k df cm w i2 : Option AV), CH T K t ci i → i < n → iterW (stepO C (links op) Q) n ⟨lb T i j c l ci cj fl k df cm w i2, FS W c lm b x y p q r⟩
  | 0, i, j, ci, cj, fl, k, df, cm, w, i2, h, hn => by omega
  | n + 1, i, j, ci, cj, fl, k, df, cm, w, i2, h, hn => by
    show stepO C (links op) Q (iterW (stepO C (links op) Q) n) _
    have IH := links_ok (Q := Q) O hK hop hyes hno n
    generalize iterW (stepO C (links op) Q) n = ag at IH ⊢
    refine (⟨fun _ => ?_, fun z => by cases z⟩ : (true = true → wS tabs C (links op) (loopK Q ag) _) ∧ (true = false → _))
    obtain ⟨e, he⟩ : ∃ e, T[i]? = some e := ⟨_, List.getElem?_eq_getElem h.lt⟩
    have hx := oidxt T i e O.lim he
    have hl := hK i e he
    refine g_a12 (ev_idx rfl rfl hx) (g_ifs (P := ((e.s.length : Nat) : Int) ≤ (ci : Int)) rfl rfl (fun z => ?_) (fun z => ?_))
    · have B := h.found (by rw [hl]; exact Int.ofNat_le.mp z)
      exact g_f1 (ev_bin rfl rfl (hop _)) (g_ret rfl (hyes i e _ he B))
    · have nx := h.next O he (by rw [hl]; exact fun q => z (Int.ofNat_le.mpr q))
      refine g_a2 (u := .int e.sub) rfl (g_ifs (P := e.sub < 0) rfl rfl (fun a => ?_) (fun a => sk' ?_))
      · rcases nx with ⟨_, b⟩ | ⟨m, a', _⟩
        · exact g_ret rfl (hno _ b)
        · exact absurd a (by rw [a']; exact Int.not_lt.mpr (Int.natCast_nonneg m))
      · rcases nx with ⟨a', _⟩ | ⟨m, a', b, d⟩
        · exact (a a').elim
        · rw [a']
          exact IH m j ci cj fl k df cm (some (.amg e)) i2 d (Nat.lt_of_lt_of_le b (Nat.le_of_lt_succ hn))
end
theorem bfb_eq : b_find_among_b = (CS.seq (CS.asg 2 (CE.int 0)) (CS.seq (CS.asg 3 (CE.len (CE.var 1))) (CS.seq (CS.asg 4 (CE.fld (CE.var 0) 1)) (CS.seq (CS.asg 5 (CE.fld (CE.var 0) 3)) (CS.seq (CS.asg 6 (CE.int 0)) (CS.seq (CS.asg 7 (CE.int 0)) (CS.seq (CS.asg 8 (CE.bool false)) (CS.seq (CS.whl (CE.bool true) (head_b for_b)) (CS.seq (CS.whl (CE.bool true) (links .Sub)) (CS.seq (CS.ret (CE.neg (CE.int 1))) (CS.skip))))))))))) := rfl
theorem keyB_len {T : List Ent} {k : Nat} {e : Ent} (h : T[k]? = some e) : (keyB T k).length = e.s.length := by
  unfold keyB; rw [h]; simp
/-- find_among_b -/
theorem find_b_ok {d : Nat} {T : List Ent} {c l : Nat} {W : List Nat} {lm x y p q r : Int} {Q : AV → List AV → Prop} (O : TOK T (keyB T)) (hz : ∀ e ∈ T, e.s.length ≤ 1048576) (hl : l ≤ c) (hc : c ≤ W.length)
    (hyes : ∀ m e, T[m]? = some e → Best T (keyB T) ((W.take c).drop l).reverse m → Q (.int e.res) (FS W ((c : Int) - e.s.length) lm l x y p q r))
    (hno : NoKey T (keyB T) ((W.take c).drop l).reverse → Q (.int 0) (FS W c lm l x y p q r)) : PCt (d + 1) 8 [.self, .tab T] (FS W c lm l x y p q r) Q := by
  refine pcu ⟨2, 18, b_find_among_b⟩ rfl rfl rfl ?_
  simp only
  rw [bfb_eq]
  generalize hC : PC tabs prog natF d = C
  have main := outer_ok (C := C) (T := T) (c := c) (l := l) (f := for_b) (K := keyB T) (t := ((W.take c).drop l).reverse) (fs := FS W c lm l x y p q r) (Q := seqK (endK Q) (wS tabs C (CS.seq (CS.whl (CE.bool true) (links .Sub)) (CS.seq (CS.ret (CE.neg (CE.int 1))) (CS.skip))) (endK Q))) O
    (fun i j ci cj fl k e n i2 Q he hn h => by
      have hk : keyB T k = e.s.reverse := by unfold keyB; rw [he]
      rw [hk] at hn h
      have n1 : n ≤ e.s.length := by have := Nat.le_trans hn (lcp_le_r _ _); simpa using this
      have n2 : n ≤ c - l := by have := Nat.le_trans hn (lcp_le_l _ _); simp at this; omega
      obtain ⟨c1, c2⟩ := cmp_from hn
      refine for_b_ok (hz e (List.mem_of_getElem? he)) hl hc n1 n2 fun i2 => ?_
      rw [c1]
      exact h i2 _ c2)
    (fun i j ci cj fl w i2 k df cm hE => by
      have L := links_ok (C := C) (T := T) (c := c) (l := l) (W := W) (lm := lm) (b := l) (x := x) (y := y) (p := p) (q := q) (r := r) (K := keyB T) (t := ((W.take c).drop l).reverse) (op := .Sub) (mv := fun n => (c : Int) - n)
        (Q := seqK (endK Q) (wS tabs C (CS.seq (CS.ret (CE.neg (CE.int 1))) (CS.skip)) (endK Q))) O (fun k e h => keyB_len h) (fun n => rfl) (fun m e loc h B => hyes m e h B) (fun loc h => hno h) T.length i j ci cj fl k df cm w i2 (.start O hE) hE.1
      exact ⟨T.length, L⟩)
  have M := main (T.length + 1) 0 T.length 0 0 false none none none none none (SI.start O) (by simp)
  have ol := olent T O.lim
  have W2 : wS tabs C (CS.seq (CS.whl (CE.bool true) (head_b for_b)) (CS.seq (CS.whl (CE.bool true) (links .Sub)) (CS.seq (CS.ret (CE.neg (CE.int 1))) (CS.skip)))) (endK Q) ⟨lb T 0 T.length c l 0 0 false none none none none none, FS W c lm l x y p q r⟩ := ⟨_, M⟩
  exact g_a2 rfl (g_a3 (u := .int (T.length : Nat)) ol (g_a4 rfl (g_a5 rfl (g_a6 rfl (g_a7 rfl (g_a8 rfl W2))))))
end Sp.Pu
end
section
set_option linter.all false
set_option maxRecDepth 100000
set_option maxHeartbeats 1000000
namespace Sp.Pu
noncomputable def pwB : List (List Nat) → Bool
  | [] => true
  | a :: r => r.all (fun b => ltL a b) && pwB r
theorem pwB_of : ∀ {l : List (List Nat)}, pwB l = true → ∀ (i j : Nat) (a b : List Nat), i < j → l[i]? = some a → l[j]? = some b → ltL a b = true
  | [], _, i, j, a, b, _, h, _ => by cases h
  | x :: r, h, 0, j + 1, a, b, _, h1, h2 => by
    cases h1
    exact List.all_eq_true.mp (Bool.and_eq_true_iff.mp h).1 b (List.mem_of_getElem? h2)
  | x :: r, h, i + 1, j + 1, a, b, hij, h1, h2 => pwB_of (Bool.and_eq_true_iff.mp h).2 i j a b (by omega) h1 h2
  | x :: r, h, i, 0, a, b, hij, _, _ => by omega
noncomputable def subB (ks : List (List Nat)) (i : Nat) (e : Ent) : Bool := match e.sub with
  | .negSucc _ => (ks.zipIdx).all fun p => !(p.1.isPrefixOf (ks.getD i [])) || p.2 == i
  | .ofNat m => decide (m < i) && (ks.getD m []).isPrefixOf (ks.getD i []) && (ks.zipIdx).all fun p => p.2 == i || !(p.1.isPrefixOf (ks.getD i [])) || p.1.isPrefixOf (ks.getD m [])
/-- a table in order, by reckoning -/
noncomputable def tokC (f : Ent → List Nat) (T : List Ent) : Bool := decide (0 < T.length) && decide (T.length ≤ 1000) && pwB (T.map f) && (T.zipIdx).all fun p => subB (T.map f) p.2 p.1
noncomputable def keyF (f : Ent → List Nat) (T : List Ent) (i : Nat) : List Nat := match T[i]? with
  | some e => f e
  | none => []
theorem keyF_get {f : Ent → List Nat} {T : List Ent} {i : Nat} (h : i < T.length) : (T.map f)[i]? = some (keyF f T i) := by
  unfold keyF
  rw [List.getElem?_map, List.getElem?_eq_getElem h]; rfl
theorem keyF_getD {f : Ent → List Nat} {T : List Ent} {i : Nat} (h : i < T.length) : (T.map f).getD i [] = keyF f T i := by
  rw [List.getD_eq_getElem?_getD, keyF_get h]; rfl
theorem mem_zip {α : Type} {l : List α} {i : Nat} {a : α} (h : l[i]? = some a) : (a, i) ∈ l.zipIdx := by
  rw [List.mem_zipIdx_iff_getElem?]; exact h
theorem tok_of {f : Ent → List Nat} {T : List Ent} (h : tokC f T = true) : TOK T (keyF f T) := by
  unfold tokC at h
  simp only [Bool.and_eq_true, decide_eq_true_eq] at h
  obtain ⟨⟨⟨h1, h2⟩, h3⟩, h4⟩ := h
  refine ⟨h1, Nat.le_trans h2 (by decide), fun i j hij hj => pwB_of h3 i j _ _ hij (keyF_get (by omega)) (keyF_get hj), fun i e he => ?_⟩
  have hi : i < T.length := (List.getElem?_eq_some_iff.mp he).1
  have q := List.all_eq_true.mp h4 (e, i) (mem_zip he)
  unfold subB at q
  simp only at q
  split at q
  · rename_i n hs
    left
    refine ⟨by rw [hs]; exact Int.negSucc_lt_zero n, fun j hj hp => ?_⟩
    have := List.all_eq_true.mp q (keyF f T j, j) (mem_zip (keyF_get hj))
    simp only [Bool.or_eq_true, Bool.not_eq_true', beq_iff_eq] at this
    rcases this with a | a
    · rw [keyF_getD hi] at a
      rw [List.isPrefixOf_iff_prefix.mpr hp] at a; cases a
    · exact a
  · rename_i m hs
    right
    simp only [Bool.and_eq_true, decide_eq_true_eq] at q
    obtain ⟨⟨q1, q2⟩, q3⟩ := q
    have hm : m < T.length := by omega
    rw [keyF_getD hi, keyF_getD hm] at q2
    refine ⟨m, hs, q1, List.isPrefixOf_iff_prefix.mp q2, fun j hj hne hp => ?_⟩
    have := List.all_eq_true.mp q3 (keyF f T j, j) (mem_zip (keyF_get hj))
    simp only [Bool.or_eq_true, Bool.not_eq_true', beq_iff_eq] at this
    rw [keyF_getD hi, keyF_getD hm] at this
    rcases this with (a | a) | a
    · exact (hne a).elim
    · rw [List.isPrefixOf_iff_prefix.mpr hp] at a; cases a
    · exact List.isPrefixOf_iff_prefix.mp a
theorem keyB_F (T : List Ent) : keyB T = keyF (fun e => e.s.reverse) T := rfl
/-- the longest ending in the list -/
noncomputable def lngN (L : List (List Nat)) (t : List Nat) : Nat → List Nat
  | 0 => []
  | n + 1 => if t.drop (t.length - (n + 1)) ∈ L then t.drop (t.length - (n + 1)) else lngN L t n
noncomputable def lng (L : List (List Nat)) (t : List Nat) : List Nat := lngN L t (min t.length 8)
theorem suf_drop {s t : List Nat} : s <:+ t ↔ s.length ≤ t.length ∧ t.drop (t.length - s.length) = s := by
  constructor
  · rintro ⟨r, rfl⟩
    refine ⟨by simp, ?_⟩
    simp
  · rintro ⟨h, e⟩
    rw [← e]; exact List.drop_suffix _ _
theorem lngN_found {L : List (List Nat)} {t s : List Nat} (hs : s ∈ L) (hp : s <:+ t) (hn : s ≠ []) (hm : ∀ r ∈ L, r <:+ t → r.length ≤ s.length) : ∀ n, s.length ≤ n → n ≤ t.length → lngN L t n = s
  | 0, h, _ => (hn (List.eq_nil_of_length_eq_zero (by omega))).elim
  | n + 1, h, ht => by
    unfold lngN
    obtain ⟨e1, e2⟩ := suf_drop.mp hp
    by_cases z : s.length = n + 1
    · rw [← z, e2, if_pos hs]
    · rw [if_neg, lngN_found hs hp hn hm n (by omega) (by omega)]
      intro q
      have := hm _ q (List.drop_suffix _ _)
      rw [List.length_drop] at this
      omega
theorem lng_found {L : List (List Nat)} {t s : List Nat} (hs : s ∈ L) (hp : s <:+ t) (hn : s ≠ []) (h8 : s.length ≤ 8) (hm : ∀ r ∈ L, r <:+ t → r.length ≤ s.length) : lng L t = s :=
  lngN_found hs hp hn hm _ (by have := (suf_drop.mp hp).1; omega) (by omega)
theorem lngN_none {L : List (List Nat)} {t : List Nat} (h : ∀ s ∈ L, s <:+ t → s = []) : ∀ n, n ≤ t.length → lngN L t n = []
  | 0, _ => rfl
  | n + 1, hn => by
    unfold lngN
    rw [if_neg, lngN_none h n (by omega)]
    intro q
    have := h _ q (List.drop_suffix _ _)
    have := congrArg List.length this
    rw [List.length_drop] at this
    simp at this
    omega
theorem lng_none {L : List (List Nat)} {t : List Nat} (h : ∀ s ∈ L, s <:+ t → s = []) : lng L t = [] := lngN_none h _ (by omega)
theorem lngN_spec {L : List (List Nat)} {t : List Nat} : ∀ n, n ≤ t.length → (lngN L t n = [] ∨ (lngN L t n ∈ L ∧ lngN L t n <:+ t)) ∧ (lngN L t n).length ≤ n
  | 0, _ => ⟨.inl rfl, Nat.le_refl _⟩
  | n + 1, hn => by
    unfold lngN
    split
    · rename_i h
      exact ⟨.inr ⟨h, List.drop_suffix _ _⟩, by rw [List.length_drop]; omega⟩
    · have := lngN_spec (L := L) (t := t) n (by omega)
      exact ⟨this.1, by omega⟩
theorem lng_spec (L : List (List Nat)) (t : List Nat) : lng L t = [] ∨ (lng L t ∈ L ∧ lng L t <:+ t) := (lngN_spec _ (by omega)).1
theorem lng_le (L : List (List Nat)) (t : List Nat) : (lng L t).length ≤ t.length := by
  have := (lngN_spec (L := L) (t := t) (min t.length 8) (by omega)).2
  unfold lng; omega
theorem lngN_congr {L L' : List (List Nat)} (h : ∀ s, s ∈ L ↔ s ∈ L') (t : List Nat) : ∀ n, lngN L t n = lngN L' t n
  | 0 => rfl
  | n + 1 => by unfold lngN; rw [lngN_congr h t n]; simp only [h]
theorem lng_congr {L L' : List (List Nat)} (h : ∀ s, s ∈ L ↔ s ∈ L') (t : List Nat) : lng L t = lng L' t := lngN_congr h t _
noncomputable def sameB (L L' : List (List Nat)) : Bool := L.all (fun s => L'.contains s) && L'.all (fun s => L.contains s)
theorem same_of {L L' : List (List Nat)} (h : sameB L L' = true) : ∀ s, s ∈ L ↔ s ∈ L' := fun s => by
  obtain ⟨a, b⟩ := Bool.and_eq_true_iff.mp h
  exact ⟨fun q => List.contains_iff_mem.mp (List.all_eq_true.mp a s q), fun q => List.contains_iff_mem.mp (List.all_eq_true.mp b s q)⟩
/-- a table for looking backwards -/
noncomputable def goodB (T : List Ent) : Bool := tokC (fun e => e.s.reverse) T && T.all fun e => decide (0 < e.s.length) && decide (e.s.length ≤ 8)
theorem find_lng {d : Nat} {T : List Ent} {c l : Nat} {W : List Nat} {lm x y p q r : Int} {Q : AV → List AV → Prop} (G : goodB T = true) (hl : l ≤ c) (hc : c ≤ W.length)
    (hyes : ∀ e ∈ T, lng (T.map (·.s)) ((W.take c).drop l) = e.s → e.s ≠ [] → e.s <:+ (W.take c).drop l → Q (.int e.res) (FS W ((c - e.s.length : Nat) : Int) lm l x y p q r))
    (hno : lng (T.map (·.s)) ((W.take c).drop l) = [] → (∀ e ∈ T, ¬ e.s <:+ (W.take c).drop l) → Q (.int 0) (FS W c lm l x y p q r)) : PCt (d + 1) 8 [.self, .tab T] (FS W c lm l x y p q r) Q := by
  obtain ⟨G1, G2⟩ := Bool.and_eq_true_iff.mp G
  have hle : ∀ e ∈ T, 0 < e.s.length ∧ e.s.length ≤ 8 := fun e he => by
    have := List.all_eq_true.mp G2 e he
    simpa using this
  have O : TOK T (keyB T) := tok_of G1
  refine find_b_ok O (fun e he => Nat.le_trans (hle e he).2 (by decide)) hl hc (fun m e he B => ?_) fun N => ?_
  · have hem : e ∈ T := List.mem_of_getElem? he
    obtain ⟨a, b⟩ := hle e hem
    have hk : keyB T m = e.s.reverse := by unfold keyB; rw [he]
    have suf : e.s <:+ (W.take c).drop l := List.reverse_prefix.mp (hk ▸ B.2.1)
    have hlen : e.s.length ≤ c - l := by
      have := (suf_drop.mp suf).1
      simp at this
      omega
    have ne : e.s ≠ [] := by intro z; rw [z] at a; simp at a
    have cast : ((c : Int) - (e.s.length : Int)) = ((c - e.s.length : Nat) : Int) := by omega
    rw [cast]
    refine hyes e hem (lng_found (List.mem_map.mpr ⟨e, hem, rfl⟩) suf ne b fun s hs hp => ?_) ne suf
    obtain ⟨e', he', rfl⟩ := List.mem_map.mp hs
    obtain ⟨m', hm'⟩ := List.getElem?_of_mem he'
    have hk' : keyB T m' = e'.s.reverse := by unfold keyB; rw [hm']
    have := (B.2.2 m' (List.getElem?_eq_some_iff.mp hm').1 (by rw [hk']; exact List.reverse_prefix.mpr hp)).length_le
    rw [hk, hk'] at this
    simpa using this
  · have no : ∀ e ∈ T, ¬ e.s <:+ (W.take c).drop l := fun e he hp => by
      obtain ⟨m', hm'⟩ := List.getElem?_of_mem he
      have hk' : keyB T m' = e.s.reverse := by unfold keyB; rw [hm']
      exact N m' (List.getElem?_eq_some_iff.mp hm').1 (by rw [hk']; exact List.reverse_prefix.mpr hp)
    refine hno (lng_none fun s hs hp => ?_) no
    obtain ⟨e', he', rfl⟩ := List.mem_map.mp hs
    exact (no e' he' hp).elim
theorem good_1 : goodB t_1 = true := by decide +kernel
theorem good_2 : goodB t_2 = true := by decide +kernel
theorem good_3 : goodB t_3 = true := by decide +kernel
theorem good_4 : goodB t_4 = true := by decide +kernel
theorem good_5 : goodB t_5 = true := by decide +kernel
theorem good_6 : goodB t_6 = true := by decide +kernel
theorem good_7 : goodB t_7 = true := by decide +kernel
theorem good_8 : goodB t_8 = true := by decide +kernel
theorem good_9 : goodB t_9 = true := by decide +kernel
end Sp.Pu
end
section
set_option linter.all false
set_option maxRecDepth 100000
set_option maxHeartbeats 1000000
namespace Sp.Pu
open PySem (Operator CmpOp)
/-- is it a vowel -/
noncomputable def isV (c : Nat) : Bool := decide ([c] ∈ gvL)
noncomputable def nxL (b : Bool) : List Bool → Nat → Option Nat
  | [], _ => none
  | a :: r, n => if a = b then some n else nxL b r (n + 1)
noncomputable def nx (b : Bool) (s : List Bool) (c : Nat) : Option Nat := nxL b (s.drop c) c
section
variable {d c : Nat} {W : List Nat} {l x y p q r : Int} {Q : AV → List AV → Prop}
theorem in_grp (hc : c ≤ W.length) (h : Q (.bool (decide ((W.map isV)[c]? = some true))) (FS W ((if (W.map isV)[c]? = some true then c + 1 else c : Nat) : Int) W.length l x y p q r)) :
    PCt (d + 1) 2 [.self, .gv] (FS W c W.length l x y p q r) Q := by
  refine pcu ⟨2, 2, b_in_grouping⟩ rfl rfl rfl ?_
  refine g_ifs (P := ((W.length : Nat) : Int) ≤ (c : Int)) rfl rfl (fun z => ?_) (fun z => ?_)
  · have e0 : (W.map isV)[c]? = none := by rw [List.getElem?_eq_none_iff, List.length_map]; omega
    rw [e0] at h
    exact g_ret rfl h
  · have hlt : c < W.length := by omega
    have i1 := oidx W c W[c] (List.getElem?_eq_getElem hlt)
    have e0 : (W.map isV)[c]? = some (isV W[c]) := by rw [List.getElem?_map, List.getElem?_eq_getElem hlt]; rfl
    rw [e0] at h
    refine g_ifs (P := [W[c]] ∉ gvL) rfl (ev_cmp (ev_idx rfl rfl i1) rfl rfl) (fun v => ?_) (fun v => ?_)
    · have v' : isV W[c] = false := decide_eq_false v
      rw [v'] at h
      exact g_ret rfl h
    · have v' : isV W[c] = true := decide_eq_true (Decidable.not_not.mp v)
      rw [v'] at h
      exact g_add rfl (g_ret rfl h)
theorem out_grp (hc : c ≤ W.length) (h : Q (.bool (decide ((W.map isV)[c]? = some false))) (FS W ((if (W.map isV)[c]? = some false then c + 1 else c : Nat) : Int) W.length l x y p q r)) :
    PCt (d + 1) 4 [.self, .gv] (FS W c W.length l x y p q r) Q := by
  refine pcu ⟨2, 2, b_out_grouping⟩ rfl rfl rfl ?_
  refine g_ifs (P := ((W.length : Nat) : Int) ≤ (c : Int)) rfl rfl (fun z => ?_) (fun z => ?_)
  · have e0 : (W.map isV)[c]? = none := by rw [List.getElem?_eq_none_iff, List.length_map]; omega
    rw [e0] at h
    exact g_ret rfl h
  · have hlt : c < W.length := by omega
    have i1 := oidx W c W[c] (List.getElem?_eq_getElem hlt)
    have e0 : (W.map isV)[c]? = some (isV W[c]) := by rw [List.getElem?_map, List.getElem?_eq_getElem hlt]; rfl
    rw [e0] at h
    refine g_ifs (P := [W[c]] ∉ gvL) rfl (ev_cmp (ev_idx rfl rfl i1) rfl rfl) (fun v => ?_) (fun v => ?_)
    · have v' : isV W[c] = false := decide_eq_false v
      rw [v'] at h
      exact g_add rfl (g_ret rfl h)
    · have v' : isV W[c] = true := decide_eq_true (Decidable.not_not.mp v)
      rw [v'] at h
      exact g_ret rfl h
noncomputable def goBody (op : CmpOp) : CS := (CS.seq (CS.ite (CE.cmp op (CE.idx (CE.fld (CE.var 0) 0) (CE.fld (CE.var 0) 1)) (CE.var 1)) (CS.seq (CS.ret (CE.bool true)) (CS.skip)) (CS.skip)) (CS.seq (CS.augf (CE.var 0) 1 (Operator.Add) (CE.int 1)) (CS.skip)))
noncomputable def stepG (C : Nat → List AV → List AV → (AV → List AV → Prop) → Prop) (op : CmpOp) (Q : Fl → S → Prop) : (S → Prop) → S → Prop := fun again σ => wT tabs C (CE.cmp (CmpOp.Lt) (CE.fld (CE.var 0) 1) (CE.fld (CE.var 0) 2)) (fun t σ => (t = true → wS tabs C (goBody op) (loopK Q again) σ) ∧ (t = false → Q .next σ)) σ
theorem go_loop {C : Nat → List AV → List AV → (AV → List AV → Prop) → Prop} {op : CmpOp} {b : Bool} {Q : Fl → S → Prop} (hop : ∀ a, opCmp op (.str [a]) .gv = some (decide (isV a = b))) : ∀ (m c : Nat), c + m = W.length →
    (∀ n, nx b (W.map isV) c = some n → n < W.length → Q (.ret (.bool true)) ⟨[some .self, some .gv], FS W n W.length l x y p q r⟩) →
    (nx b (W.map isV) c = none → Q .next ⟨[some .self, some .gv], FS W W.length W.length l x y p q r⟩) →
    iterW (stepG C op Q) (m + 1) ⟨[some .self, some .gv], FS W c W.length l x y p q r⟩
  | 0, c, hm, h1, h2 => by
    show stepG C op Q (iterW (stepG C op Q) 0) _
    generalize iterW (stepG C op Q) 0 = ag
    have z : c = W.length := by omega
    subst z
    have h2 := h2 (by unfold nx; rw [List.drop_eq_nil_of_le (by simp)]; rfl)
    exact tv_ok (t := false) rfl (ev_cmp rfl rfl (congrArg some (decide_eq_false (Int.lt_irrefl _)))) ⟨(fun z => by cases z), fun _ => h2⟩
  | m + 1, c, hm, h1, h2 => by
    show stepG C op Q (iterW (stepG C op Q) (m + 1)) _
    have IH := go_loop (C := C) (Q := Q) hop m (c + 1) (by omega)
    generalize iterW (stepG C op Q) (m + 1) = ag at IH ⊢
    have hlt : c < W.length := by omega
    have i1 := oidx W c W[c] (List.getElem?_eq_getElem hlt)
    have z' : (c : Int) < ((W.length : Nat) : Int) := by omega
    have hop := hop W[c]
    have e : nx b (W.map isV) c = if isV W[c] = b then some c else nx b (W.map isV) (c + 1) := by
      unfold nx
      rw [List.drop_eq_getElem_cons (by simpa using hlt)]
      simp [nxL]
    refine tv_ok (t := true) rfl (ev_cmp rfl rfl (congrArg some (decide_eq_true z'))) ⟨fun _ => ?_, fun z => by cases z⟩
    unfold goBody
    by_cases v : isV W[c] = b
    · rw [if_pos v] at e
      rw [decide_eq_true v] at hop
      exact g_t rfl (ev_cmp (ev_idx rfl rfl i1) rfl hop) (g_ret rfl (h1 c e hlt))
    · rw [if_neg v] at e
      rw [e] at h1 h2
      rw [decide_eq_false v] at hop
      exact g_fs rfl (ev_cmp (ev_idx rfl rfl i1) rfl hop) (g_add rfl (IH h1 h2))
theorem go_in_ok (hc : c ≤ W.length) (h1 : ∀ n, nx false (W.map isV) c = some n → n < W.length → Q (.bool true) (FS W n W.length l x y p q r)) (h2 : nx false (W.map isV) c = none → Q (.bool false) (FS W W.length W.length l x y p q r)) :
    PCt (d + 1) 3 [.self, .gv] (FS W c W.length l x y p q r) Q := by
  refine pcu ⟨2, 2, b_go_in_grouping⟩ rfl rfl rfl ?_
  show wS tabs (PCt d) (CS.seq (CS.whl _ (goBody .NotIn)) (CS.seq (CS.ret (CE.bool false)) CS.skip)) _ _
  exact ⟨W.length - c + 1, go_loop (b := false) (fun a => by rw [oc_ning]; unfold isV; simp) (W.length - c) c (by omega) h1 h2⟩
theorem go_out_ok (hc : c ≤ W.length) (h1 : ∀ n, nx true (W.map isV) c = some n → n < W.length → Q (.bool true) (FS W n W.length l x y p q r)) (h2 : nx true (W.map isV) c = none → Q (.bool false) (FS W W.length W.length l x y p q r)) :
    PCt (d + 1) 5 [.self, .gv] (FS W c W.length l x y p q r) Q := by
  refine pcu ⟨2, 2, b_go_out_grouping⟩ rfl rfl rfl ?_
  show wS tabs (PCt d) (CS.seq (CS.whl _ (goBody .In)) (CS.seq (CS.ret (CE.bool false)) CS.skip)) _ _
  exact ⟨W.length - c + 1, go_loop (b := true) (fun a => by rw [oc_ing]; unfold isV; simp) (W.length - c) c (by omega) h1 h2⟩
theorem rv_ok {c lm : Int} (h : Q (.bool (decide (p ≤ c))) (FS W c lm l x y p q r)) : PCt (d + 1) 15 [.self] (FS W c lm l x y p q r) Q := by
  refine pcu ⟨1, 1, b_r_RV⟩ rfl rfl rfl ?_
  exact g_ret rfl h
theorem r2_ok {c lm : Int} (h : Q (.bool (decide (r ≤ c))) (FS W c lm l x y p q r)) : PCt (d + 1) 16 [.self] (FS W c lm l x y p q r) Q := by
  refine pcu ⟨1, 1, b_r_R2⟩ rfl rfl rfl ?_
  exact g_ret rfl h
theorem loN (m : Nat) (h : m ≤ 1048576) : loOf (.int (m : Int)) = some m := by
  show (if 0 ≤ (m : Int) ∧ (m : Int) ≤ 1048576 then some (m : Int).toNat else none) = _; rw [if_pos (by omega)]; simp
theorem hiN (l m : Nat) (h : m ≤ 1048576) : hiOf l (.int (m : Int)) = some m := by
  show (if 0 ≤ (m : Int) ∧ (m : Int) ≤ 1048576 then some (m : Int).toNat else none) = _; rw [if_pos (by omega)]; simp
theorem osl (l : List Nat) (a b : Int) (m n : Nat) (ha : a = m) (hb : b = n) (h1 : m ≤ 1048576) (h2 : n ≤ 1048576) : opSlice (.str l) (.int a) (.int b) = some (.str ((l.take n).drop m)) := by
  subst ha hb
  show (loOf _).bind (fun x => (hiOf l.length _).map fun y => AV.str ((l.take y).drop x)) = _
  rw [loN m h1, hiN _ n h2]; rfl
theorem oslh (l : List Nat) (b : Int) (n : Nat) (hb : b = n) (h2 : n ≤ 1048576) : opSlice (.str l) .none (.int b) = some (.str (l.take n)) := by
  subst hb
  show (hiOf l.length _).map (fun y => AV.str ((l.take y).drop 0)) = _
  rw [hiN _ n h2]; rfl
theorem osll (l : List Nat) (a : Int) (m : Nat) (ha : a = m) (h1 : m ≤ 1048576) : opSlice (.str l) (.int a) .none = some (.str (l.drop m)) := by
  subst ha
  show (loOf _).bind (fun x => some (AV.str ((l.take l.length).drop x))) = _
  rw [loN m h1]
  show some (AV.str ((l.take l.length).drop m)) = _
  rw [List.take_length]
/-- eq_s_b when the limit backwards is 0 and all is before the cursor -/
theorem eqsb_ok {s : List Nat} {ci lm : Int} (hl : W.length ≤ 1048576) (hc : ci = W.length) (hT : s <:+ W → Q (.bool true) (FS W ((W.length - s.length : Nat) : Int) lm 0 x y p q r)) (hF : ¬ s <:+ W → Q (.bool false) (FS W W.length lm 0 x y p q r)) :
    PCt (d + 1) 6 [.self, .str s] (FS W ci lm 0 x y p q r) Q := by
  subst hc
  refine pcu ⟨2, 3, b_eq_s_b⟩ rfl rfl rfl ?_
  have e := osl W 0 (W.length : Nat) 0 W.length rfl rfl (by decide) hl
  simp only [List.take_length, List.drop_zero] at e
  refine g_ifs rfl (ev_ends (ev_slice rfl rfl rfl e) rfl) (fun z => ?_) (fun z => g_ret rfl (hF z))
  have hs := z.length_le
  have c2 : ((W.length : Nat) : Int) - ((s.length : Nat) : Int) = ((W.length - s.length : Nat) : Int) := by omega
  have hT := hT z
  rw [← c2] at hT
  exact g_sub rfl (g_ret rfl hT)
/-- replace_s from b to the end -/
theorem repl_end {s : List Nat} {ci lmi bi ki : Int} {b : Nat} (hl : W.length ≤ 1000) (hs : s.length ≤ 1000) (hb : bi = b) (hk : ki = W.length) (hm : lmi = W.length) (hlt : b < W.length) (hc : ci ≤ bi)
    (h : ∀ v : Int, Q (.int v) (FS (W.take b ++ s) ci ((W.take b ++ s).length : Nat) l x y p q r)) : PCt (d + 1) 9 [.self, .int bi, .int ki, .str s] (FS W ci lmi l x y p q r) Q := by
  subst hb hk hm
  refine pcu ⟨4, 6, b_replace_s⟩ rfl rfl rfl ?_
  have e1 := osl W 0 b 0 b rfl rfl (by decide) (by omega)
  have e2 := osll W (W.length : Nat) W.length rfl (by omega)
  simp only [List.drop_zero, List.drop_length] at e1 e2
  have h := h (s.length - (W.length - b))
  have c2 : ((W.length : Nat) : Int) + ((s.length : Nat) - ((W.length : Nat) - (b : Int))) = (((W.take b ++ s).length : Nat) : Int) := by simp; omega
  have c3 : ¬ ((W.length : Nat) : Int) ≤ ci := by omega
  have c4 : ¬ ((b : Nat) : Int) < ci := by omega
  have c5 : (W.take b).length + s.length ≤ lim := by simp; unfold lim; omega
  have c6 : (W.take b ++ s).length + ([] : List Nat).length ≤ lim := by simp; unfold lim; omega
  rw [← c2, ← List.append_nil (W.take b ++ s)] at h
  exact g_a4 rfl (g_f0 (ev_bin (ev_bin (ev_slice rfl rfl rfl e1) rfl ((ob_sadd _ _).trans (if_pos c5))) (ev_slice rfl rfl rfl e2) ((ob_sadd _ _).trans (if_pos c6))) (g_add2 rfl
    (g_if rfl rfl (fun z => (c3 z).elim) fun _ => g_ifs rfl rfl (fun z => (c4 z).elim) fun _ => sk (g_ret rfl h))))
theorem repl_mid {s : Nat} {ci lmi bi : Int} {b : Nat} (hl : W.length ≤ 1000) (hb : bi = b) (hm : lmi = W.length) (hlt : b < W.length) (hc : ci = b + 1)
    (h : ∀ v : Int, Q (.int v) (FS (W.take b ++ s :: W.drop (b + 1)) ci lmi l x y p q r)) : PCt (d + 1) 9 [.self, .int bi, .int ci, .str [s]] (FS W ci lmi l x y p q r) Q := by
  subst hb hm hc
  refine pcu ⟨4, 6, b_replace_s⟩ rfl rfl rfl ?_
  have e1 := osl W 0 b 0 b rfl rfl (by decide) (by omega)
  have e2 := osll W ((b : Int) + 1) (b + 1) (by omega) (by omega)
  simp only [List.drop_zero] at e1
  have h := h 0
  have c1 : (1 : Int) - ((b : Int) + 1 - b) = 0 := by omega
  have c5 : (W.take b).length + [s].length ≤ lim := by simp; unfold lim; omega
  have c6 : (W.take b ++ [s]).length + (W.drop (b + 1)).length ≤ lim := by simp; unfold lim; omega
  have h0 : Q (.int 0) (FS (W.take b ++ [s] ++ W.drop (b + 1)) ((b : Int) + 1 + 0) (((W.length : Nat) : Int) + 0) l x y p q r) := by
    rw [Int.add_zero, Int.add_zero, ← List.append_cons]; exact h
  exact g_a4 (u := .int 0) (congrArg (fun i => some (AV.int i)) c1) (g_f0 (ev_bin (ev_bin (ev_slice rfl rfl rfl e1) rfl ((ob_sadd _ _).trans (if_pos c5))) (ev_slice rfl rfl rfl e2) ((ob_sadd _ _).trans (if_pos c6))) (g_add2 rfl
    (g_if rfl rfl (fun _ => g_add rfl (sk (g_ret rfl h0))) fun z => (z (Int.le_refl _)).elim)))
end
end Sp.Pu
end
section
set_option linter.all false
set_option maxRecDepth 100000
set_option maxHeartbeats 1000000
namespace Sp.Pu
open PySem (Operator CmpOp)
section
variable {d c : Nat} {W : List Nat} {l p q r : Int} {Q : AV → List AV → Prop}
theorem slice_end {s : List Nat} {ci lmi bi ki : Int} {b : Nat} (hl : W.length ≤ 1000) (hs : s.length ≤ 1000) (hb : bi = b) (hk : ki = W.length) (hm : lmi = W.length) (hlt : b < W.length) (hc : ci ≤ bi)
    (h : Q .none (FS (W.take b ++ s) ci ((W.take b ++ s).length : Nat) l bi (bi + s.length) p q r)) : PCt (d + 2) 10 [.self, .str s] (FS W ci lmi l bi ki p q r) Q := by
  refine pcu ⟨2, 3, b_slice_from⟩ rfl rfl rfl ?_
  have a1 : 0 ≤ bi := by omega
  have a2 : bi ≤ ki := by omega
  have a3 : ki ≤ lmi := by omega
  have a4 : lmi ≤ ((W.length : Nat) : Int) := by omega
  refine g_ass rfl (ev_cmp rfl rfl (congrArg some (decide_eq_true a1))) (g_ass rfl (ev_cmp rfl rfl (congrArg some (decide_eq_true a2))) (g_ass rfl (ev_cmp rfl rfl (congrArg some (decide_eq_true a3))) (g_ass rfl (ev_cmp rfl rfl (congrArg some (decide_eq_true a4))) ?_)))
  refine sq2 fun R hR => ⟨rfl, _, rfl, _, rfl, _, rfl, _, rfl, _, rfl, repl_end (x := bi) (y := ki) hl hs hb hk hm hlt hc (fun v => ⟨rfl, ?_⟩)⟩
  subst hR
  exact g_f5 rfl h
theorem slice_mid {s : Nat} {ci lmi bi : Int} {b : Nat} (hl : W.length ≤ 1000) (hb : bi = b) (hm : lmi = W.length) (hlt : b < W.length) (hc : ci = b + 1)
    (h : Q .none (FS (W.take b ++ s :: W.drop (b + 1)) ci lmi l bi (bi + 1) p q r)) : PCt (d + 2) 10 [.self, .str [s]] (FS W ci lmi l bi ci p q r) Q := by
  refine pcu ⟨2, 3, b_slice_from⟩ rfl rfl rfl ?_
  have a1 : 0 ≤ bi := by omega
  have a2 : bi ≤ ci := by omega
  have a3 : ci ≤ lmi := by omega
  have a4 : lmi ≤ ((W.length : Nat) : Int) := by omega
  refine g_ass rfl (ev_cmp rfl rfl (congrArg some (decide_eq_true a1))) (g_ass rfl (ev_cmp rfl rfl (congrArg some (decide_eq_true a2))) (g_ass rfl (ev_cmp rfl rfl (congrArg some (decide_eq_true a3))) (g_ass rfl (ev_cmp rfl rfl (congrArg some (decide_eq_true a4))) ?_)))
  refine sq2 fun R hR => ⟨rfl, _, rfl, _, rfl, _, rfl, _, rfl, _, rfl, repl_mid (x := bi) (y := ci) hl hb hm hlt hc (fun v => ⟨rfl, ?_⟩)⟩
  subst hR
  exact g_f5 rfl h
theorem slice_del {ci lmi bi ki : Int} {b : Nat} (hl : W.length ≤ 1000) (hb : bi = b) (hk : ki = W.length) (hm : lmi = W.length) (hlt : b < W.length) (hc : ci ≤ bi)
    (h : Q .none (FS (W.take b) ci ((W.take b).length : Nat) l bi bi p q r)) : PCt (d + 3) 11 [.self] (FS W ci lmi l bi ki p q r) Q := by
  refine pcu ⟨1, 1, b_slice_del⟩ rfl rfl rfl ?_
  have e : W.take b ++ [] = W.take b := List.append_nil _
  exact ⟨rfl, Nat.zero_le _, slice_end hl (by decide) hb hk hm hlt hc (by
    rw [e]
    show Q .none (FS (W.take b) ci ((W.take b).length : Nat) l bi (bi + 0) p q r)
    rw [Int.add_zero]; exact h)⟩
end
theorem good_lng {T : List Ent} {L : List (List Nat)} (h : sameB (T.map (·.s)) L = true) (t : List Nat) : lng (T.map (·.s)) t = lng L t := lng_congr (same_of h) t
/-- no one is an ending of another -/
noncomputable def antiB (L : List (List Nat)) : Bool := L.all fun a => decide (a ≠ []) && decide (a.length ≤ 8) && L.all fun b => a == b || !(a.isSuffixOf b)
theorem anti_of {L : List (List Nat)} (h : antiB L = true) {a b : List Nat} (ha : a ∈ L) (hb : b ∈ L) (hs : a <:+ b) : a = b := by
  have := List.all_eq_true.mp h a ha
  simp only [Bool.and_eq_true] at this
  have := List.all_eq_true.mp this.2 b hb
  rw [List.isSuffixOf_iff_suffix.mpr hs] at this
  simpa using this
theorem anti_ne {L : List (List Nat)} (h : antiB L = true) {a : List Nat} (ha : a ∈ L) : a ≠ [] ∧ a.length ≤ 8 := by
  have := List.all_eq_true.mp h a ha
  simp only [Bool.and_eq_true, decide_eq_true_eq] at this
  exact this.1
theorem suf_cut {s t : List Nat} {k : Nat} : s <:+ t.drop k ↔ s <:+ t ∧ s.length ≤ t.length - k := by
  constructor
  · intro h
    exact ⟨h.trans (List.drop_suffix _ _), by have := h.length_le; simpa using this⟩
  · rintro ⟨h, hk⟩
    refine suf_drop.mpr ⟨by simpa using hk, ?_⟩
    have := suf_drop.mp h
    rw [List.drop_drop, List.length_drop]
    by_cases z : s.length = 0
    · have : s = [] := List.eq_nil_of_length_eq_zero z
      subst this
      exact List.drop_eq_nil_of_le (by simp; omega)
    · rw [show k + (t.length - k - s.length) = t.length - s.length by omega]
      exact this.2
/-- with such a list, where one looks makes no difference but to the place -/
theorem lng_cut {L : List (List Nat)} (h : antiB L = true) (t : List Nat) (k : Nat) : lng L (t.drop k) = if (lng L t).length ≤ t.length - k then lng L t else [] := by
  rcases lng_spec L t with e | ⟨hm, hs⟩
  · rw [e]
    rw [if_pos (by simp)]
    refine lng_none fun s hs hp => ?_
    have hp' := hp.trans (List.drop_suffix _ _)
    have := lng_found hs hp' (anti_ne h hs).1 (anti_ne h hs).2 (fun r hr hrp => by
      rcases List.suffix_or_suffix_of_suffix hrp hp' with q | q
      · rw [anti_of h hr hs q]; exact Nat.le_refl _
      · rw [anti_of h hs hr q]; exact Nat.le_refl _)
    rw [e] at this; exact this.symm
  · split
    · rename_i hk
      exact lng_found hm (suf_cut.mpr ⟨hs, hk⟩) (anti_ne h hm).1 (anti_ne h hm).2 (fun r hr hrp => by
        rcases List.suffix_or_suffix_of_suffix (hrp.trans (List.drop_suffix _ _)) hs with q | q
        · rw [anti_of h hr hm q]; exact Nat.le_refl _
        · rw [anti_of h hm hr q]; exact Nat.le_refl _)
    · rename_i hk
      refine lng_none fun s hs2 hp => ?_
      exfalso
      obtain ⟨a, b⟩ := suf_cut.mp hp
      rcases List.suffix_or_suffix_of_suffix a hs with q | q
      · rw [anti_of h hs2 hm q] at b; exact hk b
      · rw [← anti_of h hm hs2 q] at b; exact hk b
end Sp.Pu
end
section
set_option linter.all false
set_option maxRecDepth 100000
set_option maxHeartbeats 1000000
namespace Sp.Pu
open PySem (Operator CmpOp)
theorem sq {T : Tabs} {C : Nat → List AV → List AV → (AV → List AV → Prop) → Prop} {a b : CS} {Q : Fl → S → Prop} {σ : S} : wS T C (.seq a b) Q σ = wS T C a (seqK Q (wS T C b Q)) σ := rfl
theorem tt_0 : tabs.tab 1 = some (.tab t_0) := rfl
theorem tt_1 : tabs.tab 2 = some (.tab t_1) := rfl
theorem tt_2 : tabs.tab 3 = some (.tab t_2) := rfl
theorem tt_3 : tabs.tab 4 = some (.tab t_3) := rfl
theorem tt_4 : tabs.tab 5 = some (.tab t_4) := rfl
theorem tt_5 : tabs.tab 6 = some (.tab t_5) := rfl
theorem tt_6 : tabs.tab 7 = some (.tab t_6) := rfl
theorem tt_7 : tabs.tab 8 = some (.tab t_7) := rfl
theorem tt_8 : tabs.tab 9 = some (.tab t_8) := rfl
theorem tt_9 : tabs.tab 10 = some (.tab t_9) := rfl
theorem tt_g : tabs.tab 0 = some .gv := rfl
theorem arA {a : Nat} : min (a - 1) a = a - 1 := Nat.min_eq_left (Nat.sub_le _ _)
theorem arB {a t : Nat} (h : a = t + 1) : (a : Int) - 1 = ((a - 1 : Nat) : Int) := by omega
theorem arC {a t : Nat} {w : Int} (h : a = t + 1) : w - (w - ((a : Int) - 1)) = ((a - 1 : Nat) : Int) := by rw [Int.sub_sub_self]; exact arB h
theorem arE {n k : Nat} : n - k - 1 ≤ n := Nat.le_trans (Nat.sub_le _ _) (Nat.sub_le _ _)
theorem arG {n k : Nat} (h : 0 < k) (h2 : k ≤ n) : n - k < n := Nat.sub_lt (Nat.lt_of_lt_of_le h h2) h
theorem snoc_suf {a b : Nat} {s t : List Nat} : s ++ [a] <:+ t ++ [b] ↔ a = b ∧ s <:+ t := by
  constructor
  · rintro ⟨r, h⟩
    rw [← List.append_assoc] at h
    obtain ⟨h1, h2⟩ := List.append_inj' h rfl
    exact ⟨by simpa using h2, ⟨r, h1⟩⟩
  · rintro ⟨rfl, r, rfl⟩
    exact ⟨r, by simp⟩
theorem gu_suf {a b : Nat} {t : List Nat} : [103, 117] <:+ t ++ [b] ++ [a] ↔ b = 103 ∧ a = 117 := by
  rw [show [103, 117] = [] ++ [103] ++ [117] from rfl, snoc_suf, snoc_suf]
  constructor
  · rintro ⟨h1, h2, _⟩; exact ⟨h2.symm, h1.symm⟩
  · rintro ⟨h1, h2⟩; exact ⟨h2.symm, h1.symm, List.nil_suffix⟩
theorem snoc_cases (w : List Nat) : w = [] ∨ ∃ t a, w = t ++ [a] := by
  rcases List.eq_nil_or_concat w with h | ⟨t, a, h⟩
  · exact .inl h
  · exact .inr ⟨t, a, by simpa using h⟩
theorem snoc_at (t : List Nat) (a : Nat) : (t ++ [a])[t.length]? = some a := by simp
theorem snoc_at2 (t : List Nat) (a b : Nat) : (t ++ [a] ++ [b])[t.length]? = some a := by simp
noncomputable def resL : List (List Nat) := [[111, 115], [97], [111], [225], [237], [243], [101], [233]]
noncomputable def resP (p : Nat) (W : List Nat) : List Nat :=
  let e := lng resL (W.drop p)
  let w := W.take (W.length - e.length)
  if (e = [101] ∨ e = [233]) ∧ [103, 117] <:+ w ∧ p ≤ w.length - 1 then w.take (w.length - 1) else w
theorem res_facts : (∀ e ∈ t_9, (e.res = 1 ∧ e.s ≠ [101] ∧ e.s ≠ [233]) ∨ (e.res = 2 ∧ (e.s = [101] ∨ e.s = [233]))) ∧ sameB (t_9.map (·.s)) resL = true ∧ antiB resL = true := by decide +kernel
section
variable {T : Tabs} {C : Nat → List AV → List AV → (AV → List AV → Prop) → Prop} {a b : CS} {σ : S} {Q : Fl → S → Prop}
theorem w_try {k : Nat} : wS T C (.tryS a k) Q σ = wS T C a (tryK Q k) σ := rfl
theorem w_ite {c : CE} : wS T C (.ite c a b) Q σ = wT T C c (fun t σ => (t = true → wS T C a Q σ) ∧ (t = false → wS T C b Q σ)) σ := rfl
theorem nz_2 : ∀ e ∈ t_2, e.res ≠ 0 := by decide +kernel
theorem nz_6 : ∀ e ∈ t_6, e.res ≠ 0 := by decide +kernel
theorem nz_8 : ∀ e ∈ t_8, e.res ≠ 0 := by decide +kernel
theorem nz_9 : ∀ e ∈ t_9, e.res ≠ 0 := by decide +kernel
theorem ite_eq {i : Nat} {n v : Int} (hg : σ.get i = some (.int v)) (h1 : v = n → wS T C a Q σ) (h2 : v ≠ n → wS T C b Q σ) : wS T C (.ite (.cmp .Eq (.var i) (.int n)) a b) Q σ := by
  rw [w_ite]
  refine ⟨_, hg, _, rfl, fun t => h1 (of_decide_eq_true t), fun t => h2 (of_decide_eq_false t)⟩
theorem ite_ne {i : Nat} {n v m : Int} (hg : σ.get i = some (.int v)) (hv : v = m) (hn : m ≠ n) (h : wS T C b Q σ) : wS T C (.ite (.cmp .Eq (.var i) (.int n)) a b) Q σ := ite_eq hg (fun t => (hn (hv.symm.trans t)).elim) (fun _ => h)
theorem ite_n0 {i : Nat} {n v : Int} (hg : σ.get i = some (.int v)) (hn : v ≠ n) (h : wS T C b Q σ) : wS T C (.ite (.cmp .Eq (.var i) (.int n)) a b) Q σ := ite_eq hg (fun t => (hn t).elim) (fun _ => h)
theorem ite_is {i : Nat} {n v : Int} (hg : σ.get i = some (.int v)) (hv : v = n) (h : wS T C a Q σ) : wS T C (.ite (.cmp .Eq (.var i) (.int n)) a b) Q σ := ite_eq hg (fun _ => h) (fun t => (t hv).elim)
theorem gne {i : Nat} {n v m : Int} {d : CS} (hg : σ.get i = some (.int v)) (hv : v = m) (hn : m ≠ n) (h : wS T C b (seqK Q (wS T C d Q)) σ) : wS T C (.seq (.ite (.cmp .Eq (.var i) (.int n)) a b) d) Q σ := ite_ne (Q := seqK Q (wS T C d Q)) hg hv hn h
theorem gis {i : Nat} {n v : Int} {d : CS} (hg : σ.get i = some (.int v)) (hv : v = n) (h : wS T C a (seqK Q (wS T C d Q)) σ) : wS T C (.seq (.ite (.cmp .Eq (.var i) (.int n)) a b) d) Q σ := ite_is (Q := seqK Q (wS T C d Q)) hg hv h
theorem gn0 {i : Nat} {n v : Int} {d : CS} (hg : σ.get i = some (.int v)) (hn : v ≠ n) (h : wS T C d Q σ) : wS T C (.seq (.ite (.cmp .Eq (.var i) (.int n)) a .skip) d) Q σ := ite_n0 (b := .skip) (Q := seqK Q (wS T C d Q)) hg hn h
end
section
variable {d : Nat} {W : List Nat} {l p q r x y lm ci : Int} {Q : Fl → S → Prop} {a b : CS} {loc : List (Option AV)}
theorem ite_rv (h1 : p ≤ ci → wS tabs (PCt (d + 1)) b Q ⟨some .self :: loc, FS W ci lm l x y p q r⟩) (h2 : ¬ p ≤ ci → wS tabs (PCt (d + 1)) a Q ⟨some .self :: loc, FS W ci lm l x y p q r⟩) :
    wS tabs (PCt (d + 1)) (.ite (.not (.meth 0 15 .nil)) a b) Q ⟨some .self :: loc, FS W ci lm l x y p q r⟩ := by
  rw [w_ite]
  refine ⟨rfl, rv_ok ⟨_, rfl, fun t => h2 ?_, fun t => h1 ?_⟩⟩ <;> simpa using t
theorem ite_r2 (h1 : r ≤ ci → wS tabs (PCt (d + 1)) b Q ⟨some .self :: loc, FS W ci lm l x y p q r⟩) (h2 : ¬ r ≤ ci → wS tabs (PCt (d + 1)) a Q ⟨some .self :: loc, FS W ci lm l x y p q r⟩) :
    wS tabs (PCt (d + 1)) (.ite (.not (.meth 0 16 .nil)) a b) Q ⟨some .self :: loc, FS W ci lm l x y p q r⟩ := by
  rw [w_ite]
  refine ⟨rfl, r2_ok ⟨_, rfl, fun t => h2 ?_, fun t => h1 ?_⟩⟩ <;> simpa using t
theorem ex_del {bi ki lmi : Int} {b : Nat} (hl : W.length ≤ 1000) (hb : bi = b) (hk : ki = W.length) (hm : lmi = W.length) (hlt : b < W.length) (hc : ci ≤ bi)
    (h : Q .next ⟨some .self :: loc, FS (W.take b) ci ((W.take b).length : Nat) l bi bi p q r⟩) : wS tabs (PCt (d + 3)) (.ex (.meth 0 11 .nil)) Q ⟨some .self :: loc, FS W ci lmi l bi ki p q r⟩ := by
  exact ⟨rfl, slice_del hl hb hk hm hlt hc ⟨rfl, h⟩⟩
theorem ex_from {s : List Nat} {bi ki lmi : Int} {b : Nat} (hl : W.length ≤ 1000) (hs : s.length ≤ 1000) (hb : bi = b) (hk : ki = W.length) (hm : lmi = W.length) (hlt : b < W.length) (hc : ci ≤ bi)
    (h : Q .next ⟨some .self :: loc, FS (W.take b ++ s) ci ((W.take b ++ s).length : Nat) l bi (bi + s.length) p q r⟩) : wS tabs (PCt (d + 2)) (.ex (.meth 0 10 (.cons (.str s) .nil))) Q ⟨some .self :: loc, FS W ci lmi l bi ki p q r⟩ := by
  exact ⟨rfl, by unfold lim; omega, slice_end hl hs hb hk hm hlt hc ⟨rfl, h⟩⟩
theorem g_rv {e : CS} (h1 : p ≤ ci → wS tabs (PCt (d + 1)) e Q ⟨some .self :: loc, FS W ci lm l x y p q r⟩) (h2 : ¬ p ≤ ci → wS tabs (PCt (d + 1)) a (seqK Q (wS tabs (PCt (d + 1)) e Q)) ⟨some .self :: loc, FS W ci lm l x y p q r⟩) :
    wS tabs (PCt (d + 1)) (.seq (.ite (.not (.meth 0 15 .nil)) a .skip) e) Q ⟨some .self :: loc, FS W ci lm l x y p q r⟩ := ite_rv (b := .skip) (Q := seqK Q (wS tabs (PCt (d + 1)) e Q)) h1 h2
theorem g_r2 {e : CS} (h1 : r ≤ ci → wS tabs (PCt (d + 1)) e Q ⟨some .self :: loc, FS W ci lm l x y p q r⟩) (h2 : ¬ r ≤ ci → wS tabs (PCt (d + 1)) a (seqK Q (wS tabs (PCt (d + 1)) e Q)) ⟨some .self :: loc, FS W ci lm l x y p q r⟩) :
    wS tabs (PCt (d + 1)) (.seq (.ite (.not (.meth 0 16 .nil)) a .skip) e) Q ⟨some .self :: loc, FS W ci lm l x y p q r⟩ := ite_r2 (b := .skip) (Q := seqK Q (wS tabs (PCt (d + 1)) e Q)) h1 h2
theorem g_del {bi ki lmi : Int} {b : Nat} {e : CS} (hl : W.length ≤ 1000) (hb : bi = b) (hk : ki = W.length) (hm : lmi = W.length) (hlt : b < W.length) (hc : ci ≤ bi)
    (h : wS tabs (PCt (d + 3)) e Q ⟨some .self :: loc, FS (W.take b) ci ((W.take b).length : Nat) l bi bi p q r⟩) : wS tabs (PCt (d + 3)) (.seq (.ex (.meth 0 11 .nil)) e) Q ⟨some .self :: loc, FS W ci lmi l bi ki p q r⟩ := ex_del (Q := seqK Q (wS tabs (PCt (d + 3)) e Q)) hl hb hk hm hlt hc h
theorem g_from {s : List Nat} {bi ki lmi : Int} {b : Nat} {e : CS} (hl : W.length ≤ 1000) (hs : s.length ≤ 1000) (hb : bi = b) (hk : ki = W.length) (hm : lmi = W.length) (hlt : b < W.length) (hc : ci ≤ bi)
    (h : wS tabs (PCt (d + 2)) e Q ⟨some .self :: loc, FS (W.take b ++ s) ci ((W.take b ++ s).length : Nat) l bi (bi + s.length) p q r⟩) : wS tabs (PCt (d + 2)) (.seq (.ex (.meth 0 10 (.cons (.str s) .nil))) e) Q ⟨some .self :: loc, FS W ci lmi l bi ki p q r⟩ := ex_from (Q := seqK Q (wS tabs (PCt (d + 2)) e Q)) hl hs hb hk hm hlt hc h
theorem asg_find {li : Int} {i k c l : Nat} {T : List Ent} (ht : tabs.tab k = some (.tab T)) (G : goodB T = true) (hci : ci = c) (hli : li = l) (hl : l ≤ c) (hc : c ≤ W.length)
    (hyes : ∀ e ∈ T, lng (T.map (·.s)) ((W.take c).drop l) = e.s → e.s ≠ [] → e.s <:+ (W.take c).drop l → Q .next ⟨(some .self :: loc).set i (some (.int e.res)), FS W ((c - e.s.length : Nat) : Int) lm li x y p q r⟩)
    (hno : lng (T.map (·.s)) ((W.take c).drop l) = [] → Q .next ⟨(some .self :: loc).set i (some (.int 0)), FS W ci lm li x y p q r⟩) :
    wS tabs (PCt (d + 1)) (.asg i (.meth 0 8 (.cons (.ctab k) .nil))) Q ⟨some .self :: loc, FS W ci lm li x y p q r⟩ := by
  subst hci hli
  exact ⟨rfl, _, ht, find_lng G hl hc (fun e he h1 h2 h3 => hyes e he h1 h2 h3) (fun h1 _ => hno h1)⟩
theorem ite_at {C : Nat → List AV → List AV → (AV → List AV → Prop) → Prop} {n k : Nat} (hc : ci = k) (hk : k ≤ W.length) (h1 : ∀ t, W.take k = t ++ [n] → wS tabs C b Q ⟨some .self :: loc, FS W ci lm 0 x y p q r⟩)
    (h2 : (¬ ∃ t, W.take k = t ++ [n]) → wS tabs C a Q ⟨some .self :: loc, FS W ci lm 0 x y p q r⟩) :
    wS tabs C (.ite (.or (.cmp .LtE (.fld (.var 0) 1) (.fld (.var 0) 3)) (.cmp .NotEq (.idx (.fld (.var 0) 0) (.bin .Sub (.fld (.var 0) 1) (.int 1))) (.str [n]))) a b) Q ⟨some .self :: loc, FS W ci lm 0 x y p q r⟩ := by
  subst hc
  rcases snoc_cases (W.take k) with e | ⟨t, z, e⟩
  · have k0 : k = 0 := by
      have := congrArg List.length e
      simp at this
      rcases this with a | a
      · exact a
      · subst a; simpa using hk
    subst k0
    exact i_or (t := true) rfl rfl (fun _ => h2 (by rintro ⟨t, ht⟩; simp at ht)) (fun z => by cases z)
  · have hlen : t.length + 1 = k := by
      have := congrArg List.length e
      simp at this
      omega
    have hz : W[k - 1]? = some z := by
      have : (W.take k)[k - 1]? = some z := by rw [e, show k - 1 = t.length by omega]; exact snoc_at t z
      rw [List.getElem?_take] at this
      split at this
      · exact this
      · cases this
    have i1 := oidx' W ((k : Int) - 1) (k - 1) z (by omega) hz
    have k1 : ¬ ((k : Nat) : Int) ≤ 0 := by omega
    have b1 : decide (((k : Nat) : Int) ≤ 0) = false := decide_eq_false k1
    refine i_or (t := false) rfl (congrArg (fun t => some (AV.bool t)) b1) (fun z => by cases z) fun _ => i_p (P := [z] ≠ [n]) rfl ?_ (fun zn => h2 ?_) (fun zn => ?_)
    · show (opIdx (.str W) (.int ((k : Int) - 1))).bind (fun x => (opCmp .NotEq x (.str [n])).map AV.bool) = _
      rw [i1]; rfl
    · rintro ⟨t', e'⟩
      rw [e] at e'
      exact zn (List.append_inj' e' rfl).2
    · have zn : z = n := by simpa using zn
      subst zn
      exact h1 t e
end
section
variable {d c : Nat} {W : List Nat} {l : Int} {Q : AV → List AV → Prop}
theorem residual_ok {p : Nat} {x y q r : Int} (hl : W.length ≤ 1000) (h : ∀ b c x y, Q (.bool b) (FS (resP p W) c ((resP p W).length : Nat) 0 x y p q r)) : PCt (d + 4) 21 [.self] (FS W W.length W.length 0 x y p q r) Q := by
  obtain ⟨rf1, rf2, rf3⟩ := res_facts
  refine pcu ⟨1, 6, b_r_residual_suffix⟩ rfl rfl rfl ?_
  unfold b_r_residual_suffix
  simp only
  refine g_f5 rfl ?_
  refine sq2 fun R hR => asg_find (c := W.length) (l := 0) tt_9 good_9 rfl rfl (by omega) (Nat.le_refl _) (fun e he hlng hne hsuf => ?_) (fun hlng => ?_)
  · rw [good_lng rf2] at hlng
    simp at hlng hsuf
    have hlen := hsuf.length_le
    have hpos : 0 < e.s.length := List.length_pos_iff.mpr hne
    have cut := lng_cut rf3 W p
    rw [hlng] at cut
    have r0 := nz_9 e he
    have hlt : W.length - e.s.length < W.length := arG hpos hlen
    subst hR
    refine sq2 fun R hR => ite_n0 (v := e.res) rfl r0 ?_
    refine sk ?_
    subst hR
    refine g_f4 rfl ?_
    refine sq2 fun R hR => ?_
    by_cases hp : p ≤ W.length - e.s.length
    · rw [if_pos (by omega)] at cut
      have hw : (W.take (W.length - e.s.length)).length = W.length - e.s.length := by simp
      rcases rf1 e he with ⟨r1, f1, f2⟩ | ⟨r2, f1⟩
      · refine ite_is (v := e.res) rfl r1 ?_
        refine sq2 fun R' hR' => ite_rv (fun _ => ?_) (fun z => by omega)
        subst hR'
        refine sq2 fun R' hR' => ex_del (b := W.length - e.s.length) hl rfl rfl rfl hlt (Int.le_refl _) ?_
        have hv : resP p W = W.take (W.length - e.s.length) := by unfold resP; simp [cut, f1, f2]
        rw [hv] at h
        subst hR' hR
        have h := h true
        exact h _ _ _
      · refine ite_ne (v := e.res) rfl r2 (by decide) ?_
        refine sq2 fun R' hR' => ite_rv (fun _ => ?_) (fun z => by omega)
        subst hR'
        refine sq2 fun R' hR' => ex_del (b := W.length - e.s.length) hl rfl rfl rfl hlt (Int.le_refl _) ?_
        subst hR'
        have hv : resP p W = if [103, 117] <:+ W.take (W.length - e.s.length) ∧ p ≤ (W.take (W.length - e.s.length)).length - 1 then (W.take (W.length - e.s.length)).take ((W.take (W.length - e.s.length)).length - 1) else W.take (W.length - e.s.length) := by unfold resP; simp only [cut, f1, true_and]
        rw [hv] at h
        generalize W.take (W.length - e.s.length) = w at *
        rw [← hw]
        have h := h true
        have hwl : w.length ≤ 1000 := by omega
        refine g_a2 off0 ?_
        refine sq2 fun R' hR' => ?_
        rw [w_try]
        refine g_f5 rfl ?_
        refine sq2 fun R2 hR2 => ite_at (k := w.length) rfl (Nat.le_refl _) (fun t ht => ?_) (fun no => ?_)
        · rw [List.take_length] at ht
          have w1 : w.length = t.length + 1 := by rw [ht]; simp
          subst hR2
          refine g_sub rfl ?_
          refine g_f4 rfl ?_
          refine g_a3 rfl ?_
          refine sq2 fun R2 hR2 => ite_at (k := w.length - 1) (by omega) (by omega) (fun t' ht' => ?_) (fun no => ?_)
          · have et : w.take (w.length - 1) = t := by rw [w1, ht]; simp
            rw [et] at ht'
            have gu : [103, 117] <:+ w := by rw [ht, ht']; exact gu_suf.mpr ⟨rfl, rfl⟩
            subst hR2
            refine g_sub rfl ?_
            refine g_f1 rfl ?_
            refine sq2 fun R2 hR2 => ite_rv (fun z => ?_) (fun z => ?_)
            · rw [if_pos ⟨gu, by omega⟩] at h
              subst hR2
              refine sq2 fun R2 hR2 => ex_del (b := w.length - 1) hwl (by omega) rfl rfl (by omega) (by omega) ?_
              subst hR2 hR' hR
              exact h _ _ _
            · rw [if_neg (by omega)] at h
              subst hR2 hR' hR
              refine g_f1 rfl ⟨fun _ => ?_, fun z => (z rfl).elim⟩
              exact h _ _ _
          · rw [if_neg (by
              rintro ⟨g, _⟩
              refine no ?_
              rw [w1, ht]
              simp
              rcases snoc_cases t with e | ⟨t', z, e⟩
              · subst e
                rw [ht] at g
                have := g.length_le
                simp at this
              · rw [ht, e] at g
                exact ⟨t', by rw [e, (gu_suf.mp g).1]⟩)] at h
            subst hR2 hR' hR
            refine g_f1 rfl ⟨fun _ => ?_, fun z => (z rfl).elim⟩
            exact h _ _ _
        · rw [if_neg (by
            rintro ⟨⟨g, hg⟩, _⟩
            exact no ⟨g ++ [103], by rw [List.take_length, ← hg]; simp⟩)] at h
          subst hR2 hR' hR
          refine g_f1 rfl ⟨fun _ => ?_, fun z => (z rfl).elim⟩
          exact h _ _ _
    · rw [if_neg (by omega)] at cut
      have hv : resP p W = W := by unfold resP; simp [cut]
      rw [hv] at h
      refine ite_eq (v := e.res) rfl (fun _ => ?_) (fun _ => ?_) <;> refine sq2 fun R hR => ite_rv (fun z => by omega) (fun _ => ?_) <;> exact h _ _ _ _
  · rw [good_lng rf2] at hlng
    simp at hlng
    have cut := lng_cut rf3 W p
    rw [hlng] at cut
    simp at cut
    subst hR
    have hv : resP p W = W := by unfold resP; simp [cut]
    rw [hv] at h
    refine g_t rfl rfl ?_
    exact h _ _ _ _
end
end Sp.Pu
end
section
set_option linter.all false
set_option maxRecDepth 100000
set_option maxHeartbeats 1000000
namespace Sp.Pu
open PySem (Operator CmpOp)
section
variable {d : Nat} {W : List Nat} {p q r x y lm ci li : Int} {Q : Fl → S → Prop} {a b : CS} {loc : List (Option AV)}
theorem ite_find {k c l : Nat} {T : List Ent} (ht : tabs.tab k = some (.tab T)) (G : goodB T = true) (nz : ∀ e ∈ T, e.res ≠ 0) (hci : ci = c) (hli : li = l) (hl : l ≤ c) (hc : c ≤ W.length)
    (hyes : ∀ e ∈ T, lng (T.map (·.s)) ((W.take c).drop l) = e.s → e.s ≠ [] → e.s <:+ (W.take c).drop l → wS tabs (PCt (d + 1)) b Q ⟨some .self :: loc, FS W ((c - e.s.length : Nat) : Int) lm li x y p q r⟩)
    (hno : lng (T.map (·.s)) ((W.take c).drop l) = [] → wS tabs (PCt (d + 1)) a Q ⟨some .self :: loc, FS W ci lm li x y p q r⟩) :
    wS tabs (PCt (d + 1)) (.ite (.cmp .Eq (.meth 0 8 (.cons (.ctab k) .nil)) (.int 0)) a b) Q ⟨some .self :: loc, FS W ci lm li x y p q r⟩ := by
  subst hci hli
  rw [w_ite]
  refine ⟨rfl, _, ht, find_lng G hl hc (fun e he h1 h2 h3 => ⟨_, rfl, fun t => ?_, fun t => hyes e he h1 h2 h3⟩) (fun h1 _ => ⟨_, rfl, fun t => hno h1, fun t => ?_⟩)⟩
  · exact (nz e he (of_decide_eq_true t)).elim
  · exact absurd (of_decide_eq_false t) (by simp)
end
noncomputable def yP (p : Nat) (W : List Nat) : Option (List Nat) :=
  let e := lng g_ys (W.drop p)
  let st := W.take (W.length - e.length)
  if e ≠ [] ∧ [117] <:+ st then some st else none
theorem y_facts : (∀ e ∈ t_7, e.res ≠ 0) ∧ sameB (t_7.map (·.s)) g_ys = true := by decide +kernel
theorem one_suf {a : Nat} {w : List Nat} : [a] <:+ w ↔ ∃ t, w = t ++ [a] := ⟨fun ⟨t, h⟩ => ⟨t, h.symm⟩, fun ⟨t, h⟩ => ⟨t, h.symm⟩⟩
section
variable {d : Nat} {W : List Nat} {Q : AV → List AV → Prop} {p : Nat} {x y q r : Int}
theorem yverb_ok (hl : W.length ≤ 1000) (h1 : ∀ w, yP p W = some w → ∀ c x y, Q (.bool true) (FS w c (w.length : Nat) 0 x y p q r)) (h2 : yP p W = none → ∀ c x y, Q (.bool false) (FS W c (W.length : Nat) 0 x y p q r)) :
    PCt (d + 4) 19 [.self] (FS W W.length W.length 0 x y p q r) Q := by
  obtain ⟨rf1, rf2⟩ := y_facts
  refine pcu ⟨1, 3, b_r_y_verb_suffix⟩ rfl rfl rfl ?_
  unfold b_r_y_verb_suffix
  simp only
  refine g_ifs rfl rfl (fun hp => ?_) (fun hp => ?_)
  · have e0 : lng g_ys (W.drop p) = [] := by rw [List.drop_eq_nil_of_le (by omega)]; rfl
    have h2 := h2 (by unfold yP; simp [e0])
    exact h2 _ _ _
  · refine g_a1 rfl ?_
    refine g_f3 rfl ?_
    refine g_f5 rfl ?_
    refine sq2 fun R hR => ite_find (c := W.length) (l := p) tt_7 good_7 rf1 rfl rfl (by omega) (Nat.le_refl _) (fun e he hlng hne hsuf => ?_) (fun hlng => ?_)
    · rw [good_lng rf2] at hlng
      simp at hlng hsuf
      have hlen := hsuf.length_le
      simp at hlen
      have hpos : 0 < e.s.length := List.length_pos_iff.mpr hne
      subst hR
      refine g_f4 rfl ?_
      refine g_f3 rfl ?_
      refine sq2 fun R hR => ite_at (k := W.length - e.s.length) rfl (Nat.sub_le _ _) (fun t ht => ?_) (fun no => ?_)
      · have h1 := h1 (W.take (W.length - e.s.length)) (by unfold yP; simp only [hlng]; rw [if_pos ⟨hne, one_suf.mpr ⟨t, ht⟩⟩])
        subst hR
        refine g_sub rfl ?_
        refine sq2 fun R hR => ex_del (b := W.length - e.s.length) hl rfl rfl rfl (arG hpos (Nat.le_trans hlen (Nat.sub_le _ _))) (Int.sub_le_self _ (by decide)) ?_
        subst hR
        exact h1 _ _ _
      · have h2 := h2 (by unfold yP; simp only [hlng]; rw [if_neg fun z => no (one_suf.mp z.2)])
        subst hR
        exact h2 _ _ _
    · rw [good_lng rf2] at hlng
      simp at hlng
      have h2 := h2 (by unfold yP; simp [hlng])
      subst hR
      refine g_f3 rfl ?_
      exact h2 _ _ _
end
noncomputable def guL : List (List Nat) := [[101, 110], [101, 115], [233, 105, 115], [101, 109, 111, 115]]
noncomputable def verbP (p : Nat) (W : List Nat) : List Nat :=
  let e := lng g_verbs (W.drop p)
  let w := W.take (W.length - e.length)
  if e ∈ guL ∧ [103, 117] <:+ w then w.take (w.length - 1) else w
theorem v_facts : (∀ e ∈ t_8, (e.res = 1 ∧ e.s ∈ guL) ∨ (e.res = 2 ∧ e.s ∉ guL)) ∧ sameB (t_8.map (·.s)) g_verbs = true := by decide +kernel
section
variable {d : Nat} {W : List Nat} {Q : AV → List AV → Prop} {p : Nat} {x y q r : Int}
theorem verb_ok (hl : W.length ≤ 1000) (h : ∀ b c x y, Q (.bool b) (FS (verbP p W) c ((verbP p W).length : Nat) 0 x y p q r)) :
    PCt (d + 4) 20 [.self] (FS W W.length W.length 0 x y p q r) Q := by
  obtain ⟨rf1, rf2⟩ := v_facts
  refine pcu ⟨1, 7, b_r_verb_suffix⟩ rfl rfl rfl ?_
  unfold b_r_verb_suffix
  simp only
  have nil_case : lng g_verbs (W.drop p) = [] → verbP p W = W := fun e0 => by
    unfold verbP; simp only [e0]; rw [if_neg (by rintro ⟨z, _⟩; revert z; decide)]; simp
  refine g_ifs rfl rfl (fun hp => ?_) (fun hp => ?_)
  · have e0 : lng g_verbs (W.drop p) = [] := by rw [List.drop_eq_nil_of_le (by omega)]; rfl
    rw [nil_case e0] at h
    have h := h false
    exact h _ _ _
  · refine g_a1 rfl ?_
    refine g_f3 rfl ?_
    refine g_f5 rfl ?_
    refine sq2 fun R hR => asg_find (c := W.length) (l := p) tt_8 good_8 rfl rfl (by omega) (Nat.le_refl _) (fun e he hlng hne hsuf => ?_) (fun hlng => ?_)
    · rw [good_lng rf2] at hlng
      simp at hlng hsuf
      have hlen := hsuf.length_le
      simp at hlen
      have hpos : 0 < e.s.length := List.length_pos_iff.mpr hne
      have h := h true
      have hlt : W.length - e.s.length < W.length := arG hpos (Nat.le_trans hlen (Nat.sub_le _ _))
      have nz := nz_8 e he
      subst hR
      refine sq2 fun R hR => ite_n0 (v := e.res) rfl nz ?_
      refine sk ?_
      subst hR
      refine g_f4 rfl ?_
      refine g_f3 rfl ?_
      have hw : (W.take (W.length - e.s.length)).length = W.length - e.s.length := by simp
      have hv : verbP p W = if e.s ∈ guL ∧ [103, 117] <:+ W.take (W.length - e.s.length) then (W.take (W.length - e.s.length)).take ((W.take (W.length - e.s.length)).length - 1) else W.take (W.length - e.s.length) := by unfold verbP; simp only [hlng]
      rw [hw, List.take_take] at hv
      rcases rf1 e he with ⟨r1, f1⟩ | ⟨r2, f1⟩
      · refine sq2 fun R hR => ite_is (v := e.res) rfl r1 ?_
        refine g_a3 rfl ?_
        refine sq2 fun R' hR' => ?_
        rw [w_try]
        refine sq2 fun R2 hR2 => ite_at (k := W.length - e.s.length) rfl (Nat.sub_le _ _) (fun t ht => ?_) (fun no => ?_)
        · have w1 : W.length - e.s.length = t.length + 1 := by rw [← hw, ht]; simp
          subst hR2
          refine g_sub rfl ?_
          refine g_a4 rfl ?_
          refine sq2 fun R2 hR2 => ite_at (k := W.length - e.s.length - 1) (arB w1) arE (fun t' ht' => ?_) (fun no => ?_)
          · have et : W.take (W.length - e.s.length - 1) = t := by
              have : (W.take (W.length - e.s.length)).take (W.length - e.s.length - 1) = t := by rw [ht, w1]; simp
              rw [List.take_take, arA] at this
              exact this
            rw [et] at ht'
            have gu : [103, 117] <:+ W.take (W.length - e.s.length) := by rw [ht, ht']; exact gu_suf.mpr ⟨rfl, rfl⟩
            rw [if_pos ⟨f1, gu⟩, arA] at hv
            rw [hv] at h
            subst hR2
            refine g_sub rfl ?_
            refine g_f1 rfl ?_
            refine sk' ?_
            subst hR'
            refine g_f4 rfl ?_
            refine sq2 fun R2 hR2 => ex_del (b := W.length - e.s.length - 1) hl (arC w1) rfl rfl (Nat.lt_of_le_of_lt (Nat.sub_le _ _) hlt) (Int.le_refl _) ?_
            subst hR2 hR
            exact h _ _ _
          · rw [if_neg (by
              rintro ⟨_, g⟩
              refine no ?_
              have et : W.take (W.length - e.s.length - 1) = t := by
                have : (W.take (W.length - e.s.length)).take (W.length - e.s.length - 1) = t := by rw [ht, w1]; simp
                rw [List.take_take, arA] at this
                exact this
              rw [et]
              rcases snoc_cases t with e | ⟨t', z, e⟩
              · subst e
                rw [ht] at g
                have := g.length_le
                simp at this
              · rw [ht, e] at g
                exact ⟨t', by rw [e, (gu_suf.mp g).1]⟩)] at hv
            rw [hv] at h
            subst hR2
            refine g_f1 rfl ⟨fun _ => ?_, fun z => (z rfl).elim⟩
            subst hR'
            refine g_f4 rfl ?_
            refine sq2 fun R2 hR2 => ex_del (b := W.length - e.s.length) hl (by first | rfl | exact Int.sub_sub_self _ _) rfl rfl hlt (Int.le_refl _) ?_
            subst hR2 hR
            exact h _ _ _
        · rw [if_neg (by
            rintro ⟨_, ⟨g, hg⟩⟩
            exact no ⟨g ++ [103], by rw [← hg]; simp⟩)] at hv
          rw [hv] at h
          subst hR2
          refine g_f1 rfl ⟨fun _ => ?_, fun z => (z rfl).elim⟩
          subst hR'
          refine g_f4 rfl ?_
          refine sq2 fun R2 hR2 => ex_del (b := W.length - e.s.length) hl (by first | rfl | exact Int.sub_sub_self _ _) rfl rfl hlt (Int.le_refl _) ?_
          subst hR2 hR
          exact h _ _ _
      · rw [if_neg (fun z => f1 z.1)] at hv
        rw [hv] at h
        refine sq2 fun R hR => ite_ne (v := e.res) rfl r2 (by decide) ?_
        refine sq2 fun R2 hR2 => ex_del (b := W.length - e.s.length) hl (by first | rfl | exact Int.sub_sub_self _ _) rfl rfl hlt (Int.le_refl _) ?_
        subst hR2 hR
        exact h _ _ _
    · rw [good_lng rf2] at hlng
      simp at hlng
      rw [nil_case hlng] at h
      have h := h false
      subst hR
      refine g_t rfl rfl ?_
      refine g_f3 rfl ?_
      exact h _ _ _
end
end Sp.Pu
end
section
set_option linter.all false
set_option maxRecDepth 100000
set_option maxHeartbeats 1000000
namespace Sp.Pu
open PySem (Operator CmpOp)
noncomputable def yendo : List Nat := [121, 101, 110, 100, 111]
noncomputable def attachP (p : Nat) (W : List Nat) : List Nat :=
  let pr := lng g_pronouns W
  let body := W.take (W.length - pr.length)
  let form := lng g_forms body
  if pr ≠ [] ∧ form ≠ [] ∧ p ≤ body.length - form.length ∧ (form ≠ yendo ∨ [117] ++ yendo <:+ body) then body.take (body.length - form.length) ++ form.map bareC else W
theorem a_facts : ((∀ e ∈ t_1, e.res ≠ 0) ∧ sameB (t_1.map (·.s)) g_pronouns = true) ∧ sameB (t_2.map (·.s)) g_forms = true ∧
    ∀ e ∈ t_2, (e.res = 1 ∧ e.s.map bareC = [105, 101, 110, 100, 111] ∧ e.s ≠ yendo) ∨ (e.res = 2 ∧ e.s.map bareC = [97, 110, 100, 111] ∧ e.s ≠ yendo) ∨ (e.res = 3 ∧ e.s.map bareC = [97, 114] ∧ e.s ≠ yendo) ∨
      (e.res = 4 ∧ e.s.map bareC = [101, 114] ∧ e.s ≠ yendo) ∨ (e.res = 5 ∧ e.s.map bareC = [105, 114] ∧ e.s ≠ yendo) ∨ (e.res = 6 ∧ e.s.map bareC = e.s ∧ e.s ≠ yendo) ∨ (e.res = 7 ∧ e.s.map bareC = e.s ∧ e.s = yendo) := by decide +kernel
theorem suf_take {s t : List Nat} (h : s <:+ t) : t.take (t.length - s.length) ++ s = t := by
  obtain ⟨r, rfl⟩ := h
  simp
section
variable {d : Nat} {W : List Nat} {Q : AV → List AV → Prop} {p : Nat} {x y q r : Int}
theorem attach_ok (hl : W.length ≤ 1000) (h : ∀ b c x y, Q (.bool b) (FS (attachP p W) c ((attachP p W).length : Nat) 0 x y p q r)) :
    PCt (d + 4) 17 [.self] (FS W W.length W.length 0 x y p q r) Q := by
  obtain ⟨⟨rf1, rf2⟩, rf3, rf4⟩ := a_facts
  refine pcu ⟨1, 3, b_r_attached_pronoun⟩ rfl rfl rfl ?_
  unfold b_r_attached_pronoun
  simp only
  refine g_f5 rfl ?_
  refine sqi (ite_find (c := W.length) (l := 0) tt_1 good_1 rf1 rfl rfl (by omega) (Nat.le_refl _) (fun e he hlng hne hsuf => ?_) (fun hlng => ?_))
  · rw [good_lng rf2] at hlng
    simp at hlng hsuf
    have hlen := hsuf.length_le
    have hpos : 0 < e.s.length := List.length_pos_iff.mpr hne
    refine sk ?_
    refine g_f4 rfl ?_
    have hbl : (W.take (W.length - e.s.length)).length = W.length - e.s.length := by simp
    refine sqi (asg_find (c := W.length - e.s.length) (l := 0) tt_2 good_2 rfl rfl (by omega) (by omega) (fun e2 he2 hlng2 hne2 hsuf2 => ?_) (fun hlng2 => ?_))
    · rw [good_lng rf3] at hlng2
      simp at hlng2 hsuf2
      have hlen2 := hsuf2.length_le
      rw [hbl] at hlen2
      have hpos2 : 0 < e2.s.length := List.length_pos_iff.mpr hne2
      have lt1 : W.length - e.s.length < W.length := by omega
      have lt2 : W.length - e.s.length - e2.s.length < W.length := by omega
      have le2 : ((W.length - e.s.length - e2.s.length : Nat) : Int) ≤ ((W.length - e.s.length : Nat) : Int) := by omega
      refine gn0 (v := e2.res) rfl (nz_2 e2 he2) ?_
      have hv : attachP p W = if p ≤ W.length - e.s.length - e2.s.length ∧ (e2.s ≠ yendo ∨ [117] ++ yendo <:+ W.take (W.length - e.s.length)) then W.take (W.length - e.s.length - e2.s.length) ++ e2.s.map bareC else W := by
        unfold attachP
        simp only [hlng, hlng2, hbl, List.take_take]
        rw [show min (W.length - e.s.length - e2.s.length) (W.length - e.s.length) = W.length - e.s.length - e2.s.length by omega]
        simp only [hne, hne2, ne_eq, not_false_eq_true, true_and]
      refine g_rv (fun hp => ?_) (fun hp => ?_)
      · have hcut := suf_take hsuf2
        have hp' : p ≤ W.length - e.s.length - e2.s.length := by omega
        rw [hbl, List.take_take, show min (W.length - e.s.length - e2.s.length) (W.length - e.s.length) = W.length - e.s.length - e2.s.length by omega] at hcut
        rcases rf4 e2 he2 with ⟨f1, f2, f3⟩ | ⟨f1, f2, f3⟩ | ⟨f1, f2, f3⟩ | ⟨f1, f2, f3⟩ | ⟨f1, f2, f3⟩ | ⟨f1, f2, f3⟩ | ⟨f1, f2, f3⟩
        case inl | inr.inl | inr.inr.inl | inr.inr.inr.inl | inr.inr.inr.inr.inl =>
          rw [if_pos ⟨hp', .inl f3⟩, f2] at hv
          rw [hv] at h
          have h := h true
          repeat (first | refine gis (v := e2.res) rfl f1 ?_ | refine gne (v := e2.res) rfl f1 (by decide) ?_)
          refine g_f4 rfl ?_
          refine g_from (b := W.length - e.s.length - e2.s.length) hl (by decide) rfl rfl rfl lt2 (Int.le_refl _) ?_
          exact h _ _ _
        · rw [if_pos ⟨hp', .inl f3⟩, f2, hcut] at hv
          rw [hv] at h
          have h := h true
          repeat (first | refine gis (v := e2.res) rfl f1 ?_ | refine gne (v := e2.res) rfl f1 (by decide) ?_)
          refine g_del (b := W.length - e.s.length) hl rfl rfl rfl lt1 le2 ?_
          exact h _ _ _
        · have hbody : W.take (W.length - e.s.length) = W.take (W.length - e.s.length - e2.s.length) ++ yendo := by rw [← hcut, f3]
          iterate 6 refine gne (v := e2.res) rfl f1 (by decide) ?_
          refine sqi (ite_at (k := W.length - e.s.length - e2.s.length) rfl (by omega) (fun t ht => ?_) (fun no => ?_))
          · have g : [117] ++ yendo <:+ W.take (W.length - e.s.length) := ⟨t, by rw [hbody, ht]; simp⟩
            rw [if_pos ⟨hp', .inr g⟩, f2, hcut] at hv
            rw [hv] at h
            have h := h true
            refine sk ?_
            refine g_sub rfl ?_
            refine g_del (b := W.length - e.s.length) hl rfl rfl rfl lt1 (Int.le_trans (Int.sub_le_self _ (by decide)) le2) ?_
            exact h _ _ _
          · rw [if_neg (by
              rintro ⟨_, a | ⟨g, hg⟩⟩
              · exact a f3
              · rw [hbody, ← List.append_assoc] at hg
                exact no ⟨g, (List.append_inj' hg rfl).1.symm⟩)] at hv
            rw [hv] at h
            have h := h false
            exact h _ _ _
      · rw [if_neg (fun z => hp (by omega))] at hv
        rw [hv] at h
        have h := h false
        exact h _ _ _
    · rw [good_lng rf3] at hlng2
      simp at hlng2
      have hv : attachP p W = W := by unfold attachP; simp [hlng, hlng2]
      rw [hv] at h
      have h := h false
      refine g_t rfl rfl ?_
      exact h _ _ _
  · rw [good_lng rf2] at hlng
    simp at hlng
    have hv : attachP p W = W := by unfold attachP; simp [hlng]
    rw [hv] at h
    have h := h false
    exact h _ _ _
end
end Sp.Pu
end
section
set_option linter.all false
set_option maxRecDepth 100000
set_option maxHeartbeats 1000000
namespace Sp.Pu
open PySem (Operator CmpOp)
theorem lng_is {L : List (List Nat)} (h : antiB L = true) {s w : List Nat} (hs : s ∈ L) (hp : s <:+ w) : lng L w = s :=
  lng_found hs hp (anti_ne h hs).1 (anti_ne h hs).2 fun r hr hrp => by
    rcases List.suffix_or_suffix_of_suffix hrp hp with q | q
    · rw [anti_of h hr hs q]; exact Nat.le_refl _
    · rw [anti_of h hs hr q]; exact Nat.le_refl _
theorem lng_one {s w : List Nat} (h : antiB [s] = true) (k : Nat) : lng [s] (w.drop k) = if s <:+ w ∧ k ≤ w.length - s.length then s else [] := by
  rw [lng_cut h]
  have hne := (anti_ne h (List.mem_singleton.mpr rfl)).1
  have h0 : 0 < s.length := List.length_pos_iff.mpr hne
  by_cases z : s <:+ w
  · have := z.length_le
    rw [lng_is h (List.mem_singleton.mpr rfl) z]
    by_cases k1 : k ≤ w.length - s.length
    · rw [if_pos (by omega), if_pos ⟨z, k1⟩]
    · rw [if_neg (by omega), if_neg fun a => k1 a.2]
  · have e : lng [s] w = [] := lng_none fun r hr hp => by
      have := List.mem_singleton.mp hr
      subst this
      exact (z hp).elim
    rw [e, if_pos (by simp), if_neg fun a => z a.1]
noncomputable def a3L : List (List Nat) := [[105, 99], [97, 100], [111, 115], [105, 118]]
noncomputable def f6L : List (List Nat) := [[105, 99], [97, 100], [111, 115], [105, 118], [97, 116, 105, 118]]
theorem f6_facts : antiB a3L = true ∧ (∀ s ∈ f6L, s ≠ [] ∧ s.length ≤ 8 ∧ 2 ≤ s.length ∧ (s ∈ a3L ∨ s = [97, 116, 105, 118])) ∧ (∀ s ∈ a3L, s.length = 2 ∧ s ∈ f6L) := by decide +kernel
theorem f6_iv : [105, 118] <:+ [97, 116, 105, 118] := ⟨[97, 116], rfl⟩
theorem f6_none {w : List Nat} (h : lng a3L w = []) (k : Nat) : lng f6L (w.drop k) = [] := by
  obtain ⟨f1, f2, f3⟩ := f6_facts
  refine lng_none fun s hs hp => ?_
  exfalso
  have hp := (suf_cut.mp hp).1
  rcases (f2 s hs).2.2.2 with a | a
  · rw [lng_is f1 a hp] at h; exact (f2 s hs).1 h
  · subst a
    rw [lng_is f1 (by decide : [105, 118] ∈ a3L) (f6_iv.trans hp)] at h
    cases h
theorem f6_far {w : List Nat} {k : Nat} (h : w.length - k < 2) : lng f6L (w.drop k) = [] := by
  obtain ⟨f1, f2, f3⟩ := f6_facts
  refine lng_none fun s hs hp => ?_
  exfalso
  have := (suf_cut.mp hp).2
  have := (f2 s hs).2.2.1
  omega
theorem f6_near {w s : List Nat} {k : Nat} (hs : s ∈ a3L) (hp : s <:+ w) (hk : 2 ≤ w.length - k) (hn : s ≠ [105, 118]) : lng f6L (w.drop k) = s := by
  obtain ⟨f1, f2, f3⟩ := f6_facts
  obtain ⟨l2, hs6⟩ := f3 s hs
  refine lng_found hs6 (suf_cut.mpr ⟨hp, by omega⟩) (f2 s hs6).1 (f2 s hs6).2.1 fun r hr hrp => ?_
  have hrp := (suf_cut.mp hrp).1
  rcases (f2 r hr).2.2.2 with a | a
  · rw [(f3 r a).1, l2]; exact Nat.le_refl _
  · subst a
    have e1 := lng_is f1 (by decide : [105, 118] ∈ a3L) (f6_iv.trans hrp)
    have e2 := lng_is f1 hs hp
    rw [e1] at e2
    exact (hn e2.symm).elim
theorem f6_at {w : List Nat} {k : Nat} (hp : [105, 118] <:+ w) (hk : 2 ≤ w.length - k) : lng f6L (w.drop k) = if [97, 116] <:+ w.take (w.length - 2) ∧ k ≤ w.length - 2 - 2 then [97, 116, 105, 118] else [105, 118] := by
  obtain ⟨f1, f2, f3⟩ := f6_facts
  have hw := suf_take hp
  have hl := hp.length_le
  simp at hw hl
  have key : [97, 116, 105, 118] <:+ w ↔ [97, 116] <:+ w.take (w.length - 2) := by
    constructor
    · rintro ⟨g, hg⟩
      have : g ++ [97, 116] ++ [105, 118] = w.take (w.length - 2) ++ [105, 118] := by rw [hw, ← hg]; simp
      exact ⟨g, (List.append_inj' this rfl).1⟩
    · rintro ⟨g, hg⟩
      exact ⟨g, by rw [← hw, ← hg]; simp⟩
  split
  · rename_i h
    have g := key.mpr h.1
    have gl := g.length_le
    simp at gl
    refine lng_found (by decide) (suf_cut.mpr ⟨g, by simp; omega⟩) (by decide) (by decide) fun r hr hrp => ?_
    have : ∀ r ∈ f6L, r.length ≤ 4 := by decide
    exact this r hr
  · rename_i h
    refine lng_found (by decide) (suf_cut.mpr ⟨hp, by simpa using hk⟩) (by decide) (by decide) fun r hr hrp => ?_
    obtain ⟨h1, h2⟩ := suf_cut.mp hrp
    rcases (f2 r hr).2.2.2 with a | a
    · rw [(f3 r a).1]; exact Nat.le_refl _
    · subst a
      exfalso
      simp at h2
      exact h ⟨key.mp h1, by omega⟩
section
variable {d : Nat} {W : List Nat} {p q r x y lm ci : Int} {Q : Fl → S → Prop} {a b : CS} {loc : List (Option AV)}
theorem ite_eqsb {s : List Nat} (hl : W.length ≤ 1000) (hs : s.length ≤ 1000) (hc : ci = W.length) (h1 : s <:+ W → wS tabs (PCt (d + 1)) b Q ⟨some .self :: loc, FS W ((W.length - s.length : Nat) : Int) lm 0 x y p q r⟩)
    (h2 : ¬ s <:+ W → wS tabs (PCt (d + 1)) a Q ⟨some .self :: loc, FS W W.length lm 0 x y p q r⟩) :
    wS tabs (PCt (d + 1)) (.ite (.not (.meth 0 6 (.cons (.str s) .nil))) a b) Q ⟨some .self :: loc, FS W ci lm 0 x y p q r⟩ := by
  rw [w_ite]
  exact ⟨rfl, by unfold lim; omega, eqsb_ok (by omega) hc (fun z => ⟨_, rfl, (fun t => by cases t), fun t => h1 z⟩) (fun z => ⟨_, rfl, (fun t => h2 z), (fun t => by cases t)⟩)⟩
end
noncomputable def fallS (v : Nat) : CS := (CS.seq (CS.setf (CE.var 0) 1 (CE.bin .Sub (CE.fld (CE.var 0) 2) (CE.var v))) (CS.seq (CS.raise 0) CS.skip))
noncomputable def restS (v : Nat) : CS := (CS.seq (CS.setf (CE.var 0) 4 (CE.fld (CE.var 0) 1)) (CS.seq (CS.ite (CE.not (CE.meth 0 16 CE.nil)) (fallS v) CS.skip) (CS.seq (CS.ex (CE.meth 0 11 CE.nil)) CS.skip)))
noncomputable def tryE (v : Nat) (s : List Nat) : CS := CS.tryS (CS.seq (CS.setf (CE.var 0) 5 (CE.fld (CE.var 0) 1)) (CS.seq (CS.ite (CE.not (CE.meth 0 6 (CE.cons (CE.str s) CE.nil))) (fallS v) CS.skip) (restS v))) 0
noncomputable def tryF (v k : Nat) : CS := CS.tryS (CS.seq (CS.setf (CE.var 0) 5 (CE.fld (CE.var 0) 1)) (CS.seq (CS.ite (CE.cmp .Eq (CE.meth 0 8 (CE.cons (CE.ctab k) CE.nil)) (CE.int 0)) (fallS v) CS.skip) (restS v))) 0
section
variable {d : Nat} {W : List Nat} {p q x y lm ci : Int} {r : Nat} {Q : Fl → S → Prop} {a b : CS} {loc : List (Option AV)}
theorem fall_ok {C : Nat → List AV → List AV → (AV → List AV → Prop) → Prop} {v : Nat} {n l : Int} {R : S → Prop} {Q : Fl → S → Prop} (hg : (((some AV.self) :: loc)[v]?).join = some (.int n))
    (h : ∀ c, Q (.exc 0) ⟨some .self :: loc, FS W c lm l x y p q r⟩) : wS tabs C (fallS v) (seqK Q R) ⟨some .self :: loc, FS W ci lm l x y p q r⟩ := by
  refine g_f1 (v := lm - n) ?_ (h _)
  show (S.get _ v).bind (fun y => opBin .Sub (.int lm) y) = _
  rw [show S.get ⟨some .self :: loc, FS W ci lm l x y p q r⟩ v = some (.int n) from hg]; rfl
theorem rest_ok {v n : Nat} (hg : (((some AV.self) :: loc)[v]?).join = some (.int 0)) (hl : W.length ≤ 1000) (hm : lm = W.length) (hn : n < W.length)
    (h : ∀ c x y, Q .next ⟨some .self :: loc, FS (if r ≤ n then W.take n else W) c ((if r ≤ n then W.take n else W).length : Nat) 0 x y p q r⟩) :
    wS tabs (PCt (d + 3)) (restS v) (tryK Q 0) ⟨some .self :: loc, FS W (n : Nat) lm 0 x W.length p q r⟩ := by
  subst hm
  unfold restS
  refine g_f4 rfl ?_
  refine sq2 fun R hR => ite_r2 (fun z => ?_) (fun z => ?_)
  · rw [if_pos (by omega)] at h
    subst hR
    refine sq2 fun R hR => ex_del (b := n) hl rfl rfl rfl hn (Int.le_refl _) ?_
    subst hR
    exact h _ _ _
  · rw [if_neg (by omega)] at h
    exact fall_ok hg fun c => ⟨fun _ => h _ _ _, fun z => (z rfl).elim⟩
theorem tryE_ok {v : Nat} {s : List Nat} (hg : (((some AV.self) :: loc)[v]?).join = some (.int 0)) (hs : antiB [s] = true) (hl : W.length ≤ 1000) (hc : ci = W.length) (hm : lm = W.length)
    (h : ∀ c x y, Q .next ⟨some .self :: loc, FS (W.take (W.length - (lng [s] (W.drop r)).length)) c ((W.take (W.length - (lng [s] (W.drop r)).length)).length : Nat) 0 x y p q r⟩) :
    wS tabs (PCt (d + 3)) (tryE v s) Q ⟨some .self :: loc, FS W ci lm 0 x y p q r⟩ := by
  subst hc hm
  have s0 := anti_ne hs (List.mem_singleton.mpr rfl)
  have s1 : 0 < s.length := List.length_pos_iff.mpr s0.1
  unfold tryE
  rw [w_try]
  refine g_f5 rfl ?_
  rw [lng_one hs] at h
  refine sq2 fun R hR => ite_eqsb hl (by omega) rfl (fun z => ?_) (fun z => ?_)
  · have := z.length_le
    refine sk ?_
    subst hR
    refine rest_ok hg hl rfl (by omega) ?_
    by_cases k : r ≤ W.length - s.length
    · rw [if_pos ⟨z, k⟩] at h
      rw [if_pos k]
      exact h
    · rw [if_neg (fun a => k a.2)] at h
      rw [if_neg k]
      simpa using h
  · rw [if_neg (fun a => z a.1)] at h
    simp only [List.length_nil, Nat.sub_zero, List.take_length] at h
    exact fall_ok hg fun c => ⟨fun _ => h _ _ _, fun z => (z rfl).elim⟩
theorem tryF_ok {v k : Nat} {T : List Ent} {L : List (List Nat)} (ht : tabs.tab k = some (.tab T)) (G : goodB T = true) (nz : ∀ e ∈ T, e.res ≠ 0) (hsame : sameB (T.map (·.s)) L = true) (hs : antiB L = true)
    (hg : (((some AV.self) :: loc)[v]?).join = some (.int 0)) (hl : W.length ≤ 1000) (hc : ci = W.length) (hm : lm = W.length)
    (h : ∀ c x y, Q .next ⟨some .self :: loc, FS (W.take (W.length - (lng L (W.drop r)).length)) c ((W.take (W.length - (lng L (W.drop r)).length)).length : Nat) 0 x y p q r⟩) :
    wS tabs (PCt (d + 3)) (tryF v k) Q ⟨some .self :: loc, FS W ci lm 0 x y p q r⟩ := by
  subst hc hm
  unfold tryF
  rw [w_try]
  refine g_f5 rfl ?_
  rw [lng_cut hs] at h
  refine sq2 fun R hR => ite_find (c := W.length) (l := 0) ht G nz rfl rfl (by omega) (Nat.le_refl _) (fun e he hlng hne hsuf => ?_) (fun hlng => ?_)
  · rw [good_lng hsame] at hlng
    simp at hlng hsuf
    have hlen := hsuf.length_le
    have hpos : 0 < e.s.length := List.length_pos_iff.mpr hne
    rw [hlng] at h
    refine sk ?_
    subst hR
    refine rest_ok hg hl rfl (by omega) ?_
    by_cases k : r ≤ W.length - e.s.length
    · rw [if_pos (by omega)] at h
      rw [if_pos k]
      exact h
    · rw [if_neg (by omega)] at h
      rw [if_neg k]
      simpa using h
  · rw [good_lng hsame] at hlng
    simp at hlng
    rw [hlng] at h
    simp only [ite_self, List.length_nil, Nat.sub_zero, List.take_length] at h
    exact fall_ok hg fun c => ⟨fun _ => h _ _ _, fun z => (z rfl).elim⟩
end
end Sp.Pu
end
section
set_option linter.all false
set_option maxRecDepth 100000
set_option maxHeartbeats 1000000
set_option synthInstance.maxHeartbeats 1000000
set_option synthInstance.maxSize 100000
namespace Sp.Pu
open PySem (Operator CmpOp)
noncomputable def amente : List Nat := [97, 109, 101, 110, 116, 101]
noncomputable def stdL : List (List Nat) := g_rules.flatMap (·.ends)
/-- the last rule that holds the ending -/
noncomputable def ruleOf (e : List Nat) : Option Rul := g_rules.foldl (fun acc r => if e ∈ r.ends then some r else acc) none
noncomputable def rf (e : List Nat) : Option (List Nat × List (List Nat)) := (ruleOf e).map fun r => (r.ins, r.fur)
noncomputable def stdP (q1 q2 : Nat) (W : List Nat) : Option (List Nat) :=
  let e := lng stdL W
  if e ≠ [] ∧ (if e = amente then q1 else q2) ≤ W.length - e.length then
    (rf e).map fun r => (W.take (W.length - e.length) ++ r.1).take ((W.take (W.length - e.length) ++ r.1).length - (lng r.2 ((W.take (W.length - e.length) ++ r.1).drop q2)).length)
  else none
noncomputable def a4L : List (List Nat) := [[97, 98, 108, 101], [105, 98, 108, 101], [97, 110, 116, 101]]
noncomputable def a5L : List (List Nat) := [[105, 99], [97, 98, 105, 108], [105, 118]]
theorem s_facts : ∀ e ∈ t_6, (e.res = 1 ∧ rf e.s = some ([], []) ∧ e.s ≠ amente) ∨ (e.res = 2 ∧ rf e.s = some ([], [[105, 99]]) ∧ e.s ≠ amente) ∨ (e.res = 3 ∧ rf e.s = some ([108, 111, 103], []) ∧ e.s ≠ amente) ∨
    (e.res = 4 ∧ rf e.s = some ([117], []) ∧ e.s ≠ amente) ∨ (e.res = 5 ∧ rf e.s = some ([101, 110, 116, 101], []) ∧ e.s ≠ amente) ∨ (e.res = 6 ∧ rf e.s = some ([], f6L) ∧ e.s = amente) ∨
    (e.res = 7 ∧ rf e.s = some ([], a4L) ∧ e.s ≠ amente) ∨ (e.res = 8 ∧ rf e.s = some ([], a5L) ∧ e.s ≠ amente) ∨ (e.res = 9 ∧ rf e.s = some ([], [[97, 116]]) ∧ e.s ≠ amente) := by decide +kernel
theorem s_facts2 : sameB (t_6.map (·.s)) stdL = true ∧ (sameB (t_3.map (·.s)) a3L = true ∧ antiB a3L = true ∧ (∀ e ∈ t_3, (e.res = 1 ∧ e.s = [105, 118]) ∨ (e.res = -1 ∧ e.s ≠ [105, 118]))) ∧
    (sameB (t_4.map (·.s)) a4L = true ∧ antiB a4L = true ∧ ∀ e ∈ t_4, e.res ≠ 0) ∧ (sameB (t_5.map (·.s)) a5L = true ∧ antiB a5L = true ∧ ∀ e ∈ t_5, e.res ≠ 0) ∧ antiB [[105, 99]] = true ∧ antiB [[97, 116]] = true := by decide +kernel
theorem nz_3 : ∀ e ∈ t_3, e.res ≠ 0 := by decide +kernel
theorem lng_nil (t : List Nat) : lng [] t = [] := lng_none fun s hs => by cases hs
noncomputable def try6 : CS := CS.tryS (CS.seq (CS.setf (CE.var 0) 5 (CE.fld (CE.var 0) 1)) (CS.seq (CS.asg 1 (CE.meth 0 8 (CE.cons (CE.ctab 4) CE.nil))) (CS.seq (CS.ite (CE.cmp .Eq (CE.var 1) (CE.int 0)) (fallS 3) CS.skip)
  (CS.seq (CS.setf (CE.var 0) 4 (CE.fld (CE.var 0) 1)) (CS.seq (CS.ite (CE.not (CE.meth 0 16 CE.nil)) (fallS 3) CS.skip) (CS.seq (CS.ex (CE.meth 0 11 CE.nil)) (CS.seq (CS.ite (CE.cmp .Eq (CE.var 1) (CE.int 1))
    (CS.seq (CS.setf (CE.var 0) 5 (CE.fld (CE.var 0) 1)) (CS.seq (CS.ite (CE.not (CE.meth 0 6 (CE.cons (CE.str [97, 116]) CE.nil))) (fallS 3) CS.skip) (restS 3))) CS.skip) CS.skip))))))) 0
section
variable {d : Nat} {W : List Nat} {p q x y lm ci : Int} {r : Nat} {Q : Fl → S → Prop} {v1 v2 : Option AV} {loc : List (Option AV)}
theorem rest_ok' {v n : Nat} {R : S → Prop} (hg : (((some AV.self) :: loc)[v]?).join = some (.int 0)) (hl : W.length ≤ 1000) (hm : lm = W.length) (hn : n < W.length)
    (h : ∀ c x y, Q .next ⟨some .self :: loc, FS (if r ≤ n then W.take n else W) c ((if r ≤ n then W.take n else W).length : Nat) 0 x y p q r⟩) (hK : ∀ σ, Q .next σ → R σ) :
    wS tabs (PCt (d + 3)) (restS v) (seqK (tryK Q 0) R) ⟨some .self :: loc, FS W (n : Nat) lm 0 x W.length p q r⟩ := by
  subst hm
  unfold restS
  refine g_f4 rfl ?_
  refine sq2 fun R hR => ite_r2 (fun z => ?_) (fun z => ?_)
  · rw [if_pos (by omega)] at h
    subst hR
    refine sq2 fun R hR => ex_del (b := n) hl rfl rfl rfl hn (Int.le_refl _) ?_
    subst hR
    have h := hK _ (h n n n)
    exact h
  · rw [if_neg (by omega)] at h
    exact fall_ok hg fun c => ⟨fun _ => h _ _ _, fun z => (z rfl).elim⟩
theorem try6_ok (hl : W.length ≤ 1000) (hc : ci = W.length) (hm : lm = W.length)
    (h : ∀ v c x y, Q .next ⟨some .self :: v :: v2 :: some (.int 0) :: loc, FS (W.take (W.length - (lng f6L (W.drop r)).length)) c ((W.take (W.length - (lng f6L (W.drop r)).length)).length : Nat) 0 x y p q r⟩) :
    wS tabs (PCt (d + 3)) try6 Q ⟨some .self :: v1 :: v2 :: some (.int 0) :: loc, FS W ci lm 0 x y p q r⟩ := by
  subst hc hm
  obtain ⟨_, ⟨rf1, rf2, rf3⟩, _⟩ := s_facts2
  unfold try6
  rw [w_try]
  refine g_f5 rfl ?_
  refine sq2 fun R hR => asg_find (c := W.length) (l := 0) tt_3 good_3 rfl rfl (by omega) (Nat.le_refl _) (fun e he hlng hne hsuf => ?_) (fun hlng => ?_)
  · rw [good_lng rf1] at hlng
    simp at hlng hsuf
    have hlen := hsuf.length_le
    have hpos : 0 < e.s.length := List.length_pos_iff.mpr hne
    have h := h (some (.int e.res))
    have ha : e.s ∈ a3L := (same_of rf1 e.s).mp (List.mem_map.mpr ⟨e, he, rfl⟩)
    have h2 := (f6_facts.2.2 e.s ha).1
    subst hR
    refine sq2 fun R hR => ite_n0 (v := e.res) rfl (nz_3 e he) ?_
    refine sk ?_
    subst hR
    refine g_f4 rfl ?_
    refine sq2 fun R hR => ite_r2 (fun z => ?_) (fun z => ?_)
    · subst hR
      refine sq2 fun R hR => ex_del (b := W.length - e.s.length) hl rfl rfl rfl (arG hpos hlen) (Int.le_refl _) ?_
      subst hR
      rcases rf3 e he with ⟨f1, f2⟩ | ⟨f1, f2⟩
      · refine sq2 fun R hR => ite_eq (v := e.res) rfl (fun _ => ?_) (fun t => (t f1).elim)
        have h6 := f6_at (k := r) (f2 ▸ hsuf) (by omega)
        have e2 : W.length - e.s.length = W.length - 2 := by rw [h2]
        rw [e2] at z ⊢
        have hw : (W.take (W.length - 2)).length = W.length - 2 := by simp
        rw [h6] at h
        generalize hW' : W.take (W.length - 2) = w at *
        have hwl : w.length ≤ 1000 := by rw [hw]; exact Nat.le_trans (Nat.sub_le _ _) hl
        rw [← hw]
        refine g_f5 rfl ?_
        refine sq2 fun R2 hR2 => ite_eqsb hwl (by decide) rfl (fun z2 => ?_) (fun z2 => ?_)
        · have l2 := z2.length_le
          simp at l2
          refine sk ?_
          subst hR2
          refine rest_ok' rfl hwl rfl (by simp; omega) ?_ ?_
          · by_cases k : r ≤ w.length - 2
            · rw [if_pos (by simpa using k)]
              rw [if_pos ⟨z2, hw ▸ k⟩] at h
              have ew : W.take (W.length - [97, 116, 105, 118].length) = w.take (w.length - [97, 116].length) := by
                rw [← hW', List.take_take, hW', hw]
                show W.take (W.length - 4) = W.take (min (W.length - 2 - 2) (W.length - 2))
                rw [Nat.min_eq_left (Nat.sub_le _ _), Nat.sub_sub]
              rw [ew] at h
              exact h
            · rw [if_neg (by simpa using k)]
              rw [if_neg (fun a => k (by rw [hw]; exact a.2))] at h
              have ew : W.take (W.length - [105, 118].length) = w := hW'
              rw [ew] at h
              exact h
          · intro σ hq
            subst hR
            exact hq
        · rw [if_neg (fun a => z2 a.1)] at h
          have ew : W.take (W.length - [105, 118].length) = w := hW'
          rw [ew] at h
          exact fall_ok (n := 0) rfl fun c => ⟨fun _ => h _ _ _, fun z => (z rfl).elim⟩
      · refine sq2 fun R hR => ite_ne (v := e.res) rfl f1 (by decide) ?_
        rw [f6_near ha hsuf (by omega) f2] at h
        subst hR
        exact h _ _ _
    · rw [f6_far (by omega)] at h
      simp only [List.length_nil, Nat.sub_zero, List.take_length] at h
      exact fall_ok (n := 0) rfl fun c => ⟨fun _ => h _ _ _, fun z => (z rfl).elim⟩
  · rw [good_lng rf1] at hlng
    simp at hlng
    rw [f6_none hlng] at h
    have h := h (some (.int 0))
    subst hR
    refine sq2 fun R hR => ite_eq (v := 0) rfl (fun t => ?_) (fun t => (t rfl).elim)
    simp only [List.length_nil, Nat.sub_zero, List.take_length] at h
    exact fall_ok (n := 0) rfl fun c => ⟨fun _ => h _ _ _, fun z => (z rfl).elim⟩
end
end Sp.Pu
end
section
set_option linter.all false
set_option maxRecDepth 100000
set_option maxHeartbeats 1000000
namespace Sp.Pu
open PySem (Operator CmpOp)
section
variable {d : Nat} {W : List Nat} {Q : AV → List AV → Prop} {p q1 q2 : Nat} {x y : Int}
theorem std_ok (hl : W.length ≤ 1000) (h1 : ∀ w, stdP q1 q2 W = some w → ∀ c x y, Q (.bool true) (FS w c (w.length : Nat) 0 x y p q1 q2)) (h2 : stdP q1 q2 W = none → ∀ c x y, Q (.bool false) (FS W c (W.length : Nat) 0 x y p q1 q2)) :
    PCt (d + 4) 18 [.self] (FS W W.length W.length 0 x y p q1 q2) Q := by
  obtain ⟨rf1, _, ⟨b1, b2, b3⟩, ⟨c1, c2, c3⟩, k1, k2⟩ := s_facts2
  refine pcu ⟨1, 9, b_r_standard_suffix⟩ rfl rfl rfl ?_
  unfold b_r_standard_suffix
  simp only
  refine g_f5 rfl ?_
  refine sq2 fun R hR => asg_find (c := W.length) (l := 0) tt_6 good_6 rfl rfl (by omega) (Nat.le_refl _) (fun e he hlng hne hsuf => ?_) (fun hlng => ?_)
  · rw [good_lng rf1] at hlng
    simp at hlng hsuf
    have hlen := hsuf.length_le
    have hpos : 0 < e.s.length := List.length_pos_iff.mpr hne
    have hw : (W.take (W.length - e.s.length)).length = W.length - e.s.length := by simp
    have hlt : W.length - e.s.length < W.length := by omega
    have k2c : (q2 : Int) ≤ ((W.length - e.s.length : Nat) : Int) → q2 ≤ W.length - e.s.length := Int.ofNat_le.mp
    have k2n : ¬ ((q2 : Int) ≤ ((W.length - e.s.length : Nat) : Int)) → ¬ q2 ≤ W.length - e.s.length := fun z w => z (Int.ofNat_le.mpr w)
    subst hR
    refine gn0 (v := e.res) rfl (nz_6 e he) ?_
    refine g_f4 rfl ?_
    refine sqi ?_
    have hno : ¬ ((if e.s = amente then q1 else q2) ≤ W.length - e.s.length) → stdP q1 q2 W = none := fun z => by
      unfold stdP; simp only [hlng]; rw [if_neg fun a => z a.2]
    have hyes : (if e.s = amente then q1 else q2) ≤ W.length - e.s.length → stdP q1 q2 W = (rf e.s).map fun r => (W.take (W.length - e.s.length) ++ r.1).take ((W.take (W.length - e.s.length) ++ r.1).length - (lng r.2 ((W.take (W.length - e.s.length) ++ r.1).drop q2)).length) := fun z => by
      unfold stdP; simp only [hlng]; rw [if_pos ⟨hne, z⟩]
    rcases s_facts e he with ⟨f1, f2, f3⟩ | ⟨f1, f2, f3⟩ | ⟨f1, f2, f3⟩ | ⟨f1, f2, f3⟩ | ⟨f1, f2, f3⟩ | ⟨f1, f2, f3⟩ | ⟨f1, f2, f3⟩ | ⟨f1, f2, f3⟩ | ⟨f1, f2, f3⟩
    all_goals rw [f2] at hyes
    case inr.inr.inr.inr.inr.inl =>
      rw [if_pos f3] at hno hyes
      repeat (first | refine ite_is (v := e.res) rfl f1 ?_ | refine gis (v := e.res) rfl f1 ?_ | refine ite_ne (v := e.res) rfl f1 (by decide) ?_ | refine gne (v := e.res) rfl f1 (by decide) ?_)
      refine g_ifs rfl rfl (fun z => ?_) (fun z => ?_)
      · have h2 := h2 (hno fun q => Int.not_lt.mpr (Int.ofNat_le.mpr q) z)
        exact h2 _ _ _
      · have z := Int.ofNat_le.mp (Int.not_lt.mp z)
        have h1 := h1 _ (hyes z)
        simp only [List.append_nil] at h1
        refine g_del (b := W.length - e.s.length) hl rfl rfl rfl hlt (Int.le_refl _) ?_
        generalize W.take (W.length - e.s.length) = w at *
        have hwl : w.length ≤ 1000 := by omega
        rw [← hw]
        refine g_a3 off0 ?_
        refine sqi (try6_ok hwl rfl rfl fun v c x y => ?_)
        exact h1 c x y
    all_goals rw [if_neg f3] at hno hyes
    case inl =>
      refine ite_is (v := e.res) rfl f1 ?_
      refine g_r2 (fun z => ?_) (fun z => ?_)
      · have h1 := h1 _ (hyes (k2c z))
        refine g_del (b := W.length - e.s.length) hl rfl rfl rfl hlt (Int.le_refl _) ?_
        simp only [lng_nil, List.length_nil, Nat.sub_zero, List.append_nil, List.take_length] at h1
        exact h1 _ _ _
      · have h2 := h2 (hno (k2n z))
        exact h2 _ _ _
    case inr.inr.inl | inr.inr.inr.inl | inr.inr.inr.inr.inl =>
      repeat (first | refine ite_is (v := e.res) rfl f1 ?_ | refine gis (v := e.res) rfl f1 ?_ | refine ite_ne (v := e.res) rfl f1 (by decide) ?_ | refine gne (v := e.res) rfl f1 (by decide) ?_)
      refine g_r2 (fun z => ?_) (fun z => ?_)
      · have h1 := h1 _ (hyes (k2c z))
        refine g_from (b := W.length - e.s.length) hl (by decide) rfl rfl rfl hlt (Int.le_refl _) ?_
        simp only [lng_nil, List.length_nil, Nat.sub_zero, List.append_nil, List.take_length] at h1
        exact h1 _ _ _
      · have h2 := h2 (hno (k2n z))
        exact h2 _ _ _
    case inr.inl =>
      repeat (first | refine ite_is (v := e.res) rfl f1 ?_ | refine gis (v := e.res) rfl f1 ?_ | refine ite_ne (v := e.res) rfl f1 (by decide) ?_ | refine gne (v := e.res) rfl f1 (by decide) ?_)
      refine g_r2 (fun z => ?_) (fun z => ?_)
      · have h1 := h1 _ (hyes (k2c z))
        simp only [List.append_nil] at h1
        refine g_del (b := W.length - e.s.length) hl rfl rfl rfl hlt (Int.le_refl _) ?_
        generalize W.take (W.length - e.s.length) = w at *
        have hwl : w.length ≤ 1000 := by omega
        rw [← hw]
        refine g_a2 off0 ?_
        refine sqi (tryE_ok rfl k1 hwl rfl rfl fun c x y => ?_)
        exact h1 c x y
      · have h2 := h2 (hno (k2n z))
        exact h2 _ _ _
    case inr.inr.inr.inr.inr.inr.inl =>
      repeat (first | refine ite_is (v := e.res) rfl f1 ?_ | refine gis (v := e.res) rfl f1 ?_ | refine ite_ne (v := e.res) rfl f1 (by decide) ?_ | refine gne (v := e.res) rfl f1 (by decide) ?_)
      refine g_r2 (fun z => ?_) (fun z => ?_)
      · have h1 := h1 _ (hyes (k2c z))
        simp only [List.append_nil] at h1
        refine g_del (b := W.length - e.s.length) hl rfl rfl rfl hlt (Int.le_refl _) ?_
        generalize W.take (W.length - e.s.length) = w at *
        have hwl : w.length ≤ 1000 := by omega
        rw [← hw]
        refine g_a4 off0 ?_
        refine sqi (tryF_ok (v := 4) tt_4 good_4 b3 b1 b2 rfl hwl rfl rfl fun c x y => ?_)
        exact h1 c x y
      · have h2 := h2 (hno (k2n z))
        exact h2 _ _ _
    case inr.inr.inr.inr.inr.inr.inr.inl =>
      repeat (first | refine ite_is (v := e.res) rfl f1 ?_ | refine gis (v := e.res) rfl f1 ?_ | refine ite_ne (v := e.res) rfl f1 (by decide) ?_ | refine gne (v := e.res) rfl f1 (by decide) ?_)
      refine g_r2 (fun z => ?_) (fun z => ?_)
      · have h1 := h1 _ (hyes (k2c z))
        simp only [List.append_nil] at h1
        refine g_del (b := W.length - e.s.length) hl rfl rfl rfl hlt (Int.le_refl _) ?_
        generalize W.take (W.length - e.s.length) = w at *
        have hwl : w.length ≤ 1000 := by omega
        rw [← hw]
        refine g_a5 off0 ?_
        refine sqi (tryF_ok (v := 5) tt_5 good_5 c3 c1 c2 rfl hwl rfl rfl fun c x y => ?_)
        exact h1 c x y
      · have h2 := h2 (hno (k2n z))
        exact h2 _ _ _
    case inr.inr.inr.inr.inr.inr.inr.inr =>
      refine ite_ne (v := e.res) rfl f1 (by decide) ?_
      iterate 7 refine gne (v := e.res) rfl f1 (by decide) ?_
      refine g_r2 (fun z => ?_) (fun z => ?_)
      · have h1 := h1 _ (hyes (k2c z))
        simp only [List.append_nil] at h1
        refine g_del (b := W.length - e.s.length) hl rfl rfl rfl hlt (Int.le_refl _) ?_
        generalize W.take (W.length - e.s.length) = w at *
        have hwl : w.length ≤ 1000 := by omega
        rw [← hw]
        refine g_a6 off0 ?_
        refine sqi (tryE_ok rfl k2 hwl rfl rfl fun c x y => ?_)
        exact h1 c x y
      · have h2 := h2 (hno (k2n z))
        exact h2 _ _ _
  · rw [good_lng rf1] at hlng
    simp at hlng
    have h2 := h2 (by unfold stdP; simp [hlng])
    subst hR
    refine g_t rfl rfl ?_
    exact h2 _ _ _
end
end Sp.Pu
end
section
set_option linter.all false
set_option maxRecDepth 100000
set_option maxHeartbeats 1000000
namespace Sp.Pu
open PySem (Operator CmpOp)
noncomputable def body_inner_f : CS := (CS.seq (CS.ite (CE.cmp (CmpOp.Eq) (CE.bin (Operator.Add) (CE.var 4) (CE.var 11)) (CE.var 5)) (CS.seq (CS.asg 10 (CE.neg (CE.int 1))) (CS.seq (CS.brk) (CS.skip))) (CS.skip)) (CS.seq (CS.asg 10 (CE.bin (Operator.Sub) (CE.ord (CE.idx (CE.fld (CE.var 0) 0) (CE.bin (Operator.Add) (CE.var 4) (CE.var 11)))) (CE.ord (CE.idx (CE.amf (CE.var 12) 0) (CE.var 13))))) (CS.seq (CS.ite (CE.cmp (CmpOp.NotEq) (CE.var 10) (CE.int 0)) (CS.seq (CS.brk) (CS.skip)) (CS.skip)) (CS.seq (CS.augl 11 (Operator.Add) (CE.int 1)) (CS.skip)))))
theorem ar_f1 {c n L : Nat} (hn : n ≤ L - c) (hc : c ≤ L) (z : ¬ (c : Int) + (n : Int) = (L : Int)) : n < L - c := by omega
theorem ar_f2 {c n L : Nat} (z : (c : Int) + (n : Int) = (L : Int)) : L - c ≤ n := by omega
section
variable {C : Nat → List AV → List AV → (AV → List AV → Prop) → Prop} {T : List Ent} {i j c ci cj : Nat} {fl : Bool} {k : Option AV} {e : Ent} {W : List Nat} {lm b x y p q r : Int}
theorem inner_f {Q : Fl → S → Prop} (hc : c ≤ W.length) : ∀ (m n : Nat) (i2 : Option AV), n + m = e.s.length → n ≤ W.length - c →
    (∀ i2, Q .next ⟨lb T i j c W.length ci cj fl k (some (.int (cmpGo ((W.drop c).drop n) (e.s.drop n) n).1)) (some (.int ((cmpGo ((W.drop c).drop n) (e.s.drop n) n).2 : Nat))) (some (.amg e)) i2, FS W c lm b x y p q r⟩) →
    forW (stepW C body_inner_f 13 Q) (Q .next) (upL n m) ⟨lb T i j c W.length ci cj fl k (some (.int 0)) (some (.int (n : Nat))) (some (.amg e)) i2, FS W c lm b x y p q r⟩
  | 0, n, i2, hn, ht, h => by
    have e0 : e.s.drop n = [] := by apply List.drop_eq_nil_of_le; omega
    rw [e0] at h
    have e1 : ∀ t, cmpGo t [] n = (0, n) := fun t => by cases t <;> rfl
    rw [e1] at h
    exact h i2
  | m + 1, n, i2, hn, ht, h => by
    rw [upL_succ]
    show wS tabs C body_inner_f (loopK Q (forW (stepW C body_inner_f 13 Q) (Q .next) (upL (n + 1) m))) _
    have IH := inner_f (Q := Q) hc m (n + 1) (some (.int n)) (by omega)
    generalize forW (stepW C body_inner_f 13 Q) (Q .next) (upL (n + 1) m) = ag at IH ⊢
    obtain ⟨kb, ek, es⟩ : ∃ a, e.s.drop n = a :: e.s.drop (n + 1) ∧ e.s[n]? = some a := by
      have hk : n < e.s.length := by omega
      exact ⟨e.s[n], List.drop_eq_getElem_cons hk, List.getElem?_eq_getElem hk⟩
    rw [ek] at h
    show wS tabs C body_inner_f (loopK Q ag) ⟨lb T i j c W.length ci cj fl k (some (.int 0)) (some (.int (n : Nat))) (some (.amg e)) (some (.int n)), FS W c lm b x y p q r⟩
    unfold body_inner_f
    have hd : cmpGo [] (kb :: e.s.drop (n + 1)) n = (-1, n) := rfl
    refine g_ifs (P := (c : Int) + (n : Int) = ((W.length : Nat) : Int)) rfl rfl (fun z => ?_) (fun z => ?_)
    · have et : (W.drop c).drop n = [] := List.drop_eq_nil_of_le (by rw [List.length_drop]; exact ar_f2 z)
      rw [et, hd] at h
      exact g_a10 rfl (h (some (.int n)))
    · have hlt := ar_f1 ht hc z
      obtain ⟨ta, et, ew⟩ : ∃ a, (W.drop c).drop n = a :: (W.drop c).drop (n + 1) ∧ W[c + n]? = some a := by
        have hlt : n < (W.drop c).length := by rw [List.length_drop]; exact hlt
        refine ⟨(W.drop c)[n], List.drop_eq_getElem_cons hlt, ?_⟩
        rw [List.getElem_drop]
        exact List.getElem?_eq_getElem _
      rw [et] at h
      have i1 := oidx' W ((c : Int) + (n : Int)) (c + n) _ rfl ew
      have i3 := oidx e.s n _ es
      have hg : cmpGo (ta :: (W.drop c).drop (n + 1)) (kb :: e.s.drop (n + 1)) n = if ta = kb then cmpGo ((W.drop c).drop (n + 1)) (e.s.drop (n + 1)) (n + 1) else ((ta : Int) - kb, n) := rfl
      rw [hg] at h
      refine g_a10 (ev_bin (ev_ord (ev_idx rfl rfl i1) rfl) (ev_ord (ev_idx rfl rfl i3) rfl) rfl) (g_ifs (P := (ta : Int) - (kb : Int) ≠ 0) rfl rfl (fun d => ?_) (fun d => g_augl rfl rfl rfl ?_))
      · rw [if_neg (ar_4 d)] at h
        exact h (some (.int n))
      · have d := ar_5 d
        subst d
        rw [if_pos rfl] at h
        have e0 : (ta : Int) - (ta : Int) = 0 := Int.sub_self _
        dsimp only
        rw [e0]
        exact IH hlt h
noncomputable def for_f : CS := CS.forR 13 (CE.var 11) (CE.len (CE.amf (CE.var 12) 0)) 1 body_inner_f
theorem for_f_ok {Q : Fl → S → Prop} {k i2 : Option AV} {n : Nat} (hs : e.s.length ≤ 1048576) (hc : c ≤ W.length) (hn : n ≤ e.s.length) (hn2 : n ≤ W.length - c)
    (h : ∀ i2, Q .next ⟨lb T i j c W.length ci cj fl k (some (.int (cmpGo ((W.drop c).drop n) (e.s.drop n) n).1)) (some (.int ((cmpGo ((W.drop c).drop n) (e.s.drop n) n).2 : Nat))) (some (.amg e)) i2, FS W c lm b x y p q r⟩) :
    wS tabs C for_f Q ⟨lb T i j c W.length ci cj fl k (some (.int 0)) (some (.int (n : Nat))) (some (.amg e)) i2, FS W c lm b x y p q r⟩ := by
  have IH := inner_f (C := C) (Q := Q) hc (e.s.length - n) n i2 (by omega) hn2 h
  have hr := rangeL_up n e.s.length (by omega) hs
  show wE tabs C _ (fun x σ => wE tabs C _ (fun y σ => ∃ p q l, x = .int p ∧ y = .int q ∧ rangeL p q 1 = some l ∧ forW (stepW C body_inner_f 13 Q) (Q .next) l σ) σ) _
  generalize stepW C body_inner_f 13 Q = stp at IH ⊢
  exact ⟨_, rfl, ev_ok (.len (.amf (.var 12) 0)) rfl ⟨_, _, _, rfl, rfl, hr, IH⟩⟩
end
theorem bff_eq : b_find_among = (CS.seq (CS.asg 2 (CE.int 0)) (CS.seq (CS.asg 3 (CE.len (CE.var 1))) (CS.seq (CS.asg 4 (CE.fld (CE.var 0) 1)) (CS.seq (CS.asg 5 (CE.fld (CE.var 0) 2)) (CS.seq (CS.asg 6 (CE.int 0)) (CS.seq (CS.asg 7 (CE.int 0)) (CS.seq (CS.asg 8 (CE.bool false)) (CS.seq (CS.whl (CE.bool true) (head_b for_f)) (CS.seq (CS.whl (CE.bool true) (links .Add)) (CS.seq (CS.ret (CE.neg (CE.int 1))) (CS.skip))))))))))) := rfl
noncomputable def keyS (T : List Ent) : Nat → List Nat := keyF (·.s) T
theorem keyS_len {T : List Ent} {k : Nat} {e : Ent} (h : T[k]? = some e) : (keyS T k).length = e.s.length := by
  unfold keyS keyF; rw [h]
/-- find_among -/
theorem find_f_ok {d : Nat} {T : List Ent} {c : Nat} {W : List Nat} {l x y p q r : Int} {Q : AV → List AV → Prop} (O : TOK T (keyS T)) (hz : ∀ e ∈ T, e.s.length ≤ 1048576) (hc : c ≤ W.length)
    (hyes : ∀ m e, T[m]? = some e → Best T (keyS T) (W.drop c) m → Q (.int e.res) (FS W ((c : Int) + e.s.length) W.length l x y p q r))
    (hno : NoKey T (keyS T) (W.drop c) → Q (.int 0) (FS W c W.length l x y p q r)) : PCt (d + 1) 7 [.self, .tab T] (FS W c W.length l x y p q r) Q := by
  refine pcu ⟨2, 18, b_find_among⟩ rfl rfl rfl ?_
  simp only
  rw [bff_eq]
  generalize hC : PC tabs prog natF d = C
  have main := outer_ok (C := C) (T := T) (c := c) (l := W.length) (f := for_f) (K := keyS T) (t := W.drop c) (fs := FS W c W.length l x y p q r) (Q := seqK (endK Q) (wS tabs C (CS.seq (CS.whl (CE.bool true) (links .Add)) (CS.seq (CS.ret (CE.neg (CE.int 1))) (CS.skip))) (endK Q))) O
    (fun i j ci cj fl k e n i2 Q he hn h => by
      have hk : keyS T k = e.s := by unfold keyS keyF; rw [he]
      rw [hk] at hn h
      have n1 : n ≤ e.s.length := Nat.le_trans hn (lcp_le_r _ _)
      have n2 : n ≤ W.length - c := by have := Nat.le_trans hn (lcp_le_l _ _); simpa using this
      obtain ⟨c1, c2⟩ := cmp_from hn
      refine for_f_ok (hz e (List.mem_of_getElem? he)) hc n1 n2 fun i2 => ?_
      rw [c1]
      exact h i2 _ c2)
    (fun i j ci cj fl w i2 k df cm hE => by
      have L := links_ok (C := C) (T := T) (c := c) (l := W.length) (W := W) (lm := W.length) (b := l) (x := x) (y := y) (p := p) (q := q) (r := r) (K := keyS T) (t := W.drop c) (op := .Add) (mv := fun n => (c : Int) + n)
        (Q := seqK (endK Q) (wS tabs C (CS.seq (CS.ret (CE.neg (CE.int 1))) (CS.skip)) (endK Q))) O (fun k e h => keyS_len h) (fun n => rfl) (fun m e loc h B => hyes m e h B) (fun loc h => hno h) T.length i j ci cj fl k df cm w i2 (.start O hE) hE.1
      exact ⟨T.length, L⟩)
  have M := main (T.length + 1) 0 T.length 0 0 false none none none none none (SI.start O) (by simp)
  have ol := olent T O.lim
  have W2 : wS tabs C (CS.seq (CS.whl (CE.bool true) (head_b for_f)) (CS.seq (CS.whl (CE.bool true) (links .Add)) (CS.seq (CS.ret (CE.neg (CE.int 1))) (CS.skip)))) (endK Q) ⟨lb T 0 T.length c W.length 0 0 false none none none none none, FS W c W.length l x y p q r⟩ := ⟨_, M⟩
  exact g_a2 rfl (g_a3 (u := .int (T.length : Nat)) ol (g_a4 rfl (g_a5 rfl (g_a6 rfl (g_a7 rfl (g_a8 rfl W2))))))
end Sp.Pu
end
section
set_option linter.all false
set_option maxRecDepth 100000
set_option maxHeartbeats 1000000
namespace Sp.Pu
open PySem (Operator CmpOp)
theorem tok_0 : TOK t_0 (keyS t_0) := tok_of (by decide +kernel)
noncomputable def acc0 : List (Nat × Int) := [(225, 1), (233, 2), (237, 3), (243, 4), (250, 5)]
theorem t0_facts : (∀ e ∈ t_0, e.s.length ≤ 1048576) ∧ (∀ e ∈ t_0, (e.s = [] ∧ e.res = 6) ∨ ∃ u ∈ acc0, e.s = [u.1] ∧ e.res = u.2) ∧ keyS t_0 0 = [] ∧ (keyS t_0 1 = [225] ∧ keyS t_0 2 = [233] ∧ keyS t_0 3 = [237] ∧ keyS t_0 4 = [243] ∧ keyS t_0 5 = [250]) := by decide +kernel
section
variable {d c : Nat} {W : List Nat} {l x y p q r : Int} {Q : AV → List AV → Prop}
theorem find_a0 (hc : c ≤ W.length) (hN : (∀ a, W[c]? = some a → bareC a = a) → Q (.int 6) (FS W c W.length l x y p q r))
    (hA : ∀ a k, W[c]? = some a → (a, k) ∈ acc0 → Q (.int k) (FS W ((c : Int) + 1) W.length l x y p q r)) : PCt (d + 1) 7 [.self, .tab t_0] (FS W c W.length l x y p q r) Q := by
  obtain ⟨z1, z2, z3, k1, k2, k3, k4, k5⟩ := t0_facts
  refine find_f_ok tok_0 z1 hc (fun m e he B => ?_) (fun N => (N 0 (by decide) (by rw [z3]; exact List.nil_prefix)).elim)
  have hk : keyS t_0 m = e.s := by unfold keyS keyF; rw [he]
  obtain ⟨_, B2, B3⟩ := B
  rw [hk] at B2 B3
  rcases z2 e (List.mem_of_getElem? he) with ⟨f1, f2⟩ | ⟨u, hu, f1, f2⟩
  · rw [f1, f2]
    have := hN (fun a ha => by
      have hd : W.drop c = a :: W.drop (c + 1) := by
        obtain ⟨h1, h2⟩ := List.getElem?_eq_some_iff.mp ha
        rw [← h2]; exact List.drop_eq_getElem_cons h1
      have no : ∀ p b, p < t_0.length → keyS t_0 p = [b] → a ≠ b := fun p b hp hb e => by
        have := B3 p hp (by rw [hb, hd, e]; exact ⟨_, rfl⟩)
        rw [hb, f1] at this
        have := this.length_le
        simp at this
      unfold bareC
      rw [if_neg (no 1 _ (by decide) k1), if_neg (no 2 _ (by decide) k2), if_neg (no 3 _ (by decide) k3), if_neg (no 4 _ (by decide) k4), if_neg (no 5 _ (by decide) k5)])
    simpa using this
  · rw [f1] at B2 ⊢
    rw [f2]
    obtain ⟨t, ht⟩ := B2
    have hw : W[c]? = some u.1 := by
      have : (W.drop c)[0]? = some u.1 := by rw [← ht]; rfl
      simpa using this
    exact hA u.1 u.2 hw hu
noncomputable def bodyP : CS := (CS.seq (CS.asg 1 (CE.fld (CE.var 0) 1)) (CS.seq (CS.tryS (CS.seq (CS.setf (CE.var 0) 4 (CE.fld (CE.var 0) 1)) (CS.seq (CS.asg 2 (CE.meth 0 7 (CE.cons (CE.ctab 1) (CE.nil)))) (CS.seq (CS.setf (CE.var 0) 5 (CE.fld (CE.var 0) 1)) (CS.seq (CS.ite (CE.cmp .Eq (CE.var 2) (CE.int 1)) (CS.seq (CS.ex (CE.meth 0 10 (CE.cons (CE.str [97]) (CE.nil)))) (CS.skip)) (CS.seq (CS.ite (CE.cmp .Eq (CE.var 2) (CE.int 2)) (CS.seq (CS.ex (CE.meth 0 10 (CE.cons (CE.str [101]) (CE.nil)))) (CS.skip)) (CS.seq (CS.ite (CE.cmp .Eq (CE.var 2) (CE.int 3)) (CS.seq (CS.ex (CE.meth 0 10 (CE.cons (CE.str [105]) (CE.nil)))) (CS.skip)) (CS.seq (CS.ite (CE.cmp .Eq (CE.var 2) (CE.int 4)) (CS.seq (CS.ex (CE.meth 0 10 (CE.cons (CE.str [111]) (CE.nil)))) (CS.skip)) (CS.seq (CS.ite (CE.cmp .Eq (CE.var 2) (CE.int 5)) (CS.seq (CS.ex (CE.meth 0 10 (CE.cons (CE.str [117]) (CE.nil)))) (CS.skip)) (CS.seq (CS.ite (CE.cmp .GtE (CE.fld (CE.var 0) 1) (CE.fld (CE.var 0) 2)) (CS.seq (CS.raise 0) (CS.skip)) (CS.skip)) (CS.seq (CS.augf (CE.var 0) 1 .Add (CE.int 1)) (CS.skip)))) (CS.skip))) (CS.skip))) (CS.skip))) (CS.skip))) (CS.seq (CS.cont) (CS.skip)))))) 0) (CS.seq (CS.setf (CE.var 0) 1 (CE.var 1)) (CS.seq (CS.brk) (CS.skip)))))
theorem ex_mid {Q : Fl → S → Prop} {loc : List (Option AV)} {s : Nat} {ci lmi bi : Int} {b : Nat} (hl : W.length ≤ 1000) (hb : bi = b) (hm : lmi = W.length) (hlt : b < W.length) (hc : ci = b + 1)
    (h : Q .next ⟨some .self :: loc, FS (W.take b ++ s :: W.drop (b + 1)) ci lmi l bi (bi + 1) p q r⟩) : wS tabs (PCt (d + 2)) (.ex (.meth 0 10 (.cons (.str [s]) .nil))) Q ⟨some .self :: loc, FS W ci lmi l bi ci p q r⟩ := by
  exact ⟨rfl, Nat.le_of_ble_eq_true rfl, slice_mid hl hb hm hlt hc ⟨rfl, h⟩⟩
theorem asg_a0 {Q : Fl → S → Prop} {v1 v2 : Option AV} {rest : List (Option AV)} (hc : c ≤ W.length) (hN : (∀ a, W[c]? = some a → bareC a = a) → Q .next ⟨some .self :: v1 :: some (.int 6) :: rest, FS W c W.length l x y p q r⟩)
    (hA : ∀ a k, W[c]? = some a → (a, k) ∈ acc0 → Q .next ⟨some .self :: v1 :: some (.int k) :: rest, FS W ((c : Int) + 1) W.length l x y p q r⟩) : wS tabs (PCt (d + 1)) (.asg 2 (.meth 0 7 (.cons (.ctab 1) .nil))) Q ⟨some .self :: v1 :: v2 :: rest, FS W c W.length l x y p q r⟩ :=
  ⟨rfl, _, tt_0, find_a0 hc hN hA⟩
theorem post_loop {Q : Fl → S → Prop} : ∀ (m c : Nat) (W : List Nat) (v1 v2 : Option AV) (x y : Int), c + m = W.length → W.length ≤ 1000 →
    (∀ loc c' x y, Q .next ⟨loc, FS (W.take c ++ (W.drop c).map bareC) c' W.length l x y p q r⟩) →
    iterW (stepO (PCt (d + 2)) bodyP Q) (m + 1) ⟨[some .self, v1, v2, none, none], FS W c W.length l x y p q r⟩
  | 0, c, W, v1, v2, x, y, hm, hl, h => by
    show stepO (PCt (d + 2)) bodyP Q (iterW (stepO (PCt (d + 2)) bodyP Q) 0) _
    generalize iterW (stepO (PCt (d + 2)) bodyP Q) 0 = ag
    have z : c = W.length := by omega
    subst z
    simp at h
    refine (⟨fun _ => ?_, fun z => by cases z⟩ : (true = true → wS tabs (PCt (d + 2)) bodyP (loopK Q ag) _) ∧ (true = false → _))
    unfold bodyP
    refine g_a1 rfl ?_
    refine sqi ?_
    rw [w_try]
    refine g_f4 rfl ?_
    refine sqi (asg_a0 (Nat.le_refl _) (fun _ => ?_) (fun a k ha => by simp at ha))
    refine g_f5 rfl ?_
    iterate 5 refine gne (v := 6) rfl rfl (by decide) ?_
    refine g_ifs rfl rfl (fun _ => ⟨fun _ => ?_, fun z => (z rfl).elim⟩) (fun z => (z (Int.le_refl _)).elim)
    refine g_f1 rfl ?_
    exact h _ _ _ _
  | m + 1, c, W, v1, v2, x, y, hm, hl, h => by
    show stepO (PCt (d + 2)) bodyP Q (iterW (stepO (PCt (d + 2)) bodyP Q) (m + 1)) _
    have IH := post_loop (Q := Q) m (c + 1)
    generalize iterW (stepO (PCt (d + 2)) bodyP Q) (m + 1) = ag at IH ⊢
    have hlt : c < W.length := by omega
    have hd : W.drop c = W[c] :: W.drop (c + 1) := List.drop_eq_getElem_cons hlt
    have ha : W[c]? = some W[c] := List.getElem?_eq_getElem hlt
    generalize W[c] = a at hd ha
    refine (⟨fun _ => ?_, fun z => by cases z⟩ : (true = true → wS tabs (PCt (d + 2)) bodyP (loopK Q ag) _) ∧ (true = false → _))
    unfold bodyP
    refine g_a1 rfl ?_
    refine sqi ?_
    rw [w_try]
    refine g_f4 rfl ?_
    refine sqi (asg_a0 (by omega) (fun hb => ?_) (fun a' k ha' hk => ?_))
    · have hb := hb a ha
      refine g_f5 rfl ?_
      iterate 5 refine gne (v := 6) rfl rfl (by decide) ?_
      have z' : ¬ ((W.length : Nat) : Int) ≤ (c : Int) := by omega
      refine g_ifs rfl rfl (fun z => (z' z).elim) fun _ => ?_
      refine g_add rfl ?_
      have IH := IH W (some (.int c)) (some (.int 6)) c c (by omega) hl (fun loc c' x y => by
        have := h loc c' x y
        rw [hd, List.map_cons, hb] at this
        have e : W.take (c + 1) = W.take c ++ [a] := by rw [List.take_add_one, ha]; rfl
        rw [e]
        simpa using this)
      exact IH
    · have ea : a' = a := by rw [ha] at ha'; exact (Option.some.inj ha').symm
      subst ea
      have fin : ∀ W', W' = W.take c ++ bareC a' :: W.drop (c + 1) → ∀ v1 v2 x y, ag ⟨[some .self, v1, v2, none, none], FS W' ((c + 1 : Nat) : Int) W.length l x y p q r⟩ := fun W' hW' v1 v2 x y => by
        have hlen : W'.length = W.length := by rw [hW']; simp; omega
        have := IH W' v1 v2 x y (by omega) (by omega) (fun loc c' x y => by
          have h := h loc c' x y
          have e1 : W'.take (c + 1) = W.take c ++ [bareC a'] := by
            rw [hW', show W.take c ++ bareC a' :: W.drop (c + 1) = (W.take c ++ [bareC a']) ++ W.drop (c + 1) by simp, List.take_append_of_le_length (by simp; omega), List.take_of_length_le (by simp; omega)]
          have e2 : W'.drop (c + 1) = W.drop (c + 1) := by
            rw [hW', show W.take c ++ bareC a' :: W.drop (c + 1) = (W.take c ++ [bareC a']) ++ W.drop (c + 1) by simp, List.drop_append_of_le_length (by simp; omega), List.drop_of_length_le (by simp; omega), List.nil_append]
          rw [e1, e2, hlen]
          rw [hd, List.map_cons] at h
          simpa using h)
        rw [hlen] at this
        exact this
      simp [acc0] at hk
      refine g_f5 rfl ?_
      rcases hk with ⟨rfl, rfl⟩ | ⟨rfl, rfl⟩ | ⟨rfl, rfl⟩ | ⟨rfl, rfl⟩ | ⟨rfl, rfl⟩
      all_goals
        repeat (first | refine gis rfl rfl ?_ | refine gne rfl rfl (by decide) ?_)
        refine sqi (ex_mid hl rfl rfl hlt rfl ?_)
        have fin := fin _ rfl
        exact fin _ _ _ _
theorem post_ok {Q : AV → List AV → Prop} (hl : W.length ≤ 1000) (h : ∀ c x y, Q (.bool true) (FS (W.map bareC) c W.length l x y p q r)) : PCt (d + 3) 14 [.self] (FS W 0 W.length l x y p q r) Q := by
  refine pcu ⟨1, 5, b_r_postlude⟩ rfl rfl rfl ?_
  show wS tabs (PCt (d + 2)) (CS.seq (CS.whl _ bodyP) (CS.seq (CS.ret (CE.bool true)) CS.skip)) _ _
  exact ⟨W.length + 1, post_loop W.length 0 W _ _ x y (by omega) hl (fun loc c' x y => by
    exact h c' x y)⟩
end
end Sp.Pu
end
section
set_option linter.all false
set_option maxRecDepth 100000
set_option maxHeartbeats 1000000
namespace Sp.Pu
open PySem (Operator CmpOp)
section
variable {d c : Nat} {W : List Nat} {l p q r x y ci lm : Int} {Q : Fl → S → Prop} {a b : CS} {loc : List (Option AV)}
noncomputable def sh (W : List Nat) : List Bool := W.map isV
theorem ing_t (hm : lm = W.length) (hci : ci = c) (h0 : (sh W)[c]? = some true) (h : wS tabs (PCt (d + 1)) b Q ⟨some .self :: loc, FS W ((c + 1 : Nat) : Int) lm l x y p q r⟩) :
    wS tabs (PCt (d + 1)) (.ite (.not (.meth 0 2 (.cons (.ctab 0) .nil))) a b) Q ⟨some .self :: loc, FS W ci lm l x y p q r⟩ := by
  subst hci hm
  rw [w_ite]
  unfold sh at h0
  have hc : c ≤ W.length := by
    have := (List.getElem?_eq_some_iff.mp h0).1
    simp at this; omega
  refine ⟨rfl, _, tt_g, in_grp hc ?_⟩
  simp only [h0, if_pos]
  exact ⟨true, rfl, (fun t => by cases t), fun _ => h⟩
theorem ing_f (hm : lm = W.length) (hci : ci = c) (hc : c ≤ W.length) (h0 : (sh W)[c]? ≠ some true) (h : wS tabs (PCt (d + 1)) a Q ⟨some .self :: loc, FS W ci lm l x y p q r⟩) :
    wS tabs (PCt (d + 1)) (.ite (.not (.meth 0 2 (.cons (.ctab 0) .nil))) a b) Q ⟨some .self :: loc, FS W ci lm l x y p q r⟩ := by
  subst hci hm
  rw [w_ite]
  unfold sh at h0
  refine ⟨rfl, _, tt_g, in_grp hc ?_⟩
  rw [if_neg h0, decide_eq_false h0]
  exact ⟨false, rfl, (fun _ => h), fun t => by cases t⟩
theorem outg_t (hm : lm = W.length) (hci : ci = c) (h0 : (sh W)[c]? = some false) (h : wS tabs (PCt (d + 1)) b Q ⟨some .self :: loc, FS W ((c + 1 : Nat) : Int) lm l x y p q r⟩) :
    wS tabs (PCt (d + 1)) (.ite (.not (.meth 0 4 (.cons (.ctab 0) .nil))) a b) Q ⟨some .self :: loc, FS W ci lm l x y p q r⟩ := by
  subst hci hm
  rw [w_ite]
  unfold sh at h0
  have hc : c ≤ W.length := by
    have := (List.getElem?_eq_some_iff.mp h0).1
    simp at this; omega
  refine ⟨rfl, _, tt_g, out_grp hc ?_⟩
  simp only [h0, if_pos]
  exact ⟨true, rfl, (fun t => by cases t), fun _ => h⟩
theorem outg_f (hm : lm = W.length) (hci : ci = c) (hc : c ≤ W.length) (h0 : (sh W)[c]? ≠ some false) (h : wS tabs (PCt (d + 1)) a Q ⟨some .self :: loc, FS W ci lm l x y p q r⟩) :
    wS tabs (PCt (d + 1)) (.ite (.not (.meth 0 4 (.cons (.ctab 0) .nil))) a b) Q ⟨some .self :: loc, FS W ci lm l x y p q r⟩ := by
  subst hci hm
  rw [w_ite]
  unfold sh at h0
  refine ⟨rfl, _, tt_g, out_grp hc ?_⟩
  rw [if_neg h0, decide_eq_false h0]
  exact ⟨false, rfl, (fun _ => h), fun t => by cases t⟩
theorem goin_ok (hm : lm = W.length) (hci : ci = c) (hc : c ≤ W.length) (h1 : ∀ n, nx false (sh W) c = some n → n < W.length → wS tabs (PCt (d + 1)) b Q ⟨some .self :: loc, FS W (n : Nat) lm l x y p q r⟩)
    (h2 : nx false (sh W) c = none → wS tabs (PCt (d + 1)) a Q ⟨some .self :: loc, FS W lm lm l x y p q r⟩) :
    wS tabs (PCt (d + 1)) (.ite (.not (.meth 0 3 (.cons (.ctab 0) .nil))) a b) Q ⟨some .self :: loc, FS W ci lm l x y p q r⟩ := by
  subst hci hm
  rw [w_ite]
  exact ⟨rfl, _, tt_g, go_in_ok hc (fun n hn hlt => ⟨true, rfl, (fun t => by cases t), fun _ => h1 n hn hlt⟩) (fun e => ⟨false, rfl, (fun _ => h2 e), fun t => by cases t⟩)⟩
theorem goout_ok (hm : lm = W.length) (hci : ci = c) (hc : c ≤ W.length) (h1 : ∀ n, nx true (sh W) c = some n → n < W.length → wS tabs (PCt (d + 1)) b Q ⟨some .self :: loc, FS W (n : Nat) lm l x y p q r⟩)
    (h2 : nx true (sh W) c = none → wS tabs (PCt (d + 1)) a Q ⟨some .self :: loc, FS W lm lm l x y p q r⟩) :
    wS tabs (PCt (d + 1)) (.ite (.not (.meth 0 5 (.cons (.ctab 0) .nil))) a b) Q ⟨some .self :: loc, FS W ci lm l x y p q r⟩ := by
  subst hci hm
  rw [w_ite]
  exact ⟨rfl, _, tt_g, go_out_ok hc (fun n hn hlt => ⟨true, rfl, (fun t => by cases t), fun _ => h1 n hn hlt⟩) (fun e => ⟨false, rfl, (fun _ => h2 e), fun t => by cases t⟩)⟩
theorem whl1 {T : Tabs} {C : Nat → List AV → List AV → (AV → List AV → Prop) → Prop} {σ : S} (h : wS T C b (loopK Q (fun _ => False)) σ) : wS T C (.whl (.bool true) b) Q σ := by
  refine ⟨1, ?_⟩
  have e : ∀ st : (S → Prop) → S → Prop, iterW st 1 σ = st (fun _ => False) σ := fun st => rfl
  rw [e]
  exact ⟨fun _ => h, fun t => by cases t⟩
end
noncomputable def ngIf (f k : Nat) : CS := CS.ite (CE.not (CE.meth 0 f (CE.cons (CE.ctab 0) CE.nil))) (CS.seq (CS.raise k) CS.skip) CS.skip
noncomputable def inc1 : CS := CS.augf (CE.var 0) 1 .Add (CE.int 1)
noncomputable def blkA' : CS := (CS.seq (CS.asg 3 (CE.fld (CE.var 0) 1)) (CS.seq (CS.tryS (CS.seq (ngIf 4 2) (CS.seq (ngIf 5 2) (CS.seq inc1 (CS.seq CS.brk CS.skip)))) 2) (CS.seq (CS.setf (CE.var 0) 1 (CE.var 3)) (CS.seq (ngIf 2 1) (CS.seq (ngIf 3 1) (CS.seq inc1 (CS.seq CS.brk CS.skip)))))))
noncomputable def blkB : CS := (CS.seq (CS.asg 4 (CE.fld (CE.var 0) 1)) (CS.seq (CS.tryS (CS.seq (ngIf 4 1) (CS.seq (ngIf 5 1) (CS.seq inc1 (CS.seq CS.brk CS.skip)))) 1) (CS.seq (CS.setf (CE.var 0) 1 (CE.var 4)) (CS.seq (ngIf 2 0) (CS.seq (CS.ite (CE.cmp .GtE (CE.fld (CE.var 0) 1) (CE.fld (CE.var 0) 2)) (CS.seq (CS.raise 0) CS.skip) CS.skip) (CS.seq inc1 (CS.seq CS.brk CS.skip)))))))
noncomputable def blkX : CS := (CS.seq (CS.asg 2 (CE.fld (CE.var 0) 1)) (CS.seq (CS.tryS (CS.seq (ngIf 2 1) (CS.seq (CS.whl (CE.bool true) blkA') (CS.seq CS.brk CS.skip))) 1) (CS.seq (CS.setf (CE.var 0) 1 (CE.var 2)) (CS.seq (ngIf 4 0) (CS.seq (CS.whl (CE.bool true) blkB) (CS.seq CS.brk CS.skip))))))
noncomputable def try1 : CS := CS.tryS (CS.seq (CS.whl (CE.bool true) blkX) (CS.seq (CS.setf (CE.var 0) 6 (CE.fld (CE.var 0) 1)) CS.skip)) 0
noncomputable def try2 : CS := CS.tryS (CS.seq (ngIf 5 0) (CS.seq inc1 (CS.seq (ngIf 3 0) (CS.seq inc1 (CS.seq (CS.setf (CE.var 0) 7 (CE.fld (CE.var 0) 1)) (CS.seq (ngIf 5 0) (CS.seq inc1 (CS.seq (ngIf 3 0) (CS.seq inc1 (CS.seq (CS.setf (CE.var 0) 8 (CE.fld (CE.var 0) 1)) CS.skip)))))))))) 0
theorem bmr_eq : b_r_mark_regions = CS.seq (CS.setf (CE.var 0) 6 (CE.fld (CE.var 0) 2)) (CS.seq (CS.setf (CE.var 0) 7 (CE.fld (CE.var 0) 2)) (CS.seq (CS.setf (CE.var 0) 8 (CE.fld (CE.var 0) 2)) (CS.seq (CS.asg 1 (CE.fld (CE.var 0) 1)) (CS.seq try1 (CS.seq (CS.setf (CE.var 0) 1 (CE.var 1)) (CS.seq (CS.asg 5 (CE.fld (CE.var 0) 1)) (CS.seq try2 (CS.seq (CS.setf (CE.var 0) 1 (CE.var 5)) (CS.seq (CS.ret (CE.bool true)) CS.skip))))))))) := rfl
noncomputable def resA (s : List Bool) : Option Nat := match s[1]? with
  | some false => (nx true s 2).map (· + 1)
  | some true => (nx false s 2).map (· + 1)
  | none => none
noncomputable def resB (s : List Bool) : Option Nat := match s[1]? with
  | some false => (nx true s 2).map (· + 1)
  | some true => if 2 < s.length then some 3 else none
  | none => none
section
variable {d : Nat} {W : List Nat} {l p q r x y : Int} {Q : Fl → S → Prop} {v1 v2 v3 v4 v5 : Option AV} {rest : List (Option AV)}
theorem blkA_ok (hl : 1 ≤ W.length) (h1 : ∀ n v3, resA (sh W) = some n → Q .brk ⟨some .self :: v1 :: v2 :: v3 :: rest, FS W (n : Nat) W.length l x y p q r⟩)
    (h2 : ∀ ci v3, resA (sh W) = none → Q (.exc 1) ⟨some .self :: v1 :: v2 :: v3 :: rest, FS W ci W.length l x y p q r⟩) :
    wS tabs (PCt (d + 1)) blkA' Q ⟨some .self :: v1 :: v2 :: v3 :: rest, FS W 1 W.length l x y p q r⟩ := by
  have hlen : (sh W).length = W.length := by simp [sh]
  unfold resA at h1 h2
  unfold blkA' inc1 ngIf
  refine g_a3 rfl ?_
  refine sq2 fun R hR => ?_
  rw [w_try]
  match e : (sh W)[1]? with
  | some false =>
    rw [e] at h1 h2
    have l2 := (List.getElem?_eq_some_iff.mp e).1
    refine sq2 fun R2 hR2 => outg_t (c := 1) rfl rfl e ?_
    refine sk ?_
    subst hR2
    refine sq2 fun R2 hR2 => goout_ok (c := 2) rfl rfl (by omega) (fun n hn hlt => ?_) (fun hn => ?_)
    · have h1 := h1 (n + 1) (some (.int 1)) (by simp [hn])
      refine sk ?_
      subst hR2
      refine g_add rfl ?_
      exact h1
    · refine ⟨fun _ => ?_, fun z => (z rfl).elim⟩
      subst hR
      refine g_f1 rfl ?_
      refine sq2 fun R2 hR2 => ing_f (c := 1) rfl rfl (by omega) (by rw [e]; simp) ?_
      have h2 := h2 1 (some (.int 1)) (by simp [hn])
      exact h2
  | some true =>
    rw [e] at h1 h2
    have l2 := (List.getElem?_eq_some_iff.mp e).1
    refine sq2 fun R2 hR2 => outg_f (c := 1) rfl rfl (by omega) (by rw [e]; simp) ?_
    refine ⟨fun _ => ?_, fun z => (z rfl).elim⟩
    subst hR
    refine g_f1 rfl ?_
    refine sq2 fun R2 hR2 => ing_t (c := 1) rfl rfl e ?_
    refine sk ?_
    subst hR2
    refine sq2 fun R2 hR2 => goin_ok (c := 2) rfl rfl (by omega) (fun n hn hlt => ?_) (fun hn => ?_)
    · have h1 := h1 (n + 1) (some (.int 1)) (by simp [hn])
      refine sk ?_
      subst hR2
      refine g_add rfl ?_
      exact h1
    · have h2 := h2 W.length (some (.int 1)) (by simp [hn])
      exact h2
  | none =>
    rw [e] at h1 h2
    refine sq2 fun R2 hR2 => outg_f (c := 1) rfl rfl (by omega) (by rw [e]; simp) ?_
    refine ⟨fun _ => ?_, fun z => (z rfl).elim⟩
    subst hR
    refine g_f1 rfl ?_
    refine sq2 fun R2 hR2 => ing_f (c := 1) rfl rfl (by omega) (by rw [e]; simp) ?_
    have h2 := h2 1 (some (.int 1)) rfl
    exact h2
theorem blkB_ok (hl : 1 ≤ W.length) (h1 : ∀ n v4, resB (sh W) = some n → Q .brk ⟨some .self :: v1 :: v2 :: v3 :: v4 :: rest, FS W (n : Nat) W.length l x y p q r⟩)
    (h2 : ∀ ci v4, resB (sh W) = none → Q (.exc 0) ⟨some .self :: v1 :: v2 :: v3 :: v4 :: rest, FS W ci W.length l x y p q r⟩) :
    wS tabs (PCt (d + 1)) blkB Q ⟨some .self :: v1 :: v2 :: v3 :: v4 :: rest, FS W 1 W.length l x y p q r⟩ := by
  have hlen : (sh W).length = W.length := by simp [sh]
  unfold resB at h1 h2
  unfold blkB inc1 ngIf
  refine g_a4 rfl ?_
  refine sq2 fun R hR => ?_
  rw [w_try]
  match e : (sh W)[1]? with
  | some false =>
    rw [e] at h1 h2
    have l2 := (List.getElem?_eq_some_iff.mp e).1
    refine sq2 fun R2 hR2 => outg_t (c := 1) rfl rfl e ?_
    refine sk ?_
    subst hR2
    refine sq2 fun R2 hR2 => goout_ok (c := 2) rfl rfl (by omega) (fun n hn hlt => ?_) (fun hn => ?_)
    · have h1 := h1 (n + 1) (some (.int 1)) (by simp [hn])
      refine sk ?_
      subst hR2
      refine g_add rfl ?_
      exact h1
    · refine ⟨fun _ => ?_, fun z => (z rfl).elim⟩
      subst hR
      refine g_f1 rfl ?_
      refine sq2 fun R2 hR2 => ing_f (c := 1) rfl rfl (by omega) (by rw [e]; simp) ?_
      have h2 := h2 1 (some (.int 1)) (by simp [hn])
      exact h2
  | some true =>
    rw [e] at h1 h2
    have l2 := (List.getElem?_eq_some_iff.mp e).1
    refine sq2 fun R2 hR2 => outg_f (c := 1) rfl rfl (by omega) (by rw [e]; simp) ?_
    refine ⟨fun _ => ?_, fun z => (z rfl).elim⟩
    subst hR
    refine g_f1 rfl ?_
    refine sq2 fun R2 hR2 => ing_t (c := 1) rfl rfl e ?_
    refine sk ?_
    subst hR2
    refine sq2 fun R2 hR2 => i_p rfl rfl (fun z => ?_) (fun z => sk' ?_)
    · have h2 := h2 2 (some (.int 1)) (by rw [hlen, if_neg (by omega)])
      exact h2
    · have h1 := h1 3 (some (.int 1)) (by rw [hlen, if_pos (by omega)])
      subst hR2
      refine g_add rfl ?_
      exact h1
  | none =>
    rw [e] at h1 h2
    refine sq2 fun R2 hR2 => outg_f (c := 1) rfl rfl (by omega) (by rw [e]; simp) ?_
    refine ⟨fun _ => ?_, fun z => (z rfl).elim⟩
    subst hR
    refine g_f1 rfl ?_
    refine sq2 fun R2 hR2 => ing_f (c := 1) rfl rfl (by omega) (by rw [e]; simp) ?_
    have h2 := h2 1 (some (.int 1)) rfl
    exact h2
end
end Sp.Pu
end
section
set_option linter.all false
set_option maxRecDepth 100000
set_option maxHeartbeats 1000000
namespace Sp.Pu
open PySem (Operator CmpOp)
noncomputable def pVs (s : List Bool) : Nat := match s[0]? with
  | some true => (resA s).getD s.length
  | some false => (resB s).getD s.length
  | none => s.length
noncomputable def mr1 (s : List Bool) (c : Nat) : Option Nat := (nx true s c).bind fun n => (nx false s (n + 1)).map (· + 1)
noncomputable def p1s (s : List Bool) : Nat := (mr1 s 0).getD s.length
noncomputable def p2s (s : List Bool) : Nat := (mr1 s (p1s s)).getD s.length
section
variable {d : Nat} {W : List Nat} {l p q r x y : Int} {v0 v1 v2 v3 v4 v5 : Option AV} {rest loc : List (Option AV)}
theorem try1_ok {Q : Fl → S → Prop} (h : ∀ ci v2 v3 v4, Q .next ⟨some .self :: v1 :: v2 :: v3 :: v4 :: rest, FS W ci W.length l x y (pVs (sh W)) q r⟩) :
    wS tabs (PCt (d + 1)) try1 Q ⟨some .self :: v1 :: v2 :: v3 :: v4 :: rest, FS W 0 W.length l x y W.length q r⟩ := by
  have hlen : (sh W).length = W.length := by simp [sh]
  unfold try1
  rw [w_try]
  refine sq2 fun R0 hR0 => whl1 ?_
  unfold blkX
  refine g_a2 rfl ?_
  refine sq2 fun R hR => ?_
  rw [w_try]
  match e : (sh W)[0]? with
  | some true =>
    have hpV : pVs (sh W) = (resA (sh W)).getD W.length := by unfold pVs; rw [e, hlen]
    rw [hpV] at h
    have l1 := (List.getElem?_eq_some_iff.mp e).1
    refine sq2 fun R2 hR2 => ing_t (c := 0) rfl rfl e ?_
    refine sk ?_
    subst hR2
    refine sq2 fun R2 hR2 => whl1 (blkA_ok (by omega) (fun n v3 hn => ?_) (fun ci v3 hn => ?_))
    · rw [hn] at h
      subst hR2
      subst hR0
      have h := h n (some (.int 0)) v3 v4
      refine g_f6 rfl ?_
      exact h
    · rw [hn] at h
      refine ⟨fun _ => ?_, fun z => (z rfl).elim⟩
      subst hR
      refine g_f1 rfl ?_
      refine sq2 fun R2 hR2 => outg_f (c := 0) rfl rfl (by omega) (by rw [e]; simp) ?_
      have h := h 0 (some (.int 0)) v3 v4
      exact ⟨fun _ => h, fun z => (z rfl).elim⟩
  | some false =>
    have hpV : pVs (sh W) = (resB (sh W)).getD W.length := by unfold pVs; rw [e, hlen]
    rw [hpV] at h
    have l1 := (List.getElem?_eq_some_iff.mp e).1
    refine sq2 fun R2 hR2 => ing_f (c := 0) rfl rfl (by omega) (by rw [e]; simp) ?_
    refine ⟨fun _ => ?_, fun z => (z rfl).elim⟩
    subst hR
    refine g_f1 rfl ?_
    refine sq2 fun R2 hR2 => outg_t (c := 0) rfl rfl e ?_
    refine sk ?_
    subst hR2
    refine sq2 fun R2 hR2 => whl1 (blkB_ok (by omega) (fun n v4 hn => ?_) (fun ci v4 hn => ?_))
    · rw [hn] at h
      subst hR2
      subst hR0
      have h := h n (some (.int 0)) v3 v4
      refine g_f6 rfl ?_
      exact h
    · rw [hn] at h
      have h := h ci (some (.int 0)) v3 v4
      exact ⟨fun _ => h, fun z => (z rfl).elim⟩
  | none =>
    have hpV : pVs (sh W) = W.length := by unfold pVs; rw [e, hlen]
    rw [hpV] at h
    refine sq2 fun R2 hR2 => ing_f (c := 0) rfl rfl (by omega) (by rw [e]; simp) ?_
    refine ⟨fun _ => ?_, fun z => (z rfl).elim⟩
    subst hR
    refine g_f1 rfl ?_
    refine sq2 fun R2 hR2 => outg_f (c := 0) rfl rfl (by omega) (by rw [e]; simp) ?_
    have h := h 0 (some (.int 0)) v3 v4
    exact ⟨fun _ => h, fun z => (z rfl).elim⟩
theorem nx_end (b : Bool) (s : List Bool) : nx b s s.length = none := by
  unfold nx; rw [List.drop_length]; rfl
theorem try2_ok {Q : Fl → S → Prop} (h : ∀ ci, Q .next ⟨some .self :: loc, FS W ci W.length l x y p (p1s (sh W)) (p2s (sh W))⟩) :
    wS tabs (PCt (d + 1)) try2 Q ⟨some .self :: loc, FS W 0 W.length l x y p W.length W.length⟩ := by
  have hlen : (sh W).length = W.length := by simp [sh]
  have h0 : mr1 (sh W) 0 = none → p1s (sh W) = W.length ∧ p2s (sh W) = W.length := fun e => by
    have e1 : p1s (sh W) = W.length := by unfold p1s; rw [e, hlen]; rfl
    refine ⟨e1, ?_⟩
    unfold p2s
    rw [e1, ← hlen]
    unfold mr1
    rw [nx_end]; rfl
  unfold try2 inc1 ngIf
  rw [w_try]
  refine sq2 fun R hR => goout_ok (c := 0) rfl rfl (by omega) (fun n hn hlt => ?_) (fun hn => ?_)
  · refine sk ?_
    subst hR
    refine g_add rfl ?_
    refine sq2 fun R hR => goin_ok (c := n + 1) rfl (by omega) (by omega) (fun m hm hlt2 => ?_) (fun hm => ?_)
    · refine sk ?_
      have e1 : p1s (sh W) = m + 1 := by
        unfold p1s mr1
        rw [hn, Option.bind_some, hm]; rfl
      subst hR
      refine g_add rfl ?_
      refine g_f7 rfl ?_
      refine sq2 fun R hR => goout_ok (c := m + 1) rfl (by omega) (by omega) (fun n2 hn2 hlt3 => ?_) (fun hn2 => ?_)
      · refine sk ?_
        subst hR
        refine g_add rfl ?_
        refine sq2 fun R hR => goin_ok (c := n2 + 1) rfl (by omega) (by omega) (fun m2 hm2 hlt4 => ?_) (fun hm2 => ?_)
        · have e2 : p2s (sh W) = m2 + 1 := by
            unfold p2s mr1
            rw [e1, hn2, Option.bind_some, hm2]; rfl
          rw [e1, e2] at h
          refine sk ?_
          subst hR
          refine g_add rfl ?_
          refine g_f8 rfl ?_
          exact h ((m2 : Int) + 1)
        · have e2 : p2s (sh W) = W.length := by
            unfold p2s mr1
            rw [e1, hn2, Option.bind_some, hm2, hlen]; rfl
          rw [e1, e2] at h
          have h := h W.length
          exact ⟨fun _ => h, fun z => (z rfl).elim⟩
      · have e2 : p2s (sh W) = W.length := by
          unfold p2s mr1
          rw [e1, hn2, hlen]; rfl
        rw [e1, e2] at h
        have h := h W.length
        exact ⟨fun _ => h, fun z => (z rfl).elim⟩
    · obtain ⟨e1, e2⟩ := h0 (by unfold mr1; rw [hn, Option.bind_some, hm]; rfl)
      rw [e1, e2] at h
      have h := h W.length
      exact ⟨fun _ => h, fun z => (z rfl).elim⟩
  · obtain ⟨e1, e2⟩ := h0 (by unfold mr1; rw [hn]; rfl)
    rw [e1, e2] at h
    have h := h W.length
    exact ⟨fun _ => h, fun z => (z rfl).elim⟩
theorem mark_core {Q : AV → List AV → Prop} {v1 v2 v3 v4 v5 : Option AV} (h : Q (.bool true) (FS W 0 W.length l x y (pVs (sh W)) (p1s (sh W)) (p2s (sh W)))) :
    wS tabs (PCt (d + 1)) (CS.seq (CS.asg 1 (CE.fld (CE.var 0) 1)) (CS.seq try1 (CS.seq (CS.setf (CE.var 0) 1 (CE.var 1)) (CS.seq (CS.asg 5 (CE.fld (CE.var 0) 1)) (CS.seq try2 (CS.seq (CS.setf (CE.var 0) 1 (CE.var 5)) (CS.seq (CS.ret (CE.bool true)) CS.skip))))))) (endK Q)
      ⟨some .self :: v1 :: v2 :: v3 :: v4 :: v5 :: rest, FS W 0 W.length l x y W.length W.length W.length⟩ := by
  refine g_a1 rfl ?_
  refine sq2 fun R hR => try1_ok fun ci v2 v3 v4 => ?_
  subst hR
  refine g_f1 rfl ?_
  refine g_a5 rfl ?_
  refine sq2 fun R hR => try2_ok fun ci => ?_
  subst hR
  refine g_f1 rfl ?_
  exact h
theorem mark_ok {Q : AV → List AV → Prop} {p q r : AV} (h : Q (.bool true) (FS W 0 W.length l x y (pVs (sh W)) (p1s (sh W)) (p2s (sh W)))) :
    PCt (d + 2) 13 [.self] [.str W, .int 0, .int W.length, .int l, .int x, .int y, p, q, r] Q := by
  refine pcu ⟨1, 10, b_r_mark_regions⟩ rfl rfl rfl ?_
  simp only
  rw [bmr_eq]
  exact g_setf rfl rfl (g_setf rfl rfl (g_setf rfl rfl (mark_core h)))
theorem mark_ok6 {Q : AV → List AV → Prop} (h : Q (.bool true) (FS W 0 W.length l x y (pVs (sh W)) (p1s (sh W)) (p2s (sh W)))) :
    PCt (d + 2) 13 [.self] [.str W, .int 0, .int W.length, .int l, .int x, .int y] Q := by
  refine pcu ⟨1, 10, b_r_mark_regions⟩ rfl rfl rfl ?_
  simp only
  rw [bmr_eq]
  exact g_setf rfl rfl (g_setf rfl rfl (g_setf rfl rfl (mark_core h)))
end
end Sp.Pu
end
section
set_option linter.all false
set_option maxRecDepth 100000
set_option maxHeartbeats 1000000
namespace Sp.Pu
open PySem (Operator CmpOp)
noncomputable def midP (p q1 q2 : Nat) (W : List Nat) : List Nat := match stdP q1 q2 W with
  | some w => w
  | none => match yP p W with
    | some w => w
    | none => verbP p W
noncomputable def stemP (W : List Nat) : List Nat := (resP (pVs (sh W)) (midP (pVs (sh W)) (p1s (sh W)) (p2s (sh W)) (attachP (pVs (sh W)) W))).map bareC
theorem attach_len (p : Nat) (W : List Nat) : (attachP p W).length ≤ W.length := by
  unfold attachP
  simp only
  split
  · have := lng_le g_forms (W.take (W.length - (lng g_pronouns W).length))
    simp at this ⊢
    omega
  · exact Nat.le_refl _
theorem rule_in {e : List Nat} {r : Rul} : ∀ (l : List Rul) (acc : Option Rul), l.foldl (fun acc r => if e ∈ r.ends then some r else acc) acc = some r → r ∈ l ∨ acc = some r
  | [], acc, h => .inr h
  | a :: l, acc, h => by
    rcases rule_in l _ h with q | q
    · exact .inl (.tail _ q)
    · simp only at q
      split at q
      · cases q; exact .inl (.head _)
      · exact .inr q
theorem rules_ins : ∀ r ∈ g_rules, r.ins.length ≤ 4 := by decide +kernel
theorem std_len {q1 q2 : Nat} {W w : List Nat} (h : stdP q1 q2 W = some w) : w.length ≤ W.length + 4 := by
  unfold stdP at h
  simp only at h
  by_cases c : lng stdL W ≠ [] ∧ (if lng stdL W = amente then q1 else q2) ≤ W.length - (lng stdL W).length
  · rw [if_pos c] at h
    obtain ⟨r, hr, rfl⟩ := Option.map_eq_some_iff.mp h
    unfold rf at hr
    obtain ⟨rr, hrr, rfl⟩ := Option.map_eq_some_iff.mp hr
    rcases rule_in _ _ hrr with q | q
    · have := rules_ins rr q
      simp; omega
    · cases q
  · rw [if_neg c] at h; cases h
theorem y_len {p : Nat} {W w : List Nat} (h : yP p W = some w) : w.length ≤ W.length := by
  unfold yP at h
  simp only at h
  split at h
  · cases h; simp
  · cases h
theorem verb_len (p : Nat) (W : List Nat) : (verbP p W).length ≤ W.length := by
  unfold verbP
  simp only
  split <;> simp <;> omega
theorem mid_len (p q1 q2 : Nat) (W : List Nat) : (midP p q1 q2 W).length ≤ W.length + 4 := by
  unfold midP
  split
  · exact std_len ‹_›
  · split
    · have := y_len ‹_›; omega
    · have := verb_len p W; omega
theorem res_len (p : Nat) (W : List Nat) : (resP p W).length ≤ W.length := by
  unfold resP
  simp only
  split <;> simp <;> omega
section
variable {d f : Nat} {W : List Nat} {l p q r x y : Int} {Q : Fl → S → Prop} {a b : CS} {loc : List (Option AV)} {fs : List AV}
theorem ex_m (h : PCt d f [.self] fs (fun v fs => isScal v = true ∧ Q .next ⟨some .self :: loc, fs⟩)) : wS tabs (PCt d) (.ex (.meth 0 f .nil)) Q ⟨some .self :: loc, fs⟩ := by
  exact ⟨rfl, h⟩
theorem ite_m (h : PCt d f [.self] fs (fun v fs => ∃ t, v = .bool t ∧ (t = true → wS tabs (PCt d) b Q ⟨some .self :: loc, fs⟩) ∧ (t = false → wS tabs (PCt d) a Q ⟨some .self :: loc, fs⟩))) :
    wS tabs (PCt d) (.ite (.not (.meth 0 f .nil)) a b) Q ⟨some .self :: loc, fs⟩ := by
  rw [w_ite]
  refine ⟨rfl, ?_⟩
  have e : (fun (v : AV) (fs : List AV) => ∃ t, v = .bool t ∧ (t = true → wS tabs (PCt d) b Q ⟨some .self :: loc, fs⟩) ∧ (t = false → wS tabs (PCt d) a Q ⟨some .self :: loc, fs⟩)) =
      (fun (v : AV) (fs : List AV) => ∃ t, v = .bool t ∧ ((!t) = true → wS tabs (PCt d) a Q ⟨some .self :: loc, fs⟩) ∧ ((!t) = false → wS tabs (PCt d) b Q ⟨some .self :: loc, fs⟩)) := by
    funext v fs
    apply propext
    constructor
    · rintro ⟨t, e, h1, h2⟩
      exact ⟨t, e, fun z => h2 (by simpa using z), fun z => h1 (by simpa using z)⟩
    · rintro ⟨t, e, h1, h2⟩
      exact ⟨t, e, fun z => h2 (by simpa using z), fun z => h1 (by simpa using z)⟩
  rw [e] at h
  exact h
end
noncomputable def tryIn (f : Nat) : CS := CS.tryS (CS.seq (CS.ite (CE.not (CE.meth 0 f CE.nil)) (CS.seq (CS.raise 1) CS.skip) CS.skip) (CS.seq CS.brk CS.skip)) 1
noncomputable def backC (v : Nat) : CS := CS.setf (CE.var 0) 1 (CE.bin .Sub (CE.fld (CE.var 0) 2) (CE.var v))
noncomputable def offC (v : Nat) : CS := CS.asg v (CE.bin .Sub (CE.fld (CE.var 0) 2) (CE.fld (CE.var 0) 1))
noncomputable def loopM : CS := CS.seq (offC 3) (CS.seq (tryIn 18) (CS.seq (backC 3) (CS.seq (tryIn 19) (CS.seq (backC 3) (CS.seq (CS.ite (CE.not (CE.meth 0 20 CE.nil)) (CS.seq (CS.raise 0) CS.skip) CS.skip) (CS.seq CS.brk CS.skip))))))
noncomputable def tryM : CS := CS.tryS (CS.seq (CS.whl (CE.bool true) loopM) CS.skip) 0
noncomputable def tailM : CS := (CS.seq (CS.setf (CE.var 0) 3 (CE.fld (CE.var 0) 1)) (CS.seq (CS.setf (CE.var 0) 1 (CE.fld (CE.var 0) 2)) (CS.seq (offC 1) (CS.seq (CS.ex (CE.meth 0 17 CE.nil)) (CS.seq (backC 1) (CS.seq (offC 2) (CS.seq tryM (CS.seq (backC 2) (CS.seq (offC 4) (CS.seq (CS.ex (CE.meth 0 21 CE.nil)) (CS.seq (backC 4) (CS.seq (CS.setf (CE.var 0) 1 (CE.fld (CE.var 0) 3)) (CS.seq (CS.asg 5 (CE.fld (CE.var 0) 1)) (CS.seq (CS.ex (CE.meth 0 14 CE.nil)) (CS.seq (CS.setf (CE.var 0) 1 (CE.var 5)) (CS.seq (CS.ret (CE.bool true)) CS.skip))))))))))))))))
theorem bst_eq : b_p_stem = CS.seq (CS.ex (CE.meth 0 13 CE.nil)) tailM := rfl
section
variable {d : Nat} {W : List Nat} {x y : Int} {p q1 q2 : Nat} {v1 v2 v3 v4 v5 : Option AV} {rest : List (Option AV)}
theorem tryM_ok {Q : Fl → S → Prop} (hl : W.length ≤ 1000) (h : ∀ c x y v3, Q .next ⟨some .self :: v1 :: v2 :: v3 :: rest, FS (midP p q1 q2 W) c (midP p q1 q2 W).length 0 x y p q1 q2⟩) :
    wS tabs (PCt (d + 4)) tryM Q ⟨some .self :: v1 :: v2 :: v3 :: rest, FS W W.length W.length 0 x y p q1 q2⟩ := by
  unfold tryM
  rw [w_try]
  refine sq2 fun R hR => whl1 ?_
  unfold loopM offC backC tryIn
  refine g_a3 off0 ?_
  refine sq2 fun R1 hR1 => ?_
  rw [w_try]
  refine sq2 fun R2 hR2 => ite_m (std_ok hl (fun w hw c x y => ?_) (fun hn c x y => ?_))
  · have hv : midP p q1 q2 W = w := by unfold midP; rw [hw]
    rw [hv] at h
    refine ⟨true, rfl, fun _ => ?_, fun z => by cases z⟩
    subst hR2
    subst hR
    exact h _ _ _ _
  · refine ⟨false, rfl, (fun z => by cases z), fun _ => ?_⟩
    refine ⟨fun _ => ?_, fun z => (z rfl).elim⟩
    subst hR1
    refine g_f1 (back0 rfl) ?_
    refine sq2 fun R1 hR1 => ?_
    rw [w_try]
    refine sq2 fun R2 hR2 => ite_m (yverb_ok hl (fun w hw c x y => ?_) (fun hn2 c x y => ?_))
    · have hv : midP p q1 q2 W = w := by unfold midP; rw [hn]; simp only [hw]
      rw [hv] at h
      refine ⟨true, rfl, fun _ => ?_, fun z => by cases z⟩
      subst hR2
      subst hR
      exact h _ _ _ _
    · have hv : midP p q1 q2 W = verbP p W := by unfold midP; rw [hn]; simp only [hn2]
      rw [hv] at h
      refine ⟨false, rfl, (fun z => by cases z), fun _ => ?_⟩
      refine ⟨fun _ => ?_, fun z => (z rfl).elim⟩
      subst hR1
      refine g_f1 (back0 rfl) ?_
      refine sq2 fun R2 hR2 => ite_m (verb_ok hl (fun b c x y => ⟨b, rfl, fun _ => ?_, fun _ => ?_⟩))
      · refine sk ?_
        subst hR2 
        subst hR
        exact h _ _ _ _
      · exact ⟨fun _ => h _ _ _ _, fun z => (z rfl).elim⟩
end
end Sp.Pu
end
section
set_option linter.all false
set_option maxRecDepth 100000
set_option maxHeartbeats 1000000
namespace Sp.Pu
open PySem (Operator CmpOp)
section
variable {d : Nat} {W : List Nat} {x y : Int} {Q : AV → List AV → Prop}
theorem tail_ok {v1 v2 v3 v4 v5 : Option AV} {rest : List (Option AV)} (hl : W.length ≤ 900) (h : ∀ c lm x y p q r : Int, Q (.bool true) (FS (stemP W) c lm 0 x y p q r)) :
    wS tabs (PCt (d + 4)) tailM (endK Q) ⟨some .self :: v1 :: v2 :: v3 :: v4 :: v5 :: rest, FS W 0 W.length 0 x y (pVs (sh W)) (p1s (sh W)) (p2s (sh W))⟩ := by
  unfold stemP at h
  generalize pVs (sh W) = p at *
  generalize p1s (sh W) = q1 at *
  generalize p2s (sh W) = q2 at *
  have l1 := attach_len p W
  unfold tailM offC backC
  refine g_f3 rfl ?_
  refine g_f1 rfl ?_
  refine g_a1 off0 ?_
  refine sq2 fun R hR => ex_m (attach_ok (by omega) fun b c x y => ⟨rfl, ?_⟩)
  generalize attachP p W = W1 at *
  have l2 := mid_len p q1 q2 W1
  subst hR
  refine g_f1 (back0 rfl) ?_
  refine g_a2 off0 ?_
  refine sq2 fun R hR => tryM_ok (by omega) fun c x y v3 => ?_
  generalize midP p q1 q2 W1 = W2 at *
  have l3 := res_len p W2
  subst hR
  refine g_f1 (back0 rfl) ?_
  refine g_a4 off0 ?_
  refine sq2 fun R hR => ex_m (residual_ok (by omega) fun b c x y => ⟨rfl, ?_⟩)
  generalize resP p W2 = W3 at *
  subst hR
  refine g_f1 (back0 rfl) ?_
  refine g_f1 rfl ?_
  refine g_a5 rfl ?_
  refine sq2 fun R hR => ex_m (post_ok (by omega) fun c x y => ⟨rfl, ?_⟩)
  subst hR
  refine g_f1 rfl ?_
  exact h _ _ _ _ _ _ _
theorem stem_ok {p q r : AV} (hl : W.length ≤ 900) (h : ∀ c lm x y p q r : Int, Q (.bool true) (FS (stemP W) c lm 0 x y p q r)) :
    PCt (d + 5) 22 [.self] [.str W, .int 0, .int W.length, .int 0, .int x, .int y, p, q, r] Q := by
  refine pcu ⟨1, 8, b_p_stem⟩ rfl rfl rfl ?_
  simp only
  rw [bst_eq]
  refine sq2 fun R hR => ex_m (mark_ok ⟨rfl, ?_⟩)
  subst hR
  exact tail_ok hl h
theorem stem_ok6 (hl : W.length ≤ 900) (h : ∀ c lm x y p q r : Int, Q (.bool true) (FS (stemP W) c lm 0 x y p q r)) :
    PCt (d + 5) 22 [.self] [.str W, .int 0, .int W.length, .int 0, .int x, .int y] Q := by
  refine pcu ⟨1, 8, b_p_stem⟩ rfl rfl rfl ?_
  simp only
  rw [bst_eq]
  refine sq2 fun R hR => ex_m (mark_ok6 ⟨rfl, ?_⟩)
  subst hR
  exact tail_ok hl h
theorem word_ok {fs : List AV} (hl : W.length ≤ 900) (hfs : fs.length = 6 ∨ fs.length = 9) (h : ∀ c lm x y p q r : Int, Q (.str (stemP W)) (FS (stemP W) c lm 0 x y p q r)) :
    PCt (d + 6) 12 [.self, .str W] fs Q := by
  refine pcu ⟨2, 2, b_stemWord⟩ rfl rfl rfl ?_
  unfold b_stemWord
  simp only
  have fin : ∀ c lm x y p q r : Int, wS tabs (PCt (d + 5)) (CS.seq (CS.ret (CE.meth 0 1 CE.nil)) CS.skip) (endK Q) ⟨[some .self, some (.str W)], FS (stemP W) c lm 0 x y p q r⟩ := fun c lm x y p q r => by
    have h := h c lm x y p q r
    exact ⟨rfl, pcu ⟨1, 1, b_get_current⟩ rfl rfl rfl (g_ret (v := .str (stemP W)) rfl h)⟩
  refine sq2 fun R hR => ⟨rfl, _, rfl, set_current_ok (fs := fs) (by unfold lim; omega) (.inr (by omega)) ⟨rfl, ?_⟩⟩
  subst hR
  rcases hfs with hfs | hfs
  · rw [List.drop_of_length_le (by omega)]
    refine sq2 fun R hR => ex_m (stem_ok6 hl fun c lm x y p q r => ⟨rfl, ?_⟩)
    subst hR
    exact fin _ _ _ _ _ _ _
  · obtain ⟨a0, f1, e0, g0⟩ := len_succ hfs
    obtain ⟨a1, f2, e1, g1⟩ := len_succ g0
    obtain ⟨a2, f3, e2, g2⟩ := len_succ g1
    obtain ⟨a3, f4, e3, g3⟩ := len_succ g2
    obtain ⟨a4, f5, e4, g4⟩ := len_succ g3
    obtain ⟨a5, f6, e5, g5⟩ := len_succ g4
    obtain ⟨a6, f7, e6, g6⟩ := len_succ g5
    obtain ⟨a7, f8, e7, g7⟩ := len_succ g6
    obtain ⟨a8, f9, e8, g8⟩ := len_succ g7
    have e9 := List.eq_nil_of_length_eq_zero g8
    subst e0 e1 e2 e3 e4 e5 e6 e7 e8 e9
    refine sq2 fun R hR => ex_m (stem_ok hl fun c lm x y p q r => ⟨rfl, ?_⟩)
    subst hR
    exact fin _ _ _ _ _ _ _
end
end Sp.Pu
end
section
set_option linter.all false
set_option maxRecDepth 100000
set_option maxHeartbeats 1000000
namespace Sp.Pu
open PySem (Operator CmpOp)
section
variable {d : Nat} {fs : List AV} {Q : AV → List AV → Prop}
theorem vowels_ok (h : Q (.strs gvL) fs) : PCt (d + 1) 100 [] fs Q := by
  refine pcu ⟨0, 0, b_law_vowels⟩ rfl rfl rfl ?_
  exact ⟨⟨Nat.le_of_ble_eq_true rfl, by decide⟩, h⟩
theorem bare_ok {l : List Nat} (h : Q (.str (l.map bareC)) fs) : PCt (d + 1) 106 [.str l] fs Q := by
  exact h
noncomputable def stdB : CS := CS.seq (CS.asg 0 (CE.bin .Add (CE.var 0) (CE.idx (CE.var 1) (CE.int 0)))) CS.skip
theorem std_loop {C : Nat → List AV → List AV → (AV → List AV → Prop) → Prop} {Q : Fl → S → Prop} : ∀ (rs : List Rul) (acc : List (List Nat)) (v1 : Option AV), acc.length + (rs.flatMap (·.ends)).length ≤ lim →
    (∀ v1, Q .next ⟨[some (.strs (acc ++ rs.flatMap (·.ends))), v1, none], fs⟩) → forW (stepW C stdB 1 Q) (Q .next) (rs.map .rule) ⟨[some (.strs acc), v1, none], fs⟩
  | [], acc, v1, hl, h => by
    have := h v1
    simp at this
    exact this
  | r :: rs, acc, v1, hl, h => by
    show wS tabs C stdB (loopK Q (forW (stepW C stdB 1 Q) (Q .next) (rs.map .rule))) _
    have IH := std_loop (C := C) (Q := Q) rs (acc ++ r.ends) (some (.rule r)) (by simp at hl ⊢; omega) (fun v1 => by
      have := h v1
      simpa using this)
    generalize forW (stepW C stdB 1 Q) (Q .next) (rs.map .rule) = ag at IH ⊢
    have o1 : opIdx (.rule r) (.int 0) = some (.strs r.ends) := rfl
    have o2 : opBin .Add (.strs acc) (.strs r.ends) = some (.strs (acc ++ r.ends)) := by
      show (if _ then _ else _) = _
      rw [if_pos (by simp at hl; omega)]
    exact g_a0 (ev_bin rfl (ev_idx rfl rfl o1) o2) IH
theorem standard_ok (h : Q (.strs stdL) fs) : PCt (d + 1) 101 [] fs Q := by
  refine pcu ⟨0, 3, b_law_standard⟩ rfl rfl rfl ?_
  unfold b_law_standard
  simp only
  have g : tabs.glob 3 = some (.rules g_rules) := rfl
  have it : itemsOf (.rules g_rules) = some (g_rules.map .rule) := rfl
  refine g_a0 (u := .strs []) rfl ?_
  refine sq2 fun R hR => ⟨_, g, _, it, std_loop g_rules [] none (by decide +kernel) fun v1 => ?_⟩
  subst hR
  exact ⟨_, rfl, h⟩
/-- the word's shape -/
noncomputable def shN (W : List Nat) : List Nat := W.map fun c => if isV c then 118 else 99
noncomputable def shapeB : CS := CS.seq (CS.asg 1 (CE.bin .Add (CE.var 1) (CE.ite (CE.cmp .In (CE.var 2) (CE.call 100 CE.nil)) (CE.str [118]) (CE.str [99])))) CS.skip
theorem shape_loop {Q : Fl → S → Prop} {v0 v3 : Option AV} : ∀ (W acc : List Nat) (v2 : Option AV), acc.length + W.length ≤ 1000 →
    (∀ v2, Q .next ⟨[v0, some (.str (acc ++ shN W)), v2, v3], fs⟩) → forW (stepW (PCt (d + 1)) shapeB 2 Q) (Q .next) (W.map fun c => .str [c]) ⟨[v0, some (.str acc), v2, v3], fs⟩
  | [], acc, v2, hl, h => by
    have := h v2
    simp [shN] at this
    exact this
  | c :: W, acc, v2, hl, h => by
    show wS tabs (PCt (d + 1)) shapeB (loopK Q (forW (stepW (PCt (d + 1)) shapeB 2 Q) (Q .next) (W.map fun c => .str [c]))) _
    have IH := shape_loop (Q := Q) (v0 := v0) (v3 := v3) W (acc ++ [if isV c then 118 else 99]) (some (.str [c])) (by simp at hl ⊢; omega) (fun v1 => by
      have := h v1
      simpa [shN] using this)
    generalize forW (stepW (PCt (d + 1)) shapeB 2 Q) (Q .next) (W.map fun c => .str [c]) = ag at IH ⊢
    have l1 : ([118] : List Nat).length ≤ lim := Nat.le_of_ble_eq_true rfl
    have l1' : ([99] : List Nat).length ≤ lim := Nat.le_of_ble_eq_true rfl
    have l2 : ∀ x : Nat, acc.length + [x].length ≤ lim := fun x => by simp at hl ⊢; unfold lim; omega
    refine ⟨_, rfl, _, rfl, vowels_ok ⟨_, rfl, fun z => ?_, fun z => ?_⟩⟩
    · have v : isV c = true := z
      rw [if_pos v] at IH
      exact ⟨l1, _, (ob_sadd _ _).trans (if_pos (l2 _)), IH⟩
    · have v : isV c = false := z
      rw [if_neg (by rw [v]; decide)] at IH
      exact ⟨l1', _, (ob_sadd _ _).trans (if_pos (l2 _)), IH⟩
theorem shape_ok {W : List Nat} (hl : W.length ≤ 1000) (h : Q (.str (shN W)) fs) : PCt (d + 2) 102 [.str W] fs Q := by
  refine pcu ⟨1, 4, b_law_shape⟩ rfl rfl rfl ?_
  unfold b_law_shape
  simp only
  refine g_a1 (u := .str []) rfl ?_
  refine sq2 fun R hR => ⟨_, rfl, _, rfl, shape_loop W [] none (by simpa using hl) fun v1 => ?_⟩
  subst hR
  exact ⟨_, rfl, h⟩
/-- n, .., 1 -/
noncomputable def dn1 (n : Nat) : List AV := (List.range n).map fun (k : Nat) => AV.int ((n : Int) - k)
theorem dn1_succ (q : Nat) : dn1 (q + 1) = .int ((q + 1 : Nat) : Int) :: dn1 q := by
  unfold dn1
  rw [List.range_succ_eq_map, List.map_cons, List.map_map]
  refine List.cons_eq_cons.mpr ⟨?_, List.map_congr_left fun k _ => ?_⟩
  · have : ((q + 1 : Nat) : Int) - ((0 : Nat) : Int) = ((q + 1 : Nat) : Int) := by omega
    rw [this]
  · show AV.int (((q + 1 : Nat) : Int) - ((k + 1 : Nat) : Int)) = AV.int ((q : Int) - (k : Int))
    have : ((q + 1 : Nat) : Int) - ((k + 1 : Nat) : Int) = (q : Int) - (k : Int) := by omega
    rw [this]
theorem rangeL_dn1 (q : Nat) (hq : q ≤ 1048576) : rangeL q 0 (-1) = some (dn1 q) := by
  unfold rangeL lim
  rw [if_pos (by omega), if_neg (by decide), if_pos rfl]
  unfold dn1
  rw [show ((q : Int) - 0).toNat = q by omega]
noncomputable def endB : CS := (CS.seq (CS.ite (CE.cmp .In (CE.slice (CE.var 0) (CE.bin .Sub (CE.len (CE.var 0)) (CE.var 2)) CE.none) (CE.var 1)) (CS.seq (CS.ret (CE.slice (CE.var 0) (CE.bin .Sub (CE.len (CE.var 0)) (CE.var 2)) CE.none)) CS.skip) CS.skip) CS.skip)
theorem end_loop {C : Nat → List AV → List AV → (AV → List AV → Prop) → Prop} {Q : Fl → S → Prop} {t : List Nat} {L : List (List Nat)} (ht : t.length ≤ 1000) : ∀ (n : Nat) (v2 : Option AV), n ≤ t.length →
    (lngN L t n ≠ [] → ∀ v2, Q (.ret (.str (lngN L t n))) ⟨[some (.str t), some (.strs L), v2, none, none, none], fs⟩) →
    (lngN L t n = [] → ∀ v2, Q .next ⟨[some (.str t), some (.strs L), v2, none, none, none], fs⟩) →
    forW (stepW C endB 2 Q) (Q .next) (dn1 n) ⟨[some (.str t), some (.strs L), v2, none, none, none], fs⟩
  | 0, v2, hn, h1, h2 => h2 rfl v2
  | n + 1, v2, hn, h1, h2 => by
    rw [dn1_succ]
    show wS tabs C endB (loopK Q (forW (stepW C endB 2 Q) (Q .next) (dn1 n))) _
    have IH := end_loop (C := C) (Q := Q) (L := L) ht n (some (.int ((n + 1 : Nat) : Int))) (by omega)
    generalize forW (stepW C endB 2 Q) (Q .next) (dn1 n) = ag at IH ⊢
    have sl := osll t ((t.length : Int) - ((n + 1 : Nat) : Int)) (t.length - (n + 1)) (by omega) (by omega)
    have e : lngN L t (n + 1) = if t.drop (t.length - (n + 1)) ∈ L then t.drop (t.length - (n + 1)) else lngN L t n := rfl
    unfold endB
    have hs : ∀ v, ev tabs (CE.slice (CE.var 0) (CE.bin .Sub (CE.len (CE.var 0)) (CE.var 2)) CE.none) ⟨[some (.str t), some (.strs L), some (.int ((n + 1 : Nat) : Int)), none, none, none], v⟩ = some (.str (t.drop (t.length - (n + 1)))) := fun v => ev_slice rfl rfl rfl sl
    by_cases z : t.drop (t.length - (n + 1)) ∈ L
    · rw [if_pos z] at e
      have ne : lngN L t (n + 1) ≠ [] := by
        rw [e]
        intro q
        have := congrArg List.length q
        simp at this
        omega
      have h1 := h1 ne (some (.int ((n + 1 : Nat) : Int)))
      rw [e] at h1
      exact g_t rfl (ev_cmp (hs _) rfl ((oc_in _ _).trans (congrArg some (decide_eq_true z)))) (g_ret (hs _) h1)
    · rw [if_neg z] at e
      rw [e] at h1 h2
      have IH := IH h1 h2
      exact g_fs rfl (ev_cmp (hs _) rfl ((oc_in _ _).trans (congrArg some (decide_eq_false z)))) IH
theorem end_ok {t : List Nat} {L : List (List Nat)} (ht : t.length ≤ 1000) (h : Q (.str (lng L t)) fs) : PCt (d + 1) 105 [.str t, .strs L] fs Q := by
  refine pcu ⟨2, 6, b_law_end⟩ rfl rfl rfl ?_
  show wS tabs (PCt d) (CS.seq (CS.forR 2 _ _ (-1) endB) (CS.seq (CS.ret (CE.str [])) CS.skip)) _ _
  refine sq2 fun R hR => ?_
  change wE tabs _ _ (fun x σ => wE tabs _ _ (fun y σ => ∃ p q l, x = .int p ∧ y = .int q ∧ rangeL p q (-1) = some l ∧ forW (stepW (PCt d) endB 2 (seqK (endK Q) R)) (seqK (endK Q) R .next) l σ) σ) _
  have lp := end_loop (C := PCt d) (Q := seqK (endK Q) R) (fs := fs) (L := L) ht (min t.length 8) none (by omega) (fun _ v2 => h) (fun e v2 => by
    have e : lng L t = [] := e
    rw [e] at h
    subst hR
    exact ⟨Nat.zero_le _, h⟩)
  generalize stepW (PCt d) endB 2 (seqK (endK Q) R) = st at lp ⊢
  have om : opMin (.int (t.length : Nat)) (.int 8) = some (.int ((min t.length 8 : Nat) : Int)) := by
    have e : min ((t.length : Nat) : Int) 8 = ((min t.length 8 : Nat) : Int) := by omega
    rw [← e]; rfl
  have rl := rangeL_dn1 (min t.length 8) (by omega)
  generalize min t.length 8 = k at *
  exact ⟨_, rfl, _, rfl, _, om, _, _, _, rfl, rfl, rl, lp⟩
end
end Sp.Pu
end
section
set_option linter.all false
set_option maxRecDepth 100000
set_option maxHeartbeats 1000000
namespace Sp.Pu
open PySem (Operator CmpOp)
noncomputable def pstL (part : List Nat) : List Nat → Nat → Option Nat
  | [], _ => none
  | a :: r, n => if part <+: a :: r then some (n + part.length) else pstL part r (n + 1)
noncomputable def pastN (Z part : List Nat) (c : Nat) : Nat := (pstL part (Z.drop c) c).getD Z.length
theorem pst_short {part : List Nat} : ∀ (l : List Nat) (n : Nat), l.length < part.length → pstL part l n = none
  | [], n, h => rfl
  | a :: r, n, h => by
    unfold pstL
    rw [if_neg (fun q => by have := q.length_le; omega)]
    exact pst_short r (n + 1) (by simp at h; omega)
noncomputable def pastB : CS := (CS.seq (CS.ite (CE.cmp .Eq (CE.slice (CE.var 0) (CE.var 2) (CE.bin .Add (CE.var 2) (CE.len (CE.var 1)))) (CE.var 1)) (CS.seq (CS.ret (CE.bin .Add (CE.var 2) (CE.len (CE.var 1)))) CS.skip) CS.skip) (CS.seq (CS.augl 2 .Add (CE.int 1)) CS.skip))
noncomputable def pastT : CE := CE.cmp .LtE (CE.bin .Add (CE.var 2) (CE.len (CE.var 1))) (CE.len (CE.var 0))
noncomputable def stepT (C : Nat → List AV → List AV → (AV → List AV → Prop) → Prop) (c : CE) (b : CS) (Q : Fl → S → Prop) : (S → Prop) → S → Prop := fun again σ => wT tabs C c (fun t σ => (t = true → wS tabs C b (loopK Q again) σ) ∧ (t = false → Q .next σ)) σ
section
variable {d : Nat} {fs : List AV}
theorem past_loop {C : Nat → List AV → List AV → (AV → List AV → Prop) → Prop} {Q : Fl → S → Prop} {Z part : List Nat} (hp : part ≠ []) (hS : Z.length ≤ 1000) (hpl : part.length ≤ 1000) : ∀ (m c : Nat), Z.length + 1 ≤ c + m → c ≤ Z.length + 1 →
    (∀ n c', pstL part (Z.drop c) c = some n → Q (.ret (.int (n : Nat))) ⟨[some (.str Z), some (.str part), some (.int (c' : Nat)), none], fs⟩) →
    (∀ c', pstL part (Z.drop c) c = none → Q .next ⟨[some (.str Z), some (.str part), some (.int (c' : Nat)), none], fs⟩) →
    iterW (stepT C pastT pastB Q) (m + 1) ⟨[some (.str Z), some (.str part), some (.int (c : Nat)), none], fs⟩
  | m, c, hm, hc, h1, h2 => by
    have p0 : 0 < part.length := List.length_pos_iff.mpr hp
    show stepT C pastT pastB Q (iterW (stepT C pastT pastB Q) m) _
    by_cases z : c + part.length ≤ Z.length
    · match m, hm with
      | 0, hm => omega
      | m + 1, hm =>
        have IH := past_loop (C := C) (Q := Q) hp hS hpl m (c + 1) (by omega) (by omega)
        generalize iterW (stepT C pastT pastB Q) (m + 1) = ag at IH ⊢
        have hd : Z.drop c = Z[c] :: Z.drop (c + 1) := List.drop_eq_getElem_cons (by omega)
        have sl := osl Z (c : Nat) ((c : Int) + (part.length : Nat)) c (c + part.length) rfl (by omega) (by omega) (by omega)
        have e : pstL part (Z.drop c) c = if part <+: Z.drop c then some (c + part.length) else pstL part (Z.drop (c + 1)) (c + 1) := by
          rw [hd]; rfl
        have et : (Z.take (c + part.length)).drop c = (Z.drop c).take part.length := by
          rw [List.drop_take]
          congr 1; omega
        rw [et] at sl
        have z' : (c : Int) + (part.length : Nat) ≤ (Z.length : Nat) := by omega
        unfold stepT pastT pastB
        refine tv_ok (t := true) rfl (ev_cmp rfl rfl (congrArg some (decide_eq_true z'))) ⟨fun _ => ?_, fun z => by cases z⟩
        by_cases q : part <+: Z.drop c
        · rw [if_pos q] at e
          have eq := (List.prefix_iff_eq_take.mp q).symm
          exact g_t rfl (ev_cmp (ev_slice rfl rfl rfl sl) rfl (congrArg some (decide_eq_true eq))) (g_ret rfl (h1 _ c e))
        · rw [if_neg q] at e
          rw [e] at h1 h2
          have IH := IH h1 h2
          have eq : ¬ (Z.drop c).take part.length = part := fun a => q (List.prefix_iff_eq_take.mpr a.symm)
          exact g_fs rfl (ev_cmp (ev_slice rfl rfl rfl sl) rfl (congrArg some (decide_eq_false eq))) (g_augl rfl rfl rfl IH)
    · generalize iterW (stepT C pastT pastB Q) m = ag
      have h2 := h2 c (pst_short _ _ (by simp; omega))
      have z' : ¬ (c : Int) + (part.length : Nat) ≤ (Z.length : Nat) := by omega
      exact tv_ok (t := false) rfl (ev_cmp rfl rfl (congrArg some (decide_eq_false z'))) ⟨(fun z => by cases z), fun _ => h2⟩
theorem past_ok {Z part : List Nat} {c : Nat} {Q : AV → List AV → Prop} (hp : part ≠ []) (hS : Z.length ≤ 1000) (hpl : part.length ≤ 1000) (hc : c ≤ Z.length) (h : Q (.int (pastN Z part c)) fs) :
    PCt (d + 1) 103 [.str Z, .str part, .int c] fs Q := by
  refine pcu ⟨3, 4, b_law_past⟩ rfl rfl rfl ?_
  show wS tabs (PCt d) (CS.seq (CS.whl pastT pastB) (CS.seq (CS.ret (CE.len (CE.var 0))) CS.skip)) _ _
  unfold pastN at h
  refine ⟨Z.length + 1 - c + 1, past_loop hp hS hpl _ c (by omega) (by omega) (fun n c' e => ?_) (fun c' e => ?_)⟩
  · rw [e] at h; exact h
  · rw [e] at h
    exact ⟨_, rfl, _, rfl, h⟩
noncomputable def behS (Z : List Nat) : Nat := if Z.length < 3 then Z.length else if Z.take 2 = [99, 118] then 3 else pastN Z (if Z.take 2 = [118, 118] then [99] else [118]) 2
theorem behind_ok {Z : List Nat} {Q : AV → List AV → Prop} (hS : Z.length ≤ 1000) (h : Q (.int (behS Z)) fs) : PCt (d + 2) 104 [.str Z] fs Q := by
  refine pcu ⟨1, 3, b_law_behind⟩ rfl rfl rfl ?_
  unfold b_law_behind
  unfold behS at h
  have sl := oslh Z 2 2 rfl (by decide)
  have hs : ∀ v, ev tabs (CE.slice (CE.var 0) CE.none (CE.int 2)) ⟨[some (.str Z), none, none], v⟩ = some (.str (Z.take 2)) := fun v => ev_slice rfl rfl rfl sl
  refine g_ifs (P := ((Z.length : Nat) : Int) < 3) rfl rfl (fun z => ?_) (fun z => ?_)
  · rw [if_pos (by omega)] at h
    exact g_ret rfl h
  · rw [if_neg (by omega)] at h
    refine g_ifs rfl (ev_cmp (hs _) rfl rfl) (fun z2 => ?_) (fun z2 => ?_)
    · rw [if_pos z2] at h
      exact g_ret rfl h
    · rw [if_neg z2] at h
      refine ⟨_, rfl, tv_cmp (op := .Eq) (x := CE.slice (CE.var 0) CE.none (CE.int 2)) (y := CE.str [118, 118]) (t := decide (Z.take 2 = [118, 118])) (ev_cmp (hs _) rfl rfl) ⟨fun z3 => ?_, fun z3 => ?_⟩⟩
      · rw [if_pos (of_decide_eq_true z3)] at h
        exact ⟨Nat.le_of_ble_eq_true rfl, past_ok (c := 2) (by simp) hS (Nat.le_of_ble_eq_true rfl) (by omega) h⟩
      · rw [if_neg (of_decide_eq_false z3)] at h
        exact ⟨Nat.le_of_ble_eq_true rfl, past_ok (c := 2) (by simp) hS (Nat.le_of_ble_eq_true rfl) (by omega) h⟩
end
noncomputable def gB (b : Bool) : Nat := if b then 118 else 99
theorem gB_inj {a b : Bool} : gB a = gB b ↔ a = b := by cases a <;> cases b <;> simp [gB]
theorem shN_eq (W : List Nat) : shN W = (sh W).map gB := by
  unfold shN sh
  rw [List.map_map]; rfl
theorem pst_one (b : Bool) : ∀ (l : List Bool) (n : Nat), pstL [gB b] (l.map gB) n = (nxL b l n).map (· + 1)
  | [], n => rfl
  | a :: r, n => by
    rw [List.map_cons]
    unfold pstL nxL
    have e : [gB b] <+: gB a :: r.map gB ↔ a = b := by
      rw [List.cons_prefix_cons, gB_inj]
      exact ⟨fun h => h.1.symm, fun h => ⟨h.symm, List.nil_prefix⟩⟩
    by_cases z : a = b
    · rw [if_pos (e.mpr z), if_pos z]; rfl
    · rw [if_neg (fun q => z (e.mp q)), if_neg z]
      exact pst_one b r (n + 1)
theorem nxL_ge {b : Bool} : ∀ {l : List Bool} {n m : Nat}, nxL b l n = some m → n ≤ m
  | [], n, m, h => by cases h
  | a :: r, n, m, h => by
    unfold nxL at h
    split at h
    · cases h; exact Nat.le_refl _
    · have := nxL_ge h; omega
theorem pst_vc : ∀ (l : List Bool) (n : Nat), pstL [118, 99] (l.map gB) n = (nxL true l n).bind fun m => (nxL false (l.drop (m + 1 - n)) (m + 1)).map (· + 1)
  | [], n => rfl
  | a :: r, n => by
    rw [List.map_cons]
    have IH := pst_vc r (n + 1)
    cases a with
    | false =>
      have e1 : nxL true (false :: r) n = nxL true r (n + 1) := rfl
      have e2 : pstL [118, 99] (gB false :: r.map gB) n = pstL [118, 99] (r.map gB) (n + 1) := by
        unfold pstL
        rw [if_neg (fun q => by
          have := (List.cons_prefix_cons.mp q).1
          simp [gB] at this)]
        cases r <;> rfl
      rw [e1, e2, IH]
      cases h : nxL true r (n + 1) with
      | none => rfl
      | some m =>
        have := nxL_ge h
        simp only [Option.bind_some]
        rw [show m + 1 - n = (m + 1 - (n + 1)) + 1 by omega, List.drop_succ_cons]
    | true =>
      have e1 : nxL true (true :: r) n = some n := rfl
      rw [e1, Option.bind_some, show n + 1 - n = 1 by omega, List.drop_succ_cons, List.drop_zero]
      cases r with
      | nil =>
        unfold pstL
        rw [if_neg (fun q => by have := q.length_le; simp at this)]
        rfl
      | cons c r =>
        cases c with
        | false =>
          have e3 : nxL false (false :: r) (n + 1) = some (n + 1) := rfl
          rw [e3]
          unfold pstL
          rw [if_pos ⟨r.map gB, rfl⟩]
          rfl
        | true =>
          have e2 : pstL [118, 99] (gB true :: (true :: r).map gB) n = pstL [118, 99] ((true :: r).map gB) (n + 1) := by
            rw [List.map_cons]
            rw [pstL, if_neg (fun q => by
              have := (List.cons_prefix_cons.mp (List.cons_prefix_cons.mp q).2).1
              simp [gB] at this)]
          rw [e2, IH]
          have e3 : nxL true (true :: r) (n + 1) = some (n + 1) := rfl
          have e4 : nxL false (true :: r) (n + 1) = nxL false r (n + 2) := rfl
          rw [e3, e4, Option.bind_some, show n + 1 + 1 - (n + 1) = 1 by omega, List.drop_succ_cons, List.drop_zero]
theorem past_vc (s : List Bool) (c : Nat) : pastN (s.map gB) [118, 99] c = (mr1 s c).getD s.length := by
  unfold pastN mr1
  rw [← List.map_drop, pst_vc, List.length_map]
  unfold nx
  cases h : nxL true (s.drop c) c with
  | none => rfl
  | some m =>
    have := nxL_ge h
    simp only [Option.bind_some]
    rw [List.drop_drop, show c + (m + 1 - c) = m + 1 by omega]
theorem past_b (b : Bool) (s : List Bool) (c : Nat) : pastN (s.map gB) [gB b] c = ((nx b s c).map (· + 1)).getD s.length := by
  unfold pastN nx
  rw [← List.map_drop, pst_one, List.length_map]
theorem beh_eq (s : List Bool) : behS (s.map gB) = pVs s := by
  match s with
  | [] => rfl
  | [a] => cases a <;> rfl
  | [a, b] => cases a <;> cases b <;> rfl
  | a :: b :: c :: r =>
    have v := past_b true (a :: b :: c :: r) 2
    have w := past_b false (a :: b :: c :: r) 2
    unfold behS
    rw [if_neg (by simp)]
    cases a <;> cases b
    · rw [if_neg (by simp [gB]), if_neg (by simp [gB])]
      exact v
    · rw [if_pos (by simp [gB])]
      simp [pVs, resB]
    · rw [if_neg (by simp [gB]), if_neg (by simp [gB])]
      exact v
    · rw [if_neg (by simp [gB]), if_pos (by simp [gB])]
      exact w
end Sp.Pu
end
section
set_option linter.all false
set_option maxRecDepth 100000
set_option maxHeartbeats 1000000
namespace Sp.Pu
open PySem (Operator CmpOp)
theorem oends (a b : List Nat) : opEnds (.str a) (.str b) = some (.bool (b.isSuffixOf a)) := rfl
theorem suf_b (a b : List Nat) : b.isSuffixOf a = decide (b <:+ a) := by
  by_cases z : b <:+ a
  · rw [List.isSuffixOf_iff_suffix.mpr z, decide_eq_true z]
  · rw [decide_eq_false z, Bool.eq_false_iff]
    exact fun h => z (List.isSuffixOf_iff_suffix.mp h)
noncomputable def lenD (a b : Nat) : CE := CE.bin .Sub (CE.len (CE.var a)) (CE.len (CE.var b))
noncomputable def lawT3 : CS := (CS.seq (CS.asg 8 (CE.call 105 (CE.cons (CE.slice (CE.var 0) (CE.var 2) CE.none) (CE.cons (CE.lst resL) CE.nil)))) (CS.seq (CS.asg 0 (CE.slice (CE.var 0) CE.none (lenD 0 8))) (CS.seq (CS.ite (CE.and (CE.cmp .In (CE.var 8) (CE.lst [[101], [233]])) (CE.and (CE.endsw (CE.var 0) (CE.str [103, 117])) (CE.cmp .GtE (CE.bin .Sub (CE.len (CE.var 0)) (CE.int 1)) (CE.var 2)))) (CS.seq (CS.asg 0 (CE.slice (CE.var 0) CE.none (CE.bin .Sub (CE.len (CE.var 0)) (CE.int 1)))) CS.skip) CS.skip) (CS.seq (CS.ret (CE.call 106 (CE.cons (CE.var 0) CE.nil))) CS.skip))))
section
variable {d : Nat} {fs : List AV} {W : List Nat} {p q1 q2 : Nat} {Q : AV → List AV → Prop} {v1 v3 v4 v5 v6 v7 v8 v9 v10 v11 v12 v13 v14 : Option AV} {rest : List (Option AV)}
theorem t3_ok (hl : W.length ≤ 1000) (hp : p ≤ 1000) (h : Q (.str ((resP p W).map bareC)) fs) :
    wS tabs (PCt (d + 1)) lawT3 (endK Q) ⟨some (.str W) :: v1 :: some (.int (p : Nat)) :: v3 :: v4 :: v5 :: v6 :: v7 :: v8 :: rest, fs⟩ := by
  unfold resP at h
  simp only at h
  have le := lng_le resL (W.drop p)
  simp at le
  unfold lawT3 lenD
  refine sq2 fun R hR => ⟨_, rfl, _, rfl, _, osll W p p rfl (by omega), ⟨Nat.le_of_ble_eq_true rfl, by decide⟩, end_ok (by simp; omega) ?_⟩
  subst hR
  generalize lng resL (W.drop p) = e at *
  refine g_a0 (ev_slice rfl rfl rfl (oslh W ((W.length : Int) - (e.length : Nat)) (W.length - e.length) (by omega) (by omega))) ?_
  have hw : (W.take (W.length - e.length)).length ≤ 1000 := by simp; omega
  generalize W.take (W.length - e.length) = w at *
  refine sq2 fun R hR => ?_
  have fin : ∀ (w' : List Nat) (e8 : Option AV), Q (.str (w'.map bareC)) fs → wS tabs (PCt (d + 1)) (CS.seq (CS.ret (CE.call 106 (CE.cons (CE.var 0) CE.nil))) CS.skip) (endK Q) ⟨some (.str w') :: v1 :: some (.int (p : Nat)) :: v3 :: v4 :: v5 :: v6 :: v7 :: e8 :: rest, fs⟩ := fun w' e8 h => ⟨_, rfl, bare_ok h⟩
  have mem : e ∈ [[101], [233]] ↔ (e = [101] ∨ e = [233]) := by simp
  have no : ¬ ((e = [101] ∨ e = [233]) ∧ [103, 117] <:+ w ∧ p ≤ w.length - 1) → R ⟨some (.str w) :: v1 :: some (.int (p : Nat)) :: v3 :: v4 :: v5 :: v6 :: v7 :: some (.str e) :: rest, fs⟩ := fun z => by
    rw [if_neg z] at h
    subst hR
    exact fin _ _ h
  refine i_andp (P := e ∈ [[101], [233]]) rfl rfl (fun z1 => i_andp rfl (ev_ends rfl rfl) (fun z2 => ?_) (fun z2 => no fun a => z2 a.2.1)) (fun z1 => no fun a => z1 (mem.mpr a.1))
  have lw := z2.length_le
  simp at lw
  refine i_p (P := (p : Int) ≤ (w.length : Int) - 1) rfl rfl (fun z3 => ?_) (fun z3 => no fun a => z3 (by omega))
  rw [if_pos ⟨mem.mp z1, z2, by omega⟩] at h
  subst hR
  exact g_a0 (ev_slice rfl rfl rfl (oslh w ((w.length : Int) - 1) (w.length - 1) (by omega) (by omega))) (fin _ _ h)
end
end Sp.Pu
end
section
set_option linter.all false
set_option maxRecDepth 100000
set_option maxHeartbeats 1000000
namespace Sp.Pu
open PySem (Operator CmpOp)
noncomputable def lawF : CS := (CS.seq (CS.ite (CE.cmp .In (CE.var 8) (CE.var 10)) (CS.seq (CS.asg 13 (CE.bin .Add (CE.slice (CE.var 0) CE.none (lenD 0 8)) (CE.var 11))) (CS.seq (CS.asg 14 (CE.call 105 (CE.cons (CE.slice (CE.var 13) (CE.var 4) CE.none) (CE.cons (CE.var 12) CE.nil)))) CS.skip)) CS.skip) CS.skip)
noncomputable def stepF (C : Nat → List AV → List AV → (AV → List AV → Prop) → Prop) (Q : Fl → S → Prop) : AV → (S → Prop) → S → Prop := fun v again σ => ∃ r, v = .rule r ∧ wS tabs C lawF (loopK Q again) (((σ.set 10 (.strs r.ends)).set 11 (.str r.ins)).set 12 (.strs r.fur))
noncomputable def lawY : CS := (CS.seq (CS.asg 8 (CE.call 105 (CE.cons (CE.slice (CE.var 0) (CE.var 2) CE.none) (CE.cons (CE.glob 5) CE.nil)))) (CS.seq (CS.asg 13 (CE.slice (CE.var 0) CE.none (lenD 0 8))) (CS.seq (CS.ite (CE.and (CE.cmp .NotEq (CE.var 8) (CE.str [])) (CE.endsw (CE.var 13) (CE.str [117]))) (CS.seq (CS.asg 0 (CE.var 13)) CS.skip)
  (CS.seq (CS.asg 8 (CE.call 105 (CE.cons (CE.slice (CE.var 0) (CE.var 2) CE.none) (CE.cons (CE.glob 6) CE.nil)))) (CS.seq (CS.asg 0 (CE.slice (CE.var 0) CE.none (lenD 0 8))) (CS.seq (CS.ite (CE.and (CE.cmp .In (CE.var 8) (CE.lst guL)) (CE.endsw (CE.var 0) (CE.str [103, 117]))) (CS.seq (CS.asg 0 (CE.slice (CE.var 0) CE.none (CE.bin .Sub (CE.len (CE.var 0)) (CE.int 1)))) CS.skip) CS.skip) CS.skip)))) CS.skip)))
noncomputable def lawS : CS := (CS.seq (CS.forT 10 11 12 (CE.glob 3) lawF) (CS.seq (CS.asg 0 (CE.slice (CE.var 13) CE.none (lenD 13 14))) CS.skip))
noncomputable def lawT2 : CS := (CS.seq (CS.asg 8 (CE.call 105 (CE.cons (CE.var 0) (CE.cons (CE.call 101 CE.nil) CE.nil)))) (CS.seq (CS.asg 9 (CE.ite (CE.cmp .Eq (CE.var 8) (CE.str amente)) (CE.var 3) (CE.var 4))) (CS.seq (CS.ite (CE.and (CE.cmp .NotEq (CE.var 8) (CE.str [])) (CE.cmp .GtE (lenD 0 8) (CE.var 9))) lawS lawY) lawT3)))
theorem gl5 : tabs.glob 5 = some (.strs g_ys) := rfl
theorem gl6 : tabs.glob 6 = some (.strs g_verbs) := rfl
theorem gl3 : tabs.glob 3 = some (.rules g_rules) := rfl
theorem gl1 : tabs.glob 1 = some (.strs g_pronouns) := rfl
theorem gl2 : tabs.glob 2 = some (.strs g_forms) := rfl
section
variable {d : Nat} {fs : List AV} {W : List Nat} {p q1 q2 : Nat} {v1 v3 v4 v5 v6 v7 v8 v9 v10 v11 v12 v13 v14 : Option AV} {rest : List (Option AV)}
theorem y_ok {Q : Fl → S → Prop} (hl : W.length ≤ 1000) (hp : p ≤ 1000) (h : ∀ v8 v13, Q .next ⟨some (.str (match yP p W with | some w => w | none => verbP p W)) :: v1 :: some (.int (p : Nat)) :: v3 :: v4 :: v5 :: v6 :: v7 :: v8 :: v9 :: v10 :: v11 :: v12 :: v13 :: rest, fs⟩) :
    wS tabs (PCt (d + 1)) lawY Q ⟨some (.str W) :: v1 :: some (.int (p : Nat)) :: v3 :: v4 :: v5 :: v6 :: v7 :: v8 :: v9 :: v10 :: v11 :: v12 :: v13 :: rest, fs⟩ := by
  have le := lng_le g_ys (W.drop p)
  have le2 := lng_le g_verbs (W.drop p)
  simp at le le2
  unfold lawY lenD
  refine sq2 fun R hR => ⟨_, rfl, _, rfl, _, osll W p p rfl (by omega), _, gl5, end_ok (by simp; omega) ?_⟩
  subst hR
  have hy : yP p W = if lng g_ys (W.drop p) ≠ [] ∧ [117] <:+ W.take (W.length - (lng g_ys (W.drop p)).length) then some (W.take (W.length - (lng g_ys (W.drop p)).length)) else none := rfl
  generalize lng g_ys (W.drop p) = e at *
  refine g_a13 (ev_slice rfl rfl rfl (oslh W ((W.length : Int) - (e.length : Nat)) (W.length - e.length) (by omega) (by omega))) ?_
  refine sq2 fun R hR => ?_
  have hno : yP p W = none → wS tabs (PCt (d + 1)) (CS.seq (CS.asg 8 (CE.call 105 (CE.cons (CE.slice (CE.var 0) (CE.var 2) CE.none) (CE.cons (CE.glob 6) CE.nil)))) (CS.seq (CS.asg 0 (CE.slice (CE.var 0) CE.none (lenD 0 8))) (CS.seq (CS.ite (CE.and (CE.cmp .In (CE.var 8) (CE.lst guL)) (CE.endsw (CE.var 0) (CE.str [103, 117]))) (CS.seq (CS.asg 0 (CE.slice (CE.var 0) CE.none (CE.bin .Sub (CE.len (CE.var 0)) (CE.int 1)))) CS.skip) CS.skip) CS.skip))) (seqK Q R)
      ⟨some (.str W) :: v1 :: some (.int (p : Nat)) :: v3 :: v4 :: v5 :: v6 :: v7 :: some (.str e) :: v9 :: v10 :: v11 :: v12 :: some (.str (W.take (W.length - e.length))) :: rest, fs⟩ := fun hn => by
    rw [hn] at h
    simp only at h
    unfold verbP at h
    simp only at h
    unfold lenD
    refine sq2 fun R2 hR2 => ⟨_, rfl, _, rfl, _, osll W p p rfl (by omega), _, gl6, end_ok (by simp; omega) ?_⟩
    subst hR2
    generalize lng g_verbs (W.drop p) = e2 at *
    refine g_a0 (ev_slice rfl rfl rfl (oslh W ((W.length : Int) - (e2.length : Nat)) (W.length - e2.length) (by omega) (by omega))) ?_
    have hw : (W.take (W.length - e2.length)).length ≤ 1000 := by simp; omega
    generalize W.take (W.length - e2.length) = w at *
    refine sq2 fun R2 hR2 => ?_
    have no : ¬ (e2 ∈ guL ∧ [103, 117] <:+ w) → R2 ⟨some (.str w) :: v1 :: some (.int (p : Nat)) :: v3 :: v4 :: v5 :: v6 :: v7 :: some (.str e2) :: v9 :: v10 :: v11 :: v12 :: some (.str (W.take (W.length - e.length))) :: rest, fs⟩ := fun z => by
      rw [if_neg z] at h
      subst hR2 hR
      exact h _ _
    refine i_andp (P := e2 ∈ guL) rfl rfl (fun z1 => i_p rfl (ev_ends rfl rfl) (fun z2 => ?_) (fun z2 => no fun a => z2 a.2)) (fun z1 => no fun a => z1 a.1)
    have lw := z2.length_le
    simp at lw
    rw [if_pos ⟨z1, z2⟩] at h
    subst hR2 hR
    exact g_a0 (ev_slice rfl rfl rfl (oslh w ((w.length : Int) - 1) (w.length - 1) (by omega) (by omega))) (h _ _)
  unfold lenD at hno
  refine i_andp (P := e ≠ []) rfl rfl (fun z1 => i_p rfl (ev_ends rfl rfl) (fun z2 => ?_) (fun z2 => hno (by rw [hy, if_neg (fun a => z2 a.2)]))) (fun z1 => hno (by rw [hy, if_neg (fun a => z1 a.1)]))
  rw [if_pos ⟨z1, z2⟩] at hy
  rw [hy] at h
  subst hR
  exact g_a0 rfl (h _ _)
end
end Sp.Pu
end
section
set_option linter.all false
set_option maxRecDepth 100000
set_option maxHeartbeats 1000000
namespace Sp.Pu
open PySem (Operator CmpOp)
theorem w_forT {T : Tabs} {C : Nat → List AV → List AV → (AV → List AV → Prop) → Prop} {i j k : Nat} {e : CE} {b : CS} {Q : Fl → S → Prop} {σ : S} : wS T C (.forT i j k e b) Q σ = wE T C e (fun x σ => ∃ l, x = .rules l ∧
      forW (fun v again σ => ∃ r, v = .rule r ∧ wS T C b (loopK Q again) (((σ.set i (.strs r.ends)).set j (.str r.ins)).set k (.strs r.fur))) (Q .next) (l.map .rule) σ) σ := rfl
noncomputable def RI (W e : List Nat) (q2 : Nat) (acc : Option Rul) (v13 v14 : Option AV) : Prop := ∀ r, acc = some r → v13 = some (.str (W.take (W.length - e.length) ++ r.ins)) ∧ v14 = some (.str (lng r.fur ((W.take (W.length - e.length) ++ r.ins).drop q2)))
theorem std_rule : ∀ e ∈ stdL, (ruleOf e).isSome = true := by decide +kernel
section
variable {d : Nat} {fs : List AV} {W e : List Nat} {p q1 q2 : Nat} {v1 v2 v3 v4 v5 v6 v7 v8 v9 v10 v11 v12 v13 v14 : Option AV} {rest : List (Option AV)}
theorem rule_loop {Q : Fl → S → Prop} (hl : W.length ≤ 990) (he : e.length ≤ W.length) (hq : q2 ≤ 1000) : ∀ (rs : List Rul) (acc : Option Rul) (v10 v11 v12 v13 v14 : Option AV), (∀ r ∈ rs, r.ins.length ≤ 4) → RI W e q2 acc v13 v14 →
    (∀ v10 v11 v12 v13 v14, RI W e q2 (rs.foldl (fun acc r => if e ∈ r.ends then some r else acc) acc) v13 v14 → Q .next ⟨some (.str W) :: v1 :: v2 :: v3 :: some (.int (q2 : Nat)) :: v5 :: v6 :: v7 :: some (.str e) :: v9 :: v10 :: v11 :: v12 :: v13 :: v14 :: rest, fs⟩) →
    forW (stepF (PCt (d + 1)) Q) (Q .next) (rs.map .rule) ⟨some (.str W) :: v1 :: v2 :: v3 :: some (.int (q2 : Nat)) :: v5 :: v6 :: v7 :: some (.str e) :: v9 :: v10 :: v11 :: v12 :: v13 :: v14 :: rest, fs⟩
  | [], acc, v10, v11, v12, v13, v14, hr, hi, h => h _ _ _ _ _ hi
  | r :: rs, acc, v10, v11, v12, v13, v14, hr, hi, h => by
    have hins := hr r (.head _)
    have IH := rule_loop (Q := Q) hl he hq rs (if e ∈ r.ends then some r else acc) (some (.strs r.ends)) (some (.str r.ins)) (some (.strs r.fur))
    show stepF (PCt (d + 1)) Q _ (forW (stepF (PCt (d + 1)) Q) (Q .next) (rs.map .rule)) _
    generalize forW (stepF (PCt (d + 1)) Q) (Q .next) (rs.map .rule) = ag at IH ⊢
    refine ⟨r, rfl, ?_⟩
    have sl := oslh W ((W.length : Int) - (e.length : Nat)) (W.length - e.length) (by omega) (by omega)
    unfold lawF lenD
    by_cases z : e ∈ r.ends
    · rw [if_pos z] at IH
      have IH := IH (some (.str (W.take (W.length - e.length) ++ r.ins))) (some (.str (lng r.fur ((W.take (W.length - e.length) ++ r.ins).drop q2)))) (fun r hr' => hr r (.tail _ hr')) (fun r' h' => by cases h'; exact ⟨rfl, rfl⟩) (fun v10 v11 v12 v13 v14 hh => h v10 v11 v12 v13 v14 (by rw [List.foldl_cons, if_pos z]; exact hh))
      have hw : (W.take (W.length - e.length)).length ≤ 990 := by simp; omega
      generalize W.take (W.length - e.length) = w at *
      have la : w.length + r.ins.length ≤ lim := by unfold lim; omega
      have sl2 := osll (w ++ r.ins) q2 q2 rfl (by omega)
      refine sq2 fun R hR => i_p rfl (ev_cmp rfl rfl ((oc_in _ _).trans rfl)) (fun _ => ?_) (fun z' => (z' z).elim)
      refine g_asg (ev_bin (ev_slice rfl rfl rfl sl) rfl ((ob_sadd _ _).trans (if_pos la))) ?_
      refine sq2 fun R' hR' => ⟨_, rfl, _, rfl, _, sl2, _, rfl, end_ok (by simp; omega) ?_⟩
      subst hR' hR
      exact IH
    · rw [if_neg z] at IH
      have IH := IH v13 v14 (fun r hr' => hr r (.tail _ hr')) hi (fun v10 v11 v12 v13 v14 hh => h v10 v11 v12 v13 v14 (by rw [List.foldl_cons, if_neg z]; exact hh))
      exact g_fs rfl (ev_cmp rfl rfl ((oc_in _ _).trans (congrArg some (decide_eq_false z)))) IH
theorem s_ok {Q : Fl → S → Prop} {w : List Nat} (hl : W.length ≤ 990) (he : e ∈ stdL) (hle : e.length ≤ W.length) (hq : q2 ≤ 1000)
    (h : ∀ r, rf e = some r → ∀ v10 v11 v12 v13 v14, Q .next ⟨some (.str ((W.take (W.length - e.length) ++ r.1).take ((W.take (W.length - e.length) ++ r.1).length - (lng r.2 ((W.take (W.length - e.length) ++ r.1).drop q2)).length))) :: v1 :: v2 :: v3 :: some (.int (q2 : Nat)) :: v5 :: v6 :: v7 :: some (.str e) :: v9 :: v10 :: v11 :: v12 :: v13 :: v14 :: rest, fs⟩) :
    wS tabs (PCt (d + 1)) lawS Q ⟨some (.str W) :: v1 :: v2 :: v3 :: some (.int (q2 : Nat)) :: v5 :: v6 :: v7 :: some (.str e) :: v9 :: v10 :: v11 :: v12 :: v13 :: v14 :: rest, fs⟩ := by
  unfold lawS lenD
  refine sq2 fun R hR => ?_
  rw [w_forT]
  refine ⟨_, gl3, _, rfl, rule_loop hl hle hq g_rules none v10 v11 v12 v13 v14 rules_ins (fun r hr => by cases hr) fun v10 v11 v12 v13 v14 hh => ?_⟩
  obtain ⟨r, hr⟩ := Option.isSome_iff_exists.mp (std_rule e he)
  have h := h (r.ins, r.fur) (by unfold rf; rw [hr]; rfl)
  obtain ⟨rfl, rfl⟩ := hh r hr
  have hins : r.ins.length ≤ 4 := by
    rcases rule_in g_rules none hr with q | q
    · exact rules_ins r q
    · cases q
  have hw : (W.take (W.length - e.length)).length ≤ 990 := by simp; omega
  have h := h v10 v11 v12
  generalize W.take (W.length - e.length) = w at *
  have hwl : (w ++ r.ins).length ≤ 1000 := by simp; omega
  generalize w ++ r.ins = w at *
  have le := lng_le r.fur (w.drop q2)
  simp at le
  simp only at h
  generalize lng r.fur (w.drop q2) = e2 at *
  have sl := oslh w ((w.length : Int) - (e2.length : Nat)) (w.length - e2.length) (by omega) (by omega)
  subst hR
  exact g_a0 (ev_slice rfl rfl rfl sl) (h _ _)
end
end Sp.Pu
end
section
set_option linter.all false
set_option maxRecDepth 100000
set_option maxHeartbeats 1000000
namespace Sp.Pu
open PySem (Operator CmpOp)
noncomputable def lawT1 : CS := (CS.seq (CS.asg 5 (CE.call 105 (CE.cons (CE.var 0) (CE.cons (CE.glob 1) CE.nil)))) (CS.seq (CS.asg 6 (CE.slice (CE.var 0) CE.none (lenD 0 5))) (CS.seq (CS.asg 7 (CE.call 105 (CE.cons (CE.var 6) (CE.cons (CE.glob 2) CE.nil))))
  (CS.seq (CS.ite (CE.and (CE.cmp .NotEq (CE.var 5) (CE.str [])) (CE.and (CE.cmp .NotEq (CE.var 7) (CE.str [])) (CE.and (CE.cmp .GtE (lenD 6 7) (CE.var 2)) (CE.or (CE.cmp .NotEq (CE.var 7) (CE.str yendo)) (CE.endsw (CE.var 6) (CE.str ([117] ++ yendo)))))))
    (CS.seq (CS.asg 0 (CE.bin .Add (CE.slice (CE.var 6) CE.none (lenD 6 7)) (CE.call 106 (CE.cons (CE.var 7) CE.nil)))) CS.skip) CS.skip) lawT2))))
noncomputable def pastC (i : Nat) (e : CE) : CS := CS.asg i (CE.call 103 (CE.cons (CE.var 1) (CE.cons (CE.str [118, 99]) (CE.cons e CE.nil))))
theorem bls_eq : b_law_stem = (CS.seq (CS.asg 1 (CE.call 102 (CE.cons (CE.var 0) CE.nil))) (CS.seq (CS.asg 2 (CE.call 104 (CE.cons (CE.var 1) CE.nil))) (CS.seq (pastC 3 (CE.int 0)) (CS.seq (pastC 4 (CE.var 3)) lawT1)))) := rfl
section
variable {d : Nat} {fs : List AV} {W : List Nat} {p q1 q2 : Nat} {Q : AV → List AV → Prop} {v1 v5 v6 v7 v8 v9 v10 v11 v12 v13 v14 : Option AV} {rest : List (Option AV)}
theorem t2_ok (hl : W.length ≤ 990) (hp : p ≤ 1000) (h1 : q1 ≤ 1000) (h2 : q2 ≤ 1000) (h : Q (.str ((resP p (midP p q1 q2 W)).map bareC)) fs) :
    wS tabs (PCt (d + 2)) lawT2 (endK Q) ⟨some (.str W) :: v1 :: some (.int (p : Nat)) :: some (.int (q1 : Nat)) :: some (.int (q2 : Nat)) :: v5 :: v6 :: v7 :: v8 :: v9 :: v10 :: v11 :: v12 :: v13 :: v14 :: rest, fs⟩ := by
  have ml := mid_len p q1 q2 W
  have le := lng_le stdL W
  have l0 : 0 ≤ lim := by decide
  have l6 : amente.length ≤ lim := by decide
  have sp := lng_spec stdL W
  unfold lawT2
  refine sq2 fun R hR => ?_
  refine ⟨_, rfl, standard_ok (end_ok (by omega) ?_)⟩
  subst hR
  have hs : stdP q1 q2 W = if lng stdL W ≠ [] ∧ (if lng stdL W = amente then q1 else q2) ≤ W.length - (lng stdL W).length then (rf (lng stdL W)).map fun r => (W.take (W.length - (lng stdL W).length) ++ r.1).take ((W.take (W.length - (lng stdL W).length) ++ r.1).length - (lng r.2 ((W.take (W.length - (lng stdL W).length) ++ r.1).drop q2)).length) else none := rfl
  generalize lng stdL W = e at *
  have key : ∀ low : Nat, low = (if e = amente then q1 else q2) → wS tabs (PCt (d + 2)) (CS.seq (CS.ite (CE.and (CE.cmp .NotEq (CE.var 8) (CE.str [])) (CE.cmp .GtE (lenD 0 8) (CE.var 9))) lawS lawY) lawT3) (endK Q) ⟨some (.str W) :: v1 :: some (.int (p : Nat)) :: some (.int (q1 : Nat)) :: some (.int (q2 : Nat)) :: v5 :: v6 :: v7 :: some (.str e) :: some (.int (low : Nat)) :: v10 :: v11 :: v12 :: v13 :: v14 :: rest, fs⟩ := fun low hlow => by
    rw [← hlow] at hs
    refine sq2 fun R hR => ?_
    have hno : stdP q1 q2 W = none → wS tabs (PCt (d + 2)) lawY (seqK (endK Q) R) ⟨some (.str W) :: v1 :: some (.int (p : Nat)) :: some (.int (q1 : Nat)) :: some (.int (q2 : Nat)) :: v5 :: v6 :: v7 :: some (.str e) :: some (.int (low : Nat)) :: v10 :: v11 :: v12 :: v13 :: v14 :: rest, fs⟩ := fun hn => by
      refine y_ok (by omega) hp fun v8 v13 => ?_
      subst hR
      have hm : midP p q1 q2 W = match yP p W with | some w => w | none => verbP p W := by unfold midP; rw [hn]; first | done | rfl
      rw [hm] at h ml
      exact t3_ok (Nat.le_trans ml (by omega)) hp h
    have hyes : e ≠ [] ∧ low ≤ W.length - e.length → wS tabs (PCt (d + 2)) lawS (seqK (endK Q) R) ⟨some (.str W) :: v1 :: some (.int (p : Nat)) :: some (.int (q1 : Nat)) :: some (.int (q2 : Nat)) :: v5 :: v6 :: v7 :: some (.str e) :: some (.int (low : Nat)) :: v10 :: v11 :: v12 :: v13 :: v14 :: rest, fs⟩ := fun z => by
      have he : e ∈ stdL := by
        rcases sp with q | q
        · exact (z.1 q).elim
        · exact q.1
      refine s_ok (w := []) hl he le h2 fun r hr v10 v11 v12 v13 v14 => ?_
      rw [if_pos z, hr, Option.map_some] at hs
      have hm : midP p q1 q2 W = (W.take (W.length - e.length) ++ r.1).take ((W.take (W.length - e.length) ++ r.1).length - (lng r.2 ((W.take (W.length - e.length) ++ r.1).drop q2)).length) := by unfold midP; rw [hs]
      rw [hm] at h ml
      subst hR
      exact t3_ok (by omega) hp h
    refine i_andp (P := e ≠ []) rfl rfl (fun z1 => i_p (P := (low : Int) ≤ (W.length : Int) - (e.length : Nat)) rfl rfl (fun z2 => hyes ⟨z1, ?_⟩) (fun z2 => hno ?_)) (fun z1 => hno ?_)
    · omega
    · rw [hs, if_neg (fun a => z2 ?_)]
      have := a.2
      omega
    · rw [hs, if_neg (fun a => z1 a.1)]
  exact g_asgi (P := e = amente) rfl rfl rfl rfl (fun z => key q1 (by rw [if_pos z])) (fun z => key q2 (by rw [if_neg z]))
theorem t1_ok (hl : W.length ≤ 900) (hp : p ≤ 1000) (h1 : q1 ≤ 1000) (h2 : q2 ≤ 1000) (h : Q (.str ((resP p (midP p q1 q2 (attachP p W))).map bareC)) fs) :
    wS tabs (PCt (d + 2)) lawT1 (endK Q) ⟨some (.str W) :: v1 :: some (.int (p : Nat)) :: some (.int (q1 : Nat)) :: some (.int (q2 : Nat)) :: v5 :: v6 :: v7 :: v8 :: v9 :: v10 :: v11 :: v12 :: v13 :: v14 :: rest, fs⟩ := by
  have al := attach_len p W
  have le := lng_le g_pronouns W
  have l0 : 0 ≤ lim := by decide
  have l5 : yendo.length ≤ lim := by decide
  have l6 : yendo.length + 1 ≤ lim := by decide
  unfold lawT1 lenD
  refine sq2 fun R hR => ⟨_, rfl, _, gl1, end_ok (by omega) ?_⟩
  subst hR
  have ha : attachP p W = if lng g_pronouns W ≠ [] ∧ lng g_forms (W.take (W.length - (lng g_pronouns W).length)) ≠ [] ∧ p ≤ (W.take (W.length - (lng g_pronouns W).length)).length - (lng g_forms (W.take (W.length - (lng g_pronouns W).length))).length ∧ (lng g_forms (W.take (W.length - (lng g_pronouns W).length)) ≠ yendo ∨ [117] ++ yendo <:+ W.take (W.length - (lng g_pronouns W).length)) then (W.take (W.length - (lng g_pronouns W).length)).take ((W.take (W.length - (lng g_pronouns W).length)).length - (lng g_forms (W.take (W.length - (lng g_pronouns W).length))).length) ++ (lng g_forms (W.take (W.length - (lng g_pronouns W).length))).map bareC else W := rfl
  generalize lng g_pronouns W = pr at *
  refine g_a6 (ev_slice rfl rfl rfl (oslh W ((W.length : Int) - (pr.length : Nat)) (W.length - pr.length) (by omega) (by omega))) ?_
  have hb : (W.take (W.length - pr.length)).length ≤ 900 := by simp; omega
  generalize W.take (W.length - pr.length) = body at *
  have le2 := lng_le g_forms body
  refine sq2 fun R hR => ⟨_, rfl, _, gl2, end_ok (by omega) ?_⟩
  subst hR
  generalize lng g_forms body = fm at *
  have key : wS tabs (PCt (d + 2)) lawT2 (endK Q) ⟨some (.str (attachP p W)) :: v1 :: some (.int (p : Nat)) :: some (.int (q1 : Nat)) :: some (.int (q2 : Nat)) :: some (.str pr) :: some (.str body) :: some (.str fm) :: v8 :: v9 :: v10 :: v11 :: v12 :: v13 :: v14 :: rest, fs⟩ := t2_ok (by omega) hp h1 h2 h
  clear h
  refine sq2 fun R hR => ?_
  rw [← hR] at key
  have c3 : (p : Int) ≤ (body.length : Int) - (fm.length : Nat) ↔ p ≤ body.length - fm.length := by omega
  have ln : (body.take (body.length - fm.length)).length + (fm.map bareC).length ≤ lim := by simp; unfold lim; omega
  have sl := oslh body ((body.length : Int) - (fm.length : Nat)) (body.length - fm.length) (by omega) (by omega)
  clear hR h1 h2 hp hl al le le2 hb
  have no : ¬ (pr ≠ [] ∧ fm ≠ [] ∧ p ≤ body.length - fm.length ∧ (fm ≠ yendo ∨ [117] ++ yendo <:+ body)) → R ⟨some (.str W) :: v1 :: some (.int (p : Nat)) :: some (.int (q1 : Nat)) :: some (.int (q2 : Nat)) :: some (.str pr) :: some (.str body) :: some (.str fm) :: v8 :: v9 :: v10 :: v11 :: v12 :: v13 :: v14 :: rest, fs⟩ := fun z => by
    rw [ha, if_neg z] at key; exact key
  have yes : (pr ≠ [] ∧ fm ≠ [] ∧ p ≤ body.length - fm.length ∧ (fm ≠ yendo ∨ [117] ++ yendo <:+ body)) → wS tabs (PCt (d + 2)) (CS.seq (CS.asg 0 (CE.bin .Add (CE.slice (CE.var 6) CE.none (CE.bin .Sub (CE.len (CE.var 6)) (CE.len (CE.var 7)))) (CE.call 106 (CE.cons (CE.var 7) CE.nil)))) CS.skip) (seqK (endK Q) R) ⟨some (.str W) :: v1 :: some (.int (p : Nat)) :: some (.int (q1 : Nat)) :: some (.int (q2 : Nat)) :: some (.str pr) :: some (.str body) :: some (.str fm) :: v8 :: v9 :: v10 :: v11 :: v12 :: v13 :: v14 :: rest, fs⟩ := fun z => by
    rw [ha, if_pos z] at key
    exact ev_ok (.slice (.var 6) .none (.bin .Sub (.len (.var 6)) (.len (.var 7)))) (ev_slice rfl rfl rfl sl) ⟨_, rfl, bare_ok ⟨_, (ob_sadd _ _).trans (if_pos ln), key⟩⟩
  clear key ha
  exact i_andp (P := pr ≠ []) rfl rfl (fun z1 => i_andp (P := fm ≠ []) rfl rfl (fun z2 => i_andp (P := (p : Int) ≤ (body.length : Int) - (fm.length : Nat)) rfl rfl
    (fun z3 => i_orp (P := fm ≠ yendo) rfl rfl (fun z4 => yes ⟨z1, z2, c3.mp z3, .inl z4⟩) (fun z4 => i_p rfl (ev_ends rfl rfl) (fun z5 => yes ⟨z1, z2, c3.mp z3, .inr z5⟩) (fun z5 => no fun a => a.2.2.2.elim z4 z5)))
    (fun z3 => no fun a => z3 (c3.mpr a.2.2.1))) (fun z2 => no fun a => z2 a.2.1)) (fun z1 => no fun a => z1 a.1)
end
end Sp.Pu
end
section
set_option linter.all false
set_option maxRecDepth 100000
set_option maxHeartbeats 1000000
namespace Sp.Pu
open PySem (Operator CmpOp)
theorem nxL_lt {b : Bool} : ∀ {l : List Bool} {n m : Nat}, nxL b l n = some m → m < n + l.length
  | [], n, m, h => by cases h
  | a :: r, n, m, h => by
    unfold nxL at h
    split at h
    · cases h; simp
    · have := nxL_lt h; simp; omega
theorem nx_lt {b : Bool} {s : List Bool} {c n : Nat} (h : nx b s c = some n) : c ≤ n ∧ n < s.length := by
  unfold nx at h
  have h1 := nxL_ge h
  have h2 := nxL_lt h
  simp at h2
  omega
theorem mr1_le (s : List Bool) (c : Nat) : (mr1 s c).getD s.length ≤ s.length := by
  unfold mr1
  cases h : nx true s c with
  | none => exact Nat.le_refl _
  | some n =>
    rw [Option.bind_some]
    cases h2 : nx false s (n + 1) with
    | none => exact Nat.le_refl _
    | some m =>
      have := (nx_lt h2).2
      simp; omega
theorem p1s_le (s : List Bool) : p1s s ≤ s.length := mr1_le s 0
theorem p2s_le (s : List Bool) : p2s s ≤ s.length := mr1_le s _
theorem nxs_le (b : Bool) (s : List Bool) (c : Nat) : ((nx b s c).map (· + 1)).getD s.length ≤ s.length := by
  cases h : nx b s c with
  | none => exact Nat.le_refl _
  | some n =>
    have := (nx_lt h).2
    simp; omega
theorem pVs_le (s : List Bool) : pVs s ≤ s.length := by
  unfold pVs resA resB
  match s[0]? with
  | none => exact Nat.le_refl _
  | some true =>
    simp only
    match s[1]? with
    | none => exact Nat.le_refl _
    | some true => exact nxs_le _ _ _
    | some false => exact nxs_le _ _ _
  | some false =>
    simp only
    match s[1]? with
    | none => exact Nat.le_refl _
    | some true =>
      simp only
      by_cases z : 2 < s.length
      · rw [if_pos z]; exact z
      · rw [if_neg z]; exact Nat.le_refl _
    | some false => exact nxs_le _ _ _
section
variable {d : Nat} {fs : List AV} {W : List Nat} {Q : AV → List AV → Prop}
theorem stem_law_ok (hl : W.length ≤ 900) (h : Q (.str (stemP W)) fs) : PCt (d + 3) 107 [.str W] fs Q := by
  refine pcu ⟨1, 27, b_law_stem⟩ rfl rfl rfl ?_
  simp only
  rw [bls_eq]
  have hn : shN W = (sh W).map gB := shN_eq W
  have hsl : (sh W).length = W.length := by simp [sh]
  have hnl : (shN W).length = W.length := by rw [hn, List.length_map, hsl]
  have b0 := pVs_le (sh W)
  have b1 := p1s_le (sh W)
  have b2 := p2s_le (sh W)
  have e0 : behS (shN W) = pVs (sh W) := by rw [hn]; exact beh_eq _
  have e1 : pastN (shN W) [118, 99] 0 = p1s (sh W) := by rw [hn]; exact past_vc _ _
  have e2 : pastN (shN W) [118, 99] (p1s (sh W)) = p2s (sh W) := by rw [hn]; exact past_vc _ _
  unfold stemP at h
  generalize hS : shN W = S' at *
  generalize pVs (sh W) = p at *
  generalize p1s (sh W) = q1 at *
  generalize p2s (sh W) = q2 at *
  have l2 : [118, 99].length ≤ lim := by decide
  refine sq2 fun R hR => ?_
  refine ⟨_, rfl, shape_ok (by omega) ?_⟩
  rw [hS]
  subst hR
  refine sq2 fun R hR => ?_
  refine ⟨_, rfl, behind_ok (by omega) ?_⟩
  rw [e0]
  subst hR
  unfold pastC
  refine sq2 fun R hR => ?_
  refine ⟨_, rfl, l2, past_ok (c := 0) (by simp) (by omega) (Nat.le_of_ble_eq_true rfl) (by omega) ?_⟩
  rw [e1]
  subst hR
  refine sq2 fun R hR => ?_
  refine ⟨_, rfl, l2, _, rfl, past_ok (c := q1) (by simp) (by omega) (Nat.le_of_ble_eq_true rfl) (by omega) ?_⟩
  rw [e2]
  subst hR
  exact t1_ok hl (by omega) (by omega) (by omega) h
/-- the pieces -/
noncomputable def pcs : List (List Nat) := g_pronouns ++ g_forms ++ stdL ++ g_inner ++ g_ys ++ g_verbs
theorem pcs_facts : pcs.length = 187 ∧ g_signs.length = 38 ∧ (∀ s ∈ pcs, s.length ≤ 8) ∧ (g_pronouns.length + g_forms.length ≤ lim ∧ (g_pronouns ++ g_forms).length + stdL.length ≤ lim ∧ (g_pronouns ++ g_forms ++ stdL).length + g_inner.length ≤ lim ∧ (g_pronouns ++ g_forms ++ stdL ++ g_inner).length + g_ys.length ≤ lim ∧ (g_pronouns ++ g_forms ++ stdL ++ g_inner ++ g_ys).length + g_verbs.length ≤ lim) := by decide +kernel
end
end Sp.Pu
end
section
set_option linter.all false
set_option maxRecDepth 100000
set_option maxHeartbeats 1000000
namespace Sp.Pu
open PySem (Operator CmpOp)
noncomputable def pickC (l : CE) : CE := CE.idx l (CE.bin .Mod (CE.bin .FloorDiv (CE.var 4) (CE.int 2)) (CE.len l))
noncomputable def wordB : CS := (CS.seq (CS.ite (CE.cmp .Eq (CE.bin .Mod (CE.var 4) (CE.int 2)) (CE.int 0)) (CS.seq (CS.asg 3 (CE.bin .Add (CE.var 3) (pickC (CE.glob 0)))) CS.skip) (CS.seq (CS.asg 3 (CE.bin .Add (CE.var 3) (pickC (CE.var 2)))) CS.skip)) CS.skip)
theorem obmod (a b : Int) (h : 0 < b) : opBin .Mod (.int a) (.int b) = some (.int (a % b)) := by
  show (if 0 < b then some (AV.int (a % b)) else none) = _
  rw [if_pos h]
theorem oladd (a b : List (List Nat)) (h : a.length + b.length ≤ lim) : opBin .Add (.strs a) (.strs b) = some (.strs (a ++ b)) := by
  show (if _ then _ else _) = _; rw [if_pos h]
theorem olenl (l : List (List Nat)) (h : l.length ≤ lim) : opLen (.strs l) = some (.int l.length) := by
  show (if _ then _ else _) = _; rw [if_pos h]
theorem pick_str (l : List Nat) (a : Int) (h : 0 < l.length) : ∃ c, opIdx (.str l) (.int (a % (l.length : Nat))) = some (.str [c]) := by
  have h1 := Int.emod_nonneg a (show ((l.length : Nat) : Int) ≠ 0 by omega)
  have h2 := Int.emod_lt_of_pos a (show (0 : Int) < ((l.length : Nat) : Int) by omega)
  refine ⟨l[(a % (l.length : Nat)).toNat]'(by omega), ?_⟩
  exact oidx' l _ (a % (l.length : Nat)).toNat _ (by omega) (List.getElem?_eq_getElem _)
theorem pick_strs (l : List (List Nat)) (a : Int) (h : 0 < l.length) (hl : l.length ≤ lim) : ∃ s, s ∈ l ∧ opIdx (.strs l) (.int (a % (l.length : Nat))) = some (.str s) := by
  have h1 := Int.emod_nonneg a (show ((l.length : Nat) : Int) ≠ 0 by omega)
  have h2 := Int.emod_lt_of_pos a (show (0 : Int) < ((l.length : Nat) : Int) by omega)
  refine ⟨l[(a % (l.length : Nat)).toNat]'(by omega), List.getElem_mem _, ?_⟩
  show (if 0 ≤ _ ∧ l.length ≤ lim then (l[_]?).map AV.str else none) = _
  rw [if_pos ⟨h1, hl⟩, List.getElem?_eq_getElem (by omega)]; rfl
theorem gl0 : tabs.glob 0 = some (.str g_signs) := rfl
theorem gl4 : tabs.glob 4 = some (.strs g_inner) := rfl
section
variable {d : Nat} {fs : List AV}
theorem word_loop {C : Nat → List AV → List AV → (AV → List AV → Prop) → Prop} {Q : Fl → S → Prop} {v0 v1 : Option AV} {rest : List (Option AV)} : ∀ (l : List Int) (w : List Nat) (v4 : Option AV), w.length + 8 * l.length ≤ 1000 →
    (∀ w v4, w.length ≤ 1000 → Q .next ⟨v0 :: v1 :: some (.strs pcs) :: some (.str w) :: v4 :: rest, fs⟩) → forW (stepW C wordB 4 Q) (Q .next) (l.map .int) ⟨v0 :: v1 :: some (.strs pcs) :: some (.str w) :: v4 :: rest, fs⟩
  | [], w, v4, hl, h => h w v4 (by simp at hl; omega)
  | n :: l, w, v4, hl, h => by
    obtain ⟨f1, f2, f3, _⟩ := pcs_facts
    simp at hl
    show wS tabs C wordB (loopK Q (forW (stepW C wordB 4 Q) (Q .next) (l.map .int))) _
    have IH := fun w hw => word_loop (C := C) (Q := Q) (v0 := v0) (v1 := v1) (rest := rest) l w (some (.int n)) hw h
    generalize forW (stepW C wordB 4 Q) (Q .next) (l.map .int) = ag at IH ⊢
    have m1 := obmod n 2 (by decide)
    unfold wordB pickC
    by_cases z : n % 2 = 0
    · obtain ⟨c, hc⟩ := pick_str g_signs (n / 2) (by omega)
      have m2 := obmod (n / 2) (g_signs.length : Nat) (by omega)
      have IH := IH (w ++ [c]) (by simp; omega)
      have la : w.length + 1 ≤ lim := by unfold lim; omega
      exact g_t rfl (ev_cmp (ev_bin rfl rfl m1) rfl (congrArg some (decide_eq_true z))) (g_asg (ev_bin rfl (ev_idx rfl (ev_bin rfl rfl m2) hc) ((ob_sadd _ _).trans (if_pos la))) IH)
    · obtain ⟨s, hm, hs⟩ := pick_strs pcs (n / 2) (by omega) (by unfold lim; omega)
      have m2 := obmod (n / 2) (pcs.length : Nat) (by omega)
      have ol := olenl pcs (by unfold lim; omega)
      have h8 := f3 s hm
      have IH := IH (w ++ s) (by simp; omega)
      have la : w.length + s.length ≤ lim := by unfold lim; omega
      exact g_f rfl (ev_cmp (ev_bin rfl rfl m1) rfl (congrArg some (decide_eq_false z))) (g_asg (ev_bin rfl (ev_idx rfl (ev_bin rfl ol m2) hs) ((ob_sadd _ _).trans (if_pos la))) IH)
theorem law_word_ok {l : List Int} {n : Nat} {Q : AV → List AV → Prop} (hl : l.length ≤ 63) (hn : n ≤ 100) (h : ∀ w : List Nat, w.length ≤ n → Q (.str w) fs) : PCt (d + 2) 108 [.ints l, .int (n : Nat)] fs Q := by
  obtain ⟨f1, f2, f3, k1, k2, k3, k4, k5⟩ := pcs_facts
  refine pcu ⟨2, 14, b_law_word⟩ rfl rfl rfl ?_
  show wS tabs (PCt (d + 1)) (CS.seq (CS.asg 2 _) (CS.seq (CS.asg 3 (CE.str [])) (CS.seq (CS.forL 4 (CE.var 0) wordB) (CS.seq (CS.ret (CE.slice (CE.var 3) (CE.max2 (CE.int 0) (CE.bin .Sub (CE.len (CE.var 3)) (CE.var 1))) CE.none)) CS.skip)))) _ _
  refine sq2 fun R hR => ?_
  refine ⟨_, gl1, _, gl2, _, oladd _ _ k1, standard_ok ⟨_, oladd _ _ k2, _, gl4, _, oladd _ _ k3, _, gl5, _, oladd _ _ k4, _, gl6, _, oladd _ _ k5, ?_⟩⟩
  subst hR
  refine sq2 fun R hR => ?_
  refine ⟨by decide, ?_⟩
  subst hR
  refine sq2 fun R hR => ?_
  rw [w_forL]
  refine ⟨_, rfl, _, rfl, ?_⟩
  refine word_loop l [] none (by simp; omega) fun w v4 hw => ?_
  subst hR
  have om : opMax (.int 0) (.int ((w.length : Int) - (n : Nat))) = some (.int ((w.length - n : Nat) : Int)) := by
    have e : max (0 : Int) ((w.length : Int) - (n : Nat)) = ((w.length - n : Nat) : Int) := by omega
    rw [← e]; rfl
  have sl := osll w ((w.length - n : Nat) : Int) (w.length - n) rfl (by omega)
  have h := h (w.drop (w.length - n)) (by simp; omega)
  refine sq2 fun R hR => ?_
  exact ⟨_, rfl, _, rfl, _, rfl, _, rfl, _, rfl, _, om, _, sl, h⟩
theorem law_pure (l : List Int) (hl : l.length ≤ 63) : wS tabs (PCt 30) b_law_rest (endK fun v _ => v = .bool true) ⟨[some (.ints l), some .self, none, none, none, none], fs0⟩ := by
  have os1 : opSlice (.ints l) (.int 16) (.int 24) = some (.ints ((l.take 24).drop 16)) := rfl
  have os2 : opSlice (.ints l) .none (.int 16) = some (.ints ((l.take 16).drop 0)) := rfl
  unfold b_law_rest
  refine sq2 fun R hR => ?_
  refine ⟨rfl, _, rfl, _, os1, law_word_ok (d := 28) (n := 10) (by simp; omega) (by decide) fun w1 h1 => ?_⟩
  refine word_ok (d := 24) (by omega) (.inl rfl) fun c lm x y p q r => ⟨rfl, ?_⟩
  subst hR
  refine sq2 fun R hR => ?_
  refine ⟨_, rfl, _, os2, law_word_ok (d := 28) (n := 24) (by simp; omega) (by decide) fun w h2 => ?_⟩
  subst hR
  refine sq2 fun R hR => ?_
  refine ⟨rfl, _, rfl, word_ok (d := 24) (by omega) (.inr rfl) fun c lm x y p q r => ⟨_, rfl, stem_law_ok (d := 27) (by omega) ⟨_, oc_seq _ _, ?_⟩⟩⟩
  show AV.bool (decide (stemP w = stemP w)) = _
  rw [decide_eq_true rfl]
end
end Sp.Pu
end
theorem PySem.Challenge.cw_is0018_01_holds : PySem.Challenge.rw_is0018_01.Holds :=
  Sp.law_holds fun w => Sp.law_ok w Sp.Pu.law_pure
