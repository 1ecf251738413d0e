import PyProof.Rows.All
import Wide.All
import OpenK.AllK
import Wide.FinOn
import KE.KSortTup
import Lean
import PySem.Challenge.RW_ti0028_01

set_option Elab.async false

section
namespace Mine
open PySem PySem.W PySem.Calls PyProof.Rows

/-- an evaluator for trees over the library's tree of objects; calls are run to their ends -/
structure EvIn where
  den : Code → Sem Fin
  prog : Program
  w : World

mutual
noncomputable def ev (M : EvIn) : Nat → (α : Type) → Ctx → Sem α → Pos → SharedT → Option (Except Value α × Pos × SharedT)
  | 0, _, _, _, _, _ => none
  | n + 1, α, Γ, t, p, s => match t with
    | .pure a => some (.ok a, p, s)
    | .raise e => some (.error e, p, s)
    | .rule _ k => ev M n α Γ (k ()) p s
    | .at q k => ev M n α Γ (k ()) q s
    | .point _ k => ev M n α Γ (k ()) p s
    | .ask k => ev M n α Γ (k ⟨M.prog, M.w.params⟩) p s
    | .handled own k => ev M n α Γ (k (if own then Γ.own else Γ.handled)) p s
    | .stack k => ev M n α Γ (k ((Γ.code, p) :: Γ.below)) p s
    | .fresh k => match s with
      | ⟨T, m, life, gens, drawn, toks, os⟩ => ev M n α Γ (k toks) p ⟨T, m, life, gens, drawn, toks + 1, os⟩
    | .load a _ k => match s with
      | ⟨T, m, life, gens, drawn, toks, os⟩ => match Nat.blt a m with
        | true => match T.get a with
          | some o => match alive o with
            | some o' => ev M n α Γ (k o') p ⟨T, m, life, gens, drawn, toks, os⟩
            | none => none
          | none => none
        | false => none
    | .update a _ f k => match s with
      | ⟨T, m, life, gens, drawn, toks, os⟩ => match Nat.blt a m with
        | true => match T.get a with
          | some o => match alive o with
            | some _ => ev M n α Γ (k ()) p ⟨T.set a f, m, life, gens, drawn, toks, os⟩
            | none => none
          | none => none
        | false => none
    | .loadIfAlive a k => match s with
      | ⟨T, m, life, gens, drawn, toks, os⟩ => match Nat.blt a m with
        | true => match T.get a with
          | some o => ev M n α Γ (k (alive o)) p ⟨T, m, life, gens, drawn, toks, os⟩
          | none => none
        | false => ev M n α Γ (k none) p ⟨T, m, life, gens, drawn, toks, os⟩
    | .alloc o k => match s with
      | ⟨T, m, life, gens, drawn, toks, os⟩ => match ((T.ins m o).get m).isSome with
        | true => ev M n α Γ (k m) p ⟨T.ins m o, m + 1, life, gens, drawn, toks, os⟩
        | false => none
    | .call c h _ _ k => match evCode M n (Γ.enter c h p) p s with
      | some (r, s') => ev M n α Γ (k r) p s'
      | none => none
    | _ => none
noncomputable def evCode (M : EvIn) : Nat → Ctx → Pos → SharedT → Option (Result × SharedT)
  | 0, _, _, _ => none
  | n + 1, Γ, p, s => match ev M n Fin Γ (M.den Γ.code) p s with
    | some (.ok (.done f), _, s') => some (.ok f, s')
    | some (.ok (.again c), q, s') => match c.quiet with
      | true => evCode M n (Γ.goto c) q s'
      | false => none
    | some (.error e, _, s') => some (.error e, s')
    | none => none
end

theorem ev_load (M : EvIn) (n : Nat) {α : Type} (Γ : Ctx) (a : Addr) (part : _) (k : Obj → Sem α) (p : Pos) (T m life gens drawn toks os) :
    ev M (n + 1) α Γ (.load a part k) p ⟨T, m, life, gens, drawn, toks, os⟩ = match Nat.blt a m with
        | true => match T.get a with
          | some o => match alive o with
            | some o' => ev M n α Γ (k o') p ⟨T, m, life, gens, drawn, toks, os⟩
            | none => none
          | none => none
        | false => none := rfl
theorem ev_update (M : EvIn) (n : Nat) {α : Type} (Γ : Ctx) (a : Addr) (part : _) (f : Obj → Obj) (k : Unit → Sem α) (p : Pos) (T m life gens drawn toks os) :
    ev M (n + 1) α Γ (.update a part f k) p ⟨T, m, life, gens, drawn, toks, os⟩ = match Nat.blt a m with
        | true => match T.get a with
          | some o => match alive o with
            | some _ => ev M n α Γ (k ()) p ⟨T.set a f, m, life, gens, drawn, toks, os⟩
            | none => none
          | none => none
        | false => none := rfl
theorem ev_ask (M : EvIn) (n : Nat) {α : Type} (Γ : Ctx) (a : Addr) (k : Option Obj → Sem α) (p : Pos) (T m life gens drawn toks os) :
    ev M (n + 1) α Γ (.loadIfAlive a k) p ⟨T, m, life, gens, drawn, toks, os⟩ = match Nat.blt a m with
        | true => match T.get a with
          | some o => ev M n α Γ (k (alive o)) p ⟨T, m, life, gens, drawn, toks, os⟩
          | none => none
        | false => ev M n α Γ (k none) p ⟨T, m, life, gens, drawn, toks, os⟩ := rfl
theorem ev_alloc (M : EvIn) (n : Nat) {α : Type} (Γ : Ctx) (o : Obj) (k : Addr → Sem α) (p : Pos) (T m life gens drawn toks os) :
    ev M (n + 1) α Γ (.alloc o k) p ⟨T, m, life, gens, drawn, toks, os⟩ = match ((T.ins m o).get m).isSome with
        | true => ev M n α Γ (k m) p ⟨T.ins m o, m + 1, life, gens, drawn, toks, os⟩
        | false => none := rfl
theorem ev_call (M : EvIn) (n : Nat) {α : Type} (Γ : Ctx) (c h g l) (k : Result → Sem α) (p : Pos) (s : SharedT) :
    ev M (n + 1) α Γ (.call c h g l k) p s = match evCode M n (Γ.enter c h p) p s with
      | some (r, s') => ev M n α Γ (k r) p s'
      | none => none := rfl
theorem evCode_next (M : EvIn) (n : Nat) (Γ : Ctx) (p : Pos) (s : SharedT) :
    evCode M (n + 1) Γ p s = match ev M n Fin Γ (M.den Γ.code) p s with
    | some (.ok (.done f), _, s') => some (.ok f, s')
    | some (.ok (.again c), q, s') => match c.quiet with
      | true => evCode M n (Γ.goto c) q s'
      | false => none
    | some (.error e, _, s') => some (.error e, s')
    | none => none := rfl

theorem ev_sound (M : EvIn) : ∀ n : Nat,
    (∀ (α : Type) (Γ : Ctx) (t : Sem α) (p : Pos) (s : SharedT) (r : Except Value α) (q : Pos) (s' : SharedT), ev M n α Γ t p s = some (r, q, s') →
      ∀ (Q : α → Pos → Shared → Prop) (E : Value → Pos → Shared → Prop), (match r with | .ok a => Q a q s'.abs | .error e => E e q s'.abs) → Sem.wp ⟨M.den, M.prog, M.w⟩ Γ t Q E p s.abs) ∧
    (∀ (Γ : Ctx) (p : Pos) (s : SharedT) (r : Result) (s' : SharedT), evCode M n Γ p s = some (r, s') → ∀ R : Result → Shared → Prop, R r s'.abs → wpCode ⟨M.den, M.prog, M.w⟩ Γ R p s.abs) := by
  intro n
  induction n with
  | zero => exact ⟨fun α Γ t p s r q s' h => (by cases (show (none : Option (Except Value α × Pos × SharedT)) = some _ from h)), fun Γ p s r s' h => (by cases (show (none : Option (Result × SharedT)) = some _ from h))⟩
  | succ n ih =>
    obtain ⟨ih1, ih2⟩ := ih
    refine ⟨fun α Γ t p s r q s' h Q E hr => ?_, fun Γ p s r s' h R hr => ?_⟩
    · cases t with
      | pure a => cases (show some (Except.ok a, p, s) = some (r, q, s') from h); rw [Sem.wp_pure]; exact hr
      | raise e => cases (show some (Except.error e, p, s) = some (r, q, s') from h); rw [Sem.wp_raise]; exact hr
      | rule tag k => replace h : ev M n α Γ (k ()) p s = _ := h; rw [Sem.wp_rule]; exact ih1 _ _ _ _ _ _ _ _ h Q E hr
      | «at» p' k => replace h : ev M n α Γ (k ()) p' s = _ := h; rw [Sem.wp_at]; exact ih1 _ _ _ _ _ _ _ _ h Q E hr
      | point l k => replace h : ev M n α Γ (k ()) p s = _ := h; rw [Sem.wp_point]; exact ih1 _ _ _ _ _ _ _ _ h Q E hr
      | ask k => replace h : ev M n α Γ (k ⟨M.prog, M.w.params⟩) p s = _ := h; rw [Sem.wp_ask]; exact ih1 _ _ _ _ _ _ _ _ h Q E hr
      | handled own k => replace h : ev M n α Γ (k (if own then Γ.own else Γ.handled)) p s = _ := h; rw [Sem.wp_handled]; exact ih1 _ _ _ _ _ _ _ _ h Q E hr
      | stack k => replace h : ev M n α Γ (k ((Γ.code, p) :: Γ.below)) p s = _ := h; rw [Sem.wp_stack]; exact ih1 _ _ _ _ _ _ _ _ h Q E hr
      | fresh k => obtain ⟨T, m, life, gens, drawn, toks, os⟩ := s; replace h : ev M n α Γ (k toks) p ⟨T, m, life, gens, drawn, toks + 1, os⟩ = _ := h; rw [Sem.wp_fresh]; exact ih1 _ _ _ _ _ _ _ _ h Q E hr
      | load a part k =>
        obtain ⟨T, m, life, gens, drawn, toks, os⟩ := s
        rw [ev_load] at h
        cases e : Nat.blt a m with
        | false => simp only [e] at h; cases h
        | true =>
          have lt : a < m := Nat.le_of_ble_eq_true e
          cases g : T.get a with
          | none => simp only [e, g] at h; cases h
          | some o =>
            cases al : alive o with
            | none => simp only [e, g, al] at h; cases h
            | some o' =>
              simp only [e, g, al] at h
              rw [Sem.wp_load]
              exact ⟨o', (abs_get lt g).trans al, ih1 _ _ _ _ _ _ _ _ h Q E hr⟩
      | update a part f k =>
        obtain ⟨T, m, life, gens, drawn, toks, os⟩ := s
        rw [ev_update] at h
        cases e : Nat.blt a m with
        | false => simp only [e] at h; cases h
        | true =>
          have lt : a < m := Nat.le_of_ble_eq_true e
          cases g : T.get a with
          | none => simp only [e, g] at h; cases h
          | some o =>
            cases al : alive o with
            | none => simp only [e, g, al] at h; cases h
            | some o' =>
              simp only [e, g, al] at h
              rw [Sem.wp_update]
              refine ⟨by show ((absHeap T m life).get? a).isSome = true; rw [abs_get lt g, al]; rfl, ?_⟩
              have := ih1 _ _ _ _ _ _ _ _ h Q E hr
              show Sem.wp _ Γ (k ()) Q E p ⟨(absHeap T m life).update a f, gens, drawn, toks, os⟩
              rw [← absHeap_set g]
              exact this
      | loadIfAlive a k =>
        obtain ⟨T, m, life, gens, drawn, toks, os⟩ := s
        rw [ev_ask] at h
        rw [Sem.wp_loadIfAlive]
        cases e : Nat.blt a m with
        | false =>
          simp only [e] at h
          have lt : ¬ a < m := fun q => by rw [show Nat.blt a m = true from Nat.ble_eq_true_of_le q] at e; cases e
          show Sem.wp _ Γ (k ((absHeap T m life).get? a)) Q E p _
          rw [abs_get_none lt]
          exact ih1 _ _ _ _ _ _ _ _ h Q E hr
        | true =>
          have lt : a < m := Nat.le_of_ble_eq_true e
          cases g : T.get a with
          | none => simp only [e, g] at h; cases h
          | some o =>
            simp only [e, g] at h
            show Sem.wp _ Γ (k ((absHeap T m life).get? a)) Q E p _
            rw [abs_get lt g]
            exact ih1 _ _ _ _ _ _ _ _ h Q E hr
      | alloc o k =>
        obtain ⟨T, m, life, gens, drawn, toks, os⟩ := s
        rw [ev_alloc] at h
        cases e : ((T.ins m o).get m).isSome with
        | false => simp only [e] at h; cases h
        | true =>
          simp only [e] at h
          rw [Sem.wp_alloc]
          show Sem.wp _ Γ (k (absHeap T m life).objs.size) Q E p ⟨(absHeap T m life).push o, gens, drawn, toks, os⟩
          rw [absHeap_size, ← absHeap_ins e]
          exact ih1 _ _ _ _ _ _ _ _ h Q E hr
      | call c h₀ g l k =>
        rw [ev_call] at h
        rw [Sem.wp_call]
        cases e : evCode M n (Γ.enter c h₀ p) p s with
        | none => rw [e] at h; cases h
        | some x =>
          obtain ⟨r₁, s₁⟩ := x
          rw [e] at h
          exact ih2 _ _ _ _ _ e _ (ih1 _ _ _ _ _ _ _ _ h Q E hr)
      | _ => cases (show (none : Option (Except Value α × Pos × SharedT)) = some (r, q, s') from h)
    · rw [evCode_next] at h
      rw [wpCode_iff_wp]
      cases e : ev M n Fin Γ (M.den Γ.code) p s with
      | none => rw [e] at h; cases h
      | some x =>
        obtain ⟨r₁, q, s₁⟩ := x
        rw [e] at h
        cases r₁ with
        | error e' => cases h; exact ih1 _ _ _ _ _ _ _ _ e _ _ hr
        | ok fin =>
          cases fin with
          | done f => cases h; exact ih1 _ _ _ _ _ _ _ _ e _ _ hr
          | again c =>
            dsimp only at h
            cases hq : c.quiet with
            | false => rw [hq] at h; cases h
            | true =>
              rw [hq] at h
              exact ih1 _ _ _ _ _ _ _ _ e _ _ ⟨hq, ih2 _ _ _ _ _ h _ hr⟩
end Mine
end

section
namespace Mine
open PySem PySem.W PySem.Calls PyProof.Rows

/-! a long display of a dict whose keys are written ints and whose values are written texts -/
noncomputable def pushes (h : Heap) (l : List Obj) : Heap := ⟨h.objs ++ l.toArray, h.life⟩
theorem pushes_push (h : Heap) (l : List Obj) (o : Obj) : (pushes h l).push o = pushes h (l ++ [o]) := by
  show Heap.mk ((h.objs ++ l.toArray).push o) h.life = Heap.mk _ h.life
  congr 1
  simp
theorem pushes_nil (h : Heap) : pushes h [] = h := by cases h; simp [pushes]
theorem pushes_size (h : Heap) (l : List Obj) : (pushes h l).objs.size = h.objs.size + l.length := by simp [pushes]
theorem pushes_update (h : Heap) (l : List Obj) (i : Nat) (f : Obj → Obj) : (pushes h l).update (h.objs.size + i) f = pushes h (l.modify i f) := by
  show Heap.mk ((h.objs ++ l.toArray).modify (h.objs.size + i) f) h.life = Heap.mk _ h.life
  congr 1
  apply Array.ext_getElem?
  intro j
  rw [Array.getElem?_modify]
  simp only [Array.getElem?_append, List.getElem?_toArray, List.getElem?_modify]
  by_cases hj : j < h.objs.size
  · have : h.objs.size + i ≠ j := by (first | lia | omega)
    simp [hj, this]
  · by_cases e : h.objs.size + i = j
    · subst e; simp only [hj, if_true, if_false, Nat.add_sub_cancel_left]
      cases l[i]? <;> rfl
    · have : i ≠ j - h.objs.size := by (first | lia | omega)
      simp [hj, e, this]
theorem pushes_get {h : Heap} {l : List Obj} {i : Nat} {o : Obj} (e : l[i]? = some o) (hf : o.isFreed = false) : (pushes h l).get? (h.objs.size + i) = some o := by
  have : (pushes h l).objs[h.objs.size + i]? = some o := by
    show (h.objs ++ l.toArray)[h.objs.size + i]? = some o
    rw [Array.getElem?_append_right (Nat.le_add_right _ _)]
    simpa using e
  unfold Heap.get?
  rw [this]
  obtain ⟨c, d, dt, sl⟩ := o
  cases dt <;> first | rfl | (simp [Obj.isFreed] at hf)

noncomputable def entsL : Nat → List (Int × Str) → List DictEntry
  | _, [] => []
  | t, (k, x) :: r => ⟨hashInt k, .int k t, .str x (t + 1)⟩ :: entsL (t + 3) r
noncomputable def entsS : Nat → List (Int × Str) → List DictEntry
  | _, [] => []
  | t, (k, x) :: r => ⟨hashInt k, .int k t, .str x (t + 1)⟩ :: entsS (t + 2) r
theorem entsL_append (t : Nat) : ∀ a b, entsL t (a ++ b) = entsL t a ++ entsL (t + 3 * a.length) b := by
  intro a
  induction a generalizing t with
  | nil => intro b; rfl
  | cons x r ih => intro b; obtain ⟨k, y⟩ := x; simp only [List.cons_append, entsL, ih, List.length_cons]; congr 3; (first | lia | omega)
theorem entsS_append (t : Nat) : ∀ a b, entsS t (a ++ b) = entsS t a ++ entsS (t + 2 * a.length) b := by
  intro a
  induction a generalizing t with
  | nil => intro b; rfl
  | cons x r ih => intro b; obtain ⟨k, y⟩ := x; simp only [List.cons_append, entsS, ih, List.length_cons]; congr 3; (first | lia | omega)
theorem entsL_length (t : Nat) (a) : (entsL t a).length = a.length := by
  induction a generalizing t with
  | nil => rfl
  | cons x r ih => obtain ⟨k, y⟩ := x; simp [entsL, ih]
theorem entsS_length (t : Nat) (a) : (entsS t a).length = a.length := by
  induction a generalizing t with
  | nil => rfl
  | cons x r ih => obtain ⟨k, y⟩ := x; simp [entsS, ih]
theorem entsL_mem {t : Nat} {a : List (Int × Str)} {e : DictEntry} (h : e ∈ entsL t a) : ∃ k x u, (k, x) ∈ a ∧ e = ⟨hashInt k, .int k u, .str x (u + 1)⟩ := by
  induction a generalizing t with
  | nil => cases h
  | cons y r ih =>
    obtain ⟨k, x⟩ := y
    rcases List.mem_cons.mp h with rfl | h
    · exact ⟨k, x, t, .head _, rfl⟩
    · obtain ⟨k', x', u, hm, e'⟩ := ih h; exact ⟨k', x', u, .tail _ hm, e'⟩
theorem entsS_mem {t : Nat} {a : List (Int × Str)} {e : DictEntry} (h : e ∈ entsS t a) : ∃ k x u, (k, x) ∈ a ∧ e = ⟨hashInt k, .int k u, .str x (u + 1)⟩ := by
  induction a generalizing t with
  | nil => cases h
  | cons y r ih =>
    obtain ⟨k, x⟩ := y
    rcases List.mem_cons.mp h with rfl | h
    · exact ⟨k, x, t, .head _, rfl⟩
    · obtain ⟨k', x', u, hm, e'⟩ := ih h; exact ⟨k', x', u, .tail _ hm, e'⟩

/-- every entry's key is one of these ints, under its hash -/
noncomputable def KeysOf (ks : List Int) (es : List DictEntry) : Prop := ∀ e ∈ es, ∃ k u, k ∈ ks ∧ e.key = .int k u ∧ e.hash = hashInt k
theorem KeysOf.ints {ks es} (h : KeysOf ks es) : IntKeys es.toArray := fun e he => let ⟨k, u, _, a, b⟩ := h e (by simpa using he); ⟨k, u, a, b⟩
theorem KeysOf.none {ks : List Int} {es : List DictEntry} (h : KeysOf ks es) {k : Int} (hk : k ∉ ks) : (es.toArray.findIdx? fun e => Value.isInt k e.key) = none := by
  refine Array.findIdx?_eq_none_iff.mpr fun e he => ?_
  obtain ⟨k', u, hm, a, _⟩ := h e (by simpa using he)
  rw [a]
  show (k' == k) = false
  exact beq_eq_false_iff_ne.mpr (fun q => hk (q ▸ hm))
theorem keysOf_L (t : Nat) (a : List (Int × Str)) : KeysOf (a.map (·.1)) (entsL t a) := fun e he => by
  obtain ⟨k, x, u, hm, rfl⟩ := entsL_mem he; exact ⟨k, u, List.mem_map_of_mem hm, rfl, rfl⟩
theorem keysOf_S (t : Nat) (a : List (Int × Str)) : KeysOf (a.map (·.1)) (entsS t a) := fun e he => by
  obtain ⟨k, x, u, hm, rfl⟩ := entsS_mem he; exact ⟨k, u, List.mem_map_of_mem hm, rfl, rfl⟩
theorem KeysOf.append {ks ks' es es'} (h : KeysOf ks es) (h' : KeysOf ks' es') : KeysOf (ks ++ ks') (es ++ es') := fun e he => by
  rcases List.mem_append.mp he with q | q
  · obtain ⟨k, u, a, b⟩ := h e q; exact ⟨k, u, List.mem_append_left _ a, b⟩
  · obtain ⟨k, u, a, b⟩ := h' e q; exact ⟨k, u, List.mem_append_right _ a, b⟩

section
variable {prog : Program} {w : World} {A : Around} {E : Value → Shared → Prop}

noncomputable abbrev at_ (s : Shared) (h : Heap) (t : Nat) : Shared := { s with heap := h, toks := t }

theorem mapDictKeys_dictOf (es : List DictEntry) (n : Nat) (e : DictEntry) : Obj.mapDictKeys (·.push e) (dictOf es n) = dictOf (es ++ [e]) (n + 1) := by
  simp [Obj.mapDictKeys, dictOf]

theorem wp_dset {s : Shared} {h : Heap} {l : List Obj} {i : Nat} {es : List DictEntry} {n tk : Nat} {ks : List Int} {k : Int} {t : Tok} {v : Value} {Q : Unit → Shared → Prop}
    (hl : l[i]? = some (dictOf es n)) (hk : KeysOf ks es) (hn : k ∉ ks) (hz : es.length ≤ 1000)
    (hQ : Q () (at_ s (pushes h (l.set i (dictOf (es ++ [⟨hashInt k, .int k t, v⟩]) (n + 1)))) (tk + 1))) :
    wpAny (model prog w) A (dictSet (h.objs.size + i) (.int k t) v) Q E (at_ s (pushes h l) tk) := by
  have ho := pushes_get (h := h) hl rfl
  unfold dictSet
  try with_reducible refine wpAny_holding ?_
  refine wpAny_bind (wpAny_pyHash_int ?_)
  unfold dictSetHashed
  try with_reducible refine wpAny_holding ?_
  refine wpAny_bind (wpAny_dictFind_int (o := dictOf es n) (es := es.toArray) (ep := n) ho rfl hk.ints ?_)
  rw [hk.none hn]
  refine wpAny_bind (wpAny_rule (wpAny_updateDictKeys (hz := by rw [List.size_toArray]; exact Nat.le_trans hz (by decide)) (o := dictOf es n) ho rfl ?_))
  have e : (pushes h l).update (h.objs.size + i) (Obj.mapDictKeys fun x => x.push ⟨hashInt k, .int k t, v⟩) = pushes h (l.set i (dictOf (es ++ [⟨hashInt k, .int k t, v⟩]) (n + 1))) := by
    rw [pushes_update]
    congr 1
    have hi : i < l.length := (List.getElem?_eq_some_iff.mp hl).1
    apply List.ext_getElem?
    intro j
    rw [List.getElem?_modify, List.getElem?_set]
    by_cases e : i = j
    · subst e; rw [hl]; simp only [hi, if_true]; exact congrArg some (mapDictKeys_dictOf _ _ _)
    · simp [e]
  show Q () (at_ s ((pushes h l).update (h.objs.size + i) _) (tk + 1))
  rw [e]; exact hQ

theorem wp_dput {s : Shared} {h : Heap} {l : List Obj} {i : Nat} {es : List DictEntry} {n tk : Nat} {ks : List Int} {k : Int} {t : Tok} {v : Value} {Q : Unit → Shared → Prop}
    (hl : l[i]? = some (dictOf es n)) (hk : KeysOf ks es) (hn : k ∉ ks) (hz : es.length ≤ 1000)
    (hQ : Q () (at_ s (pushes h (l.set i (dictOf (es ++ [⟨hashInt k, .int k t, v⟩]) (n + 1)))) tk)) :
    wpAny (model prog w) A (dictPut (h.objs.size + i) (hashInt k) (.int k t) v) Q E (at_ s (pushes h l) tk) := by
  have ho := pushes_get (h := h) hl rfl
  unfold dictPut
  refine wpAny_bind (wpAny_dictFind_int (o := dictOf es n) (es := es.toArray) (ep := n) ho rfl hk.ints ?_)
  rw [hk.none hn]
  refine (wpAny_updateDictKeys (hz := by rw [List.size_toArray]; exact Nat.le_trans hz (by decide)) (o := dictOf es n) ho rfl ?_)
  have e : (pushes h l).update (h.objs.size + i) (Obj.mapDictKeys fun x => x.push ⟨hashInt k, .int k t, v⟩) = pushes h (l.set i (dictOf (es ++ [⟨hashInt k, .int k t, v⟩]) (n + 1))) := by
    rw [pushes_update]
    congr 1
    have hi : i < l.length := (List.getElem?_eq_some_iff.mp hl).1
    apply List.ext_getElem?
    intro j
    rw [List.getElem?_modify, List.getElem?_set]
    by_cases e : i = j
    · subst e; rw [hl]; simp only [hi, if_true]; exact congrArg some (mapDictKeys_dictOf _ _ _)
    · simp [e]
  show Q () (at_ s ((pushes h l).update (h.objs.size + i) _) tk)
  rw [e]; exact hQ

/-- a pair of trees that give this int and this text -/
noncomputable def IsPair (prog : Program) (w : World) (p : Sem Value × Sem Value) (d : Int × Str) : Prop :=
  (∀ (A : Around) (E : Value → Shared → Prop) (Q : Value → Shared → Prop) (s : Shared), Q (.int d.1 s.toks) { s with toks := s.toks + 1 } → wpAny (model prog w) A p.1 Q E s) ∧
  (∀ (A : Around) (E : Value → Shared → Prop) (Q : Value → Shared → Prop) (s : Shared), Q (.str d.2 s.toks) { s with toks := s.toks + 1 } → wpAny (model prog w) A p.2 Q E s)

inductive Pairs (prog : Program) (w : World) : List (Sem Value × Sem Value) → List (Int × Str) → Prop
  | nil : Pairs prog w [] []
  | cons {p d l m} : IsPair prog w p d → Pairs prog w l m → Pairs prog w (p :: l) (d :: m)
theorem Pairs.length {l m} (h : Pairs prog w l m) : l.length = m.length := by
  induction h with
  | nil => rfl
  | cons _ _ ih => simp [ih]
theorem Pairs.snoc {l m p d} (h : Pairs prog w l m) (hp : IsPair prog w p d) : Pairs prog w (l ++ [p]) (m ++ [d]) := by
  induction h with
  | nil => exact .cons hp .nil
  | cons a _ ih => exact .cons a ih

theorem nodup_append_not {a b : List Int} (h : (a ++ b).Nodup) {k : Int} (hk : k ∈ b) : k ∉ a := fun q => (List.nodup_append.mp h).2.2 k q k hk rfl

theorem wp_subDict_long {s : Shared} {h : Heap} {l : List Obj} {tk : Nat} {pairs : List (Sem Value × Sem Value)} {ds : List (Int × Str)} {Q : Addr → Shared → Prop}
    (hp : Pairs prog w pairs ds) (h16 : 15 < ds.length) (h1000 : ds.length ≤ 1000) (hnd : (ds.map (·.1)).Nodup)
    (hQ : Q (h.objs.size + l.length) (at_ s (pushes h (l ++ [dictOf (entsL tk ds) ds.length])) (tk + 3 * ds.length))) :
    wpAny (model prog w) A (subDict pairs) Q E (at_ s (pushes h l) tk) := by
  unfold subDict
  refine wpAny_bind (wpAny_alloc ?_)
  rw [pushes_size]
  show wpAny _ _ _ _ _ (at_ s ((pushes h l).push _) tk)
  rw [pushes_push]
  refine wpAny_bind (wpAny_holding ?_)
  rw [if_neg (by rw [hp.length]; (first | lia | omega))]
  refine wpAny_bind (wpAny_rule ?_)
  refine wpAny_bind ?_
  refine wpAny_forIn_list _ (fun rest b s' => ∃ dn rn, ds = dn ++ rn ∧ Pairs prog w rest rn ∧ s' = at_ s (pushes h (l ++ [dictOf (entsL tk dn) dn.length])) (tk + 3 * dn.length)) _ ?_ ?_ _ _
    ⟨[], ds, rfl, hp, rfl⟩
  · rintro x rest b s' ⟨dn, rn, rfl, hr, rfl⟩
    obtain ⟨t1, t2⟩ := x
    cases hr with
    | cons hx hr =>
      rename_i d rn
      obtain ⟨k, y⟩ := d
      obtain ⟨e1, e2⟩ := hx
      dsimp only at e1 e2 ⊢
      refine wpAny_bind (e1 _ _ _ _ ?_)
      refine wpAny_bind (wpAny_holding (e2 _ _ _ _ ?_))
      refine wpAny_bind (wpAny_holding ?_)
      have hnot : k ∉ dn.map (·.1) := nodup_append_not (by simpa using hnd) (by simp)
      refine wp_dset (tk := tk + 3 * dn.length + 1 + 1) (i := l.length) (es := entsL tk dn) (n := dn.length) (by simp) (keysOf_L tk dn) hnot (by rw [entsL_length]; simp at h1000; (first | lia | omega)) ?_
      refine wpAny_pure ⟨dn ++ [(k, y)], rn, by simp, hr, ?_⟩
      rw [entsL_append]
      simp [entsL]
      (first | lia | omega)
  · rintro b s' ⟨dn, rn, rfl, hr, rfl⟩
    cases hr
    refine wpAny_pure (wpAny_pure ?_)
    simpa using hQ

theorem wp_evalPairs : ∀ {pairs : List (Sem Value × Sem Value)} {ds : List (Int × Str)} {s : Shared} {Q : List (Value × Value) → Shared → Prop}, Pairs prog w pairs ds →
    Q ((entsS s.toks ds).map fun e => (e.key, e.val)) { s with toks := s.toks + 2 * ds.length } → wpAny (model prog w) A (evalPairs pairs) Q E s
  | _, _, s, Q, .nil, hQ => wpAny_pure hQ
  | _, _, s, Q, .cons (p := (t1, t2)) (d := (k, y)) (m := m) ⟨e1, e2⟩ hr, hQ => by
    unfold evalPairs
    dsimp only at e1 e2
    refine wpAny_bind (e1 _ _ _ _ ?_)
    refine wpAny_bind (wpAny_holding (e2 _ _ _ _ ?_))
    refine wpAny_bind (wpAny_holding (wp_evalPairs hr ?_))
    refine wpAny_pure ?_
    have : s.toks + 1 + 1 + 2 * m.length = s.toks + 2 * (m.length + 1) := by (first | lia | omega)
    simpa [entsS, this] using hQ

theorem wp_subDict_short {s : Shared} {h : Heap} {l : List Obj} {tk : Nat} {pairs : List (Sem Value × Sem Value)} {ds : List (Int × Str)} {Q : Addr → Shared → Prop}
    (hp : Pairs prog w pairs ds) (h15 : ds.length ≤ 15) (hnd : (ds.map (·.1)).Nodup)
    (hQ : Q (h.objs.size + l.length) (at_ s (pushes h (l ++ [dictOf (entsS tk ds) ds.length])) (tk + 3 * ds.length))) :
    wpAny (model prog w) A (subDict pairs) Q E (at_ s (pushes h l) tk) := by
  unfold subDict
  refine wpAny_bind (wpAny_alloc ?_)
  rw [pushes_size]
  show wpAny _ _ _ _ _ (at_ s ((pushes h l).push _) tk)
  rw [pushes_push]
  refine wpAny_bind (wpAny_holding ?_)
  rw [if_pos (by rw [hp.length]; (first | lia | omega))]
  refine wpAny_bind (wp_evalPairs hp ?_)
  refine wpAny_holding ?_
  refine wpAny_bind ?_
  refine wpAny_forIn_list _ (fun rest b s' => ∃ dn rn, ds = dn ++ rn ∧ rest = (entsS (tk + 2 * dn.length) rn).map (fun e => (e.key, e.val)) ∧ entsS tk ds = entsS tk dn ++ entsS (tk + 2 * dn.length) rn ∧
    s' = at_ s (pushes h (l ++ [dictOf (entsS tk dn) dn.length])) (tk + 2 * ds.length + dn.length)) _ ?_ ?_ _ _
    ⟨[], ds, rfl, rfl, rfl, rfl⟩
  · rintro x rest b s' ⟨dn, rn, rfl, hr, he, rfl⟩
    obtain ⟨kv, vv⟩ := x
    cases rn with
    | nil => cases hr
    | cons d rn =>
      obtain ⟨k, y⟩ := d
      simp only [entsS, List.map_cons, List.cons.injEq, Prod.mk.injEq] at hr
      obtain ⟨⟨rfl, rfl⟩, rfl⟩ := hr
      have hnot : k ∉ dn.map (·.1) := nodup_append_not (by simpa using hnd) (by simp)
      dsimp only
      refine wpAny_bind ?_
      refine wp_dset (i := l.length) (es := entsS tk dn) (n := dn.length) (by simp) (keysOf_S tk dn) hnot (by rw [entsS_length]; simp at h15; (first | lia | omega)) ?_
      have e2 : entsS tk (dn ++ [(k, y)]) = entsS tk dn ++ [⟨hashInt k, .int k (tk + 2 * dn.length), .str y (tk + 2 * dn.length + 1)⟩] := by
        rw [entsS_append]; rfl
      refine wpAny_pure ⟨dn ++ [(k, y)], rn, by simp, ?_, ?_, ?_⟩
      · simp only [List.length_append, List.length_cons, List.length_nil]; congr 2
      · rw [e2]
        simp only [entsS] at he
        simp only [List.append_assoc, List.cons_append, List.nil_append, List.length_append, List.length_cons, List.length_nil]
        exact he
      · rw [e2]
        simp
        (first | lia | omega)
  · rintro b s' ⟨dn, rn, rfl, hr, he, rfl⟩
    cases rn with
    | nil =>
      refine wpAny_pure (wpAny_pure ?_)
      have : tk + 2 * (dn ++ []).length + dn.length = tk + 3 * (dn ++ []).length := by simp; (first | lia | omega)
      rw [this]
      simpa using hQ
    | cons d rn => obtain ⟨k, y⟩ := d; cases hr


theorem typeIs_dict {s : Shared} {h : Heap} {l : List Obj} {i : Nat} {es : List DictEntry} {n tk : Nat} (hl : l[i]? = some (dictOf es n)) : (at_ s (pushes h l) tk).TypeIs (.ref (h.objs.size + i)) "dict" :=
  ⟨dictOf es n, pushes_get hl rfl, rfl⟩

/-- the entries that a sub-dict hands over, one by one, into the first dict -/
noncomputable def IntEnts (es : List DictEntry) : Prop := ∀ e ∈ es, ∃ k u v, e = ⟨hashInt k, .int k u, v⟩
noncomputable def keysOfE (es : List DictEntry) : List Int := es.map fun e => match e.key with | .int k _ => k | _ => 0

theorem keysOf_of {es : List DictEntry} (h : IntEnts es) : KeysOf (keysOfE es) es := fun e he => by
  obtain ⟨k, u, v, rfl⟩ := h e he
  exact ⟨k, u, List.mem_map.mpr ⟨_, he, rfl⟩, rfl, rfl⟩

theorem wp_merge {s : Shared} {h : Heap} {l : List Obj} {i : Nat} {es fs : List DictEntry} {n m tk : Nat} {Q : Unit → Shared → Prop}
    (h2 : 2 ≤ h.objs.size) (h0 : l[0]? = some (dictOf es n)) (hi : l[i]? = some (dictOf fs m)) (hi0 : i ≠ 0) (hne : es ≠ []) (he : IntEnts es) (hf : IntEnts fs) (hnd : (keysOfE es ++ keysOfE fs).Nodup) (hz : es.length + fs.length ≤ 1000)
    (hQ : Q () (at_ s (pushes h (l.set 0 (dictOf (es ++ fs) (n + fs.length)))) tk)) :
    wpAny (model prog w) A (mergeMapping (h.objs.size + 0) (.ref (h.objs.size + i)) false) Q E (at_ s (pushes h l) tk) := by
  unfold mergeMapping
  have hsub : isSubtype (.type "dict") (.type "dict") = pure true := by rw [isSubtype_type]; kernel_rfl
  have e1 : (some (Value.builtin "dict.__iter__") == some (Value.builtin "dict.__iter__")) = true := beq_self_eq_true _
  refine wpAny_bind (wpAny_isInstance (T := "dict") (U := "dict") (b := true) (typeIs_dict hi) hsub ?_)
  rw [if_pos rfl]
  refine wpAny_bind (wpAny_specialOf (T := "dict") (typeIs_dict hi) PySem.F.slot_dict_iter.lookup ?_)
  rw [e1]
  refine wpAny_bind (wpAny_pure ?_)
  dsimp only
  have e2 : (h.objs.size + i == sysModules) = false := beq_eq_false_iff_ne.mpr (by show h.objs.size + i ≠ 1; (first | lia | omega))
  rw [if_neg (by rw [e2]; exact Bool.false_ne_true)]
  refine wpAny_bind (wpAny_dictEntries (o := dictOf es n) (es := es.toArray) (ep := n) (pushes_get h0 rfl) rfl ?_)
  have e3 : es.toArray.isEmpty = false := by cases es with | nil => exact absurd rfl hne | cons => rfl
  rw [if_neg (by rw [e3]; exact Bool.false_ne_true)]
  refine wpAny_bind (wpAny_dictEntries (o := dictOf fs m) (es := fs.toArray) (ep := m) (pushes_get hi rfl) rfl ?_)
  refine wpAny_bind (wpAny_dictEpoch (o := dictOf fs m) (es := fs.toArray) (ep := m) (pushes_get hi rfl) rfl ?_)
  refine wpAny_bind ?_
  refine wpAny_forIn_list _ (fun rest b s' => ∃ j, j ≤ fs.length ∧ rest = List.range' j (fs.length - j) ∧ s' = at_ s (pushes h (l.set 0 (dictOf (es ++ fs.take j) (n + j)))) tk) _ ?_ ?_ _ _ ?_
  · rintro x rest b s' ⟨j, hj, hr, rfl⟩
    have hlt : j < fs.length := by
      rcases Nat.lt_or_ge j fs.length with q | q
      · exact q
      · rw [Nat.sub_eq_zero_of_le q] at hr; cases hr
    have hr' : x = j ∧ rest = List.range' (j + 1) (fs.length - (j + 1)) := by
      obtain ⟨r, hrr⟩ : ∃ r, fs.length - j = r + 1 := ⟨fs.length - j - 1, by (first | lia | omega)⟩
      rw [hrr, List.range'_succ] at hr
      have : fs.length - (j + 1) = r := by (first | lia | omega)
      rw [this]
      exact ⟨(List.cons.inj hr).1, (List.cons.inj hr).2⟩
    obtain ⟨rfl, rfl⟩ := hr'
    have hi' : (l.set 0 (dictOf (es ++ fs.take x) (n + x)))[i]? = some (dictOf fs m) := by rw [List.getElem?_set_ne (Ne.symm hi0)]; exact hi
    have hl0 : 0 < l.length := by cases l with | nil => cases h0 | cons => simp
    have h0' : (l.set 0 (dictOf (es ++ fs.take x) (n + x)))[0]? = some (dictOf (es ++ fs.take x) (n + x)) := by simp [hl0]
    refine wpAny_bind (wpAny_dictEntries (o := dictOf fs m) (es := fs.toArray) (ep := m) (pushes_get hi' rfl) rfl ?_)
    obtain ⟨k, u, v, hek⟩ := hf fs[x] (List.getElem_mem hlt)
    have hget : fs.toArray[x]? = some ⟨hashInt k, .int k u, v⟩ := by simp [hlt, hek]
    rw [hget]
    dsimp only
    refine wpAny_bind (wpAny_holding ?_)
    simp only [Bool.false_eq_true, if_false]
    have hke : IntEnts (es ++ fs.take x) := fun e q => by
      rcases List.mem_append.mp q with q | q
      · exact he e q
      · exact hf e (List.mem_of_mem_take q)
    have hnot : k ∉ keysOfE (es ++ fs.take x) := by
      have hsp : fs = fs.take x ++ fs[x] :: fs.drop (x + 1) := by rw [List.getElem_cons_drop, List.take_append_drop]
      have hkk : keysOfE es ++ keysOfE fs = keysOfE (es ++ fs.take x) ++ k :: keysOfE (fs.drop (x + 1)) := by
        conv => lhs; rw [hsp]
        rw [hek]
        simp [keysOfE]
      rw [hkk] at hnd
      exact nodup_append_not hnd (.head _)
    refine wp_dput (i := 0) (es := es ++ fs.take x) (n := n + x) h0' (keysOf_of hke) hnot (by rw [List.length_append, List.length_take]; (first | lia | omega)) ?_
    have hset : (l.set 0 (dictOf (es ++ fs.take x) (n + x))).set 0 (dictOf (es ++ fs.take x ++ [⟨hashInt k, .int k u, v⟩]) (n + x + 1)) = l.set 0 (dictOf (es ++ fs.take (x + 1)) (n + (x + 1))) := by
      rw [List.set_set, List.take_succ_eq_append_getElem hlt, hek, ← List.append_assoc, Nat.add_assoc]
    rw [hset]
    have hi'' : (l.set 0 (dictOf (es ++ fs.take (x + 1)) (n + (x + 1))))[i]? = some (dictOf fs m) := by rw [List.getElem?_set_ne (Ne.symm hi0)]; exact hi
    refine wpAny_bind (wpAny_dictEpoch (o := dictOf fs m) (es := fs.toArray) (ep := m) (pushes_get hi'' rfl) rfl ?_)
    simp only [bne_self_eq_false, Bool.false_eq_true, if_false]
    exact wpAny_pure ⟨x + 1, hlt, rfl, rfl⟩
  · rintro b s' ⟨j, hj, hr, rfl⟩
    have : j = fs.length := by
      rcases Nat.lt_or_ge j fs.length with q | q
      · obtain ⟨r, hrr⟩ : ∃ r, fs.length - j = r + 1 := ⟨fs.length - j - 1, by (first | lia | omega)⟩
        rw [hrr, List.range'_succ] at hr; cases hr
      · (first | lia | omega)
    subst this
    rw [List.take_length]
    exact wpAny_pure hQ
  · have : l.set 0 (dictOf (es ++ fs.take 0) (n + 0)) = l := by
      apply List.ext_getElem?
      intro j
      rw [List.getElem?_set]
      cases j with
      | zero => rw [h0]; have hl0 : 0 < l.length := by { cases l with | nil => cases h0 | cons => simp }; simp [hl0]
      | succ j => simp
    exact ⟨0, Nat.zero_le _, by rw [List.size_toArray, List.range_eq_range', Nat.sub_zero], by rw [this]⟩

end
end Mine
end

section
namespace Mine
open PySem PySem.W PySem.Calls PyProof.Rows

theorem keysOfE_L (t : Nat) (a : List (Int × Str)) : keysOfE (entsL t a) = a.map (·.1) := by
  induction a generalizing t with
  | nil => rfl
  | cons x r ih => obtain ⟨k, y⟩ := x; simp only [entsL, keysOfE, List.map_cons] at *; rw [ih]
theorem keysOfE_S (t : Nat) (a : List (Int × Str)) : keysOfE (entsS t a) = a.map (·.1) := by
  induction a generalizing t with
  | nil => rfl
  | cons x r ih => obtain ⟨k, y⟩ := x; simp only [entsS, keysOfE, List.map_cons] at *; rw [ih]
theorem intEnts_L (t : Nat) (a : List (Int × Str)) : IntEnts (entsL t a) := fun e he => by obtain ⟨k, x, u, _, rfl⟩ := entsL_mem he; exact ⟨k, u, _, rfl⟩
theorem intEnts_S (t : Nat) (a : List (Int × Str)) : IntEnts (entsS t a) := fun e he => by obtain ⟨k, x, u, _, rfl⟩ := entsS_mem he; exact ⟨k, u, _, rfl⟩

noncomputable def subOf (tk : Nat) (data : List (Int × Str)) (j : Nat) : Obj := dictOf (entsL (tk + 51 * j) ((data.drop (17 * j)).take 17)) 17
noncomputable def mainOf (tk : Nat) (data : List (Int × Str)) (m : Nat) : Obj := dictOf (entsL tk (data.take (17 * m))) (17 * m)
noncomputable def subsOf (tk : Nat) (data : List (Int × Str)) (m : Nat) : List Obj := (List.range (m - 1)).map fun j => subOf tk data (j + 1)
noncomputable def layOf (tk : Nat) (data : List (Int × Str)) : Nat → List Obj
  | 0 => []
  | m + 1 => mainOf tk data (m + 1) :: subsOf tk data (m + 1)
theorem subsOf_succ (tk : Nat) (data : List (Int × Str)) (m : Nat) : subsOf tk data (m + 2) = subsOf tk data (m + 1) ++ [subOf tk data (m + 1)] := by
  unfold subsOf
  rw [show m + 2 - 1 = (m + 1 - 1) + 1 by (first | lia | omega), List.range_succ]
  simp

theorem keys_take_drop {data : List (Int × Str)} (hnd : (data.map (·.1)).Nodup) (a b : Nat) : ((data.take a).map (·.1) ++ ((data.drop a).take b).map (·.1)).Nodup := by
  have : (data.take a).map (·.1) ++ ((data.drop a).take b).map (·.1) = (data.map (·.1)).take (a + b) := by
    rw [List.take_add, List.map_take, List.map_take, List.map_drop]
  rw [this]
  exact hnd.sublist (List.take_sublist _ _)

section
variable {prog : Program} {w : World} {A : Around} {E : Value → Shared → Prop}

theorem wp_flush {s : Shared} {h : Heap} {tk tk' tk'' m : Nat} {data ds : List (Int × Str)} {fs : List DictEntry} {run : List (Sem Value × Sem Value)} {Q : Option Addr → Shared → Prop}
    (hsub : ∀ (A : Around) (E : Value → Shared → Prop) (Q : Addr → Shared → Prop), Q (h.objs.size + (layOf tk data (m + 1)).length) (at_ s (pushes h (layOf tk data (m + 1) ++ [dictOf fs ds.length])) tk'') → wpAny (model prog w) A (subDict run) Q E (at_ s (pushes h (layOf tk data (m + 1))) tk'))
    (h2 : 2 ≤ h.objs.size) (hz : data.length ≤ 1000) (hm : 17 * (m + 1) ≤ data.length) (hf : IntEnts fs) (hl : fs.length = ds.length) (hle : 17 * (m + 1) + ds.length ≤ 1000)
    (hnd : ((data.take (17 * (m + 1))).map (·.1) ++ keysOfE fs).Nodup)
    (hQ : Q (some h.objs.size) (at_ s (pushes h (dictOf (entsL tk (data.take (17 * (m + 1))) ++ fs) (17 * (m + 1) + ds.length) :: (subsOf tk data (m + 1) ++ [dictOf fs ds.length]))) tk'')) :
    wpAny (model prog w) A (do
        let sub ← holding [Value.ref h.objs.size] (subDict run)
        (holding [Value.ref h.objs.size, Value.ref sub] (mergeMapping h.objs.size (Value.ref sub) false)).onRaise fun x => do
          let _ ← holding [Value.ref h.objs.size, x] (runValue (Code.builtin "proto.let_go" { }))
          pure ()
        pure (some h.objs.size)) Q E (at_ s (pushes h (layOf tk data (m + 1))) tk') := by
  refine wpAny_bind (wpAny_holding (hsub _ _ _ ?_))
  refine wpAny_bind (wpAny_onRaise (wpAny_holding ?_))
  have hlen : (layOf tk data (m + 1)).length = (subsOf tk data (m + 1)).length + 1 := by simp [layOf]
  refine wp_merge (h := h) (i := (layOf tk data (m + 1)).length) (es := entsL tk (data.take (17 * (m + 1)))) (fs := fs) (n := 17 * (m + 1)) (m := ds.length) h2 (by simp [layOf, mainOf]) (by simp) (by rw [hlen]; (first | lia | omega)) ?_ (intEnts_L _ _) hf
    (by rw [keysOfE_L]; exact hnd) (by rw [entsL_length, List.length_take, hl]; (first | lia | omega)) ?_
  · intro e
    have : (entsL tk (data.take (17 * (m + 1)))).length = 0 := by rw [e]; rfl
    rw [entsL_length, List.length_take] at this
    (first | lia | omega)
  · refine wpAny_pure ?_
    have e : (layOf tk data (m + 1) ++ [dictOf fs ds.length]).set 0 (dictOf (entsL tk (data.take (17 * (m + 1))) ++ fs) (17 * (m + 1) + fs.length)) =
        dictOf (entsL tk (data.take (17 * (m + 1))) ++ fs) (17 * (m + 1) + ds.length) :: (subsOf tk data (m + 1) ++ [dictOf fs ds.length]) := by
      rw [hl]; simp [layOf]
    rw [e]
    exact hQ

theorem wp_display {s : Shared} {h : Heap} {tk : Nat} {pairs : List (Sem Value × Sem Value)} {data : List (Int × Str)} {Q : Value → Shared → Prop}
    (hp : Pairs prog w pairs data) (h2 : 2 ≤ h.objs.size) (hz : data.length ≤ 1000) (hnd : (data.map (·.1)).Nodup) (h17 : 17 ≤ data.length) (hr1 : 1 ≤ data.length % 17) (hr2 : data.length % 17 ≤ 15)
    (hQ : Q (.ref h.objs.size) (at_ s (pushes h (dictOf (entsL tk (data.take (17 * (data.length / 17))) ++ entsS (tk + 51 * (data.length / 17)) (data.drop (17 * (data.length / 17)))) data.length ::
        (subsOf tk data (data.length / 17) ++ [dictOf (entsS (tk + 51 * (data.length / 17)) (data.drop (17 * (data.length / 17)))) (data.length % 17)]))) (tk + 51 * (data.length / 17) + 3 * (data.length % 17)))) :
    wpAny (model prog w) A (dictDisplay (pairs.map fun p => (some p.1, p.2))) Q E (at_ s h tk) := by
  unfold dictDisplay
  dsimp only
  refine wpAny_bind ?_
  refine wpAny_forIn_list _ (fun rest b s' => ∃ (m : Nat) (rd rn : List (Int × Str)) (pr : List (Sem Value × Sem Value)), data.drop (17 * m) = rd ++ rn ∧ 17 * m ≤ data.length ∧ rd.length < 17 ∧ Pairs prog w b.2 rd ∧ Pairs prog w pr rn ∧
    rest = pr.map (fun p => (some p.1, p.2)) ∧ b.1 = (if m = 0 then none else some h.objs.size) ∧ s' = at_ s (pushes h (layOf tk data m)) (tk + 51 * m)) _ ?_ ?_ _ _ ?_
  · rintro x rest ⟨b1, b2⟩ s' ⟨m, rd, rn, pr, hd, hm, hrd, hpr, hprn, hrest, hb, rfl⟩
    dsimp only at hpr hb
    cases hprn with
    | nil => cases hrest
    | cons hpd hprn =>
      rename_i p d pr rn
      simp only [List.map_cons, List.cons.injEq] at hrest
      obtain ⟨rfl, rfl⟩ := hrest
      dsimp only
      have hrun : Pairs prog w (b2 ++ [p]) (rd ++ [d]) := hpr.snoc hpd
      have hlen : (b2 ++ [p]).length = rd.length + 1 := by rw [hrun.length]; simp
      by_cases h17' : rd.length + 1 = 17
      · have c : ((b2 ++ [(p.1, p.2)]).length == 17) = true := by rw [show (p.1, p.2) = p from rfl, hlen, h17']; rfl
        rw [if_pos c]
        have c2 : ¬ (b2 ++ [(p.1, p.2)]).isEmpty = true := by cases b2 <;> simp
        rw [if_neg c2]
        have hds : (data.drop (17 * m)).take 17 = rd ++ [d] := by
          rw [hd, show rd ++ d :: rn = (rd ++ [d]) ++ rn by simp]
          exact List.take_left' (by simp; (first | lia | omega))
        have hlen17 : (rd ++ [d]).length = 17 := by simp; (first | lia | omega)
        have hrest' : data.drop (17 * (m + 1)) = rn := by
          rw [show 17 * (m + 1) = 17 * m + 17 by (first | lia | omega), ← List.drop_drop, hd, show rd ++ d :: rn = (rd ++ [d]) ++ rn by simp]
          exact List.drop_left' hlen17
        have hm' : 17 * (m + 1) ≤ data.length := by
          have : (data.drop (17 * m)).length = data.length - 17 * m := List.length_drop
          rw [hd] at this
          simp at this hlen17
          (first | lia | omega)
        have hndc : ((rd ++ [d]).map (·.1)).Nodup := by
          have := keys_take_drop hnd (17 * m) 17
          rw [hds] at this
          exact (List.nodup_append.mp this).2.1
        cases m with
        | zero =>
          rw [if_pos rfl] at hb
          subst hb
          dsimp only
          refine wpAny_bind (wpAny_bind ?_)
          refine wp_subDict_long (h := h) (l := []) (tk := tk) hrun (by rw [hlen17]; (first | lia | omega)) (by rw [hlen17]; (first | lia | omega)) hndc ?_
          refine wpAny_pure (wpAny_pure ⟨1, [], rn, pr, hrest', hm', by simp, .nil, hprn, rfl, rfl, ?_⟩)
          have e : layOf tk data 1 = [] ++ [dictOf (entsL tk (rd ++ [d])) (rd ++ [d]).length] := by
            rw [← hds, List.length_take, List.length_drop]
            have : min 17 (data.length - 17 * 0) = 17 := by (first | lia | omega)
            rw [this]
            simp [layOf, mainOf, subsOf]
          rw [e, hlen17]
        | succ m =>
          rw [if_neg (Nat.succ_ne_zero m)] at hb
          subst hb
          dsimp only
          refine wpAny_bind ?_
          refine wp_flush (tk := tk) (tk' := tk + 51 * (m + 1)) (tk'' := tk + 51 * (m + 1) + 51) (m := m) (data := data) (ds := rd ++ [d]) (fs := entsL (tk + 51 * (m + 1)) (rd ++ [d])) (fun A E Q hq => ?_) h2 hz hm (intEnts_L _ _) (entsL_length _ _) (by rw [hlen17]; (first | lia | omega)) ?_ ?_
          · refine wp_subDict_long hrun (by rw [hlen17]; (first | lia | omega)) (by rw [hlen17]; (first | lia | omega)) hndc ?_
            rw [hlen17] at hq ⊢
            exact hq
          · rw [keysOfE_L, ← hds]; exact keys_take_drop hnd _ _
          · refine wpAny_pure ⟨m + 2, [], rn, pr, hrest', hm', by simp, .nil, hprn, rfl, rfl, ?_⟩
            have e : layOf tk data (m + 2) = dictOf (entsL tk (data.take (17 * (m + 1))) ++ entsL (tk + 51 * (m + 1)) (rd ++ [d])) (17 * (m + 1) + (rd ++ [d]).length) :: (subsOf tk data (m + 1) ++ [dictOf (entsL (tk + 51 * (m + 1)) (rd ++ [d])) (rd ++ [d]).length]) := by
              show mainOf tk data (m + 2) :: subsOf tk data (m + 2) = _
              rw [subsOf_succ, hlen17, ← hds]
              unfold mainOf subOf
              have e3 : entsL tk (data.take (17 * (m + 2))) = entsL tk (data.take (17 * (m + 1))) ++ entsL (tk + 51 * (m + 1)) ((data.drop (17 * (m + 1))).take 17) := by
                rw [show 17 * (m + 2) = 17 * (m + 1) + 17 by (first | lia | omega), List.take_add, entsL_append, List.length_take]
                congr 2
                (first | lia | omega)
              rw [e3, show 17 * (m + 2) = 17 * (m + 1) + 17 by (first | lia | omega)]
            rw [e]
            congr 1
      · have c : ¬ ((b2 ++ [(p.1, p.2)]).length == 17) = true := by rw [show (p.1, p.2) = p from rfl, hlen]; simpa using h17'
        rw [if_neg c]
        exact wpAny_pure ⟨m, rd ++ [d], rn, pr, by rw [hd]; simp, hm, by simp; (first | lia | omega), hrun, hprn, rfl, hb, rfl⟩
  · rintro ⟨b1, b2⟩ s' ⟨m, rd, rn, pr, hd, hm, hrd, hpr, hprn, hrest, hb, rfl⟩
    dsimp only at hpr hb ⊢
    cases hprn with
    | cons => cases hrest
    | nil =>
      rw [List.append_nil] at hd
      have hld : rd.length = data.length - 17 * m := by rw [← hd, List.length_drop]
      have hmm : m = data.length / 17 := by (first | lia | omega)
      have hrr : rd.length = data.length % 17 := by (first | lia | omega)
      have c2 : ¬ b2.isEmpty = true := by
        have := hpr.length
        cases b2 with
        | nil => simp at this; (first | lia | omega)
        | cons => simp
      rw [if_neg c2]
      obtain ⟨m', rfl⟩ : ∃ m', m = m' + 1 := ⟨m - 1, by (first | lia | omega)⟩
      rw [if_neg (Nat.succ_ne_zero m')] at hb
      subst hb
      dsimp only
      have hndr : (rd.map (·.1)).Nodup := by
        rw [← hd, List.map_drop]; exact hnd.sublist (List.drop_sublist _ _)
      have hndk : ((data.take (17 * (m' + 1))).map (·.1) ++ rd.map (·.1)).Nodup := by
        rw [← hd, ← List.map_append, List.take_append_drop]; exact hnd
      rw [← hmm] at hQ
      rw [hd] at hQ
      refine wpAny_bind ?_
      refine wp_flush (tk := tk) (tk' := tk + 51 * (m' + 1)) (tk'' := tk + 51 * (m' + 1) + 3 * rd.length) (m := m') (data := data) (ds := rd) (fs := entsS (tk + 51 * (m' + 1)) rd) (fun A E Q hq => ?_) h2 hz hm (intEnts_S _ _) (entsS_length _ _) (by (first | lia | omega)) (by rw [keysOfE_S]; exact hndk) ?_
      · exact wp_subDict_short hpr (by (first | lia | omega)) hndr hq
      · dsimp only
        refine wpAny_pure ?_
        rw [show 17 * (m' + 1) + rd.length = data.length by (first | lia | omega), hrr]
        exact hQ
  · refine ⟨0, [], data, pairs, by simp, by simp, by simp, .nil, hp, rfl, rfl, ?_⟩
    simp [layOf, pushes_nil]
end
end Mine
end

section
set_option maxRecDepth 100000
set_option linter.unusedVariables false
namespace Mine
open PySem PySem.W PySem.Calls PyProof.Rows
/-! the states of the top, written by a program of our own (wip/gen_states.py) -/
noncomputable def sx (l : List Nat) : Str := ⟨⟨l⟩⟩
noncomputable abbrev p0 : Program := PySem.Challenge.pw_ti0028_01
noncomputable def nthS : List Stmt → Nat → Option Stmt
  | [], _ => none
  | s :: _, 0 => some s
  | _ :: r, n + 1 => nthS r n
@[irreducible] noncomputable def fA (i : Nat) : Arguments := match nthS p0.main.body i with | some (.FunctionDef _ a ..) => a | _ => default
@[irreducible] noncomputable def fB (i : Nat) : List Stmt := match nthS p0.main.body i with | some (.FunctionDef _ _ b ..) => b | _ => []
@[irreducible] noncomputable def fS (i : Nat) : Scope := match nthS p0.main.body i with | some (.FunctionDef _ _ _ _ _ _ s ..) => s | _ => default
/-- the display of the table: its keys and its values -/
@[irreducible] noncomputable def b3Keys : List (Option Expr) := match nthS p0.main.body 15 with | some (.Assign _ (.Dict ks _ _) _) => ks | _ => []
@[irreducible] noncomputable def b3Vals : List Expr := match nthS p0.main.body 15 with | some (.Assign _ (.Dict _ vs _) _) => vs | _ => []
noncomputable def kC : Option Expr → Int
  | some (.Constant (.int i) _ _) => i
  | _ => 0
noncomputable def vC : Expr → Str
  | .Constant (.str s) _ _ => s
  | _ => sx []
@[irreducible] noncomputable def b3Data : List (Int × Str) := (b3Keys.map kC).zip (b3Vals.map vC)
/-- the objects of the display: the table, then the parts that it was merged of -/
@[irreducible] noncomputable def dObjs : List Obj := dictOf (entsL 466 (b3Data.take (17 * (b3Data.length / 17))) ++ entsS (466 + 51 * (b3Data.length / 17)) (b3Data.drop (17 * (b3Data.length / 17)))) b3Data.length ::
        (subsOf 466 b3Data (b3Data.length / 17) ++ [dictOf (entsS (466 + 51 * (b3Data.length / 17)) (b3Data.drop (17 * (b3Data.length / 17)))) (b3Data.length % 17)])
@[irreducible] noncomputable def dObj (i : Nat) : Obj := dObjs.getD i default

@[irreducible] noncomputable def o1 (P : Params) : Obj := ⟨(.type "dict"), none, (.dict ⟨[⟨PyData.keyHash P (sx [98, 117, 105, 108, 116, 105, 110, 115]), (.str (sx [98, 117, 105, 108, 116, 105, 110, 115]) 162), (.ref 4)⟩, ⟨PyData.keyHash P (sx [95, 95, 109, 97, 105, 110, 95, 95]), (.str (sx [95, 95, 109, 97, 105, 110, 95, 95]) 163), (.ref 5)⟩, ⟨PyData.keyHash P (sx [95, 115, 114, 101]), (.str (sx [95, 115, 114, 101]) 244), (.ref 12)⟩]⟩ 3), ⟨[]⟩⟩
@[irreducible] noncomputable def o2 (P : Params) : Obj := ⟨.none, none, (.dict ⟨[⟨PyData.keyHash P (sx [105, 109, 112, 111, 114, 116, 46, 108, 111, 97, 100, 101, 100, 46, 95, 115, 114, 101]), (.str (sx [105, 109, 112, 111, 114, 116, 46, 108, 111, 97, 100, 101, 100, 46, 95, 115, 114, 101]) 183), (.bool true)⟩, ⟨PyData.keyHash P (sx [99, 108, 97, 115, 115, 46, 95, 102, 114, 111, 122, 101, 110, 95, 105, 109, 112, 111, 114, 116, 108, 105, 98, 46, 66, 117, 105, 108, 116, 105, 110, 73, 109, 112, 111, 114, 116, 101, 114]), (.str (sx [99, 108, 97, 115, 115, 46, 95, 102, 114, 111, 122, 101, 110, 95, 105, 109, 112, 111, 114, 116, 108, 105, 98, 46, 66, 117, 105, 108, 116, 105, 110, 73, 109, 112, 111, 114, 116, 101, 114]) 185), (.ref 14)⟩, ⟨PyData.keyHash P (sx [119, 97, 116, 99, 104, 101, 100, 46, 105, 109, 112, 111, 114, 116]), (.str (sx [119, 97, 116, 99, 104, 101, 100, 46, 105, 109, 112, 111, 114, 116]) 206), (.ref 18)⟩, ⟨PyData.keyHash P (sx [99, 108, 97, 115, 115, 46, 95, 102, 114, 111, 122, 101, 110, 95, 105, 109, 112, 111, 114, 116, 108, 105, 98, 46, 77, 111, 100, 117, 108, 101, 83, 112, 101, 99]), (.str (sx [99, 108, 97, 115, 115, 46, 95, 102, 114, 111, 122, 101, 110, 95, 105, 109, 112, 111, 114, 116, 108, 105, 98, 46, 77, 111, 100, 117, 108, 101, 83, 112, 101, 99]) 216), (.ref 22)⟩, ⟨PyData.keyHash P (sx [115, 121, 115, 46, 109, 111, 100, 117, 108, 101, 115, 46, 98, 111, 111, 107, 101, 100, 45, 101, 112, 111, 99, 104]), (.str (sx [115, 121, 115, 46, 109, 111, 100, 117, 108, 101, 115, 46, 98, 111, 111, 107, 101, 100, 45, 101, 112, 111, 99, 104]) 245), (.int 3 0)⟩, ⟨PyData.keyHash P (sx [105, 109, 112, 111, 114, 116, 46, 108, 97, 116, 101, 114, 45, 108, 97, 105, 100, 46, 95, 115, 114, 101]), (.str (sx [105, 109, 112, 111, 114, 116, 46, 108, 97, 116, 101, 114, 45, 108, 97, 105, 100, 46, 95, 115, 114, 101]) 270), (.bool true)⟩, ⟨PyData.keyHash P (sx [119, 97, 116, 99, 104, 101, 100, 46, 108, 105, 98, 114, 97, 114, 121]), (.str (sx [119, 97, 116, 99, 104, 101, 100, 46, 108, 105, 98, 114, 97, 114, 121]) 272), (.ref 27)⟩, ⟨PyData.keyHash P (sx [119, 97, 116, 99, 104, 101, 100, 46, 108, 105, 98, 114, 97, 114, 121, 45, 111, 98, 106, 101, 99, 116, 115]), (.str (sx [119, 97, 116, 99, 104, 101, 100, 46, 108, 105, 98, 114, 97, 114, 121, 45, 111, 98, 106, 101, 99, 116, 115]) 0), (.str (sx [12]) 0)⟩, ⟨PyData.keyHash P (sx [119, 97, 116, 99, 104, 101, 100, 46, 108, 105, 98, 114, 97, 114, 121, 45, 100, 101, 101, 112, 46, 95, 115, 114, 101]), (.str (sx [119, 97, 116, 99, 104, 101, 100, 46, 108, 105, 98, 114, 97, 114, 121, 45, 100, 101, 101, 112, 46, 95, 115, 114, 101]) 273), (.str (sx [4, 0, 0, 11, 4, 0, 0, 11, 4, 0, 0, 3, 4, 0, 0, 11, 8, 4, 100, 105, 99, 116, 2]) 0)⟩]⟩ 9), ⟨[]⟩⟩
@[irreducible] noncomputable def o3 (P : Params) : Obj := ⟨(.type "dict"), none, (.dict ⟨[⟨PyData.keyHash P (sx [95, 95, 110, 97, 109, 101, 95, 95]), (.str (sx [95, 95, 110, 97, 109, 101, 95, 95]) 165), (.str (sx [95, 95, 109, 97, 105, 110, 95, 95]) 164)⟩, ⟨PyData.keyHash P (sx [95, 95, 100, 111, 99, 95, 95]), (.str (sx [95, 95, 100, 111, 99, 95, 95]) 166), .none⟩, ⟨PyData.keyHash P (sx [95, 95, 112, 97, 99, 107, 97, 103, 101, 95, 95]), (.str (sx [95, 95, 112, 97, 99, 107, 97, 103, 101, 95, 95]) 167), .none⟩, ⟨PyData.keyHash P (sx [95, 95, 108, 111, 97, 100, 101, 114, 95, 95]), (.str (sx [95, 95, 108, 111, 97, 100, 101, 114, 95, 95]) 168), (.builtin "__main__.__loader__#opaque")⟩, ⟨PyData.keyHash P (sx [95, 95, 115, 112, 101, 99, 95, 95]), (.str (sx [95, 95, 115, 112, 101, 99, 95, 95]) 169), .none⟩, ⟨PyData.keyHash P (sx [95, 95, 97, 110, 110, 111, 116, 97, 116, 105, 111, 110, 115, 95, 95]), (.str (sx [95, 95, 97, 110, 110, 111, 116, 97, 116, 105, 111, 110, 115, 95, 95]) 170), (.ref 6)⟩, ⟨PyData.keyHash P (sx [95, 95, 98, 117, 105, 108, 116, 105, 110, 115, 95, 95]), (.str (sx [95, 95, 98, 117, 105, 108, 116, 105, 110, 115, 95, 95]) 171), (.ref 4)⟩, ⟨PyData.keyHash P (sx [95, 95, 102, 105, 108, 101, 95, 95]), (.str (sx [95, 95, 102, 105, 108, 101, 95, 95]) 173), (.str (sx [47, 99, 108, 97, 105, 109, 47, 99, 117, 116, 46, 112, 121]) 172)⟩, ⟨PyData.keyHash P (sx [95, 95, 99, 97, 99, 104, 101, 100, 95, 95]), (.str (sx [95, 95, 99, 97, 99, 104, 101, 100, 95, 95]) 174), .none⟩, ⟨PyData.keyHash P (sx [95, 115, 114, 101]), (.str (sx [95, 115, 114, 101]) 275), (.ref 12)⟩]⟩ 10), ⟨[]⟩⟩
@[irreducible] noncomputable def o11 (P : Params) : Obj := ⟨(.type "dict"), none, (.dict ⟨[⟨PyData.keyHash P (sx [95, 95, 110, 97, 109, 101, 95, 95]), (.str (sx [95, 95, 110, 97, 109, 101, 95, 95]) 247), (.str (sx [95, 115, 114, 101]) 246)⟩, ⟨PyData.keyHash P (sx [95, 95, 100, 111, 99, 95, 95]), (.str (sx [95, 95, 100, 111, 99, 95, 95]) 248), .none⟩, ⟨PyData.keyHash P (sx [95, 95, 112, 97, 99, 107, 97, 103, 101, 95, 95]), (.str (sx [95, 95, 112, 97, 99, 107, 97, 103, 101, 95, 95]) 250), (.str (sx []) 249)⟩, ⟨PyData.keyHash P (sx [95, 95, 108, 111, 97, 100, 101, 114, 95, 95]), (.str (sx [95, 95, 108, 111, 97, 100, 101, 114, 95, 95]) 251), (.builtin "off-the-table:_sre.__loader__:shared#opaque")⟩, ⟨PyData.keyHash P (sx [95, 95, 115, 112, 101, 99, 95, 95]), (.str (sx [95, 95, 115, 112, 101, 99, 95, 95]) 252), (.builtin "off-the-table:_sre.__spec__:shared#opaque")⟩, ⟨PyData.keyHash P (sx [99, 111, 109, 112, 105, 108, 101]), (.str (sx [99, 111, 109, 112, 105, 108, 101]) 253), (.builtin "_sre.compile")⟩, ⟨PyData.keyHash P (sx [116, 101, 109, 112, 108, 97, 116, 101]), (.str (sx [116, 101, 109, 112, 108, 97, 116, 101]) 254), (.builtin "off-the-table:_sre.template:shared#opaque")⟩, ⟨PyData.keyHash P (sx [103, 101, 116, 99, 111, 100, 101, 115, 105, 122, 101]), (.str (sx [103, 101, 116, 99, 111, 100, 101, 115, 105, 122, 101]) 255), (.builtin "off-the-table:_sre.getcodesize:shared#opaque")⟩, ⟨PyData.keyHash P (sx [97, 115, 99, 105, 105, 95, 105, 115, 99, 97, 115, 101, 100]), (.str (sx [97, 115, 99, 105, 105, 95, 105, 115, 99, 97, 115, 101, 100]) 256), (.builtin "off-the-table:_sre.ascii_iscased:shared#opaque")⟩, ⟨PyData.keyHash P (sx [117, 110, 105, 99, 111, 100, 101, 95, 105, 115, 99, 97, 115, 101, 100]), (.str (sx [117, 110, 105, 99, 111, 100, 101, 95, 105, 115, 99, 97, 115, 101, 100]) 257), (.builtin "off-the-table:_sre.unicode_iscased:shared#opaque")⟩, ⟨PyData.keyHash P (sx [97, 115, 99, 105, 105, 95, 116, 111, 108, 111, 119, 101, 114]), (.str (sx [97, 115, 99, 105, 105, 95, 116, 111, 108, 111, 119, 101, 114]) 258), (.builtin "off-the-table:_sre.ascii_tolower:shared#opaque")⟩, ⟨PyData.keyHash P (sx [117, 110, 105, 99, 111, 100, 101, 95, 116, 111, 108, 111, 119, 101, 114]), (.str (sx [117, 110, 105, 99, 111, 100, 101, 95, 116, 111, 108, 111, 119, 101, 114]) 259), (.builtin "off-the-table:_sre.unicode_tolower:shared#opaque")⟩, ⟨PyData.keyHash P (sx [77, 65, 71, 73, 67]), (.str (sx [77, 65, 71, 73, 67]) 261), (.int 20230612 260)⟩, ⟨PyData.keyHash P (sx [67, 79, 68, 69, 83, 73, 90, 69]), (.str (sx [67, 79, 68, 69, 83, 73, 90, 69]) 263), (.int 4 262)⟩, ⟨PyData.keyHash P (sx [77, 65, 88, 82, 69, 80, 69, 65, 84]), (.str (sx [77, 65, 88, 82, 69, 80, 69, 65, 84]) 265), (.int 4294967295 264)⟩, ⟨PyData.keyHash P (sx [77, 65, 88, 71, 82, 79, 85, 80, 83]), (.str (sx [77, 65, 88, 71, 82, 79, 85, 80, 83]) 267), (.int 1073741823 266)⟩, ⟨PyData.keyHash P (sx [99, 111, 112, 121, 114, 105, 103, 104, 116]), (.str (sx [99, 111, 112, 121, 114, 105, 103, 104, 116]) 269), (.str (sx [32, 83, 82, 69, 32, 50, 46, 50, 46, 50, 32, 67, 111, 112, 121, 114, 105, 103, 104, 116, 32, 40, 99, 41, 32, 49, 57, 57, 55, 45, 50, 48, 48, 50, 32, 98, 121, 32, 83, 101, 99, 114, 101, 116, 32, 76, 97, 98, 115, 32, 65, 66, 32]) 268)⟩]⟩ 17), ⟨[]⟩⟩
@[irreducible] noncomputable def o12 (P : Params) : Obj := ⟨(.type "module"), (some 11), .plain, ⟨[]⟩⟩
@[irreducible] noncomputable def o13 (P : Params) : Obj := ⟨(.type "dict"), none, (.dict ⟨[⟨PyData.keyHash P (sx [95, 95, 109, 111, 100, 117, 108, 101, 95, 95]), (.str (sx [95, 95, 109, 111, 100, 117, 108, 101, 95, 95]) 189), (.str (sx [95, 102, 114, 111, 122, 101, 110, 95, 105, 109, 112, 111, 114, 116, 108, 105, 98]) 186)⟩, ⟨PyData.keyHash P (sx [95, 95, 102, 105, 114, 115, 116, 108, 105, 110, 101, 110, 111, 95, 95]), (.str (sx [95, 95, 102, 105, 114, 115, 116, 108, 105, 110, 101, 110, 111, 95, 95]) 190), (.int 971 187)⟩, ⟨PyData.keyHash P (sx [95, 95, 100, 111, 99, 95, 95]), (.str (sx [95, 95, 100, 111, 99, 95, 95]) 191), (.builtin "_frozen_importlib.BuiltinImporter.__doc__:str#opaque")⟩, ⟨PyData.keyHash P (sx [95, 79, 82, 73, 71, 73, 78]), (.str (sx [95, 79, 82, 73, 71, 73, 78]) 192), (.str (sx [98, 117, 105, 108, 116, 45, 105, 110]) 188)⟩, ⟨PyData.keyHash P (sx [102, 105, 110, 100, 95, 115, 112, 101, 99]), (.str (sx [102, 105, 110, 100, 95, 115, 112, 101, 99]) 193), (.builtin "_frozen_importlib.BuiltinImporter.find_spec#opaque")⟩, ⟨PyData.keyHash P (sx [99, 114, 101, 97, 116, 101, 95, 109, 111, 100, 117, 108, 101]), (.str (sx [99, 114, 101, 97, 116, 101, 95, 109, 111, 100, 117, 108, 101]) 194), (.builtin "_frozen_importlib.BuiltinImporter.create_module#opaque")⟩, ⟨PyData.keyHash P (sx [101, 120, 101, 99, 95, 109, 111, 100, 117, 108, 101]), (.str (sx [101, 120, 101, 99, 95, 109, 111, 100, 117, 108, 101]) 195), (.builtin "_frozen_importlib.BuiltinImporter.exec_module#opaque")⟩, ⟨PyData.keyHash P (sx [103, 101, 116, 95, 99, 111, 100, 101]), (.str (sx [103, 101, 116, 95, 99, 111, 100, 101]) 196), (.builtin "_frozen_importlib.BuiltinImporter.get_code#opaque")⟩, ⟨PyData.keyHash P (sx [103, 101, 116, 95, 115, 111, 117, 114, 99, 101]), (.str (sx [103, 101, 116, 95, 115, 111, 117, 114, 99, 101]) 197), (.builtin "_frozen_importlib.BuiltinImporter.get_source#opaque")⟩, ⟨PyData.keyHash P (sx [105, 115, 95, 112, 97, 99, 107, 97, 103, 101]), (.str (sx [105, 115, 95, 112, 97, 99, 107, 97, 103, 101]) 198), (.builtin "_frozen_importlib.BuiltinImporter.is_package#opaque")⟩, ⟨PyData.keyHash P (sx [108, 111, 97, 100, 95, 109, 111, 100, 117, 108, 101]), (.str (sx [108, 111, 97, 100, 95, 109, 111, 100, 117, 108, 101]) 199), (.builtin "_frozen_importlib.BuiltinImporter.load_module#opaque")⟩, ⟨PyData.keyHash P (sx [95, 95, 115, 116, 97, 116, 105, 99, 95, 97, 116, 116, 114, 105, 98, 117, 116, 101, 115, 95, 95]), (.str (sx [95, 95, 115, 116, 97, 116, 105, 99, 95, 97, 116, 116, 114, 105, 98, 117, 116, 101, 115, 95, 95]) 200), (.ref 15)⟩, ⟨PyData.keyHash P (sx [95, 95, 100, 105, 99, 116, 95, 95]), (.str (sx [95, 95, 100, 105, 99, 116, 95, 95]) 202), (.ref 16)⟩, ⟨PyData.keyHash P (sx [95, 95, 119, 101, 97, 107, 114, 101, 102, 95, 95]), (.str (sx [95, 95, 119, 101, 97, 107, 114, 101, 102, 95, 95]) 204), (.ref 17)⟩]⟩ 14), ⟨[]⟩⟩
@[irreducible] noncomputable def o14 (P : Params) : Obj := ⟨(.type "type"), none, (.cls { name := (sx [66, 117, 105, 108, 116, 105, 110, 73, 109, 112, 111, 114, 116, 101, 114]), bases := [(.type "object")], mro := [(.ref 14), (.type "object")], ns := 13, qualname := (sx [66, 117, 105, 108, 116, 105, 110, 73, 109, 112, 111, 114, 116, 101, 114]), hasDict := true, slotNames := [], subclasses := [], abstract := false, collection := none, hasDel := false }), ⟨[]⟩⟩
@[irreducible] noncomputable def o15 (P : Params) : Obj := ⟨(.type "tuple"), none, (.seq ⟨[]⟩ 0), ⟨[]⟩⟩
@[irreducible] noncomputable def o16 (P : Params) : Obj := ⟨(.type "getset_descriptor"), none, (.fields ⟨[(.str (sx [95, 95, 100, 105, 99, 116, 95, 95]) 201), (.ref 14), (.builtin "function.__dict__"), (.builtin "function.__dict__#set")]⟩), ⟨[]⟩⟩
@[irreducible] noncomputable def o17 (P : Params) : Obj := ⟨(.type "getset_descriptor"), none, (.fields ⟨[(.str (sx [95, 95, 119, 101, 97, 107, 114, 101, 102, 95, 95]) 203), (.ref 14), (.builtin "ExceptionGroup.__weakref__"), .none]⟩), ⟨[]⟩⟩
@[irreducible] noncomputable def o18 (P : Params) : Obj := ⟨.none, none, (.seq ⟨[(.int 13 0), (.str (sx [6, 189, 10, 95, 95, 109, 111, 100, 117, 108, 101, 95, 95, 6, 186, 17, 95, 102, 114, 111, 122, 101, 110, 95, 105, 109, 112, 111, 114, 116, 108, 105, 98, 6, 190, 15, 95, 95, 102, 105, 114, 115, 116, 108, 105, 110, 101, 110, 111, 95, 95, 4, 187, 0, 971, 6, 191, 7, 95, 95, 100, 111, 99, 95, 95, 9, 52, 95, 102, 114, 111, 122, 101, 110, 95, 105, 109, 112, 111, 114, 116, 108, 105, 98, 46, 66, 117, 105, 108, 116, 105, 110, 73, 109, 112, 111, 114, 116, 101, 114, 46, 95, 95, 100, 111, 99, 95, 95, 58, 115, 116, 114, 35, 111, 112, 97, 113, 117, 101, 6, 192, 7, 95, 79, 82, 73, 71, 73, 78, 6, 188, 8, 98, 117, 105, 108, 116, 45, 105, 110, 6, 193, 9, 102, 105, 110, 100, 95, 115, 112, 101, 99, 9, 50, 95, 102, 114, 111, 122, 101, 110, 95, 105, 109, 112, 111, 114, 116, 108, 105, 98, 46, 66, 117, 105, 108, 116, 105, 110, 73, 109, 112, 111, 114, 116, 101, 114, 46, 102, 105, 110, 100, 95, 115, 112, 101, 99, 35, 111, 112, 97, 113, 117, 101, 6, 194, 13, 99, 114, 101, 97, 116, 101, 95, 109, 111, 100, 117, 108, 101, 9, 54, 95, 102, 114, 111, 122, 101, 110, 95, 105, 109, 112, 111, 114, 116, 108, 105, 98, 46, 66, 117, 105, 108, 116, 105, 110, 73, 109, 112, 111, 114, 116, 101, 114, 46, 99, 114, 101, 97, 116, 101, 95, 109, 111, 100, 117, 108, 101, 35, 111, 112, 97, 113, 117, 101, 6, 195, 11, 101, 120, 101, 99, 95, 109, 111, 100, 117, 108, 101, 9, 52, 95, 102, 114, 111, 122, 101, 110, 95, 105, 109, 112, 111, 114, 116, 108, 105, 98, 46, 66, 117, 105, 108, 116, 105, 110, 73, 109, 112, 111, 114, 116, 101, 114, 46, 101, 120, 101, 99, 95, 109, 111, 100, 117, 108, 101, 35, 111, 112, 97, 113, 117, 101, 6, 196, 8, 103, 101, 116, 95, 99, 111, 100, 101, 9, 49, 95, 102, 114, 111, 122, 101, 110, 95, 105, 109, 112, 111, 114, 116, 108, 105, 98, 46, 66, 117, 105, 108, 116, 105, 110, 73, 109, 112, 111, 114, 116, 101, 114, 46, 103, 101, 116, 95, 99, 111, 100, 101, 35, 111, 112, 97, 113, 117, 101, 6, 197, 10, 103, 101, 116, 95, 115, 111, 117, 114, 99, 101, 9, 51, 95, 102, 114, 111, 122, 101, 110, 95, 105, 109, 112, 111, 114, 116, 108, 105, 98, 46, 66, 117, 105, 108, 116, 105, 110, 73, 109, 112, 111, 114, 116, 101, 114, 46, 103, 101, 116, 95, 115, 111, 117, 114, 99, 101, 35, 111, 112, 97, 113, 117, 101, 6, 198, 10, 105, 115, 95, 112, 97, 99, 107, 97, 103, 101, 9, 51, 95, 102, 114, 111, 122, 101, 110, 95, 105, 109, 112, 111, 114, 116, 108, 105, 98, 46, 66, 117, 105, 108, 116, 105, 110, 73, 109, 112, 111, 114, 116, 101, 114, 46, 105, 115, 95, 112, 97, 99, 107, 97, 103, 101, 35, 111, 112, 97, 113, 117, 101, 6, 199, 11, 108, 111, 97, 100, 95, 109, 111, 100, 117, 108, 101, 9, 52, 95, 102, 114, 111, 122, 101, 110, 95, 105, 109, 112, 111, 114, 116, 108, 105, 98, 46, 66, 117, 105, 108, 116, 105, 110, 73, 109, 112, 111, 114, 116, 101, 114, 46, 108, 111, 97, 100, 95, 109, 111, 100, 117, 108, 101, 35, 111, 112, 97, 113, 117, 101, 6, 200, 21, 95, 95, 115, 116, 97, 116, 105, 99, 95, 97, 116, 116, 114, 105, 98, 117, 116, 101, 115, 95, 95, 4, 0, 0, 15, 6, 202, 8, 95, 95, 100, 105, 99, 116, 95, 95, 4, 0, 0, 16, 6, 204, 11, 95, 95, 119, 101, 97, 107, 114, 101, 102, 95, 95, 4, 0, 0, 17]) 0), (.bool true), (.bool true), (.str (sx []) 205), (.int 21 0), (.str (sx [6, 227, 10, 95, 95, 109, 111, 100, 117, 108, 101, 95, 95, 6, 217, 17, 95, 102, 114, 111, 122, 101, 110, 95, 105, 109, 112, 111, 114, 116, 108, 105, 98, 6, 228, 15, 95, 95, 102, 105, 114, 115, 116, 108, 105, 110, 101, 110, 111, 95, 95, 4, 218, 0, 562, 6, 229, 7, 95, 95, 100, 111, 99, 95, 95, 9, 47, 95, 102, 114, 111, 122, 101, 110, 95, 105, 109, 112, 111, 114, 116, 108, 105, 98, 46, 77, 111, 100, 117, 108, 101, 83, 112, 101, 99, 46, 95, 95, 100, 111, 99, 95, 95, 58, 115, 116, 114, 35, 111, 112, 97, 113, 117, 101, 6, 230, 8, 95, 95, 105, 110, 105, 116, 95, 95, 9, 44, 95, 102, 114, 111, 122, 101, 110, 95, 105, 109, 112, 111, 114, 116, 108, 105, 98, 46, 77, 111, 100, 117, 108, 101, 83, 112, 101, 99, 46, 95, 95, 105, 110, 105, 116, 95, 95, 35, 111, 112, 97, 113, 117, 101, 6, 231, 8, 95, 95, 114, 101, 112, 114, 95, 95, 9, 44, 95, 102, 114, 111, 122, 101, 110, 95, 105, 109, 112, 111, 114, 116, 108, 105, 98, 46, 77, 111, 100, 117, 108, 101, 83, 112, 101, 99, 46, 95, 95, 114, 101, 112, 114, 95, 95, 35, 111, 112, 97, 113, 117, 101, 6, 232, 6, 95, 95, 101, 113, 95, 95, 9, 42, 95, 102, 114, 111, 122, 101, 110, 95, 105, 109, 112, 111, 114, 116, 108, 105, 98, 46, 77, 111, 100, 117, 108, 101, 83, 112, 101, 99, 46, 95, 95, 101, 113, 95, 95, 35, 111, 112, 97, 113, 117, 101, 6, 233, 6, 99, 97, 99, 104, 101, 100, 9, 42, 95, 102, 114, 111, 122, 101, 110, 95, 105, 109, 112, 111, 114, 116, 108, 105, 98, 46, 77, 111, 100, 117, 108, 101, 83, 112, 101, 99, 46, 99, 97, 99, 104, 101, 100, 35, 111, 112, 97, 113, 117, 101, 6, 234, 6, 112, 97, 114, 101, 110, 116, 9, 42, 95, 102, 114, 111, 122, 101, 110, 95, 105, 109, 112, 111, 114, 116, 108, 105, 98, 46, 77, 111, 100, 117, 108, 101, 83, 112, 101, 99, 46, 112, 97, 114, 101, 110, 116, 35, 111, 112, 97, 113, 117, 101, 6, 235, 12, 104, 97, 115, 95, 108, 111, 99, 97, 116, 105, 111, 110, 9, 48, 95, 102, 114, 111, 122, 101, 110, 95, 105, 109, 112, 111, 114, 116, 108, 105, 98, 46, 77, 111, 100, 117, 108, 101, 83, 112, 101, 99, 46, 104, 97, 115, 95, 108, 111, 99, 97, 116, 105, 111, 110, 35, 111, 112, 97, 113, 117, 101, 6, 236, 21, 95, 95, 115, 116, 97, 116, 105, 99, 95, 97, 116, 116, 114, 105, 98, 117, 116, 101, 115, 95, 95, 4, 0, 0, 23, 6, 238, 8, 95, 95, 100, 105, 99, 116, 95, 95, 4, 0, 0, 24, 6, 240, 11, 95, 95, 119, 101, 97, 107, 114, 101, 102, 95, 95, 4, 0, 0, 25, 6, 241, 8, 95, 95, 104, 97, 115, 104, 95, 95, 0]) 0), (.bool true), (.bool true), (.str (sx []) 242)]⟩ 1), ⟨[]⟩⟩
@[irreducible] noncomputable def o19 (P : Params) : Obj := ⟨(.type "list"), none, (.seq ⟨[]⟩ 0), ⟨[]⟩⟩
@[irreducible] noncomputable def o20 (P : Params) : Obj := ⟨(.type "dict"), none, (.dict ⟨[⟨PyData.keyHash P (sx [110, 97, 109, 101]), (.str (sx [110, 97, 109, 101]) 208), (.str (sx [95, 115, 114, 101]) 207)⟩, ⟨PyData.keyHash P (sx [108, 111, 97, 100, 101, 114]), (.str (sx [108, 111, 97, 100, 101, 114]) 209), (.ref 14)⟩, ⟨PyData.keyHash P (sx [111, 114, 105, 103, 105, 110]), (.str (sx [111, 114, 105, 103, 105, 110]) 210), (.str (sx [98, 117, 105, 108, 116, 45, 105, 110]) 184)⟩, ⟨PyData.keyHash P (sx [108, 111, 97, 100, 101, 114, 95, 115, 116, 97, 116, 101]), (.str (sx [108, 111, 97, 100, 101, 114, 95, 115, 116, 97, 116, 101]) 211), .none⟩, ⟨PyData.keyHash P (sx [115, 117, 98, 109, 111, 100, 117, 108, 101, 95, 115, 101, 97, 114, 99, 104, 95, 108, 111, 99, 97, 116, 105, 111, 110, 115]), (.str (sx [115, 117, 98, 109, 111, 100, 117, 108, 101, 95, 115, 101, 97, 114, 99, 104, 95, 108, 111, 99, 97, 116, 105, 111, 110, 115]) 212), .none⟩, ⟨PyData.keyHash P (sx [95, 117, 110, 105, 110, 105, 116, 105, 97, 108, 105, 122, 101, 100, 95, 115, 117, 98, 109, 111, 100, 117, 108, 101, 115]), (.str (sx [95, 117, 110, 105, 110, 105, 116, 105, 97, 108, 105, 122, 101, 100, 95, 115, 117, 98, 109, 111, 100, 117, 108, 101, 115]) 213), (.ref 19)⟩, ⟨PyData.keyHash P (sx [95, 115, 101, 116, 95, 102, 105, 108, 101, 97, 116, 116, 114]), (.str (sx [95, 115, 101, 116, 95, 102, 105, 108, 101, 97, 116, 116, 114]) 214), (.bool false)⟩, ⟨PyData.keyHash P (sx [95, 99, 97, 99, 104, 101, 100]), (.str (sx [95, 99, 97, 99, 104, 101, 100]) 215), .none⟩, ⟨PyData.keyHash P (sx [95, 105, 110, 105, 116, 105, 97, 108, 105, 122, 105, 110, 103]), (.str (sx [95, 105, 110, 105, 116, 105, 97, 108, 105, 122, 105, 110, 103]) 243), (.bool false)⟩]⟩ 9), ⟨[]⟩⟩
@[irreducible] noncomputable def o21 (P : Params) : Obj := ⟨(.type "dict"), none, (.dict ⟨[⟨PyData.keyHash P (sx [95, 95, 109, 111, 100, 117, 108, 101, 95, 95]), (.str (sx [95, 95, 109, 111, 100, 117, 108, 101, 95, 95]) 227), (.str (sx [95, 102, 114, 111, 122, 101, 110, 95, 105, 109, 112, 111, 114, 116, 108, 105, 98]) 217)⟩, ⟨PyData.keyHash P (sx [95, 95, 102, 105, 114, 115, 116, 108, 105, 110, 101, 110, 111, 95, 95]), (.str (sx [95, 95, 102, 105, 114, 115, 116, 108, 105, 110, 101, 110, 111, 95, 95]) 228), (.int 562 218)⟩, ⟨PyData.keyHash P (sx [95, 95, 100, 111, 99, 95, 95]), (.str (sx [95, 95, 100, 111, 99, 95, 95]) 229), (.builtin "_frozen_importlib.ModuleSpec.__doc__:str#opaque")⟩, ⟨PyData.keyHash P (sx [95, 95, 105, 110, 105, 116, 95, 95]), (.str (sx [95, 95, 105, 110, 105, 116, 95, 95]) 230), (.builtin "_frozen_importlib.ModuleSpec.__init__#opaque")⟩, ⟨PyData.keyHash P (sx [95, 95, 114, 101, 112, 114, 95, 95]), (.str (sx [95, 95, 114, 101, 112, 114, 95, 95]) 231), (.builtin "_frozen_importlib.ModuleSpec.__repr__#opaque")⟩, ⟨PyData.keyHash P (sx [95, 95, 101, 113, 95, 95]), (.str (sx [95, 95, 101, 113, 95, 95]) 232), (.builtin "_frozen_importlib.ModuleSpec.__eq__#opaque")⟩, ⟨PyData.keyHash P (sx [99, 97, 99, 104, 101, 100]), (.str (sx [99, 97, 99, 104, 101, 100]) 233), (.builtin "_frozen_importlib.ModuleSpec.cached#opaque")⟩, ⟨PyData.keyHash P (sx [112, 97, 114, 101, 110, 116]), (.str (sx [112, 97, 114, 101, 110, 116]) 234), (.builtin "_frozen_importlib.ModuleSpec.parent#opaque")⟩, ⟨PyData.keyHash P (sx [104, 97, 115, 95, 108, 111, 99, 97, 116, 105, 111, 110]), (.str (sx [104, 97, 115, 95, 108, 111, 99, 97, 116, 105, 111, 110]) 235), (.builtin "_frozen_importlib.ModuleSpec.has_location#opaque")⟩, ⟨PyData.keyHash P (sx [95, 95, 115, 116, 97, 116, 105, 99, 95, 97, 116, 116, 114, 105, 98, 117, 116, 101, 115, 95, 95]), (.str (sx [95, 95, 115, 116, 97, 116, 105, 99, 95, 97, 116, 116, 114, 105, 98, 117, 116, 101, 115, 95, 95]) 236), (.ref 23)⟩, ⟨PyData.keyHash P (sx [95, 95, 100, 105, 99, 116, 95, 95]), (.str (sx [95, 95, 100, 105, 99, 116, 95, 95]) 238), (.ref 24)⟩, ⟨PyData.keyHash P (sx [95, 95, 119, 101, 97, 107, 114, 101, 102, 95, 95]), (.str (sx [95, 95, 119, 101, 97, 107, 114, 101, 102, 95, 95]) 240), (.ref 25)⟩, ⟨PyData.keyHash P (sx [95, 95, 104, 97, 115, 104, 95, 95]), (.str (sx [95, 95, 104, 97, 115, 104, 95, 95]) 241), .none⟩]⟩ 13), ⟨[]⟩⟩
@[irreducible] noncomputable def o22 (P : Params) : Obj := ⟨(.type "type"), none, (.cls { name := (sx [77, 111, 100, 117, 108, 101, 83, 112, 101, 99]), bases := [(.type "object")], mro := [(.ref 22), (.type "object")], ns := 21, qualname := (sx [77, 111, 100, 117, 108, 101, 83, 112, 101, 99]), hasDict := true, slotNames := [], subclasses := [], abstract := false, collection := none, hasDel := false }), ⟨[]⟩⟩
@[irreducible] noncomputable def o23 (P : Params) : Obj := ⟨(.type "tuple"), none, (.seq ⟨[(.str (sx [95, 99, 97, 99, 104, 101, 100]) 219), (.str (sx [95, 115, 101, 116, 95, 102, 105, 108, 101, 97, 116, 116, 114]) 220), (.str (sx [95, 117, 110, 105, 110, 105, 116, 105, 97, 108, 105, 122, 101, 100, 95, 115, 117, 98, 109, 111, 100, 117, 108, 101, 115]) 221), (.str (sx [108, 111, 97, 100, 101, 114]) 222), (.str (sx [108, 111, 97, 100, 101, 114, 95, 115, 116, 97, 116, 101]) 223), (.str (sx [110, 97, 109, 101]) 224), (.str (sx [111, 114, 105, 103, 105, 110]) 225), (.str (sx [115, 117, 98, 109, 111, 100, 117, 108, 101, 95, 115, 101, 97, 114, 99, 104, 95, 108, 111, 99, 97, 116, 105, 111, 110, 115]) 226)]⟩ 0), ⟨[]⟩⟩
@[irreducible] noncomputable def o24 (P : Params) : Obj := ⟨(.type "getset_descriptor"), none, (.fields ⟨[(.str (sx [95, 95, 100, 105, 99, 116, 95, 95]) 237), (.ref 22), (.builtin "function.__dict__"), (.builtin "function.__dict__#set")]⟩), ⟨[]⟩⟩
@[irreducible] noncomputable def o25 (P : Params) : Obj := ⟨(.type "getset_descriptor"), none, (.fields ⟨[(.str (sx [95, 95, 119, 101, 97, 107, 114, 101, 102, 95, 95]) 239), (.ref 22), (.builtin "ExceptionGroup.__weakref__"), .none]⟩), ⟨[]⟩⟩
@[irreducible] noncomputable def o26 (P : Params) : Obj := ⟨(.ref 22), (some 20), .plain, ⟨[]⟩⟩
@[irreducible] noncomputable def o27 (P : Params) : Obj := ⟨.none, none, (.seq ⟨[(.int 11 0), (.str (sx [6, 247, 8, 95, 95, 110, 97, 109, 101, 95, 95, 6, 246, 4, 95, 115, 114, 101, 6, 248, 7, 95, 95, 100, 111, 99, 95, 95, 0, 6, 250, 11, 95, 95, 112, 97, 99, 107, 97, 103, 101, 95, 95, 6, 249, 0, 6, 251, 10, 95, 95, 108, 111, 97, 100, 101, 114, 95, 95, 4, 0, 0, 14, 6, 252, 8, 95, 95, 115, 112, 101, 99, 95, 95, 4, 0, 0, 26, 6, 253, 7, 99, 111, 109, 112, 105, 108, 101, 9, 12, 95, 115, 114, 101, 46, 99, 111, 109, 112, 105, 108, 101, 6, 254, 8, 116, 101, 109, 112, 108, 97, 116, 101, 9, 13, 95, 115, 114, 101, 46, 116, 101, 109, 112, 108, 97, 116, 101, 6, 255, 11, 103, 101, 116, 99, 111, 100, 101, 115, 105, 122, 101, 9, 16, 95, 115, 114, 101, 46, 103, 101, 116, 99, 111, 100, 101, 115, 105, 122, 101, 6, 256, 13, 97, 115, 99, 105, 105, 95, 105, 115, 99, 97, 115, 101, 100, 9, 18, 95, 115, 114, 101, 46, 97, 115, 99, 105, 105, 95, 105, 115, 99, 97, 115, 101, 100, 6, 257, 15, 117, 110, 105, 99, 111, 100, 101, 95, 105, 115, 99, 97, 115, 101, 100, 9, 20, 95, 115, 114, 101, 46, 117, 110, 105, 99, 111, 100, 101, 95, 105, 115, 99, 97, 115, 101, 100, 6, 258, 13, 97, 115, 99, 105, 105, 95, 116, 111, 108, 111, 119, 101, 114, 9, 18, 95, 115, 114, 101, 46, 97, 115, 99, 105, 105, 95, 116, 111, 108, 111, 119, 101, 114, 6, 259, 15, 117, 110, 105, 99, 111, 100, 101, 95, 116, 111, 108, 111, 119, 101, 114, 9, 20, 95, 115, 114, 101, 46, 117, 110, 105, 99, 111, 100, 101, 95, 116, 111, 108, 111, 119, 101, 114, 6, 261, 5, 77, 65, 71, 73, 67, 4, 260, 0, 20230612, 6, 263, 8, 67, 79, 68, 69, 83, 73, 90, 69, 4, 262, 0, 4, 6, 265, 9, 77, 65, 88, 82, 69, 80, 69, 65, 84, 4, 264, 0, 4294967295, 6, 267, 9, 77, 65, 88, 71, 82, 79, 85, 80, 83, 4, 266, 0, 1073741823, 6, 269, 9, 99, 111, 112, 121, 114, 105, 103, 104, 116, 6, 268, 53, 32, 83, 82, 69, 32, 50, 46, 50, 46, 50, 32, 67, 111, 112, 121, 114, 105, 103, 104, 116, 32, 40, 99, 41, 32, 49, 57, 57, 55, 45, 50, 48, 48, 50, 32, 98, 121, 32, 83, 101, 99, 114, 101, 116, 32, 76, 97, 98, 115, 32, 65, 66, 32]) 0), (.bool true), (.bool false), (.str (sx [95, 115, 114, 101]) 271)]⟩ 0), ⟨[]⟩⟩
@[irreducible] noncomputable def o28 (P : Params) : Obj := ⟨(.type "tuple"), none, (.seq ⟨[]⟩ 0), ⟨[]⟩⟩
@[irreducible] noncomputable def o29 (P : Params) : Obj := ⟨.none, none, (.fields ⟨[]⟩), ⟨[]⟩⟩
@[irreducible] noncomputable def o30 (P : Params) : Obj := ⟨(.type "code"), none, (.fields ⟨[(.str (sx [60, 109, 111, 100, 117, 108, 101, 62]) 277), (.str (sx [60, 109, 111, 100, 117, 108, 101, 62]) 278), (.str (sx [47, 99, 108, 97, 105, 109, 47, 99, 117, 116, 46, 112, 121]) 279), (.int 1 0), (.int 0 0), (.int 0 0), (.int 0 0), (.int 0 0), (.ref 28), (.bool false), (.int 276 0), (.ref 29), .none, .none, .none, .none, (.int 280 0), (.int 1 0), (.str (sx [47, 99, 108, 97, 105, 109, 47, 99, 117, 116, 46, 112, 121]) 281)]⟩), ⟨[]⟩⟩
@[irreducible] noncomputable def o31 (P : Params) : Obj := ⟨(.type "frame"), none, .plain, ⟨[(some (.ref 30)), (some (.ref 3)), (some (.ref 3)), none, (some (.str (sx [95, 95, 109, 97, 105, 110, 95, 95]) 164)), none, (some (.ref 0))]⟩⟩
@[irreducible] noncomputable def o3v1 (P : Params) : Obj := ⟨(.type "dict"), none, (.dict ⟨[⟨PyData.keyHash P (sx [95, 95, 110, 97, 109, 101, 95, 95]), (.str (sx [95, 95, 110, 97, 109, 101, 95, 95]) 165), (.str (sx [99, 112, 121, 51, 49, 51, 46, 115, 116, 114, 105, 110, 103, 112, 114, 101, 112]) 397)⟩, ⟨PyData.keyHash P (sx [95, 95, 100, 111, 99, 95, 95]), (.str (sx [95, 95, 100, 111, 99, 95, 95]) 166), .none⟩, ⟨PyData.keyHash P (sx [95, 95, 112, 97, 99, 107, 97, 103, 101, 95, 95]), (.str (sx [95, 95, 112, 97, 99, 107, 97, 103, 101, 95, 95]) 167), .none⟩, ⟨PyData.keyHash P (sx [95, 95, 108, 111, 97, 100, 101, 114, 95, 95]), (.str (sx [95, 95, 108, 111, 97, 100, 101, 114, 95, 95]) 168), (.builtin "__main__.__loader__#opaque")⟩, ⟨PyData.keyHash P (sx [95, 95, 115, 112, 101, 99, 95, 95]), (.str (sx [95, 95, 115, 112, 101, 99, 95, 95]) 169), .none⟩, ⟨PyData.keyHash P (sx [95, 95, 97, 110, 110, 111, 116, 97, 116, 105, 111, 110, 115, 95, 95]), (.str (sx [95, 95, 97, 110, 110, 111, 116, 97, 116, 105, 111, 110, 115, 95, 95]) 170), (.ref 6)⟩, ⟨PyData.keyHash P (sx [95, 95, 98, 117, 105, 108, 116, 105, 110, 115, 95, 95]), (.str (sx [95, 95, 98, 117, 105, 108, 116, 105, 110, 115, 95, 95]) 171), (.ref 4)⟩, ⟨PyData.keyHash P (sx [95, 95, 102, 105, 108, 101, 95, 95]), (.str (sx [95, 95, 102, 105, 108, 101, 95, 95]) 173), (.str (sx [47, 99, 108, 97, 105, 109, 47, 99, 117, 116, 46, 112, 121]) 172)⟩, ⟨PyData.keyHash P (sx [95, 95, 99, 97, 99, 104, 101, 100, 95, 95]), (.str (sx [95, 95, 99, 97, 99, 104, 101, 100, 95, 95]) 174), .none⟩, ⟨PyData.keyHash P (sx [95, 115, 114, 101]), (.str (sx [95, 115, 114, 101]) 275), (.ref 12)⟩, ⟨PyData.keyHash P (sx [103, 116]), (.str (sx [103, 116]) 291), (.ref 38)⟩, ⟨PyData.keyHash P (sx [99, 111, 110, 99, 97, 116]), (.str (sx [99, 111, 110, 99, 97, 116]) 300), (.ref 45)⟩, ⟨PyData.keyHash P (sx [99, 111, 117, 110, 116, 79, 102]), (.str (sx [99, 111, 117, 110, 116, 79, 102]) 310), (.ref 52)⟩, ⟨PyData.keyHash P (sx [103, 101, 116, 105, 116, 101, 109]), (.str (sx [103, 101, 116, 105, 116, 101, 109]) 318), (.ref 59)⟩, ⟨PyData.keyHash P (sx [115, 101, 116, 105, 116, 101, 109]), (.str (sx [115, 101, 116, 105, 116, 101, 109]) 327), (.ref 66)⟩, ⟨PyData.keyHash P (sx [95, 116, 119, 105, 110, 95, 114, 101, 95, 49]), (.str (sx [95, 116, 119, 105, 110, 95, 114, 101, 95, 49]) 345), (.ref 71)⟩, ⟨PyData.keyHash P (sx [95, 116, 119, 105, 110, 95, 114, 101, 95, 50]), (.str (sx [95, 116, 119, 105, 110, 95, 114, 101, 95, 50]) 387), (.ref 76)⟩, ⟨PyData.keyHash P (sx [67, 82, 76, 70]), (.str (sx [67, 82, 76, 70]) 389), (.str (sx [13, 10]) 388)⟩, ⟨PyData.keyHash P (sx [113, 117, 111, 116, 101, 100, 97, 116, 97]), (.str (sx [113, 117, 111, 116, 101, 100, 97, 116, 97]) 396), (.ref 83)⟩]⟩ 19), ⟨[]⟩⟩
@[irreducible] noncomputable def o29v1 (P : Params) : Obj := ⟨.none, none, (.fields ⟨[(.int 3 0), (.int 0 0), (.ref 37), (.int 5 0), (.int 0 0), (.ref 44), (.int 10 0), (.int 0 0), (.ref 51), (.int 16 0), (.int 0 0), (.ref 58), (.int 18 0), (.int 0 0), (.ref 65), (.int 24 0), (.int 0 0), (.ref 82)]⟩), ⟨[]⟩⟩
@[irreducible] noncomputable def o32 (P : Params) : Obj := ⟨(.type "tuple"), none, (.seq ⟨[]⟩ 0), ⟨[]⟩⟩
@[irreducible] noncomputable def o33 (P : Params) : Obj := ⟨.none, none, (.fields ⟨[]⟩), ⟨[]⟩⟩
@[irreducible] noncomputable def o34 (P : Params) : Obj := ⟨(.type "tuple"), none, (.seq ⟨[(.str (sx [97]) 287), (.str (sx [98]) 288)]⟩ 0), ⟨[]⟩⟩
@[irreducible] noncomputable def o35 (P : Params) : Obj := ⟨(.type "tuple"), none, (.seq ⟨[]⟩ 0), ⟨[]⟩⟩
@[irreducible] noncomputable def o36 (P : Params) : Obj := ⟨.none, none, (.func { name := (sx [103, 116]), qualname := (sx [103, 116]), params := fA 2, body := .stmts (fB 2), scope := fS 2, globals := 0, closure := [], defaults := .none, kwdefaults := .none, doc := .none, pyModule := .none, annotations := none, code := .none, closureTuple := .none, builtins := 0 }), ⟨[]⟩⟩
@[irreducible] noncomputable def o37 (P : Params) : Obj := ⟨(.type "code"), none, (.fields ⟨[(.str (sx [103, 116]) 284), (.str (sx [103, 116]) 285), (.str (sx [47, 99, 108, 97, 105, 109, 47, 99, 117, 116, 46, 112, 121]) 286), (.int 3 0), (.int 2 0), (.int 0 0), (.int 0 0), (.int 3 0), (.ref 32), (.bool true), (.int 276 0), (.ref 33), .none, (.ref 34), (.ref 35), (.ref 36), (.int 289 0), (.int 3 0), (.str (sx [47, 99, 108, 97, 105, 109, 47, 99, 117, 116, 46, 112, 121]) 290)]⟩), ⟨[]⟩⟩
@[irreducible] noncomputable def o38 (P : Params) : Obj := ⟨(.type "function"), none, (.func { name := (sx [103, 116]), qualname := (sx [103, 116]), params := fA 2, body := .stmts (fB 2), scope := fS 2, globals := 3, closure := [], defaults := .none, kwdefaults := .none, doc := .none, pyModule := (.str (sx [99, 112, 121, 51, 49, 51, 46, 111, 112, 101, 114, 97, 116, 111, 114]) 282), annotations := none, code := (.ref 37), closureTuple := .none, builtins := 0 }), ⟨[]⟩⟩
@[irreducible] noncomputable def o39 (P : Params) : Obj := ⟨(.type "tuple"), none, (.seq ⟨[]⟩ 0), ⟨[]⟩⟩
@[irreducible] noncomputable def o40 (P : Params) : Obj := ⟨.none, none, (.fields ⟨[]⟩), ⟨[]⟩⟩
@[irreducible] noncomputable def o41 (P : Params) : Obj := ⟨(.type "tuple"), none, (.seq ⟨[(.str (sx [97]) 295), (.str (sx [98]) 296), (.str (sx [109, 115, 103]) 297)]⟩ 0), ⟨[]⟩⟩
@[irreducible] noncomputable def o42 (P : Params) : Obj := ⟨(.type "tuple"), none, (.seq ⟨[]⟩ 0), ⟨[]⟩⟩
@[irreducible] noncomputable def o43 (P : Params) : Obj := ⟨.none, none, (.func { name := (sx [99, 111, 110, 99, 97, 116]), qualname := (sx [99, 111, 110, 99, 97, 116]), params := fA 3, body := .stmts (fB 3), scope := fS 3, globals := 0, closure := [], defaults := .none, kwdefaults := .none, doc := .none, pyModule := .none, annotations := none, code := .none, closureTuple := .none, builtins := 0 }), ⟨[]⟩⟩
@[irreducible] noncomputable def o44 (P : Params) : Obj := ⟨(.type "code"), none, (.fields ⟨[(.str (sx [99, 111, 110, 99, 97, 116]) 292), (.str (sx [99, 111, 110, 99, 97, 116]) 293), (.str (sx [47, 99, 108, 97, 105, 109, 47, 99, 117, 116, 46, 112, 121]) 294), (.int 5 0), (.int 2 0), (.int 0 0), (.int 0 0), (.int 3 0), (.ref 39), (.bool true), (.int 276 0), (.ref 40), .none, (.ref 41), (.ref 42), (.ref 43), (.int 298 0), (.int 5 0), (.str (sx [47, 99, 108, 97, 105, 109, 47, 99, 117, 116, 46, 112, 121]) 299)]⟩), ⟨[]⟩⟩
@[irreducible] noncomputable def o45 (P : Params) : Obj := ⟨(.type "function"), none, (.func { name := (sx [99, 111, 110, 99, 97, 116]), qualname := (sx [99, 111, 110, 99, 97, 116]), params := fA 3, body := .stmts (fB 3), scope := fS 3, globals := 3, closure := [], defaults := .none, kwdefaults := .none, doc := .none, pyModule := (.str (sx [99, 112, 121, 51, 49, 51, 46, 111, 112, 101, 114, 97, 116, 111, 114]) 282), annotations := none, code := (.ref 44), closureTuple := .none, builtins := 0 }), ⟨[]⟩⟩
@[irreducible] noncomputable def o46 (P : Params) : Obj := ⟨(.type "tuple"), none, (.seq ⟨[]⟩ 0), ⟨[]⟩⟩
@[irreducible] noncomputable def o47 (P : Params) : Obj := ⟨.none, none, (.fields ⟨[]⟩), ⟨[]⟩⟩
@[irreducible] noncomputable def o48 (P : Params) : Obj := ⟨(.type "tuple"), none, (.seq ⟨[(.str (sx [97]) 304), (.str (sx [98]) 305), (.str (sx [99, 111, 117, 110, 116]) 306), (.str (sx [105]) 307)]⟩ 0), ⟨[]⟩⟩
@[irreducible] noncomputable def o49 (P : Params) : Obj := ⟨(.type "tuple"), none, (.seq ⟨[]⟩ 0), ⟨[]⟩⟩
@[irreducible] noncomputable def o50 (P : Params) : Obj := ⟨.none, none, (.func { name := (sx [99, 111, 117, 110, 116, 79, 102]), qualname := (sx [99, 111, 117, 110, 116, 79, 102]), params := fA 4, body := .stmts (fB 4), scope := fS 4, globals := 0, closure := [], defaults := .none, kwdefaults := .none, doc := .none, pyModule := .none, annotations := none, code := .none, closureTuple := .none, builtins := 0 }), ⟨[]⟩⟩
@[irreducible] noncomputable def o51 (P : Params) : Obj := ⟨(.type "code"), none, (.fields ⟨[(.str (sx [99, 111, 117, 110, 116, 79, 102]) 301), (.str (sx [99, 111, 117, 110, 116, 79, 102]) 302), (.str (sx [47, 99, 108, 97, 105, 109, 47, 99, 117, 116, 46, 112, 121]) 303), (.int 10 0), (.int 2 0), (.int 0 0), (.int 0 0), (.int 3 0), (.ref 46), (.bool true), (.int 276 0), (.ref 47), .none, (.ref 48), (.ref 49), (.ref 50), (.int 308 0), (.int 10 0), (.str (sx [47, 99, 108, 97, 105, 109, 47, 99, 117, 116, 46, 112, 121]) 309)]⟩), ⟨[]⟩⟩
@[irreducible] noncomputable def o52 (P : Params) : Obj := ⟨(.type "function"), none, (.func { name := (sx [99, 111, 117, 110, 116, 79, 102]), qualname := (sx [99, 111, 117, 110, 116, 79, 102]), params := fA 4, body := .stmts (fB 4), scope := fS 4, globals := 3, closure := [], defaults := .none, kwdefaults := .none, doc := .none, pyModule := (.str (sx [99, 112, 121, 51, 49, 51, 46, 111, 112, 101, 114, 97, 116, 111, 114]) 282), annotations := none, code := (.ref 51), closureTuple := .none, builtins := 0 }), ⟨[]⟩⟩
@[irreducible] noncomputable def o53 (P : Params) : Obj := ⟨(.type "tuple"), none, (.seq ⟨[]⟩ 0), ⟨[]⟩⟩
@[irreducible] noncomputable def o54 (P : Params) : Obj := ⟨.none, none, (.fields ⟨[]⟩), ⟨[]⟩⟩
@[irreducible] noncomputable def o55 (P : Params) : Obj := ⟨(.type "tuple"), none, (.seq ⟨[(.str (sx [97]) 314), (.str (sx [98]) 315)]⟩ 0), ⟨[]⟩⟩
@[irreducible] noncomputable def o56 (P : Params) : Obj := ⟨(.type "tuple"), none, (.seq ⟨[]⟩ 0), ⟨[]⟩⟩
@[irreducible] noncomputable def o57 (P : Params) : Obj := ⟨.none, none, (.func { name := (sx [103, 101, 116, 105, 116, 101, 109]), qualname := (sx [103, 101, 116, 105, 116, 101, 109]), params := fA 5, body := .stmts (fB 5), scope := fS 5, globals := 0, closure := [], defaults := .none, kwdefaults := .none, doc := .none, pyModule := .none, annotations := none, code := .none, closureTuple := .none, builtins := 0 }), ⟨[]⟩⟩
@[irreducible] noncomputable def o58 (P : Params) : Obj := ⟨(.type "code"), none, (.fields ⟨[(.str (sx [103, 101, 116, 105, 116, 101, 109]) 311), (.str (sx [103, 101, 116, 105, 116, 101, 109]) 312), (.str (sx [47, 99, 108, 97, 105, 109, 47, 99, 117, 116, 46, 112, 121]) 313), (.int 16 0), (.int 2 0), (.int 0 0), (.int 0 0), (.int 3 0), (.ref 53), (.bool true), (.int 276 0), (.ref 54), .none, (.ref 55), (.ref 56), (.ref 57), (.int 316 0), (.int 16 0), (.str (sx [47, 99, 108, 97, 105, 109, 47, 99, 117, 116, 46, 112, 121]) 317)]⟩), ⟨[]⟩⟩
@[irreducible] noncomputable def o59 (P : Params) : Obj := ⟨(.type "function"), none, (.func { name := (sx [103, 101, 116, 105, 116, 101, 109]), qualname := (sx [103, 101, 116, 105, 116, 101, 109]), params := fA 5, body := .stmts (fB 5), scope := fS 5, globals := 3, closure := [], defaults := .none, kwdefaults := .none, doc := .none, pyModule := (.str (sx [99, 112, 121, 51, 49, 51, 46, 111, 112, 101, 114, 97, 116, 111, 114]) 282), annotations := none, code := (.ref 58), closureTuple := .none, builtins := 0 }), ⟨[]⟩⟩
@[irreducible] noncomputable def o60 (P : Params) : Obj := ⟨(.type "tuple"), none, (.seq ⟨[]⟩ 0), ⟨[]⟩⟩
@[irreducible] noncomputable def o61 (P : Params) : Obj := ⟨.none, none, (.fields ⟨[]⟩), ⟨[]⟩⟩
@[irreducible] noncomputable def o62 (P : Params) : Obj := ⟨(.type "tuple"), none, (.seq ⟨[(.str (sx [97]) 322), (.str (sx [98]) 323), (.str (sx [99]) 324)]⟩ 0), ⟨[]⟩⟩
@[irreducible] noncomputable def o63 (P : Params) : Obj := ⟨(.type "tuple"), none, (.seq ⟨[]⟩ 0), ⟨[]⟩⟩
@[irreducible] noncomputable def o64 (P : Params) : Obj := ⟨.none, none, (.func { name := (sx [115, 101, 116, 105, 116, 101, 109]), qualname := (sx [115, 101, 116, 105, 116, 101, 109]), params := fA 6, body := .stmts (fB 6), scope := fS 6, globals := 0, closure := [], defaults := .none, kwdefaults := .none, doc := .none, pyModule := .none, annotations := none, code := .none, closureTuple := .none, builtins := 0 }), ⟨[]⟩⟩
@[irreducible] noncomputable def o65 (P : Params) : Obj := ⟨(.type "code"), none, (.fields ⟨[(.str (sx [115, 101, 116, 105, 116, 101, 109]) 319), (.str (sx [115, 101, 116, 105, 116, 101, 109]) 320), (.str (sx [47, 99, 108, 97, 105, 109, 47, 99, 117, 116, 46, 112, 121]) 321), (.int 18 0), (.int 3 0), (.int 0 0), (.int 0 0), (.int 3 0), (.ref 60), (.bool true), (.int 276 0), (.ref 61), .none, (.ref 62), (.ref 63), (.ref 64), (.int 325 0), (.int 18 0), (.str (sx [47, 99, 108, 97, 105, 109, 47, 99, 117, 116, 46, 112, 121]) 326)]⟩), ⟨[]⟩⟩
@[irreducible] noncomputable def o66 (P : Params) : Obj := ⟨(.type "function"), none, (.func { name := (sx [115, 101, 116, 105, 116, 101, 109]), qualname := (sx [115, 101, 116, 105, 116, 101, 109]), params := fA 6, body := .stmts (fB 6), scope := fS 6, globals := 3, closure := [], defaults := .none, kwdefaults := .none, doc := .none, pyModule := (.str (sx [99, 112, 121, 51, 49, 51, 46, 111, 112, 101, 114, 97, 116, 111, 114]) 282), annotations := none, code := (.ref 65), closureTuple := .none, builtins := 0 }), ⟨[]⟩⟩
@[irreducible] noncomputable def o67 (P : Params) : Obj := ⟨(.type "list"), none, (.seq ⟨[(.int 14 333), (.int 4 334), (.int 0 335), (.int 1 336), (.int 1 337), (.int 6 338), (.int 1 339), (.int 16 340), (.int 46 341), (.int 1 342)]⟩ 0), ⟨[]⟩⟩
@[irreducible] noncomputable def o68 (P : Params) : Obj := ⟨(.type "dict"), none, (.dict ⟨[]⟩ 0), ⟨[]⟩⟩
@[irreducible] noncomputable def o69 (P : Params) : Obj := ⟨(.type "tuple"), none, (.seq ⟨[.none]⟩ 0), ⟨[]⟩⟩
@[irreducible] noncomputable def o70 (P : Params) : Obj := ⟨(.type "tuple"), none, (.seq ⟨[(.int 14 0), (.int 4 0), (.int 0 0), (.int 1 0), (.int 1 0), (.int 6 0), (.int 1 0), (.int 16 0), (.int 46 0), (.int 1 0)]⟩ 0), ⟨[]⟩⟩
@[irreducible] noncomputable def o71 (P : Params) : Obj := ⟨(.type "re.Pattern"), none, (.fields ⟨[(.str (sx [40, 63, 109, 41, 94, 92, 46]) 331), (.int 40 344), (.int 0 0), .none, .none, (.ref 70), (.int 0 0)]⟩), ⟨[]⟩⟩
@[irreducible] noncomputable def o72 (P : Params) : Obj := ⟨(.type "list"), none, (.seq ⟨[(.int 14 349), (.int 9 350), (.int 4 351), (.int 1 352), (.int 2 353), (.int 16 354), (.int 10 355), (.int 16 356), (.int 13 357), (.int 0 358), (.int 7 359), (.int 7 360), (.int 16 361), (.int 13 362), (.int 16 363), (.int 10 364), (.int 15 365), (.int 18 366), (.int 5 367), (.int 16 368), (.int 10 369), (.int 15 370), (.int 13 371), (.int 11 372), (.int 16 373), (.int 13 374), (.int 5 375), (.int 5 376), (.int 0 377), (.int 16 378), (.int 10 379), (.int 1 380), (.int 15 381), (.int 2 382), (.int 0 383), (.int 1 384)]⟩ 0), ⟨[]⟩⟩
@[irreducible] noncomputable def o73 (P : Params) : Obj := ⟨(.type "dict"), none, (.dict ⟨[]⟩ 0), ⟨[]⟩⟩
@[irreducible] noncomputable def o74 (P : Params) : Obj := ⟨(.type "tuple"), none, (.seq ⟨[.none]⟩ 0), ⟨[]⟩⟩
@[irreducible] noncomputable def o75 (P : Params) : Obj := ⟨(.type "tuple"), none, (.seq ⟨[(.int 14 0), (.int 9 0), (.int 4 0), (.int 1 0), (.int 2 0), (.int 16 0), (.int 10 0), (.int 16 0), (.int 13 0), (.int 0 0), (.int 7 0), (.int 7 0), (.int 16 0), (.int 13 0), (.int 16 0), (.int 10 0), (.int 15 0), (.int 18 0), (.int 5 0), (.int 16 0), (.int 10 0), (.int 15 0), (.int 13 0), (.int 11 0), (.int 16 0), (.int 13 0), (.int 5 0), (.int 5 0), (.int 0 0), (.int 16 0), (.int 10 0), (.int 1 0), (.int 15 0), (.int 2 0), (.int 0 0), (.int 1 0)]⟩ 0), ⟨[]⟩⟩
@[irreducible] noncomputable def o76 (P : Params) : Obj := ⟨(.type "re.Pattern"), none, (.fields ⟨[(.str (sx [40, 63, 58, 92, 114, 92, 110, 124, 92, 110, 124, 92, 114, 40, 63, 33, 92, 110, 41, 41]) 347), (.int 32 386), (.int 0 0), .none, .none, (.ref 75), (.int 0 0)]⟩), ⟨[]⟩⟩
@[irreducible] noncomputable def o77 (P : Params) : Obj := ⟨(.type "tuple"), none, (.seq ⟨[]⟩ 0), ⟨[]⟩⟩
@[irreducible] noncomputable def o78 (P : Params) : Obj := ⟨.none, none, (.fields ⟨[]⟩), ⟨[]⟩⟩
@[irreducible] noncomputable def o79 (P : Params) : Obj := ⟨(.type "tuple"), none, (.seq ⟨[(.str (sx [100, 97, 116, 97]) 393)]⟩ 0), ⟨[]⟩⟩
@[irreducible] noncomputable def o80 (P : Params) : Obj := ⟨(.type "tuple"), none, (.seq ⟨[]⟩ 0), ⟨[]⟩⟩
@[irreducible] noncomputable def o81 (P : Params) : Obj := ⟨.none, none, (.func { name := (sx [113, 117, 111, 116, 101, 100, 97, 116, 97]), qualname := (sx [113, 117, 111, 116, 101, 100, 97, 116, 97]), params := fA 11, body := .stmts (fB 11), scope := fS 11, globals := 0, closure := [], defaults := .none, kwdefaults := .none, doc := .none, pyModule := .none, annotations := none, code := .none, closureTuple := .none, builtins := 0 }), ⟨[]⟩⟩
@[irreducible] noncomputable def o82 (P : Params) : Obj := ⟨(.type "code"), none, (.fields ⟨[(.str (sx [113, 117, 111, 116, 101, 100, 97, 116, 97]) 390), (.str (sx [113, 117, 111, 116, 101, 100, 97, 116, 97]) 391), (.str (sx [47, 99, 108, 97, 105, 109, 47, 99, 117, 116, 46, 112, 121]) 392), (.int 24 0), (.int 1 0), (.int 0 0), (.int 0 0), (.int 3 0), (.ref 77), (.bool true), (.int 276 0), (.ref 78), .none, (.ref 79), (.ref 80), (.ref 81), (.int 394 0), (.int 24 0), (.str (sx [47, 99, 108, 97, 105, 109, 47, 99, 117, 116, 46, 112, 121]) 395)]⟩), ⟨[]⟩⟩
@[irreducible] noncomputable def o83 (P : Params) : Obj := ⟨(.type "function"), none, (.func { name := (sx [113, 117, 111, 116, 101, 100, 97, 116, 97]), qualname := (sx [113, 117, 111, 116, 101, 100, 97, 116, 97]), params := fA 11, body := .stmts (fB 11), scope := fS 11, globals := 3, closure := [], defaults := .none, kwdefaults := .none, doc := .none, pyModule := (.str (sx [99, 112, 121, 51, 49, 51, 46, 115, 109, 116, 112, 108, 105, 98]) 328), annotations := none, code := (.ref 82), closureTuple := .none, builtins := 0 }), ⟨[]⟩⟩
@[irreducible] noncomputable def o3v2 (P : Params) : Obj := ⟨(.type "dict"), none, (.dict ⟨[⟨PyData.keyHash P (sx [95, 95, 110, 97, 109, 101, 95, 95]), (.str (sx [95, 95, 110, 97, 109, 101, 95, 95]) 165), (.str (sx [99, 112, 121, 51, 49, 51, 46, 115, 116, 114, 105, 110, 103, 112, 114, 101, 112]) 397)⟩, ⟨PyData.keyHash P (sx [95, 95, 100, 111, 99, 95, 95]), (.str (sx [95, 95, 100, 111, 99, 95, 95]) 166), .none⟩, ⟨PyData.keyHash P (sx [95, 95, 112, 97, 99, 107, 97, 103, 101, 95, 95]), (.str (sx [95, 95, 112, 97, 99, 107, 97, 103, 101, 95, 95]) 167), .none⟩, ⟨PyData.keyHash P (sx [95, 95, 108, 111, 97, 100, 101, 114, 95, 95]), (.str (sx [95, 95, 108, 111, 97, 100, 101, 114, 95, 95]) 168), (.builtin "__main__.__loader__#opaque")⟩, ⟨PyData.keyHash P (sx [95, 95, 115, 112, 101, 99, 95, 95]), (.str (sx [95, 95, 115, 112, 101, 99, 95, 95]) 169), .none⟩, ⟨PyData.keyHash P (sx [95, 95, 97, 110, 110, 111, 116, 97, 116, 105, 111, 110, 115, 95, 95]), (.str (sx [95, 95, 97, 110, 110, 111, 116, 97, 116, 105, 111, 110, 115, 95, 95]) 170), (.ref 6)⟩, ⟨PyData.keyHash P (sx [95, 95, 98, 117, 105, 108, 116, 105, 110, 115, 95, 95]), (.str (sx [95, 95, 98, 117, 105, 108, 116, 105, 110, 115, 95, 95]) 171), (.ref 4)⟩, ⟨PyData.keyHash P (sx [95, 95, 102, 105, 108, 101, 95, 95]), (.str (sx [95, 95, 102, 105, 108, 101, 95, 95]) 173), (.str (sx [47, 99, 108, 97, 105, 109, 47, 99, 117, 116, 46, 112, 121]) 172)⟩, ⟨PyData.keyHash P (sx [95, 95, 99, 97, 99, 104, 101, 100, 95, 95]), (.str (sx [95, 95, 99, 97, 99, 104, 101, 100, 95, 95]) 174), .none⟩, ⟨PyData.keyHash P (sx [95, 115, 114, 101]), (.str (sx [95, 115, 114, 101]) 275), (.ref 12)⟩, ⟨PyData.keyHash P (sx [103, 116]), (.str (sx [103, 116]) 291), (.ref 38)⟩, ⟨PyData.keyHash P (sx [99, 111, 110, 99, 97, 116]), (.str (sx [99, 111, 110, 99, 97, 116]) 300), (.ref 45)⟩, ⟨PyData.keyHash P (sx [99, 111, 117, 110, 116, 79, 102]), (.str (sx [99, 111, 117, 110, 116, 79, 102]) 310), (.ref 52)⟩, ⟨PyData.keyHash P (sx [103, 101, 116, 105, 116, 101, 109]), (.str (sx [103, 101, 116, 105, 116, 101, 109]) 318), (.ref 59)⟩, ⟨PyData.keyHash P (sx [115, 101, 116, 105, 116, 101, 109]), (.str (sx [115, 101, 116, 105, 116, 101, 109]) 327), (.ref 66)⟩, ⟨PyData.keyHash P (sx [95, 116, 119, 105, 110, 95, 114, 101, 95, 49]), (.str (sx [95, 116, 119, 105, 110, 95, 114, 101, 95, 49]) 345), (.ref 71)⟩, ⟨PyData.keyHash P (sx [95, 116, 119, 105, 110, 95, 114, 101, 95, 50]), (.str (sx [95, 116, 119, 105, 110, 95, 114, 101, 95, 50]) 387), (.ref 76)⟩, ⟨PyData.keyHash P (sx [67, 82, 76, 70]), (.str (sx [67, 82, 76, 70]) 389), (.str (sx [13, 10]) 388)⟩, ⟨PyData.keyHash P (sx [113, 117, 111, 116, 101, 100, 97, 116, 97]), (.str (sx [113, 117, 111, 116, 101, 100, 97, 116, 97]) 396), (.ref 83)⟩, ⟨PyData.keyHash P (sx [98, 49, 95, 115, 101, 116]), (.str (sx [98, 49, 95, 115, 101, 116]) 458), (.ref 91)⟩]⟩ 20), ⟨[]⟩⟩
@[irreducible] noncomputable def o84 (P : Params) : Obj := ⟨(.type "list"), none, (.seq ⟨[(.int 173 399), (.int 847 400), (.int 6150 401), (.int 6155 402), (.int 6156 403), (.int 6157 404), (.int 8203 405), (.int 8204 406), (.int 8205 407), (.int 8288 408), (.int 65279 409)]⟩ 0), ⟨[]⟩⟩
@[irreducible] noncomputable def o85 (P : Params) : Obj := ⟨(.type "range"), none, (.fields ⟨[(.int 65024 410), (.int 65040 411), (.int 1 412)]⟩), ⟨[]⟩⟩
@[irreducible] noncomputable def o86 (P : Params) : Obj := ⟨(.type "list"), none, (.seq ⟨[(.int 65024 415), (.int 65025 416), (.int 65026 417), (.int 65027 418), (.int 65028 419), (.int 65029 420), (.int 65030 421), (.int 65031 422), (.int 65032 423), (.int 65033 424), (.int 65034 425), (.int 65035 426), (.int 65036 427), (.int 65037 428), (.int 65038 429), (.int 65039 430)]⟩ 18), ⟨[]⟩⟩
@[irreducible] noncomputable def o87 (P : Params) : Obj := ⟨(.type "range_iterator"), none, (.fields ⟨[(.int 65040 0), (.int 0 0), (.int 1 0)]⟩), ⟨[]⟩⟩
@[irreducible] noncomputable def o88 (P : Params) : Obj := ⟨(.type "tuple"), none, (.seq ⟨[]⟩ 0), ⟨[]⟩⟩
@[irreducible] noncomputable def o89 (P : Params) : Obj := ⟨(.type "StopIteration"), none, (.fields ⟨[(.ref 88), .none, .none, .none, (.bool false), .none]⟩), ⟨[]⟩⟩
@[irreducible] noncomputable def o90 (P : Params) : Obj := ⟨(.type "list"), none, (.seq ⟨[(.int 173 399), (.int 847 400), (.int 6150 401), (.int 6155 402), (.int 6156 403), (.int 6157 404), (.int 8203 405), (.int 8204 406), (.int 8205 407), (.int 8288 408), (.int 65279 409), (.int 65024 415), (.int 65025 416), (.int 65026 417), (.int 65027 418), (.int 65028 419), (.int 65029 420), (.int 65030 421), (.int 65031 422), (.int 65032 423), (.int 65033 424), (.int 65034 425), (.int 65035 426), (.int 65036 427), (.int 65037 428), (.int 65038 429), (.int 65039 430)]⟩ 0), ⟨[]⟩⟩
@[irreducible] noncomputable def o91 (P : Params) : Obj := ⟨(.type "set"), none, (.set ⟨[(65024, (.int 65024 415)), (65025, (.int 65025 416)), (65026, (.int 65026 417)), (65027, (.int 65027 418)), (65028, (.int 65028 419)), (65029, (.int 65029 420)), (6150, (.int 6150 401)), (65030, (.int 65030 421)), (65031, (.int 65031 422)), (65032, (.int 65032 423)), (65033, (.int 65033 424)), (6155, (.int 6155 402)), (6156, (.int 6156 403)), (6157, (.int 6157 404)), (8203, (.int 8203 405)), (8204, (.int 8204 406)), (8205, (.int 8205 407)), (65034, (.int 65034 425)), (65035, (.int 65035 426)), (65036, (.int 65036 427)), (65037, (.int 65037 428)), (65038, (.int 65038 429)), (65039, (.int 65039 430)), (173, (.int 173 399)), (847, (.int 847 400)), (8288, (.int 8288 408)), (65279, (.int 65279 409))]⟩ 29 { mask := 127, place := ⟨[0, 1, 2, 3, 4, 5, 6, 7, 8, 9, 10, 11, 12, 13, 14, 15, 16, 17, 18, 19, 20, 21, 22, 45, 79, 96, 127]⟩, dummies := ⟨[]⟩, finger := 0, led := (!P.followText "set-order"), moves := 2, plain := true }), ⟨[]⟩⟩
@[irreducible] noncomputable def o92 (P : Params) : Obj := ⟨(.type "list_iterator"), none, (.fields ⟨[.none, (.int 27 0)]⟩), ⟨[]⟩⟩
@[irreducible] noncomputable def o93 (P : Params) : Obj := ⟨(.type "tuple"), none, (.seq ⟨[]⟩ 0), ⟨[]⟩⟩
@[irreducible] noncomputable def o94 (P : Params) : Obj := ⟨(.type "StopIteration"), none, (.fields ⟨[(.ref 93), .none, .none, .none, (.bool false), .none]⟩), ⟨[]⟩⟩
@[irreducible] noncomputable def o3v3 (P : Params) : Obj := ⟨(.type "dict"), none, (.dict ⟨[⟨PyData.keyHash P (sx [95, 95, 110, 97, 109, 101, 95, 95]), (.str (sx [95, 95, 110, 97, 109, 101, 95, 95]) 165), (.str (sx [99, 112, 121, 51, 49, 51, 46, 115, 116, 114, 105, 110, 103, 112, 114, 101, 112]) 397)⟩, ⟨PyData.keyHash P (sx [95, 95, 100, 111, 99, 95, 95]), (.str (sx [95, 95, 100, 111, 99, 95, 95]) 166), .none⟩, ⟨PyData.keyHash P (sx [95, 95, 112, 97, 99, 107, 97, 103, 101, 95, 95]), (.str (sx [95, 95, 112, 97, 99, 107, 97, 103, 101, 95, 95]) 167), .none⟩, ⟨PyData.keyHash P (sx [95, 95, 108, 111, 97, 100, 101, 114, 95, 95]), (.str (sx [95, 95, 108, 111, 97, 100, 101, 114, 95, 95]) 168), (.builtin "__main__.__loader__#opaque")⟩, ⟨PyData.keyHash P (sx [95, 95, 115, 112, 101, 99, 95, 95]), (.str (sx [95, 95, 115, 112, 101, 99, 95, 95]) 169), .none⟩, ⟨PyData.keyHash P (sx [95, 95, 97, 110, 110, 111, 116, 97, 116, 105, 111, 110, 115, 95, 95]), (.str (sx [95, 95, 97, 110, 110, 111, 116, 97, 116, 105, 111, 110, 115, 95, 95]) 170), (.ref 6)⟩, ⟨PyData.keyHash P (sx [95, 95, 98, 117, 105, 108, 116, 105, 110, 115, 95, 95]), (.str (sx [95, 95, 98, 117, 105, 108, 116, 105, 110, 115, 95, 95]) 171), (.ref 4)⟩, ⟨PyData.keyHash P (sx [95, 95, 102, 105, 108, 101, 95, 95]), (.str (sx [95, 95, 102, 105, 108, 101, 95, 95]) 173), (.str (sx [47, 99, 108, 97, 105, 109, 47, 99, 117, 116, 46, 112, 121]) 172)⟩, ⟨PyData.keyHash P (sx [95, 95, 99, 97, 99, 104, 101, 100, 95, 95]), (.str (sx [95, 95, 99, 97, 99, 104, 101, 100, 95, 95]) 174), .none⟩, ⟨PyData.keyHash P (sx [95, 115, 114, 101]), (.str (sx [95, 115, 114, 101]) 275), (.ref 12)⟩, ⟨PyData.keyHash P (sx [103, 116]), (.str (sx [103, 116]) 291), (.ref 38)⟩, ⟨PyData.keyHash P (sx [99, 111, 110, 99, 97, 116]), (.str (sx [99, 111, 110, 99, 97, 116]) 300), (.ref 45)⟩, ⟨PyData.keyHash P (sx [99, 111, 117, 110, 116, 79, 102]), (.str (sx [99, 111, 117, 110, 116, 79, 102]) 310), (.ref 52)⟩, ⟨PyData.keyHash P (sx [103, 101, 116, 105, 116, 101, 109]), (.str (sx [103, 101, 116, 105, 116, 101, 109]) 318), (.ref 59)⟩, ⟨PyData.keyHash P (sx [115, 101, 116, 105, 116, 101, 109]), (.str (sx [115, 101, 116, 105, 116, 101, 109]) 327), (.ref 66)⟩, ⟨PyData.keyHash P (sx [95, 116, 119, 105, 110, 95, 114, 101, 95, 49]), (.str (sx [95, 116, 119, 105, 110, 95, 114, 101, 95, 49]) 345), (.ref 71)⟩, ⟨PyData.keyHash P (sx [95, 116, 119, 105, 110, 95, 114, 101, 95, 50]), (.str (sx [95, 116, 119, 105, 110, 95, 114, 101, 95, 50]) 387), (.ref 76)⟩, ⟨PyData.keyHash P (sx [67, 82, 76, 70]), (.str (sx [67, 82, 76, 70]) 389), (.str (sx [13, 10]) 388)⟩, ⟨PyData.keyHash P (sx [113, 117, 111, 116, 101, 100, 97, 116, 97]), (.str (sx [113, 117, 111, 116, 101, 100, 97, 116, 97]) 396), (.ref 83)⟩, ⟨PyData.keyHash P (sx [98, 49, 95, 115, 101, 116]), (.str (sx [98, 49, 95, 115, 101, 116]) 458), (.ref 91)⟩, ⟨PyData.keyHash P (sx [105, 110, 95, 116, 97, 98, 108, 101, 95, 98, 49]), (.str (sx [105, 110, 95, 116, 97, 98, 108, 101, 95, 98, 49]) 465), (.ref 101)⟩]⟩ 21), ⟨[]⟩⟩
@[irreducible] noncomputable def o29v2 (P : Params) : Obj := ⟨.none, none, (.fields ⟨[(.int 3 0), (.int 0 0), (.ref 37), (.int 5 0), (.int 0 0), (.ref 44), (.int 10 0), (.int 0 0), (.ref 51), (.int 16 0), (.int 0 0), (.ref 58), (.int 18 0), (.int 0 0), (.ref 65), (.int 24 0), (.int 0 0), (.ref 82), (.int 28 0), (.int 0 0), (.ref 100)]⟩), ⟨[]⟩⟩
@[irreducible] noncomputable def o95 (P : Params) : Obj := ⟨(.type "tuple"), none, (.seq ⟨[]⟩ 0), ⟨[]⟩⟩
@[irreducible] noncomputable def o96 (P : Params) : Obj := ⟨.none, none, (.fields ⟨[]⟩), ⟨[]⟩⟩
@[irreducible] noncomputable def o97 (P : Params) : Obj := ⟨(.type "tuple"), none, (.seq ⟨[(.str (sx [99, 111, 100, 101]) 462)]⟩ 0), ⟨[]⟩⟩
@[irreducible] noncomputable def o98 (P : Params) : Obj := ⟨(.type "tuple"), none, (.seq ⟨[]⟩ 0), ⟨[]⟩⟩
@[irreducible] noncomputable def o99 (P : Params) : Obj := ⟨.none, none, (.func { name := (sx [105, 110, 95, 116, 97, 98, 108, 101, 95, 98, 49]), qualname := (sx [105, 110, 95, 116, 97, 98, 108, 101, 95, 98, 49]), params := fA 14, body := .stmts (fB 14), scope := fS 14, globals := 0, closure := [], defaults := .none, kwdefaults := .none, doc := .none, pyModule := .none, annotations := none, code := .none, closureTuple := .none, builtins := 0 }), ⟨[]⟩⟩
@[irreducible] noncomputable def o100 (P : Params) : Obj := ⟨(.type "code"), none, (.fields ⟨[(.str (sx [105, 110, 95, 116, 97, 98, 108, 101, 95, 98, 49]) 459), (.str (sx [105, 110, 95, 116, 97, 98, 108, 101, 95, 98, 49]) 460), (.str (sx [47, 99, 108, 97, 105, 109, 47, 99, 117, 116, 46, 112, 121]) 461), (.int 28 0), (.int 1 0), (.int 0 0), (.int 0 0), (.int 3 0), (.ref 95), (.bool true), (.int 276 0), (.ref 96), .none, (.ref 97), (.ref 98), (.ref 99), (.int 463 0), (.int 28 0), (.str (sx [47, 99, 108, 97, 105, 109, 47, 99, 117, 116, 46, 112, 121]) 464)]⟩), ⟨[]⟩⟩
@[irreducible] noncomputable def o101 (P : Params) : Obj := ⟨(.type "function"), none, (.func { name := (sx [105, 110, 95, 116, 97, 98, 108, 101, 95, 98, 49]), qualname := (sx [105, 110, 95, 116, 97, 98, 108, 101, 95, 98, 49]), params := fA 14, body := .stmts (fB 14), scope := fS 14, globals := 3, closure := [], defaults := .none, kwdefaults := .none, doc := .none, pyModule := (.str (sx [99, 112, 121, 51, 49, 51, 46, 115, 116, 114, 105, 110, 103, 112, 114, 101, 112]) 397), annotations := none, code := (.ref 100), closureTuple := .none, builtins := 0 }), ⟨[]⟩⟩
@[irreducible] noncomputable def o3v4 (P : Params) : Obj := ⟨(.type "dict"), none, (.dict ⟨[⟨PyData.keyHash P (sx [95, 95, 110, 97, 109, 101, 95, 95]), (.str (sx [95, 95, 110, 97, 109, 101, 95, 95]) 165), (.str (sx [108, 97, 119, 95, 116, 105, 48, 48, 50, 56, 95, 48, 49]) 2425)⟩, ⟨PyData.keyHash P (sx [95, 95, 100, 111, 99, 95, 95]), (.str (sx [95, 95, 100, 111, 99, 95, 95]) 166), .none⟩, ⟨PyData.keyHash P (sx [95, 95, 112, 97, 99, 107, 97, 103, 101, 95, 95]), (.str (sx [95, 95, 112, 97, 99, 107, 97, 103, 101, 95, 95]) 167), .none⟩, ⟨PyData.keyHash P (sx [95, 95, 108, 111, 97, 100, 101, 114, 95, 95]), (.str (sx [95, 95, 108, 111, 97, 100, 101, 114, 95, 95]) 168), (.builtin "__main__.__loader__#opaque")⟩, ⟨PyData.keyHash P (sx [95, 95, 115, 112, 101, 99, 95, 95]), (.str (sx [95, 95, 115, 112, 101, 99, 95, 95]) 169), .none⟩, ⟨PyData.keyHash P (sx [95, 95, 97, 110, 110, 111, 116, 97, 116, 105, 111, 110, 115, 95, 95]), (.str (sx [95, 95, 97, 110, 110, 111, 116, 97, 116, 105, 111, 110, 115, 95, 95]) 170), (.ref 6)⟩, ⟨PyData.keyHash P (sx [95, 95, 98, 117, 105, 108, 116, 105, 110, 115, 95, 95]), (.str (sx [95, 95, 98, 117, 105, 108, 116, 105, 110, 115, 95, 95]) 171), (.ref 4)⟩, ⟨PyData.keyHash P (sx [95, 95, 102, 105, 108, 101, 95, 95]), (.str (sx [95, 95, 102, 105, 108, 101, 95, 95]) 173), (.str (sx [47, 99, 108, 97, 105, 109, 47, 99, 117, 116, 46, 112, 121]) 172)⟩, ⟨PyData.keyHash P (sx [95, 95, 99, 97, 99, 104, 101, 100, 95, 95]), (.str (sx [95, 95, 99, 97, 99, 104, 101, 100, 95, 95]) 174), .none⟩, ⟨PyData.keyHash P (sx [95, 115, 114, 101]), (.str (sx [95, 115, 114, 101]) 275), (.ref 12)⟩, ⟨PyData.keyHash P (sx [103, 116]), (.str (sx [103, 116]) 291), (.ref 38)⟩, ⟨PyData.keyHash P (sx [99, 111, 110, 99, 97, 116]), (.str (sx [99, 111, 110, 99, 97, 116]) 300), (.ref 45)⟩, ⟨PyData.keyHash P (sx [99, 111, 117, 110, 116, 79, 102]), (.str (sx [99, 111, 117, 110, 116, 79, 102]) 310), (.ref 52)⟩, ⟨PyData.keyHash P (sx [103, 101, 116, 105, 116, 101, 109]), (.str (sx [103, 101, 116, 105, 116, 101, 109]) 318), (.ref 59)⟩, ⟨PyData.keyHash P (sx [115, 101, 116, 105, 116, 101, 109]), (.str (sx [115, 101, 116, 105, 116, 101, 109]) 327), (.ref 66)⟩, ⟨PyData.keyHash P (sx [95, 116, 119, 105, 110, 95, 114, 101, 95, 49]), (.str (sx [95, 116, 119, 105, 110, 95, 114, 101, 95, 49]) 345), (.ref 71)⟩, ⟨PyData.keyHash P (sx [95, 116, 119, 105, 110, 95, 114, 101, 95, 50]), (.str (sx [95, 116, 119, 105, 110, 95, 114, 101, 95, 50]) 387), (.ref 76)⟩, ⟨PyData.keyHash P (sx [67, 82, 76, 70]), (.str (sx [67, 82, 76, 70]) 389), (.str (sx [13, 10]) 388)⟩, ⟨PyData.keyHash P (sx [113, 117, 111, 116, 101, 100, 97, 116, 97]), (.str (sx [113, 117, 111, 116, 101, 100, 97, 116, 97]) 396), (.ref 83)⟩, ⟨PyData.keyHash P (sx [98, 49, 95, 115, 101, 116]), (.str (sx [98, 49, 95, 115, 101, 116]) 458), (.ref 91)⟩, ⟨PyData.keyHash P (sx [105, 110, 95, 116, 97, 98, 108, 101, 95, 98, 49]), (.str (sx [105, 110, 95, 116, 97, 98, 108, 101, 95, 98, 49]) 465), (.ref 101)⟩, ⟨PyData.keyHash P (sx [98, 51, 95, 101, 120, 99, 101, 112, 116, 105, 111, 110, 115]), (.str (sx [98, 51, 95, 101, 120, 99, 101, 112, 116, 105, 111, 110, 115]) 2416), (.ref 102)⟩, ⟨PyData.keyHash P (sx [109, 97, 112, 95, 116, 97, 98, 108, 101, 95, 98, 51]), (.str (sx [109, 97, 112, 95, 116, 97, 98, 108, 101, 95, 98, 51]) 2424), (.ref 147)⟩, ⟨PyData.keyHash P (sx [95, 108, 97, 119, 95, 102, 111, 114, 109]), (.str (sx [95, 108, 97, 119, 95, 102, 111, 114, 109]) 2434), (.ref 154)⟩, ⟨PyData.keyHash P (sx [95, 108, 97, 119, 95, 117, 110, 115, 101, 101, 110]), (.str (sx [95, 108, 97, 119, 95, 117, 110, 115, 101, 101, 110]) 2441), (.ref 161)⟩, ⟨PyData.keyHash P (sx [95, 108, 97, 119, 95, 98, 101, 115, 105, 100, 101]), (.str (sx [95, 108, 97, 119, 95, 98, 101, 115, 105, 100, 101]) 2449), (.ref 168)⟩, ⟨PyData.keyHash P (sx [95, 108, 97, 119, 95, 116, 121, 112, 101, 100]), (.str (sx [95, 108, 97, 119, 95, 116, 121, 112, 101, 100]) 2458), (.ref 175)⟩, ⟨PyData.keyHash P (sx [95, 108, 97, 119, 95, 112, 114, 101, 112, 97, 114, 101, 100]), (.str (sx [95, 108, 97, 119, 95, 112, 114, 101, 112, 97, 114, 101, 100]) 2468), (.ref 182)⟩, ⟨PyData.keyHash P (sx [95, 108, 97, 119, 95, 112, 97, 103, 101]), (.str (sx [95, 108, 97, 119, 95, 112, 97, 103, 101]) 2474), (.ref 187)⟩, ⟨PyData.keyHash P (sx [95, 108, 97, 119, 95, 114, 101, 97, 100]), (.str (sx [95, 108, 97, 119, 95, 114, 101, 97, 100]) 2486), (.ref 194)⟩, ⟨PyData.keyHash P (sx [95, 108, 97, 119, 95, 112, 97, 115, 115]), (.str (sx [95, 108, 97, 119, 95, 112, 97, 115, 115]) 2499), (.ref 201)⟩, ⟨PyData.keyHash P (sx [108, 97, 119]), (.str (sx [108, 97, 119]) 2505), (.ref 206)⟩]⟩ 32), ⟨[]⟩⟩
@[irreducible] noncomputable def o29v3 (P : Params) : Obj := ⟨.none, none, (.fields ⟨[(.int 3 0), (.int 0 0), (.ref 37), (.int 5 0), (.int 0 0), (.ref 44), (.int 10 0), (.int 0 0), (.ref 51), (.int 16 0), (.int 0 0), (.ref 58), (.int 18 0), (.int 0 0), (.ref 65), (.int 24 0), (.int 0 0), (.ref 82), (.int 28 0), (.int 0 0), (.ref 100), (.int 31 0), (.int 0 0), (.ref 146), (.int 37 0), (.int 0 0), (.ref 153), (.int 43 0), (.int 0 0), (.ref 160), (.int 45 0), (.int 0 0), (.ref 167), (.int 48 0), (.int 0 0), (.ref 174), (.int 56 0), (.int 0 0), (.ref 181), (.int 65 0), (.int 0 0), (.ref 186), (.int 67 0), (.int 0 0), (.ref 193), (.int 77 0), (.int 0 0), (.ref 200), (.int 92 0), (.int 0 0), (.ref 205)]⟩), ⟨[]⟩⟩
@[irreducible] noncomputable def o141 (P : Params) : Obj := ⟨(.type "tuple"), none, (.seq ⟨[]⟩ 0), ⟨[]⟩⟩
@[irreducible] noncomputable def o142 (P : Params) : Obj := ⟨.none, none, (.fields ⟨[]⟩), ⟨[]⟩⟩
@[irreducible] noncomputable def o143 (P : Params) : Obj := ⟨(.type "tuple"), none, (.seq ⟨[(.str (sx [99, 111, 100, 101]) 2420), (.str (sx [114]) 2421)]⟩ 0), ⟨[]⟩⟩
@[irreducible] noncomputable def o144 (P : Params) : Obj := ⟨(.type "tuple"), none, (.seq ⟨[]⟩ 0), ⟨[]⟩⟩
@[irreducible] noncomputable def o145 (P : Params) : Obj := ⟨.none, none, (.func { name := (sx [109, 97, 112, 95, 116, 97, 98, 108, 101, 95, 98, 51]), qualname := (sx [109, 97, 112, 95, 116, 97, 98, 108, 101, 95, 98, 51]), params := fA 16, body := .stmts (fB 16), scope := fS 16, globals := 0, closure := [], defaults := .none, kwdefaults := .none, doc := .none, pyModule := .none, annotations := none, code := .none, closureTuple := .none, builtins := 0 }), ⟨[]⟩⟩
@[irreducible] noncomputable def o146 (P : Params) : Obj := ⟨(.type "code"), none, (.fields ⟨[(.str (sx [109, 97, 112, 95, 116, 97, 98, 108, 101, 95, 98, 51]) 2417), (.str (sx [109, 97, 112, 95, 116, 97, 98, 108, 101, 95, 98, 51]) 2418), (.str (sx [47, 99, 108, 97, 105, 109, 47, 99, 117, 116, 46, 112, 121]) 2419), (.int 31 0), (.int 1 0), (.int 0 0), (.int 0 0), (.int 3 0), (.ref 141), (.bool true), (.int 276 0), (.ref 142), .none, (.ref 143), (.ref 144), (.ref 145), (.int 2422 0), (.int 31 0), (.str (sx [47, 99, 108, 97, 105, 109, 47, 99, 117, 116, 46, 112, 121]) 2423)]⟩), ⟨[]⟩⟩
@[irreducible] noncomputable def o147 (P : Params) : Obj := ⟨(.type "function"), none, (.func { name := (sx [109, 97, 112, 95, 116, 97, 98, 108, 101, 95, 98, 51]), qualname := (sx [109, 97, 112, 95, 116, 97, 98, 108, 101, 95, 98, 51]), params := fA 16, body := .stmts (fB 16), scope := fS 16, globals := 3, closure := [], defaults := .none, kwdefaults := .none, doc := .none, pyModule := (.str (sx [99, 112, 121, 51, 49, 51, 46, 115, 116, 114, 105, 110, 103, 112, 114, 101, 112]) 397), annotations := none, code := (.ref 146), closureTuple := .none, builtins := 0 }), ⟨[]⟩⟩
@[irreducible] noncomputable def o148 (P : Params) : Obj := ⟨(.type "tuple"), none, (.seq ⟨[]⟩ 0), ⟨[]⟩⟩
@[irreducible] noncomputable def o149 (P : Params) : Obj := ⟨.none, none, (.fields ⟨[]⟩), ⟨[]⟩⟩
@[irreducible] noncomputable def o150 (P : Params) : Obj := ⟨(.type "tuple"), none, (.seq ⟨[(.str (sx [108, 101, 116, 116, 101, 114]) 2430), (.str (sx [102, 111, 114, 109]) 2431)]⟩ 0), ⟨[]⟩⟩
@[irreducible] noncomputable def o151 (P : Params) : Obj := ⟨(.type "tuple"), none, (.seq ⟨[]⟩ 0), ⟨[]⟩⟩
@[irreducible] noncomputable def o152 (P : Params) : Obj := ⟨.none, none, (.func { name := (sx [95, 108, 97, 119, 95, 102, 111, 114, 109]), qualname := (sx [95, 108, 97, 119, 95, 102, 111, 114, 109]), params := fA 18, body := .stmts (fB 18), scope := fS 18, globals := 0, closure := [], defaults := .none, kwdefaults := .none, doc := .none, pyModule := .none, annotations := none, code := .none, closureTuple := .none, builtins := 0 }), ⟨[]⟩⟩
@[irreducible] noncomputable def o153 (P : Params) : Obj := ⟨(.type "code"), none, (.fields ⟨[(.str (sx [95, 108, 97, 119, 95, 102, 111, 114, 109]) 2427), (.str (sx [95, 108, 97, 119, 95, 102, 111, 114, 109]) 2428), (.str (sx [47, 99, 108, 97, 105, 109, 47, 99, 117, 116, 46, 112, 121]) 2429), (.int 37 0), (.int 2 0), (.int 0 0), (.int 0 0), (.int 3 0), (.ref 148), (.bool true), (.int 276 0), (.ref 149), .none, (.ref 150), (.ref 151), (.ref 152), (.int 2432 0), (.int 37 0), (.str (sx [47, 99, 108, 97, 105, 109, 47, 99, 117, 116, 46, 112, 121]) 2433)]⟩), ⟨[]⟩⟩
@[irreducible] noncomputable def o154 (P : Params) : Obj := ⟨(.type "function"), none, (.func { name := (sx [95, 108, 97, 119, 95, 102, 111, 114, 109]), qualname := (sx [95, 108, 97, 119, 95, 102, 111, 114, 109]), params := fA 18, body := .stmts (fB 18), scope := fS 18, globals := 3, closure := [], defaults := .none, kwdefaults := .none, doc := .none, pyModule := (.str (sx [108, 97, 119, 95, 116, 105, 48, 48, 50, 56, 95, 48, 49]) 2425), annotations := none, code := (.ref 153), closureTuple := .none, builtins := 0 }), ⟨[]⟩⟩
@[irreducible] noncomputable def o155 (P : Params) : Obj := ⟨(.type "tuple"), none, (.seq ⟨[]⟩ 0), ⟨[]⟩⟩
@[irreducible] noncomputable def o156 (P : Params) : Obj := ⟨.none, none, (.fields ⟨[]⟩), ⟨[]⟩⟩
@[irreducible] noncomputable def o157 (P : Params) : Obj := ⟨(.type "tuple"), none, (.seq ⟨[(.str (sx [110, 117, 109, 98, 101, 114]) 2438)]⟩ 0), ⟨[]⟩⟩
@[irreducible] noncomputable def o158 (P : Params) : Obj := ⟨(.type "tuple"), none, (.seq ⟨[]⟩ 0), ⟨[]⟩⟩
@[irreducible] noncomputable def o159 (P : Params) : Obj := ⟨.none, none, (.func { name := (sx [95, 108, 97, 119, 95, 117, 110, 115, 101, 101, 110]), qualname := (sx [95, 108, 97, 119, 95, 117, 110, 115, 101, 101, 110]), params := fA 19, body := .stmts (fB 19), scope := fS 19, globals := 0, closure := [], defaults := .none, kwdefaults := .none, doc := .none, pyModule := .none, annotations := none, code := .none, closureTuple := .none, builtins := 0 }), ⟨[]⟩⟩
@[irreducible] noncomputable def o160 (P : Params) : Obj := ⟨(.type "code"), none, (.fields ⟨[(.str (sx [95, 108, 97, 119, 95, 117, 110, 115, 101, 101, 110]) 2435), (.str (sx [95, 108, 97, 119, 95, 117, 110, 115, 101, 101, 110]) 2436), (.str (sx [47, 99, 108, 97, 105, 109, 47, 99, 117, 116, 46, 112, 121]) 2437), (.int 43 0), (.int 1 0), (.int 0 0), (.int 0 0), (.int 3 0), (.ref 155), (.bool true), (.int 276 0), (.ref 156), .none, (.ref 157), (.ref 158), (.ref 159), (.int 2439 0), (.int 43 0), (.str (sx [47, 99, 108, 97, 105, 109, 47, 99, 117, 116, 46, 112, 121]) 2440)]⟩), ⟨[]⟩⟩
@[irreducible] noncomputable def o161 (P : Params) : Obj := ⟨(.type "function"), none, (.func { name := (sx [95, 108, 97, 119, 95, 117, 110, 115, 101, 101, 110]), qualname := (sx [95, 108, 97, 119, 95, 117, 110, 115, 101, 101, 110]), params := fA 19, body := .stmts (fB 19), scope := fS 19, globals := 3, closure := [], defaults := .none, kwdefaults := .none, doc := .none, pyModule := (.str (sx [108, 97, 119, 95, 116, 105, 48, 48, 50, 56, 95, 48, 49]) 2425), annotations := none, code := (.ref 160), closureTuple := .none, builtins := 0 }), ⟨[]⟩⟩
@[irreducible] noncomputable def o162 (P : Params) : Obj := ⟨(.type "tuple"), none, (.seq ⟨[]⟩ 0), ⟨[]⟩⟩
@[irreducible] noncomputable def o163 (P : Params) : Obj := ⟨.none, none, (.fields ⟨[]⟩), ⟨[]⟩⟩
@[irreducible] noncomputable def o164 (P : Params) : Obj := ⟨(.type "tuple"), none, (.seq ⟨[(.str (sx [110, 117, 109, 98, 101, 114]) 2445), (.str (sx [115, 105, 103, 110, 115]) 2446)]⟩ 0), ⟨[]⟩⟩
@[irreducible] noncomputable def o165 (P : Params) : Obj := ⟨(.type "tuple"), none, (.seq ⟨[]⟩ 0), ⟨[]⟩⟩
@[irreducible] noncomputable def o166 (P : Params) : Obj := ⟨.none, none, (.func { name := (sx [95, 108, 97, 119, 95, 98, 101, 115, 105, 100, 101]), qualname := (sx [95, 108, 97, 119, 95, 98, 101, 115, 105, 100, 101]), params := fA 20, body := .stmts (fB 20), scope := fS 20, globals := 0, closure := [], defaults := .none, kwdefaults := .none, doc := .none, pyModule := .none, annotations := none, code := .none, closureTuple := .none, builtins := 0 }), ⟨[]⟩⟩
@[irreducible] noncomputable def o167 (P : Params) : Obj := ⟨(.type "code"), none, (.fields ⟨[(.str (sx [95, 108, 97, 119, 95, 98, 101, 115, 105, 100, 101]) 2442), (.str (sx [95, 108, 97, 119, 95, 98, 101, 115, 105, 100, 101]) 2443), (.str (sx [47, 99, 108, 97, 105, 109, 47, 99, 117, 116, 46, 112, 121]) 2444), (.int 45 0), (.int 1 0), (.int 0 0), (.int 0 0), (.int 3 0), (.ref 162), (.bool true), (.int 276 0), (.ref 163), .none, (.ref 164), (.ref 165), (.ref 166), (.int 2447 0), (.int 45 0), (.str (sx [47, 99, 108, 97, 105, 109, 47, 99, 117, 116, 46, 112, 121]) 2448)]⟩), ⟨[]⟩⟩
@[irreducible] noncomputable def o168 (P : Params) : Obj := ⟨(.type "function"), none, (.func { name := (sx [95, 108, 97, 119, 95, 98, 101, 115, 105, 100, 101]), qualname := (sx [95, 108, 97, 119, 95, 98, 101, 115, 105, 100, 101]), params := fA 20, body := .stmts (fB 20), scope := fS 20, globals := 3, closure := [], defaults := .none, kwdefaults := .none, doc := .none, pyModule := (.str (sx [108, 97, 119, 95, 116, 105, 48, 48, 50, 56, 95, 48, 49]) 2425), annotations := none, code := (.ref 167), closureTuple := .none, builtins := 0 }), ⟨[]⟩⟩
@[irreducible] noncomputable def o169 (P : Params) : Obj := ⟨(.type "tuple"), none, (.seq ⟨[]⟩ 0), ⟨[]⟩⟩
@[irreducible] noncomputable def o170 (P : Params) : Obj := ⟨.none, none, (.fields ⟨[]⟩), ⟨[]⟩⟩
@[irreducible] noncomputable def o171 (P : Params) : Obj := ⟨(.type "tuple"), none, (.seq ⟨[(.str (sx [99, 101, 108, 108]) 2453), (.str (sx [115, 101, 118, 101, 114, 97, 108]) 2454), (.str (sx [114, 101, 115, 116]) 2455)]⟩ 0), ⟨[]⟩⟩
@[irreducible] noncomputable def o172 (P : Params) : Obj := ⟨(.type "tuple"), none, (.seq ⟨[]⟩ 0), ⟨[]⟩⟩
@[irreducible] noncomputable def o173 (P : Params) : Obj := ⟨.none, none, (.func { name := (sx [95, 108, 97, 119, 95, 116, 121, 112, 101, 100]), qualname := (sx [95, 108, 97, 119, 95, 116, 121, 112, 101, 100]), params := fA 21, body := .stmts (fB 21), scope := fS 21, globals := 0, closure := [], defaults := .none, kwdefaults := .none, doc := .none, pyModule := .none, annotations := none, code := .none, closureTuple := .none, builtins := 0 }), ⟨[]⟩⟩
@[irreducible] noncomputable def o174 (P : Params) : Obj := ⟨(.type "code"), none, (.fields ⟨[(.str (sx [95, 108, 97, 119, 95, 116, 121, 112, 101, 100]) 2450), (.str (sx [95, 108, 97, 119, 95, 116, 121, 112, 101, 100]) 2451), (.str (sx [47, 99, 108, 97, 105, 109, 47, 99, 117, 116, 46, 112, 121]) 2452), (.int 48 0), (.int 1 0), (.int 0 0), (.int 0 0), (.int 3 0), (.ref 169), (.bool true), (.int 276 0), (.ref 170), .none, (.ref 171), (.ref 172), (.ref 173), (.int 2456 0), (.int 48 0), (.str (sx [47, 99, 108, 97, 105, 109, 47, 99, 117, 116, 46, 112, 121]) 2457)]⟩), ⟨[]⟩⟩
@[irreducible] noncomputable def o175 (P : Params) : Obj := ⟨(.type "function"), none, (.func { name := (sx [95, 108, 97, 119, 95, 116, 121, 112, 101, 100]), qualname := (sx [95, 108, 97, 119, 95, 116, 121, 112, 101, 100]), params := fA 21, body := .stmts (fB 21), scope := fS 21, globals := 3, closure := [], defaults := .none, kwdefaults := .none, doc := .none, pyModule := (.str (sx [108, 97, 119, 95, 116, 105, 48, 48, 50, 56, 95, 48, 49]) 2425), annotations := none, code := (.ref 174), closureTuple := .none, builtins := 0 }), ⟨[]⟩⟩
@[irreducible] noncomputable def o176 (P : Params) : Obj := ⟨(.type "tuple"), none, (.seq ⟨[]⟩ 0), ⟨[]⟩⟩
@[irreducible] noncomputable def o177 (P : Params) : Obj := ⟨.none, none, (.fields ⟨[]⟩), ⟨[]⟩⟩
@[irreducible] noncomputable def o178 (P : Params) : Obj := ⟨(.type "tuple"), none, (.seq ⟨[(.str (sx [116, 101, 120, 116]) 2462), (.str (sx [107, 101, 112, 116]) 2463), (.str (sx [115, 105, 103, 110]) 2464), (.str (sx [104, 101, 108, 100]) 2465)]⟩ 0), ⟨[]⟩⟩
@[irreducible] noncomputable def o179 (P : Params) : Obj := ⟨(.type "tuple"), none, (.seq ⟨[]⟩ 0), ⟨[]⟩⟩
@[irreducible] noncomputable def o180 (P : Params) : Obj := ⟨.none, none, (.func { name := (sx [95, 108, 97, 119, 95, 112, 114, 101, 112, 97, 114, 101, 100]), qualname := (sx [95, 108, 97, 119, 95, 112, 114, 101, 112, 97, 114, 101, 100]), params := fA 22, body := .stmts (fB 22), scope := fS 22, globals := 0, closure := [], defaults := .none, kwdefaults := .none, doc := .none, pyModule := .none, annotations := none, code := .none, closureTuple := .none, builtins := 0 }), ⟨[]⟩⟩
@[irreducible] noncomputable def o181 (P : Params) : Obj := ⟨(.type "code"), none, (.fields ⟨[(.str (sx [95, 108, 97, 119, 95, 112, 114, 101, 112, 97, 114, 101, 100]) 2459), (.str (sx [95, 108, 97, 119, 95, 112, 114, 101, 112, 97, 114, 101, 100]) 2460), (.str (sx [47, 99, 108, 97, 105, 109, 47, 99, 117, 116, 46, 112, 121]) 2461), (.int 56 0), (.int 1 0), (.int 0 0), (.int 0 0), (.int 3 0), (.ref 176), (.bool true), (.int 276 0), (.ref 177), .none, (.ref 178), (.ref 179), (.ref 180), (.int 2466 0), (.int 56 0), (.str (sx [47, 99, 108, 97, 105, 109, 47, 99, 117, 116, 46, 112, 121]) 2467)]⟩), ⟨[]⟩⟩
@[irreducible] noncomputable def o182 (P : Params) : Obj := ⟨(.type "function"), none, (.func { name := (sx [95, 108, 97, 119, 95, 112, 114, 101, 112, 97, 114, 101, 100]), qualname := (sx [95, 108, 97, 119, 95, 112, 114, 101, 112, 97, 114, 101, 100]), params := fA 22, body := .stmts (fB 22), scope := fS 22, globals := 3, closure := [], defaults := .none, kwdefaults := .none, doc := .none, pyModule := (.str (sx [108, 97, 119, 95, 116, 105, 48, 48, 50, 56, 95, 48, 49]) 2425), annotations := none, code := (.ref 181), closureTuple := .none, builtins := 0 }), ⟨[]⟩⟩
@[irreducible] noncomputable def o183 (P : Params) : Obj := ⟨(.type "tuple"), none, (.seq ⟨[]⟩ 0), ⟨[]⟩⟩
@[irreducible] noncomputable def o184 (P : Params) : Obj := ⟨.none, none, (.fields ⟨[]⟩), ⟨[]⟩⟩
@[irreducible] noncomputable def o185 (P : Params) : Obj := ⟨.none, none, (.func { name := (sx [95, 108, 97, 119, 95, 112, 97, 103, 101]), qualname := (sx [95, 108, 97, 119, 95, 112, 97, 103, 101]), params := fA 23, body := .stmts (fB 23), scope := fS 23, globals := 0, closure := [], defaults := .none, kwdefaults := .none, doc := .none, pyModule := .none, annotations := none, code := .none, closureTuple := .none, builtins := 0 }), ⟨[]⟩⟩
@[irreducible] noncomputable def o186 (P : Params) : Obj := ⟨(.type "code"), none, (.fields ⟨[(.str (sx [95, 108, 97, 119, 95, 112, 97, 103, 101]) 2469), (.str (sx [95, 108, 97, 119, 95, 112, 97, 103, 101]) 2470), (.str (sx [47, 99, 108, 97, 105, 109, 47, 99, 117, 116, 46, 112, 121]) 2471), (.int 65 0), (.int 3 0), (.int 0 0), (.int 0 0), (.int 3 0), (.ref 183), (.bool true), (.int 276 0), (.ref 184), .none, .none, .none, (.ref 185), (.int 2472 0), (.int 65 0), (.str (sx [47, 99, 108, 97, 105, 109, 47, 99, 117, 116, 46, 112, 121]) 2473)]⟩), ⟨[]⟩⟩
@[irreducible] noncomputable def o187 (P : Params) : Obj := ⟨(.type "function"), none, (.func { name := (sx [95, 108, 97, 119, 95, 112, 97, 103, 101]), qualname := (sx [95, 108, 97, 119, 95, 112, 97, 103, 101]), params := fA 23, body := .stmts (fB 23), scope := fS 23, globals := 3, closure := [], defaults := .none, kwdefaults := .none, doc := .none, pyModule := (.str (sx [108, 97, 119, 95, 116, 105, 48, 48, 50, 56, 95, 48, 49]) 2425), annotations := none, code := (.ref 186), closureTuple := .none, builtins := 0 }), ⟨[]⟩⟩
@[irreducible] noncomputable def o188 (P : Params) : Obj := ⟨(.type "tuple"), none, (.seq ⟨[]⟩ 0), ⟨[]⟩⟩
@[irreducible] noncomputable def o189 (P : Params) : Obj := ⟨.none, none, (.fields ⟨[]⟩), ⟨[]⟩⟩
@[irreducible] noncomputable def o190 (P : Params) : Obj := ⟨(.type "tuple"), none, (.seq ⟨[(.str (sx [100, 111, 116, 115]) 2478), (.str (sx [119, 111, 114, 100]) 2479), (.str (sx [114, 111, 119]) 2480), (.str (sx [102, 114, 111, 110, 116]) 2481), (.str (sx [115, 105, 122, 101]) 2482), (.str (sx [103, 114, 111, 119, 110]) 2483)]⟩ 0), ⟨[]⟩⟩
@[irreducible] noncomputable def o191 (P : Params) : Obj := ⟨(.type "tuple"), none, (.seq ⟨[]⟩ 0), ⟨[]⟩⟩
@[irreducible] noncomputable def o192 (P : Params) : Obj := ⟨.none, none, (.func { name := (sx [95, 108, 97, 119, 95, 114, 101, 97, 100]), qualname := (sx [95, 108, 97, 119, 95, 114, 101, 97, 100]), params := fA 24, body := .stmts (fB 24), scope := fS 24, globals := 0, closure := [], defaults := .none, kwdefaults := .none, doc := .none, pyModule := .none, annotations := none, code := .none, closureTuple := .none, builtins := 0 }), ⟨[]⟩⟩
@[irreducible] noncomputable def o193 (P : Params) : Obj := ⟨(.type "code"), none, (.fields ⟨[(.str (sx [95, 108, 97, 119, 95, 114, 101, 97, 100]) 2475), (.str (sx [95, 108, 97, 119, 95, 114, 101, 97, 100]) 2476), (.str (sx [47, 99, 108, 97, 105, 109, 47, 99, 117, 116, 46, 112, 121]) 2477), (.int 67 0), (.int 1 0), (.int 0 0), (.int 0 0), (.int 3 0), (.ref 188), (.bool true), (.int 276 0), (.ref 189), .none, (.ref 190), (.ref 191), (.ref 192), (.int 2484 0), (.int 67 0), (.str (sx [47, 99, 108, 97, 105, 109, 47, 99, 117, 116, 46, 112, 121]) 2485)]⟩), ⟨[]⟩⟩
@[irreducible] noncomputable def o194 (P : Params) : Obj := ⟨(.type "function"), none, (.func { name := (sx [95, 108, 97, 119, 95, 114, 101, 97, 100]), qualname := (sx [95, 108, 97, 119, 95, 114, 101, 97, 100]), params := fA 24, body := .stmts (fB 24), scope := fS 24, globals := 3, closure := [], defaults := .none, kwdefaults := .none, doc := .none, pyModule := (.str (sx [108, 97, 119, 95, 116, 105, 48, 48, 50, 56, 95, 48, 49]) 2425), annotations := none, code := (.ref 193), closureTuple := .none, builtins := 0 }), ⟨[]⟩⟩
@[irreducible] noncomputable def o195 (P : Params) : Obj := ⟨(.type "tuple"), none, (.seq ⟨[]⟩ 0), ⟨[]⟩⟩
@[irreducible] noncomputable def o196 (P : Params) : Obj := ⟨.none, none, (.fields ⟨[]⟩), ⟨[]⟩⟩
@[irreducible] noncomputable def o197 (P : Params) : Obj := ⟨(.type "tuple"), none, (.seq ⟨[(.str (sx [119, 111, 114, 100]) 2490), (.str (sx [108, 101, 116, 116, 101, 114, 115]) 2491), (.str (sx [101, 120, 99, 104, 97, 110, 103, 101, 115]) 2492), (.str (sx [112, 108, 97, 99, 101]) 2493), (.str (sx [102, 105, 114, 115, 116]) 2494), (.str (sx [115, 101, 99, 111, 110, 100]) 2495), (.str (sx [103, 114, 101, 97, 116, 101, 114]) 2496)]⟩ 0), ⟨[]⟩⟩
@[irreducible] noncomputable def o198 (P : Params) : Obj := ⟨(.type "tuple"), none, (.seq ⟨[]⟩ 0), ⟨[]⟩⟩
@[irreducible] noncomputable def o199 (P : Params) : Obj := ⟨.none, none, (.func { name := (sx [95, 108, 97, 119, 95, 112, 97, 115, 115]), qualname := (sx [95, 108, 97, 119, 95, 112, 97, 115, 115]), params := fA 25, body := .stmts (fB 25), scope := fS 25, globals := 0, closure := [], defaults := .none, kwdefaults := .none, doc := .none, pyModule := .none, annotations := none, code := .none, closureTuple := .none, builtins := 0 }), ⟨[]⟩⟩
@[irreducible] noncomputable def o200 (P : Params) : Obj := ⟨(.type "code"), none, (.fields ⟨[(.str (sx [95, 108, 97, 119, 95, 112, 97, 115, 115]) 2487), (.str (sx [95, 108, 97, 119, 95, 112, 97, 115, 115]) 2488), (.str (sx [47, 99, 108, 97, 105, 109, 47, 99, 117, 116, 46, 112, 121]) 2489), (.int 77 0), (.int 2 0), (.int 0 0), (.int 0 0), (.int 3 0), (.ref 195), (.bool true), (.int 276 0), (.ref 196), .none, (.ref 197), (.ref 198), (.ref 199), (.int 2497 0), (.int 77 0), (.str (sx [47, 99, 108, 97, 105, 109, 47, 99, 117, 116, 46, 112, 121]) 2498)]⟩), ⟨[]⟩⟩
@[irreducible] noncomputable def o201 (P : Params) : Obj := ⟨(.type "function"), none, (.func { name := (sx [95, 108, 97, 119, 95, 112, 97, 115, 115]), qualname := (sx [95, 108, 97, 119, 95, 112, 97, 115, 115]), params := fA 25, body := .stmts (fB 25), scope := fS 25, globals := 3, closure := [], defaults := .none, kwdefaults := .none, doc := .none, pyModule := (.str (sx [108, 97, 119, 95, 116, 105, 48, 48, 50, 56, 95, 48, 49]) 2425), annotations := none, code := (.ref 200), closureTuple := .none, builtins := 0 }), ⟨[]⟩⟩
@[irreducible] noncomputable def o202 (P : Params) : Obj := ⟨(.type "tuple"), none, (.seq ⟨[]⟩ 0), ⟨[]⟩⟩
@[irreducible] noncomputable def o203 (P : Params) : Obj := ⟨.none, none, (.fields ⟨[]⟩), ⟨[]⟩⟩
@[irreducible] noncomputable def o204 (P : Params) : Obj := ⟨.none, none, (.func { name := (sx [108, 97, 119]), qualname := (sx [108, 97, 119]), params := fA 26, body := .stmts (fB 26), scope := fS 26, globals := 0, closure := [], defaults := .none, kwdefaults := .none, doc := .none, pyModule := .none, annotations := none, code := .none, closureTuple := .none, builtins := 0 }), ⟨[]⟩⟩
@[irreducible] noncomputable def o205 (P : Params) : Obj := ⟨(.type "code"), none, (.fields ⟨[(.str (sx [108, 97, 119]) 2500), (.str (sx [108, 97, 119]) 2501), (.str (sx [47, 99, 108, 97, 105, 109, 47, 99, 117, 116, 46, 112, 121]) 2502), (.int 92 0), (.int 1 0), (.int 0 0), (.int 0 0), (.int 3 0), (.ref 202), (.bool true), (.int 276 0), (.ref 203), .none, .none, .none, (.ref 204), (.int 2503 0), (.int 92 0), (.str (sx [47, 99, 108, 97, 105, 109, 47, 99, 117, 116, 46, 112, 121]) 2504)]⟩), ⟨[]⟩⟩
@[irreducible] noncomputable def o206 (P : Params) : Obj := ⟨(.type "function"), none, (.func { name := (sx [108, 97, 119]), qualname := (sx [108, 97, 119]), params := fA 26, body := .stmts (fB 26), scope := fS 26, globals := 3, closure := [], defaults := .none, kwdefaults := .none, doc := .none, pyModule := (.str (sx [108, 97, 119, 95, 116, 105, 48, 48, 50, 56, 95, 48, 49]) 2425), annotations := none, code := (.ref 205), closureTuple := .none, builtins := 0 }), ⟨[]⟩⟩
@[irreducible] noncomputable def T0 (P : Params) : BT := (.node (boot_o_0 P) (.node (o1 P) (.node (o3 P) (.node (boot_o_7 P) (.node (o15 P) .nil .nil) (.node (o23 P) .nil .nil)) (.node (o11 P) (.node (o19 P) .nil .nil) (.node (o27 P) .nil .nil))) (.node (boot_o_5 P) (.node (boot_o_9 P) (.node (o17 P) .nil .nil) (.node (o25 P) .nil .nil)) (.node (o13 P) (.node (o21 P) .nil .nil) .nil))) (.node (o2 P) (.node (boot_o_4 P) (.node (boot_o_8 P) (.node (o16 P) .nil .nil) (.node (o24 P) .nil .nil)) (.node (o12 P) (.node (o20 P) .nil .nil) .nil)) (.node (boot_o_6 P) (.node (boot_o_10 P) (.node (o18 P) .nil .nil) (.node (o26 P) .nil .nil)) (.node (o14 P) (.node (o22 P) .nil .nil) .nil))))
@[irreducible] noncomputable def S0 (P : Params) (os : OsState) : SharedT := ⟨T0 P, 28, {}, #[], {}, 276, os⟩
@[irreducible] noncomputable def Tpre (P : Params) : BT := (.node (boot_o_0 P) (.node (o1 P) (.node (o3 P) (.node (boot_o_7 P) (.node (o15 P) (.node (o31 P) .nil .nil) .nil) (.node (o23 P) .nil .nil)) (.node (o11 P) (.node (o19 P) .nil .nil) (.node (o27 P) .nil .nil))) (.node (boot_o_5 P) (.node (boot_o_9 P) (.node (o17 P) .nil .nil) (.node (o25 P) .nil .nil)) (.node (o13 P) (.node (o21 P) .nil .nil) (.node (o29 P) .nil .nil)))) (.node (o2 P) (.node (boot_o_4 P) (.node (boot_o_8 P) (.node (o16 P) .nil .nil) (.node (o24 P) .nil .nil)) (.node (o12 P) (.node (o20 P) .nil .nil) (.node (o28 P) .nil .nil))) (.node (boot_o_6 P) (.node (boot_o_10 P) (.node (o18 P) .nil .nil) (.node (o26 P) .nil .nil)) (.node (o14 P) (.node (o22 P) .nil .nil) (.node (o30 P) .nil .nil)))))
@[irreducible] noncomputable def Spre (P : Params) (os : OsState) : SharedT := ⟨Tpre P, 32, {}, #[], {}, 282, os⟩
@[irreducible] noncomputable def T11 (P : Params) : BT := (.node (boot_o_0 P) (.node (o1 P) (.node (o3v1 P) (.node (boot_o_7 P) (.node (o15 P) (.node (o31 P) (.node (o63 P) .nil .nil) .nil) (.node (o47 P) (.node (o79 P) .nil .nil) .nil)) (.node (o23 P) (.node (o39 P) (.node (o71 P) .nil .nil) .nil) (.node (o55 P) .nil .nil))) (.node (o11 P) (.node (o19 P) (.node (o35 P) (.node (o67 P) .nil .nil) .nil) (.node (o51 P) (.node (o83 P) .nil .nil) .nil)) (.node (o27 P) (.node (o43 P) (.node (o75 P) .nil .nil) .nil) (.node (o59 P) .nil .nil)))) (.node (boot_o_5 P) (.node (boot_o_9 P) (.node (o17 P) (.node (o33 P) (.node (o65 P) .nil .nil) .nil) (.node (o49 P) (.node (o81 P) .nil .nil) .nil)) (.node (o25 P) (.node (o41 P) (.node (o73 P) .nil .nil) .nil) (.node (o57 P) .nil .nil))) (.node (o13 P) (.node (o21 P) (.node (o37 P) (.node (o69 P) .nil .nil) .nil) (.node (o53 P) .nil .nil)) (.node (o29v1 P) (.node (o45 P) (.node (o77 P) .nil .nil) .nil) (.node (o61 P) .nil .nil))))) (.node (o2 P) (.node (boot_o_4 P) (.node (boot_o_8 P) (.node (o16 P) (.node (o32 P) (.node (o64 P) .nil .nil) .nil) (.node (o48 P) (.node (o80 P) .nil .nil) .nil)) (.node (o24 P) (.node (o40 P) (.node (o72 P) .nil .nil) .nil) (.node (o56 P) .nil .nil))) (.node (o12 P) (.node (o20 P) (.node (o36 P) (.node (o68 P) .nil .nil) .nil) (.node (o52 P) .nil .nil)) (.node (o28 P) (.node (o44 P) (.node (o76 P) .nil .nil) .nil) (.node (o60 P) .nil .nil)))) (.node (boot_o_6 P) (.node (boot_o_10 P) (.node (o18 P) (.node (o34 P) (.node (o66 P) .nil .nil) .nil) (.node (o50 P) (.node (o82 P) .nil .nil) .nil)) (.node (o26 P) (.node (o42 P) (.node (o74 P) .nil .nil) .nil) (.node (o58 P) .nil .nil))) (.node (o14 P) (.node (o22 P) (.node (o38 P) (.node (o70 P) .nil .nil) .nil) (.node (o54 P) .nil .nil)) (.node (o30 P) (.node (o46 P) (.node (o78 P) .nil .nil) .nil) (.node (o62 P) .nil .nil))))))
@[irreducible] noncomputable def S11 (P : Params) (os : OsState) : SharedT := ⟨T11 P, 84, {}, #[], {}, 399, os⟩
@[irreducible] noncomputable def T12 (P : Params) : BT := (.node (boot_o_0 P) (.node (o1 P) (.node (o3v2 P) (.node (boot_o_7 P) (.node (o15 P) (.node (o31 P) (.node (o63 P) .nil .nil) .nil) (.node (o47 P) (.node (o79 P) .nil .nil) .nil)) (.node (o23 P) (.node (o39 P) (.node (o71 P) .nil .nil) .nil) (.node (o55 P) (.node (o87 P) .nil .nil) .nil))) (.node (o11 P) (.node (o19 P) (.node (o35 P) (.node (o67 P) .nil .nil) .nil) (.node (o51 P) (.node (o83 P) .nil .nil) .nil)) (.node (o27 P) (.node (o43 P) (.node (o75 P) .nil .nil) .nil) (.node (o59 P) (.node (o91 P) .nil .nil) .nil)))) (.node (boot_o_5 P) (.node (boot_o_9 P) (.node (o17 P) (.node (o33 P) (.node (o65 P) .nil .nil) .nil) (.node (o49 P) (.node (o81 P) .nil .nil) .nil)) (.node (o25 P) (.node (o41 P) (.node (o73 P) .nil .nil) .nil) (.node (o57 P) (.node (o89 P) .nil .nil) .nil))) (.node (o13 P) (.node (o21 P) (.node (o37 P) (.node (o69 P) .nil .nil) .nil) (.node (o53 P) (.node (o85 P) .nil .nil) .nil)) (.node (o29v1 P) (.node (o45 P) (.node (o77 P) .nil .nil) .nil) (.node (o61 P) (.node (o93 P) .nil .nil) .nil))))) (.node (o2 P) (.node (boot_o_4 P) (.node (boot_o_8 P) (.node (o16 P) (.node (o32 P) (.node (o64 P) .nil .nil) .nil) (.node (o48 P) (.node (o80 P) .nil .nil) .nil)) (.node (o24 P) (.node (o40 P) (.node (o72 P) .nil .nil) .nil) (.node (o56 P) (.node (o88 P) .nil .nil) .nil))) (.node (o12 P) (.node (o20 P) (.node (o36 P) (.node (o68 P) .nil .nil) .nil) (.node (o52 P) (.node (o84 P) .nil .nil) .nil)) (.node (o28 P) (.node (o44 P) (.node (o76 P) .nil .nil) .nil) (.node (o60 P) (.node (o92 P) .nil .nil) .nil)))) (.node (boot_o_6 P) (.node (boot_o_10 P) (.node (o18 P) (.node (o34 P) (.node (o66 P) .nil .nil) .nil) (.node (o50 P) (.node (o82 P) .nil .nil) .nil)) (.node (o26 P) (.node (o42 P) (.node (o74 P) .nil .nil) .nil) (.node (o58 P) (.node (o90 P) .nil .nil) .nil))) (.node (o14 P) (.node (o22 P) (.node (o38 P) (.node (o70 P) .nil .nil) .nil) (.node (o54 P) (.node (o86 P) .nil .nil) .nil)) (.node (o30 P) (.node (o46 P) (.node (o78 P) .nil .nil) .nil) (.node (o62 P) (.node (o94 P) .nil .nil) .nil))))))
@[irreducible] noncomputable def S12 (P : Params) (os : OsState) : SharedT := ⟨T12 P, 95, {}, #[], {}, 459, os⟩
@[irreducible] noncomputable def T13 (P : Params) : BT := (.node (boot_o_0 P) (.node (o1 P) (.node (o3v3 P) (.node (boot_o_7 P) (.node (o15 P) (.node (o31 P) (.node (o63 P) .nil .nil) (.node (o95 P) .nil .nil)) (.node (o47 P) (.node (o79 P) .nil .nil) .nil)) (.node (o23 P) (.node (o39 P) (.node (o71 P) .nil .nil) .nil) (.node (o55 P) (.node (o87 P) .nil .nil) .nil))) (.node (o11 P) (.node (o19 P) (.node (o35 P) (.node (o67 P) .nil .nil) (.node (o99 P) .nil .nil)) (.node (o51 P) (.node (o83 P) .nil .nil) .nil)) (.node (o27 P) (.node (o43 P) (.node (o75 P) .nil .nil) .nil) (.node (o59 P) (.node (o91 P) .nil .nil) .nil)))) (.node (boot_o_5 P) (.node (boot_o_9 P) (.node (o17 P) (.node (o33 P) (.node (o65 P) .nil .nil) (.node (o97 P) .nil .nil)) (.node (o49 P) (.node (o81 P) .nil .nil) .nil)) (.node (o25 P) (.node (o41 P) (.node (o73 P) .nil .nil) .nil) (.node (o57 P) (.node (o89 P) .nil .nil) .nil))) (.node (o13 P) (.node (o21 P) (.node (o37 P) (.node (o69 P) .nil .nil) (.node (o101 P) .nil .nil)) (.node (o53 P) (.node (o85 P) .nil .nil) .nil)) (.node (o29v2 P) (.node (o45 P) (.node (o77 P) .nil .nil) .nil) (.node (o61 P) (.node (o93 P) .nil .nil) .nil))))) (.node (o2 P) (.node (boot_o_4 P) (.node (boot_o_8 P) (.node (o16 P) (.node (o32 P) (.node (o64 P) .nil .nil) (.node (o96 P) .nil .nil)) (.node (o48 P) (.node (o80 P) .nil .nil) .nil)) (.node (o24 P) (.node (o40 P) (.node (o72 P) .nil .nil) .nil) (.node (o56 P) (.node (o88 P) .nil .nil) .nil))) (.node (o12 P) (.node (o20 P) (.node (o36 P) (.node (o68 P) .nil .nil) (.node (o100 P) .nil .nil)) (.node (o52 P) (.node (o84 P) .nil .nil) .nil)) (.node (o28 P) (.node (o44 P) (.node (o76 P) .nil .nil) .nil) (.node (o60 P) (.node (o92 P) .nil .nil) .nil)))) (.node (boot_o_6 P) (.node (boot_o_10 P) (.node (o18 P) (.node (o34 P) (.node (o66 P) .nil .nil) (.node (o98 P) .nil .nil)) (.node (o50 P) (.node (o82 P) .nil .nil) .nil)) (.node (o26 P) (.node (o42 P) (.node (o74 P) .nil .nil) .nil) (.node (o58 P) (.node (o90 P) .nil .nil) .nil))) (.node (o14 P) (.node (o22 P) (.node (o38 P) (.node (o70 P) .nil .nil) .nil) (.node (o54 P) (.node (o86 P) .nil .nil) .nil)) (.node (o30 P) (.node (o46 P) (.node (o78 P) .nil .nil) .nil) (.node (o62 P) (.node (o94 P) .nil .nil) .nil))))))
@[irreducible] noncomputable def S13 (P : Params) (os : OsState) : SharedT := ⟨T13 P, 102, {}, #[], {}, 466, os⟩
@[irreducible] noncomputable def T14p (P : Params) : BT := (.node (boot_o_0 P) (.node (o1 P) (.node (o3v3 P) (.node (boot_o_7 P) (.node (o15 P) (.node (o31 P) (.node (o63 P) (.node (dObj 25) .nil .nil) .nil) (.node (o95 P) .nil .nil)) (.node (o47 P) (.node (o79 P) .nil .nil) (.node (dObj 9) .nil .nil))) (.node (o23 P) (.node (o39 P) (.node (o71 P) (.node (dObj 33) .nil .nil) .nil) (.node (dObj 1) .nil .nil)) (.node (o55 P) (.node (o87 P) .nil .nil) (.node (dObj 17) .nil .nil)))) (.node (o11 P) (.node (o19 P) (.node (o35 P) (.node (o67 P) (.node (dObj 29) .nil .nil) .nil) (.node (o99 P) .nil .nil)) (.node (o51 P) (.node (o83 P) .nil .nil) (.node (dObj 13) .nil .nil))) (.node (o27 P) (.node (o43 P) (.node (o75 P) (.node (dObj 37) .nil .nil) .nil) (.node (dObj 5) .nil .nil)) (.node (o59 P) (.node (o91 P) .nil .nil) (.node (dObj 21) .nil .nil))))) (.node (boot_o_5 P) (.node (boot_o_9 P) (.node (o17 P) (.node (o33 P) (.node (o65 P) (.node (dObj 27) .nil .nil) .nil) (.node (o97 P) .nil .nil)) (.node (o49 P) (.node (o81 P) .nil .nil) (.node (dObj 11) .nil .nil))) (.node (o25 P) (.node (o41 P) (.node (o73 P) (.node (dObj 35) .nil .nil) .nil) (.node (dObj 3) .nil .nil)) (.node (o57 P) (.node (o89 P) .nil .nil) (.node (dObj 19) .nil .nil)))) (.node (o13 P) (.node (o21 P) (.node (o37 P) (.node (o69 P) (.node (dObj 31) .nil .nil) .nil) (.node (o101 P) .nil .nil)) (.node (o53 P) (.node (o85 P) .nil .nil) (.node (dObj 15) .nil .nil))) (.node (o29v2 P) (.node (o45 P) (.node (o77 P) .nil .nil) (.node (dObj 7) .nil .nil)) (.node (o61 P) (.node (o93 P) .nil .nil) (.node (dObj 23) .nil .nil)))))) (.node (o2 P) (.node (boot_o_4 P) (.node (boot_o_8 P) (.node (o16 P) (.node (o32 P) (.node (o64 P) (.node (dObj 26) .nil .nil) .nil) (.node (o96 P) .nil .nil)) (.node (o48 P) (.node (o80 P) .nil .nil) (.node (dObj 10) .nil .nil))) (.node (o24 P) (.node (o40 P) (.node (o72 P) (.node (dObj 34) .nil .nil) .nil) (.node (dObj 2) .nil .nil)) (.node (o56 P) (.node (o88 P) .nil .nil) (.node (dObj 18) .nil .nil)))) (.node (o12 P) (.node (o20 P) (.node (o36 P) (.node (o68 P) (.node (dObj 30) .nil .nil) .nil) (.node (o100 P) .nil .nil)) (.node (o52 P) (.node (o84 P) .nil .nil) (.node (dObj 14) .nil .nil))) (.node (o28 P) (.node (o44 P) (.node (o76 P) (.node (dObj 38) .nil .nil) .nil) (.node (dObj 6) .nil .nil)) (.node (o60 P) (.node (o92 P) .nil .nil) (.node (dObj 22) .nil .nil))))) (.node (boot_o_6 P) (.node (boot_o_10 P) (.node (o18 P) (.node (o34 P) (.node (o66 P) (.node (dObj 28) .nil .nil) .nil) (.node (o98 P) .nil .nil)) (.node (o50 P) (.node (o82 P) .nil .nil) (.node (dObj 12) .nil .nil))) (.node (o26 P) (.node (o42 P) (.node (o74 P) (.node (dObj 36) .nil .nil) .nil) (.node (dObj 4) .nil .nil)) (.node (o58 P) (.node (o90 P) .nil .nil) (.node (dObj 20) .nil .nil)))) (.node (o14 P) (.node (o22 P) (.node (o38 P) (.node (o70 P) (.node (dObj 32) .nil .nil) .nil) (.node (dObj 0) .nil .nil)) (.node (o54 P) (.node (o86 P) .nil .nil) (.node (dObj 16) .nil .nil))) (.node (o30 P) (.node (o46 P) (.node (o78 P) .nil .nil) (.node (dObj 8) .nil .nil)) (.node (o62 P) (.node (o94 P) .nil .nil) (.node (dObj 24) .nil .nil)))))))
@[irreducible] noncomputable def S14p (P : Params) (os : OsState) : SharedT := ⟨T14p P, 141, {}, #[], {}, 2416, os⟩
@[irreducible] noncomputable def T25 (P : Params) : BT := (.node (boot_o_0 P) (.node (o1 P) (.node (o3v4 P) (.node (boot_o_7 P) (.node (o15 P) (.node (o31 P) (.node (o63 P) (.node (dObj 25) .nil .nil) (.node (o191 P) .nil .nil)) (.node (o95 P) (.node (o159 P) .nil .nil) .nil)) (.node (o47 P) (.node (o79 P) (.node (o143 P) .nil .nil) .nil) (.node (dObj 9) (.node (o175 P) .nil .nil) .nil))) (.node (o23 P) (.node (o39 P) (.node (o71 P) (.node (dObj 33) .nil .nil) (.node (o199 P) .nil .nil)) (.node (dObj 1) (.node (o167 P) .nil .nil) .nil)) (.node (o55 P) (.node (o87 P) (.node (o151 P) .nil .nil) .nil) (.node (dObj 17) (.node (o183 P) .nil .nil) .nil)))) (.node (o11 P) (.node (o19 P) (.node (o35 P) (.node (o67 P) (.node (dObj 29) .nil .nil) (.node (o195 P) .nil .nil)) (.node (o99 P) (.node (o163 P) .nil .nil) .nil)) (.node (o51 P) (.node (o83 P) (.node (o147 P) .nil .nil) .nil) (.node (dObj 13) (.node (o179 P) .nil .nil) .nil))) (.node (o27 P) (.node (o43 P) (.node (o75 P) (.node (dObj 37) .nil .nil) (.node (o203 P) .nil .nil)) (.node (dObj 5) (.node (o171 P) .nil .nil) .nil)) (.node (o59 P) (.node (o91 P) (.node (o155 P) .nil .nil) .nil) (.node (dObj 21) (.node (o187 P) .nil .nil) .nil))))) (.node (boot_o_5 P) (.node (boot_o_9 P) (.node (o17 P) (.node (o33 P) (.node (o65 P) (.node (dObj 27) .nil .nil) (.node (o193 P) .nil .nil)) (.node (o97 P) (.node (o161 P) .nil .nil) .nil)) (.node (o49 P) (.node (o81 P) (.node (o145 P) .nil .nil) .nil) (.node (dObj 11) (.node (o177 P) .nil .nil) .nil))) (.node (o25 P) (.node (o41 P) (.node (o73 P) (.node (dObj 35) .nil .nil) (.node (o201 P) .nil .nil)) (.node (dObj 3) (.node (o169 P) .nil .nil) .nil)) (.node (o57 P) (.node (o89 P) (.node (o153 P) .nil .nil) .nil) (.node (dObj 19) (.node (o185 P) .nil .nil) .nil)))) (.node (o13 P) (.node (o21 P) (.node (o37 P) (.node (o69 P) (.node (dObj 31) .nil .nil) (.node (o197 P) .nil .nil)) (.node (o101 P) (.node (o165 P) .nil .nil) .nil)) (.node (o53 P) (.node (o85 P) (.node (o149 P) .nil .nil) .nil) (.node (dObj 15) (.node (o181 P) .nil .nil) .nil))) (.node (o29v3 P) (.node (o45 P) (.node (o77 P) (.node (o141 P) .nil .nil) (.node (o205 P) .nil .nil)) (.node (dObj 7) (.node (o173 P) .nil .nil) .nil)) (.node (o61 P) (.node (o93 P) (.node (o157 P) .nil .nil) .nil) (.node (dObj 23) (.node (o189 P) .nil .nil) .nil)))))) (.node (o2 P) (.node (boot_o_4 P) (.node (boot_o_8 P) (.node (o16 P) (.node (o32 P) (.node (o64 P) (.node (dObj 26) .nil .nil) (.node (o192 P) .nil .nil)) (.node (o96 P) (.node (o160 P) .nil .nil) .nil)) (.node (o48 P) (.node (o80 P) (.node (o144 P) .nil .nil) .nil) (.node (dObj 10) (.node (o176 P) .nil .nil) .nil))) (.node (o24 P) (.node (o40 P) (.node (o72 P) (.node (dObj 34) .nil .nil) (.node (o200 P) .nil .nil)) (.node (dObj 2) (.node (o168 P) .nil .nil) .nil)) (.node (o56 P) (.node (o88 P) (.node (o152 P) .nil .nil) .nil) (.node (dObj 18) (.node (o184 P) .nil .nil) .nil)))) (.node (o12 P) (.node (o20 P) (.node (o36 P) (.node (o68 P) (.node (dObj 30) .nil .nil) (.node (o196 P) .nil .nil)) (.node (o100 P) (.node (o164 P) .nil .nil) .nil)) (.node (o52 P) (.node (o84 P) (.node (o148 P) .nil .nil) .nil) (.node (dObj 14) (.node (o180 P) .nil .nil) .nil))) (.node (o28 P) (.node (o44 P) (.node (o76 P) (.node (dObj 38) .nil .nil) (.node (o204 P) .nil .nil)) (.node (dObj 6) (.node (o172 P) .nil .nil) .nil)) (.node (o60 P) (.node (o92 P) (.node (o156 P) .nil .nil) .nil) (.node (dObj 22) (.node (o188 P) .nil .nil) .nil))))) (.node (boot_o_6 P) (.node (boot_o_10 P) (.node (o18 P) (.node (o34 P) (.node (o66 P) (.node (dObj 28) .nil .nil) (.node (o194 P) .nil .nil)) (.node (o98 P) (.node (o162 P) .nil .nil) .nil)) (.node (o50 P) (.node (o82 P) (.node (o146 P) .nil .nil) .nil) (.node (dObj 12) (.node (o178 P) .nil .nil) .nil))) (.node (o26 P) (.node (o42 P) (.node (o74 P) (.node (dObj 36) .nil .nil) (.node (o202 P) .nil .nil)) (.node (dObj 4) (.node (o170 P) .nil .nil) .nil)) (.node (o58 P) (.node (o90 P) (.node (o154 P) .nil .nil) .nil) (.node (dObj 20) (.node (o186 P) .nil .nil) .nil)))) (.node (o14 P) (.node (o22 P) (.node (o38 P) (.node (o70 P) (.node (dObj 32) .nil .nil) (.node (o198 P) .nil .nil)) (.node (dObj 0) (.node (o166 P) .nil .nil) .nil)) (.node (o54 P) (.node (o86 P) (.node (o150 P) .nil .nil) .nil) (.node (dObj 16) (.node (o182 P) .nil .nil) .nil))) (.node (o30 P) (.node (o46 P) (.node (o78 P) (.node (o142 P) .nil .nil) (.node (o206 P) .nil .nil)) (.node (dObj 8) (.node (o174 P) .nil .nil) .nil)) (.node (o62 P) (.node (o94 P) (.node (o158 P) .nil .nil) .nil) (.node (dObj 24) (.node (o190 P) .nil .nil) .nil)))))))
@[irreducible] noncomputable def S25 (P : Params) (os : OsState) : SharedT := ⟨T25 P, 207, {}, #[], {}, 2506, os⟩
end Mine
end

section
set_option maxRecDepth 1000000
set_option maxHeartbeats 0
namespace Mine
open PySem PySem.W PySem.Calls PyProof.Rows
noncomputable def denQ : Code → Sem Fin := PySem.W.Fast.tw11892475500146522536 PySem.W.Fast.tw14364793385576792824
theorem denQ_eq : denQ = denote table := by
  unfold denQ
  rw [← PySem.W.Fast.te11892475500146522536, ← PySem.W.Fast.te14364793385576792824, table_eq_tree]
noncomputable def MQ (w : World) : EvIn := ⟨denQ, p0, w⟩
noncomputable def Γ0 : Ctx := Ctx.of (.builtin "claim.caller" {}) []
@[irreducible] noncomputable def bQ : List Stmt := behindTheImports p0
noncomputable def envQ : Env := { scope := p0.main.scope, locals := mainNs, globals := mainNs, cells := [], code := .ref 30, frame := some 31 }
noncomputable def Γ1 : Ctx := Γ0.enter (.body bQ envQ) none default
theorem ev_open : ∀ w : World, (fencedOpening treeTable p0 w 2000).map (fun s => (s.heap, s.gens, s.drawn, s.toks)) = some (absHeap (T0 w.params) 28 {}, #[], {}, 276) := by
  intro w; kernel_rfl
theorem ev_pre : ∀ (w : World) (os : OsState), ev (MQ w) 1000 (Value × Addr) Γ0 (do let c ← PySem.W.Fast.tw17154629097778926822 p0.main; let f ← PySem.W.Fast.tw12822647523644345616 c mainNs mainNs; pure (c, f)) default (S0 w.params os) = some (.ok (.ref 30, 31), default, Spre w.params os) := by
  intro w os; kernel_rfl
theorem ev_A : ∀ (w : World) (os : OsState), ev (MQ w) 100000 Flow Γ1 (do PySem.W.Fast.tw1066825118222455980 bQ envQ; PySem.W.Fast.tw12563942051412417395 (bQ.take 12) envQ) default (Spre w.params os) = some (.ok .next, ⟨26, 0, 26, 8⟩, S11 w.params os) := by
  intro w os; kernel_rfl
noncomputable abbrev StB (b c : Bool) : Prop := ∀ (w : World) (os : OsState), ev (MQ ((w.withFollow "set-order" b).withFollow "special-get-raises" c)) 100000 Flow Γ1 (PySem.W.Fast.tw12563942051412417395 ((bQ.drop 12).take 1) envQ) ⟨26, 0, 26, 8⟩ (S11 ((w.withFollow "set-order" b).withFollow "special-get-raises" c).params os) = some (.ok .next, ⟨27, 0, 27, 6⟩, S12 ((w.withFollow "set-order" b).withFollow "special-get-raises" c).params os)
theorem ev_B_false_false : StB false false := by intro w os; kernel_rfl
theorem ev_B_false_true : StB false true := by intro w os; kernel_rfl
theorem ev_B_true_false : StB true false := by intro w os; kernel_rfl
theorem ev_B_true_true : StB true true := by intro w os; kernel_rfl
theorem ev_B (b : Bool) (c : Bool) : ∀ (w : World) (os : OsState), ev (MQ ((w.withFollow "set-order" b).withFollow "special-get-raises" c)) 100000 Flow Γ1 (PySem.W.Fast.tw12563942051412417395 ((bQ.drop 12).take 1) envQ) ⟨26, 0, 26, 8⟩ (S11 ((w.withFollow "set-order" b).withFollow "special-get-raises" c).params os) = some (.ok .next, ⟨27, 0, 27, 6⟩, S12 ((w.withFollow "set-order" b).withFollow "special-get-raises" c).params os) :=
  match b, c with
  | false, false => ev_B_false_false
  | false, true => ev_B_false_true
  | true, false => ev_B_true_false
  | true, true => ev_B_true_true
theorem ev_C : ∀ (w : World) (os : OsState), ev (MQ w) 100000 Flow Γ1 (PySem.W.Fast.tw12563942051412417395 ((bQ.drop 13).take 1) envQ) ⟨27, 0, 27, 6⟩ (S12 w.params os) = some (.ok .next, ⟨28, 0, 29, 30⟩, S13 w.params os) := by
  intro w os; kernel_rfl
theorem ev_D : ∀ (w : World) (os : OsState) (q : Pos), ev (MQ w) 100000 Flow Γ1 ((do standAt ⟨30, 0, 30, 13⟩; bindName envQ "b3_exceptions" (.ref 102); pure Flow.next) >>= fun f => match f with
    | .next => PySem.W.Fast.tw12563942051412417395 (bQ.drop 15) envQ
    | f => pure f) q (S14p w.params os) = some (.ok .next, ⟨92, 0, 130, 15⟩, S25 w.params os) := by
  intro w os q; kernel_rfl

/-- the display's own words -/
noncomputable def isKC : Option Expr → Bool
  | some (.Constant (.int _) _ _) => true
  | _ => false
noncomputable def isVC : Expr → Bool
  | .Constant (.str _) _ _ => true
  | _ => false
noncomputable def risesFrom : Int → List Int → Bool
  | _, [] => true
  | a, b :: r => decide (a < b) && risesFrom b r
theorem b3_ok : (b3Keys.all isKC && b3Vals.all isVC && b3Keys.length == 650 && b3Vals.length == 650 && risesFrom 0 (b3Keys.map kC)) = true := by kernel_rfl
theorem st14_eq : bQ.drop 14 = .Assign [.Name "b3_exceptions" ⟨30, 0, 30, 13⟩] (.Dict b3Keys b3Vals ⟨30, 16, 30, 8704⟩) ⟨30, 0, 30, 8704⟩ :: bQ.drop 15 := by kernel_rfl
theorem bQ_eq : bQ = bQ.take 12 ++ ((bQ.drop 12).take 1 ++ ((bQ.drop 13).take 1 ++ bQ.drop 14)) := by kernel_rfl
noncomputable def insAll : BT → Nat → List Obj → BT
  | t, _, [] => t
  | t, n, o :: r => insAll (t.ins n o) (n + 1) r
noncomputable def insOk : BT → Nat → List Obj → Bool
  | _, _, [] => true
  | t, n, o :: r => ((t.ins n o).get n).isSome && insOk (t.ins n o) (n + 1) r
theorem absHeap_insAll {life : Life} : ∀ {l : List Obj} {t : BT} {n : Nat}, insOk t n l = true → absHeap (insAll t n l) (n + l.length) life = pushes (absHeap t n life) l
  | [], t, n, _ => by rw [pushes_nil]; rfl
  | o :: r, t, n, h => by
    obtain ⟨h1, h2⟩ := Bool.and_eq_true_iff.mp h
    have := absHeap_insAll (life := life) h2
    rw [absHeap_ins h1, show n + 1 + r.length = n + (o :: r).length by simp; (first | lia | omega)] at this
    show absHeap (insAll (t.ins n o) (n + 1) r) _ life = _
    rw [this]
    rw [← pushes_nil (absHeap t n life), pushes_push]
    simp [pushes]
theorem T14p_ok : ∀ w : World, insOk (T13 w.params) 102 dObjs = true := by intro w; kernel_rfl
theorem T14p_eq : ∀ w : World, insAll (T13 w.params) 102 dObjs = T14p w.params := by intro w; kernel_rfl
theorem dObjs_len : dObjs.length = 39 := by kernel_rfl
theorem b3_len : b3Data.length = 650 := by kernel_rfl
end Mine
end

section
set_option maxRecDepth 1000000
set_option maxHeartbeats 0
namespace Mine
open PySem PySem.W PySem.Calls PyProof.Rows
noncomputable def keepQ : List Nat := [0, 1, 2, 3, 4, 5, 6, 7, 10, 11, 12, 14, 16, 17, 18, 19, 20, 21, 22, 23, 24, 25, 26]
noncomputable def qQ : Program := view p0 keepQ
noncomputable def looseQ : List Str := ["_twin_re_1", "_twin_re_2", "b1_set", "b3_exceptions"]
theorem looks1 : ∀ w : World, (fun os => (staticsOk (importedModules p0.main.body) (absHeap (T0 w.params) 28 {}) (S25 w.params os).abs.heap && namesBound p0 (S25 w.params os).abs.heap && gensDone (S25 w.params os).abs && laidKept (absHeap (T0 w.params) 28 {}) (S25 w.params os).abs.heap)) = fun _ => true := by
  intro w; kernel_rfl
theorem looks2 : ∀ w : World, (fun os => openSeen qQ looseQ (importedModules p0.main.body) (fun _ => true) true (S25 w.params os).abs) = fun _ => openGood qQ looseQ := by
  intro w; rw [PySem.W.Fast.te4187177175401517315]; kernel_rfl
theorem looks3 : chainsOk qQ = true := by kernel_rfl
end Mine
end

section
set_option maxRecDepth 100000
namespace Mine
open PySem PySem.W PySem.Calls PyProof.Rows

theorem ev_wp {w : World} {n : Nat} {α : Type} {Γ : Ctx} {t : Sem α} {p q : Pos} {s s' : SharedT} {a : α} (h : ev (MQ w) n α Γ t p s = some (.ok a, q, s')) {Q : α → Pos → Shared → Prop} {E : Value → Pos → Shared → Prop} (hQ : Q a q s'.abs) :
    Sem.wp (model p0 w) Γ t Q E p s.abs := by
  have := (ev_sound (MQ w) n).1 α Γ t p s _ q s' h Q E hQ
  have e : (⟨(MQ w).den, (MQ w).prog, (MQ w).w⟩ : Model) = model p0 w := by
    show (⟨denQ, p0, w⟩ : Model) = ⟨denote table, p0, w⟩
    rw [denQ_eq]
  rwa [e] at this

theorem wp_execs_append {M : Model} {Γ : Ctx} {env : Env} {E : Value → Pos → Shared → Prop} {Q : Flow → Pos → Shared → Prop} {b : List Stmt} : ∀ {a : List Stmt} {p : Pos} {s : Shared},
    Sem.wp M Γ (execs a env) (fun f p' s' => f = .next ∧ Sem.wp M Γ (execs b env) Q E p' s') E p s → Sem.wp M Γ (execs (a ++ b) env) Q E p s
  | [], p, s, h => by
    rw [execs_nil] at h
    rw [Sem.wp_pure'] at h
    exact h.2
  | st :: r, p, s, h => by
    rw [List.cons_append, execs_cons]
    rw [execs_cons] at h
    rw [Sem.wp_bind'] at h ⊢
    refine Sem.wp_mono M Γ _ (fun f p' s' hf => ?_) (fun _ _ _ x => x) p s h
    cases f with
    | next => exact wp_execs_append hf
    | _ => rw [Sem.wp_pure'] at hf; cases hf.1

theorem evalEach_all {env : Env} {pos : Pos} {prog : Program} {w : World} : ∀ (ks : List (Option Expr)) (vs : List Expr), ks.all isKC = true → vs.all isVC = true → ks.length = vs.length →
    ∃ pairs, ((evalEachOpt ks env).zip ((evalEach vs env).map fun v => do let x ← v; standAt pos; pure x)) = pairs.map (fun p => (some p.1, p.2)) ∧ Pairs prog w pairs ((ks.map kC).zip (vs.map vC))
  | [], [], _, _, _ => ⟨[], rfl, .nil⟩
  | [], _ :: _, _, _, h => by cases h
  | _ :: _, [], _, _, h => by cases h
  | k :: ks, v :: vs, hk, hv, hl => by
    obtain ⟨hk1, hk2⟩ := Bool.and_eq_true_iff.mp hk
    obtain ⟨hv1, hv2⟩ := Bool.and_eq_true_iff.mp hv
    obtain ⟨pairs, e, hp⟩ := evalEach_all (env := env) (pos := pos) (prog := prog) (w := w) ks vs hk2 hv2 (Nat.succ.inj hl)
    cases k with
    | none => cases hk1
    | some k =>
      cases k with
      | Constant c k1 k2 =>
        cases c with
        | int i =>
          cases v with
          | Constant c' k1' k2' =>
            cases c' with
            | str x =>
              refine ⟨(eval (.Constant (.int i) k1 k2) env, do let x ← eval (.Constant (.str x) k1' k2') env; standAt pos; pure x) :: pairs, ?_, .cons ⟨fun A E Q s h => fun _ _ _ => h, fun A E Q s h => fun _ _ _ => h⟩ hp⟩
              simp only [List.map_cons]
              rw [← e]
              rfl
            | _ => cases hv1
          | _ => cases hv1
        | _ => cases hk1
      | _ => cases hk1

theorem rises_lt : ∀ {l : List Int} {a : Int}, risesFrom a l = true → ∀ x ∈ l, a < x
  | [], _, _, _, h => nomatch h
  | b :: r, a, h, x, hx => by
    obtain ⟨h1, h2⟩ := Bool.and_eq_true_iff.mp h
    have h1 := of_decide_eq_true h1
    rcases List.mem_cons.mp hx with rfl | hx
    · exact h1
    · exact Int.lt_trans h1 (rises_lt h2 x hx)
theorem rises_nodup : ∀ {l : List Int} {a : Int}, risesFrom a l = true → l.Nodup
  | [], _, _ => .nil
  | b :: r, a, h => by
    obtain ⟨h1, h2⟩ := Bool.and_eq_true_iff.mp h
    exact List.nodup_cons.mpr ⟨fun q => Int.lt_irrefl _ (rises_lt h2 b q), rises_nodup h2⟩

theorem b3_nodup : (b3Data.map (·.1)).Nodup := by
  have h := b3_ok
  simp only [Bool.and_eq_true, beq_iff_eq] at h
  obtain ⟨⟨⟨⟨h1, h2⟩, h3⟩, h4⟩, h5⟩ := h
  have : b3Data.map (·.1) = b3Keys.map kC := by
    unfold b3Data
    rw [List.map_fst_zip]
    rw [List.length_map, List.length_map, h3, h4]; exact Nat.le_refl _
  rw [this]
  exact rises_nodup h5

/-- the display of the table, from the written state before it -/
theorem wp_b3 (w : World) (os : OsState) (A : Around) (E : Value → Shared → Prop) (Q : Value → Shared → Prop) (hQ : Q (.ref 102) (S14p w.params os).abs) :
    wpAny (model p0 w) A (eval (.Dict b3Keys b3Vals ⟨30, 16, 30, 8704⟩) envQ) Q E (S13 w.params os).abs := by
  have h := b3_ok
  simp only [Bool.and_eq_true, beq_iff_eq] at h
  obtain ⟨⟨⟨⟨h1, h2⟩, h3⟩, h4⟩, h5⟩ := h
  rw [arm_eval_Dict]
  obtain ⟨pairs, e, hp⟩ := evalEach_all (env := envQ) (pos := ⟨30, 16, 30, 8704⟩) (prog := p0) (w := w) b3Keys b3Vals h1 h2 (h3.trans h4.symm)
  rw [e]
  have hp : Pairs p0 w pairs b3Data := by unfold b3Data; exact hp
  unfold S13
  refine wpAny_bind (wpAny_standAt ?_)
  have hsz : (absHeap (T13 w.params) 102 {}).objs.size = 102 := absHeap_size _ _ _
  have hl := b3_len
  refine wp_display (s := ⟨absHeap (T13 w.params) 102 {}, #[], {}, 466, os⟩) (h := absHeap (T13 w.params) 102 {}) (tk := 466) (data := b3Data) hp (by rw [hsz]; decide) (by rw [hl]; decide) b3_nodup (by rw [hl]; decide) (by rw [hl]; decide) (by rw [hl]; decide) ?_
  rw [hsz]
  have e2 : pushes (absHeap (T13 w.params) 102 {}) dObjs = absHeap (T14p w.params) 141 {} := by
    rw [← absHeap_insAll (T14p_ok w), T14p_eq, dObjs_len]
  unfold dObjs at e2
  rw [e2, hl]
  unfold S14p at hQ
  exact hQ

theorem row_cases {P : World → Prop} (h : ∀ (b c : Bool) (w : World), P ((w.withFollow "set-order" b).withFollow "special-get-raises" c)) (w : World) : P w := by
  have := h (w.params.followText "set-order") (w.params.followText "special-get-raises") w
  rwa [World.withFollow_self, World.withFollow_self] at this

theorem ev_B' (w : World) : ∀ os : OsState, ev (MQ w) 100000 Flow Γ1 (PySem.W.Fast.tw12563942051412417395 ((bQ.drop 12).take 1) envQ) ⟨26, 0, 26, 8⟩ (S11 w.params os) = some (.ok .next, ⟨27, 0, 27, 6⟩, S12 w.params os) :=
  row_cases (P := fun w => ∀ os : OsState, ev (MQ w) 100000 Flow Γ1 (PySem.W.Fast.tw12563942051412417395 ((bQ.drop 12).take 1) envQ) ⟨26, 0, 26, 8⟩ (S11 w.params os) = some (.ok .next, ⟨27, 0, 27, 6⟩, S12 w.params os)) (fun b c w => ev_B b c w) w

@[irreducible] noncomputable def A1 : Around := ⟨Γ1.handled, frameCount Γ1.below + Γ1.code.weight, none, none, Γ1.units⟩
theorem Γ1_in : Γ1.In A1 := by unfold A1; exact ⟨rfl, Nat.le_refl _, (fun _ h => nomatch h), (fun _ h => nomatch h), Nat.le_refl _⟩

theorem execs_assign {M : Model} {Γ : Ctx} {env : Env} {x : Str} {px pos : Pos} {value : Expr} {rest : List Stmt} {Q : Flow → Pos → Shared → Prop} {p : Pos} {s s1 : Shared} {v : Value}
    (hs : swapsWith value (some (.Name x px)) pos.line env = pure false)
    (hv : ∀ p, Sem.wp M Γ (eval value env) (fun v' _ s' => v' = v ∧ s' = s1) (fun _ _ _ => False) p s)
    (hD : ∀ q, Sem.wp M Γ ((do standAt px; bindName env x v; pure Flow.next) >>= fun f => match f with
      | .next => execs rest env
      | f => pure f) Q (fun _ _ _ => False) q s1) :
    Sem.wp M Γ (execs (.Assign [.Name x px] value pos :: rest) env) Q (fun _ _ _ => False) p s := by
  rw [execs_cons, exec_Assign_Name (hs := hs), Sem.wp_bind', Sem.wp_bind']
  show Sem.wp M Γ (do let v ← eval value env; standAt px; bindName env x v; pure Flow.next) _ _ _ _
  rw [Sem.wp_bind']
  refine Sem.wp_mono _ _ _ (fun v' p' s' h => ?_) (fun _ _ _ x => x) _ _ (hv _)
  obtain ⟨rfl, rfl⟩ := h
  have := hD p'
  rw [Sem.wp_bind'] at this
  exact this

theorem wp_D (w : World) (os : OsState) (q : Pos) : Sem.wp (model p0 w) Γ1 ((do standAt ⟨30, 0, 30, 13⟩; bindName envQ "b3_exceptions" (.ref 102); pure Flow.next) >>= fun f => match f with
      | .next => execs (bQ.drop 15) envQ
      | f => pure f) (fun f p s => f = .next ∧ s = (S25 w.params os).abs) (fun _ _ _ => False) q (S14p w.params os).abs := by
  have hD := ev_wp (ev_D w os q) (Q := fun f p s => f = .next ∧ s = (S25 w.params os).abs) (E := fun _ _ _ => False) ⟨rfl, rfl⟩
  rw [← PySem.W.Fast.te12563942051412417395] at hD
  exact hD

theorem wp_V (w : World) (os : OsState) (q : Pos) : Sem.wp (model p0 w) Γ1 (eval (.Dict b3Keys b3Vals ⟨30, 16, 30, 8704⟩) envQ) (fun v _ s => v = .ref 102 ∧ s = (S14p w.params os).abs) (fun _ _ _ => False) q (S13 w.params os).abs := by
  have h : wpAny (model p0 w) A1 (eval (.Dict b3Keys b3Vals ⟨30, 16, 30, 8704⟩) envQ) (fun v s => v = .ref 102 ∧ s = (S14p w.params os).abs) (fun _ _ => False) (S13 w.params os).abs := by
    refine wp_b3 w os A1 (fun _ _ => False) (fun v s => v = .ref 102 ∧ s = (S14p w.params os).abs) ?_
    exact And.intro rfl rfl
  exact h Γ1 q Γ1_in

theorem execs_four (w : World) (os : OsState) : Sem.wp (model p0 w) Γ1 (execs (bQ.drop 14) envQ) (fun f p s => f = .next ∧ s = (S25 w.params os).abs) (fun _ _ _ => False) ⟨28, 0, 29, 30⟩ (S13 w.params os).abs := by
  rw [st14_eq]
  exact execs_assign rfl (wp_V w os) (wp_D w os)

theorem execs_chain {M : Model} {Γ : Ctx} {env : Env} {pre : Sem Unit} {a b c d : List Stmt} {p p1 p2 p3 : Pos} {s s1 s2 s3 : Shared} {Q : Flow → Pos → Shared → Prop}
    (hA : Sem.wp M Γ pre (fun _ p' s' => Sem.wp M Γ (execs a env) (fun f p s => f = .next ∧ p = p1 ∧ s = s1) (fun _ _ _ => False) p' s') (fun _ _ _ => False) p s)
    (hB : Sem.wp M Γ (execs b env) (fun f p s => f = .next ∧ p = p2 ∧ s = s2) (fun _ _ _ => False) p1 s1)
    (hC : Sem.wp M Γ (execs c env) (fun f p s => f = .next ∧ p = p3 ∧ s = s3) (fun _ _ _ => False) p2 s2)
    (hD : Sem.wp M Γ (execs d env) Q (fun _ _ _ => False) p3 s3) :
    Sem.wp M Γ (do pre; execs (a ++ (b ++ (c ++ d))) env) Q (fun _ _ _ => False) p s := by
  rw [Sem.wp_bind']
  refine Sem.wp_mono _ _ _ (fun _ p' s' ha => ?_) (fun _ _ _ x => x) _ _ hA
  refine wp_execs_append (Sem.wp_mono _ _ _ (fun f p' s' hf => ?_) (fun _ _ _ x => x) _ _ ha)
  obtain ⟨rfl, rfl, rfl⟩ := hf
  refine ⟨rfl, wp_execs_append (Sem.wp_mono _ _ _ (fun f p' s' hf => ?_) (fun _ _ _ x => x) _ _ hB)⟩
  obtain ⟨rfl, rfl, rfl⟩ := hf
  refine ⟨rfl, wp_execs_append (Sem.wp_mono _ _ _ (fun f p' s' hf => ?_) (fun _ _ _ x => x) _ _ hC)⟩
  obtain ⟨rfl, rfl, rfl⟩ := hf
  exact ⟨rfl, hD⟩

theorem wp_A (w : World) (os : OsState) : Sem.wp (model p0 w) Γ1 (blockStart bQ envQ) (fun _ p' s' => Sem.wp (model p0 w) Γ1 (execs (bQ.take 12) envQ) (fun f p s => f = .next ∧ p = ⟨26, 0, 26, 8⟩ ∧ s = (S11 w.params os).abs) (fun _ _ _ => False) p' s') (fun _ _ _ => False) default (Spre w.params os).abs := by
  have hA := ev_wp (ev_A w os) (Q := fun f p s => f = .next ∧ p = ⟨26, 0, 26, 8⟩ ∧ s = (S11 w.params os).abs) (E := fun _ _ _ => False) ⟨rfl, rfl, rfl⟩
  rw [← PySem.W.Fast.te12563942051412417395, ← PySem.W.Fast.te1066825118222455980, Sem.wp_bind'] at hA
  exact hA
theorem wp_B (w : World) (os : OsState) : Sem.wp (model p0 w) Γ1 (execs ((bQ.drop 12).take 1) envQ) (fun f p s => f = .next ∧ p = ⟨27, 0, 27, 6⟩ ∧ s = (S12 w.params os).abs) (fun _ _ _ => False) ⟨26, 0, 26, 8⟩ (S11 w.params os).abs := by
  have hB := ev_wp (ev_B' w os) (Q := fun f p s => f = .next ∧ p = ⟨27, 0, 27, 6⟩ ∧ s = (S12 w.params os).abs) (E := fun _ _ _ => False) ⟨rfl, rfl, rfl⟩
  rw [← PySem.W.Fast.te12563942051412417395] at hB
  exact hB
theorem wp_C (w : World) (os : OsState) : Sem.wp (model p0 w) Γ1 (execs ((bQ.drop 13).take 1) envQ) (fun f p s => f = .next ∧ p = ⟨28, 0, 29, 30⟩ ∧ s = (S13 w.params os).abs) (fun _ _ _ => False) ⟨27, 0, 27, 6⟩ (S12 w.params os).abs := by
  have hC := ev_wp (ev_C w os) (Q := fun f p s => f = .next ∧ p = ⟨28, 0, 29, 30⟩ ∧ s = (S13 w.params os).abs) (E := fun _ _ _ => False) ⟨rfl, rfl, rfl⟩
  rw [← PySem.W.Fast.te12563942051412417395] at hC
  exact hC

theorem execs_all (w : World) (os : OsState) : Sem.wp (model p0 w) Γ1 (do blockStart bQ envQ; execs bQ envQ) (fun f p s => f = .next ∧ s = (S25 w.params os).abs) (fun _ _ _ => False) default (Spre w.params os).abs := by
  have h := execs_chain (wp_A w os) (wp_B w os) (wp_C w os) (execs_four w os)
  rw [← bQ_eq] at h
  exact h

theorem wp_body (w : World) (os : OsState) (R : Result → Shared → Prop) (hR : R (.ok .next) (S25 w.params os).abs) : wpCode (model p0 w) Γ1 R default (Spre w.params os).abs := by
  rw [wpCode_iff_wp]
  show Sem.wp (model p0 w) Γ1 ((blockStart bQ envQ).bind (fun _ => ((execs bQ envQ).onRaise (leaving envQ)).bind fun f => (Sem.pure (Fin.done f) : Sem Fin))) _ _ default _
  have h := execs_all w os
  rw [Sem.wp_bind'] at h
  rw [Sem.wp_bind]
  refine Sem.wp_mono _ _ _ (fun _ p' s' ha => ?_) (fun _ _ _ x => x.elim) _ _ h
  rw [Sem.wp_bind, Sem.wp_onRaise]
  refine Sem.wp_mono _ _ _ (fun f p' s' hf => ?_) (fun _ _ _ x => x.elim) _ _ ha
  obtain ⟨rfl, rfl⟩ := hf
  rw [Sem.wp_pure]
  exact hR

theorem wp_top (w : World) (os : OsState) (Q : Fin → Pos → Shared → Prop) (E : Value → Pos → Shared → Prop) (hQ : Q (.done (.ret .none)) default (S25 w.params os).abs) : Sem.wp (model p0 w) Γ0 (topStub p0).cur Q E default (S0 w.params os).abs := by
  have hp := ev_wp (ev_pre w os) (Q := fun x p s => x = (.ref 30, 31) ∧ p = default ∧ s = (Spre w.params os).abs) (E := fun _ _ _ => False) ⟨rfl, rfl, rfl⟩
  rw [← PySem.W.Fast.te17154629097778926822, ← PySem.W.Fast.te12822647523644345616, Sem.wp_bind'] at hp
  show Sem.wp (model p0 w) Γ0 (do
      let code ← moduleCode p0.main
      let frame ← newBodyFrame code mainNs mainNs
      let _ ← run (.body (behindTheImports p0) { scope := p0.main.scope, locals := mainNs, globals := mainNs, cells := [], code, frame := some frame })
      ret .none) _ _ _ _
  rw [Sem.wp_bind']
  refine Sem.wp_mono _ _ _ (fun c p' s' hc => ?_) (fun _ _ _ x => x.elim) _ _ hp
  rw [Sem.wp_bind'] at hc ⊢
  refine Sem.wp_mono _ _ _ (fun f p' s' hf => ?_) (fun _ _ _ x => x.elim) _ _ hc
  rw [Sem.wp_pure'] at hf
  obtain ⟨e, rfl, rfl⟩ := hf
  obtain ⟨rfl, rfl⟩ := Prod.mk.inj e
  rw [Sem.wp_bind', Sem.wp_run]
  have eb : behindTheImports p0 = bQ := by unfold bQ; rfl
  rw [eb]
  refine wp_body w os _ ?_
  show Sem.wp _ _ (ret .none) _ _ _ _
  unfold ret
  rw [Sem.wp_pure']
  exact hQ
end Mine
end

section
set_option maxRecDepth 100000
namespace Mine
open PySem PySem.W PySem.Calls PyProof.Rows

theorem gens_S25 (P : Params) (os : OsState) : (S25 P os).abs.gens = #[] := by unfold S25; rfl
theorem bare_S25 (P : Params) (os : OsState) : leftWithCleanup (S25 P os).abs.gens = false := by rw [gens_S25]; simp [leftWithCleanup]
theorem os_S25 (P : Params) (os : OsState) : (S25 P os).abs.os = os := by unfold S25; rfl
theorem os_S0 (P : Params) (os : OsState) : (S0 P os).abs.os = os := by unfold S0; rfl
theorem life_S25 (P : Params) (os : OsState) : (S25 P os).abs.heap.life = {} := by unfold S25; rfl
theorem life_S0 (P : Params) (os : OsState) : (S0 P os).abs.heap.life = {} := by unfold S0; rfl

theorem run_top (w : World) (os : OsState) (hz : (S0 w.params os).abs.asleep) :
    ∃ n t, schedN (denote table) p0 w n (.single (S0 w.params os).abs (topStub p0)) = .running (.single (S25 w.params os).abs t) ∧ through t = true := by
  have h1 : Sem.wp (model p0 w) (Ctx.of (.builtin "claim.caller" {}) []) (topStub p0).cur (fun fin _ s' => (fin = .done (.ret .none)) ∧ s' = (S25 w.params os).abs) (fun _ _ _ => False) default (S0 w.params os).abs :=
    wp_top w os _ _ ⟨rfl, rfl⟩
  have h2 : Sem.wp (model p0 w) ⟨.builtin "claim.caller" {}, none, none, [], none⟩ (topStub p0).cur (Sem.finPost (model p0 w) ⟨.builtin "claim.caller" {}, none, none, [], none⟩ fun r s' => True ∧ leftWithCleanup s'.gens = false)
      (fun e _ s' => True ∧ leftWithCleanup s'.gens = false) default (S0 w.params os).abs :=
    wp_top w os _ _ ⟨trivial, bare_S25 _ _⟩
  obtain ⟨n₁, r, s₁, hn₁, -⟩ := (wp_iff_halts (M := model p0 w) (topStub p0).cur (fun _ _ => True) default (S0 w.params os).abs).mp h2
  obtain ⟨s₂, hr₂, -, hc⟩ := runNI_real (denote table) p0 w hn₁ (outcomeOf_ends r)
  have hne : ∀ k s₃, runN (denote table) p0 w k (S0 w.params os).abs ⟨(topStub p0).cur, .builtin "claim.caller" {}, default, []⟩ ≠ .halted (.unsupported "lifetime:generator-with-cleanup-left-suspended") s₃ := by
    intro k s₃ hk
    have a := runN_mono (denote table) p0 w n₁ k _ _ _ s₂ hr₂
    have b := runN_mono (denote table) p0 w k n₁ _ _ _ s₃ hk
    rw [Nat.add_comm, b] at a
    injection a with a1 _
    have := outcomeOf_ends r
    rw [← a1] at this
    exact absurd this (by simp [Outcome.ends])
  obtain ⟨n, s', σ, p', leaf, hrun, hf, hl⟩ := wp_reaches (M := model p0 w) h1
  rcases hl with ⟨a, rfl, rfl, rfl⟩ | ⟨e, _, hF⟩
  · obtain rfl := Shared.eq_of_forget_eq hf (gens_S25 _ _)
    refine ⟨n, ⟨.pure (.done (.ret .none)), .builtin "claim.caller" {}, p', []⟩, ?_, rfl⟩
    have e := schedN_eq_runN (denote table) p0 w (S0 w.params os).abs ⟨(topStub p0).cur, .builtin "claim.caller" {}, default, []⟩ hz ⟨hc, hne⟩ n
    have hrun' : runN (denote table) p0 w n (S0 w.params os).abs ⟨(topStub p0).cur, .builtin "claim.caller" {}, default, []⟩ = .running (S25 w.params os).abs ⟨.pure (.done (.ret .none)), .builtin "claim.caller" {}, p', []⟩ := hrun
    rw [hrun'] at e
    exact e
  · exact hF.elim
end Mine
end

section
set_option maxRecDepth 100000
namespace Mine
open PySem PySem.W PySem.Calls PyProof.Rows

theorem same_low (P : Params) : ∀ b : Nat, b < 28 → b ≠ 2 → b ≠ 3 → ∃ o, (T0 P).get b = some o ∧ (T25 P).get b = some o
  | 0, _, _, _ => ⟨boot_o_0 P, by kernel_rfl, by kernel_rfl⟩
  | 1, _, _, _ => ⟨o1 P, by kernel_rfl, by kernel_rfl⟩
  | 4, _, _, _ => ⟨boot_o_4 P, by kernel_rfl, by kernel_rfl⟩
  | 5, _, _, _ => ⟨boot_o_5 P, by kernel_rfl, by kernel_rfl⟩
  | 6, _, _, _ => ⟨boot_o_6 P, by kernel_rfl, by kernel_rfl⟩
  | 7, _, _, _ => ⟨boot_o_7 P, by kernel_rfl, by kernel_rfl⟩
  | 8, _, _, _ => ⟨boot_o_8 P, by kernel_rfl, by kernel_rfl⟩
  | 9, _, _, _ => ⟨boot_o_9 P, by kernel_rfl, by kernel_rfl⟩
  | 10, _, _, _ => ⟨boot_o_10 P, by kernel_rfl, by kernel_rfl⟩
  | 11, _, _, _ => ⟨o11 P, by kernel_rfl, by kernel_rfl⟩
  | 12, _, _, _ => ⟨o12 P, by kernel_rfl, by kernel_rfl⟩
  | 13, _, _, _ => ⟨o13 P, by kernel_rfl, by kernel_rfl⟩
  | 14, _, _, _ => ⟨o14 P, by kernel_rfl, by kernel_rfl⟩
  | 15, _, _, _ => ⟨o15 P, by kernel_rfl, by kernel_rfl⟩
  | 16, _, _, _ => ⟨o16 P, by kernel_rfl, by kernel_rfl⟩
  | 17, _, _, _ => ⟨o17 P, by kernel_rfl, by kernel_rfl⟩
  | 18, _, _, _ => ⟨o18 P, by kernel_rfl, by kernel_rfl⟩
  | 19, _, _, _ => ⟨o19 P, by kernel_rfl, by kernel_rfl⟩
  | 20, _, _, _ => ⟨o20 P, by kernel_rfl, by kernel_rfl⟩
  | 21, _, _, _ => ⟨o21 P, by kernel_rfl, by kernel_rfl⟩
  | 22, _, _, _ => ⟨o22 P, by kernel_rfl, by kernel_rfl⟩
  | 23, _, _, _ => ⟨o23 P, by kernel_rfl, by kernel_rfl⟩
  | 24, _, _, _ => ⟨o24 P, by kernel_rfl, by kernel_rfl⟩
  | 25, _, _, _ => ⟨o25 P, by kernel_rfl, by kernel_rfl⟩
  | 26, _, _, _ => ⟨o26 P, by kernel_rfl, by kernel_rfl⟩
  | 27, _, _, _ => ⟨o27 P, by kernel_rfl, by kernel_rfl⟩
  | 2, _, h, _ => absurd rfl h
  | 3, _, _, h => absurd rfl h
  | n + 28, h, _, _ => absurd h (by (first | lia | omega))

theorem kept_low {P : Params} {b : Nat} {o : Obj} (h : (absHeap (T0 P) 28 {}).get? b = some o) (h2 : b ≠ 2) (h3 : b ≠ 3) : (absHeap (T25 P) 207 {}).get? b = some o := by
  have hb : b < 28 := by have := Heap.lt_size h; rwa [absHeap_size] at this
  obtain ⟨o', e1, e2⟩ := same_low P b hb h2 h3
  rw [abs_get hb e1] at h
  rw [abs_get (Nat.lt_trans hb (by decide)) e2]
  exact h

theorem behindQ (w : World) : (∃ s, AfterRun (opening p0) w s) ∧ ∀ s, AfterRun (opening p0) w s → ∃ s₀, fenceModules? p0 s = some s₀ ∧ s₀.gens = #[] ∧ ∃ os, TopRan p0 w s₀ (S25 w.params os).abs ∧ (S25 w.params os).abs.asleep ∧
      (S25 w.params os).abs.heap.isNs mainGlobals = true ∧ Ground qQ looseQ [] (fun _ _ => True) w (S25 w.params os).abs ((S25 w.params os).abs.heap.nsMap mainGlobals) ((S25 w.params os).abs.heap.nsMap builtinsNs) (S25 w.params os).abs.heap := by
  have h := ev_open w
  rw [← table_eq_tree] at h
  obtain ⟨s₀, h2, e⟩ := Option.map_eq_some_iff.mp h
  obtain ⟨s, h4, h5⟩ := Option.bind_eq_some_iff.mp h2
  have A := AfterImport.of_importEnds h4
  refine ⟨⟨s, A⟩, fun s' hs' => ?_⟩
  obtain rfl : s' = s := AfterImport.unique hs' A
  have z : s₀.asleep := Shared.asleep_of_life (fence_lifeW h5) A.life
  obtain ⟨hp, gs, d, k, os⟩ := s₀
  obtain ⟨rfl, rfl, rfl, rfl⟩ : hp = absHeap (T0 w.params) 28 {} ∧ gs = #[] ∧ d = {} ∧ k = 276 := by simpa using e
  have e0 : (S0 w.params os).abs = ⟨absHeap (T0 w.params) 28 {}, #[], {}, 276, os⟩ := by unfold S0; rfl
  rw [← e0] at z
  obtain ⟨n, t, hrun, hth⟩ := run_top w os z
  have l1 := congrFun (looks1 w) os
  have l2 := congrFun (looks2 w) os
  obtain ⟨l1, hlk⟩ := Bool.and_eq_true_iff.mp l1
  obtain ⟨l1, hgd⟩ := Bool.and_eq_true_iff.mp l1
  obtain ⟨hs, hnb⟩ := Bool.and_eq_true_iff.mp l1
  obtain ⟨G, -, g1, g2, g3, g4, g5⟩ := ground_of_open (w := w) (XP := fun _ _ => True) (fun _ _ => trivial) looks3 l2
  have eh : (S25 w.params os).abs.heap = absHeap (T25 w.params) 207 {} := by unfold S25; rfl
  have z1 : (S25 w.params os).abs.asleep := Shared.asleep_of_life ((life_S25 _ _).trans (life_S0 _ os).symm) z
  refine ⟨_, h5, rfl, os, ⟨⟨n, t, by rw [← e0]; exact hrun, hth⟩, (life_S25 _ _).trans rfl, ?_, fun b o hb hn => ?_,
        g2, statics_of_ok hs, g3, g4, g5, gens_of_done hgd, names_of_bound hnb, laid_of_kept hlk⟩, z1, g1, G⟩
  · exact Shared.rest_eq (os_S25 _ _)
  · rw [eh]
    exact kept_low hb (fun q => hn (.inr (.inl q))) (fun q => hn (.inl q))

/-- everything that the top left stands as it was left -/
noncomputable def Stays (P : Params) (h : Heap) : Prop := ∀ b o, (absHeap (T25 P) 207 {}).get? b = some o → h.get? b = some o

noncomputable abbrev rowQ : OpenRow := PySem.Challenge.rw_ti0028_01.row
noncomputable abbrev R0 : RowW := rowQ.toRowW
end Mine
end

section
set_option maxRecDepth 100000
namespace Mine
open PySem PySem.W PySem.Calls PyProof.Rows

theorem recQ_some : (defOf qQ "law").isSome = true := by kernel_rfl
noncomputable def recQ : DefRec × List (Str × Expr) := (defOf qQ "law").get recQ_some
theorem recQ_ok : defOf qQ "law" = some recQ := (Option.some_get recQ_some).symm
theorem recQ_the : p0.theDef "law" = some (recQ.1.params, recQ.1.body, recQ.1.scope) := by kernel_rfl
theorem recQ_kw : kwWritten? recQ.1.params.kwonlyargs recQ.1.params.kw_defaults = some recQ.2 := by kernel_rfl

theorem holds_of_call0 (said : rowQ.wellSaid = true) (hw : R0.promised)
    (call : ∀ (w : World) (s₀ s₁ : Shared), Stays w.params s₁.heap → s₁.gens = #[] → 0 < s₁.toks → ∀ (args : List WData) (vs : List Value) (as : List Addr),
      R0.claim.pre args = true → WData.layableAll args = true → ReadsAllW [] (classAt s₀.heap) s₁.heap vs args as → WellAll w.params s₁.heap vs args → (∀ a ∈ as, (a == sysModules) = false) →
        wpAny (model p0 w) callerA (PySem.call (.ref 206) vs) (fun v s' => GoodW R0.claim (classAt s₀.heap) (ExcName.means s₀.heap) args s₁ (.ok (.ret v)) s')
          (fun e s' => GoodW R0.claim (classAt s₀.heap) (ExcName.means s₀.heap) args s₁ (.error e) s') s₁) : rowQ.Holds := by
  have hb : R0.prog.bare := ⟨rfl, rfl, rfl, rfl, rfl, by decide +kernel⟩
  have o1 : opensWell R0.prog = true := by kernel_rfl
  obtain ⟨hsame, hu, ha, hap, hm⟩ := frees_parts (r := R0) (by kernel_rfl)
  refine ⟨said, hw, ⟨hb, o1, rfl⟩, hw.witness, fun w => ⟨(behindQ w).1, fun s' hs' => ?_⟩⟩
  obtain ⟨s₀, hf, hg0, os, hT, hz, hg, G⟩ := (behindQ w).2 s' hs'
  have hT' := hT
  have RF : RecFacts R0.records (S25 w.params os).abs.heap := recFacts_nil rfl
  refine ⟨s₀, hf, hg0, _, hT, fun n hn => ?_, RF.1, RF.2.1, ?_⟩
  · obtain rfl : n = R0.name := by split at hn <;> simp_all
    exact pinned_of_view hg G recQ_ok recQ_the recQ_kw
  · refine ClaimW.callFrom_of_specG (c := R0.claim) hz (gens_S25 _ _) fun args hpre hlay ord hord => ?_
    obtain ⟨⟨vs, s₁⟩, hlaid⟩ := Option.isSome_iff_exists.mp (layAllW_isSome (P := w.params) (ord := ord) G.has args R0.args (S25 w.params os).abs (pre_splitW hpre).1)
    have keeps := layAllW_keeps _ _ _ hlaid
    have hal := layAllW_rest _ _ _ hlaid
    obtain ⟨as, hrd, hin, hold⟩ := reads_layAllW hord _ _ _ hlaid hlay s₁.heap (fun _ _ e => e)
    have L : Laid R0.records w (S25 w.params os).abs s₁ args vs as := ⟨⟨ord, hord, hlaid⟩, hrd, hin, hold, keeps, hal.1.trans (gens_S25 _ _), hal.2.2.1⟩
    have G₁ := G.keeps (fun _ _ _ h _ => h) keeps
    have hst : Stays w.params s₁.heap := fun b o e => keeps b o (by
      have eh : (S25 w.params os).abs.heap = absHeap (T25 w.params) 207 {} := by unfold S25; rfl
      rw [eh]; exact e)
    have htk : 0 < s₁.toks := by
      have h2 := (layAllW_grows _ _ _ hlaid).toks
      have h3 : (S25 w.params os).abs.toks = 2506 := by unfold S25; rfl
      rw [h3] at h2; exact Nat.lt_of_lt_of_le (by decide) h2
    have h := call w (S25 w.params os).abs s₁ hst L.gens htk args vs as hpre hlay L.reads L.well (L.low G.low)
    have hi := ident_freeW hu ha hap
    have hwi : R0.claim.within = [] := rfl
    have hname : ((S25 w.params os).abs.heap.nsMap mainGlobals) R0.name = some (.ref 206) := by unfold S25; kernel_rfl
    have ht : wpAny (model p0 w) callerA (do match ← nsGet mainNs R0.name with
        | some f => do ret (← PySem.call f vs)
        | none => unsupported "claim.caller:no-such-global" : Sem Fin) (fun fin s' => ∃ v, fin = .done (.ret v) ∧ GoodW R0.claim (classAt (S25 w.params os).abs.heap) (ExcName.means (S25 w.params os).abs.heap) args s₁ (.ok (.ret v)) s')
        (fun e s' => GoodW R0.claim (classAt (S25 w.params os).abs.heap) (ExcName.means (S25 w.params os).abs.heap) args s₁ (.error e) s') s₁ :=
      wpAny_bind (wpAny_nsGet G₁.T.g (by rw [hname]; exact wpAny_bind (wpAny_mono h (fun _ _ x => wpAny_pure ⟨_, rfl, x⟩) fun _ _ x => x)))
    refine ⟨vs, s₁, hlaid, wpAny_mono ht (fun fin s' g => ?_) fun e s' g => ?_⟩
    · obtain ⟨v, rfl, g⟩ := g
      have z := g.toG.laid (c := R0.claim) hsame hwi hi L
      exact ⟨_, rfl, z.1, z.2.1, z.2.2, fun q => ⟨namesKept_of hT' hg _ keeps g.toG.2.1.old, noTable (R := R0.records) rfl q⟩⟩
    · have z := g.toG.laid (c := R0.claim) hsame hwi hi L
      exact ⟨z.1, z.2.1, z.2.2, fun q => ⟨namesKept_of hT' hg _ keeps g.toG.2.1.old, noTable (R := R0.records) rfl q⟩⟩

theorem promised_Q : R0.promised := ⟨[.list []], by decide +kernel, by decide +kernel⟩

theorem holds_of_call (said : rowQ.wellSaid = true)
    (call : ∀ (w : World) (s₁ : Shared) (L : Addr) (xs : List Value) (ns : List Int), Stays w.params s₁.heap → s₁.gens = #[] → 0 < s₁.toks → s₁.heap.IsList L xs.toArray → IntsAre xs ns → ns.length ≤ 63 →
        wpAny (model p0 w) callerA (PySem.call (.ref 206) [.ref L]) (fun v s' => v = .bool true ∧ (∀ b o, s₁.heap.get? b = some o → s'.heap.get? b = some o) ∧ s'.os = s₁.os ∧ s'.gens = #[]) (fun _ _ => False) s₁) : rowQ.Holds := by
  refine holds_of_call0 said promised_Q fun w s₀ s₁ hst hg htk args vs as hpre hlay hrd hwl hlo => ?_
  wrow_args hpre hlay hrd hwl hlo
  rename_i ns _ _ _ _ _ _ _ L xs _ hL _ _ _ hI _ hc _
  refine wpAny_mono (call w s₁ L xs ns hst hg htk hL hI (by omega)) (fun v s' h => ?_) fun _ _ h => h.elim
  obtain ⟨rfl, h1, h2, h3⟩ := h
  exact ⟨.inl ⟨_, .bool true, [], rfl, fun _ => rfl, .bool true, by kernel_rfl, fun _ => ⟨.nil, fun _ ha => nomatch ha⟩⟩, h1, h2, h3⟩

section
set_option maxHeartbeats 0
theorem said_fenced : sreFenced PySem.Challenge.rw_ti0028_01.row.prog.main = true := by kernel_rfl
theorem said_names : namesResolve PySem.Challenge.rw_ti0028_01.row.prog = true := by kernel_rfl
theorem said_looked : lookedIntoSs (moduleNames PySem.Challenge.rw_ti0028_01.row.prog.main.body) PySem.Challenge.rw_ti0028_01.row.prog.main.body = true := by kernel_rfl
theorem said_bound : (PySem.Challenge.rw_ti0028_01.row.prog.boundNames.all fun n => !worldNames.contains n) = true := by kernel_rfl
theorem said_meet : namesMeet PySem.Challenge.rw_ti0028_01.row.prog PySem.Challenge.rw_ti0028_01.row.prog.main.body (fun _ n => attrL n) = true := by kernel_rfl
theorem said_looks : looksOpen PySem.Challenge.rw_ti0028_01.row.prog = true := by
  unfold looksOpen
  repeat' (with_reducible refine look_both ?_ ?_)
  · exact said_fenced
  · rw [said_looked]; exact Bool.or_true _
  · exact said_names
  · exact said_bound
  · kernel_rfl
  · exact said_meet
theorem said_row : PySem.Challenge.rw_ti0028_01.row.wellSaid = true := by
  unfold OpenRow.wellSaid OpenRow.partSaid
  repeat' (with_reducible refine look_both ?_ ?_)
  · exact said_looks
  all_goals kernel_rfl
theorem law_said : PySem.Challenge.rw_ti0028_01.wellSaid = true := by
  unfold OpenLaw.wellSaid
  repeat' (with_reducible refine look_both ?_ ?_)
  · exact said_row
  all_goals kernel_rfl
end

set_option maxHeartbeats 4000000 in
theorem law_of_call
    (call : ∀ (w : World) (s₁ : Shared) (L : Addr) (xs : List Value) (ns : List Int), Stays w.params s₁.heap → s₁.gens = #[] → 0 < s₁.toks → s₁.heap.IsList L xs.toArray → IntsAre xs ns → ns.length ≤ 63 →
        wpAny (model p0 w) callerA (PySem.call (.ref 206) [.ref L]) (fun v s' => v = .bool true ∧ (∀ b o, s₁.heap.get? b = some o → s'.heap.get? b = some o) ∧ s'.os = s₁.os ∧ s'.gens = #[]) (fun _ _ => False) s₁) : PySem.Challenge.rw_ti0028_01.Holds := by
  exact holds_law law_said fun said => holds_of_call said call
end Mine
end

section
namespace Mine
open PySem PySem.W PySem.Calls PyProof.Rows

/-! plain data, and what bears it in a heap -/
inductive PA where
  | none
  | bool (b : Bool)
  | int (i : Int)
  | str (s : List Nat)
  | strGE (s : List Nat) (m : Nat)
  | strLT (s : List Nat) (m : Nat)
inductive PV where
  | at (x : PA)
  | list (l : List PA)
  | tup (l : List PA)
  | tlist (l : List (List PA))
  | rng (a b c : Int)
  | raw (v : Value)
  | fl (B : Heap) (l : List PA)
  | la (a : Addr) (l : List PA)
  | isl (l : List PA)

noncomputable def T_ (l : List Nat) : Str := ⟨l.toArray⟩
inductive Atom : Value → PA → Prop
  | none : Atom .none .none
  | bool (b : Bool) : Atom (.bool b) (.bool b)
  | int (i : Int) (t : Tok) : Atom (.int i t) (.int i)
  | str (l : List Nat) (t : Tok) : Atom (.str (T_ l) t) (.str l)
  | strGE (l : List Nat) (t m : Nat) : m ≤ t → Atom (.str (T_ l) t) (.strGE l m)
  | strLT (l : List Nat) (t m : Nat) : t ≠ 0 → t < m → Atom (.str (T_ l) t) (.strLT l m)
theorem Atom.ofStr (x : Str) (t : Tok) : Atom (.str x t) (.str x.cps.toList) := by
  obtain ⟨⟨l⟩⟩ := x
  exact .str l t

/-- a tuple of atoms that lies off S -/
noncomputable def TupAt (S : List Addr) (h : Heap) (v : Value) (l : List PA) : Prop := ∃ a vs, v = .ref a ∧ a ∉ S ∧ h.IsTuple a vs ∧ Paired Atom vs.toList l
inductive Rep (S : List Addr) (h : Heap) : Value → PV → Prop
  | at {v x} : Atom v x → Rep S h v (.at x)
  | list {a vs l} : a ∉ S → h.PlainList a vs → Paired Atom vs.toList l → Rep S h (.ref a) (.list l)
  | tup {v l} : TupAt S h v l → Rep S h v (.tup l)
  | tlist {a vs l} : a ∉ S → h.PlainList a vs → Paired (TupAt S h) vs.toList l → Rep S h (.ref a) (.tlist l)
  | rng {r a b c t u v} : r ∉ S → IsRange h r a b c t u v → Rep S h (.ref r) (.rng a b c)
  | raw {v} : Rep S h v (.raw v)
  | fl {a vs l B} : a ∉ S → h.PlainList a vs → Paired Atom vs.toList l → B.get? a = none → Rep S h (.ref a) (.fl B l)
  | la {a vs l} : a ∉ S → h.PlainList a vs → Paired Atom vs.toList l → Rep S h (.ref a) (.la a l)
  | isl {a vs l} : a ∉ S → h.IsList a vs → Paired Atom vs.toList l → Rep S h (.ref a) (.isl l)

theorem Atom.cNone {motive : (v : Value) → Atom v .none → Prop} {v : Value} (r : Atom v .none) (none : motive .none .none) : motive v r := by cases r; exact none
theorem Atom.cBool {b : Bool} {motive : (v : Value) → Atom v (.bool b) → Prop} {v : Value} (r : Atom v (.bool b)) (bool : motive (.bool b) (.bool b)) : motive v r := by cases r; exact bool
theorem Atom.cInt {i : Int} {motive : (v : Value) → Atom v (.int i) → Prop} {v : Value} (r : Atom v (.int i)) (int : ∀ t, motive (.int i t) (.int i t)) : motive v r := by cases r; exact int _
theorem Atom.cStr {l : List Nat} {motive : (v : Value) → Atom v (.str l) → Prop} {v : Value} (r : Atom v (.str l)) (str : ∀ t, motive (.str (T_ l) t) (.str l t)) : motive v r := by cases r; exact str _
theorem Rep.cAt {S : List Addr} {h : Heap} {v : Value} {x : PA} {motive : Rep S h v (.at x) → Prop} (r : Rep S h v (.at x)) («at» : ∀ a : Atom v x, motive (.at a)) : motive r := by cases r with | «at» a => exact «at» a
theorem Rep.cTup {S : List Addr} {h : Heap} {v : Value} {l : List PA} {motive : Rep S h v (.tup l) → Prop} (r : Rep S h v (.tup l)) (tup : ∀ a : TupAt S h v l, motive (.tup a)) : motive r := by cases r with | tup a => exact tup a
theorem Rep.cList {S : List Addr} {h : Heap} {l : List PA} {motive : (v : Value) → Rep S h v (.list l) → Prop} {v : Value} (r : Rep S h v (.list l))
    (list : ∀ {a vs} (hs : a ∉ S) (hl : h.PlainList a vs) (hp : Paired Atom vs.toList l), motive (.ref a) (.list hs hl hp)) : motive v r := by cases r with | list hs hl hp => exact list hs hl hp
theorem Rep.cTlist {S : List Addr} {h : Heap} {l : List (List PA)} {motive : (v : Value) → Rep S h v (.tlist l) → Prop} {v : Value} (r : Rep S h v (.tlist l))
    (tlist : ∀ {a vs} (hs : a ∉ S) (hl : h.PlainList a vs) (hp : Paired (TupAt S h) vs.toList l), motive (.ref a) (.tlist hs hl hp)) : motive v r := by cases r with | tlist hs hl hp => exact tlist hs hl hp
theorem Rep.cRng {S : List Addr} {h : Heap} {a b c : Int} {motive : (v : Value) → Rep S h v (.rng a b c) → Prop} {v : Value} (r : Rep S h v (.rng a b c))
    (rng : ∀ {r t u v} (hs : r ∉ S) (hr : IsRange h r a b c t u v), motive (.ref r) (.rng hs hr)) : motive v r := by cases r with | rng hs hr => exact rng hs hr
theorem Rep.cFl {S : List Addr} {h : Heap} {B : Heap} {l : List PA} {motive : (v : Value) → Rep S h v (.fl B l) → Prop} {v : Value} (r : Rep S h v (.fl B l))
    (fl : ∀ {a vs} (hs : a ∉ S) (hl : h.PlainList a vs) (hp : Paired Atom vs.toList l) (hb : B.get? a = none), motive (.ref a) (.fl hs hl hp hb)) : motive v r := by cases r with | fl hs hl hp hb => exact fl hs hl hp hb
theorem Rep.cLa {S : List Addr} {h : Heap} {a : Addr} {l : List PA} {motive : (v : Value) → Rep S h v (.la a l) → Prop} {v : Value} (r : Rep S h v (.la a l))
    (la : ∀ {vs} (hs : a ∉ S) (hl : h.PlainList a vs) (hp : Paired Atom vs.toList l), motive (.ref a) (.la hs hl hp)) : motive v r := by cases r with | la hs hl hp => exact la hs hl hp
theorem Rep.cIsl {S : List Addr} {h : Heap} {l : List PA} {motive : (v : Value) → Rep S h v (.isl l) → Prop} {v : Value} (r : Rep S h v (.isl l))
    (isl : ∀ {a vs} (hs : a ∉ S) (hl : h.IsList a vs) (hp : Paired Atom vs.toList l), motive (.ref a) (.isl hs hl hp)) : motive v r := by cases r with | isl hs hl hp => exact isl hs hl hp

/-- all but the objects of X stand as they stood -/
noncomputable def KeepX (X : List Addr) (h h' : Heap) : Prop := ∀ b o, b ∉ X → h.get? b = some o → h'.get? b = some o
theorem KeepX.of {X : List Addr} {h h' : Heap} (k : ∀ b o, h.get? b = some o → h'.get? b = some o) : KeepX X h h' := fun b o _ e => k b o e
theorem KeepX.refl (X : List Addr) (h : Heap) : KeepX X h h := fun _ _ _ e => e
theorem KeepX.trans {X : List Addr} {h h' h'' : Heap} (a : KeepX X h h') (b : KeepX X h' h'') : KeepX X h h'' := fun c o hc e => b c o hc (a c o hc e)
theorem KeepX.mono {X Y : List Addr} {h h' : Heap} (k : KeepX X h h') (s : ∀ a ∈ X, a ∈ Y) : KeepX Y h h' := fun b o hb e => k b o (fun q => hb (s b q)) e

theorem Paired.imp {α β : Type} {F G : α → β → Prop} (f : ∀ a b, F a b → G a b) : ∀ {l₁ l₂}, Paired F l₁ l₂ → Paired G l₁ l₂
  | _, _, .nil => .nil
  | _, _, .cons h t => .cons (f _ _ h) (Paired.imp f t)
theorem Paired.get {α β : Type} {F : α → β → Prop} : ∀ {l₁ : List α} {l₂ : List β}, Paired F l₁ l₂ → ∀ {i : Nat} {a : α}, l₁[i]? = some a → ∃ b, l₂[i]? = some b ∧ F a b
  | _, _, .nil, i, a, h => by simp at h
  | _, _, .cons h t, 0, a, e => by simp at e; subst e; exact ⟨_, rfl, h⟩
  | _, _, .cons h t, i + 1, a, e => by simp at e; simpa using Paired.get t e
theorem Paired.getR {α β : Type} {F : α → β → Prop} : ∀ {l₁ : List α} {l₂ : List β}, Paired F l₁ l₂ → ∀ {i : Nat} {b : β}, l₂[i]? = some b → ∃ a, l₁[i]? = some a ∧ F a b
  | _, _, .nil, i, a, h => by simp at h
  | _, _, .cons h t, 0, a, e => by simp at e; subst e; exact ⟨_, rfl, h⟩
  | _, _, .cons h t, i + 1, a, e => by simp at e; simpa using Paired.getR t e
theorem Paired.append' {α β : Type} {F : α → β → Prop} : ∀ {l₁ m₁ : List α} {l₂ m₂ : List β}, Paired F l₁ l₂ → Paired F m₁ m₂ → Paired F (l₁ ++ m₁) (l₂ ++ m₂)
  | _, _, _, _, .nil, h => h
  | _, _, _, _, .cons a t, h => .cons a (Paired.append' t h)

theorem TupAt.keep {S : List Addr} {h h' : Heap} (k : KeepX S h h') {v l} (t : TupAt S h v l) : TupAt S h' v l := by
  obtain ⟨a, vs, rfl, ha, ⟨o, ho, r⟩, hp⟩ := t
  exact ⟨a, vs, rfl, ha, ⟨o, k a o ha ho, r⟩, hp⟩
theorem Rep.keep {S : List Addr} {h h' : Heap} (k : KeepX S h h') {v d} (r : Rep S h v d) : Rep S h' v d := by
  cases r with
  | «at» a => exact .at a
  | list ha hl hp => obtain ⟨n, e⟩ := hl; exact .list ha ⟨n, k _ _ ha e⟩ hp
  | tup t => exact .tup (t.keep k)
  | tlist ha hl hp => obtain ⟨n, e⟩ := hl; exact .tlist ha ⟨n, k _ _ ha e⟩ (Paired.imp (fun _ _ t => t.keep k) hp)
  | rng ha e => exact .rng ha (k _ _ ha e)
  | raw => exact .raw
  | fl ha hl hp hb => obtain ⟨n, e⟩ := hl; exact .fl ha ⟨n, k _ _ ha e⟩ hp hb
  | la ha hl hp => obtain ⟨n, e⟩ := hl; exact .la ha ⟨n, k _ _ ha e⟩ hp
  | isl ha hl hp => obtain ⟨o, e, r⟩ := hl; exact .isl ha ⟨o, k _ _ ha e, r⟩ hp
theorem TupAt.sub {S S' : List Addr} {h : Heap} (s : ∀ a ∈ S', a ∈ S) {v l} (t : TupAt S h v l) : TupAt S' h v l := by
  obtain ⟨a, vs, rfl, ha, r⟩ := t
  exact ⟨a, vs, rfl, fun q => ha (s a q), r⟩
theorem Rep.sub {S S' : List Addr} {h : Heap} (s : ∀ a ∈ S', a ∈ S) {v d} (r : Rep S h v d) : Rep S' h v d := by
  cases r with
  | «at» a => exact .at a
  | list ha hl hp => exact .list (fun q => ha (s _ q)) hl hp
  | tup t => exact .tup (t.sub s)
  | tlist ha hl hp => exact .tlist (fun q => ha (s _ q)) hl (Paired.imp (fun _ _ t => t.sub s) hp)
  | rng ha e => exact .rng (fun q => ha (s _ q)) e
  | raw => exact .raw
  | fl ha hl hp hb => exact .fl (fun q => ha (s _ q)) hl hp hb
  | la ha hl hp => exact .la (fun q => ha (s _ q)) hl hp
  | isl ha hl hp => exact .isl (fun q => ha (s _ q)) hl hp
/-- more addresses may be shut out, if they are new -/
theorem TupAt.more {S S' : List Addr} {h : Heap} (s : ∀ a ∈ S', a ∈ S ∨ h.get? a = none) {v l} (t : TupAt S h v l) : TupAt S' h v l := by
  obtain ⟨a, vs, rfl, ha, ht, r⟩ := t
  refine ⟨a, vs, rfl, fun q => ?_, ht, r⟩
  rcases s a q with q | q
  · exact ha q
  · obtain ⟨o, ho, _⟩ := ht; rw [q] at ho; cases ho
theorem Rep.more {S S' : List Addr} {h : Heap} (s : ∀ a ∈ S', a ∈ S ∨ h.get? a = none) {v d} (r : Rep S h v d) : Rep S' h v d := by
  have key : ∀ {a : Addr} {vs : Array Value}, a ∉ S → h.PlainList a vs → a ∉ S' := fun {a vs} ha hl q => by
    rcases s a q with q | q
    · exact ha q
    · obtain ⟨n, ho⟩ := hl; rw [q] at ho; cases ho
  cases r with
  | «at» a => exact .at a
  | list ha hl hp => exact .list (key ha hl) hl hp
  | tup t => exact .tup (t.more s)
  | tlist ha hl hp => exact .tlist (key ha hl) hl (Paired.imp (fun _ _ t => t.more s) hp)
  | rng ha e => exact .rng (fun q => by
      rcases s _ q with q | q
      · exact ha q
      · rw [IsRange, q] at e; cases e) e
  | raw => exact .raw
  | fl ha hl hp hb => exact .fl (key ha hl) hl hp hb
  | la ha hl hp => exact .la (key ha hl) hl hp
  | isl ha hl hp => exact .isl (fun q => by
      rcases s _ q with q | q
      · exact ha q
      · obtain ⟨o, e, _⟩ := hl; rw [q] at e; cases e) hl hp
theorem Rep.unfl {S : List Addr} {h : Heap} {v B l} (r : Rep S h v (.fl B l)) : Rep S h v (.list l) := by
  cases r using Rep.cFl with | fl ha hl hp _ => exact .list ha hl hp

theorem Rep.unla {S : List Addr} {h : Heap} {v a l} (r : Rep S h v (.la a l)) : Rep S h v (.list l) := by
  cases r using Rep.cLa with | la ha hl hp => exact .list ha hl hp

theorem keeps_refl (s : Shared) : Keeps s s := ⟨s.heap, s.toks, rfl, fun _ _ e => e⟩
theorem keeps_trans {s s' s'' : Shared} (a : Keeps s s') (b : Keeps s' s'') : Keeps s s'' := by
  obtain ⟨h, t, rfl, k⟩ := a
  obtain ⟨h', t', rfl, k'⟩ := b
  exact ⟨h', t', rfl, fun b o e => k' b o (k b o e)⟩
theorem keeps_heap {s : Shared} {h : Heap} {t : Nat} (k : ∀ b o, s.heap.get? b = some o → h.get? b = some o) : Keeps s { s with heap := h, toks := t } := ⟨h, t, rfl, k⟩
theorem keeps_tok {s : Shared} {t : Nat} : Keeps s { s with toks := t } := ⟨s.heap, t, rfl, fun _ _ e => e⟩
theorem keeps_push {s : Shared} {o : Obj} {t : Nat} : Keeps s { s with heap := s.heap.push o, toks := t } := keeps_heap fun _ _ e => Heap.get?_push_of_some _ e
theorem keeps_get {s s' : Shared} (k : Keeps s s') : ∀ b o, s.heap.get? b = some o → s'.heap.get? b = some o := by obtain ⟨h, t, rfl, k⟩ := k; exact k
theorem keeps_x {s s' : Shared} (k : Keeps s s') (X : List Addr) : KeepX X s.heap s'.heap := .of (keeps_get k)
theorem keeps_gens {s s' : Shared} (k : Keeps s s') : s'.gens = s.gens := by obtain ⟨h, t, rfl, k⟩ := k; rfl

/-- all that was there stays; tokens only rise -/
noncomputable def Kp (s s' : Shared) : Prop := Keeps s s' ∧ s.toks ≤ s'.toks
theorem kp_refl (s : Shared) : Kp s s := ⟨keeps_refl s, Nat.le_refl _⟩
theorem kp_trans {s s' s'' : Shared} (a : Kp s s') (b : Kp s' s'') : Kp s s'' := ⟨keeps_trans a.1 b.1, Nat.le_trans a.2 b.2⟩
theorem kp_tok {s : Shared} : Kp s { s with toks := s.toks + 1 } := ⟨keeps_tok, Nat.le_succ _⟩
theorem kp_push {s : Shared} {o : Obj} : Kp s { s with heap := s.heap.push o } := ⟨keeps_push, Nat.le_refl _⟩
theorem kp_get {s s' : Shared} (k : Kp s s') : ∀ b o, s.heap.get? b = some o → s'.heap.get? b = some o := keeps_get k.1
theorem kp_x {s s' : Shared} (k : Kp s s') (X : List Addr) : KeepX X s.heap s'.heap := keeps_x k.1 X
theorem kp_gens {s s' : Shared} (k : Kp s s') : s'.gens = s.gens := keeps_gens k.1
theorem kp_of {α : Type} {M : Model} {A : Around} {s : Shared} {t : Sem α} {R : α → Shared → Prop} {E : Value → Shared → Prop} (h : wpAny M A t (fun v s' => Keeps s s' ∧ R v s') E s) : wpAny M A t (fun v s' => Kp s s' ∧ R v s') E s :=
  wpAny_mono (wpAny_toks h) (fun _ _ x => ⟨⟨x.2.1, x.1⟩, x.2.2⟩) fun _ _ x => x.2
theorem kp_of' {α : Type} {M : Model} {A : Around} {s : Shared} {t : Sem α} {R : α → Prop} {E : Value → Shared → Prop} (h : wpAny M A t (fun v s' => R v ∧ Keeps s s') E s) : wpAny M A t (fun v s' => R v ∧ Kp s s') E s :=
  wpAny_mono (wpAny_toks h) (fun _ _ x => ⟨x.2.1, ⟨x.2.2, x.1⟩⟩) fun _ _ x => x.2

/-- like Keeps, but for the objects of X -/
noncomputable def KeepsX (X : List Addr) (s s' : Shared) : Prop := ∃ h' tk, s' = { s with heap := h', toks := tk } ∧ KeepX X s.heap h' ∧ ∀ a ∈ X, (s.heap.get? a).isSome = true → (h'.get? a).isSome = true

/-- the way below: no exception is being handled; room in frames and in C -/
structure AOk (k : Nat) (A : Around) : Prop where
  handled : A.handled = none
  depth : A.depth + k ≤ 340
  units : A.units + 20 * k ≤ 400
theorem AOk.mono {k j : Nat} {A : Around} (h : AOk k A) (hj : j ≤ k) : AOk j A := ⟨h.handled, by have := h.depth; (first | lia | omega), by have := h.units; (first | lia | omega)⟩
theorem AOk.deeper {k : Nat} {A : Around} (h : AOk (k + 1) A) (env : Env) : AOk k (A.deeper env) := ⟨h.handled, by have := h.depth; show A.depth + 1 + k ≤ 340; (first | lia | omega), by have := h.units; show A.units + 3 + 20 * k ≤ 400; (first | lia | omega)⟩
theorem AOk.room {k : Nat} {A : Around} (h : AOk k A) : A.depth < recursionLimit := by have := h.depth; show A.depth < 1000; (first | lia | omega)
theorem AOk.cline {k : Nat} {A : Around} (h : AOk k A) : A.units < cLine := by have := h.units; show A.units < 9900; (first | lia | omega)
end Mine
end

section
set_option maxRecDepth 100000
set_option linter.unusedVariables false
set_option linter.unusedSimpArgs false
namespace Mine
open PySem PySem.W PySem.Calls PyProof.Rows

@[irreducible] noncomputable def H25 (P : Params) : Heap := absHeap (T25 P) 207 {}
@[irreducible] noncomputable def GM (P : Params) : Str → Option Value := (absHeap (T25 P) 207 {}).nsMap mainGlobals
@[irreducible] noncomputable def BM (P : Params) : Str → Option Value := (absHeap (T25 P) 207 {}).nsMap builtinsNs

theorem ground_w (w : World) : ∃ s₀, Ground qQ looseQ [] (fun _ _ => True) w s₀ (GM w.params) (BM w.params) (H25 w.params) := by
  obtain ⟨s, hs⟩ := (behindQ w).1
  obtain ⟨s₀, _, _, os, _, _, _, G⟩ := (behindQ w).2 s hs
  have eh : (S25 w.params os).abs.heap = absHeap (T25 w.params) 207 {} := by unfold S25; rfl
  rw [eh] at G
  unfold GM BM H25
  exact ⟨_, G⟩

/-- what holds of the names wherever the top stands -/
structure Wd (P : Params) (h : Heap) : Prop where
  g : h.Ns mainGlobals (GM P)
  b : h.Ns builtinsNs (BM P)
  nolimit : h.NoLimit
  nodigits : ∃ mc, h.Ns cStatics mc ∧ mc "sys.int_max_str_digits" = none
  builtins : ∀ x : Str, x ≠ "__name__" → BM P x = bootBuiltins x
theorem Stays.wd {w : World} {h : Heap} (st : Stays w.params h) : Wd w.params h := by
  obtain ⟨s₀, G⟩ := ground_w w
  have T := G.T.keeps (h' := h) (fun b o e => st b o (by unfold H25 at e; exact e))
  exact ⟨T.g, T.b, T.nolimit, T.nodigits, T.builtins⟩
theorem Stays.keeps {P : Params} {h h' : Heap} (st : Stays P h) (k : ∀ b o, h.get? b = some o → h'.get? b = some o) : Stays P h' := fun b o e => k b o (st b o e)
theorem Stays.obj {P : Params} {h : Heap} {a : Addr} {o : Obj} (st : Stays P h) (e : (T25 P).get a = some o) (lt : a < 207) (hal : alive o = some o) : h.get? a = some o :=
  st a o ((abs_get lt e).trans hal)

noncomputable def Held (env : Env) (s : Shared) (n : Str) (v : Value) : Prop :=
  (env.kindOf n = some .local ∧ ∃ m, s.heap.Ns env.locals m ∧ m n = some v) ∨ (env.kindOf n = some .cell ∧ ∃ c, env.cells.lookup n = some c ∧ s.heap.IsCell c (some v))
theorem Held.keeps {env : Env} {s s' : Shared} (k : Kp s s') {n v} (h : Held env s n v) : Held env s' n v := by
  rcases h with ⟨hl, m, hm, e⟩ | ⟨hl, c, hc, e⟩
  · exact .inl ⟨hl, m, hm.keeps (kp_get k), e⟩
  · exact .inr ⟨hl, c, hc, e.keeps (kp_get k)⟩
noncomputable abbrev Gam := List (Str × PV)
/-- a frame, and the names in it that bear known data -/
structure Fm (w : World) (s₀ : Shared) (S : List Addr) (env : Env) (G : Gam) (s : Shared) : Prop where
  keep : Kp s₀ s
  stays : Stays w.params s₀.heap
  gens : s₀.gens = #[]
  tok : 0 < s₀.toks
  low : ∀ a ∈ S, ∃ o, s.heap.get? a = some o
  fn : env.scope.kind = .function
  glob : env.globals = mainGlobals
  bi : env.builtins = builtinsNs
  own : s₀.heap.get? env.locals = none
  locIn : env.locals ∈ S
  cellIn : ∀ n c, env.cells.lookup n = some c → c ∈ S ∧ c ≠ env.locals
  cellOk : ∀ n c, env.cells.lookup n = some c → ∃ v₀, s.heap.IsCell c v₀
  ns : ∃ m, s.heap.Ns env.locals m
  has : ∀ n d, G.lookup n = some d → ∃ v, Held env s n v ∧ Rep S s.heap v d
namespace Fm
variable {w : World} {s₀ s s' : Shared} {S : List Addr} {env : Env} {G : Gam}
theorem keeps (f : Fm w s₀ S env G s) (k : Kp s s') : Fm w s₀ S env G s' where
  keep := kp_trans f.keep k
  stays := f.stays
  gens := f.gens
  tok := f.tok
  low := fun a ha => let ⟨o, e⟩ := f.low a ha; ⟨o, kp_get k _ _ e⟩
  fn := f.fn
  glob := f.glob
  bi := f.bi
  own := f.own
  locIn := f.locIn
  cellIn := f.cellIn
  cellOk := fun n c e => let ⟨v, h⟩ := f.cellOk n c e; ⟨v, h.keeps (kp_get k)⟩
  ns := let ⟨m, h⟩ := f.ns; ⟨m, h.keeps (kp_get k)⟩
  has := fun n d e => let ⟨v, h, r⟩ := f.has n d e; ⟨v, h.keeps k, r.keep (kp_x k S)⟩
theorem st (f : Fm w s₀ S env G s) : Stays w.params s.heap := f.stays.keeps (kp_get f.keep)
theorem tk (f : Fm w s₀ S env G s) : 0 < s.toks := Nat.lt_of_lt_of_le f.tok f.keep.2
theorem gen (f : Fm w s₀ S env G s) : s.gens = #[] := (kp_gens f.keep).trans f.gens
theorem fewer (f : Fm w s₀ S env G s) {G' : Gam} (h : ∀ n d, G'.lookup n = some d → G.lookup n = some d) : Fm w s₀ S env G' s := { f with has := fun n d e => f.has n d (h n d e) }
end Fm

section
variable {w : World} {s₀ s : Shared} {S : List Addr} {env : Env} {G : Gam} {M : Model} {A : Around} {E : Value → Shared → Prop}
/-- a name is bound in the frame's own dict -/
theorem store_local {n : Str} {v : Value} {d : PV} {Q : Unit → Shared → Prop} (f : Fm w s₀ S env G s) (hk : env.kindOf n = some .local) (r : Rep S s.heap v d)
    (h : ∀ s', Fm w s₀ S env ((n, d) :: G) s' → KeepX [env.locals] s.heap s'.heap → (∃ h tk, s' = { s with heap := h, toks := tk }) → Q () s') : wpAny M A (storeName env n v) Q E s := by
  obtain ⟨m, hm⟩ := f.ns
  refine wpAny_storeName_local hk hm (fun h' hn hs => ?_) (by rw [f.fn]; rfl)
  have kx : KeepX [env.locals] s.heap h' := fun b o hb e => hs.extBut b o (fun q => hb (by simp [q])) e
  have kS : KeepX S s.heap h' := kx.mono (fun a ha => by simp at ha; exact ha ▸ f.locIn)
  refine h _ ⟨?_, f.stays, f.gens, f.tok, fun a ha => ?_, f.fn, f.glob, f.bi, f.own, f.locIn, f.cellIn, fun m c hc => let ⟨v, hv⟩ := f.cellOk m c hc; ⟨v, hv.sameBut hs (f.cellIn _ _ hc).2⟩, ⟨_, hn⟩, fun n' d' e => ?_⟩ kx ⟨_, _, rfl⟩
  · obtain ⟨⟨h1, t1, rfl, k1⟩, kt⟩ := f.keep
    refine ⟨⟨h', _, rfl, fun b o e => hs.extBut b o (fun q => ?_) (k1 b o e)⟩, Nat.le_succ_of_le kt⟩
    subst q; rw [f.own] at e; cases e
  · obtain ⟨o, e⟩ := f.low a ha
    by_cases q : a = env.locals
    · subst q; obtain ⟨o', _, _, e', _⟩ := hn; exact ⟨o', e'⟩
    · exact ⟨o, hs.extBut a o q e⟩
  · by_cases q : n' = n
    · subst q
      simp only [List.lookup_cons, beq_self_eq_true] at e
      cases e
      exact ⟨v, .inl ⟨hk, _, hn, by simp⟩, r.keep kS⟩
    · have : (n' == n) = false := by simpa using q
      simp only [List.lookup_cons, this] at e
      obtain ⟨v', hv, r'⟩ := f.has n' d' e
      refine ⟨v', ?_, r'.keep kS⟩
      rcases hv with ⟨hl, m', hm', em⟩ | ⟨hl, c, hc, ec⟩
      · refine .inl ⟨hl, _, hn, ?_⟩
        have : m' = m := by
          obtain ⟨o1, es1, ep1, g1, d1, _, x1⟩ := hm'
          obtain ⟨o2, es2, ep2, g2, d2, _, x2⟩ := hm
          rw [g1] at g2; cases g2; rw [d1] at d2; cases d2
          funext y; rw [← x1, ← x2]
        simp only [if_neg q]; rw [← this]; exact em
      · exact .inr ⟨hl, c, hc, ec.sameBut hs (f.cellIn _ _ hc).2⟩

/-- a cell of the frame's own -/
noncomputable def OwnCell (env : Env) (s₀ : Shared) (n : Str) : Prop := env.kindOf n = some .cell ∧ ∃ c, env.cells.lookup n = some c ∧ s₀.heap.get? c = none ∧ ∀ m, env.cells.lookup m = some c → m = n
theorem store_cell {n : Str} {v : Value} {d : PV} {Q : Unit → Shared → Prop} (f : Fm w s₀ S env G s) (hk : OwnCell env s₀ n) (r : Rep S s.heap v d)
    (h : ∀ s', Fm w s₀ S env ((n, d) :: G) s' → KeepX (env.cells.map (·.2)) s.heap s'.heap → (∃ h tk, s' = { s with heap := h, toks := tk }) → Q () s') : wpAny M A (storeName env n v) Q E s := by
  obtain ⟨hk, c, hc, hfresh, hone⟩ := hk
  obtain ⟨v₀, hcell⟩ := f.cellOk n c hc
  obtain ⟨hcS, hcL⟩ := f.cellIn _ _ hc
  refine wpAny_storeName_cell f.fn hk hc hcell fun h' hn hs => ?_
  have kx : KeepX [c] s.heap h' := fun b o hb e => hs.extBut b o (fun q => hb (by simp [q])) e
  have kS : KeepX S s.heap h' := kx.mono (fun a ha => by simp at ha; exact ha ▸ hcS)
  refine h _ ⟨?_, f.stays, f.gens, f.tok, fun a ha => ?_, f.fn, f.glob, f.bi, f.own, f.locIn, f.cellIn, fun m c' hm => ?_, ?_, fun n' d' e => ?_⟩ (kx.mono (fun a ha => by simp at ha; exact ha ▸ List.mem_map.mpr ⟨_, mem_of_lookup hc, rfl⟩)) ⟨_, _, rfl⟩
  · obtain ⟨⟨h1, t1, rfl, k1⟩, kt⟩ := f.keep
    refine ⟨⟨h', _, rfl, fun b o e => hs.extBut b o (fun q => ?_) (k1 b o e)⟩, kt⟩
    subst q; rw [hfresh] at e; cases e
  · obtain ⟨o, e⟩ := f.low a ha
    by_cases q : a = c
    · subst q; obtain ⟨o', e', _⟩ := hn; exact ⟨o', e'⟩
    · exact ⟨o, hs.extBut a o q e⟩
  · obtain ⟨v1, hv1⟩ := f.cellOk m c' hm
    by_cases q : c' = c
    · exact ⟨_, q ▸ hn⟩
    · exact ⟨v1, hv1.sameBut hs q⟩
  · obtain ⟨m, hm⟩ := f.ns
    exact ⟨m, hm.sameBut hs (Ne.symm hcL)⟩
  · by_cases q : n' = n
    · subst q
      simp only [List.lookup_cons, beq_self_eq_true] at e
      cases e
      exact ⟨v, .inr ⟨hk, c, hc, hn⟩, r.keep kS⟩
    · have : (n' == n) = false := by simpa using q
      simp only [List.lookup_cons, this] at e
      obtain ⟨v', hv, r'⟩ := f.has n' d' e
      refine ⟨v', ?_, r'.keep kS⟩
      rcases hv with ⟨hl, m', hm', em⟩ | ⟨hl, c', hc', ec⟩
      · exact .inl ⟨hl, m', hm'.sameBut hs (Ne.symm hcL), em⟩
      · refine .inr ⟨hl, c', hc', ec.sameBut hs (fun q' => q (hone _ (q' ▸ hc')))⟩
theorem load_held {n : Str} {v : Value} {Q : Value → Shared → Prop} (hk : env.scope.kind = .function) (hh : Held env s n v) (h : Q v s) : wpAny M A (loadName env n) Q E s := by
  rcases hh with ⟨hl, m, hm, e⟩ | ⟨hl, c, hc, e⟩
  · exact wpAny_loadName_local hk hl hm e h
  · exact wpAny_loadName_cell hk hl hc e h
end

/-- an expression gives known data, and keeps all there was -/
structure Ev (w : World) (k : Nat) (S : List Addr) (env : Env) (G : Gam) (e : Expr) (d : PV) : Prop where
  run : ∀ s₀ A E s, AOk k A → Fm w s₀ S env G s → wpAny (model p0 w) A (eval e env) (fun v s' => Kp s s' ∧ Rep S s'.heap v d) E s
structure Tr (w : World) (k : Nat) (S : List Addr) (env : Env) (G : Gam) (e : Expr) (b : Bool) : Prop where
  run : ∀ s₀ A E s, AOk k A → Fm w s₀ S env G s → wpAny (model p0 w) A (isTrue e env (eval e env)) (fun v s' => v = b ∧ Kp s s') E s
/-- a value is loaded -/
structure Ld (w : World) (k : Nat) (S : List Addr) (env : Env) (G : Gam) (e : Expr) (v : Value) : Prop where
  run : ∀ s₀ A E s, AOk k A → Fm w s₀ S env G s → wpAny (model p0 w) A (eval e env) (fun v' s' => v' = v ∧ Kp s s') E s
structure Fn (w : World) (k : Nat) (a : Addr) (ds : List PV) (d : PV) : Prop where
  run : ∀ A E S s vs, AOk k A → Stays w.params s.heap → s.gens = #[] → 0 < s.toks → (∀ b ∈ S, ∃ o, s.heap.get? b = some o) → Paired (Rep S s.heap) vs ds →
    wpAny (model p0 w) A (PySem.call (.ref a) vs) (fun v s' => Kp s s' ∧ Rep S s'.heap v d) E s
/-- what a frame may change: its dict, its cells, and the objects of X -/
noncomputable def mutOf (env : Env) (X : List Addr) : List Addr := env.locals :: (env.cells.map (·.2) ++ X)
/-- statements: how they end -/
structure Ex (w : World) (k : Nat) (s₀ : Shared) (X S : List Addr) (env : Env) (G : Gam) (body : List Stmt) (Q : Flow → Shared → Prop) : Prop where
  run : ∀ A E s, AOk k A → Fm w s₀ S env G s → wpAny (model p0 w) A (execs body env) (fun f s' => Q f s' ∧ KeepX (mutOf env X) s.heap s'.heap) E s
noncomputable def RetQ (s₀ : Shared) (S : List Addr) (d : PV) : Flow → Shared → Prop := fun f s' => ∃ v, f = .ret v ∧ Kp s₀ s' ∧ Rep S s'.heap v d
noncomputable def NextQ (w : World) (s₀ : Shared) (S : List Addr) (env : Env) (G : Gam) : Flow → Shared → Prop := fun f s' => f = .next ∧ Fm w s₀ S env G s'

section
variable {w : World} {k : Nat} {s₀ : Shared} {X S : List Addr} {env : Env} {G : Gam} {Q : Flow → Shared → Prop}
theorem lk_here {n : Str} {d : PV} : List.lookup n ((n, d) :: G) = some d := by simp [List.lookup_cons]
theorem lk_there {n m : Str} {d d' : PV} (hne : (n == m) = false) (h : List.lookup n G = some d) : List.lookup n ((m, d') :: G) = some d := by simp [List.lookup_cons, hne, h]

theorem ev_name {n : Str} {pos : Pos} {d : PV} (h : G.lookup n = some d) (hd : (n == ("__debug__" : Str)) = false := by decide +kernel) : Ev w k S env G (.Name n pos) d := ⟨fun s₀ A E s _ f => by
  obtain ⟨v, hv, r⟩ := f.has n d h
  exact wpAny_Name (load_held f.fn hv ⟨kp_refl _, r⟩) hd⟩
theorem ev_int {i : Int} {j pos} : Ev w k S env G (.Constant (.int i) j pos) (.at (.int i)) := ⟨fun s₀ A E s _ f => wpAny_Constant_int ⟨kp_tok, .at (.int _ _)⟩⟩
theorem ev_str {x : Str} {j pos} : Ev w k S env G (.Constant (.str x) j pos) (.at (.str x.cps.toList)) := ⟨fun s₀ A E s _ f => Constant_str ⟨kp_tok, .at (.ofStr _ _)⟩⟩
theorem ev_bool {b : Bool} {j pos} : Ev w k S env G (.Constant (.bool b) j pos) (.at (.bool b)) := ⟨fun s₀ A E s _ f => by rw [eval_Constant]; exact wpAny_pure ⟨kp_refl _, .at (.bool _)⟩⟩
theorem ev_none {j pos} : Ev w k S env G (.Constant .none j pos) (.at .none) := ⟨fun s₀ A E s _ f => by rw [eval_Constant]; exact wpAny_pure ⟨kp_refl _, .at .none⟩⟩
theorem ld_glob {n : Str} {pos : Pos} {v : Value} (hk : env.kindOf n = some .globalImplicit) (h : GM w.params n = some v) (hd : (n == ("__debug__" : Str)) = false := by decide +kernel) : Ld w k S env G (.Name n pos) v := ⟨fun s₀ A E s _ f =>
  Name_function_global f.fn hk (loadGlobal_global (by rw [f.glob]; exact f.st.wd.g) h ⟨rfl, kp_refl _⟩) hd⟩
theorem ld_bi {n : Str} {pos : Pos} {v : Value} (hk : env.kindOf n = some .globalImplicit) (h0 : GM w.params n = none) (h : bootBuiltins n = some v) (hnn : n ≠ "__name__" := by decide +kernel) (hd : (n == ("__debug__" : Str)) = false := by decide +kernel) : Ld w k S env G (.Name n pos) v := ⟨fun s₀ A E s _ f =>
  Name_function_global f.fn hk (loadGlobal_builtin (by rw [f.glob]; exact f.st.wd.g) h0 (by rw [f.bi]; exact f.st.wd.b) (by rw [f.st.wd.builtins _ hnn]; exact h) ⟨rfl, kp_refl _⟩) hd⟩

theorem loc_mut : ∀ a ∈ [env.locals], a ∈ mutOf env X := fun a ha => by simp at ha; rw [ha]; exact List.mem_cons_self
theorem cell_mut : ∀ a ∈ env.cells.map (·.2), a ∈ mutOf env X := fun a ha => List.mem_cons_of_mem _ (List.mem_append_left _ ha)
theorem ex_nil (h : ∀ s, Fm w s₀ S env G s → Q .next s) : Ex w k s₀ X S env G [] Q := ⟨fun A E s _ f => wpAny_execs_nil ⟨h s f, .refl _ _⟩⟩
theorem ex_ret {e : Expr} {pos : Pos} {rest : List Stmt} {d : PV} (h : Ev w k S env G e d) (hq : ∀ v s', Kp s₀ s' → Rep S s'.heap v d → Q (.ret v) s') : Ex w k s₀ X S env G (.Return (some e) pos :: rest) Q := ⟨fun A E s a f => by
  refine wpAny_execs_cons (wpAny_Return_some (wpAny_mono (h.run s₀ A E s a f) (fun v s' x => ?_) fun _ _ x => x))
  exact ⟨hq _ _ (kp_trans f.keep x.1) x.2, kp_x x.1 _⟩⟩
theorem ex_ret' {e : Expr} {pos : Pos} {rest : List Stmt} {d : PV} (h : Ev w k S env G e d) : Ex w k s₀ X S env G (.Return (some e) pos :: rest) (RetQ s₀ S d) := ex_ret h fun v _ a b => ⟨v, rfl, a, b⟩
/-- one step, then the rest -/
theorem ex_then {A : Around} {E : Value → Shared → Prop} {s s' : Shared} {rest : List Stmt} (h : Ex w k s₀ X S env G rest Q) (a : AOk k A) (f : Fm w s₀ S env G s') (kx : KeepX (mutOf env X) s.heap s'.heap) :
    wpAny (model p0 w) A (execs rest env) (fun f s' => Q f s' ∧ KeepX (mutOf env X) s.heap s'.heap) E s' :=
  wpAny_mono (h.run A E s' a f) (fun _ _ x => ⟨x.1, kx.trans x.2⟩) fun _ _ x => x
theorem ex_local {n : Str} {p pos : Pos} {e : Expr} {rest : List Stmt} {d : PV} (hk : env.kindOf n = some .local) (h : Ev w k S env G e d) (hs : swapsWith e (some (.Name n p)) pos.line env = pure false)
    (h' : Ex w k s₀ X S env ((n, d) :: G) rest Q) : Ex w k s₀ X S env G (.Assign [.Name n p] e pos :: rest) Q := ⟨fun A E s a f => by
  refine wpAny_execs_cons (wpAny_Assign_Name (wpAny_mono (h.run s₀ A E s a f) (fun v s' x => ?_) fun _ _ x => x) hs)
  exact store_local (f.keeps x.1) hk x.2 fun s'' f' kx _ => ex_then h' a f' ((kp_x x.1 _).trans (kx.mono loc_mut))⟩
theorem ex_cell {n : Str} {p pos : Pos} {e : Expr} {rest : List Stmt} {d : PV} (hk : OwnCell env s₀ n) (h : Ev w k S env G e d) (hs : swapsWith e (some (.Name n p)) pos.line env = pure false)
    (h' : Ex w k s₀ X S env ((n, d) :: G) rest Q) : Ex w k s₀ X S env G (.Assign [.Name n p] e pos :: rest) Q := ⟨fun A E s a f => by
  refine wpAny_execs_cons (wpAny_Assign_Name (wpAny_mono (h.run s₀ A E s a f) (fun v s' x => ?_) fun _ _ x => x) hs)
  exact store_cell (f.keeps x.1) hk x.2 fun s'' f' kx _ => ex_then h' a f' ((kp_x x.1 _).trans (kx.mono cell_mut))⟩
theorem ex_if {t : Expr} {b o rest : List Stmt} {pos : Pos} {c : Bool} {Q' : Flow → Shared → Prop} {G' : Gam} (ht : Tr w k S env G t c) (hb : c = true → Ex w k s₀ X S env G b Q') (ho : c = false → Ex w k s₀ X S env G o Q')
    (hq : ∀ f s, Q' f s → f ≠ .next → Q f s) (hf : ∀ s, Q' .next s → Fm w s₀ S env G' s) (h : Ex w k s₀ X S env G' rest Q) : Ex w k s₀ X S env G (.If t b o pos :: rest) Q := ⟨fun A E s a f => by
  refine wpAny_execs_cons (wpAny_If (wpAny_mono (ht.run s₀ A E s a f) (fun v s' x => ?_) fun _ _ x => x))
  obtain ⟨rfl, kk⟩ := x
  have fin : ∀ f s'', (Q' f s'' ∧ KeepX (mutOf env X) s'.heap s''.heap) → (match f with | .next => wpAny (model p0 w) A (execs rest env) (fun f s' => Q f s' ∧ KeepX (mutOf env X) s.heap s'.heap) E s'' | f => Q f s'' ∧ KeepX (mutOf env X) s.heap s''.heap) := fun f s'' hf' => by
    have kx : KeepX (mutOf env X) s.heap s''.heap := (kp_x kk _).trans hf'.2
    cases f with
    | next => exact ex_then h a (hf _ hf'.1) kx
    | _ => exact ⟨hq _ _ hf'.1 (by intro q; cases q), kx⟩
  cases v with
  | true => exact wpAny_mono ((hb rfl).run A E s' a (f.keeps kk)) fin fun _ _ x => x
  | false => exact wpAny_mono ((ho rfl).run A E s' a (f.keeps kk)) fin fun _ _ x => x⟩
/-- a test that holds, and whose branch returns -/
theorem ex_if_ret {t : Expr} {b o rest : List Stmt} {pos : Pos} (ht : Tr w k S env G t true) (hb : Ex w k s₀ X S env G b Q) (hn : ∀ s, ¬ Q .next s) : Ex w k s₀ X S env G (.If t b o pos :: rest) Q := ⟨fun A E s a f => by
  refine wpAny_execs_cons (wpAny_If (wpAny_mono (ht.run s₀ A E s a f) (fun v s' x => ?_) fun _ _ x => x))
  obtain ⟨rfl, kk⟩ := x
  refine wpAny_mono (hb.run A E s' a (f.keeps kk)) (fun f s'' q => ?_) fun _ _ x => x
  cases f with
  | next => exact (hn _ q.1).elim
  | _ => exact ⟨q.1, (kp_x kk _).trans q.2⟩⟩
/-- a test that fails, and no else branch -/
theorem ex_if_not {t : Expr} {b rest : List Stmt} {pos : Pos} (ht : Tr w k S env G t false) (h : Ex w k s₀ X S env G rest Q) : Ex w k s₀ X S env G (.If t b [] pos :: rest) Q :=
  ex_if (Q' := NextQ w s₀ S env G) ht (fun q => nomatch q) (fun _ => ex_nil fun s f => ⟨rfl, f⟩) (fun f s x n => (n x.1).elim) (fun s x => x.2) h
theorem ret_next {d : PV} (s : Shared) : ¬ RetQ s₀ S d .next s := fun ⟨_, e, _⟩ => nomatch e
end
end Mine
end

section
set_option maxRecDepth 100000
set_option linter.unusedVariables false
set_option linter.unusedSimpArgs false
namespace Mine
open PySem PySem.W PySem.Calls PyProof.Rows

noncomputable def fdOf (nm : Str) (i : Nat) (md : Value) (c : Addr) : FuncData := { name := nm, qualname := nm, params := fA i, body := .stmts (fB i), scope := fS i, globals := mainGlobals, closure := [], defaults := .none, kwdefaults := .none, doc := .none, pyModule := md, annotations := none, code := (.ref c), closureTuple := .none, builtins := 0 }
noncomputable def fnObj (nm : Str) (i : Nat) (md : Value) (c : Addr) : Obj := ⟨(.type "function"), none, .func (fdOf nm i md c), ⟨[]⟩⟩
noncomputable def codeIs (nm : Str) : Option Obj → Bool
  | some o => match o.data with
    | .fields vs => match (vs[1]? : Option Value) with
      | some (.str q _) => q == nm
      | _ => false
    | _ => false
  | none => false
theorem codeRec_of {P : Params} {h : Heap} {c : Addr} {nm : Str} (st : Stays P h) (lt : c < 207) (e : codeIs nm ((T25 P).get c) = true) : h.CodeRec (.ref c) nm := by
  cases ho : (T25 P).get c with
  | none => rw [ho] at e; simp [codeIs] at e
  | some o =>
    rw [ho] at e
    obtain ⟨cls, dict, data, slots⟩ := o
    unfold codeIs at e
    dsimp only at e
    split at e
    · rename_i vs
      split at e
      · rename_i q t hv
        obtain rfl : q = nm := by simpa using e
        exact ⟨c, _, vs, t, rfl, st.obj ho lt rfl, rfl, hv⟩
      · exact nomatch e
    · exact nomatch e

/-- a def of the text, where the top left it -/
structure Def (a : Addr) (nm : Str) (i : Nat) (md : Value) (c : Addr) (names : List Str) : Prop where
  obj : ∀ P, (T25 P).get a = some (fnObj nm i md c)
  lt : a < 207
  ltc : c < 207
  code : ∀ P, codeIs nm ((T25 P).get c) = true
  bind : ∀ vs : List Value, vs.length = names.length → bindArgs (fdOf nm i md c) ⟨vs, []⟩ = pure (names.zip vs)
  kinds : (names.all fun n => (fS i).names.lookup n == some .local || (fS i).names.lookup n == some .cell) = true
  cells : (names.all fun n => (fS i).names.lookup n != some .cell || ((cellsFrom 0 (fS i).names []).lookup n).isSome) = true
  kind : (fS i).kind = .function
  co : (fS i).isCoroutine = false
  gen : (fS i).isGenerator = false
  onceCells : ((fS i).names.filter (·.2 == .cell)).Pairwise (fun x y => x.1 ≠ y.1)

theorem cellsFrom_lookup : ∀ (names : List (Str × NameKind)) (k j : Nat) (acc acc' : List (Str × Addr)), (∀ n, (acc.lookup n).isSome = (acc'.lookup n).isSome) → ∀ n, ((cellsFrom k names acc).lookup n).isSome = ((cellsFrom j names acc').lookup n).isSome
  | [], _, _, _, _, h, n => h n
  | (nm, kd) :: r, k, j, acc, acc', h, n => by
    unfold cellsFrom
    split
    · refine cellsFrom_lookup r _ _ _ _ (fun x => ?_) n
      by_cases q : x == nm <;> simp [List.lookup_cons, q, h x]
    · exact cellsFrom_lookup r _ _ _ _ h n

/-- what the body of a def may lean on -/
structure Bd (s : Shared) (i : Nat) (S : List Addr) (env : Env) : Prop where
  scope : env.scope = fS i
  cells : env.cells = cellsFrom (env.locals + 1) (fS i).names []
  cellMem : ∀ a ∈ env.cells.map (·.2), a ∈ S
  ownc : ∀ n, env.kindOf n = some .cell → (env.cells.lookup n).isSome = true → OwnCell env s n

theorem paired_zip {names : List Str} {S : List Addr} {h : Heap} : ∀ {vs : List Value} {ds : List PV}, Paired (Rep S h) vs ds → ∀ n d, (names.zip ds).lookup n = some d → ∃ v, (names.zip vs).lookup n = some v ∧ Rep S h v d := by
  induction names with
  | nil => intro vs ds _ n d e; simp at e
  | cons m r ih =>
    intro vs ds p n d e
    cases p with
    | nil => simp at e
    | cons h t =>
      rw [List.zip_cons_cons, List.lookup_cons] at e ⊢
      cases q : n == m with
      | true => rw [q] at e; cases e; exact ⟨_, rfl, h⟩
      | false => rw [q] at e; exact ih t n d e
theorem bindL_lookup (kindOf : Str → Option NameKind) : ∀ (binds : List (Str × Value)) (m : Str → Option Value) (n : Str) (v : Value), (binds.map (·.1)).Nodup → binds.lookup n = some v → kindOf n = some .local → bindL kindOf binds m n = some v := by
  have key : ∀ (binds : List (Str × Value)) (m : Str → Option Value) (n : Str), n ∉ binds.map (·.1) → bindL kindOf binds m n = m n := by
    intro binds
    induction binds with
    | nil => intro m n _; rfl
    | cons x r ih =>
      intro m n hn
      obtain ⟨a, v⟩ := x
      simp only [List.map_cons, List.mem_cons, not_or] at hn
      unfold bindL
      rw [ih _ _ hn.2]
      split
      · simp [hn.1]
      · rfl
  intro binds
  induction binds with
  | nil => intro m n v _ e; simp at e
  | cons x r ih =>
    intro m n v hnd e hk
    obtain ⟨a, u⟩ := x
    simp only [List.map_cons, List.nodup_cons] at hnd
    rw [List.lookup_cons] at e
    unfold bindL
    cases q : n == a with
    | true =>
      rw [q] at e; cases e
      obtain rfl : n = a := by simpa using q
      rw [key _ _ _ hnd.1, if_pos hk]; simp
    | false => rw [q] at e; exact ih _ n v hnd.2 e hk
theorem bindC_lookup (kindOf : Str → Option NameKind) : ∀ (binds : List (Str × Value)) (m : Str → Option Value) (n : Str) (v : Value), (binds.map (·.1)).Nodup → binds.lookup n = some v → kindOf n = some .cell → bindC kindOf binds m n = some v := by
  have key : ∀ (binds : List (Str × Value)) (m : Str → Option Value) (n : Str), n ∉ binds.map (·.1) → bindC kindOf binds m n = m n := by
    intro binds
    induction binds with
    | nil => intro m n _; rfl
    | cons x r ih =>
      intro m n hn
      obtain ⟨a, v⟩ := x
      simp only [List.map_cons, List.mem_cons, not_or] at hn
      unfold bindC
      rw [ih _ _ hn.2]
      split
      · rfl
      · simp [hn.1]
  intro binds
  induction binds with
  | nil => intro m n v _ e; simp at e
  | cons x r ih =>
    intro m n v hnd e hk
    obtain ⟨a, u⟩ := x
    simp only [List.map_cons, List.nodup_cons] at hnd
    rw [List.lookup_cons] at e
    unfold bindC
    cases q : n == a with
    | true =>
      rw [q] at e; cases e
      obtain rfl : n = a := by simpa using q
      rw [key _ _ _ hnd.1, if_neg (by rw [hk]; decide)]; simp
    | false => rw [q] at e; exact ih _ n v hnd.2 e hk
theorem zip_names : ∀ {names : List Str} {vs : List Value}, vs.length = names.length → (names.zip vs).map (·.1) = names
  | [], _, _ => rfl
  | n :: r, [], h => by simp at h
  | n :: r, v :: vs, h => by simp only [List.zip_cons_cons, List.map_cons]; rw [zip_names (by simpa using h)]

theorem call_cells {prog : Program} {w : World} {A : Around} {s : Shared} {R : Result → Shared → Prop} {a : Addr} {o : Obj} {fd : FuncData} {body : List Stmt} {vals : List Value} {binds : List (Str × Value)}
    (hroom : A.depth < recursionLimit) (ho : s.heap.get? a = some o) (hdata : o.data = .func fd) (hlim : s.heap.NoLimit) (hcd : s.heap.CodeRec fd.code fd.qualname)
    (hbody : fd.body = .stmts body) (hbind : bindArgs fd ⟨vals, []⟩ = pure binds) (hclo : fd.closure = [])
    (hkind : ∀ x ∈ binds, fd.scope.names.lookup x.1 = some .local ∨ (fd.scope.names.lookup x.1 = some .cell ∧ ((cellsFrom (s.heap.objs.size + 1) fd.scope.names []).lookup x.1).isSome = true))
    (h : ∀ s₁, s.toks ≤ s₁.toks → InCallC s (callEnvC fd s.heap.objs.size a).locals (bindL (callEnvC fd s.heap.objs.size a).kindOf binds fun _ => none) (callEnvC fd s.heap.objs.size a).cells
        (bindC (callEnvC fd s.heap.objs.size a).kindOf binds fun _ => none) s₁ →
      wpAny (model prog w) (A.deeper (callEnvC fd s.heap.objs.size a)) (execs body (callEnvC fd s.heap.objs.size a)) (fun f s' => R (.ok (.ret (match f with | .ret v => v | _ => .none))) s')
        (fun e s' => wpAny (model prog w) (A.deeper (callEnvC fd s.heap.objs.size a)) (leaving (callEnvC fd s.heap.objs.size a) e) (fun _ s'' => R (.error e) s'') (fun e' s'' => R (.error e') s'') s') s₁)
    (hco : fd.scope.isCoroutine = false) (hgen : fd.scope.isGenerator = false) (hk : fd.scope.kind = .function) :
    codeAny (model prog w) A (.call (.ref a) ⟨vals, []⟩) R s := by
  refine codeAny_call_function hroom ho hdata hco hgen hbody hcd ?_
  rw [hbind, hclo]
  refine wpAny_pure (wpAny_mono (wpAny_toks (wpAny_newFunctionEnv_cells (Q := fun env s' => env = callEnvC fd s.heap.objs.size a ∧ InCallC s env.locals (bindL env.kindOf binds fun _ => none) env.cells (bindC env.kindOf binds fun _ => none) s')
    hk hkind fun env he s' x => ⟨he, x⟩)) (fun env s' y => ?_) fun _ _ y => y.2)
  obtain ⟨htk, rfl, x⟩ := y
  exact ⟨hlim.keeps x.toInCall.keep, codeAny_func (h s' htk x)⟩

theorem none_back {s s' : Shared} (k : Kp s s') {a : Addr} (h : s'.heap.get? a = none) : s.heap.get? a = none := by
  cases e : s.heap.get? a with
  | none => rfl
  | some o => rw [kp_get k _ _ e] at h; cases h
theorem fn_runB {X : List Addr} {b₀ : Shared} {w : World} {k : Nat} {a : Addr} {nm : Str} {i : Nat} {md : Value} {c : Addr} {names : List Str} {ds : List PV} (D : Def a nm i md c names) (hnd : names.Nodup) (hlen : names.length = ds.length) {R : Value → Shared → Prop}
    {A : Around} {E : Value → Shared → Prop} {S : List Addr} {s : Shared} {vs : List Value} (hA : AOk (k + 1) A) (hb₀ : Kp b₀ s) (hst₀ : Stays w.params b₀.heap) (hg : b₀.gens = #[]) (htk : 0 < b₀.toks) (hlow : ∀ b ∈ S, ∃ o, s.heap.get? b = some o) (hp : Paired (Rep S s.heap) vs ds)
    (body : ∀ S' env, Bd b₀ i S' env → (∀ b ∈ S, b ∈ S') → Ex w k b₀ X S' env (names.zip ds) (fB i) (fun f s' => R (match f with | .ret v => v | _ => .none) s')) : wpAny (model p0 w) A (PySem.call (.ref a) vs) (fun v s' => R v s' ∧ KeepX X s.heap s'.heap) E s := by
  have hl : vs.length = names.length := by rw [hp.length, hlen]
  have hst : Stays w.params s.heap := hst₀.keeps (kp_get hb₀)
  have ho : s.heap.get? a = some (fnObj nm i md c) := hst.obj (D.obj _) D.lt rfl
  have hzn := zip_names hl
  refine wpAny_call (call_cells (fd := fdOf nm i md c) (binds := names.zip vs) hA.room ho rfl hst.wd.nolimit (codeRec_of hst D.ltc (D.code _)) rfl (D.bind vs hl) rfl (fun x hx => ?_) (fun s₁ htk1 hs₁ => ?_) D.co D.gen D.kind)
  · have hm : x.1 ∈ names := by rw [← hzn]; exact List.mem_map_of_mem hx
    rcases Bool.or_eq_true_iff.mp (List.all_eq_true.mp D.kinds x.1 hm) with q | q
    · exact .inl (by show (fS i).names.lookup x.1 = _; simpa using q)
    · have q' : (fS i).names.lookup x.1 = some .cell := by simpa using q
      refine .inr ⟨q', ?_⟩
      have := List.all_eq_true.mp D.cells x.1 hm
      show ((cellsFrom (s.heap.objs.size + 1) (fS i).names []).lookup x.1).isSome = true
      rw [cellsFrom_lookup (fS i).names _ 0 [] [] (fun _ => rfl)]
      rw [q'] at this
      simpa using this
  · generalize henv : callEnvC (fdOf nm i md c) s.heap.objs.size a = env at hs₁ ⊢
    have e1 : env.scope = fS i := by rw [← henv]; rfl
    have e2 : env.locals = s.heap.objs.size := by rw [← henv]; rfl
    have e3 : env.cells = cellsFrom (env.locals + 1) (fS i).names [] := by rw [← henv]; rfl
    have e4 : env.globals = mainGlobals := by rw [← henv]; rfl
    have e5 : env.builtins = builtinsNs := by rw [← henv]; rfl
    have fresh : ∀ b, s.heap.objs.size ≤ b → s.heap.get? b = none := fun b hb => by
      cases e : s.heap.get? b with
      | none => rfl
      | some o => exact absurd (Heap.lt_size e) (Nat.not_lt.mpr hb)
    have hcells : ∀ n c, env.cells.lookup n = some c → env.locals < c := fun n c hc => hs₁.above n c (mem_of_lookup hc)
    have hkeep : Kp s s₁ := by
      obtain ⟨h1, tk, rfl⟩ := hs₁.toInCall.same
      exact ⟨⟨h1, tk, rfl, hs₁.toInCall.keep⟩, htk1⟩
    have hSf : ∀ b ∈ env.locals :: (env.cells.map (·.2) ++ S), b ∈ S ∨ s.heap.get? b = none := fun b hb => by
      rcases List.mem_cons.mp hb with rfl | hb
      · exact .inr (fresh _ (by rw [e2]; exact Nat.le_refl _))
      · rcases List.mem_append.mp hb with hb | hb
        · obtain ⟨x, hx, rfl⟩ := List.mem_map.mp hb
          exact .inr (fresh _ (Nat.le_of_lt (e2 ▸ hs₁.above x.1 x.2 hx)))
        · exact .inl hb
    have hS : ∀ b ∈ S, b ∈ env.locals :: (env.cells.map (·.2) ++ S) := fun b hb => List.mem_cons_of_mem _ (List.mem_append_right _ hb)
    have nodupc : ∀ x ∈ env.cells, env.cells.lookup x.1 = some x.2 := by
      have hp := hs₁.apart
      have hn : (env.cells.map (·.1)).Nodup := by
        rw [e3]
        have key : ∀ (nl : List (Str × NameKind)) (j : Nat) (acc : List (Str × Addr)), (acc.map (·.1)).Nodup → ((nl.filter (·.2 == .cell)).Pairwise (fun x y => x.1 ≠ y.1)) → (∀ x ∈ nl.filter (·.2 == .cell), x.1 ∉ acc.map (·.1)) → ((cellsFrom j nl acc).map (·.1)).Nodup := by
          intro nl
          induction nl with
          | nil => intro j acc h _ _; exact h
          | cons x r ih =>
            intro j acc h hpw hni
            obtain ⟨m, kd⟩ := x
            unfold cellsFrom
            by_cases q : (kd == NameKind.cell) = true
            · rw [if_pos q]
              have qf : List.filter (fun x : Str × NameKind => x.2 == .cell) ((m, kd) :: r) = (m, kd) :: List.filter (fun x => x.2 == .cell) r := by simp [List.filter_cons, q]
              rw [qf] at hpw hni
              obtain ⟨h1, h2⟩ := List.pairwise_cons.mp hpw
              refine ih _ _ ?_ h2 fun x hx => ?_
              · simp only [List.map_cons, List.nodup_cons]
                exact ⟨hni _ List.mem_cons_self, h⟩
              · simp only [List.map_cons, List.mem_cons, not_or]
                exact ⟨Ne.symm (h1 x hx), hni x (List.mem_cons_of_mem _ hx)⟩
            · rw [if_neg q]
              have qf : List.filter (fun x : Str × NameKind => x.2 == .cell) ((m, kd) :: r) = List.filter (fun x => x.2 == .cell) r := by simp [List.filter_cons, q]
              rw [qf] at hpw hni
              exact ih _ _ h hpw hni
        exact key _ _ [] List.nodup_nil D.onceCells (fun _ _ => by simp)
      have key : ∀ (l : List (Str × Addr)), (l.map (·.1)).Nodup → ∀ x ∈ l, l.lookup x.1 = some x.2 := by
        intro l
        induction l with
        | nil => intro _ x hx; exact nomatch hx
        | cons y r ih =>
          intro hn x hx
          simp only [List.map_cons, List.nodup_cons] at hn
          rw [List.lookup_cons]
          rcases List.mem_cons.mp hx with rfl | hx
          · simp
          · have : (x.1 == y.1) = false := by
              refine beq_eq_false_iff_ne.mpr fun q => hn.1 (q ▸ List.mem_map_of_mem hx)
            rw [this]; exact ih hn.2 x hx
      exact key _ hn
    have fm : Fm w b₀ (env.locals :: (env.cells.map (·.2) ++ S)) env (names.zip ds) s₁ := by
      refine ⟨kp_trans hb₀ hkeep, hst₀, hg, htk, fun b hb => ?_, ?_, e4, e5, none_back hb₀ (fresh _ (by rw [e2]; exact Nat.le_refl _)), List.mem_cons_self, fun n c hc => ⟨List.mem_cons_of_mem _ (List.mem_append_left _ (List.mem_map.mpr ⟨_, mem_of_lookup hc, rfl⟩)), fun q => ?_⟩, fun n c hc => ⟨_, hs₁.cell n c hc⟩, ⟨_, hs₁.toInCall.ns⟩, fun n d' e => ?_⟩
      · rcases List.mem_cons.mp hb with rfl | hb
        · obtain ⟨o, _, _, e, _⟩ := hs₁.toInCall.ns; exact ⟨o, e⟩
        · rcases List.mem_append.mp hb with hb | hb
          · obtain ⟨x, hx, rfl⟩ := List.mem_map.mp hb
            obtain ⟨o, e, _⟩ := hs₁.cell x.1 x.2 (nodupc x hx)
            exact ⟨o, e⟩
          · obtain ⟨o, e⟩ := hlow b hb; exact ⟨o, kp_get hkeep _ _ e⟩
      · rw [e1]; exact D.kind
      · exact Nat.lt_irrefl _ (q ▸ hcells n c hc)
      · obtain ⟨v, hv, r⟩ := paired_zip hp n d' e
        refine ⟨v, ?_, (r.more hSf).keep (kp_x hkeep _)⟩
        have hm : n ∈ names := by rw [← hzn]; exact List.mem_map.mpr ⟨_, mem_of_lookup hv, rfl⟩
        have hnd' : ((names.zip vs).map (·.1)).Nodup := by rw [hzn]; exact hnd
        rcases Bool.or_eq_true_iff.mp (List.all_eq_true.mp D.kinds n hm) with q | q
        · have hk : env.kindOf n = some .local := by unfold Env.kindOf; rw [e1]; simpa using q
          exact .inl ⟨hk, _, hs₁.toInCall.ns, bindL_lookup _ _ _ _ _ hnd' hv hk⟩
        · have hk : env.kindOf n = some .cell := by unfold Env.kindOf; rw [e1]; simpa using q
          have hsome : (env.cells.lookup n).isSome = true := by
            have := List.all_eq_true.mp D.cells n hm
            rw [e3, cellsFrom_lookup (fS i).names _ 0 [] [] (fun _ => rfl)]
            have q' : (fS i).names.lookup n = some .cell := by simpa using q
            rw [q'] at this
            simpa using this
          obtain ⟨cc, hcc⟩ := Option.isSome_iff_exists.mp hsome
          refine .inr ⟨hk, cc, hcc, ?_⟩
          have := hs₁.cell n cc hcc
          rwa [bindC_lookup _ _ _ _ _ hnd' hv hk] at this
    have bd : Bd b₀ i (env.locals :: (env.cells.map (·.2) ++ S)) env := ⟨e1, e3, fun a ha => List.mem_cons_of_mem _ (List.mem_append_left _ ha), fun n hk hsome => by
      obtain ⟨cc, hcc⟩ := Option.isSome_iff_exists.mp hsome
      refine ⟨hk, cc, hcc, none_back hb₀ (fresh _ (Nat.le_of_lt (e2 ▸ hcells n cc hcc))), fun m hm => ?_⟩
      exact name_of_addr hs₁.apart (mem_of_lookup hm) (mem_of_lookup hcc)⟩
    have h := (body (env.locals :: (env.cells.map (·.2) ++ S)) env bd hS).run (A.deeper env) (fun e s' => wpAny (model p0 w) (A.deeper env) (leaving env e) (fun _ s'' => E e s'') (fun e' s'' => E e' s'') s') s₁ (hA.deeper env) fm
    refine wpAny_mono h (fun f s' x => ⟨x.1, fun b o hb e => x.2 b o (fun q => ?_) (kp_get hkeep _ _ e)⟩) fun _ _ x => x
    have hn : b ∉ X → b ∈ mutOf env X → s.heap.get? b = none := fun _ q => by
      rcases List.mem_cons.mp q with rfl | q
      · exact fresh _ (by rw [e2]; exact Nat.le_refl _)
      · rcases List.mem_append.mp q with q | q
        · obtain ⟨x, hx, rfl⟩ := List.mem_map.mp q
          exact fresh _ (Nat.le_of_lt (e2 ▸ hs₁.above x.1 x.2 hx))
        · exact absurd q hb
    rw [hn hb q] at e; cases e

theorem fn_run {w : World} {k : Nat} {a : Addr} {nm : Str} {i : Nat} {md : Value} {c : Addr} {names : List Str} {ds : List PV} (D : Def a nm i md c names) (hnd : names.Nodup) (hlen : names.length = ds.length) {R : Value → Shared → Prop}
    {A : Around} {E : Value → Shared → Prop} {S : List Addr} {s : Shared} {vs : List Value} (hA : AOk (k + 1) A) (hst : Stays w.params s.heap) (hg : s.gens = #[]) (htk : 0 < s.toks) (hlow : ∀ b ∈ S, ∃ o, s.heap.get? b = some o) (hp : Paired (Rep S s.heap) vs ds)
    (body : ∀ S' env, Bd s i S' env → (∀ b ∈ S, b ∈ S') → Ex w k s [] S' env (names.zip ds) (fB i) (fun f s' => R (match f with | .ret v => v | _ => .none) s')) : wpAny (model p0 w) A (PySem.call (.ref a) vs) R E s := by
  have h := fn_runB (X := []) (b₀ := s) D hnd hlen (R := R) (E := E) hA (kp_refl s) hst hg htk hlow hp body
  exact wpAny_mono h (fun _ _ x => x.1) fun _ _ x => x

theorem fn_of {w : World} {k : Nat} {a : Addr} {nm : Str} {i : Nat} {md : Value} {c : Addr} {names : List Str} {ds : List PV} {d : PV} (D : Def a nm i md c names) (hnd : names.Nodup) (hlen : names.length = ds.length)
    (body : ∀ s S env, Bd s i S env → Ex w k s [] S env (names.zip ds) (fB i) (fun f s' => match f with | .ret v => Kp s s' ∧ Rep S s'.heap v d | .next => Kp s s' ∧ d = .at .none | _ => False)) : Fn w (k + 1) a ds d := ⟨fun A E S s vs hA hst hg htk hlow hp => by
  refine fn_run D hnd hlen hA hst hg htk hlow hp fun S' env bd hS => ⟨fun A' E' s₁ a' f => wpAny_mono ((body s S' env bd).run A' E' s₁ a' f) (fun fl s' x => ⟨?_, x.2⟩) fun _ _ x => x⟩
  replace x := x.1
  cases fl with
  | ret v => exact ⟨x.1, x.2.sub hS⟩
  | next => obtain ⟨x, rfl⟩ := x; exact ⟨x, .at .none⟩
  | _ => exact x.elim⟩
end Mine
end

section
set_option maxRecDepth 100000
set_option linter.unusedVariables false
set_option linter.unusedSimpArgs false
namespace Mine
open PySem PySem.W PySem.Calls PyProof.Rows

structure Evs (w : World) (k : Nat) (S : List Addr) (env : Env) (G : Gam) (es : List Expr) (ds : List PV) : Prop where
  run : ∀ s₀ A E s pos, AOk k A → Fm w s₀ S env G s → wpAny (model p0 w) A (spliced (backTo pos (starEach es env))) (fun vs s' => Kp s s' ∧ Paired (Rep S s'.heap) vs ds) E s
/-- a builtin gives known data -/
structure Bi (w : World) (k : Nat) (id : Value) (ds : List PV) (d : PV) : Prop where
  run : ∀ A E S s vs, AOk k A → Stays w.params s.heap → s.gens = #[] → 0 < s.toks → (∀ b ∈ S, ∃ o, s.heap.get? b = some o) → Paired (Rep S s.heap) vs ds →
    wpAny (model p0 w) A (PySem.call id vs) (fun v s' => Kp s s' ∧ Rep S s'.heap v d) E s
/-- a comparison of known data -/
structure Cm (w : World) (k : Nat) (op : CmpOp) (d₁ d₂ : PV) (b : Bool) : Prop where
  run : ∀ A E S s v₁ v₂, AOk k A → Stays w.params s.heap → Rep S s.heap v₁ d₁ → Rep S s.heap v₂ d₂ → wpAny (model p0 w) A (compareOp op v₁ v₂) (fun v s' => v = .bool b ∧ Kp s s') E s
structure Bn (w : World) (k : Nat) (op : Operator) (d₁ d₂ d : PV) : Prop where
  run : ∀ A E S s v₁ v₂, AOk k A → Stays w.params s.heap → (∀ b ∈ S, ∃ o, s.heap.get? b = some o) → Rep S s.heap v₁ d₁ → Rep S s.heap v₂ d₂ → wpAny (model p0 w) A (binaryOp op v₁ v₂) (fun v s' => Kp s s' ∧ Rep S s'.heap v d) E s

section
variable {w : World} {k : Nat} {s₀ : Shared} {X S : List Addr} {env : Env} {G : Gam} {Q : Flow → Shared → Prop}
theorem paired_keep {s s' : Shared} (kk : Kp s s') {vs ds} (p : Paired (Rep S s.heap) vs ds) : Paired (Rep S s'.heap) vs ds := Paired.imp (fun _ _ r => r.keep (kp_x kk S)) p
theorem evs_nil : Evs w k S env G [] [] := ⟨fun s₀ A E s pos a f => args_nil ⟨kp_refl _, .nil⟩⟩
theorem evs_cons {e : Expr} {es : List Expr} {d : PV} {ds : List PV} (h : Ev w k S env G e d) (h' : Evs w k S env G es ds) (he : starEach (e :: es) env = (false, eval e env) :: starEach es env := by rfl) : Evs w k S env G (e :: es) (d :: ds) :=
  ⟨fun s₀ A E s pos a f => args_cons (wpAny_mono (h.run s₀ A E s a f) (fun v s₁ x => wpAny_mono (h'.run s₀ A E s₁ pos a (f.keeps x.1)) (fun vs s₂ y => ⟨kp_trans x.1 y.1, .cons (x.2.keep (kp_x y.1 S)) y.2⟩) fun _ _ x => x) fun _ _ x => x) he⟩
theorem AOk.le {k j : Nat} {A : Around} (h : AOk k A) (hj : j ≤ k := by omega) : AOk j A := h.mono hj

theorem ev_fn {fe e : Expr} {es : List Expr} {pos : Pos} {a : Addr} {j : Nat} {nm : Str} {i : Nat} {md : Value} {c : Addr} {names : List Str} {ds : List PV} {d : PV} (D : Def a nm i md c names) (hl : Ld w k S env G fe (.ref a)) (hs : Evs w k S env G (e :: es) ds) (hf : Fn w j a ds d) (hj : j ≤ k)
    (he : starEach (e :: es) env = (false, eval e env) :: starEach es env := by rfl)
    (hc : eval (.Call fe (e :: es) [] pos) env = (do callWith pos (← eval fe env) [] (backTo pos (starEach (e :: es) env)) (backToKw pos (keywordEach [] env))) := by rfl) : Ev w k S env G (.Call fe (e :: es) [] pos) d := ⟨fun s₀ A E s ha f => by
  refine Call_ (wpAny_mono (hl.run s₀ A E s ha f) (fun v s₁ x => ?_) fun _ _ x => x) hc
  obtain ⟨rfl, k1⟩ := x
  refine callWith_def (o := fnObj nm i md c) (fd := fdOf nm i md c) rfl (wpAny_mono (hs.run s₀ A E s₁ pos ha (f.keeps k1)) (fun vs s₂ y => ?_) fun _ _ x => x) he
  have f2 := (f.keeps k1).keeps y.1
  refine ⟨f2.st.obj (D.obj _) D.lt rfl, wpAny_mono (hf.run A E S s₂ vs (ha.mono hj) f2.st f2.gen f2.tk f2.low y.2) (fun v s₃ z => ⟨kp_trans k1 (kp_trans y.1 z.1), z.2⟩) fun _ _ x => x⟩⟩
theorem ev_bi {fe e : Expr} {es : List Expr} {pos : Pos} {id : String} {j : Nat} {ds : List PV} {d : PV} (hl : Ld w k S env G fe (.builtin id)) (hs : Evs w k S env G (e :: es) ds) (hf : Bi w j (.builtin id) ds d) (hj : j ≤ k)
    (he : starEach (e :: es) env = (false, eval e env) :: starEach es env := by rfl) (hplain : (backTo pos (starEach es env)).any (·.1) = false := by rfl)
    (hc : eval (.Call fe (e :: es) [] pos) env = (do callWith pos (← eval fe env) [] (backTo pos (starEach (e :: es) env)) (backToKw pos (keywordEach [] env))) := by rfl) : Ev w k S env G (.Call fe (e :: es) [] pos) d := ⟨fun s₀ A E s ha f => by
  refine Call_ (wpAny_mono (hl.run s₀ A E s ha f) (fun v s₁ x => ?_) fun _ _ x => x) hc
  obtain ⟨rfl, k1⟩ := x
  refine PyProof.Rows.callWith_builtin1 (wpAny_mono (hs.run s₀ A E s₁ pos ha (f.keeps k1)) (fun vs s₂ y => ?_) fun _ _ x => x) he hplain
  have f2 := (f.keeps k1).keeps y.1
  exact wpAny_mono (hf.run A E S s₂ vs (ha.mono hj) f2.st f2.gen f2.tk f2.low y.2) (fun v s₃ z => ⟨kp_trans k1 (kp_trans y.1 z.1), z.2⟩) fun _ _ x => x⟩
theorem ev_ty {fe e : Expr} {es : List Expr} {pos : Pos} {id : String} {j : Nat} {ds : List PV} {d : PV} (hl : Ld w k S env G fe (.type id)) (hs : Evs w k S env G (e :: es) ds) (hf : Bi w j (.type id) ds d) (hj : j ≤ k)
    (he : starEach (e :: es) env = (false, eval e env) :: starEach es env := by rfl) (hplain : (backTo pos (starEach es env)).any (·.1) = false := by rfl)
    (hc : eval (.Call fe (e :: es) [] pos) env = (do callWith pos (← eval fe env) [] (backTo pos (starEach (e :: es) env)) (backToKw pos (keywordEach [] env))) := by rfl) : Ev w k S env G (.Call fe (e :: es) [] pos) d := ⟨fun s₀ A E s ha f => by
  refine Call_ (wpAny_mono (hl.run s₀ A E s ha f) (fun v s₁ x => ?_) fun _ _ x => x) hc
  obtain ⟨rfl, k1⟩ := x
  refine PyProof.Rows.callWith_type1 (wpAny_mono (hs.run s₀ A E s₁ pos ha (f.keeps k1)) (fun vs s₂ y => ?_) fun _ _ x => x) he hplain
  have f2 := (f.keeps k1).keeps y.1
  exact wpAny_mono (hf.run A E S s₂ vs (ha.mono hj) f2.st f2.gen f2.tk f2.low y.2) (fun v s₃ z => ⟨kp_trans k1 (kp_trans y.1 z.1), z.2⟩) fun _ _ x => x⟩

theorem ev_cmp {l r : Expr} {op : CmpOp} {pos : Pos} {d₁ d₂ : PV} {b : Bool} (h₁ : Ev w k S env G l d₁) (h₂ : Ev w k S env G r d₂) (hc : Cm w k op d₁ d₂ b) (hm : behindInMarks op r = false := by with_unfolding_all rfl) :
    Ev w k S env G (.Compare l [op] [r] pos) (.at (.bool b)) := ⟨fun s₀ A E s ha f => by
  refine wpAny_Compare1 (wpAny_mono (h₁.run s₀ A E s ha f) (fun v s₁ x => wpAny_mono (h₂.run s₀ A E s₁ ha (f.keeps x.1)) (fun v₂ s₂ y => ?_) fun _ _ x => x) fun _ _ x => x) hm
  have f2 := (f.keeps x.1).keeps y.1
  exact wpAny_mono (hc.run A E S s₂ v v₂ ha f2.st (x.2.keep (kp_x y.1 S)) y.2) (fun v' s₃ z => ⟨kp_trans x.1 (kp_trans y.1 z.2), z.1 ▸ .at (.bool b)⟩) fun _ _ x => x⟩
theorem tr_cmp {l r : Expr} {op : CmpOp} {pos : Pos} {d₁ d₂ : PV} {b : Bool} (h₁ : Ev w k S env G l d₁) (h₂ : Ev w k S env G r d₂) (hc : Cm w k op d₁ d₂ b) (hm : behindInMarks op r = false := by with_unfolding_all rfl) :
    Tr w k S env G (.Compare l [op] [r] pos) b := ⟨fun s₀ A E s ha f => by
  refine wpAny_isTrue_Compare1 (wpAny_mono (h₁.run s₀ A E s ha f) (fun v s₁ x => wpAny_mono (h₂.run s₀ A E s₁ ha (f.keeps x.1)) (fun v₂ s₂ y => ?_) fun _ _ x => x) fun _ _ x => x) hm
  have f2 := (f.keeps x.1).keeps y.1
  refine wpAny_mono (hc.run A E S s₂ v v₂ ha f2.st (x.2.keep (kp_x y.1 S)) y.2) (fun v' s₃ z => ?_) fun _ _ x => x
  obtain ⟨rfl, z⟩ := z
  exact wpAny_truthy_bool ⟨rfl, kp_trans x.1 (kp_trans y.1 z)⟩⟩
theorem ev_bin {l r : Expr} {op : Operator} {pos : Pos} {d₁ d₂ d : PV} (h₁ : Ev w k S env G l d₁) (h₂ : Ev w k S env G r d₂) (hc : Bn w k op d₁ d₂ d) : Ev w k S env G (.BinOp l op r pos) d := ⟨fun s₀ A E s ha f => by
  refine wpAny_BinOp (wpAny_mono (h₁.run s₀ A E s ha f) (fun v s₁ x => wpAny_mono (h₂.run s₀ A E s₁ ha (f.keeps x.1)) (fun v₂ s₂ y => ?_) fun _ _ x => x) fun _ _ x => x)
  have f2 := (f.keeps x.1).keeps y.1
  exact wpAny_mono (hc.run A E S s₂ v v₂ ha f2.st f2.low (x.2.keep (kp_x y.1 S)) y.2) (fun v' s₃ z => ⟨kp_trans x.1 (kp_trans y.1 z.1), z.2⟩) fun _ _ x => x⟩
theorem ex_at {body rest : List Stmt} {st : Stmt} (h : body = st :: rest) (x : Ex w k s₀ X S env G (st :: rest) Q) : Ex w k s₀ X S env G body Q := h ▸ x
end
end Mine
end

section
set_option maxRecDepth 100000
set_option linter.unusedVariables false
namespace Mine
open PySem PySem.W PySem.Calls PyProof.Rows
noncomputable def mdOp : Value := .str (sx [99, 112, 121, 51, 49, 51, 46, 111, 112, 101, 114, 97, 116, 111, 114]) 282
noncomputable def mdSm : Value := .str (sx [99, 112, 121, 51, 49, 51, 46, 115, 109, 116, 112, 108, 105, 98]) 328
noncomputable def mdSp : Value := .str (sx [99, 112, 121, 51, 49, 51, 46, 115, 116, 114, 105, 110, 103, 112, 114, 101, 112]) 397
noncomputable def mdLw : Value := .str (sx [108, 97, 119, 95, 116, 105, 48, 48, 50, 56, 95, 48, 49]) 2425
theorem def_gt : Def 38 (sx [103, 116]) 2 mdOp 37 ["a", "b"] where
  obj := by intro P; kernel_rfl
  lt := by decide
  ltc := by decide
  code := by intro P; kernel_rfl
  bind := fun
    | [x0, x1], _ => by kernel_rfl
  kinds := by kernel_rfl
  cells := by kernel_rfl
  kind := by kernel_rfl
  co := by kernel_rfl
  gen := by kernel_rfl
  onceCells := by rw [show ((fS 2).names.filter (·.2 == .cell)) = [] by kernel_rfl]; exact .nil
theorem gm_gt (P : Params) : GM P "gt" = some (.ref 38) := by unfold GM; kernel_rfl
theorem def_concat : Def 45 (sx [99, 111, 110, 99, 97, 116]) 3 mdOp 44 ["a", "b"] where
  obj := by intro P; kernel_rfl
  lt := by decide
  ltc := by decide
  code := by intro P; kernel_rfl
  bind := fun
    | [x0, x1], _ => by kernel_rfl
  kinds := by kernel_rfl
  cells := by kernel_rfl
  kind := by kernel_rfl
  co := by kernel_rfl
  gen := by kernel_rfl
  onceCells := by rw [show ((fS 3).names.filter (·.2 == .cell)) = [] by kernel_rfl]; exact .nil
theorem gm_concat (P : Params) : GM P "concat" = some (.ref 45) := by unfold GM; kernel_rfl
theorem def_countOf : Def 52 (sx [99, 111, 117, 110, 116, 79, 102]) 4 mdOp 51 ["a", "b"] where
  obj := by intro P; kernel_rfl
  lt := by decide
  ltc := by decide
  code := by intro P; kernel_rfl
  bind := fun
    | [x0, x1], _ => by kernel_rfl
  kinds := by kernel_rfl
  cells := by kernel_rfl
  kind := by kernel_rfl
  co := by kernel_rfl
  gen := by kernel_rfl
  onceCells := by rw [show ((fS 4).names.filter (·.2 == .cell)) = [] by kernel_rfl]; exact .nil
theorem gm_countOf (P : Params) : GM P "countOf" = some (.ref 52) := by unfold GM; kernel_rfl
theorem def_getitem : Def 59 (sx [103, 101, 116, 105, 116, 101, 109]) 5 mdOp 58 ["a", "b"] where
  obj := by intro P; kernel_rfl
  lt := by decide
  ltc := by decide
  code := by intro P; kernel_rfl
  bind := fun
    | [x0, x1], _ => by kernel_rfl
  kinds := by kernel_rfl
  cells := by kernel_rfl
  kind := by kernel_rfl
  co := by kernel_rfl
  gen := by kernel_rfl
  onceCells := by rw [show ((fS 5).names.filter (·.2 == .cell)) = [] by kernel_rfl]; exact .nil
theorem gm_getitem (P : Params) : GM P "getitem" = some (.ref 59) := by unfold GM; kernel_rfl
theorem def_setitem : Def 66 (sx [115, 101, 116, 105, 116, 101, 109]) 6 mdOp 65 ["a", "b", "c"] where
  obj := by intro P; kernel_rfl
  lt := by decide
  ltc := by decide
  code := by intro P; kernel_rfl
  bind := fun
    | [x0, x1, x2], _ => by kernel_rfl
  kinds := by kernel_rfl
  cells := by kernel_rfl
  kind := by kernel_rfl
  co := by kernel_rfl
  gen := by kernel_rfl
  onceCells := by rw [show ((fS 6).names.filter (·.2 == .cell)) = [] by kernel_rfl]; exact .nil
theorem gm_setitem (P : Params) : GM P "setitem" = some (.ref 66) := by unfold GM; kernel_rfl
theorem def_quotedata : Def 83 (sx [113, 117, 111, 116, 101, 100, 97, 116, 97]) 11 mdSm 82 ["data"] where
  obj := by intro P; kernel_rfl
  lt := by decide
  ltc := by decide
  code := by intro P; kernel_rfl
  bind := fun
    | [x0], _ => by kernel_rfl
  kinds := by kernel_rfl
  cells := by kernel_rfl
  kind := by kernel_rfl
  co := by kernel_rfl
  gen := by kernel_rfl
  onceCells := by rw [show ((fS 11).names.filter (·.2 == .cell)) = [] by kernel_rfl]; exact .nil
theorem gm_quotedata (P : Params) : GM P "quotedata" = some (.ref 83) := by unfold GM; kernel_rfl
theorem def_in_table_b1 : Def 101 (sx [105, 110, 95, 116, 97, 98, 108, 101, 95, 98, 49]) 14 mdSp 100 ["code"] where
  obj := by intro P; kernel_rfl
  lt := by decide
  ltc := by decide
  code := by intro P; kernel_rfl
  bind := fun
    | [x0], _ => by kernel_rfl
  kinds := by kernel_rfl
  cells := by kernel_rfl
  kind := by kernel_rfl
  co := by kernel_rfl
  gen := by kernel_rfl
  onceCells := by rw [show ((fS 14).names.filter (·.2 == .cell)) = [] by kernel_rfl]; exact .nil
theorem gm_in_table_b1 (P : Params) : GM P "in_table_b1" = some (.ref 101) := by unfold GM; kernel_rfl
theorem def_map_table_b3 : Def 147 (sx [109, 97, 112, 95, 116, 97, 98, 108, 101, 95, 98, 51]) 16 mdSp 146 ["code"] where
  obj := by intro P; kernel_rfl
  lt := by decide
  ltc := by decide
  code := by intro P; kernel_rfl
  bind := fun
    | [x0], _ => by kernel_rfl
  kinds := by kernel_rfl
  cells := by kernel_rfl
  kind := by kernel_rfl
  co := by kernel_rfl
  gen := by kernel_rfl
  onceCells := by rw [show ((fS 16).names.filter (·.2 == .cell)) = [] by kernel_rfl]; exact .nil
theorem gm_map_table_b3 (P : Params) : GM P "map_table_b3" = some (.ref 147) := by unfold GM; kernel_rfl
theorem def_l_form : Def 154 (sx [95, 108, 97, 119, 95, 102, 111, 114, 109]) 18 mdLw 153 ["letter", "form"] where
  obj := by intro P; kernel_rfl
  lt := by decide
  ltc := by decide
  code := by intro P; kernel_rfl
  bind := fun
    | [x0, x1], _ => by kernel_rfl
  kinds := by kernel_rfl
  cells := by kernel_rfl
  kind := by kernel_rfl
  co := by kernel_rfl
  gen := by kernel_rfl
  onceCells := by rw [show ((fS 18).names.filter (·.2 == .cell)) = [] by kernel_rfl]; exact .nil
theorem gm_l_form (P : Params) : GM P "_law_form" = some (.ref 154) := by unfold GM; kernel_rfl
theorem def_l_unseen : Def 161 (sx [95, 108, 97, 119, 95, 117, 110, 115, 101, 101, 110]) 19 mdLw 160 ["number"] where
  obj := by intro P; kernel_rfl
  lt := by decide
  ltc := by decide
  code := by intro P; kernel_rfl
  bind := fun
    | [x0], _ => by kernel_rfl
  kinds := by kernel_rfl
  cells := by kernel_rfl
  kind := by kernel_rfl
  co := by kernel_rfl
  gen := by kernel_rfl
  onceCells := by rw [show ((fS 19).names.filter (·.2 == .cell)) = [] by kernel_rfl]; exact .nil
theorem gm_l_unseen (P : Params) : GM P "_law_unseen" = some (.ref 161) := by unfold GM; kernel_rfl
theorem def_l_beside : Def 168 (sx [95, 108, 97, 119, 95, 98, 101, 115, 105, 100, 101]) 20 mdLw 167 ["number"] where
  obj := by intro P; kernel_rfl
  lt := by decide
  ltc := by decide
  code := by intro P; kernel_rfl
  bind := fun
    | [x0], _ => by kernel_rfl
  kinds := by kernel_rfl
  cells := by kernel_rfl
  kind := by kernel_rfl
  co := by kernel_rfl
  gen := by kernel_rfl
  onceCells := by rw [show ((fS 20).names.filter (·.2 == .cell)) = [] by kernel_rfl]; exact .nil
theorem gm_l_beside (P : Params) : GM P "_law_beside" = some (.ref 168) := by unfold GM; kernel_rfl
theorem def_l_typed : Def 175 (sx [95, 108, 97, 119, 95, 116, 121, 112, 101, 100]) 21 mdLw 174 ["cell"] where
  obj := by intro P; kernel_rfl
  lt := by decide
  ltc := by decide
  code := by intro P; kernel_rfl
  bind := fun
    | [x0], _ => by kernel_rfl
  kinds := by kernel_rfl
  cells := by kernel_rfl
  kind := by kernel_rfl
  co := by kernel_rfl
  gen := by kernel_rfl
  onceCells := by rw [show ((fS 21).names.filter (·.2 == .cell)) = [] by kernel_rfl]; exact .nil
theorem gm_l_typed (P : Params) : GM P "_law_typed" = some (.ref 175) := by unfold GM; kernel_rfl
theorem def_l_prepared : Def 182 (sx [95, 108, 97, 119, 95, 112, 114, 101, 112, 97, 114, 101, 100]) 22 mdLw 181 ["text"] where
  obj := by intro P; kernel_rfl
  lt := by decide
  ltc := by decide
  code := by intro P; kernel_rfl
  bind := fun
    | [x0], _ => by kernel_rfl
  kinds := by kernel_rfl
  cells := by kernel_rfl
  kind := by kernel_rfl
  co := by kernel_rfl
  gen := by kernel_rfl
  onceCells := by rw [show ((fS 22).names.filter (·.2 == .cell)) = [] by kernel_rfl]; exact .nil
theorem gm_l_prepared (P : Params) : GM P "_law_prepared" = some (.ref 182) := by unfold GM; kernel_rfl
theorem def_l_page : Def 187 (sx [95, 108, 97, 119, 95, 112, 97, 103, 101]) 23 mdLw 186 ["ends", "dots", "names"] where
  obj := by intro P; kernel_rfl
  lt := by decide
  ltc := by decide
  code := by intro P; kernel_rfl
  bind := fun
    | [x0, x1, x2], _ => by kernel_rfl
  kinds := by kernel_rfl
  cells := by kernel_rfl
  kind := by kernel_rfl
  co := by kernel_rfl
  gen := by kernel_rfl
  onceCells := by rw [show ((fS 23).names.filter (·.2 == .cell)) = ([("ends", NameKind.cell), ("dots", NameKind.cell), ("names", NameKind.cell)] : List (Str × NameKind)) by kernel_rfl]; decide +kernel
theorem gm_l_page (P : Params) : GM P "_law_page" = some (.ref 187) := by unfold GM; kernel_rfl
theorem def_l_read : Def 194 (sx [95, 108, 97, 119, 95, 114, 101, 97, 100]) 24 mdLw 193 ["dots"] where
  obj := by intro P; kernel_rfl
  lt := by decide
  ltc := by decide
  code := by intro P; kernel_rfl
  bind := fun
    | [x0], _ => by kernel_rfl
  kinds := by kernel_rfl
  cells := by kernel_rfl
  kind := by kernel_rfl
  co := by kernel_rfl
  gen := by kernel_rfl
  onceCells := by rw [show ((fS 24).names.filter (·.2 == .cell)) = [] by kernel_rfl]; exact .nil
theorem gm_l_read (P : Params) : GM P "_law_read" = some (.ref 194) := by unfold GM; kernel_rfl
theorem def_l_pass : Def 201 (sx [95, 108, 97, 119, 95, 112, 97, 115, 115]) 25 mdLw 200 ["word", "letters"] where
  obj := by intro P; kernel_rfl
  lt := by decide
  ltc := by decide
  code := by intro P; kernel_rfl
  bind := fun
    | [x0, x1], _ => by kernel_rfl
  kinds := by kernel_rfl
  cells := by kernel_rfl
  kind := by kernel_rfl
  co := by kernel_rfl
  gen := by kernel_rfl
  onceCells := by rw [show ((fS 25).names.filter (·.2 == .cell)) = [] by kernel_rfl]; exact .nil
theorem gm_l_pass (P : Params) : GM P "_law_pass" = some (.ref 201) := by unfold GM; kernel_rfl
theorem def_law : Def 206 (sx [108, 97, 119]) 26 mdLw 205 ["script"] where
  obj := by intro P; kernel_rfl
  lt := by decide
  ltc := by decide
  code := by intro P; kernel_rfl
  bind := fun
    | [x0], _ => by kernel_rfl
  kinds := by kernel_rfl
  cells := by kernel_rfl
  kind := by kernel_rfl
  co := by kernel_rfl
  gen := by kernel_rfl
  onceCells := by rw [show ((fS 26).names.filter (·.2 == .cell)) = ([("script", NameKind.cell), ("base", NameKind.cell), ("drawn", NameKind.cell), ("total", NameKind.cell), ("order", NameKind.cell), ("rows", NameKind.cell), ("folded", NameKind.cell), ("sending", NameKind.cell), ("turn", NameKind.cell)] : List (Str × NameKind)) by kernel_rfl]; decide +kernel
theorem gm_law (P : Params) : GM P "law" = some (.ref 206) := by unfold GM; kernel_rfl
theorem gm_chr (P : Params) : GM P "chr" = none := by unfold GM; kernel_rfl
theorem bb_chr : bootBuiltins "chr" = some (.builtin "chr") := by kernel_rfl
theorem gm_ord (P : Params) : GM P "ord" = none := by unfold GM; kernel_rfl
theorem bb_ord : bootBuiltins "ord" = some (.builtin "ord") := by kernel_rfl
theorem gm_len (P : Params) : GM P "len" = none := by unfold GM; kernel_rfl
theorem bb_len : bootBuiltins "len" = some (.builtin "len") := by kernel_rfl
theorem gm_range (P : Params) : GM P "range" = none := by unfold GM; kernel_rfl
theorem bb_range : bootBuiltins "range" = some (.type "range") := by kernel_rfl
theorem gm_list (P : Params) : GM P "list" = none := by unfold GM; kernel_rfl
theorem bb_list : bootBuiltins "list" = some (.type "list") := by kernel_rfl
theorem gm_sum (P : Params) : GM P "sum" = none := by unfold GM; kernel_rfl
theorem bb_sum : bootBuiltins "sum" = some (.builtin "sum") := by kernel_rfl
theorem gm_sorted (P : Params) : GM P "sorted" = none := by unfold GM; kernel_rfl
theorem bb_sorted : bootBuiltins "sorted" = some (.builtin "sorted") := by kernel_rfl
theorem gm_max (P : Params) : GM P "max" = none := by unfold GM; kernel_rfl
theorem bb_max : bootBuiltins "max" = some (.builtin "max") := by kernel_rfl
theorem gm_type (P : Params) : GM P "type" = none := by unfold GM; kernel_rfl
theorem bb_type : bootBuiltins "type" = some (.type "type") := by kernel_rfl
theorem gm_hasattr (P : Params) : GM P "hasattr" = none := by unfold GM; kernel_rfl
theorem bb_hasattr : bootBuiltins "hasattr" = some (.builtin "hasattr") := by kernel_rfl
theorem gm_int (P : Params) : GM P "int" = none := by unfold GM; kernel_rfl
theorem bb_int : bootBuiltins "int" = some (.type "int") := by kernel_rfl
theorem gm_b1 (P : Params) : GM P "b1_set" = some (.ref 91) := by unfold GM; kernel_rfl
theorem gm_b3 (P : Params) : GM P "b3_exceptions" = some (.ref 102) := by unfold GM; kernel_rfl
theorem gm_re1 (P : Params) : GM P "_twin_re_1" = some (.ref 71) := by unfold GM; kernel_rfl
theorem gm_re2 (P : Params) : GM P "_twin_re_2" = some (.ref 76) := by unfold GM; kernel_rfl
theorem gm_crlf (P : Params) : GM P "CRLF" = some (.str (sx [13, 10]) 388) := by unfold GM; kernel_rfl
end Mine
end

section
set_option maxRecDepth 100000
set_option linter.unusedVariables false
set_option linter.unusedSimpArgs false
namespace Mine
open PySem PySem.W PySem.Calls PyProof.Rows
open PySem.AutoSeq1 (wpAny_loadPart')

section
variable {w : World} {k : Nat}
theorem cm_gt_int {a b : Int} : Cm w k .Gt (.at (.int a)) (.at (.int b)) (decide (a > b)) := ⟨fun A E S s v₁ v₂ hA st r₁ r₂ => by
  cases r₁ using Rep.cAt with | «at» r₁ => (first | cases r₁ using Atom.cInt | cases r₁ using Atom.cStr | cases r₁ using Atom.cBool | cases r₁ using Atom.cNone | cases r₁); cases r₂ using Rep.cAt with | «at» r₂ => (first | cases r₂ using Atom.cInt | cases r₂ using Atom.cStr | cases r₂ using Atom.cBool | cases r₂ using Atom.cNone | cases r₂); exact gt_int ⟨rfl, kp_refl _⟩⟩
theorem cm_lt_int {a b : Int} : Cm w k .Lt (.at (.int a)) (.at (.int b)) (decide (a < b)) := ⟨fun A E S s v₁ v₂ hA st r₁ r₂ => by
  cases r₁ using Rep.cAt with | «at» r₁ => (first | cases r₁ using Atom.cInt | cases r₁ using Atom.cStr | cases r₁ using Atom.cBool | cases r₁ using Atom.cNone | cases r₁); cases r₂ using Rep.cAt with | «at» r₂ => (first | cases r₂ using Atom.cInt | cases r₂ using Atom.cStr | cases r₂ using Atom.cBool | cases r₂ using Atom.cNone | cases r₂); exact lt_int ⟨rfl, kp_refl _⟩⟩
theorem cm_ge_int {a b : Int} : Cm w k .GtE (.at (.int a)) (.at (.int b)) (decide (a ≥ b)) := ⟨fun A E S s v₁ v₂ hA st r₁ r₂ => by
  cases r₁ using Rep.cAt with | «at» r₁ => (first | cases r₁ using Atom.cInt | cases r₁ using Atom.cStr | cases r₁ using Atom.cBool | cases r₁ using Atom.cNone | cases r₁); cases r₂ using Rep.cAt with | «at» r₂ => (first | cases r₂ using Atom.cInt | cases r₂ using Atom.cStr | cases r₂ using Atom.cBool | cases r₂ using Atom.cNone | cases r₂); exact P.ge_int ⟨rfl, kp_refl _⟩⟩
theorem cm_eq_int {a b : Int} : Cm w k .Eq (.at (.int a)) (.at (.int b)) (a == b) := ⟨fun A E S s v₁ v₂ hA st r₁ r₂ => by
  cases r₁ using Rep.cAt with | «at» r₁ => (first | cases r₁ using Atom.cInt | cases r₁ using Atom.cStr | cases r₁ using Atom.cBool | cases r₁ using Atom.cNone | cases r₁); cases r₂ using Rep.cAt with | «at» r₂ => (first | cases r₂ using Atom.cInt | cases r₂ using Atom.cStr | cases r₂ using Atom.cBool | cases r₂ using Atom.cNone | cases r₂); exact eq_int ⟨rfl, kp_refl _⟩⟩
theorem cm_ne_int {a b : Int} : Cm w k .NotEq (.at (.int a)) (.at (.int b)) (a != b) := ⟨fun A E S s v₁ v₂ hA st r₁ r₂ => by
  cases r₁ using Rep.cAt with | «at» r₁ => (first | cases r₁ using Atom.cInt | cases r₁ using Atom.cStr | cases r₁ using Atom.cBool | cases r₁ using Atom.cNone | cases r₁); cases r₂ using Rep.cAt with | «at» r₂ => (first | cases r₂ using Atom.cInt | cases r₂ using Atom.cStr | cases r₂ using Atom.cBool | cases r₂ using Atom.cNone | cases r₂); exact ne_int ⟨rfl, kp_refl _⟩⟩
theorem cm_eq_str {a b : List Nat} : Cm w k .Eq (.at (.str a)) (.at (.str b)) (a == b) := ⟨fun A E S s v₁ v₂ hA st r₁ r₂ => by
  cases r₁ using Rep.cAt with | «at» r₁ => (first | cases r₁ using Atom.cInt | cases r₁ using Atom.cStr | cases r₁ using Atom.cBool | cases r₁ using Atom.cNone | cases r₁); cases r₂ using Rep.cAt with | «at» r₂ => (first | cases r₂ using Atom.cInt | cases r₂ using Atom.cStr | cases r₂ using Atom.cBool | cases r₂ using Atom.cNone | cases r₂); exact P.eq_str ⟨rfl, kp_refl _⟩⟩
theorem cm_ne_str {a b : List Nat} : Cm w k .NotEq (.at (.str a)) (.at (.str b)) (a != b) := ⟨fun A E S s v₁ v₂ hA st r₁ r₂ => by
  cases r₁ using Rep.cAt with | «at» r₁ => (first | cases r₁ using Atom.cInt | cases r₁ using Atom.cStr | cases r₁ using Atom.cBool | cases r₁ using Atom.cNone | cases r₁); cases r₂ using Rep.cAt with | «at» r₂ => (first | cases r₂ using Atom.cInt | cases r₂ using Atom.cStr | cases r₂ using Atom.cBool | cases r₂ using Atom.cNone | cases r₂); exact P.ne_str ⟨rfl, kp_refl _⟩⟩
theorem cm_gt_str {a b : List Nat} : Cm w k .Gt (.at (.str a)) (.at (.str b)) (decide (b < a)) := ⟨fun A E S s v₁ v₂ hA st r₁ r₂ => by
  cases r₁ using Rep.cAt with | «at» r₁ => (first | cases r₁ using Atom.cInt | cases r₁ using Atom.cStr | cases r₁ using Atom.cBool | cases r₁ using Atom.cNone | cases r₁); cases r₂ using Rep.cAt with | «at» r₂ => (first | cases r₂ using Atom.cInt | cases r₂ using Atom.cStr | cases r₂ using Atom.cBool | cases r₂ using Atom.cNone | cases r₂); exact P.gt_str ⟨rfl, kp_refl _⟩⟩
theorem cm_lt_str {a b : List Nat} : Cm w k .Lt (.at (.str a)) (.at (.str b)) (decide (a < b)) := ⟨fun A E S s v₁ v₂ hA st r₁ r₂ => by
  cases r₁ using Rep.cAt with | «at» r₁ => (first | cases r₁ using Atom.cInt | cases r₁ using Atom.cStr | cases r₁ using Atom.cBool | cases r₁ using Atom.cNone | cases r₁); cases r₂ using Rep.cAt with | «at» r₂ => (first | cases r₂ using Atom.cInt | cases r₂ using Atom.cStr | cases r₂ using Atom.cBool | cases r₂ using Atom.cNone | cases r₂); exact P.lt_str ⟨rfl, kp_refl _⟩⟩
theorem cm_is_bool {a b : Bool} : Cm w k .Is (.at (.bool a)) (.at (.bool b)) (a == b) := ⟨fun A E S s v₁ v₂ hA st r₁ r₂ => by
  cases r₁ using Rep.cAt with | «at» r₁ => (first | cases r₁ using Atom.cInt | cases r₁ using Atom.cStr | cases r₁ using Atom.cBool | cases r₁ using Atom.cNone | cases r₁); cases r₂ using Rep.cAt with | «at» r₂ => (first | cases r₂ using Atom.cInt | cases r₂ using Atom.cStr | cases r₂ using Atom.cBool | cases r₂ using Atom.cNone | cases r₂); exact wpAny_is_plain rfl ⟨by cases a <;> cases b <;> rfl, kp_refl _⟩⟩
theorem cm_isnot_bool {a b : Bool} : Cm w k .IsNot (.at (.bool a)) (.at (.bool b)) (a != b) := ⟨fun A E S s v₁ v₂ hA st r₁ r₂ => by
  cases r₁ using Rep.cAt with | «at» r₁ => (first | cases r₁ using Atom.cInt | cases r₁ using Atom.cStr | cases r₁ using Atom.cBool | cases r₁ using Atom.cNone | cases r₁); cases r₂ using Rep.cAt with | «at» r₂ => (first | cases r₂ using Atom.cInt | cases r₂ using Atom.cStr | cases r₂ using Atom.cBool | cases r₂ using Atom.cNone | cases r₂); exact wpAny_isNot_plain rfl ⟨by cases a <;> cases b <;> rfl, kp_refl _⟩⟩
theorem cm_isnot_none_str {a : List Nat} : Cm w k .IsNot (.at (.str a)) (.at .none) true := ⟨fun A E S s v₁ v₂ hA st r₁ r₂ => by
  cases r₁ using Rep.cAt with | «at» r₁ => (first | cases r₁ using Atom.cInt | cases r₁ using Atom.cStr | cases r₁ using Atom.cBool | cases r₁ using Atom.cNone | cases r₁); cases r₂ using Rep.cAt with | «at» r₂ => (first | cases r₂ using Atom.cInt | cases r₂ using Atom.cStr | cases r₂ using Atom.cBool | cases r₂ using Atom.cNone | cases r₂); exact wpAny_isNot_plain rfl ⟨rfl, kp_refl _⟩⟩
theorem cm_isnot_none_none : Cm w k .IsNot (.at .none) (.at .none) false := ⟨fun A E S s v₁ v₂ hA st r₁ r₂ => by
  cases r₁ using Rep.cAt with | «at» r₁ => (first | cases r₁ using Atom.cInt | cases r₁ using Atom.cStr | cases r₁ using Atom.cBool | cases r₁ using Atom.cNone | cases r₁); cases r₂ using Rep.cAt with | «at» r₂ => (first | cases r₂ using Atom.cInt | cases r₂ using Atom.cStr | cases r₂ using Atom.cBool | cases r₂ using Atom.cNone | cases r₂); exact wpAny_isNot_plain rfl ⟨rfl, kp_refl _⟩⟩

theorem bn_add_int {a b : Int} : Bn w k .Add (.at (.int a)) (.at (.int b)) (.at (.int (a + b))) := ⟨fun A E S s v₁ v₂ hA st hl r₁ r₂ => by
  cases r₁ using Rep.cAt with | «at» r₁ => (first | cases r₁ using Atom.cInt | cases r₁ using Atom.cStr | cases r₁ using Atom.cBool | cases r₁ using Atom.cNone | cases r₁); cases r₂ using Rep.cAt with | «at» r₂ => (first | cases r₂ using Atom.cInt | cases r₂ using Atom.cStr | cases r₂ using Atom.cBool | cases r₂ using Atom.cNone | cases r₂); exact add_int ⟨kp_tok, .at (.int _ _)⟩⟩
theorem bn_sub_int {a b : Int} : Bn w k .Sub (.at (.int a)) (.at (.int b)) (.at (.int (a - b))) := ⟨fun A E S s v₁ v₂ hA st hl r₁ r₂ => by
  cases r₁ using Rep.cAt with | «at» r₁ => (first | cases r₁ using Atom.cInt | cases r₁ using Atom.cStr | cases r₁ using Atom.cBool | cases r₁ using Atom.cNone | cases r₁); cases r₂ using Rep.cAt with | «at» r₂ => (first | cases r₂ using Atom.cInt | cases r₂ using Atom.cStr | cases r₂ using Atom.cBool | cases r₂ using Atom.cNone | cases r₂); exact sub_int ⟨kp_tok, .at (.int _ _)⟩⟩
theorem bn_mul_int {a b : Int} (h : a.natAbs < 2 ^ 64) : Bn w k .Mult (.at (.int a)) (.at (.int b)) (.at (.int (a * b))) := ⟨fun A E S s v₁ v₂ hA st hl r₁ r₂ => by
  cases r₁ using Rep.cAt with | «at» r₁ => (first | cases r₁ using Atom.cInt | cases r₁ using Atom.cStr | cases r₁ using Atom.cBool | cases r₁ using Atom.cNone | cases r₁); cases r₂ using Rep.cAt with | «at» r₂ => (first | cases r₂ using Atom.cInt | cases r₂ using Atom.cStr | cases r₂ using Atom.cBool | cases r₂ using Atom.cNone | cases r₂); exact mul_int ⟨kp_tok, .at (.int _ _)⟩ (.of_left (intBits_le h))⟩
theorem bn_mod_int {a b : Int} (h : 0 < b) : Bn w k .Mod (.at (.int a)) (.at (.int b)) (.at (.int (a % b))) := ⟨fun A E S s v₁ v₂ hA st hl r₁ r₂ => by
  cases r₁ using Rep.cAt with | «at» r₁ => (first | cases r₁ using Atom.cInt | cases r₁ using Atom.cStr | cases r₁ using Atom.cBool | cases r₁ using Atom.cNone | cases r₁); cases r₂ using Rep.cAt with | «at» r₂ => (first | cases r₂ using Atom.cInt | cases r₂ using Atom.cStr | cases r₂ using Atom.cBool | cases r₂ using Atom.cNone | cases r₂); exact mod_int' (by (first | lia | omega)) ⟨kp_tok, by rw [Int.fmod_eq_emod_of_nonneg _ (by (first | lia | omega))]; exact .at (.int _ _)⟩⟩
theorem bn_div_int {a b : Int} (h : 0 < b) (hb : b < 2 ^ 30) : Bn w k .FloorDiv (.at (.int a)) (.at (.int b)) (.at (.int (a / b))) := ⟨fun A E S s v₁ v₂ hA st hl r₁ r₂ => by
  cases r₁ using Rep.cAt with | «at» r₁ => (first | cases r₁ using Atom.cInt | cases r₁ using Atom.cStr | cases r₁ using Atom.cBool | cases r₁ using Atom.cNone | cases r₁); cases r₂ using Rep.cAt with | «at» r₂ => (first | cases r₂ using Atom.cInt | cases r₂ using Atom.cStr | cases r₂ using Atom.cBool | cases r₂ using Atom.cNone | cases r₂); exact floordiv_int (by (first | lia | omega)) ⟨kp_tok, by rw [Int.fdiv_eq_ediv_of_nonneg _ (by (first | lia | omega))]; exact .at (.int _ _)⟩ (.inl (PyProof.noPylong_small (by (first | lia | omega))))⟩
theorem bn_pow_int {a b : Int} (h0 : 0 ≤ b) (h1 : b ≤ 1000000) (ha : a.natAbs < 2 ^ 64) : Bn w k .Pow (.at (.int a)) (.at (.int b)) (.at (.int (a ^ b.toNat))) := ⟨fun A E S s v₁ v₂ hA st hl r₁ r₂ => by
  cases r₁ using Rep.cAt with | «at» r₁ => (first | cases r₁ using Atom.cInt | cases r₁ using Atom.cStr | cases r₁ using Atom.cBool | cases r₁ using Atom.cNone | cases r₁); cases r₂ using Rep.cAt with | «at» r₂ => (first | cases r₂ using Atom.cInt | cases r₂ using Atom.cStr | cases r₂ using Atom.cBool | cases r₂ using Atom.cNone | cases r₂); exact pow_int_small h0 h1 ha ⟨kp_tok, .at (.int _ _)⟩⟩
theorem T_append (a b : List Nat) : T_ a ++ T_ b = T_ (a ++ b) := by
  show (⟨a.toArray ++ b.toArray⟩ : Str) = ⟨(a ++ b).toArray⟩
  simp
theorem T_length (a : List Nat) : (T_ a).length = a.length := by show (a.toArray).size = _; simp
theorem bn_add_str {a b : List Nat} (h : a.length + b.length ≤ 2 ^ 24) : Bn w k .Add (.at (.str a)) (.at (.str b)) (.at (.str (a ++ b))) := ⟨fun A E S s v₁ v₂ hA st hl r₁ r₂ => by
  cases r₁ using Rep.cAt with | «at» r₁ => (first | cases r₁ using Atom.cInt | cases r₁ using Atom.cStr | cases r₁ using Atom.cBool | cases r₁ using Atom.cNone | cases r₁); cases r₂ using Rep.cAt with | «at» r₂ =>
    (first | cases r₂ using Atom.cInt | cases r₂ using Atom.cStr | cases r₂ using Atom.cBool | cases r₂ using Atom.cNone | cases r₂)
    exact kp_of (SB.add (fun t' j => ⟨keeps_tok, by rw [T_append]; exact .at (.str _ _)⟩) (by rw [T_length, T_length]; exact h))⟩
theorem foldl_rep (l : List Nat) : ∀ (n : Nat) (acc : Array Nat), ((List.replicate n l.toArray).foldl (· ++ ·) acc) = (acc.toList ++ (List.replicate n l).flatten).toArray
  | 0, acc => by simp
  | n + 1, acc => by
    rw [List.replicate_succ, List.foldl_cons, foldl_rep l n]
    simp [List.replicate_succ]
theorem bn_mul_str {a : List Nat} {n : Int} (hn : n < 2 ^ 20) (hn0 : 0 ≤ n) (hs : a.length * n.toNat ≤ 2 ^ 24) : Bn w k .Mult (.at (.str a)) (.at (.int n)) (.at (.str (List.replicate n.toNat a).flatten)) := ⟨fun A E S s v₁ v₂ hA st hl r₁ r₂ => by
  cases r₁ using Rep.cAt with | «at» r₁ => (first | cases r₁ using Atom.cInt | cases r₁ using Atom.cStr | cases r₁ using Atom.cBool | cases r₁ using Atom.cNone | cases r₁); cases r₂ using Rep.cAt with | «at» r₂ =>
    (first | cases r₂ using Atom.cInt | cases r₂ using Atom.cStr | cases r₂ using Atom.cBool | cases r₂ using Atom.cNone | cases r₂)
    refine P.mul_str ?_ (fun _ _ => ?_) (fun _ _ => ?_) ?_
    · rw [decide_eq_false (by (first | lia | omega)), decide_eq_false (by (first | lia | omega))]; rfl
    · rw [T_length]
      rename_i h1 h2
      have h3 : n = 1 ∨ 1 < n := by (first | lia | omega)
      rcases h3 with rfl | h3
      · simp at h2
      · have : (a.length : Int) ≤ 2 ^ 24 := by
          have h5 : a.length * 1 ≤ a.length * n.toNat := Nat.mul_le_mul_left _ (by (first | lia | omega))
          (first | lia | omega)
        have h6 : (2 ^ 63 - 1 : Int) / n ≥ 2 ^ 40 := by
          refine Int.le_ediv_of_mul_le (by (first | lia | omega)) ?_
          have : (2 ^ 40 : Int) * n ≤ 2 ^ 40 * 2 ^ 20 := Int.mul_le_mul_of_nonneg_left (by (first | lia | omega)) (by decide)
          (first | lia | omega)
        (first | lia | omega)
    · rw [T_length]; unfold Builtin.Str.tooLong sizeLine; exact decide_eq_false (by (first | lia | omega))
    · by_cases h1 : n < 1
      · rw [if_pos h1]
        have : n.toNat = 0 := by (first | lia | omega)
        rw [this]
        exact ⟨by decide, kp_tok, .at (.str [] _)⟩
      · rw [if_neg h1]
        cases h2 : (n == 1 || (T_ a).length == 0) with
        | true =>
          refine ⟨kp_refl _, ?_⟩
          rcases Bool.or_eq_true_iff.mp h2 with h3 | h3
          · have : n = 1 := by simpa using h3
            subst this
            simp [List.replicate]
            exact .at (.str _ _)
          · have : a = [] := by rw [T_length] at h3; simpa using h3
            subst this
            simp
            exact .at (.str _ _)
        | false =>
          have e : (⟨(List.replicate n.toNat (T_ a).cps).foldl (· ++ ·) #[]⟩ : Str) = T_ (List.replicate n.toNat a).flatten := by
            show (⟨(List.replicate n.toNat a.toArray).foldl (· ++ ·) #[]⟩ : Str) = _
            rw [foldl_rep]; rfl
          simp only [Bool.false_eq_true, if_false]
          rw [e]
          refine ⟨?_, kp_tok, .at (.str _ _)⟩
          rw [T_length]
          simp only [List.length_flatten, List.map_replicate, List.sum_replicate_nat]
          unfold sizeLine; rw [Nat.mul_comm]; exact hs⟩
theorem fresh_none {h : Heap} : h.get? h.objs.size = none := by
  cases e : h.get? h.objs.size with
  | none => rfl
  | some o => exact absurd (Heap.lt_size e) (Nat.lt_irrefl _)
theorem fresh_off {S : List Addr} {h : Heap} (hl : ∀ b ∈ S, ∃ o, h.get? b = some o) : h.objs.size ∉ S := fun q => by
  obtain ⟨o, e⟩ := hl _ q
  rw [fresh_none] at e; cases e
theorem add_lists' {A : Around} {E : Value → Shared → Prop} {s : Shared} {l b : Addr} {its its2 : Array Value} {Q : Value → Shared → Prop} (hl : s.heap.PlainList l its) (hb : s.heap.PlainList b its2)
    (h : Q (.ref s.heap.objs.size) { s with heap := s.heap.push { cls := .type "list", data := .seq (its ++ its2) } })
    (hsz : its.size + its2.size ≤ sizeLine) : wpAny (model p0 w) A (binaryOp .Add (.ref l) (.ref b)) Q E s := by
  obtain ⟨n, ho⟩ := hl
  obtain ⟨n2, ho2⟩ := hb
  exact concat_meets ⟨_, ho, rfl⟩ ⟨_, ho2, rfl⟩ noFill_list_add seq_list_add PySem.F.slot_list_add PySem.F.entry_list_add (PySem.F.args_list_add_2 _ _) (list_addW l b its its2 n n2 none none #[] #[] hsz) ⟨ho, ho2, h⟩
theorem bn_add_list {a b : List PA} (hsz : a.length + b.length ≤ 2 ^ 24) : Bn w k .Add (.list a) (.list b) (.list (a ++ b)) := ⟨fun A E S s v₁ v₂ hA st hl r₁ r₂ => by
  cases r₁ using Rep.cList with | list hs1 hl1 hp1 => cases r₂ using Rep.cList with | list hs2 hl2 hp2 =>
    refine add_lists' hl1 hl2 ⟨kp_push, .list (fresh_off hl) ⟨_, Heap.get?_push_size _ rfl⟩ (by rw [Array.toList_append]; exact Paired.append' hp1 hp2)⟩ ?_
    have e1 := hp1.length; have e2 := hp2.length
    simp only [Array.length_toList] at e1 e2
    unfold sizeLine; (first | lia | omega)⟩
theorem bn_add_tlist {a b : List (List PA)} (hsz : a.length + b.length ≤ 2 ^ 24) : Bn w k .Add (.tlist a) (.tlist b) (.tlist (a ++ b)) := ⟨fun A E S s v₁ v₂ hA st hl r₁ r₂ => by
  cases r₁ using Rep.cTlist with | tlist hs1 hl1 hp1 => cases r₂ using Rep.cTlist with | tlist hs2 hl2 hp2 =>
    refine add_lists' hl1 hl2 ⟨kp_push, .tlist (fresh_off hl) ⟨_, Heap.get?_push_size _ rfl⟩ ?_⟩ ?_
    · rw [Array.toList_append]
      exact Paired.imp (fun _ _ t => t.keep (kp_x kp_push S)) (Paired.append' hp1 hp2)
    have e1 := hp1.length; have e2 := hp2.length
    simp only [Array.length_toList] at e1 e2
    unfold sizeLine; (first | lia | omega)⟩
theorem paired_rep {F : Value → PA → Prop} {vs : List Value} {l : List PA} (hp : Paired F vs l) : ∀ n, Paired F (List.replicate n vs).flatten (List.replicate n l).flatten
  | 0 => .nil
  | n + 1 => by simp only [List.replicate_succ, List.flatten_cons]; exact Paired.append' hp (paired_rep hp n)
theorem foldl_repA (l : Array Value) : ∀ (n : Nat) (acc : Array Value), ((List.replicate n l).foldl (· ++ ·) acc) = (acc.toList ++ (List.replicate n l.toList).flatten).toArray
  | 0, acc => by simp
  | n + 1, acc => by
    rw [List.replicate_succ, List.foldl_cons, foldl_repA l n]
    simp [List.replicate_succ]
theorem bn_mul_list {a : List PA} {n : Int} (hne : a ≠ []) (hn : n < 2 ^ 20) (hn0 : 0 ≤ n) (hs : a.length * n.toNat ≤ 2 ^ 24) : Bn w k .Mult (.list a) (.at (.int n)) (.list (List.replicate n.toNat a).flatten) := ⟨fun A E S s v₁ v₂ hA st hl r₁ r₂ => by
  cases r₁ using Rep.cList with | list hs1 hl1 hp1 => cases r₂ using Rep.cAt with | «at» r₂ =>
    (first | cases r₂ using Atom.cInt | cases r₂ using Atom.cStr | cases r₂ using Atom.cBool | cases r₂ using Atom.cNone | cases r₂)
    rename_i l items u
    obtain ⟨m, ho⟩ := hl1
    have e1 := hp1.length
    simp only [Array.length_toList] at e1
    have hs' : items.size * n.toNat ≤ 2 ^ 24 := by rw [e1]; exact hs
    refine wpAny_binaryOp_repeat_ref (T := "list") (U := "int") (by decide) ⟨_, ho, rfl⟩ (fun s' => typeIs_int s' n u) noFill_list_mul F.fills_int_mul F.slot_int_rmul repeat_list F.slot_int_index.lookup
      (call_meets F.slot_int_rmul (typeIs_int s n u) F.entry_int_rmul (F.args_int_rmul_2 _ _) (int___rmul___int_list n u l items m)
        ⟨ho, rfl, ⟨_, ho, rfl⟩, call_meets F.slot_list_mul ⟨_, ho, rfl⟩ F.entry_list_mul (F.args_list_mul_2 _ _)
          (AutoListH.list___mul___list_int_3 l items m n u (by simp [Builtin.List.listFitsIndex]; (first | lia | omega)) (by (first | lia | omega)) (by simp [Builtin.List.listTooLong, sizeLine]; (first | lia | omega)))
          ⟨ho, ?_⟩⟩)
    have hie : items.isEmpty = false := by
      cases hh : items.isEmpty with
      | false => rfl
      | true =>
        have : items.size = 0 := by simpa using hh
        rw [this] at e1
        cases a with
        | nil => exact (hne rfl).elim
        | cons _ _ => simp at e1
    rw [hie]
    simp only [Bool.false_eq_true, if_false]
    refine ⟨kp_push, .list (fresh_off hl) ⟨_, Heap.get?_push_size _ rfl⟩ ?_⟩
    rw [foldl_repA]
    simp only [List.nil_append]
    exact paired_rep hp1 _⟩
end
end Mine
end

section
set_option maxRecDepth 100000
set_option linter.unusedVariables false
set_option linter.unusedSimpArgs false
namespace Mine
open PySem PySem.W PySem.Calls PyProof.Rows
open PySem.AutoSeq1 (wpAny_loadPart')

/-- what o[i] is -/
structure It (w : World) (k : Nat) (d₁ d₂ d : PV) : Prop where
  run : ∀ A E S s v₁ v₂, AOk k A → (∀ b ∈ S, ∃ o, s.heap.get? b = some o) → Rep S s.heap v₁ d₁ → Rep S s.heap v₂ d₂ →
    (∃ (T id : String), typeLookup (.type T) "__getitem__" = pure (some (.builtin id)) ∧ s.TypeIs v₁ T) ∧ wpAny (model p0 w) A (getItem v₁ v₂) (fun v s' => Kp s s' ∧ Rep S s'.heap v d) E s
/-- a part of a slice -/
structure Pt (w : World) (k : Nat) (S : List Addr) (env : Env) (G : Gam) (e : Option Expr) (x : Option Int) : Prop where
  run : ∀ s₀ A E s, AOk k A → Fm w s₀ S env G s → wpAny (model p0 w) A (valueOrNone (evalOpt e env)) (fun v s' => Kp s s' ∧ IsPart v x) E s
structure Als (w : World) (k : Nat) (S : List Addr) (env : Env) (G : Gam) (op : BoolOp) (es : List Expr) (b : Bool) : Prop where
  run : ∀ s₀ A E s, AOk k A → Fm w s₀ S env G s → wpAny (model p0 w) A (allTrue op es env) (fun v s' => v = b ∧ Kp s s') E s

section
variable {w : World} {k : Nat} {s₀ : Shared} {S : List Addr} {env : Env} {G : Gam} {Q : Flow → Shared → Prop}
theorem ev_if_true {t a b : Expr} {pos : Pos} {d : PV} (ht : Tr w k S env G t true) (h : Ev w k S env G a d) : Ev w k S env G (.IfExp t a b pos) d := ⟨fun s₀ A E s ha f => by
  rw [arm_eval_IfExp]
  refine wpAny_bind (wpAny_mono (ht.run s₀ A E s ha f) (fun v s₁ x => ?_) fun _ _ x => x)
  obtain ⟨rfl, k1⟩ := x
  exact wpAny_mono (h.run s₀ A E s₁ ha (f.keeps k1)) (fun v s₂ y => ⟨kp_trans k1 y.1, y.2⟩) fun _ _ x => x⟩
theorem ev_if_false {t a b : Expr} {pos : Pos} {d : PV} (ht : Tr w k S env G t false) (h : Ev w k S env G b d) : Ev w k S env G (.IfExp t a b pos) d := ⟨fun s₀ A E s ha f => by
  rw [arm_eval_IfExp]
  refine wpAny_bind (wpAny_mono (ht.run s₀ A E s ha f) (fun v s₁ x => ?_) fun _ _ x => x)
  obtain ⟨rfl, k1⟩ := x
  exact wpAny_mono (h.run s₀ A E s₁ ha (f.keeps k1)) (fun v s₂ y => ⟨kp_trans k1 y.1, y.2⟩) fun _ _ x => x⟩
theorem ev_if {t a b : Expr} {pos : Pos} {c : Bool} {d₁ d₂ : PV} (ht : Tr w k S env G t c) (h₁ : c = true → Ev w k S env G a d₁) (h₂ : c = false → Ev w k S env G b d₂) : Ev w k S env G (.IfExp t a b pos) (if c = true then d₁ else d₂) := by
  cases c with
  | true => exact ev_if_true ht (h₁ rfl)
  | false => exact ev_if_false ht (h₂ rfl)

theorem als_nil {op : BoolOp} : Als w k S env G op [] (op == .And) := ⟨fun s₀ A E s ha f => by rw [arm_allTrue_nil]; exact wpAny_pure ⟨rfl, kp_refl _⟩⟩
theorem als_or {e : Expr} {es : List Expr} {b c : Bool} (h : Tr w k S env G e b) (h' : b = false → Als w k S env G .Or es c) : Als w k S env G .Or (e :: es) (b || c) := ⟨fun s₀ A E s ha f => by
  rw [arm_allTrue_cons]
  refine wpAny_bind (wpAny_mono (h.run s₀ A E s ha f) (fun v s₁ x => ?_) fun _ _ x => x)
  obtain ⟨rfl, k1⟩ := x
  cases v with
  | true => exact wpAny_pure ⟨rfl, k1⟩
  | false => exact wpAny_mono ((h' rfl).run s₀ A E s₁ ha (f.keeps k1)) (fun v s₂ y => ⟨by rw [y.1]; rfl, kp_trans k1 y.2⟩) fun _ _ x => x⟩
theorem als_and {e : Expr} {es : List Expr} {b c : Bool} (h : Tr w k S env G e b) (h' : b = true → Als w k S env G .And es c) : Als w k S env G .And (e :: es) (b && c) := ⟨fun s₀ A E s ha f => by
  rw [arm_allTrue_cons]
  refine wpAny_bind (wpAny_mono (h.run s₀ A E s ha f) (fun v s₁ x => ?_) fun _ _ x => x)
  obtain ⟨rfl, k1⟩ := x
  cases v with
  | false => exact wpAny_pure ⟨rfl, k1⟩
  | true => exact wpAny_mono ((h' rfl).run s₀ A E s₁ ha (f.keeps k1)) (fun v s₂ y => ⟨by rw [y.1]; rfl, kp_trans k1 y.2⟩) fun _ _ x => x⟩
theorem tr_bool {op : BoolOp} {es : List Expr} {pos : Pos} {b : Bool} (h : Als w k S env G op es b) : Tr w k S env G (.BoolOp op es pos) b := ⟨fun s₀ A E s ha f => by rw [arm_isTrue_BoolOp]; exact h.run s₀ A E s ha f⟩
theorem tr_not {e : Expr} {pos : Pos} {b : Bool} (h : Tr w k S env G e b) : Tr w k S env G (.UnaryOp .Not e pos) (!b) := ⟨fun s₀ A E s ha f => by
  rw [arm_isTrue_UnaryOp]
  refine wpAny_bind (wpAny_mono (h.run s₀ A E s ha f) (fun v s₁ x => ?_) fun _ _ x => x)
  obtain ⟨rfl, k1⟩ := x
  exact wpAny_pure ⟨rfl, k1⟩⟩
theorem tr_ev {e : Expr} {b : Bool} (h : Ev w k S env G e (.at (.bool b))) (he : isTrue e env (eval e env) = (do let v ← eval e env; standAt e.pos; holding [v] (truthy v)) := by rfl) : Tr w k S env G e b := ⟨fun s₀ A E s ha f => by
  rw [he]
  refine wpAny_bind (wpAny_mono (h.run s₀ A E s ha f) (fun v s₁ x => ?_) fun _ _ x => x)
  obtain ⟨k1, r⟩ := x
  cases r using Rep.cAt with | «at» r => (first | cases r using Atom.cInt | cases r using Atom.cStr | cases r using Atom.cBool | cases r using Atom.cNone | cases r); exact wpAny_bind (wpAny_standAt (wpAny_holding (wpAny_truthy_bool ⟨rfl, k1⟩)))⟩

theorem paired_at {h : Heap} : ∀ {vs : List Value} {l : List PA}, Paired (Rep S h) vs (l.map PV.at) → Paired Atom vs l
  | _, [], p => by cases p; exact .nil
  | _, a :: l, p => by cases p with | cons h t => cases h using Rep.cAt with | «at» h => exact .cons h (paired_at t)
theorem paired_tup {h : Heap} : ∀ {vs : List Value} {l : List (List PA)}, Paired (Rep S h) vs (l.map PV.tup) → Paired (TupAt S h) vs l
  | _, [], p => by cases p; exact .nil
  | _, a :: l, p => by cases p with | cons h t => cases h using Rep.cTup with | tup h => exact .cons h (paired_tup t)
theorem ev_list {es : List Expr} {pos : Pos} {l : List PA} (h : Evs w k S env G es (l.map PV.at)) (hsz : l.length ≤ 2 ^ 24) : Ev w k S env G (.List es pos) (.list l) := ⟨fun s₀ A E s ha f => by
  rw [arm_eval_List]
  refine wpAny_bind (wpAny_standAt (wpAny_bind (wpAny_mono (h.run s₀ A E s pos ha f) (fun vs s₁ x => ?_) fun _ _ x => x)))
  have p := paired_at x.2
  exact wpAny_newList ⟨kp_trans x.1 kp_push, .list (fresh_off (f.keeps x.1).low) ⟨_, Heap.get?_push_size _ rfl⟩ (by simpa using p)⟩ (by rw [p.length]; exact hsz)⟩
theorem ev_tlist {es : List Expr} {pos : Pos} {l : List (List PA)} (h : Evs w k S env G es (l.map PV.tup)) (hsz : l.length ≤ 2 ^ 24) : Ev w k S env G (.List es pos) (.tlist l) := ⟨fun s₀ A E s ha f => by
  rw [arm_eval_List]
  refine wpAny_bind (wpAny_standAt (wpAny_bind (wpAny_mono (h.run s₀ A E s pos ha f) (fun vs s₁ x => ?_) fun _ _ x => x)))
  have p := paired_tup x.2
  refine wpAny_newList ⟨kp_trans x.1 kp_push, .tlist (fresh_off (f.keeps x.1).low) ⟨_, Heap.get?_push_size _ rfl⟩ ?_⟩ (by rw [p.length]; exact hsz)
  simpa using Paired.imp (fun _ _ t => t.keep (kp_x kp_push S)) p⟩
theorem ev_tup {es : List Expr} {j : Nat} {pos : Pos} {l : List PA} (h : Evs w k S env G es (l.map PV.at)) (hsz : l.length ≤ 2 ^ 24) : Ev w k S env G (.Tuple es j pos) (.tup l) := ⟨fun s₀ A E s ha f => by
  rw [arm_eval_Tuple]
  refine wpAny_bind (wpAny_standAt (wpAny_bind (wpAny_mono (h.run s₀ A E s pos ha f) (fun vs s₁ x => ?_) fun _ _ x => x)))
  have p := paired_at x.2
  exact wpAny_newTuple ⟨kp_trans x.1 kp_push, .tup ⟨_, _, rfl, fresh_off (f.keeps x.1).low, ⟨_, Heap.get?_push_size _ rfl, rfl, _, rfl⟩, by simpa using p⟩⟩ (by rw [p.length]; exact hsz)⟩

theorem ev_sub {v i : Expr} {pos : Pos} {d₁ d₂ d : PV} (h₁ : Ev w k S env G v d₁) (h₂ : Ev w k S env G i d₂) (hi : It w k d₁ d₂ d) (hs : ∀ o x, subscripted i false o x = operate [o, x] (getItem o x) := by intro _ _; rfl) :
    Ev w k S env G (.Subscript v i pos) d := ⟨fun s₀ A E s ha f => by
  rw [arm_eval_Subscript]
  refine wpAny_bind (wpAny_mono (h₁.run s₀ A E s ha f) (fun o s₁ x => ?_) fun _ _ x => x)
  refine wpAny_bind (wpAny_holding (wpAny_mono (h₂.run s₀ A E s₁ ha (f.keeps x.1)) (fun j s₂ y => ?_) fun _ _ x => x))
  have f2 := (f.keeps x.1).keeps y.1
  obtain ⟨⟨T, id, hl, hT⟩, hg⟩ := hi.run A E S s₂ o j ha f2.low (x.2.keep (kp_x y.1 S)) y.2
  refine wpAny_bind (wpAny_standAt (wpAny_bind ?_))
  unfold getitemInPython
  refine wpAny_bind (wpAny_specialOf hT hl (wpAny_pure ?_))
  rw [hs]
  refine wpAny_bind (wpAny_operating (wpAny_mono hg (fun r s₃ z => ?_) fun _ _ x => x))
  exact wpAny_bind (wpAny_letTemporaryGo (wpAny_pure ⟨kp_trans x.1 (kp_trans y.1 z.1), z.2⟩))⟩
theorem it_list {l : List PA} {i : Int} {x : PA} (h0 : 0 ≤ i) (hx : l[i.toNat]? = some x) (hl : l.length < 2 ^ 62) : It w k (.list l) (.at (.int i)) (.at x) := ⟨fun A E S s v₁ v₂ hA hlow r₁ r₂ => by
  cases r₁ using Rep.cList with | list hs1 hl1 hp1 => cases r₂ using Rep.cAt with | «at» r₂ =>
    (first | cases r₂ using Atom.cInt | cases r₂ using Atom.cStr | cases r₂ using Atom.cBool | cases r₂ using Atom.cNone | cases r₂)
    obtain ⟨v, hv, ha⟩ := Paired.getR hp1 hx
    have hlt : i.toNat < l.length := (List.getElem?_eq_some_iff.mp hx).1
    exact ⟨⟨"list", _, list_getitem_lookup, hl1.isList.typeIs⟩, wpAny_getItem_list hl1.isList h0 (by (first | lia | omega)) (by simpa using hv) ⟨kp_refl _, .at ha⟩⟩⟩
theorem it_str {l : List Nat} {i : Int} {c : Nat} (h0 : 0 ≤ i) (hx : l[i.toNat]? = some c) (hl : l.length < 2 ^ 62) : It w k (.at (.str l)) (.at (.int i)) (.at (.str [c])) := ⟨fun A E S s v₁ v₂ hA hlow r₁ r₂ => by
  cases r₁ using Rep.cAt with | «at» r₁ => (first | cases r₁ using Atom.cInt | cases r₁ using Atom.cStr | cases r₁ using Atom.cBool | cases r₁ using Atom.cNone | cases r₁); cases r₂ using Rep.cAt with | «at» r₂ =>
    (first | cases r₂ using Atom.cInt | cases r₂ using Atom.cStr | cases r₂ using Atom.cBool | cases r₂ using Atom.cNone | cases r₂)
    have hlt : i.toNat < l.length := (List.getElem?_eq_some_iff.mp hx).1
    refine ⟨⟨"str", _, F.slot_str_getitem.lookup, typeIs_str _ _ _⟩, P.getItem_str (by rw [decide_eq_false (by (first | lia | omega)), decide_eq_false (by (first | lia | omega))]; rfl) (c := c) ?_ ⟨kp_tok, .at (.str [c] _)⟩⟩
    have e : seqIndex? i (T_ l).length = some i.toNat := by
      rw [T_length]; unfold seqIndex?
      simp only [show ¬ i < 0 by (first | lia | omega), if_false]
      first
        | (rw [if_pos (by (first | lia | omega))])
        | (simp <;> (first | lia | omega))
    rw [e]
    simpa [T_] using hx⟩

theorem pt_none : Pt w k S env G none none := ⟨fun s₀ A E s ha f => wpAny_pure ⟨kp_refl _, .none⟩⟩
theorem pt_some {e : Expr} {i : Int} (h : Ev w k S env G e (.at (.int i))) : Pt w k S env G (some e) (some i) := ⟨fun s₀ A E s ha f =>
  wpAny_mono (h.run s₀ A E s ha f) (fun v s₁ x => ⟨x.1, by cases x.2 using Rep.cAt with | «at» r => (first | cases r using Atom.cInt | cases r using Atom.cStr | cases r using Atom.cBool | cases r using Atom.cNone | cases r); exact .int _ _⟩) fun _ _ x => x⟩
noncomputable def pickL {α : Type} (l : List α) (lo hi st : Option Int) : List α := ((sliceRange (sliceBounds lo hi st l.length).1 (sliceBounds lo hi st l.length).2.1 (sliceBounds lo hi st l.length).2.2).filterMap (l[·]?))
theorem paired_pick {F : Value → PA → Prop} {items : Array Value} {l : List PA} (hp : Paired F items.toList l) (lo hi st : Option Int) : Paired F (slicePick items lo hi st).toList (pickL l lo hi st) := by
  have e : items.size = l.length := by have := hp.length; simpa using this
  unfold slicePick pickL
  rw [e]
  generalize sliceRange _ _ _ = r
  induction r with
  | nil => exact .nil
  | cons i r ih =>
    simp only [List.filterMap_cons]
    cases hv : items[i]? with
    | none =>
      have : l[i]? = none := by
        rw [List.getElem?_eq_none_iff, ← e]; simpa using hv
      rw [this]; exact ih
    | some v =>
      obtain ⟨b, hb, hF⟩ := Paired.get hp (i := i) (a := v) (by simpa using hv)
      rw [hb]
      exact .cons hF ih
theorem ev_slice {v : Expr} {lo hi st : Option Expr} {p pos : Pos} {l : List PA} {x y z : Option Int} (hv : Ev w k S env G v (.list l)) (h₁ : Pt w k S env G lo x) (h₂ : Pt w k S env G hi y) (h₃ : Pt w k S env G st z) (hz : z ≠ some 0) (hsz : l.length ≤ 2 ^ 24) :
    Ev w k S env G (.Subscript v (.Slice lo hi st p) pos) (.list (pickL l x y z)) := ⟨fun s₀ A E s ha f => by
  rw [arm_eval_Subscript]
  refine wpAny_bind (wpAny_mono (hv.run s₀ A E s ha f) (fun o s₁ q => wpAny_bind (wpAny_holding ?_)) fun _ _ x => x)
  rw [arm_eval_Slice]
  refine wpAny_bind (wpAny_mono (h₁.run s₀ A E s₁ ha (f.keeps q.1)) (fun vl s₂ q₁ => wpAny_bind (wpAny_holding ?_)) fun _ _ x => x)
  refine wpAny_mono (h₂.run s₀ A E s₂ ha ((f.keeps q.1).keeps q₁.1)) (fun vu s₃ q₂ => wpAny_bind (wpAny_holding ?_)) fun _ _ x => x
  refine wpAny_mono (h₃.run s₀ A E s₃ ha (((f.keeps q.1).keeps q₁.1).keeps q₂.1)) (fun vs s₄ q₃ => ?_) fun _ _ x => x
  have kk := kp_trans q.1 (kp_trans q₁.1 (kp_trans q₂.1 q₃.1))
  have f4 := f.keeps kk
  refine wpAny_newObj_type ?_ (by show (3 : Nat) ≤ _; decide)
  have r := q.2.keep (kp_x (kp_trans q₁.1 (kp_trans q₂.1 q₃.1)) S)
  cases r using Rep.cList with | list hs1 hl1 hp1 =>
    rename_i l' items
    have e : items.size = l.length := by have := hp1.length; simpa using this
    have hl2 := (hl1.isList.push { cls := .type "slice", data := .fields #[vl, vu, vs] : Obj})
    refine wpAny_bind (wpAny_standAt (wpAny_bind ?_))
    unfold getitemInPython
    refine wpAny_bind (wpAny_specialOf hl2.typeIs list_getitem_lookup (wpAny_pure ?_))
    have go : wpAny (model p0 w) A (getItem (.ref l') (.ref s₄.heap.objs.size)) (fun r s' => Kp s s' ∧ Rep S s'.heap r (.list (pickL l x y z))) E { s₄ with heap := s₄.heap.push { cls := .type "slice", data := .fields #[vl, vu, vs] } } := by
      refine wpAny_getItem_list_slice hl2 (Heap.IsSliceOf.new ..) q₁.2 q₂.2 q₃.2 hz ⟨kp_trans kk (kp_trans kp_push kp_push), .list (fresh_off (f4.keeps kp_push).low) ⟨_, Heap.get?_push_size _ rfl⟩ (paired_pick hp1 x y z)⟩ (by unfold sizeLine; (first | lia | omega))
    have tail : ∀ r s', (Kp s s' ∧ Rep S s'.heap r (.list (pickL l x y z))) → wpAny (model p0 w) A (letTemporaryGo v (.ref l') r >>= fun _ => pure r) (fun v s' => Kp s s' ∧ Rep S s'.heap v (.list (pickL l x y z))) E s' := fun r s' hr => wpAny_bind (wpAny_letTemporaryGo (wpAny_pure hr))
    cases st with
    | none => exact wpAny_bind (wpAny_operating (wpAny_mono go tail fun _ _ x => x))
    | some e => exact wpAny_bind (wpAny_operating (wpAny_mono go tail fun _ _ x => x))⟩
theorem ev_tail {v : Expr} {c : Expr} {p pos : Pos} {l : List Nat} (hv : Ev w k S env G v (.at (.str l))) (hc : Pt w k S env G (some c) (some 1)) (h1 : 1 ≤ l.length) (hsz : l.length ≤ 2 ^ 24) :
    Ev w k S env G (.Subscript v (.Slice (some c) none none p) pos) (.at (.str l.tail)) := ⟨fun s₀ A E s ha f => by
  rw [arm_eval_Subscript]
  refine wpAny_bind (wpAny_mono (hv.run s₀ A E s ha f) (fun o s₁ q => wpAny_bind (wpAny_holding ?_)) fun _ _ x => x)
  rw [arm_eval_Slice]
  refine wpAny_bind (wpAny_mono (hc.run s₀ A E s₁ ha (f.keeps q.1)) (fun vl s₂ q₁ => ?_) fun _ _ x => x)
  obtain ⟨q₁, hp⟩ := q₁
  cases hp with | int _ t =>
    have f2 := (f.keeps q.1).keeps q₁
    refine wpAny_bind (wpAny_holding (wpAny_pure (wpAny_bind (wpAny_holding (wpAny_pure (wpAny_newObj_type ?_ (by show (3 : Nat) ≤ _; decide)))))))
    cases q.2 using Rep.cAt with | «at» r =>
      (first | cases r using Atom.cInt | cases r using Atom.cStr | cases r using Atom.cBool | cases r using Atom.cNone | cases r)
      rename_i u
      refine wpAny_bind (wpAny_standAt (wpAny_bind ?_))
      have item := SBH.sliceItem_sn (prog := p0) (w := w) (A := A) (E := E) (x := T_ l) (t := u) (i := 1) (ui := t) (s := s₂) (P := fun h => ∀ b o, s₂.heap.get? b = some o → h.get? b = some o) (Q := fun v s' => Keeps s s' ∧ Rep S s'.heap v (.at (.str l.tail)))
        (fun h ob hh b o e => Heap.get?_push_of_some _ (hh b o e)) (fun _ _ e => e) (fun h' t' j hk => by
          refine ⟨?_, ?_⟩
          · obtain ⟨⟨h1, t1, e1, k1⟩, _⟩ := kp_trans q.1 q₁
            exact ⟨h', j, by rw [e1], fun b o e => hk b o (by rw [e1]; exact k1 b o e)⟩
          · have e := StrLaws.sliceText_from (x := T_ l) (i := 1) ⟨by decide, by show (1 : Int) ≤ (l.toArray.toList.length : Nat); simp <;> (first | lia | omega)⟩
            have e2 : Txt.slice (T_ l) (some 1) none = T_ l.tail := by
              refine e.trans ?_
              show (⟨((l.drop 1).take _).toArray⟩ : Str) = ⟨l.tail.toArray⟩
              rw [List.drop_one, List.take_of_length_le]
              show l.tail.length ≤ ((l.length : Int) - 1).toNat
              simp <;> (first | lia | omega)
            rw [e2]; exact .at (.str _ _)) (by rw [T_length]; exact hsz)
      obtain ⟨T, id, hl, hT, hg⟩ := item
      · unfold getitemInPython
        refine wpAny_bind (wpAny_specialOf hT hl (wpAny_pure ?_))
        refine wpAny_bind (wpAny_operating (wpAny_mono (wpAny_toks hg) (fun r s' z => ?_) fun _ _ x => x.2))
        exact wpAny_bind (wpAny_letTemporaryGo (wpAny_pure ⟨⟨z.2.1, Nat.le_trans (kp_trans q.1 q₁).2 z.1⟩, z.2.2⟩))⟩
end
end Mine
end

section
set_option maxRecDepth 100000
set_option linter.unusedVariables false
set_option linter.unusedSimpArgs false
namespace Mine
open PySem PySem.W PySem.Calls PyProof.Rows

/-! iteration -/
noncomputable def ownedIters : List String := ["enumerate", "zip", "dict_itemiterator", "dict_reverseitemiterator", "odict_iterator", "itertools.zip_longest", "itertools.pairwise"]
noncomputable def Tame (o : Obj) : Prop := ∀ n, o.cls = .type n → ownedIters.contains n = false
/-- like the library's Walks, but an item may lean on how many tokens there are -/
structure Wks (w : World) (m : Nat) (A : Around) (I : Addr) (fp : List Addr) (n : Nat) (P : Nat → Value → Prop) (St : Nat → Heap → Prop) : Prop where
  frame : ∀ i h h', St i h → (∀ b ∈ fp, ∀ o, h.get? b = some o → h'.get? b = some o) → St i h'
  item : ∀ i (s : Shared) (Q : Option Value → Shared → Prop) (E : Value → Shared → Prop), m ≤ s.toks → i < n → St i s.heap →
    (∀ v h' tk, P i v → St (i + 1) h' → (∀ b o, b ∉ [I] → s.heap.get? b = some o → h'.get? b = some o) → Q (some v) { s with heap := h', toks := tk }) → wpAny (model p0 w) A (pyNext (.ref I)) Q E s
  done : ∀ (s : Shared) (Q : Option Value → Shared → Prop) (E : Value → Shared → Prop), St n s.heap →
    (∀ h' tk, (∀ b o, b ∉ [I] → s.heap.get? b = some o → h'.get? b = some o) → Q none { s with heap := h', toks := tk }) → wpAny (model p0 w) A (pyNext (.ref I)) Q E s
  self : ∀ i (s : Shared) (Q : Value → Shared → Prop) (E : Value → Shared → Prop), St i s.heap → Q (.ref I) s → wpAny (model p0 w) A (pyIter (.ref I)) Q E s
theorem Wks.of {w : World} {m : Nat} {A : Around} {I : Addr} {fp : List Addr} {n : Nat} {P : Nat → Value → Prop} {St : Nat → Heap → Prop} (W : Walks p0 w A I fp [I] n P St) : Wks w m A I fp n P St :=
  ⟨W.frame, fun i s Q E _ => W.item i s Q E, W.done, W.self⟩
structure Itr (w : World) (m : Nat) (d : PV) (xs : List PV) : Prop where
  run : ∀ A E S s v, A.handled = none → Rep S s.heap v d → (∀ b ∈ S, ∃ o, s.heap.get? b = some o) → wpAny (model p0 w) A (pyIter v) (fun it s' => ∃ I fp P St, it = .ref I ∧ s.heap.get? I = none ∧
    (∀ i h, St i h → ∃ o, h.get? I = some o ∧ Tame o) ∧ (∀ b ∈ fp, b = I ∨ ∃ o, s.heap.get? b = some o) ∧ (∀ b ∈ fp, b ∉ S) ∧ (∀ A' : Around, A'.handled = none → Wks w m A' I fp xs.length P St) ∧
    (∀ j v, j < xs.length → P j v → ∃ x, xs[j]? = some x ∧ Rep S s.heap v x) ∧ St 0 s'.heap ∧ Kp s s') E s

section
variable {w : World} {k m : Nat}
theorem itr_list {l : List PA} : Itr w m (.list l) (l.map PV.at) := ⟨fun A E S s v hA r hlow => by
  cases r using Rep.cList with | list hs hl hp =>
    rename_i a vs
    have hne : a ≠ s.heap.objs.size := fun q => by obtain ⟨n, e⟩ := hl; rw [q, fresh_none] at e; cases e
    have e0 : vs.size = (l.map PV.at).length := by have := hp.length; simpa using this
    refine wpAny_pyIter_list hl.isList ⟨s.heap.objs.size, [s.heap.objs.size, a], _, _, rfl, fresh_none, fun i h st => ?_, fun b hb => ?_, fun b hb => ?_, fun A' hA' => .of <| e0 ▸ Walks.list hA' s.heap.objs.size a hne vs, fun j v _ hv => ?_, ⟨⟨_, Heap.get?_push_size _ rfl, rfl, rfl⟩, hl.isList.push _⟩, kp_push⟩
    · obtain ⟨⟨o, ho, hc, _⟩, _⟩ := st
      exact ⟨o, ho, fun n hn => by rw [hc] at hn; cases hn; decide⟩
    · simp at hb; rcases hb with rfl | rfl
      · exact .inl rfl
      · obtain ⟨n, e⟩ := hl; exact .inr ⟨_, e⟩
    · simp at hb; rcases hb with rfl | rfl
      · exact fresh_off hlow
      · exact hs
    · obtain ⟨x, hx, ha⟩ := Paired.get hp (i := j) (a := v) (by simpa using hv)
      exact ⟨.at x, by simp [hx], .at ha⟩⟩
theorem itr_tlist {l : List (List PA)} : Itr w m (.tlist l) (l.map PV.tup) := ⟨fun A E S s v hA r hlow => by
  cases r using Rep.cTlist with | tlist hs hl hp =>
    rename_i a vs
    have hne : a ≠ s.heap.objs.size := fun q => by obtain ⟨n, e⟩ := hl; rw [q, fresh_none] at e; cases e
    have e0 : vs.size = (l.map PV.tup).length := by have := hp.length; simpa using this
    refine wpAny_pyIter_list hl.isList ⟨s.heap.objs.size, [s.heap.objs.size, a], _, _, rfl, fresh_none, fun i h st => ?_, fun b hb => ?_, fun b hb => ?_, fun A' hA' => .of <| e0 ▸ Walks.list hA' s.heap.objs.size a hne vs, fun j v _ hv => ?_, ⟨⟨_, Heap.get?_push_size _ rfl, rfl, rfl⟩, hl.isList.push _⟩, kp_push⟩
    · obtain ⟨⟨o, ho, hc, _⟩, _⟩ := st
      exact ⟨o, ho, fun n hn => by rw [hc] at hn; cases hn; decide⟩
    · simp at hb; rcases hb with rfl | rfl
      · exact .inl rfl
      · obtain ⟨n, e⟩ := hl; exact .inr ⟨_, e⟩
    · simp at hb; rcases hb with rfl | rfl
      · exact fresh_off hlow
      · exact hs
    · obtain ⟨x, hx, ha⟩ := Paired.get hp (i := j) (a := v) (by simpa using hv)
      exact ⟨.tup x, by simp [hx], .tup ha⟩⟩
theorem itr_str {l : List Nat} : Itr w m (.at (.str l)) (l.map fun c => PV.at (.str [c])) := ⟨fun A E S s v hA r hlow => by
  cases r using Rep.cAt with | «at» r =>
    (first | cases r using Atom.cInt | cases r using Atom.cStr | cases r using Atom.cBool | cases r using Atom.cNone | cases r)
    rename_i t
    have e0 : (T_ l).cps.size = (l.map fun c => PV.at (.str [c])).length := by show l.toArray.size = _; simp
    have sign : ∀ j v, j < (l.map fun c => PV.at (.str [c])).length → SignAt (T_ l) j v → ∃ x, (l.map fun c => PV.at (.str [c]))[j]? = some x ∧ Rep S s.heap v x := fun j v _ hv => by
      obtain ⟨c, u, hc, rfl⟩ := hv
      have hc' : l[j]? = some c := by simpa [T_] using hc
      exact ⟨.at (.str [c]), by simp [hc'], .at (.str [c] u)⟩
    refine wpAny_pyIter_strU ?_
    cases ha : (T_ l).cps.all (· < 128)
    · refine ⟨s.heap.objs.size, [s.heap.objs.size], _, _, rfl, fresh_none, fun i h st => ?_, fun b hb => .inl (by simpa using hb), fun b hb => ?_, fun A' hA' => .of <| e0 ▸ Walks.strWide hA' s.heap.objs.size (T_ l) t, sign, ⟨_, Heap.get?_push_size _ rfl, by simp [strIterType, ha], rfl⟩, kp_push⟩
      · obtain ⟨o, ho, hc, _⟩ := st
        exact ⟨o, ho, fun n hn => by rw [hc] at hn; cases hn; decide⟩
      · simp at hb; subst hb; exact fresh_off hlow
    · refine ⟨s.heap.objs.size, [s.heap.objs.size], _, _, rfl, fresh_none, fun i h st => ?_, fun b hb => .inl (by simpa using hb), fun b hb => ?_, fun A' hA' => .of <| e0 ▸ Walks.strAscii hA' s.heap.objs.size (T_ l) t, sign, ⟨_, Heap.get?_push_size _ rfl, by simp [strIterType, ha], rfl⟩, kp_push⟩
      · obtain ⟨o, ho, hc, _⟩ := st
        exact ⟨o, ho, fun n hn => by rw [hc] at hn; cases hn; decide⟩
      · simp at hb; subst hb; exact fresh_off hlow⟩
end
end Mine
end

section
set_option maxRecDepth 100000
set_option linter.unusedVariables false
set_option linter.unusedSimpArgs false
namespace Mine
open PySem PySem.W PySem.Calls PyProof.Rows

section
variable {w : World} {k m : Nat}
theorem itr_rng {a b c : Int} (h : Builtin.Range.small a b c = true) (h0 : 0 ≤ Builtin.Range.rangeSize a b c) : Itr w m (.rng a b c) ((List.range (Builtin.Range.rangeSize a b c).toNat).map fun i => PV.at (.int (a + (i : Nat) * c))) := ⟨fun A E S s v hA r hlow => by
  cases r using Rep.cRng with | rng hs hr =>
    generalize hn : (Builtin.Range.rangeSize a b c).toNat = n
    have e1 : Builtin.Range.rangeSize a b c = (n : Int) := by (first | lia | omega)
    have e0 : n = ((List.range n).map fun i => PV.at (.int (a + (i : Nat) * c))).length := by simp
    refine wpAny_pyIter_range hr h ⟨s.heap.objs.size, [s.heap.objs.size], _, _, rfl, fresh_none, fun i h st => ?_, fun b hb => .inl (by simpa using hb), fun b hb => ?_, fun A' hA' => .of (Eq.subst (motive := fun m => Walks p0 w A' _ _ _ m _ _) e0 (Walks.range hA' s.heap.objs.size a c n)), fun j v hj hv => ?_, ?_, kp_push⟩
    · exact ⟨_, st, fun n hn => by cases hn; decide⟩
    · simp at hb; subst hb; exact fresh_off hlow
    · obtain ⟨t, rfl⟩ := hv
      have hj' : j < n := by simpa using hj
      exact ⟨.at (.int (a + (j : Nat) * c)), by simp [hj'], .at (.int _ _)⟩
    · rw [e1]
      have e2 : a + ((0 : Nat) : Int) * c = a := by simp
      have e3 : (n : Int) - ((0 : Nat) : Int) = n := by simp
      show IsRangeIter _ _ (a + ((0 : Nat) : Int) * c) ((n : Int) - ((0 : Nat) : Int)) c
      rw [e2, e3]
      exact Heap.get?_push_size _ rfl⟩
end

/-! the frame of a comprehension -/
noncomputable def relabelN (K ns : List (Str × NameKind)) : List (Str × NameKind) := ns.map fun (n, k) => if (k == .free && K.lookup n == some .cell) then (n, .cell) else (n, k)
theorem relabel_names {scope : Scope} {env : Env} {K : List (Str × NameKind)} (hf : env.scope.kind = .function) (hK : env.scope.names = K) : (relabel scope env).names = relabelN K scope.names := by
  unfold relabel relabelN Env.kindOf
  rw [hf, hK]
  simp
noncomputable def shut (cells : List (Str × Addr)) (ns : List (Str × NameKind)) (acc : List (Str × Addr)) : List (Str × Addr) := ns.foldl (fun c x => if x.2 == .free then (x.1, (cells.lookup x.1).getD 0) :: c else c) acc
theorem forIn_pure {α β : Type} {f : α → β → Sem (ForInStep β)} {g : β → α → β} : ∀ {l : List α} (acc : β), (∀ x ∈ l, ∀ c, f x c = pure (.yield (g c x))) → forIn l acc f = pure (l.foldl g acc)
  | [], acc, _ => by rw [List.forIn_nil]; rfl
  | x :: l, acc, h => by
    rw [List.forIn_cons, h x List.mem_cons_self, pure_bind]
    exact forIn_pure _ fun y hy => h y (List.mem_cons_of_mem _ hy)
theorem closureFor_shut {scope : Scope} {env : Env} (h : ∀ x ∈ scope.names, x.2 = .free → (env.cells.lookup x.1).isSome = true) : closureFor scope env = pure (shut env.cells scope.names []) := by
  simp only [closureFor]
  rw [forIn_pure (g := fun c x => if x.2 == .free then (x.1, (env.cells.lookup x.1).getD 0) :: c else c) [] (fun x hx c => by
    obtain ⟨n, kd⟩ := x
    by_cases q : (kd == NameKind.free) = true
    · have hs := h _ hx (by simpa using q)
      obtain ⟨a, ha⟩ := Option.isSome_iff_exists.mp hs
      simp only [q, if_true, cellOf, ha]
      simp
    · simp [q])]
  rfl
theorem mem_shut {cells : List (Str × Addr)} : ∀ {ns : List (Str × NameKind)} {acc : List (Str × Addr)} {n : Str} {c : Addr}, (∀ x ∈ ns, x.2 = .free → (cells.lookup x.1).isSome = true) → (n, c) ∈ shut cells ns acc → (n, c) ∈ acc ∨ ((n, NameKind.free) ∈ ns ∧ cells.lookup n = some c)
  | [], acc, n, c, _, h => .inl h
  | (m, kd) :: r, acc, n, c, ha, h => by
    unfold shut at h
    rw [List.foldl_cons] at h
    rcases mem_shut (ns := r) (fun x hx => ha x (List.mem_cons_of_mem _ hx)) h with h | h
    · by_cases q : (kd == NameKind.free) = true
      · simp only [q, if_true] at h
        rcases List.mem_cons.mp h with e | h
        · cases e
          have hs := ha (m, kd) List.mem_cons_self (by simpa using q)
          obtain ⟨a, ha⟩ := Option.isSome_iff_exists.mp hs
          refine .inr ⟨?_, by simp [ha]⟩
          have : kd = .free := by simpa using q
          subst this; exact List.mem_cons_self
        · exact .inl h
      · simp only [q] at h
        exact .inl h
    · exact .inr ⟨List.mem_cons_of_mem _ h.1, h.2⟩
theorem shut_has {cells : List (Str × Addr)} : ∀ {ns : List (Str × NameKind)} {acc : List (Str × Addr)} {n : Str}, ((acc.lookup n).isSome = true ∨ (n, NameKind.free) ∈ ns) → ((shut cells ns acc).lookup n).isSome = true
  | [], acc, n, h => by
    rcases h with h | h
    · exact h
    · exact nomatch h
  | (m, kd) :: r, acc, n, h => by
    unfold shut
    rw [List.foldl_cons]
    refine shut_has (ns := r) ?_
    by_cases q : (kd == NameKind.free) = true
    · simp only [q, if_true]
      by_cases e : (n == m) = true
      · left; simp [List.lookup_cons, e]
      · rcases h with h | h
        · left; simp [List.lookup_cons, e, h]
        · rcases List.mem_cons.mp h with h | h
          · cases h; simp at e
          · exact .inr h
    · simp only [q]
      rcases h with h | h
      · exact .inl h
      · rcases List.mem_cons.mp h with h | h
        · cases h; simp at q
        · exact .inr h
theorem cellsFrom_app : ∀ (ns : List (Str × NameKind)) (k : Nat) (acc : List (Str × Addr)), cellsFrom k ns acc = cellsFrom k ns [] ++ acc
  | [], k, acc => rfl
  | (m, kd) :: r, k, acc => by
    unfold cellsFrom
    split
    · rw [cellsFrom_app r (k + 1) ((m, k) :: acc), cellsFrom_app r (k + 1) [(m, k)]]; simp
    · exact cellsFrom_app r k acc
theorem mem_cellsFrom : ∀ {ns : List (Str × NameKind)} {k : Nat} {acc : List (Str × Addr)} {n : Str} {c : Addr}, (n, c) ∈ cellsFrom k ns acc → (n, c) ∈ acc ∨ ((n, NameKind.cell) ∈ ns ∧ k ≤ c)
  | [], _, _, _, _, h => .inl h
  | (m, kd) :: r, k, acc, n, c, h => by
    unfold cellsFrom at h
    split at h
    · rename_i q
      rcases mem_cellsFrom h with h | h
      · rcases List.mem_cons.mp h with e | h
        · cases e
          have : kd = .cell := by simpa using q
          subst this; exact .inr ⟨List.mem_cons_self, Nat.le_refl _⟩
        · exact .inl h
      · exact .inr ⟨List.mem_cons_of_mem _ h.1, Nat.le_of_succ_le h.2⟩
    · rcases mem_cellsFrom h with h | h
      · exact .inl h
      · exact .inr ⟨List.mem_cons_of_mem _ h.1, h.2⟩
theorem cellsFrom_has : ∀ {ns : List (Str × NameKind)} {k : Nat} {acc : List (Str × Addr)} {n : Str}, ((acc.lookup n).isSome = true ∨ (n, NameKind.cell) ∈ ns) → ((cellsFrom k ns acc).lookup n).isSome = true
  | [], _, _, _, h => by
    rcases h with h | h
    · exact h
    · exact nomatch h
  | (m, kd) :: r, k, acc, n, h => by
    unfold cellsFrom
    split
    · rename_i q
      refine cellsFrom_has ?_
      by_cases e : (n == m) = true
      · left; simp [List.lookup_cons, e]
      · rcases h with h | h
        · left; simp [List.lookup_cons, e, h]
        · rcases List.mem_cons.mp h with h | h
          · cases h; simp at e
          · exact .inr h
    · rename_i q
      refine cellsFrom_has ?_
      rcases h with h | h
      · exact .inl h
      · rcases List.mem_cons.mp h with h | h
        · cases h; simp at q
        · exact .inr h
theorem lookup_append {l₁ l₂ : List (Str × Addr)} {n : Str} : (l₁ ++ l₂).lookup n = (l₁.lookup n).or (l₂.lookup n) := by
  induction l₁ with
  | nil => simp
  | cons x r ih =>
    obtain ⟨m, a⟩ := x
    rw [List.cons_append, List.lookup_cons, List.lookup_cons]
    cases h : n == m with
    | true => rfl
    | false => exact ih
theorem lookup_filter {G : Gam} {q : Str → Bool} {n : Str} : (G.filter fun x => q x.1).lookup n = if q n then G.lookup n else none := by
  induction G with
  | nil => simp
  | cons x r ih =>
    obtain ⟨m, a⟩ := x
    rw [List.filter_cons]
    by_cases hm : q m = true
    · rw [if_pos hm, List.lookup_cons, List.lookup_cons]
      cases h : n == m with
      | true =>
        have : n = m := by simpa using h
        subst this; simp [hm]
      | false => exact ih
    · rw [if_neg hm, ih, List.lookup_cons]
      cases h : n == m with
      | true =>
        have : n = m := by simpa using h
        subst this; simp [hm]
      | false => rfl

/-- the names of the outer frame that a comprehension holds -/
noncomputable def capt (ns : List (Str × NameKind)) (G : Gam) : Gam := G.filter fun x => ns.lookup x.1 == some .free
theorem lk_capt {ns : List (Str × NameKind)} {G : Gam} {n : Str} {d : PV} (hq : (ns.lookup n == some .free) = true) (h : G.lookup n = some d) : (capt ns G).lookup n = some d := by
  unfold capt; rw [lookup_filter (q := fun m => ns.lookup m == some .free), if_pos hq]; exact h
theorem capt_lk {ns : List (Str × NameKind)} {G : Gam} {n : Str} {d : PV} (h : (capt ns G).lookup n = some d) : ns.lookup n = some .free ∧ G.lookup n = some d := by
  unfold capt at h; rw [lookup_filter (q := fun m => ns.lookup m == some .free)] at h
  split at h
  · rename_i q; exact ⟨by simpa using q, h⟩
  · exact nomatch h

namespace Fm
variable {w : World} {s₀ s s' s₁ : Shared} {S : List Addr} {env : Env} {G : Gam}
/-- objects of the frame's own are changed, that hold no name -/
theorem move (f : Fm w s₀ S env G s) {X : List Addr} (hs : ∃ h tk, s' = { s with heap := h, toks := tk }) (ht : s.toks ≤ s'.toks) (kx : KeepX X s.heap s'.heap)
    (hX : ∀ a ∈ X, a ∈ S ∧ s₀.heap.get? a = none ∧ a ≠ env.locals ∧ (∀ n c, env.cells.lookup n = some c → c ≠ a) ∧ ∃ o, s'.heap.get? a = some o) : Fm w s₀ S env G s' := by
  have kS : KeepX S s.heap s'.heap := kx.mono fun a ha => (hX a ha).1
  have hL : env.locals ∉ X := fun q => (hX _ q).2.2.1 rfl
  have hC : ∀ n c, env.cells.lookup n = some c → c ∉ X := fun n c hc q => (hX _ q).2.2.2.1 n c hc rfl
  have cell : ∀ n c v, env.cells.lookup n = some c → s.heap.IsCell c v → s'.heap.IsCell c v := fun n c v hc h => let ⟨o, ho, hd⟩ := h; ⟨o, kx _ _ (hC n c hc) ho, hd⟩
  refine ⟨?_, f.stays, f.gens, f.tok, fun a ha => ?_, f.fn, f.glob, f.bi, f.own, f.locIn, f.cellIn, fun n c hc => let ⟨v, hv⟩ := f.cellOk n c hc; ⟨v, cell n c v hc hv⟩, ?_, fun n d e => ?_⟩
  · obtain ⟨⟨h1, t1, e1, k1⟩, kt⟩ := f.keep
    obtain ⟨h2, t2, rfl⟩ := hs
    refine ⟨⟨h2, t2, by rw [e1], fun b o e => kx b o (fun q => ?_) (by rw [e1]; exact k1 b o e)⟩, Nat.le_trans kt ht⟩
    rw [(hX b q).2.1] at e; cases e
  · by_cases q : a ∈ X
    · exact (hX a q).2.2.2.2
    · obtain ⟨o, e⟩ := f.low a ha; exact ⟨o, kx _ _ q e⟩
  · obtain ⟨m, hm⟩ := f.ns
    exact ⟨m, hm.at' fun o e => kx _ _ hL e⟩
  · obtain ⟨v, hv, r⟩ := f.has n d e
    refine ⟨v, ?_, r.keep kS⟩
    rcases hv with ⟨hl, m, hm, em⟩ | ⟨hl, c, hc, ec⟩
    · exact .inl ⟨hl, m, hm.at' fun o e => kx _ _ hL e, em⟩
    · exact .inr ⟨hl, c, hc, cell n c _ hc ec⟩
/-- new objects are shut out -/
theorem grow (f : Fm w s₀ S env G s) (k : Kp s s') {X : List Addr} (hX : ∀ a ∈ X, s.heap.get? a = none ∧ ∃ o, s'.heap.get? a = some o) : Fm w s₀ (X ++ S) env G s' := by
  have f' := f.keeps k
  have hmem : ∀ a ∈ X ++ S, a ∈ S ∨ s.heap.get? a = none := fun a ha => by
    rcases List.mem_append.mp ha with h | h
    · exact .inr (hX a h).1
    · exact .inl h
  exact ⟨f'.keep, f'.stays, f'.gens, f'.tok, fun a ha => by
    rcases List.mem_append.mp ha with h | h
    · exact (hX a h).2
    · exact f'.low a h, f'.fn, f'.glob, f'.bi, f'.own, List.mem_append_right _ f'.locIn, fun n c hc => ⟨List.mem_append_right _ (f'.cellIn n c hc).1, (f'.cellIn n c hc).2⟩, f'.cellOk, f'.ns, fun n d e => by
      obtain ⟨v, hv, r⟩ := f.has n d e
      exact ⟨v, hv.keeps k, (r.more hmem).keep (kp_x k _)⟩⟩
theorem shrink {X : List Addr} (f : Fm w s₀ (X ++ S) env G s) (hL : env.locals ∈ S) (hC : ∀ n c, env.cells.lookup n = some c → c ∈ S ∧ c ≠ env.locals) : Fm w s₀ S env G s :=
  ⟨f.keep, f.stays, f.gens, f.tok, fun a ha => f.low a (List.mem_append_right _ ha), f.fn, f.glob, f.bi, f.own, hL, hC, f.cellOk, f.ns, fun n d e => let ⟨v, hv, r⟩ := f.has n d e; ⟨v, hv, r.sub fun a ha => List.mem_append_right _ ha⟩⟩
end Fm

/-! what a comprehension gathers -/
structure Out (γ : Type) where
  R : List Addr → Heap → Value → γ → Prop
  one : γ → PV
  many : List γ → PV
  inv : ∀ {S h v z}, Rep S h v (one z) → R S h v z
  keep : ∀ {S h h' v z}, KeepX S h h' → R S h v z → R S h' v z
  sub : ∀ {S S' h v z}, (∀ a ∈ S', a ∈ S) → R S h v z → R S' h v z
  mkl : ∀ {S h a vs l}, a ∉ S → h.PlainList a vs → Paired (R S h) vs.toList l → Rep S h (.ref a) (many l)
noncomputable def outA : Out PA where
  R := fun _ _ v z => Atom v z
  one := PV.at
  many := PV.list
  inv := fun r => by cases r; assumption
  keep := fun _ h => h
  sub := fun _ h => h
  mkl := fun a b c => .list a b c
noncomputable def outT : Out (List PA) where
  R := fun S h v z => TupAt S h v z
  one := PV.tup
  many := PV.tlist
  inv := fun r => by cases r; assumption
  keep := fun k h => h.keep k
  sub := fun s h => h.sub s
  mkl := fun a b c => .tlist a b c

/-- a target is bound -/
structure Asg (w : World) (k : Nat) (s₀ : Shared) (S : List Addr) (env : Env) (G : Gam) (target : Expr) (x : PV) (G' : Gam) : Prop where
  run : ∀ A E s v I, AOk k A → Fm w s₀ S env G s → (∃ o, s.heap.get? I = some o ∧ Tame o) → Rep S s.heap v x → wpAny (model p0 w) A (letOwnedTupleGo target (.ref I) v) (fun _ s' => wpAny (model p0 w) A (assign target env v)
    (fun _ s'' => Fm w s₀ S env G' s'' ∧ KeepX (env.locals :: env.cells.map (·.2)) s.heap s''.heap ∧ ∃ h tk, s'' = { s with heap := h, toks := tk }) E s') E s
structure Ts (w : World) (k : Nat) (S : List Addr) (env : Env) (G : Gam) (ifs : List Expr) (b : Bool) : Prop where
  run : ∀ s₀ A E s, AOk k A → Fm w s₀ S env G s → wpAny (model p0 w) A (forIn ifs true fun c r => if r = true then do let ok ← isTrue c env (eval c env); pure (ForInStep.yield ok) else pure (ForInStep.yield r)) (fun v s' => v = b ∧ Kp s s') E s
theorem ts_nil {w : World} {k : Nat} {S : List Addr} {env : Env} {G : Gam} : Ts w k S env G [] true := ⟨fun s₀ A E s _ f => wpAny_tests_nil ⟨rfl, kp_refl _⟩⟩
theorem ts_one {w : World} {k : Nat} {S : List Addr} {env : Env} {G : Gam} {c : Expr} {b : Bool} (h : Tr w k S env G c b) : Ts w k S env G [c] b := ⟨fun s₀ A E s a f => wpAny_tests_one (h.run s₀ A E s a f)⟩
theorem asg_name {w : World} {k : Nat} {s₀ : Shared} {S : List Addr} {env : Env} {G : Gam} {n : Str} {p : Pos} {x : PV} (hk : env.kindOf n = some .local) : Asg w k s₀ S env G (.Name n p) x ((n, x) :: G) := ⟨fun A E s v I a f _ r =>
  wpAny_of_eq (rfl : letOwnedTupleGo (.Name n p) (.ref I) v = pure ()) (wpAny_assign_Name (wpAny_mono (Q := fun _ s'' => ∃ h tk, s'' = { s with heap := h, toks := tk }  ∧ (Fm w s₀ S env ((n, x) :: G) s'' ∧ KeepX [env.locals] s.heap s''.heap)) (store_local f hk r fun s'' f' kx e => by obtain ⟨h, tk, e⟩ := e; exact ⟨h, tk, e, f', kx⟩) (fun _ s'' q => by
      obtain ⟨h, tk, e, q1, q2⟩ := q
      exact ⟨q1, q2.mono (fun a ha => by simp at ha; simp [ha]), h, tk, e⟩) fun _ _ x => x))⟩
end Mine
end

section
set_option maxRecDepth 100000
set_option linter.unusedVariables false
set_option linter.unusedSimpArgs false
namespace Mine
open PySem PySem.W PySem.Calls PyProof.Rows

theorem comp_loop {w : World} {A : Around} {R : Result → Shared → Prop} {s : Shared} {elt target iter : Expr} {ifs : List Expr} {scope : Scope} {pos : Pos} {it acc : Value} {env : Env} (I : Nat → Shared → Prop)
    (turn : ∀ n s (E : Value → Shared → Prop), I n s → wpAny (model p0 w) A (pyNext it) (fun r s₁ => match r with
      | none => R (.ok .next) s₁
      | some v => wpAny (model p0 w) A (letOwnedTupleGo target it v) (fun _ s₂ => wpAny (model p0 w) A (assign target env v) (fun _ s₃ =>
          wpAny (model p0 w) A (forIn ifs true fun c r => if r = true then do let ok ← isTrue c env (eval c env); pure (ForInStep.yield ok) else pure (ForInStep.yield r)) (fun ok s₄ =>
            if ok = true then wpAny (model p0 w) A (eval elt env) (fun x s₅ => wpAny (model p0 w) A (call (.builtin "list.append") [acc, x]) (fun _ s₆ => ∃ m, m < n ∧ I m s₆) E s₅) E s₄
            else ∃ m, m < n ∧ I m s₄) E s₃) E s₂) E s₁) E s)
    (n : Nat) (h : I n s) : codeAny (model p0 w) A (.compLoop (.ListComp elt [⟨target, iter, ifs, 0⟩] scope pos) 0 it acc env) R s := by
  refine codeAny_loop rfl I (fun n s hI => ?_) n h
  show wpAny _ A ((compTurn (.ListComp elt [⟨target, iter, ifs, 0⟩] scope pos) 0 it acc env).onRaise (fun x => do noteFrame x env; theTreesLotGoes x)) _ _ s
  refine wpAny_noted ?_
  rw [compTurn_list]
  refine wpAny_bind (wpAny_standAt (wpAny_bind (wpAny_mono (turn n s _ hI) (fun r s₁ h₁ => ?_) fun _ _ q => q)))
  cases r with
  | none => exact wpAny_pure h₁
  | some v =>
    refine wpAny_bind (wpAny_mono h₁ (fun _ s₂ h₂ => wpAny_bind (wpAny_mono h₂ (fun _ s₃ h₃ => wpAny_bind (wpAny_mono h₃ (fun ok s₄ h₄ => ?_) fun _ _ q => q)) fun _ _ q => q)) fun _ _ q => q)
    cases ok with
    | false => exact wpAny_pure ⟨rfl, h₄⟩
    | true => exact wpAny_bind (wpAny_bind (wpAny_mono h₄ (fun x s₅ h₅ => wpAny_bind (wpAny_mono h₅ (fun _ s₆ h₆ => wpAny_pure (wpAny_pure ⟨rfl, h₆⟩)) fun _ _ q => q)) fun _ _ q => q))

theorem new_comp_env {M : Model} {A : Around} {E : Value → Shared → Prop} {s : Shared} {scope : Scope} {cl : List (Str × Addr)} {env : Env} {g : Addr} {qual : Str} {Q : Env → Shared → Prop}
    (h : Q (newEnv scope s.heap.objs.size g (cellsFrom (s.heap.objs.size + 1) scope.names cl) qual none .none (some env) builtinsNs) { s with heap := pushCells (s.heap.push { cls := .type "dict", data := .dict #[] }) scope.names }) :
    wpAny M A (newFunctionEnv scope g cl [] qual none .none (some env)) Q E s := by
  simp only [newFunctionEnv, Option.isSome_some, if_true]
  refine wpAny_bind (wpAny_alloc ?_)
  refine wpAny_bind (wpAny_layCells _ (fun name kind cells => by cases hkc : kind == NameKind.cell <;> simp [hkc]) _ _ _ _ ?_)
  rw [show ({ s with heap := s.heap.push { cls := .type "dict", data := .dict #[] } } : Shared).heap.objs.size = s.heap.objs.size + 1 from Heap.size_push ..]
  rw [List.forIn_nil]
  exact wpAny_bind (wpAny_pure (wpAny_pure h))

/-- what is known of a comprehension's frame -/
structure CEnv (s₁ : Shared) (K ns : List (Str × NameKind)) (cenv : Env) : Prop where
  names : cenv.scope.names = relabelN K ns
  ownc : ∀ n, (n, NameKind.cell) ∈ ns → OwnCell cenv s₁ n
noncomputable def compOk (K ns : List (Str × NameKind)) (gn : List Str) : Bool :=
  (ns.all fun x => x.2 != .local || ns.lookup x.1 == some .local) && (ns.all fun x => x.2 != .free || (K.lookup x.1 == some .cell && gn.contains x.1 && ns.lookup x.1 == some .free)) && (ns.all fun x => x.2 != .cell || ns.lookup x.1 == some .cell)
    && decide (((ns.filter (·.2 == .cell)).map (·.1)).Nodup)
theorem relabelN_lookup {K ns : List (Str × NameKind)} {n : Str} : (relabelN K ns).lookup n = (ns.lookup n).map fun k => if (k == .free && K.lookup n == some .cell) then .cell else k := by
  unfold relabelN
  induction ns with
  | nil => rfl
  | cons x r ih =>
    obtain ⟨m, kd⟩ := x
    by_cases h : n = m
    · subst h
      simp only [List.map_cons]
      split <;> simp_all [List.lookup_cons]
    · have hb : (n == m) = false := by simpa using h
      simp only [List.map_cons]
      split <;> (simp only [List.lookup_cons, hb]; exact ih)
theorem has_names {G : Gam} {n : Str} (h : (G.map (·.1)).contains n = true) : ∃ d, G.lookup n = some d := by
  induction G with
  | nil => simp at h
  | cons x r ih =>
    obtain ⟨m, d⟩ := x
    by_cases q : n = m
    · subst q; exact ⟨d, by simp⟩
    · have hb : (n == m) = false := by simpa using q
      rw [List.lookup_cons, hb]
      refine ih ?_
      simpa [q] using h
theorem cellsFrom_nodup : ∀ (nl : List (Str × NameKind)) (j : Nat) (acc : List (Str × Addr)), (acc.map (·.1)).Nodup → ((nl.filter (·.2 == .cell)).map (·.1)).Nodup → (∀ x ∈ nl, x.2 = .cell → x.1 ∉ acc.map (·.1)) → ((cellsFrom j nl acc).map (·.1)).Nodup
  | [], _, _, h, _, _ => h
  | (m, kd) :: r, j, acc, h, hn, hni => by
    unfold cellsFrom
    by_cases q : (kd == NameKind.cell) = true
    · rw [if_pos q]
      have qf : List.filter (fun x : Str × NameKind => x.2 == .cell) ((m, kd) :: r) = (m, kd) :: List.filter (fun x => x.2 == .cell) r := by simp [List.filter_cons, q]
      rw [qf, List.map_cons, List.nodup_cons] at hn
      refine cellsFrom_nodup r _ _ ?_ hn.2 fun x hx hc => ?_
      · rw [List.map_cons, List.nodup_cons]
        exact ⟨hni _ List.mem_cons_self (by simpa using q), h⟩
      · simp only [List.map_cons, List.mem_cons, not_or]
        refine ⟨fun e => hn.1 (List.mem_map.mpr ⟨x, List.mem_filter.mpr ⟨hx, by simp [hc]⟩, e⟩), hni x (List.mem_cons_of_mem _ hx) hc⟩
    · rw [if_neg q]
      have qf : List.filter (fun x : Str × NameKind => x.2 == .cell) ((m, kd) :: r) = List.filter (fun x => x.2 == .cell) r := by simp [List.filter_cons, q]
      rw [qf] at hn
      exact cellsFrom_nodup r _ _ h hn fun x hx hc => hni x (List.mem_cons_of_mem _ hx) hc
theorem lookup_of_nodup : ∀ {l : List (Str × Addr)}, (l.map (·.1)).Nodup → ∀ {n c}, (n, c) ∈ l → l.lookup n = some c
  | [], _, _, _, h => nomatch h
  | (m, a) :: r, hn, n, c, h => by
    rw [List.map_cons, List.nodup_cons] at hn
    rw [List.lookup_cons]
    rcases List.mem_cons.mp h with e | h
    · cases e; simp
    · have : (n == m) = false := beq_eq_false_iff_ne.mpr fun q => hn.1 (q ▸ List.mem_map.mpr ⟨_, h, rfl⟩)
      rw [this]; exact lookup_of_nodup hn.2 h
theorem cellsFrom_addr : ∀ (nl : List (Str × NameKind)) (j : Nat) (acc : List (Str × Addr)), (∀ x ∈ acc, x.2 < j) → (acc.map (·.2)).Nodup → ((cellsFrom j nl acc).map (·.2)).Nodup
  | [], _, _, _, h => h
  | (m, kd) :: r, j, acc, hlt, h => by
    unfold cellsFrom
    split
    · refine cellsFrom_addr r _ _ (fun x hx => ?_) ?_
      · rcases List.mem_cons.mp hx with rfl | hx
        · exact Nat.lt_succ_self _
        · exact Nat.lt_succ_of_lt (hlt x hx)
      · rw [List.map_cons, List.nodup_cons]
        refine ⟨fun hm => ?_, h⟩
        obtain ⟨x, hx, e⟩ := List.mem_map.mp hm
        have := hlt x hx
        rw [e] at this; exact Nat.lt_irrefl _ this
    · exact cellsFrom_addr r _ _ hlt h
theorem addr_inj : ∀ {l : List (Str × Addr)}, (l.map (·.2)).Nodup → ∀ {n m c}, (n, c) ∈ l → (m, c) ∈ l → n = m
  | [], _, _, _, _, h, _ => nomatch h
  | x :: r, hn, n, m, c, h, h' => by
    rw [List.map_cons, List.nodup_cons] at hn
    rcases List.mem_cons.mp h with e | h <;> rcases List.mem_cons.mp h' with e' | h'
    · rw [← e'] at e; cases e; rfl
    · exact absurd (List.mem_map.mpr ⟨_, h', by rw [← e]⟩) hn.1
    · exact absurd (List.mem_map.mpr ⟨_, h, by rw [← e']⟩) hn.1
    · exact addr_inj hn.2 h h'
theorem pushCells_cell : ∀ {nl : List (Str × NameKind)} {h : Heap} {acc : List (Str × Addr)} {n : Str} {c : Addr}, (n, c) ∈ cellsFrom h.objs.size nl acc → (n, c) ∈ acc ∨ (pushCells h nl).IsCell c none
  | [], _, _, _, _, h => .inl h
  | (m, kd) :: r, h, acc, n, c, hm => by
    unfold cellsFrom at hm
    unfold pushCells
    split
    · rename_i q
      rw [if_pos q] at hm
      have hm' : (n, c) ∈ cellsFrom (h.push { cls := .type "cell", data := .cell none }).objs.size r ((m, h.objs.size) :: acc) := by rw [Heap.size_push]; exact hm
      rcases pushCells_cell hm' with hm | hm
      · rcases List.mem_cons.mp hm with e | hm
        · cases e
          exact .inr (Heap.IsCell.keeps (⟨_, Heap.get?_push_size _ rfl, rfl⟩ : (h.push { cls := .type "cell", data := .cell none } : Heap).IsCell h.objs.size none) (pushCells_keeps r _))
        · exact .inl hm
      · exact .inr hm
    · rename_i q
      rw [if_neg q] at hm
      exact pushCells_cell hm

section
variable {w : World} {k : Nat} {S : List Addr} {env : Env} {G : Gam} {γ β : Type}

theorem Fm.drop {w : World} {s₀ s s' : Shared} {S T X : List Addr} {env : Env} {G : Gam} (f : Fm w s₀ S env G s) (hT : ∀ a ∈ T, a ∈ S) (hs : ∃ h tk, s' = { s with heap := h, toks := tk }) (ht : s.toks ≤ s'.toks) (kx : KeepX X s.heap s'.heap)
    (hX : ∀ a ∈ X, a ∈ S ∧ s₀.heap.get? a = none ∧ a ∉ T) (hL : env.locals ∈ T) (hCT : ∀ n c, env.cells.lookup n = some c → c ∈ T) : Fm w s₀ T env G s' := by
  have kS : KeepX S s.heap s'.heap := kx.mono fun a ha => (hX a ha).1
  have off : ∀ a ∈ T, a ∉ X := fun a ha q => (hX a q).2.2 ha
  have cell : ∀ n c v, env.cells.lookup n = some c → s.heap.IsCell c v → s'.heap.IsCell c v := fun n c v hc h => let ⟨o, ho, hd⟩ := h; ⟨o, kx _ _ (off c (hCT n c hc)) ho, hd⟩
  refine ⟨?_, f.stays, f.gens, f.tok, fun a ha => ?_, f.fn, f.glob, f.bi, f.own, hL, fun n c hc => ⟨hCT n c hc, (f.cellIn n c hc).2⟩, fun n c hc => let ⟨v, hv⟩ := f.cellOk n c hc; ⟨v, cell n c v hc hv⟩, ?_, fun n d e => ?_⟩
  · obtain ⟨⟨h1, t1, e1, k1⟩, kt⟩ := f.keep
    obtain ⟨h2, t2, rfl⟩ := hs
    refine ⟨⟨h2, t2, by rw [e1], fun b o e => kx b o (fun q => ?_) (by rw [e1]; exact k1 b o e)⟩, Nat.le_trans kt ht⟩
    rw [(hX b q).2.1] at e; cases e
  · obtain ⟨o, e⟩ := f.low a (hT a ha); exact ⟨o, kx _ _ (off a ha) e⟩
  · obtain ⟨m, hm⟩ := f.ns
    exact ⟨m, hm.at' fun o e => kx _ _ (off _ hL) e⟩
  · obtain ⟨v, hv, r⟩ := f.has n d e
    refine ⟨v, ?_, (r.keep kS).sub hT⟩
    rcases hv with ⟨hl, m, hm, em⟩ | ⟨hl, c, hc, ec⟩
    · exact .inl ⟨hl, m, hm.at' fun o e => kx _ _ (off _ hL) e, em⟩
    · exact .inr ⟨hl, c, hc, cell n c _ hc ec⟩

/-- a comprehension of one for: what stands at its end -/
structure Done (w : World) (O : Out γ) (s₁ : Shared) (S S' : List Addr) (cenv : Env) (Γ : Gam) (D : Addr) (out : List γ) (s' : Shared) : Prop where
  fm : Fm w s₁ S' cenv Γ s'
  sub : ∀ a ∈ S, a ∈ S'
  newD : s₁.heap.get? D = none
  offD : D ∉ S
  neD : D ≠ cenv.locals
  list : ∃ ys, s'.heap.PlainList D ys ∧ Paired (O.R S' s'.heap) ys.toList out

theorem comp_core {A : Around} {E : Value → Shared → Prop} {s₀ s₁ s₂ : Shared} {K : List (Str × NameKind)} (O : Out γ) {elt target iter : Expr} {ifs : List Expr} {scope : Scope} {pos : Pos} (l : List β) (emb : β → PV) (p : β → Bool) (ρ : β → γ) (Γ' : β → Gam)
    (hA : AOk k A) (f : Fm w s₀ S env G s₁) (hK : env.scope.names = K) (ok : compOk K scope.names (G.map (·.1)) = true) (hkind : scope.kind = .function) (hsz : l.length ≤ 2 ^ 24)
    {I : Addr} {fp : List Addr} {P : Nat → Value → Prop} {St : Nat → Heap → Prop} (hI : s₁.heap.get? I = none) (hSt : ∀ i h, St i h → ∃ o, h.get? I = some o ∧ Tame o) (hfp : ∀ b ∈ fp, b = I ∨ ∃ o, s₁.heap.get? b = some o)
    (W : Wks w 0 A I fp (l.map emb).length P St) (hP : ∀ j v, j < (l.map emb).length → P j v → ∃ x, (l.map emb)[j]? = some x ∧ Rep S s₁.heap v x) (st0 : St 0 s₂.heap) (k12 : Kp s₁ s₂)
    (asg : ∀ S' cenv, CEnv s₁ K scope.names cenv → ∀ b ∈ l, Asg w k s₁ S' cenv (capt scope.names G) target (emb b) (Γ' b))
    (back : ∀ b n d, (capt scope.names G).lookup n = some d → (Γ' b).lookup n = some d)
    (tst : ∀ S' cenv, CEnv s₁ K scope.names cenv → ∀ b ∈ l, Ts w k S' cenv (Γ' b) ifs (p b))
    (elm : ∀ S' cenv, CEnv s₁ K scope.names cenv → ∀ b ∈ l, p b = true → Ev w k S' cenv (Γ' b) elt (O.one (ρ b)))
    {RR : Value → Addr → Result → Shared → Prop}
    (hRR : ∀ S' cenv D s', Done w O s₁ S S' cenv (capt scope.names G) D ((l.filter p).map ρ) s' → RR (.ref D) cenv.locals (.ok .next) s') :
    closureFor scope env = pure (shut env.cells scope.names []) ∧ (∀ y ∈ scope.names, y.2 = .local → scope.names.lookup y.1 = some .local) ∧
    wpAny (model p0 w) A (newList []) (fun acc s₃ => wpAny (model p0 w) A (newFunctionEnv scope env.globals (shut env.cells scope.names []) [] env.qual none .none (some env)) (fun cenv s₄ =>
      codeAny (model p0 w) A (.compStart (.ListComp elt [⟨target, iter, ifs, 0⟩] scope pos) 0 (.ref I) acc { cenv with scope := relabel scope env }) (RR acc cenv.locals) s₄) E s₃) E s₂ := by
  obtain ⟨ok1, hnd⟩ := Bool.and_eq_true_iff.mp ok
  obtain ⟨ok2, hcellOk⟩ := Bool.and_eq_true_iff.mp ok1
  obtain ⟨hlocOk, hfreeOk⟩ := Bool.and_eq_true_iff.mp ok2
  have hnd := of_decide_eq_true hnd
  have hloc : ∀ y ∈ scope.names, y.2 = .local → scope.names.lookup y.1 = some .local := fun y hy e => by
    have := List.all_eq_true.mp hlocOk y hy
    rw [e] at this; simpa using this
  have hcell : ∀ n, (n, NameKind.cell) ∈ scope.names → scope.names.lookup n = some .cell := fun n hn => by
    have := List.all_eq_true.mp hcellOk _ hn
    simpa using this
  have hfree : ∀ x ∈ scope.names, x.2 = .free → K.lookup x.1 = some .cell ∧ (∃ d, G.lookup x.1 = some d) ∧ scope.names.lookup x.1 = some .free := fun x hx e => by
    have := List.all_eq_true.mp hfreeOk x hx
    rw [e] at this
    have h2 : (K.lookup x.1 == some .cell && (G.map (·.1)).contains x.1 && scope.names.lookup x.1 == some .free) = true := by simpa using this
    obtain ⟨h3, h4⟩ := Bool.and_eq_true_iff.mp h2
    obtain ⟨h5, h6⟩ := Bool.and_eq_true_iff.mp h3
    exact ⟨by simpa using h5, has_names h6, by simpa using h4⟩
  have kd : ∀ n x, K.lookup n = some x → env.kindOf n = some x := fun n x e => by unfold Env.kindOf; rw [hK]; exact e
  -- the cell of a free name
  have hfc : ∀ n, (n, NameKind.free) ∈ scope.names → ∃ c, env.cells.lookup n = some c := fun n hn => by
    obtain ⟨h1, ⟨d, h2⟩, _⟩ := hfree _ hn rfl
    obtain ⟨v, hv, _⟩ := f.has _ _ h2
    rcases hv with ⟨hl, _⟩ | ⟨_, c, hc, _⟩
    · rw [kd _ _ h1] at hl; cases hl
    · exact ⟨c, hc⟩
  have hsome : ∀ x ∈ scope.names, x.2 = .free → (env.cells.lookup x.1).isSome = true := fun x hx e => by
    obtain ⟨n, kk⟩ := x
    obtain rfl : kk = .free := e
    obtain ⟨c, hc⟩ := hfc n hx
    rw [hc]; rfl
  refine ⟨closureFor_shut hsome, hloc, ?_⟩
  obtain ⟨oI, hoI, htI⟩ := hSt 0 _ st0
  have fr : ∀ b, s₂.heap.objs.size ≤ b → s₁.heap.get? b = none := fun b hb => by
    cases e : s₁.heap.get? b with
    | none => rfl
    | some o => exact absurd (Heap.lt_size (kp_get k12 _ _ e)) (Nat.not_lt.mpr hb)
  have hIlt : I < s₂.heap.objs.size := Heap.lt_size hoI
  refine wpAny_newObj_type (new_comp_env ?_) (Nat.zero_le _)
  generalize hLo : ({ cls := .type "list", dict := none, data := .seq ([] : List Value).toArray } : Obj) = Lo
  generalize hD : s₂.heap.objs.size = D at fr hIlt ⊢
  generalize hH3 : s₂.heap.push Lo = H3
  have hC3 : H3.objs.size = D + 1 := by rw [← hH3, Heap.size_push, hD]
  generalize hC : H3.objs.size = C at hC3 ⊢
  dsimp only
  generalize hH4 : pushCells (H3.push { cls := .type "dict", data := .dict #[] }) scope.names = H4
  generalize hcl : shut env.cells scope.names [] = cl
  have hsz4 : (H3.push { cls := .type "dict", data := .dict #[] } : Heap).objs.size = C + 1 := by rw [Heap.size_push, hC]
  have hown : cellsFrom (C + 1) scope.names cl = cellsFrom (C + 1) scope.names [] ++ cl := cellsFrom_app _ _ _
  generalize hownl : cellsFrom (C + 1) scope.names [] = own at hown
  have old : ∀ b o, s₂.heap.get? b = some o → H4.get? b = some o := fun b o e => by
    rw [← hH4]; exact pushCells_keeps _ _ _ _ (Heap.get?_push_of_some _ (hH3 ▸ Heap.get?_push_of_some _ e))
  have hLD : H4.PlainList D #[] := by
    rw [← hH4]
    refine ⟨0, pushCells_keeps _ _ _ _ (Heap.get?_push_of_some _ ?_)⟩
    rw [← hH3, ← hD, ← hLo]; exact Heap.get?_push_size _ rfl
  have hNC : H4.Ns C (fun _ => none) := by
    rw [← hH4, ← hC]; exact (Heap.Ns.new H3 (.type "dict")).keeps (pushCells_keeps _ _)
  have hcells : ∀ n c, (n, c) ∈ own → H4.IsCell c none ∧ C < c ∧ (n, NameKind.cell) ∈ scope.names := fun n c hm => by
    rw [← hownl] at hm
    have h1 : (n, c) ∈ cellsFrom (H3.push { cls := .type "dict", data := .dict #[] } : Heap).objs.size scope.names [] := by rw [hsz4]; exact hm
    rcases pushCells_cell h1 with h | h
    · exact nomatch h
    · rcases mem_cellsFrom hm with h' | h'
      · exact nomatch h'
      · rw [← hH4]; exact ⟨h, h'.2, h'.1⟩
  have hcap : ∀ n c, (n, c) ∈ cl → (n, NameKind.free) ∈ scope.names ∧ env.cells.lookup n = some c := fun n c hm => by
    rw [← hcl] at hm
    rcases mem_shut hsome hm with h | h
    · exact nomatch h
    · exact h
  -- the frame
  generalize hce : compEnvC scope (own ++ cl) C env = cenv
  have e1 : cenv.locals = C := by rw [← hce]; rfl
  have e2 : cenv.cells = own ++ cl := by rw [← hce]; rfl
  have e3 : cenv.scope.names = relabelN K scope.names := by rw [← hce]; exact relabel_names f.fn hK
  have e4 : cenv.scope.kind = .function := by rw [← hce]; exact hkind
  have e5 : cenv.globals = mainGlobals := by rw [← hce]; exact f.glob
  have e6 : cenv.builtins = builtinsNs := by rw [← hce]; exact f.bi
  have look : ∀ n c, cenv.cells.lookup n = some c → ((n, c) ∈ own ∨ (n, c) ∈ cl) := fun n c h => by
    rw [e2] at h; exact List.mem_append.mp (mem_of_lookup h)
  have capLive : ∀ n c, (n, c) ∈ cl → ∃ v, s₁.heap.IsCell c v := fun n c hm => f.cellOk n c (hcap n c hm).2
  have ce : CEnv s₁ K scope.names cenv := ⟨e3, fun n hn => by
    have h1 : ((cellsFrom (C + 1) scope.names []).lookup n).isSome = true := cellsFrom_has (.inr hn)
    rw [hownl] at h1
    obtain ⟨c, hc⟩ := Option.isSome_iff_exists.mp h1
    have hm := mem_of_lookup hc
    refine ⟨?_, c, ?_, fr c ?_, fun m hm' => ?_⟩
    · show cenv.scope.names.lookup n = some .cell
      rw [e3, relabelN_lookup, hcell n hn]; rfl
    · rw [e2, lookup_append, hc]; rfl
    · have := (hcells n c hm).2.1; (first | lia | omega)
    · rcases look m c hm' with h | h
      · exact addr_inj (l := own) (by rw [← hownl]; exact cellsFrom_addr _ _ _ (fun _ h => nomatch h) List.nodup_nil) h hm
      · obtain ⟨v, o, ho, _⟩ := capLive m c h
        have h2 := fr c (by have := (hcells n c hm).2.1; (first | lia | omega))
        rw [h2] at ho; cases ho⟩
  generalize hT : C :: D :: (own.map (·.2) ++ S) = T
  generalize hS' : I :: T = S'
  have ownT : ∀ n c, (n, c) ∈ own → c ∈ T := fun n c hm => by rw [← hT]; exact List.mem_cons_of_mem _ (List.mem_cons_of_mem _ (List.mem_append_left _ (List.mem_map.mpr ⟨_, hm, rfl⟩)))
  have ST : ∀ a ∈ S, a ∈ T := fun a ha => by rw [← hT]; exact List.mem_cons_of_mem _ (List.mem_cons_of_mem _ (List.mem_append_right _ ha))
  have CT : C ∈ T := by rw [← hT]; exact List.mem_cons_self
  have DT : D ∈ T := by rw [← hT]; exact List.mem_cons_of_mem _ List.mem_cons_self
  have TS' : ∀ a ∈ T, a ∈ S' := fun a ha => by rw [← hS']; exact List.mem_cons_of_mem _ ha
  have IS' : I ∈ S' := by rw [← hS']; exact List.mem_cons_self
  have cellsT : ∀ n c, cenv.cells.lookup n = some c → c ∈ T := fun n c h => by
    rcases look n c h with h | h
    · exact ownT n c h
    · exact ST c (f.cellIn n c (hcap n c h).2).1
  have newT : ∀ a ∈ T, a ∈ S ∨ s₁.heap.get? a = none := fun a ha => by
    rw [← hT] at ha
    rcases List.mem_cons.mp ha with rfl | ha
    · exact .inr (fr _ (by (first | lia | omega)))
    rcases List.mem_cons.mp ha with rfl | ha
    · exact .inr (fr _ (Nat.le_refl _))
    rcases List.mem_append.mp ha with ha | ha
    · obtain ⟨x, hx, rfl⟩ := List.mem_map.mp ha
      exact .inr (fr _ (by have := (hcells x.1 x.2 hx).2.1; (first | lia | omega)))
    · exact .inl ha
  have newS : ∀ a ∈ S', a ∈ S ∨ s₁.heap.get? a = none := fun a ha => by
    rw [← hS'] at ha
    rcases List.mem_cons.mp ha with rfl | ha
    · exact .inr hI
    · exact newT a ha
  have hDC' : D < C := by rw [hC3]; exact Nat.lt_succ_self D
  have hIC : I ≠ C := Nat.ne_of_lt (Nat.lt_trans hIlt hDC')
  have hDC : D ≠ C := Nat.ne_of_lt hDC'
  have hDI : D ≠ I := Nat.ne_of_gt hIlt
  have big : ∀ n c, (n, c) ∈ own → c ≠ I ∧ c ≠ D ∧ c ≠ C := fun n c h => by
    have h1 := (hcells n c h).2.1
    exact ⟨Nat.ne_of_gt (Nat.lt_trans hIlt (Nat.lt_trans hDC' h1)), Nat.ne_of_gt (Nat.lt_trans hDC' h1), Nat.ne_of_gt h1⟩
  have hIT : I ∉ T := fun ha => by
    rw [← hT] at ha
    rcases List.mem_cons.mp ha with h | ha
    · exact hIC h
    rcases List.mem_cons.mp ha with h | ha
    · exact hDI h.symm
    rcases List.mem_append.mp ha with ha | ha
    · obtain ⟨x, hx, h⟩ := List.mem_map.mp ha
      exact (big x.1 x.2 hx).1 h
    · obtain ⟨o, e⟩ := f.low _ ha; rw [hI] at e; cases e
  have cellsNe : ∀ b, b = I ∨ b = D → ∀ n c, cenv.cells.lookup n = some c → c ≠ b := fun b hb n c h q => by
    rcases look n c h with h | h
    · rcases hb with rfl | rfl
      · exact (big n c h).1 q
      · exact (big n c h).2.1 q
    · obtain ⟨v, o, ho, _⟩ := capLive n c h
      rcases hb with rfl | rfl
      · rw [q, hI] at ho; cases ho
      · rw [q, fr _ (Nat.le_refl _)] at ho; cases ho
  have offX : ∀ b, b = I ∨ b = D → b ∉ cenv.locals :: cenv.cells.map (·.2) := fun b hb hm => by
    rcases List.mem_cons.mp hm with h | h
    · rw [e1] at h; rcases hb with rfl | rfl
      · exact hIC h
      · exact hDC h
    · obtain ⟨x, hx, h⟩ := List.mem_map.mp h
      rw [e2] at hx
      rcases List.mem_append.mp hx with hx | hx
      · rcases hb with rfl | rfl
        · exact (big x.1 x.2 hx).1 h
        · exact (big x.1 x.2 hx).2.1 h
      · obtain ⟨v, o, ho, _⟩ := capLive x.1 x.2 hx
        rcases hb with rfl | rfl
        · rw [h, hI] at ho; cases ho
        · rw [h, fr _ (Nat.le_refl _)] at ho; cases ho
  have XS' : ∀ a ∈ cenv.locals :: cenv.cells.map (·.2), a ∈ S' := fun a ha => by
    rcases List.mem_cons.mp ha with h | h
    · rw [h, e1]; exact TS' _ CT
    · obtain ⟨x, hx, rfl⟩ := List.mem_map.mp h
      rw [e2] at hx
      rcases List.mem_append.mp hx with hx | hx
      · exact TS' _ (ownT x.1 x.2 hx)
      · exact TS' _ (ST _ (f.cellIn x.1 x.2 (hcap x.1 x.2 hx).2).1)
  have k14 : Kp s₁ { s₂ with heap := H4 } := kp_trans k12 ⟨⟨H4, s₂.toks, rfl, old⟩, Nat.le_refl _⟩
  have fm0 : Fm w s₁ S' cenv (capt scope.names G) { s₂ with heap := H4 } := by
    refine ⟨k14, f.st, f.gen, f.tk, fun a ha => ?_, e4, e5, e6, by rw [e1]; exact fr _ (by (first | lia | omega)), by rw [e1]; exact TS' _ CT, fun n c h => ⟨TS' _ (cellsT n c h), fun q => ?_⟩, fun n c h => ?_, ⟨_, by rw [e1]; exact hNC⟩, fun n d e => ?_⟩
    · rw [← hS'] at ha
      rcases List.mem_cons.mp ha with rfl | ha
      · exact ⟨oI, old _ _ hoI⟩
      rw [← hT] at ha
      rcases List.mem_cons.mp ha with rfl | ha
      · obtain ⟨o, _, _, e, _⟩ := hNC; exact ⟨o, e⟩
      rcases List.mem_cons.mp ha with rfl | ha
      · obtain ⟨_, e⟩ := hLD; exact ⟨_, e⟩
      rcases List.mem_append.mp ha with ha | ha
      · obtain ⟨x, hx, rfl⟩ := List.mem_map.mp ha
        obtain ⟨o, e, _⟩ := (hcells x.1 x.2 hx).1; exact ⟨o, e⟩
      · obtain ⟨o, e⟩ := f.low a ha; exact ⟨o, kp_get k14 _ _ e⟩
    · rcases look n c h with h | h
      · have := (hcells n c h).2.1; rw [q, e1] at this; exact Nat.lt_irrefl _ this
      · obtain ⟨v, o, ho, _⟩ := capLive n c h
        rw [q, e1, fr _ (by (first | lia | omega))] at ho; cases ho
    · rcases look n c h with h | h
      · exact ⟨_, (hcells n c h).1⟩
      · obtain ⟨v, hv⟩ := capLive n c h
        exact ⟨v, hv.keeps (kp_get k14)⟩
    · obtain ⟨hfr, hg⟩ := capt_lk e
      obtain ⟨v, hv, r⟩ := f.has n d hg
      refine ⟨v, ?_, (r.more newS).keep (kp_x k14 _)⟩
      have hmem : (n, NameKind.free) ∈ scope.names := mem_of_lookup hfr
      obtain ⟨hKc, _, _⟩ := hfree _ hmem rfl
      rcases hv with ⟨hl, _⟩ | ⟨_, c, hc, hcv⟩
      · rw [kd _ _ hKc] at hl; cases hl
      refine .inr ⟨?_, c, ?_, hcv.keeps (kp_get k14)⟩
      · show cenv.scope.names.lookup n = some .cell
        rw [e3, relabelN_lookup, hfr, hKc]; rfl
      · rw [e2, lookup_append]
        have h1 : own.lookup n = none := by
          cases h : own.lookup n with
          | none => rfl
          | some c' =>
            have := hcell n (hcells n c' (mem_of_lookup h)).2.2
            rw [hfr] at this; cases this
        rw [h1]
        have h2 : (cl.lookup n).isSome = true := by rw [← hcl]; exact shut_has (.inr hmem)
        obtain ⟨c', hc'⟩ := Option.isSome_iff_exists.mp h2
        have h3 := (hcap n c' (mem_of_lookup hc')).2
        rw [hc] at h3; cases h3
        exact hc'
  have loop : codeAny (model p0 w) A (.compLoop (.ListComp elt [⟨target, iter, ifs, 0⟩] scope pos) 0 (.ref I) (.ref D) cenv) (RR (.ref D) cenv.locals) { s₂ with heap := H4 } := by
    refine comp_loop (fun n s => ∃ i ys, i ≤ l.length ∧ n = l.length + 1 - i ∧ St i s.heap ∧ Fm w s₁ S' cenv (capt scope.names G) s ∧ s.heap.PlainList D ys ∧ Paired (O.R S' s.heap) ys.toList (((l.take i).filter p).map ρ)) ?_ (l.length + 1)
      ⟨0, #[], Nat.zero_le _, rfl, W.frame _ _ _ st0 fun b _ o e => old b o e, fm0, hLD, by simpa using Paired.nil⟩
    rintro n s E' ⟨i, ys, hi, rfl, st, fs, hl, hp⟩
    have keepSt : ∀ {j : Nat} {h h' : Heap}, St j h → (∀ b o, (b = I ∨ ∃ o₁, s₁.heap.get? b = some o₁) → h.get? b = some o → h'.get? b = some o) → St j h' := fun st hk => W.frame _ _ _ st fun b hb o e => hk b o (hfp b hb) e
    by_cases hlt : i < l.length
    · have hb? : l[i]? = some l[i] := List.getElem?_eq_getElem hlt
      generalize hbe : l[i] = b at hb?
      have hbl : b ∈ l := hbe ▸ List.getElem_mem hlt
      refine wpAny_mono (wpAny_toks (W.item i s (fun r s' => ∃ v h' tk, r = some v ∧ s' = { s with heap := h', toks := tk } ∧ P i v ∧ St (i + 1) h' ∧ KeepX [I] s.heap h') E' (Nat.zero_le _) (by simpa using hlt) st
        fun v h' tk hPv st' hk => ⟨v, h', tk, rfl, rfl, hPv, st', fun b o hb e => hk b o hb e⟩)) (fun r sa q => ?_) fun _ _ q => q.2
      obtain ⟨htk, v, h', tk, rfl, rfl, hPv, st1, kx⟩ := q
      dsimp only at htk ⊢
      have f1 : Fm w s₁ S' cenv (capt scope.names G) { s with heap := h', toks := tk } := fs.move ⟨h', tk, rfl⟩ htk kx fun a ha => by
        simp at ha; subst ha
        exact ⟨IS', hI, by rw [e1]; exact hIC, cellsNe a (.inl rfl), let ⟨o, e, _⟩ := hSt _ _ st1; ⟨o, e⟩⟩
      obtain ⟨x, hx, hr⟩ := hP i v (by simpa using hlt) hPv
      obtain rfl : x = emb b := by simpa [hb?] using hx.symm
      refine wpAny_mono ((asg S' cenv ce b hbl).run A E' _ v I hA f1 (hSt _ _ st1) ((hr.more newS).keep (kp_x f1.keep _))) (fun _ sb q => wpAny_mono q (fun _ sc q => ?_) fun _ _ q => q) fun _ _ q => q
      obtain ⟨f3, kx3, hsh3⟩ := q
      have st3 : St (i + 1) sc.heap := keepSt st1 fun b' o hb' e => by
        rcases hb' with rfl | ⟨o₁, e₁⟩
        · exact kx3 _ _ (offX _ (.inl rfl)) e
        · have h1 := kp_get f1.keep _ _ e₁
          have h2 : o = o₁ := by rw [show ({ s with heap := h', toks := tk } : Shared).heap = h' from rfl] at h1; rw [h1] at e; cases e; rfl
          rw [h2]; exact kp_get f3.keep _ _ e₁
      have hl3 : sc.heap.PlainList D ys := hl.at fun o e => kx3 _ _ (offX _ (.inr rfl)) (kx _ _ (by simpa using hDI) e)
      refine wpAny_mono ((tst S' cenv ce b hbl).run s₁ A E' sc hA f3) (fun okv sd q => ?_) fun _ _ q => q
      obtain ⟨rfl, k4⟩ := q
      have f4 := f3.keeps k4
      have st4 : St (i + 1) sd.heap := keepSt st3 fun b' o _ e => kp_get k4 _ _ e
      have hl4 : sd.heap.PlainList D ys := hl3.at fun o e => kp_get k4 _ _ e
      have kS4 : KeepX S' s.heap sd.heap := ((kx.mono fun a ha => by simp at ha; exact ha ▸ IS').trans (kx3.mono XS')).trans (kp_x k4 S')
      have tk1 : l.take (i + 1) = l.take i ++ [b] := by rw [List.take_succ, hb?]; rfl
      cases hpb : p b with
      | false =>
        simp only [Bool.false_eq_true, if_false]
        refine ⟨l.length + 1 - (i + 1), by (first | lia | omega), i + 1, ys, hlt, rfl, st4, f4.fewer (back b), hl4, ?_⟩
        rw [tk1, List.filter_append]
        simpa [hpb] using Paired.imp (fun _ _ r => O.keep kS4 r) hp
      | true =>
        simp only [if_true]
        refine wpAny_mono ((elm S' cenv ce b hbl hpb).run s₁ A E' sd hA f4) (fun y se q => ?_) fun _ _ q => q
        obtain ⟨k5, r5⟩ := q
        have f5 := f4.keeps k5
        have hl5 : se.heap.PlainList D ys := hl4.at fun o e => kp_get k5 _ _ e
        refine wpAny_list_append_plain hl5 (fun h6 hl6 hs6 => ?_) ?_
        · have kx6 : KeepX [D] se.heap h6 := fun b' o hb' e => hs6.extBut b' o (fun q => hb' (by simp [q])) e
          have kx6' : KeepX S' se.heap h6 := kx6.mono fun a ha => by simp at ha; exact ha ▸ TS' _ DT
          have f6 : Fm w s₁ S' cenv (Γ' b) { se with heap := h6 } := f5.move ⟨h6, se.toks, rfl⟩ (Nat.le_refl _) kx6 fun a ha => by
            simp at ha; subst ha
            exact ⟨TS' _ DT, fr _ (Nat.le_refl _), by rw [e1]; exact hDC, cellsNe a (.inr rfl), let ⟨_, e⟩ := hl6; ⟨_, e⟩⟩
          refine ⟨l.length + 1 - (i + 1), by (first | lia | omega), i + 1, ys.push y, hlt, rfl, keepSt (keepSt st4 fun b' o _ e => kp_get k5 _ _ e) fun b' o hb' e => hs6.extBut b' o (fun q => ?_) e, f6.fewer (back b), hl6, ?_⟩
          · rcases hb' with h | ⟨o₁, e₁⟩
            · exact hDI (q ▸ h)
            · rw [q, fr _ (Nat.le_refl _)] at e₁; cases e₁
          · rw [tk1, List.filter_append]
            have h1 := Paired.imp (fun _ _ r => O.keep kx6' (O.keep (kp_x k5 S') (O.keep kS4 r))) hp
            have h2 := Paired.append' h1 (.cons (O.keep kx6' (O.inv r5)) .nil)
            simpa [hpb] using h2
        · have h1 := hp.length
          have h2 : ((l.take i).filter p).length ≤ (l.take i).length := List.length_filter_le _ _
          have h3 : (l.take i).length ≤ l.length := by rw [List.length_take]; (first | lia | omega)
          simp only [Array.length_toList, List.length_map] at h1
          unfold sizeLine; (first | lia | omega)
    · obtain rfl : i = l.length := by (first | lia | omega)
      refine wpAny_mono (wpAny_toks (W.done s (fun r s' => ∃ h' tk, r = none ∧ s' = { s with heap := h', toks := tk } ∧ KeepX [I] s.heap h') E' (by simpa using st) fun h' tk hk => ⟨h', tk, rfl, rfl, fun b o hb e => hk b o hb e⟩)) (fun r sa q => ?_) fun _ _ q => q.2
      obtain ⟨htk, h', tk, rfl, rfl, kx⟩ := q
      dsimp only at htk ⊢
      have kS : KeepX S' s.heap h' := kx.mono fun a ha => by simp at ha; exact ha ▸ IS'
      refine hRR T cenv D _ ⟨fs.drop TS' ⟨h', tk, rfl⟩ htk kx (fun a ha => ?_) (by rw [e1]; exact CT) cellsT, ST, fr _ (Nat.le_refl _), fun q => ?_, by rw [e1]; exact hDC, ys, hl.at fun o e => kx _ _ (by simpa using hDI) e, ?_⟩
      · simp at ha; subst ha; exact ⟨IS', hI, hIT⟩
      · obtain ⟨o, e⟩ := f.low D q; rw [fr _ (Nat.le_refl _)] at e; cases e
      · rw [List.take_length] at hp
        exact Paired.imp (fun _ _ r => O.sub TS' (O.keep kS r)) hp
  rw [hown]
  have he : ({ newEnv scope C env.globals (own ++ cl) env.qual none Value.none (some env) builtinsNs with scope := relabel scope env } : Env) = cenv := hce
  rw [he]
  have he2 : (newEnv scope C env.globals (own ++ cl) env.qual none Value.none (some env) builtinsNs).locals = cenv.locals := by rw [e1]; rfl
  rw [he2]
  exact codeAny_compStart_list loop (W.self 0 _ _ _ (W.frame _ _ _ st0 fun b _ o e => old b o e) loop)
end
end Mine
end

section
set_option maxRecDepth 100000
set_option linter.unusedVariables false
set_option linter.unusedSimpArgs false
namespace Mine
open PySem PySem.W PySem.Calls PyProof.Rows

section
variable {w : World} {k : Nat} {S : List Addr} {env : Env} {G : Gam} {γ β : Type}
theorem comp_static {s₀ s₁ : Shared} {K : List (Str × NameKind)} {scope : Scope} (f : Fm w s₀ S env G s₁) (hK : env.scope.names = K) (ok : compOk K scope.names (G.map (·.1)) = true) :
    closureFor scope env = pure (shut env.cells scope.names []) ∧ (∀ y ∈ scope.names, y.2 = .local → scope.names.lookup y.1 = some .local) := by
  obtain ⟨ok1, hnd⟩ := Bool.and_eq_true_iff.mp ok
  obtain ⟨ok2, hcellOk⟩ := Bool.and_eq_true_iff.mp ok1
  obtain ⟨hlocOk, hfreeOk⟩ := Bool.and_eq_true_iff.mp ok2
  have hnd := of_decide_eq_true hnd
  have hloc : ∀ y ∈ scope.names, y.2 = .local → scope.names.lookup y.1 = some .local := fun y hy e => by
    have := List.all_eq_true.mp hlocOk y hy
    rw [e] at this; simpa using this
  have hcell : ∀ n, (n, NameKind.cell) ∈ scope.names → scope.names.lookup n = some .cell := fun n hn => by
    have := List.all_eq_true.mp hcellOk _ hn
    simpa using this
  have hfree : ∀ x ∈ scope.names, x.2 = .free → K.lookup x.1 = some .cell ∧ (∃ d, G.lookup x.1 = some d) ∧ scope.names.lookup x.1 = some .free := fun x hx e => by
    have := List.all_eq_true.mp hfreeOk x hx
    rw [e] at this
    have h2 : (K.lookup x.1 == some .cell && (G.map (·.1)).contains x.1 && scope.names.lookup x.1 == some .free) = true := by simpa using this
    obtain ⟨h3, h4⟩ := Bool.and_eq_true_iff.mp h2
    obtain ⟨h5, h6⟩ := Bool.and_eq_true_iff.mp h3
    exact ⟨by simpa using h5, has_names h6, by simpa using h4⟩
  have kd : ∀ n x, K.lookup n = some x → env.kindOf n = some x := fun n x e => by unfold Env.kindOf; rw [hK]; exact e
  -- the cell of a free name
  have hfc : ∀ n, (n, NameKind.free) ∈ scope.names → ∃ c, env.cells.lookup n = some c := fun n hn => by
    obtain ⟨h1, ⟨d, h2⟩, _⟩ := hfree _ hn rfl
    obtain ⟨v, hv, _⟩ := f.has _ _ h2
    rcases hv with ⟨hl, _⟩ | ⟨_, c, hc, _⟩
    · rw [kd _ _ h1] at hl; cases hl
    · exact ⟨c, hc⟩
  have hsome : ∀ x ∈ scope.names, x.2 = .free → (env.cells.lookup x.1).isSome = true := fun x hx e => by
    obtain ⟨n, kk⟩ := x
    obtain rfl : kk = .free := e
    obtain ⟨c, hc⟩ := hfc n hx
    rw [hc]; rfl
  exact ⟨closureFor_shut hsome, hloc⟩
theorem ev_comp (O : Out γ) {K : List (Str × NameKind)} {elt target iter : Expr} {ifs : List Expr} {scope : Scope} {pos : Pos} {di : PV} (l : List β) (emb : β → PV) (p : β → Bool) (ρ : β → γ) (Γ' : β → Gam)
    (hK : env.scope.names = K) (hi : Ev w k S env G iter di) (hI : Itr w 0 di (l.map emb)) (ok : compOk K scope.names (G.map (·.1)) = true) (hkind : scope.kind = .function) (hsz : l.length ≤ 2 ^ 24)
    (asg : ∀ s₁ S' cenv, CEnv s₁ K scope.names cenv → ∀ b ∈ l, Asg w k s₁ S' cenv (capt scope.names G) target (emb b) (Γ' b))
    (back : ∀ b n d, (capt scope.names G).lookup n = some d → (Γ' b).lookup n = some d)
    (tst : ∀ s₁ S' cenv, CEnv s₁ K scope.names cenv → ∀ b ∈ l, Ts w k S' cenv (Γ' b) ifs (p b))
    (elm : ∀ s₁ S' cenv, CEnv s₁ K scope.names cenv → ∀ b ∈ l, p b = true → Ev w k S' cenv (Γ' b) elt (O.one (ρ b)))
    (hs : ∀ x, foldedSetIterable iter env x = pure x := by intro _; rfl) :
    Ev w k S env G (.ListComp elt [⟨target, iter, ifs, 0⟩] scope pos) (O.many ((l.filter p).map ρ)) := ⟨fun s₀ A E s hA f => by
  obtain ⟨hcl, hloc⟩ := comp_static f hK ok
  rw [eval_ListComp]
  refine wpAny_comprehension_free (use := none) rfl hs hcl hkind hloc ?_
  refine wpAny_mono (hi.run s₀ A E s hA f) (fun x s₁ q => ?_) fun _ _ q => q
  refine wpAny_mono (hI.run A E S s₁ x hA.handled q.2 (f.keeps q.1).low) (fun it s₂ r => ?_) fun _ _ q => q
  obtain ⟨I, fp, P, St, rfl, h1, h2, h3, h4, W, hP, st0, k12⟩ := r
  have k1 := q.1
  refine (comp_core (E := E) (s₂ := s₂) O l emb p ρ Γ' hA (f.keeps k1) hK ok hkind hsz h1 h2 h3 (W A hA.handled) hP st0 k12 (asg s₁) back (tst s₁) (elm s₁)
      (RR := fun acc C => compPost (model p0 w) A E none (fun v s' => Kp s s' ∧ Rep S s'.heap v (O.many ((l.filter p).map ρ))) acc C) (pos := pos) (iter := iter) (fun S' cenv D s' dn => ?_)).2.2
  obtain ⟨ys, hl, hp⟩ := dn.list
  obtain ⟨m, hm⟩ := dn.fm.ns
  refine ⟨m, hm, fun h' hs' => ?_⟩
  have kx : KeepX S' s'.heap h' := fun b o hb e => hs'.extBut b o (fun q => hb (q ▸ dn.fm.locIn)) e
  have kk : Kp s s' := kp_trans k1 dn.fm.keep
  refine ⟨⟨?_, kk.2⟩, O.mkl dn.offD (hl.extBut hs'.extBut dn.neD) (Paired.imp (fun _ _ r => O.sub dn.sub (O.keep kx r)) hp)⟩
  obtain ⟨⟨h1, t1, e1, k1'⟩, _⟩ := kk
  refine ⟨h', t1, by rw [e1], fun b o e => hs'.extBut b o (fun q => ?_) (by rw [e1]; exact k1' b o e)⟩
  have h5 := kp_get k1 _ _ e
  rw [q, dn.fm.own] at h5; cases h5⟩

/-- a comprehension whose value a local name takes -/
theorem ex_comp (O : Out γ) {s₀ : Shared} {X : List Addr} {K : List (Str × NameKind)} {elt target iter : Expr} {ifs : List Expr} {scope : Scope} {pos spos py : Pos} {y : Str} {rest : List Stmt} {Q : Flow → Shared → Prop} {di : PV} (l : List β) (emb : β → PV) (p : β → Bool) (ρ : β → γ) (Γ' : β → Gam)
    (hK : env.scope.names = K) (hi : Ev w k S env G iter di) (hI : Itr w 0 di (l.map emb)) (ok : compOk K scope.names (G.map (·.1)) = true) (hkind : scope.kind = .function) (hsz : l.length ≤ 2 ^ 24)
    (hy : env.kindOf y = some .local) (hsw : swapsWith (.ListComp elt [⟨target, iter, ifs, 0⟩] scope pos) (some (.Name y py)) spos.line env = pure true)
    (asg : ∀ s₁ S' cenv, CEnv s₁ K scope.names cenv → ∀ b ∈ l, Asg w k s₁ S' cenv (capt scope.names G) target (emb b) (Γ' b))
    (back : ∀ b n d, (capt scope.names G).lookup n = some d → (Γ' b).lookup n = some d)
    (tst : ∀ s₁ S' cenv, CEnv s₁ K scope.names cenv → ∀ b ∈ l, Ts w k S' cenv (Γ' b) ifs (p b))
    (elm : ∀ s₁ S' cenv, CEnv s₁ K scope.names cenv → ∀ b ∈ l, p b = true → Ev w k S' cenv (Γ' b) elt (O.one (ρ b)))
    (next : Ex w k s₀ X S env ((y, O.many ((l.filter p).map ρ)) :: G) rest Q)
    (hs : ∀ x, foldedSetIterable iter env x = pure x := by intro _; rfl) :
    Ex w k s₀ X S env G (.Assign [.Name y py] (.ListComp elt [⟨target, iter, ifs, 0⟩] scope pos) spos :: rest) Q := ⟨fun A E s hA f => by
  obtain ⟨hcl, hloc⟩ := comp_static f hK ok
  refine wpAny_execs_cons ?_
  rw [exec_Assign_Name_used _ _ _ _ hsw]
  refine wpAny_bind (wpAny_standAt (wpAny_bind ?_))
  show wpAny _ A (do let _ ← comprehension (.ListComp elt [⟨target, iter, ifs, 0⟩] scope pos) scope env _ (newList []) false (eval iter env) (some (assign (.Name y py) env))) _ _ s
  refine wpAny_bind (wpAny_mono (wpAny_comprehension_free (Q := fun _ s' => Fm w s₀ S env ((y, O.many ((l.filter p).map ρ)) :: G) s' ∧ KeepX (mutOf env X) s.heap s'.heap) rfl hs hcl hkind hloc ?_) (fun _ s' f' => wpAny_pure (wpAny_pure (ex_then next hA f'.1 f'.2))) fun _ _ e => e)
  refine wpAny_mono (hi.run s₀ A E s hA f) (fun x s₁ q => ?_) fun _ _ q => q
  refine wpAny_mono (hI.run A E S s₁ x hA.handled q.2 (f.keeps q.1).low) (fun it s₂ r => ?_) fun _ _ q => q
  obtain ⟨I, fp, P, St, rfl, h1, h2, h3, h4, W, hP, st0, k12⟩ := r
  have k1 := q.1
  have f₁ := f.keeps k1
  refine (comp_core (E := E) (s₂ := s₂) O l emb p ρ Γ' hA f₁ hK ok hkind hsz h1 h2 h3 (W A hA.handled) hP st0 k12 (asg s₁) back (tst s₁) (elm s₁)
      (RR := fun acc C => compPost (model p0 w) A E (some (assign (.Name y py) env)) (fun _ s' => Fm w s₀ S env ((y, O.many ((l.filter p).map ρ)) :: G) s' ∧ KeepX (mutOf env X) s.heap s'.heap) acc C) (pos := pos) (iter := iter) (fun S' cenv D s' dn => ?_)).2.2
  obtain ⟨ys, hl, hp⟩ := dn.list
  obtain ⟨m, hm⟩ := dn.fm.ns
  have hCn : s₁.heap.get? cenv.locals = none := dn.fm.own
  have hCo : ∃ o, s'.heap.get? cenv.locals = some o := let ⟨o, _, _, e, _⟩ := hm; ⟨o, e⟩
  have hLC : env.locals ≠ cenv.locals := fun q => by
    obtain ⟨m', o, _, _, e, _⟩ := f₁.ns
    rw [q, hCn] at e; cases e
  have fg : Fm w s₀ ([cenv.locals] ++ S) env G s' := f₁.grow dn.fm.keep fun a ha => by simp at ha; subst ha; exact ⟨hCn, hCo⟩
  have rD : Rep ([cenv.locals] ++ S) s'.heap (.ref D) (O.many ((l.filter p).map ρ)) := O.mkl (fun q => by
      rcases List.mem_append.mp q with h | h
      · simp at h; exact dn.neD h
      · exact dn.offD h) hl (Paired.imp (fun _ _ r => O.sub (fun a ha => by
      rcases List.mem_append.mp ha with h | h
      · simp at h; rw [h]; exact dn.fm.locIn
      · exact dn.sub a h) r) hp)
  refine wpAny_assign_Name (store_local fg hy rD fun s'' f'' kx hsh => ?_)
  refine ⟨m, hm.at' fun o e => kx _ _ (by simpa using Ne.symm hLC) e, fun h' hs' => ?_⟩
  have kC : KeepX [cenv.locals] s''.heap h' := fun b o hb e => hs'.extBut b o (fun q => hb (by simp [q])) e
  have kmut : KeepX (mutOf env X) s.heap h' := fun b o hb e => hs'.extBut b o (fun q => by
    have := kp_get k1 _ _ e
    rw [q, hCn] at this; cases this) ((kx.mono loc_mut) b o hb (kp_get dn.fm.keep _ _ (kp_get k1 _ _ e)))
  refine ⟨f''.drop (T := S) (fun a ha => List.mem_append_right _ ha) ⟨h', s''.toks, rfl⟩ (Nat.le_refl _) kC (fun a ha => ?_) f.locIn (fun n c hc => (f.cellIn n c hc).1), kmut⟩
  simp at ha; subst ha
  refine ⟨List.mem_append_left _ (by simp), ?_, fun q => ?_⟩
  · cases e : s₀.heap.get? cenv.locals with
    | none => rfl
    | some o =>
      have := kp_get f₁.keep _ _ e
      rw [hCn] at this; cases this
  · obtain ⟨o, e⟩ := f₁.low _ q; rw [hCn] at e; cases e⟩
end
end Mine
end

section
set_option maxRecDepth 100000
set_option linter.unusedVariables false
set_option linter.unusedSimpArgs false
namespace Mine
open PySem PySem.W PySem.Calls PyProof.Rows

section
variable {w : World} {k : Nat} {s₀ : Shared} {X S : List Addr} {env : Env} {G : Gam} {Q : Flow → Shared → Prop}
theorem ex_forX {target iter : Expr} {body rest : List Stmt} {pos : Pos} {di : PV} {xs : List PV} (Γ Γa : Nat → Gam) (Sp : List Addr) (hsub : ∀ a ∈ S, a ∈ Sp) (hXS : ∀ a ∈ X, a ∈ Sp) (hm : ∀ a ∈ env.cells.map (·.2), a ∈ S)
    (up : ∀ s, Fm w s₀ S env G s → (∀ a ∈ Sp, ∃ o, s.heap.get? a = some o) ∧ ∀ x, Rep S s.heap x di → Rep Sp s.heap x di) (hi : Ev w k S env G iter di) {m : Nat} (hI : Itr w m di xs) (h0 : ∀ n d, (Γ 0).lookup n = some d → G.lookup n = some d)
    (asg : ∀ i x, xs[i]? = some x → ∀ S', Asg w k s₀ S' env (Γ i) target x (Γa i))
    (turn : ∀ i x, xs[i]? = some x → ∀ S', (∀ a ∈ S, a ∈ S') → Ex w k s₀ X S' env (Γa i) body (fun f s' => match f with | .next | .cont => Fm w s₀ S' env (Γ (i + 1)) s' | .ret v => Q (.ret v) s' | .brk => False))
    (next : Ex w k s₀ X S env (Γ xs.length) rest Q) (hm0 : m ≤ s₀.toks := by exact Nat.zero_le _) (hs : ∀ x, foldedSetIterable iter env x = pure x := by intro _; rfl) : Ex w k s₀ X S env G (.For target iter body [] pos :: rest) Q := ⟨fun A E s hA f => by
  refine wpAny_execs_cons (wpAny_For (wpAny_mono (hi.run s₀ A E s hA f) (fun x s₁ q => ?_) fun _ _ q => q) hs)
  have f₁ := f.keeps q.1
  have fp₁ := up s₁ f₁
  refine wpAny_mono (hI.run A E Sp s₁ x hA.handled (fp₁.2 x q.2) fp₁.1) (fun it s₂ r => ?_) fun _ _ q => q
  obtain ⟨I, fp, P, St, rfl, hIn, hSt, hfp, hfpS, W, hP, st0, k12⟩ := r
  have W := W A hA.handled
  obtain ⟨oI, hoI, htI⟩ := hSt 0 _ st0
  have f₂ : Fm w s₀ (I :: S) env G s₂ := f₁.grow (X := [I]) k12 fun a ha => by simp at ha; subst ha; exact ⟨hIn, _, hoI⟩
  have hISp : I ∉ Sp := fun q => by obtain ⟨o, e⟩ := fp₁.1 _ q; rw [hIn] at e; cases e
  have hIS : I ∉ S := fun q => hISp (hsub _ q)
  have mutS : ∀ a ∈ mutOf env X, a ∈ Sp := fun a ha => by
    rcases List.mem_cons.mp ha with rfl | ha
    · exact hsub _ f.locIn
    · rcases List.mem_append.mp ha with ha | ha
      · exact hsub _ (hm a ha)
      · exact hXS a ha
  have base0 : s₀.heap.get? I = none := by
    cases e : s₀.heap.get? I with
    | none => rfl
    | some o => have := kp_get f₁.keep _ _ e; rw [hIn] at this; cases this
  have k02 : KeepX (mutOf env X) s.heap s₂.heap := kp_x (kp_trans q.1 k12) _
  refine codeAny_forLoop_any (fun n s' => ∃ i, i ≤ xs.length ∧ n = xs.length + 1 - i ∧ St i s'.heap ∧ Fm w s₀ (I :: S) env (Γ i) s' ∧ KeepX (I :: mutOf env X) s₂.heap s'.heap) ?_ (xs.length + 1)
    ⟨0, Nat.zero_le _, rfl, st0, f₂.fewer h0, .refl _ _⟩
  rintro n s' ⟨i, hi, rfl, st, fs, kk⟩
  have fin : ∀ (s'' : Shared) b o, b ∉ mutOf env X → s.heap.get? b = some o → KeepX (I :: mutOf env X) s₂.heap s''.heap → s''.heap.get? b = some o := fun s'' b o hb e hkk => by
    by_cases q' : b = I
    · have := kp_get q.1 b o e
      rw [q', hIn] at this; cases this
    · exact hkk b o (fun q'' => by
        rcases List.mem_cons.mp q'' with q'' | q''
        · exact q' q''
        · exact hb q'') (k02 b o hb e)
  by_cases hlt : i < xs.length
  · obtain ⟨x, hx⟩ : ∃ x, xs[i]? = some x := ⟨_, List.getElem?_eq_getElem hlt⟩
    refine wpAny_mono (wpAny_toks (W.item i s' (fun r s'' => ∃ v h' tk, r = some v ∧ s'' = { s' with heap := h', toks := tk } ∧ P i v ∧ St (i + 1) h' ∧ KeepX [I] s'.heap h') _ (Nat.le_trans hm0 fs.keep.2) hlt st
      fun v h' tk hPv st' hk => ⟨v, h', tk, rfl, rfl, hPv, st', fun b o hb e => hk b o hb e⟩)) (fun r sa qq => ?_) fun _ _ q => q.2
    obtain ⟨htk, v, h', tk, rfl, rfl, hPv, st1, kx⟩ := qq
    dsimp only at htk ⊢
    have f1 : Fm w s₀ (I :: S) env (Γ i) { s' with heap := h', toks := tk } := fs.move ⟨h', tk, rfl⟩ htk kx fun a ha => by
      simp at ha; subst ha
      refine ⟨List.mem_cons_self, base0, fun q => ?_, fun n c hc q => ?_, let ⟨o, e, _⟩ := hSt _ _ st1; ⟨o, e⟩⟩
      · exact hIS (q ▸ f.locIn)
      · exact hIS (q ▸ (f.cellIn n c hc).1)
    obtain ⟨x', hx', hr⟩ := hP i v hlt hPv
    rw [hx] at hx'; cases hx'
    have rv : Rep (I :: S) h' v x := by
      have h1 : Rep (I :: Sp) s₁.heap v x := hr.more fun a ha => by
        rcases List.mem_cons.mp ha with rfl | ha
        · exact .inr hIn
        · exact .inl ha
      have k2 : KeepX (I :: Sp) s₁.heap h' := (kp_x k12 _).trans ((kk.mono fun a ha => by
        rcases List.mem_cons.mp ha with rfl | ha
        · exact List.mem_cons_self
        · exact List.mem_cons_of_mem _ (mutS a ha)).trans (kx.mono fun a ha => by simp at ha; rw [ha]; exact List.mem_cons_self))
      exact (h1.keep k2).sub fun a ha => by
        rcases List.mem_cons.mp ha with rfl | ha
        · exact List.mem_cons_self
        · exact List.mem_cons_of_mem _ (hsub a ha)
    refine wpAny_mono ((asg i x hx (I :: S)).run A _ _ v I hA f1 (hSt _ _ st1) rv) (fun _ sb q => wpAny_mono q (fun _ sc q => ?_) fun _ _ q => q) fun _ _ q => q
    obtain ⟨f3, kx3, hsh3⟩ := q
    refine wpAny_mono ((turn i x hx (I :: S) fun a ha => List.mem_cons_of_mem _ ha).run A _ sc hA f3) (fun fl sd q => ?_) fun _ _ q => q
    obtain ⟨hfl, kx4⟩ := q
    have kx3' : KeepX (mutOf env X) h' sc.heap := kx3.mono fun a ha => by
      rcases List.mem_cons.mp ha with rfl | ha
      · exact List.mem_cons_self
      · exact cell_mut a ha
    have kxx : KeepX (mutOf env X) h' sd.heap := kx3'.trans kx4
    have st4 : St (i + 1) sd.heap := W.frame _ _ _ st1 fun b hb o e => kxx b o (fun q => hfpS b hb (mutS b q)) e
    have kk4 : KeepX (I :: mutOf env X) s₂.heap sd.heap := kk.trans ((kx.mono fun a ha => by simp at ha; rw [ha]; exact List.mem_cons_self).trans (kxx.mono fun a ha => List.mem_cons_of_mem _ ha))
    cases fl with
    | next => exact ⟨_, by omega, i + 1, hlt, rfl, st4, hfl, kk4⟩
    | cont => exact ⟨_, by omega, i + 1, hlt, rfl, st4, hfl, kk4⟩
    | brk => exact hfl.elim
    | ret v => exact ⟨hfl, fun b o hb e => fin sd b o hb e kk4⟩
  · obtain rfl : i = xs.length := by omega
    refine wpAny_mono (wpAny_toks (W.done s' (fun r s'' => ∃ h' tk, r = none ∧ s'' = { s' with heap := h', toks := tk } ∧ KeepX [I] s'.heap h') _ st fun h' tk hk => ⟨h', tk, rfl, rfl, fun b o hb e => hk b o hb e⟩)) (fun r sa qq => ?_) fun _ _ q => q.2
    obtain ⟨htk, h', tk, rfl, rfl, kx⟩ := qq
    dsimp only at htk ⊢
    refine wpAny_execs_nil ?_
    have f4 : Fm w s₀ S env (Γ xs.length) { s' with heap := h', toks := tk } := fs.drop (fun a ha => List.mem_cons_of_mem _ ha) ⟨h', tk, rfl⟩ htk kx (fun a ha => by
      simp at ha; subst ha; exact ⟨List.mem_cons_self, base0, hIS⟩) f.locIn fun n c hc => (f.cellIn n c hc).1
    exact ex_then next hA f4 fun b o hb e => fin { s' with heap := h', toks := tk } b o hb e (kk.trans (kx.mono fun a ha => by simp at ha; rw [ha]; exact List.mem_cons_self))⟩
theorem ex_for {target iter : Expr} {body rest : List Stmt} {pos : Pos} {di : PV} {xs : List PV} (Γ Γa : Nat → Gam) (hXS : ∀ a ∈ X, a ∈ S) (hm : ∀ a ∈ env.cells.map (·.2), a ∈ S)
    (hi : Ev w k S env G iter di) {m : Nat} (hI : Itr w m di xs) (h0 : ∀ n d, (Γ 0).lookup n = some d → G.lookup n = some d)
    (asg : ∀ i x, xs[i]? = some x → ∀ S', Asg w k s₀ S' env (Γ i) target x (Γa i))
    (turn : ∀ i x, xs[i]? = some x → ∀ S', (∀ a ∈ S, a ∈ S') → Ex w k s₀ X S' env (Γa i) body (fun f s' => match f with | .next | .cont => Fm w s₀ S' env (Γ (i + 1)) s' | .ret v => Q (.ret v) s' | .brk => False))
    (next : Ex w k s₀ X S env (Γ xs.length) rest Q) (hm0 : m ≤ s₀.toks := by exact Nat.zero_le _) (hs : ∀ x, foldedSetIterable iter env x = pure x := by intro _; rfl) : Ex w k s₀ X S env G (.For target iter body [] pos :: rest) Q :=
  ex_forX Γ Γa S (fun _ h => h) hXS hm (fun _ f => ⟨f.low, fun _ r => r⟩) hi hI h0 asg turn next hm0 hs
end
end Mine
end

section
set_option maxRecDepth 100000
set_option linter.unusedVariables false
set_option linter.unusedSimpArgs false
namespace Mine
open PySem PySem.W PySem.Calls PyProof.Rows

section
variable {w : World} {k : Nat}
theorem paired1 {F : Value → PV → Prop} {vs : List Value} {d : PV} (p : Paired F vs [d]) : ∃ v, vs = [v] ∧ F v d := by
  cases p with | cons h t => cases t; exact ⟨_, rfl, h⟩
theorem paired2 {F : Value → PV → Prop} {vs : List Value} {d e : PV} (p : Paired F vs [d, e]) : ∃ v u, vs = [v, u] ∧ F v d ∧ F u e := by
  cases p with | cons h t => obtain ⟨u, rfl, h'⟩ := paired1 t; exact ⟨_, _, rfl, h, h'⟩
theorem paired3 {F : Value → PV → Prop} {vs : List Value} {d e f : PV} (p : Paired F vs [d, e, f]) : ∃ v u x, vs = [v, u, x] ∧ F v d ∧ F u e ∧ F x f := by
  cases p with | cons h t => obtain ⟨u, x, rfl, h', h''⟩ := paired2 t; exact ⟨_, _, _, rfl, h, h', h''⟩
theorem bi_chr {i : Int} (h0 : 0 ≤ i) (h1 : i ≤ 0x10FFFF) : Bi w k (.builtin "chr") [.at (.int i)] (.at (.str [i.toNat])) := ⟨fun A E S s vs hA st hg ht hl p => by
  obtain ⟨v, rfl, r⟩ := paired1 p
  cases r using Rep.cAt with | «at» r => (first | cases r using Atom.cInt | cases r using Atom.cStr | cases r using Atom.cBool | cases r using Atom.cNone | cases r); exact P.chr_of_int (by rw [decide_eq_false (by (first | lia | omega)), decide_eq_false (by (first | lia | omega))]; rfl) ⟨kp_tok, .at (.str [i.toNat] _)⟩⟩
theorem bi_ord {c : Nat} : Bi w k (.builtin "ord") [.at (.str [c])] (.at (.int c)) := ⟨fun A E S s vs hA st hg ht hl p => by
  obtain ⟨v, rfl, r⟩ := paired1 p
  cases r using Rep.cAt with | «at» r => (first | cases r using Atom.cInt | cases r using Atom.cStr | cases r using Atom.cBool | cases r using Atom.cNone | cases r); exact P.ord_of_char (c := c) ⟨kp_tok, .at (.int _ _)⟩⟩
theorem kp_tok2 {s : Shared} : Kp s { s with toks := s.toks + 1 + 1 } := ⟨keeps_tok, Nat.le_add_right _ 2⟩
theorem bi_len_str {l : List Nat} (h : l.length < 2 ^ 62) : Bi w k (.builtin "len") [.at (.str l)] (.at (.int l.length)) := ⟨fun A E S s vs hA st hg ht hl p => by
  obtain ⟨v, rfl, r⟩ := paired1 p
  cases r using Rep.cAt with | «at» r => (first | cases r using Atom.cInt | cases r using Atom.cStr | cases r using Atom.cBool | cases r using Atom.cNone | cases r); exact P.len_str (by rw [T_length]; (first | lia | omega)) ⟨kp_tok2, by rw [T_length]; exact .at (.int _ _)⟩⟩
theorem bi_len_list {l : List PA} (h : l.length < 2 ^ 62) : Bi w k (.builtin "len") [.list l] (.at (.int l.length)) := ⟨fun A E S s vs hA st hg ht hl p => by
  obtain ⟨v, rfl, r⟩ := paired1 p
  cases r using Rep.cList with | list hs hl hp =>
    have e := hp.length; simp only [Array.length_toList] at e
    exact call_len_list hl.isList (by (first | lia | omega)) ⟨kp_tok2, by rw [e]; exact .at (.int _ _)⟩⟩
theorem bi_range1 {n : Int} : Bi w k (.type "range") [.at (.int n)] (.rng 0 n 1) := ⟨fun A E S s vs hA st hg ht hl p => by
  obtain ⟨v, rfl, r⟩ := paired1 p
  cases r using Rep.cAt with | «at» r => (first | cases r using Atom.cInt | cases r using Atom.cStr | cases r using Atom.cBool | cases r using Atom.cNone | cases r); exact call_range_1 ⟨⟨⟨_, _, rfl, fun _ _ e => Heap.get?_push_of_some _ e⟩, Nat.le_add_right _ 2⟩, .rng (fresh_off hl) (IsRange.new ..)⟩⟩
theorem bi_range2 {a n : Int} : Bi w k (.type "range") [.at (.int a), .at (.int n)] (.rng a n 1) := ⟨fun A E S s vs hA st hg ht hl p => by
  obtain ⟨v, u, rfl, r, r'⟩ := paired2 p
  cases r using Rep.cAt with | «at» r => (first | cases r using Atom.cInt | cases r using Atom.cStr | cases r using Atom.cBool | cases r using Atom.cNone | cases r); cases r' using Rep.cAt with | «at» r' => (first | cases r' using Atom.cInt | cases r' using Atom.cStr | cases r' using Atom.cBool | cases r' using Atom.cNone | cases r'); exact call_range_2 ⟨⟨⟨_, _, rfl, fun _ _ e => Heap.get?_push_of_some _ e⟩, Nat.le_add_right _ 1⟩, .rng (fresh_off hl) (IsRange.new ..)⟩⟩
theorem bi_range3 {a n c : Int} (hc : c ≠ 0) (hs : c.natAbs < 1000) : Bi w k (.type "range") [.at (.int a), .at (.int n), .at (.int c)] (.rng a n c) := ⟨fun A E S s vs hA st hg ht hl p => by
  obtain ⟨v, u, x, rfl, r, r', r''⟩ := paired3 p
  cases r using Rep.cAt with | «at» r => (first | cases r using Atom.cInt | cases r using Atom.cStr | cases r using Atom.cBool | cases r using Atom.cNone | cases r); cases r' using Rep.cAt with | «at» r' => (first | cases r' using Atom.cInt | cases r' using Atom.cStr | cases r' using Atom.cBool | cases r' using Atom.cNone | cases r'); cases r'' using Rep.cAt with | «at» r'' => (first | cases r'' using Atom.cInt | cases r'' using Atom.cStr | cases r'' using Atom.cBool | cases r'' using Atom.cNone | cases r''); exact call_range_3 hc ⟨kp_push, .rng (fresh_off hl) (IsRange.new ..)⟩ (.inl (PyProof.noPylong_small (by (first | lia | omega))))⟩
theorem bi_list_range {a b c : Int} (hsm : Builtin.Range.small a b c = true) (h0 : 0 ≤ Builtin.Range.rangeSize a b c) (h1 : Builtin.Range.rangeSize a b c ≤ 2 ^ 24) :
    Bi w k (.type "list") [.rng a b c] (.list ((List.range (Builtin.Range.rangeSize a b c).toNat).map fun i => PA.int (a + (i : Nat) * c))) := ⟨fun A E S s vs hA st hg ht hl p => by
  obtain ⟨v, rfl, r⟩ := paired1 p
  cases r using Rep.cRng with | rng hs hr =>
    generalize hn : (Builtin.Range.rangeSize a b c).toNat = n
    have e1 : Builtin.Range.rangeSize a b c = (n : Int) := by (first | lia | omega)
    refine kp_of (call_list_range hA.handled hr hsm e1 (by (first | lia | omega)) fun h' tk acc c' hk hS hacc => ⟨⟨h', tk, rfl, hk⟩, .list (fresh_off hl) ⟨c', hS⟩ ?_⟩)
    have key : ∀ (xs : List Value) (f : Nat → Int) (m : Nat), xs.length = m → (∀ j v, xs[j]? = some v → ∃ t, v = Value.int (f j) t) → Paired Atom xs ((List.range m).map fun i => PA.int (f i)) := by
      intro xs
      induction xs with
      | nil => intro f m hm _; simp at hm; subst hm; exact .nil
      | cons x xs ih =>
        intro f m hm hx
        obtain rfl : m = xs.length + 1 := by simpa using hm.symm
        rw [List.range_succ_eq_map, List.map_cons, List.map_map]
        obtain ⟨t, rfl⟩ := hx 0 x rfl
        refine .cons (.int _ _) ?_
        exact ih (fun i => f (i + 1)) xs.length rfl fun j v hv => hx (j + 1) v (by simpa using hv)
    exact key acc.toList (fun i => a + (i : Nat) * c) n (by simpa using hacc.1) fun j v hv => hacc.2 j v (by simpa using hv)⟩

theorem ints_items {vs : Array Value} {l : List Int} (p : Paired Atom vs.toList (l.map PA.int)) : ∃ xs : Array (Int × Tok), vs = intItems xs ∧ xs.toList.map (·.1) = l := by
  have key : ∀ (ys : List Value) (l : List Int), Paired Atom ys (l.map PA.int) → ∃ xs : List (Int × Tok), ys = xs.map (fun p => Value.int p.1 p.2) ∧ xs.map (·.1) = l := by
    intro ys l
    induction l generalizing ys with
    | nil => intro p; cases p; exact ⟨[], rfl, rfl⟩
    | cons x l ih =>
      intro p
      cases p with | cons h t =>
        cases h with | int _ tk =>
          obtain ⟨xs, e1, e2⟩ := ih _ t
          exact ⟨(x, tk) :: xs, by rw [e1]; rfl, by rw [List.map_cons, e2]⟩
  obtain ⟨xs, e1, e2⟩ := key _ _ p
  exact ⟨xs.toArray, by unfold intItems; apply Array.toList_inj.mp; simpa using e1, by simpa using e2⟩
theorem numAt_get {xs : Array (Int × Tok)} {l : List Int} (e : xs.toList.map (·.1) = l) (i : Nat) : numAt xs i = (l[i]?).getD 0 := by
  subst e; unfold numAt; simp
theorem preSum_take {val : Nat → Int} {l : List Int} (h : ∀ i, val i = (l[i]?).getD 0) : ∀ j, preSum val j = (l.take j).sum
  | 0 => by simp [preSum]
  | j + 1 => by
    rw [preSum, preSum_take h j, h j, List.take_succ]
    cases l[j]? <;> simp
theorem bi_sum {l : List Int} (h : ∀ x ∈ l, 0 ≤ x ∧ x < 2 ^ 40) (hl : l.length < 2 ^ 20) : Bi w k (.builtin "sum") [.list (l.map PA.int)] (.at (.int l.sum)) := ⟨fun A E S s vs hA st hg ht hlo p => by
  obtain ⟨v, rfl, r⟩ := paired1 p
  cases r using Rep.cList with | list hs hl' hp =>
    obtain ⟨xs, rfl, e⟩ := ints_items hp
    have hsz : xs.size = l.length := by rw [← e]; simp
    have hv := numAt_get e
    have bound : ∀ (l : List Int), (∀ x ∈ l, 0 ≤ x ∧ x < 2 ^ 40) → 0 ≤ l.sum ∧ l.sum ≤ 2 ^ 40 * l.length := by
      intro l
      induction l with
      | nil => intro _; simp
      | cons x l ih =>
        intro h
        have h1 := h x List.mem_cons_self
        have h2 := ih fun y hy => h y (List.mem_cons_of_mem _ hy)
        simp only [List.sum_cons, List.length_cons]
        push_cast
        (first | lia | omega)
    refine kp_of (sum_intList hA.handled hl'.isList (fun j hj => ?_) fun h' tk t' hk => ⟨⟨h', tk, rfl, hk⟩, ?_⟩)
    · rw [preSum_take hv, hv j]
      have h1 := bound (l.take (j + 1)) fun x hx => h x (List.mem_of_mem_take hx)
      have h3 : (l.take (j + 1)).length ≤ l.length := by rw [List.length_take]; (first | lia | omega)
      have h2 : 0 ≤ (l[j]?).getD 0 ∧ (l[j]?).getD 0 < 2 ^ 40 := by
        cases q : l[j]? with
        | none => simp
        | some x => exact h x (List.mem_of_getElem? q)
      unfold InLong
      (first | lia | omega)
    · rw [preSum_take hv, hsz, List.take_length]; exact .at (.int _ _)⟩
theorem bi_max2 {a b : Int} : Bi w k (.builtin "max") [.at (.int a), .at (.int b)] (.at (.int (if b > a then b else a))) := ⟨fun A E S s vs hA st hg ht hlo p => by
  obtain ⟨v, u, rfl, r, r'⟩ := paired2 p
  cases r using Rep.cAt with | «at» r => (first | cases r using Atom.cInt | cases r using Atom.cStr | cases r using Atom.cBool | cases r using Atom.cNone | cases r); cases r' using Rep.cAt with | «at» r' =>
    (first | cases r' using Atom.cInt | cases r' using Atom.cStr | cases r' using Atom.cBool | cases r' using Atom.cNone | cases r')
    refine kp_of (max_two_ints hA.handled fun h' tk hk => ⟨⟨h', tk, rfl, hk⟩, ?_⟩)
    split
    · exact .at (.int _ _)
    · exact .at (.int _ _)⟩
theorem argBest_max (val : Nat → Int) : ∀ n, argBest (fun i j => decide (val i > val j)) n ≤ n ∧ ∀ j, j ≤ n → val j ≤ val (argBest (fun i j => decide (val i > val j)) n)
  | 0 => ⟨Nat.le_refl _, fun j hj => by obtain rfl : j = 0 := by (first | lia | omega)
                                        exact Int.le_refl _⟩
  | n + 1 => by
    obtain ⟨h1, h2⟩ := argBest_max val n
    unfold argBest
    by_cases q : val (n + 1) > val (argBest (fun i j => decide (val i > val j)) n)
    · rw [if_pos (by simpa using q)]
      refine ⟨Nat.le_refl _, fun j hj => ?_⟩
      rcases Nat.lt_or_eq_of_le hj with h | rfl
      · have := h2 j (by (first | lia | omega)); (first | lia | omega)
      · exact Int.le_refl _
    · rw [if_neg (by simpa using q)]
      refine ⟨by (first | lia | omega), fun j hj => ?_⟩
      rcases Nat.lt_or_eq_of_le hj with h | rfl
      · exact h2 j (by (first | lia | omega))
      · (first | lia | omega)
theorem bi_max {l : List Int} {m : Int} (hm : m ∈ l) (hmax : ∀ x ∈ l, x ≤ m) : Bi w k (.builtin "max") [.list (l.map PA.int)] (.at (.int m)) := ⟨fun A E S s vs hA st hg ht hlo p => by
  obtain ⟨v, rfl, r⟩ := paired1 p
  cases r using Rep.cList with | list hs hl' hp =>
    obtain ⟨xs, rfl, e⟩ := ints_items hp
    have hsz : xs.size = l.length := by rw [← e]; simp
    have hv := numAt_get e
    have hpos : 0 < l.length := List.length_pos_of_mem hm
    refine kp_of (max_intList hA.handled hl'.isList (by (first | lia | omega)) fun v h' tk hvv hk => ⟨⟨h', tk, rfl, hk⟩, ?_⟩)
    obtain ⟨h1, h2⟩ := argBest_max (numAt xs) (xs.size - 1)
    obtain ⟨t, rfl⟩ := intItems_at hvv
    have : numAt xs (argBest (fun i j => decide (numAt xs i > numAt xs j)) (xs.size - 1)) = m := by
      generalize argBest (fun i j => decide (numAt xs i > numAt xs j)) (xs.size - 1) = b at h1 h2
      obtain ⟨j, hj, ej⟩ := List.getElem_of_mem hm
      have h3 := h2 j (by (first | lia | omega))
      rw [hv j, List.getElem?_eq_getElem hj, ej] at h3
      have hb : b < l.length := by (first | lia | omega)
      have h4 : numAt xs b = l[b] := by rw [hv b, List.getElem?_eq_getElem hb]; rfl
      have h5 := hmax _ (List.getElem_mem hb)
      have h6 : m ≤ numAt xs b := h3
      (first | lia | omega)
    rw [this]; exact .at (.int _ _)⟩
end
end Mine
end

section
set_option maxRecDepth 100000
set_option linter.unusedVariables false
set_option linter.unusedSimpArgs false
namespace Mine
open PySem PySem.W PySem.Calls PyProof.Rows

section
variable {w : World} {k : Nat} {S : List Addr} {env : Env} {G : Gam}
theorem kd {K : List (Str × NameKind)} {n : Str} {x : NameKind} (hK : env.scope.names = K) (h : (K.lookup n == some x) = true) : env.kindOf n = some x := by
  unfold Env.kindOf; rw [hK]; simpa using h
theorem ev_n {n : Str} {pos : Pos} {d : PV} (h : List.lookup n G = some d := by repeat (first | with_reducible exact lk_here | (apply lk_there; decide +kernel) | (apply lk_capt; kernel_rfl))) (hd : (n == ("__debug__" : Str)) = false := by decide +kernel) : Ev w k S env G (.Name n pos) d := ev_name h hd
theorem cm_as {op : CmpOp} {d₁ d₂ : PV} {c b : Bool} (h : Cm w k op d₁ d₂ c) (e : c = b) : Cm w k op d₁ d₂ b := e ▸ h
theorem tr_as {e : Expr} {c b : Bool} (h : Tr w k S env G e c) (q : c = b) : Tr w k S env G e b := q ▸ h
theorem ev_as {e : Expr} {c d : PV} (h : Ev w k S env G e c) (q : c = d) : Ev w k S env G e d := q ▸ h
theorem rep_out {s₀ : Shared} {d : PV} : ∀ v s', Kp s₀ s' → Rep S s'.heap v d → (Kp s₀ s' ∧ Rep S s'.heap v d) := fun _ _ a b => ⟨a, b⟩
end

theorem fn_gt {w : World} {a b : Int} : Fn w 1 38 [.at (.int a), .at (.int b)] (.at (.bool (decide (a > b)))) := by
  refine fn_of def_gt (by decide +kernel) rfl fun s S env bd => ?_
  dsimp only [List.zip, List.zipWith]
  refine ex_at (by unfold fB; exact rfl) ?_
  exact ex_ret (ev_cmp ev_n ev_n cm_gt_int) rep_out
theorem fn_gt_str {w : World} {a b : List Nat} : Fn w 1 38 [.at (.str a), .at (.str b)] (.at (.bool (decide (b < a)))) := by
  refine fn_of def_gt (by decide +kernel) rfl fun s S env bd => ?_
  dsimp only [List.zip, List.zipWith]
  refine ex_at (by unfold fB; exact rfl) ?_
  exact ex_ret (ev_cmp ev_n ev_n cm_gt_str) rep_out
theorem fn_getitem {w : World} {l : List PA} {i : Int} {x : PA} (h0 : 0 ≤ i) (hx : l[i.toNat]? = some x) (hl : l.length < 2 ^ 62) : Fn w 1 59 [.list l, .at (.int i)] (.at x) := by
  refine fn_of def_getitem (by decide +kernel) rfl fun s S env bd => ?_
  dsimp only [List.zip, List.zipWith]
  refine ex_at (by unfold fB; exact rfl) ?_
  exact ex_ret (ev_sub ev_n ev_n (it_list h0 hx hl)) rep_out
theorem ns_of {s : Shared} {i : Nat} {S : List Addr} {env : Env} (bd : Bd s i S env) : env.scope.names = (fS i).names := by rw [bd.scope]

noncomputable def formOf (c : Nat) (n : Int) : Nat := if n = 10 then c - 32 else if n = 11 then c else 119808 + 52 * (([0, 1, 2, 4, 7, 8, 9, 10, 11, 12] : List Nat)[n.toNat]?).getD 0 + c - 97
theorem fn_form {w : World} {c : Nat} {n : Int} (h0 : 0 ≤ n) (h12 : n < 12) (hc : 97 ≤ c) (hc2 : c ≤ 122) :
    Fn w 1 154 [.at (.str [c]), .at (.int n)] (.at (.str [formOf c n])) := by
  refine fn_of def_l_form (by decide +kernel) rfl fun s S env bd => ?_
  dsimp only [List.zip, List.zipWith]
  have hK := ns_of bd
  have lord : ∀ {p : Pos}, Ld w 0 S env [("letter", .at (.str [c])), ("form", .at (.int n))] (.Name "ord" p) (.builtin "ord") := ld_bi (kd hK (by kernel_rfl)) (gm_ord _) bb_ord
  have lchr : ∀ {p : Pos}, Ld w 0 S env [("letter", .at (.str [c])), ("form", .at (.int n))] (.Name "chr" p) (.builtin "chr") := ld_bi (kd hK (by kernel_rfl)) (gm_chr _) bb_chr
  refine ex_at (by unfold fB; exact rfl) ?_
  by_cases h10 : n = 10
  · subst h10
    refine ex_if_ret (tr_cmp ev_n ev_int cm_eq_int) ?_ fun _ h => ?_
    · refine ex_ret (ev_bi lchr (evs_cons (ev_bin (ev_bi lord (evs_cons ev_n evs_nil) bi_ord (Nat.le_refl _)) ev_int bn_sub_int) evs_nil) (bi_chr ?_ ?_) (Nat.le_refl _)) fun v s' a b => ⟨a, ?_⟩
      · (first | lia | omega)
      · (first | lia | omega)
      · have e : formOf c 10 = ((c : Int) - 32).toNat := by unfold formOf; simp; (first | lia | omega)
        rw [e]; exact b
    · exact nomatch h.2
  · refine ex_if_not (tr_cmp ev_n ev_int (cm_as cm_eq_int (by simpa using h10))) ?_
    by_cases h11 : n = 11
    · subst h11
      exact ex_if_ret (tr_cmp ev_n ev_int cm_eq_int) (ex_ret (ev_as (c := .at (.str [c])) ev_n (by simp [formOf])) fun v s' a b => ⟨a, b⟩) fun _ h => nomatch h.2
    · refine ex_if_not (tr_cmp ev_n ev_int (cm_as cm_eq_int (by simpa using h11))) ?_
      obtain ⟨m, rfl⟩ := Int.eq_ofNat_of_zero_le h0
      have hm : m < 10 := by (first | lia | omega)
      have tab : ∃ t : Nat, (([0, 1, 2, 4, 7, 8, 9, 10, 11, 12] : List Int).map PA.int)[m]? = some (.int t) ∧ t ≤ 12 ∧ (([0, 1, 2, 4, 7, 8, 9, 10, 11, 12] : List Nat)[m]?).getD 0 = t := by
        have h : m = 0 ∨ m = 1 ∨ m = 2 ∨ m = 3 ∨ m = 4 ∨ m = 5 ∨ m = 6 ∨ m = 7 ∨ m = 8 ∨ m = 9 := by (first | lia | omega)
        rcases h with rfl | rfl | rfl | rfl | rfl | rfl | rfl | rfl | rfl | rfl <;> exact ⟨_, rfl, by decide, rfl⟩
      obtain ⟨t, ht, ht2, ht3⟩ := tab
      refine ex_ret (ev_bi lchr (evs_cons (ev_bin (ev_bin (ev_bin ev_int (ev_bin ev_int (ev_sub (ev_list (l := ([0, 1, 2, 4, 7, 8, 9, 10, 11, 12] : List Int).map PA.int)
        (by repeat (first | exact evs_nil | refine evs_cons ev_int ?_)) (by decide)) ev_n (it_list (x := .int t) h0 ht (by decide))) (bn_mul_int (by decide))) bn_add_int) (ev_bi lord (evs_cons ev_n evs_nil) bi_ord (Nat.le_refl _)) bn_add_int) ev_int bn_sub_int) evs_nil) (bi_chr ?_ ?_) (Nat.le_refl _)) fun v s' a b => ⟨a, ?_⟩
      · (first | lia | omega)
      · (first | lia | omega)
      · have e : formOf c (m : Int) = ((119808 : Int) + 52 * t + c - 97).toNat := by
          unfold formOf
          rw [if_neg h10, if_neg h11, Int.toNat_natCast, ht3]; (first | lia | omega)
        rw [e]; exact b

noncomputable def unseenL : List Int := [173, 847, 6150, 6155, 6156, 6157, 8203, 8204, 8205, 8288, 65279] ++ (List.range 16).map fun (i : Nat) => (65024 : Int) + (i : Int) * 1
noncomputable def unseenOf (n : Int) : Nat := ((unseenL[(n % 27).toNat]?).getD 0).toNat
theorem rangeSize_1 {a b : Int} (h : a ≤ b) : Builtin.Range.rangeSize a b 1 = b - a := by
  rw [rangeSize_one]; split <;> (first | lia | omega)
theorem unseen_at : ∀ m : Nat, m < 27 → ∃ c : Nat, unseenL[m]? = some (c : Int) ∧ c ≤ 0xFFFF := by
  intro m hm
  have h : (List.range 27).all (fun m => decide (0 ≤ (unseenL[m]?).getD (-1) ∧ (unseenL[m]?).getD (-1) ≤ 0xFFFF)) = true := by decide +kernel
  have h2 := List.all_eq_true.mp h m (List.mem_range.mpr hm)
  have h3 := of_decide_eq_true h2
  cases q : unseenL[m]? with
  | none => rw [q] at h3; simp at h3
  | some x =>
    rw [q] at h3
    simp only [Option.getD_some] at h3
    obtain ⟨c, rfl⟩ := Int.eq_ofNat_of_zero_le h3.1
    exact ⟨c, rfl, by (first | lia | omega)⟩
theorem fn_unseen {w : World} {n : Int} : Fn w 1 161 [.at (.int n)] (.at (.str [unseenOf n])) := by
  refine fn_of def_l_unseen (by decide +kernel) rfl fun s S env bd => ?_
  dsimp only [List.zip, List.zipWith]
  have hK := ns_of bd
  refine ex_at (by unfold fB; exact rfl) ?_
  have h0 : 0 ≤ n % 27 := Int.emod_nonneg _ (by decide)
  have h1 : n % 27 < 27 := Int.emod_lt_of_pos _ (by decide)
  obtain ⟨c, hc, hc2⟩ := unseen_at (n % 27).toNat (by (first | lia | omega))
  have e : unseenOf n = (c : Int).toNat := by unfold unseenOf; rw [hc]; rfl
  rw [e]
  refine ex_ret (ev_bi (ld_bi (kd hK (by kernel_rfl)) (gm_chr _) bb_chr) (evs_cons (ev_sub (ev_as (c := .list (([173, 847, 6150, 6155, 6156, 6157, 8203, 8204, 8205, 8288, 65279] : List Int).map PA.int ++ (List.range (Builtin.Range.rangeSize 65024 65040 1).toNat).map fun i => PA.int (65024 + (i : Nat) * 1)))
    (ev_bin (ev_list (l := ([173, 847, 6150, 6155, 6156, 6157, 8203, 8204, 8205, 8288, 65279] : List Int).map PA.int) (by repeat (first | exact evs_nil | refine evs_cons ev_int ?_)) (by decide))
      (ev_ty (ld_bi (kd hK (by kernel_rfl)) (gm_list _) bb_list) (evs_cons (ev_ty (ld_bi (kd hK (by kernel_rfl)) (gm_range _) bb_range) (evs_cons ev_int (evs_cons ev_int evs_nil)) bi_range2 (Nat.le_refl _)) evs_nil)
        (bi_list_range (small_one (by decide) (by decide) (by decide) (by decide)) (by rw [rangeSize_1 (by decide)]; decide) (by rw [rangeSize_1 (by decide)]; decide)) (Nat.le_refl _)) (bn_add_list (by rw [rangeSize_1 (by decide)]; decide))) (d := .list (unseenL.map PA.int)) (by
          rw [rangeSize_1 (by decide)]; unfold unseenL; rw [List.map_append, List.map_map]; rfl))
      (ev_bin ev_n ev_int (bn_mod_int (by decide))) (it_list (x := .int c) h0 (by rw [List.getElem?_map, hc]; rfl) (by decide))) evs_nil) (bi_chr (by (first | lia | omega)) (by (first | lia | omega))) (Nat.le_refl _)) rep_out

noncomputable def besideL : List Int := [172, 174, 846, 848, 6149, 6151, 6154, 6158, 8202, 8206, 8287, 8289, 65023, 65040, 65278, 65280] ++ [11, 12, 28, 29, 30, 133, 8232, 8233]
noncomputable def besideOf (n : Int) : Nat := ((besideL[(n % 24).toNat]?).getD 0).toNat
theorem beside_at : ∀ m : Nat, m < 24 → ∃ c : Nat, besideL[m]? = some (c : Int) ∧ c ≤ 0xFFFF := by
  intro m hm
  have h : (List.range 24).all (fun m => decide (0 ≤ (besideL[m]?).getD (-1) ∧ (besideL[m]?).getD (-1) ≤ 0xFFFF)) = true := by decide +kernel
  have h2 := List.all_eq_true.mp h m (List.mem_range.mpr hm)
  have h3 := of_decide_eq_true h2
  cases q : besideL[m]? with
  | none => rw [q] at h3; simp at h3
  | some x =>
    rw [q] at h3
    simp only [Option.getD_some] at h3
    obtain ⟨c, rfl⟩ := Int.eq_ofNat_of_zero_le h3.1
    exact ⟨c, rfl, by (first | lia | omega)⟩
theorem fn_beside {w : World} {n : Int} : Fn w 1 168 [.at (.int n)] (.at (.str [besideOf n])) := by
  refine fn_of def_l_beside (by decide +kernel) rfl fun s S env bd => ?_
  dsimp only [List.zip, List.zipWith]
  have hK := ns_of bd
  refine ex_at (by unfold fB; exact rfl) ?_
  have h0 : 0 ≤ n % 24 := Int.emod_nonneg _ (by decide)
  have h1 : n % 24 < 24 := Int.emod_lt_of_pos _ (by decide)
  obtain ⟨c, hc, hc2⟩ := beside_at (n % 24).toNat (by (first | lia | omega))
  have e : besideOf n = (c : Int).toNat := by unfold besideOf; rw [hc]; rfl
  rw [e]
  refine ex_local (kd hK (by kernel_rfl)) (ev_list (l := ([172, 174, 846, 848, 6149, 6151, 6154, 6158, 8202, 8206, 8287, 8289, 65023, 65040, 65278, 65280] : List Int).map PA.int) (by repeat (first | exact evs_nil | refine evs_cons ev_int ?_)) (by decide)) rfl ?_
  refine ex_ret (ev_bi (ld_bi (kd hK (by kernel_rfl)) (gm_chr _) bb_chr) (evs_cons (ev_sub (ev_as (c := .list (([172, 174, 846, 848, 6149, 6151, 6154, 6158, 8202, 8206, 8287, 8289, 65023, 65040, 65278, 65280] : List Int).map PA.int ++ ([11, 12, 28, 29, 30, 133, 8232, 8233] : List Int).map PA.int))
    (ev_bin ev_n (ev_list (l := ([11, 12, 28, 29, 30, 133, 8232, 8233] : List Int).map PA.int) (by repeat (first | exact evs_nil | refine evs_cons ev_int ?_)) (by decide)) (bn_add_list (by decide))) (d := .list (besideL.map PA.int)) rfl)
      (ev_bin ev_n ev_int (bn_mod_int (by decide))) (it_list (x := .int c) h0 (by rw [List.getElem?_map, hc]; rfl) (by decide))) evs_nil) (bi_chr (by (first | lia | omega)) (by (first | lia | omega))) (Nat.le_refl _)) rep_out
end Mine
end

section
set_option maxRecDepth 100000
set_option linter.unusedVariables false
set_option linter.unusedSimpArgs false
namespace Mine
open PySem PySem.W PySem.Calls PyProof.Rows

section
variable {w : World} {k : Nat} {S : List Addr} {env : Env} {G : Gam}
theorem ev_s {x : Str} {l : List Nat} {j pos} (h : x.cps.toList = l) : Ev w k S env G (.Constant (.str x) j pos) (.at (.str l)) := h ▸ ev_str
theorem join_T : ∀ ls : List (List Nat), Str.join (T_ []) (ls.map T_) = T_ ls.flatten
  | [] => rfl
  | [x] => by show T_ x = _; simp
  | x :: y :: r => by
    have h := join_T (y :: r)
    show T_ x ++ T_ [] ++ Str.join (T_ []) ((y :: r).map T_) = _
    rw [h, T_append, T_append]; simp
theorem strs_items {vs : Array Value} {l : List (List Nat)} (p : Paired Atom vs.toList (l.map PA.str)) : StrsAre vs.toList (l.map T_) := by
  have key : ∀ (ys : List Value) (l : List (List Nat)), Paired Atom ys (l.map PA.str) → StrsAre ys (l.map T_) := by
    intro ys l
    induction l generalizing ys with
    | nil => intro p; cases p; exact .nil
    | cons x l ih =>
      intro p
      cases p with | cons h t =>
        cases h
        exact .cons _ _ (ih _ t)
  exact key _ _ p
theorem ev_join {x : Str} {e : Expr} {j} {p apos pos : Pos} {ls : List (List Nat)} (hx : x.cps.toList = []) (h : Ev w k S env G e (.list (ls.map PA.str))) (hsz : (ls.map List.length).sum ≤ 2 ^ 24) (hline : (apos.endLine == pos.line) = true)
    (hs : starEach [e] env = [(false, eval e env)] := by rfl) : Ev w k S env G (.Call (.Attribute (.Constant (.str x) j p) "join" apos) [e] [] pos) (.at (.str ls.flatten)) := ⟨fun s₀ A E s ha f => by
  have ex : x = T_ [] := by
    obtain ⟨⟨l⟩⟩ := x
    simp at hx; subst hx; rfl
  subst ex
  refine kp_of (Call_method1 rfl hs hline (Constant_str (SB.join ?_)))
  refine wpAny_mono (h.run s₀ A E { s with toks := s.toks + 1 } ha (f.keeps kp_tok)) (fun v s₁ q => ?_) fun _ _ q => q
  obtain ⟨kk, r⟩ := q
  cases r using Rep.cList with | list hs hl hp =>
    obtain ⟨l, hv, ht⟩ := strsAre_values (strs_items hp)
    rename_i a vs
    have e : vs = (strValues l).toArray := by rw [← hv]
    refine ⟨_, l, rfl, e ▸ hl.isList, ls.map T_, ht, joinOk_of ?_, fun t' k' => ⟨?_, ?_⟩⟩
    · have e1 : (ls.map T_).map (·.length) = ls.map List.length := by rw [List.map_map]; apply List.map_congr_left; intro y _; exact T_length y
      rw [e1, T_length]; simpa using hsz
    · obtain ⟨⟨h1, t1, e1, k1⟩, _⟩ := kk
      exact ⟨h1, k', by rw [e1], k1⟩
    · have e2 : Txt.join (T_ []) (ls.map T_) = T_ ls.flatten := (StrLaws.glued_eq_join _ _).trans (join_T ls)
      rw [e2]; exact .at (.str _ _)⟩
end

noncomputable def severalL : List (List Nat) := [[13236, 112, 118], [13237, 110, 118], [13239, 109, 118], [13240, 107, 118], [13242, 112, 119], [13243, 110, 119], [13245, 109, 119], [13246, 107, 119], [13273, 112, 112, 109], [13194, 112, 102], [13195, 110, 102], [13262, 107, 109], [13261, 107, 107]]
noncomputable def lettersL : List Nat := [102, 107, 109, 110, 112, 118, 119]
noncomputable def letterAt (r : Int) : Nat := (lettersL[(r % 7).toNat]?).getD 0
noncomputable def severalAt (r : Int) : List Nat := (severalL[(r % 13).toNat]?).getD []
/-- what a typed cell gives: the sign, and the letters that it stands for -/
noncomputable def typedOf (cell : Int) : List Nat × List Nat :=
  if cell % 4 = 0 then ((severalAt (cell / 4)).take 1, (severalAt (cell / 4)).tail)
  else if cell % 4 = 3 then ([unseenOf (cell / 4)], [])
  else ([formOf (letterAt (cell / 4)) (cell / 4 / 7 % 12)], [letterAt (cell / 4)])
theorem several_at (m : Nat) (h : m < 13) : ∃ c t, severalL[m]? = some (c :: t) ∧ 1 ≤ t.length ∧ t.length ≤ 3 := by
  have h : m = 0 ∨ m = 1 ∨ m = 2 ∨ m = 3 ∨ m = 4 ∨ m = 5 ∨ m = 6 ∨ m = 7 ∨ m = 8 ∨ m = 9 ∨ m = 10 ∨ m = 11 ∨ m = 12 := by (first | lia | omega)
  rcases h with rfl | rfl | rfl | rfl | rfl | rfl | rfl | rfl | rfl | rfl | rfl | rfl | rfl <;> exact ⟨_, _, rfl, by decide, by decide⟩
theorem letter_at (m : Nat) (h : m < 7) : ∃ c, lettersL[m]? = some c ∧ 97 ≤ c ∧ c ≤ 122 := by
  have h : m = 0 ∨ m = 1 ∨ m = 2 ∨ m = 3 ∨ m = 4 ∨ m = 5 ∨ m = 6 := by (first | lia | omega)
  rcases h with rfl | rfl | rfl | rfl | rfl | rfl | rfl <;> exact ⟨_, rfl, by decide, by decide⟩
theorem fn_typed {w : World} {n : Int} : Fn w 2 175 [.at (.int n)] (.tup [.str (typedOf n).1, .str (typedOf n).2]) := by
  refine fn_of def_l_typed (by decide +kernel) rfl fun s S env bd => ?_
  dsimp only [List.zip, List.zipWith]
  have hK := ns_of bd
  refine ex_at (by unfold fB; exact rfl) ?_
  refine ex_local (kd hK (by kernel_rfl)) (ev_list (l := severalL.map PA.str) (by repeat (first | exact evs_nil | refine evs_cons (ev_s (by kernel_rfl)) ?_)) (by decide)) rfl ?_
  refine ex_local (kd hK (by kernel_rfl)) (ev_bin ev_n ev_int (bn_div_int (by decide) (by decide))) rfl ?_
  by_cases h0 : n % 4 = 0
  · obtain ⟨c, t, hc, ht1, ht2⟩ := several_at (n / 4 % 13).toNat (by (first | lia | omega))
    have e : typedOf n = ([c], t) := by unfold typedOf severalAt; rw [if_pos h0, hc]; rfl
    rw [e]
    have hs : ∀ {p q : Pos} {j : Nat}, Ev w 1 S env [("rest", .at (.int (n / 4))), ("several", .list (severalL.map PA.str)), ("cell", .at (.int n))] (.Subscript (.Name "several" p) (.BinOp (.Name "rest" p) .Mod (.Constant (.int 13) j p) p) q) (.at (.str (c :: t))) := fun {p q j} =>
      ev_sub ev_n (ev_bin ev_n ev_int (bn_mod_int (by decide))) (it_list (x := .str (c :: t)) (by (first | lia | omega)) (by rw [List.getElem?_map, hc]; rfl) (by decide))
    refine ex_if_ret (tr_cmp (ev_bin ev_n ev_int (bn_mod_int (by decide))) ev_int (cm_as cm_eq_int (by simpa using h0))) ?_ fun _ h => nomatch h.2
    refine ex_ret (ev_tup (l := [.str [c], .str t]) (evs_cons (ev_sub (d₁ := .at (.str (c :: t))) (ev_sub ev_n (ev_bin ev_n ev_int (bn_mod_int (by decide))) (it_list (x := .str (c :: t)) (by (first | lia | omega)) (by rw [List.getElem?_map, hc]; rfl) (by decide))) ev_int (it_str (by decide) rfl (by simp; (first | lia | omega))))
      (evs_cons (ev_tail (l := c :: t) (ev_sub ev_n (ev_bin ev_n ev_int (bn_mod_int (by decide))) (it_list (x := .str (c :: t)) (by (first | lia | omega)) (by rw [List.getElem?_map, hc]; rfl) (by decide))) (pt_some ev_int) (by simp) (by simp; (first | lia | omega))) evs_nil)) (by simp)) rep_out
  · refine ex_if_not (tr_cmp (ev_bin ev_n ev_int (bn_mod_int (by decide))) ev_int (cm_as cm_eq_int (by simpa using h0))) ?_
    by_cases h3 : n % 4 = 3
    · have e : typedOf n = ([unseenOf (n / 4)], []) := by unfold typedOf; rw [if_neg h0, if_pos h3]
      rw [e]
      refine ex_if_ret (tr_cmp (ev_bin ev_n ev_int (bn_mod_int (by decide))) ev_int (cm_as cm_eq_int (by simpa using h3))) ?_ fun _ h => nomatch h.2
      exact ex_ret (ev_tup (l := [.str [unseenOf (n / 4)], .str []]) (evs_cons (ev_fn def_l_unseen (ld_glob (kd hK (by kernel_rfl)) (gm_l_unseen _)) (evs_cons ev_n evs_nil) fn_unseen (Nat.le_refl _)) (evs_cons (ev_s (by kernel_rfl)) evs_nil)) (by simp)) rep_out
    · refine ex_if_not (tr_cmp (ev_bin ev_n ev_int (bn_mod_int (by decide))) ev_int (cm_as cm_eq_int (by simpa using h3))) ?_
      obtain ⟨c, hc, hc1, hc2⟩ := letter_at (n / 4 % 7).toNat (by (first | lia | omega))
      have e : typedOf n = ([formOf c (n / 4 / 7 % 12)], [c]) := by
        have e2 : letterAt (n / 4) = c := by unfold letterAt; rw [hc]; rfl
        unfold typedOf; rw [if_neg h0, if_neg h3, e2]
      rw [e]
      exact ex_ret (ev_tup (l := [.str [formOf c (n / 4 / 7 % 12)], .str [c]]) (evs_cons (ev_fn def_l_form (ld_glob (kd hK (by kernel_rfl)) (gm_l_form _))
        (evs_cons (ev_sub (d₁ := .at (.str lettersL)) (ev_s (by kernel_rfl)) (ev_bin ev_n ev_int (bn_mod_int (by decide))) (it_str (by (first | lia | omega)) hc (by decide))) (evs_cons (ev_bin (ev_bin ev_n ev_int (bn_div_int (by decide) (by decide))) ev_int (bn_mod_int (by decide))) evs_nil))
        (fn_form (by (first | lia | omega)) (by (first | lia | omega)) hc1 hc2) (Nat.le_refl _)) (evs_cons (ev_sub (d₁ := .at (.str lettersL)) (ev_s (by kernel_rfl)) (ev_bin ev_n ev_int (bn_mod_int (by decide))) (it_str (by (first | lia | omega)) hc (by decide))) evs_nil)) (by simp)) rep_out
end Mine
end

section
set_option maxRecDepth 100000
set_option linter.unusedVariables false
set_option linter.unusedSimpArgs false
namespace Mine
open PySem PySem.W PySem.Calls PyProof.Rows

section
variable {w : World} {k : Nat} {S : List Addr} {env : Env} {G : Gam} {γ β : Type}
theorem itr_range {a b : Int} (h : a ≤ b) (ha : -(2 ^ 62) ≤ a) (hb : b < 2 ^ 62) : Itr w 0 (.rng a b 1) ((List.range (b - a).toNat).map fun i => PV.at (.int (a + (i : Nat)))) := by
  have e := itr_rng (w := w) (m := 0) (small_one (a := a) (b := b) ha (by (first | lia | omega)) (by (first | lia | omega)) hb) (by rw [rangeSize_1 h]; (first | lia | omega))
  rw [rangeSize_1 h] at e
  simpa using e
theorem itr_range0 {n : Nat} (hb : n < 2 ^ 61) : Itr w 0 (.rng 0 n 1) ((List.range n).map fun i => PV.at (.int (i : Nat))) := by
  have e := itr_range (w := w) (a := 0) (b := n) (by (first | lia | omega)) (by decide) (by (first | lia | omega))
  simpa using e
theorem back_one {ns : List (Str × NameKind)} {x : Str} {d' : PV} (hx : (ns.lookup x == some .local) = true) {n : Str} {d : PV} (h : (capt ns G).lookup n = some d) : List.lookup n ((x, d') :: capt ns G) = some d := by
  refine lk_there ?_ h
  refine beq_eq_false_iff_ne.mpr fun q => ?_
  subst q
  have h1 := (capt_lk h).1
  rw [h1] at hx; exact absurd hx (by decide)
theorem kind_loc {K ns : List (Str × NameKind)} {cenv : Env} {x : Str} (hc : cenv.scope.names = relabelN K ns) (hx : (ns.lookup x == some .local) = true) : cenv.kindOf x = some .local := by
  have h : ns.lookup x = some .local := by simpa using hx
  unfold Env.kindOf; rw [hc, relabelN_lookup, h]; rfl
theorem ev_comp1 (O : Out γ) {K : List (Str × NameKind)} {elt iter : Expr} {x : Str} {px : Pos} {ifs : List Expr} {scope : Scope} {pos : Pos} {di : PV} {xs : List PV} (l : List β) (emb : β → PV) (p : β → Bool) (ρ : β → γ)
    (hK : env.scope.names = K) (hi : Ev w k S env G iter di) (hI : Itr w 0 di xs) (hxs : xs = l.map emb) (hsz : l.length ≤ 2 ^ 24)
    (tst : ∀ S' cenv, cenv.scope.names = relabelN K scope.names → ∀ b ∈ l, Ts w k S' cenv ((x, emb b) :: capt scope.names G) ifs (p b))
    (elm : ∀ S' cenv, cenv.scope.names = relabelN K scope.names → ∀ b ∈ l, p b = true → Ev w k S' cenv ((x, emb b) :: capt scope.names G) elt (O.one (ρ b)))
    (ok : compOk K scope.names (G.map (·.1)) = true) (hx : (scope.names.lookup x == some .local) = true) (hkind : scope.kind = .function)
    (hs : ∀ x, foldedSetIterable iter env x = pure x := by intro _; rfl) :
    Ev w k S env G (.ListComp elt [⟨.Name x px, iter, ifs, 0⟩] scope pos) (O.many ((l.filter p).map ρ)) :=
  ev_comp O l emb p ρ (fun b => (x, emb b) :: capt scope.names G) hK hi (hxs ▸ hI) ok hkind hsz (fun s₁ S' cenv ce b hb => asg_name (kind_loc ce.names hx)) (fun b n d h => back_one hx h)
    (fun s₁ S' cenv ce b hb => tst S' cenv ce.names b hb) (fun s₁ S' cenv ce b hb hp => elm S' cenv ce.names b hb hp) hs
theorem ex_comp1 (O : Out γ) {s₀ : Shared} {X : List Addr} {K : List (Str × NameKind)} {elt iter : Expr} {x : Str} {px : Pos} {ifs : List Expr} {scope : Scope} {pos spos py : Pos} {y : Str} {rest : List Stmt} {Q : Flow → Shared → Prop} {di : PV} {xs : List PV} (l : List β) (emb : β → PV) (p : β → Bool) (ρ : β → γ)
    (hK : env.scope.names = K) (hi : Ev w k S env G iter di) (hI : Itr w 0 di xs) (hxs : xs = l.map emb) (hsz : l.length ≤ 2 ^ 24)
    (tst : ∀ S' cenv, cenv.scope.names = relabelN K scope.names → ∀ b ∈ l, Ts w k S' cenv ((x, emb b) :: capt scope.names G) ifs (p b))
    (elm : ∀ S' cenv, cenv.scope.names = relabelN K scope.names → ∀ b ∈ l, p b = true → Ev w k S' cenv ((x, emb b) :: capt scope.names G) elt (O.one (ρ b)))
    (ok : compOk K scope.names (G.map (·.1)) = true) (hx : (scope.names.lookup x == some .local) = true) (hkind : scope.kind = .function)
    (hy : env.kindOf y = some .local) (hsw : swapsWith (.ListComp elt [⟨.Name x px, iter, ifs, 0⟩] scope pos) (some (.Name y py)) spos.line env = pure true)
    (next : Ex w k s₀ X S env ((y, O.many ((l.filter p).map ρ)) :: G) rest Q)
    (hs : ∀ x, foldedSetIterable iter env x = pure x := by intro _; rfl) :
    Ex w k s₀ X S env G (.Assign [.Name y py] (.ListComp elt [⟨.Name x px, iter, ifs, 0⟩] scope pos) spos :: rest) Q :=
  ex_comp O l emb p ρ (fun b => (x, emb b) :: capt scope.names G) hK hi (hxs ▸ hI) ok hkind hsz hy hsw (fun s₁ S' cenv ce b hb => asg_name (kind_loc ce.names hx)) (fun b n d h => back_one hx h)
    (fun s₁ S' cenv ce b hb => tst S' cenv ce.names b hb) (fun s₁ S' cenv ce b hb hp => elm S' cenv ce.names b hb hp) next hs
/-- swapsWith, when the names of a frame are known -/
theorem swaps_local {K : List (Str × NameKind)} {elt : Expr} {gs : List Comprehension} {scope : Scope} {pos py : Pos} {y : Str} {n : Nat} (hf : env.scope.kind = .function) (hK : env.scope.names = K)
    (h : (K.lookup y == some .local && py.line == pos.line && !(scope.names.any fun (n, k) => n == y && (k == .local || k == .cell))) = true) : swapsWith (.ListComp elt gs scope pos) (some (.Name y py)) n env = pure true := by
  unfold swapsWith
  show pure (env.blockKind == .function && env.kindOf y == some .local && py.line == (Expr.ListComp elt gs scope pos).pos.line && !(scope.names.any fun (n, k) => n == y && (k == .local || k == .cell))) = pure true
  have hb : env.blockKind = .function := by unfold Env.blockKind; rw [hf]; rfl
  rw [hb]
  unfold Env.kindOf
  rw [hK]
  have e : (Expr.ListComp elt gs scope pos).pos = pos := rfl
  rw [e]
  congr 1
theorem swaps_cell {K : List (Str × NameKind)} {elt : Expr} {gs : List Comprehension} {scope : Scope} {pos py : Pos} {y : Str} {n : Nat} (hK : env.scope.names = K)
    (h : (K.lookup y == some .local) = false) : swapsWith (.ListComp elt gs scope pos) (some (.Name y py)) n env = pure false := by
  unfold swapsWith
  show pure (env.blockKind == .function && env.kindOf y == some .local && py.line == (Expr.ListComp elt gs scope pos).pos.line && !(scope.names.any fun (n, k) => n == y && (k == .local || k == .cell))) = pure false
  unfold Env.kindOf
  rw [hK, h]
  simp
end

/-- a page: for each row its end, its dots and its name -/
noncomputable def pageOf (E : List (List Nat)) (D : List Nat) (N : List (List Nat)) : List Nat := ((List.range N.length).map fun k => E.getD k [] ++ List.replicate (D.getD k 0) 46 ++ N.getD k []).flatten
theorem fn_page {w : World} {E N : List (List Nat)} {D : List Nat} (h1 : N.length ≤ E.length) (h2 : N.length ≤ D.length) (hn : N.length ≤ 1000) (hE : ∀ x ∈ E, x.length ≤ 1000) (hN : ∀ x ∈ N, x.length ≤ 1000) (hD : ∀ x ∈ D, x ≤ 1000)
    (hE2 : E.length ≤ 2 ^ 20) (hD2 : D.length ≤ 2 ^ 20) :
    Fn w 1 187 [.list (E.map PA.str), .list (D.map fun n => PA.int (n : Nat)), .list (N.map PA.str)] (.at (.str (pageOf E D N))) := by
  refine fn_of def_l_page (by decide +kernel) rfl fun s S env bd => ?_
  dsimp only [List.zip, List.zipWith]
  have hK := ns_of bd
  refine ex_at (by unfold fB; exact rfl) ?_
  have hlen : ∀ k, k < N.length → (E.getD k [] ++ List.replicate (D.getD k 0) 46 ++ N.getD k []).length ≤ 3000 ∧ E[k]? = some (E.getD k []) ∧ D[k]? = some (D.getD k 0) ∧ N[k]? = some (N.getD k []) ∧ D.getD k 0 ≤ 1000 ∧ (E.getD k []).length ≤ 1000 ∧ (N.getD k []).length ≤ 1000 := fun k hk => by
    have a1 : k < E.length := by (first | lia | omega)
    have a2 : k < D.length := by (first | lia | omega)
    have b1 := hE _ (List.getElem_mem a1)
    have b2 := hD _ (List.getElem_mem a2)
    have b3 := hN _ (List.getElem_mem hk)
    rw [List.getD_eq_getElem?_getD, List.getD_eq_getElem?_getD, List.getD_eq_getElem?_getD, List.getElem?_eq_getElem a1, List.getElem?_eq_getElem a2, List.getElem?_eq_getElem hk]
    refine ⟨?_, rfl, rfl, rfl, b2, b1, b3⟩
    simp only [Option.getD_some, List.length_append, List.length_replicate]; (first | lia | omega)
  refine ex_ret (ev_join (ls := (List.range N.length).map fun k => E.getD k [] ++ List.replicate (D.getD k 0) 46 ++ N.getD k []) (by kernel_rfl)
    (ev_as (ev_comp1 outA (List.range N.length) (fun i => PV.at (.int (i : Nat))) (fun _ => true) (fun k => PA.str (E.getD k [] ++ List.replicate (D.getD k 0) 46 ++ N.getD k [])) hK
      (ev_ty (ld_bi (kd hK (by kernel_rfl)) (gm_range _) bb_range) (evs_cons (ev_bi (ld_bi (kd hK (by kernel_rfl)) (gm_len _) bb_len) (evs_cons ev_n evs_nil) (bi_len_list (by rw [List.length_map]; (first | lia | omega))) (Nat.le_refl _)) evs_nil) bi_range1 (Nat.le_refl _))
      (by rw [List.length_map]; exact itr_range0 (by (first | lia | omega))) rfl (by simp; (first | lia | omega)) (fun _ _ _ _ _ => ts_nil) (fun S' cenv hc k hk _ => ?_) (by kernel_rfl) (by kernel_rfl) rfl) ?_) ?_ rfl) rep_out
  · have hk := List.mem_range.mp hk
    obtain ⟨c0, c1, c2, c3, c4, c5, c6⟩ := hlen k hk
    generalize E.getD k [] = xE at c0 c1 c5 ⊢
    generalize D.getD k 0 = xD at c0 c2 c4 ⊢
    generalize N.getD k [] = xN at c0 c3 c6 ⊢
    refine ev_as (ev_bin (ev_bin (ev_sub ev_n ev_n (it_list (x := .str xE) (by (first | lia | omega)) (by rw [List.getElem?_map, Int.toNat_natCast, c1]; rfl) (by simp; (first | lia | omega))))
      (ev_bin (ev_s (l := [46]) (by kernel_rfl)) (ev_sub ev_n ev_n (it_list (x := .int (xD : Nat)) (by (first | lia | omega)) (by rw [List.getElem?_map, Int.toNat_natCast, c2]; rfl) (by simp; (first | lia | omega)))) (bn_mul_str (by (first | lia | omega)) (by (first | lia | omega)) (by simp; (first | lia | omega)))) (bn_add_str ?_))
      (ev_sub ev_n ev_n (it_list (x := .str xN) (by (first | lia | omega)) (by rw [List.getElem?_map, Int.toNat_natCast, c3]; rfl) (by simp; (first | lia | omega)))) (bn_add_str ?_)) ?_
    · simp; (first | lia | omega)
    · simp; (first | lia | omega)
    · show PV.at _ = PV.at _
      simp
  · show PV.list _ = _
    rw [List.filter_eq_self.mpr (fun _ _ => rfl), List.map_map]; rfl
  · have : ∀ m, m ≤ N.length → (((List.range m).map fun k => E.getD k [] ++ List.replicate (D.getD k 0) 46 ++ N.getD k []).map List.length).sum ≤ 3000 * m := by
      intro m
      induction m with
      | zero => intro _; simp
      | succ m ih =>
        intro hm
        rw [List.range_succ, List.map_append, List.map_append, List.sum_append]
        have a := ih (by (first | lia | omega))
        have b := (hlen m (by (first | lia | omega))).1
        simp only [List.map_cons, List.map_nil, List.sum_cons, List.sum_nil]
        (first | lia | omega)
    have := this N.length (Nat.le_refl _)
    (first | lia | omega)
end Mine
end

section
set_option maxRecDepth 100000
set_option maxHeartbeats 1000000
set_option linter.unusedVariables false
set_option linter.unusedSimpArgs false
namespace Mine
open PySem PySem.W PySem.Calls PyProof.Rows

/-! hasattr of a list -/
theorem ty_gi : typeOf (.builtin "list.__getitem__") = pure (.type "method_descriptor") := by kernel_rfl
theorem slot_md_get : Slot "method_descriptor" "__get__" "method_descriptor.__get__" :=
  .of (owner := "method_descriptor") (n := "__get__") (by rw [typeLookup_type, builtinLookup_eq_fast]; kernel_rfl) (by decide +kernel) (by decide +kernel) (by decide +kernel)
    (by first | exact .inl (by decide +kernel) | exact .inr (by decide +kernel)) (by rw [isSubtype_type]; kernel_rfl)
theorem entry_md_get : entryFor table "method_descriptor.__get__" = some Builtin.«method_descriptor.__get__» := entryFor_of_tree (by kernel_rfl)
theorem args_md_get (a b c : Value) : argsOk "method_descriptor.__get__" ⟨[a, b, c], []⟩ := by unfold argsOk; kernel_rfl
theorem md_set : typeLookup (.type "method_descriptor") "__set__" = pure none := by rw [typeLookup_type, builtinLookup_eq_fast]; kernel_rfl
theorem md_del : typeLookup (.type "method_descriptor") "__delete__" = pure none := by rw [typeLookup_type, builtinLookup_eq_fast]; kernel_rfl
theorem told_gi : (Manifest.toldItsClass.contains "list.__getitem__") = false := by decide +kernel
theorem owner_gi : (".".intercalate ("list.__getitem__".cutAt '.').dropLast) = "list" := by
  have e0 : "list.__getitem__".cutAt '.' = ["list", "__getitem__"] := by first | rfl | decide +kernel
  rw [e0]; decide +kernel
theorem sub_ll : isSubtype (.type "list") (.type (".".intercalate ("list.__getitem__".cutAt '.').dropLast)) = pure true := by rw [owner_gi, isSubtype_type]; kernel_rfl

section
variable {prog : Program} {w : World} {A : Around} {E : Value → Shared → Prop} {h : Heap} {g : Array GenState} {d : Drawn} {t : Nat} {os : OsState} {a : Addr} {o : Obj}
theorem gi_get {R : Result → Shared → Prop} (hx : h.get? a = some o) (hc : o.cls = .type "list") (hq : R (.ok (.ret (.ref h.objs.size))) ⟨h.push { cls := .type "builtin_function_or_method", data := .fields #[.builtin "list.__getitem__", .ref a] }, g, d, t, os⟩) :
    codeAny (model prog w) A (.call (.builtin "method_descriptor.__get__") ⟨[.builtin "list.__getitem__", .ref a, .type "list"], []⟩) R ⟨h, g, d, t, os⟩ := by
  have hT : (⟨h, g, d, t, os⟩ : Shared).TypeIs (.ref a) "list" := ⟨_, hx, hc⟩
  have hT5 : (⟨h, g, d, t, os⟩ : Shared).TypeIs (.builtin "list.__getitem__") "method_descriptor" := ty_gi
  have f8 := sub_ll
  have f9 := told_gi
  refine codeAny_call_builtin slot_md_get.plain entry_md_get (slot_md_get.check _ _ _ _ _ _ _ _ hT5 (args_md_get _ _ _) ?_)
  unfold Builtin.«method_descriptor.__get__»
  repeat (any_goals (first | assumption | wp_step))

theorem gi_entry {tk : Tok} {x : Str} {Q : PySem.Fin → Shared → Prop} (hxx : x = "__getitem__") (hx : h.get? a = some o) (hc : o.cls = .type "list") (hd : o.dict = none) (hdat : ∃ vs n, o.data = .seq vs n) (hq : Q (.done (.ret (.ref h.objs.size))) ⟨h.push { cls := .type "builtin_function_or_method", data := .fields #[.builtin "list.__getitem__", .ref a] }, g, d, t, os⟩) :
    wpAny (model prog w) A (Builtin.«object.__getattribute__» ⟨[.ref a, .str x tk], []⟩) Q E ⟨h, g, d, t, os⟩ := by
  subst hxx
  obtain ⟨cls, dict, data, sl⟩ := o
  dsimp only at hc hd hdat
  obtain ⟨vs, n, rfl⟩ := hdat
  subst hc hd
  have hT : (⟨h, g, d, t, os⟩ : Shared).TypeIs (.ref a) "list" := ⟨_, hx, rfl⟩
  have hT5 : (⟨h, g, d, t, os⟩ : Shared).TypeIs (.builtin "list.__getitem__") "method_descriptor" := ty_gi
  have f4 := list_getitem_lookup
  have f5 := ty_gi
  have f6 := slot_md_get.lookup
  have f7 := md_set
  have f8 := md_del
  have hb : (["__module__", "__name__", "__qualname__", "__doc__", "__annotations__"] : List Str).contains "__getitem__" = false := by decide +kernel
  repeat (any_goals (first | assumption | wp_step))
  refine gi_get hx rfl ?_
  repeat (any_goals (first | assumption | wp_step))

theorem gi_call {tk : Tok} {R : Result → Shared → Prop} (hx : h.get? a = some o) (hc : o.cls = .type "list") (hd : o.dict = none) (hdat : ∃ vs n, o.data = .seq vs n)
    (hq : R (.ok (.ret (.ref h.objs.size))) ⟨h.push { cls := .type "builtin_function_or_method", data := .fields #[.builtin "list.__getitem__", .ref a] }, g, d, t, os⟩) :
    codeAny (model prog w) A (.call (.builtin "list.__getattribute__") ⟨[.ref a, .str "__getitem__" tk], []⟩) R ⟨h, g, d, t, os⟩ :=
  codeAny_call_builtin F.slot_list_getattribute.plain F.entry_list_ga (F.slot_list_getattribute.check _ _ _ _ _ _ _ _ (show (⟨h, g, d, t, os⟩ : Shared).TypeIs (.ref a) "list" from ⟨_, hx, hc⟩) (F.args_list_getattribute_2 _ _) (gi_entry rfl hx hc hd hdat hq))
theorem gi_by {tk : Tok} {Q : Value → Shared → Prop} (hx : h.get? a = some o) (hc : o.cls = .type "list") (hd : o.dict = none) (hdat : ∃ vs n, o.data = .seq vs n)
    (hq : Q (.ref h.objs.size) ⟨h.push { cls := .type "builtin_function_or_method", data := .fields #[.builtin "list.__getitem__", .ref a] }, g, d, t, os⟩) : wpAny (model prog w) A (getAttrBy (.ref a) (.str "__getitem__" tk) false) Q E ⟨h, g, d, t, os⟩ := by
  have hT : (⟨h, g, d, t, os⟩ : Shared).TypeIs (.ref a) "list" := ⟨_, hx, hc⟩
  have f2 := F.slot_list_getattribute.lookup
  have f3 := F.slot_list_getattribute.bind (.ref a)
  repeat (any_goals (first | assumption | wp_step))
  refine gi_call hx hc hd hdat ?_
  repeat (any_goals (first | assumption | wp_step))
theorem no_data_gi : (withoutEnding? "list.__getitem__" "#data").isSome = false := by decide +kernel
theorem list_ga : typeLookup (.type "list") "__getattribute__" = pure (some (.builtin "list.__getattribute__")) := F.slot_list_getattribute.lookup
theorem sub_list_module : isSubtype (.type "list") (.type "module") = pure false := by rw [isSubtype_type]; kernel_rfl
end
theorem entry_hasattr : entryFor table "hasattr" = some Builtin.«hasattr» := entryFor_of_tree (by kernel_rfl)
section
variable {prog : Program} {w : World} {A : Around} {E : Value → Shared → Prop} {h : Heap} {g : Array GenState} {d : Drawn} {t : Nat} {os : OsState} {a : Addr} {o : Obj}
theorem hasattr_entry {tk : Tok} {Q : PySem.Fin → Shared → Prop} (hx : h.get? a = some o) (hc : o.cls = .type "list") (hd : o.dict = none) (hdat : ∃ vs n, o.data = .seq vs n)
    (hq : Q (.done (.ret (.bool true))) ⟨h.push { cls := .type "builtin_function_or_method", data := .fields #[.builtin "list.__getitem__", .ref a] }, g, d, t, os⟩) :
    wpAny (model prog w) A (Builtin.«hasattr» ⟨[.ref a, .str "__getitem__" tk], []⟩) Q E ⟨h, g, d, t, os⟩ := by
  have hT : (⟨h, g, d, t, os⟩ : Shared).TypeIs (.ref a) "list" := ⟨_, hx, hc⟩
  have f4 := list_getitem_lookup
  have f5 := list_ga
  have f6 := no_data_gi
  have f7 := sub_list_module
  unfold Builtin.«hasattr»
  repeat (any_goals (first | assumption | with_reducible apply gi_by hx hc hd hdat | wp_step))
end
end Mine
end

section
set_option maxRecDepth 100000
set_option linter.unusedVariables false
set_option linter.unusedSimpArgs false
namespace Mine
open PySem PySem.W PySem.Calls PyProof.Rows

noncomputable def giL : List Nat := [95, 95, 103, 101, 116, 105, 116, 101, 109, 95, 95]
theorem gi_T : T_ giL = Str.ofString "__getitem__" := by kernel_rfl
theorem kind_hasattr : builtinKind "hasattr" = none := by decide +kernel
theorem plain_hasattr : plainId "hasattr" = true := by decide +kernel
theorem args_hasattr (a b : Value) : argsOk "hasattr" ⟨[a, b], []⟩ := by unfold argsOk; kernel_rfl
theorem bi_hasattr {w : World} {k : Nat} {l : List PA} : Bi w k (.builtin "hasattr") [.list l, .at (.str giL)] (.at (.bool true)) := ⟨fun A E S s vs hA st hg ht hl p => by
  obtain ⟨v, u, rfl, r, r'⟩ := paired2 p
  cases r using Rep.cList with | list hs hl' hp =>
    cases r' using Rep.cAt with | «at» r' =>
      (first | cases r' using Atom.cInt | cases r' using Atom.cStr | cases r' using Atom.cBool | cases r' using Atom.cNone | cases r')
      rename_i a vs t
      rw [gi_T]
      obtain ⟨n, ho⟩ := hl'
      obtain ⟨h, g, d, tk, os⟩ := s
      refine call_function_entry kind_hasattr plain_hasattr entry_hasattr (args_hasattr _ _) (hasattr_entry ho rfl rfl ⟨_, _, rfl⟩ ?_)
      exact ⟨_, rfl, ⟨⟨_, _, rfl, fun _ _ e => Heap.get?_push_of_some _ e⟩, Nat.le_refl _⟩, .at (.bool _)⟩⟩
theorem fn_concat {w : World} {a b : List PA} (hsz : a.length + b.length ≤ 2 ^ 24) : Fn w 1 45 [.list a, .list b] (.list (a ++ b)) := by
  refine fn_of def_concat (by decide +kernel) rfl fun s S env bd => ?_
  dsimp only [List.zip, List.zipWith]
  have hK := ns_of bd
  refine ex_at (by unfold fB; exact rfl) ?_
  refine ex_if_not (tr_as (tr_not (tr_ev (ev_bi (ld_bi (kd hK (by kernel_rfl)) (gm_hasattr _) bb_hasattr) (evs_cons ev_n (evs_cons (ev_s (l := giL) (by kernel_rfl)) evs_nil)) bi_hasattr (Nat.le_refl _)))) rfl) ?_
  exact ex_ret (ev_bin ev_n ev_n (bn_add_list hsz)) rep_out
end Mine
end

section
set_option maxRecDepth 100000
set_option linter.unusedVariables false
set_option linter.unusedSimpArgs false
namespace Mine
open PySem PySem.W PySem.Calls PyProof.Rows

/-- a list that is made anew -/
structure EvN (w : World) (k : Nat) (S : List Addr) (env : Env) (G : Gam) (e : Expr) (l : List PA) : Prop where
  run : ∀ s₀ A E s, AOk k A → Fm w s₀ S env G s → wpAny (model p0 w) A (eval e env) (fun v s' => Kp s s' ∧ Rep S s'.heap v (.list l) ∧ ∃ a, v = .ref a ∧ s.heap.get? a = none) E s
structure FnN (w : World) (k : Nat) (a : Addr) (ds : List PV) (l : List PA) : Prop where
  run : ∀ A E S s vs, AOk k A → Stays w.params s.heap → s.gens = #[] → 0 < s.toks → (∀ b ∈ S, ∃ o, s.heap.get? b = some o) → Paired (Rep S s.heap) vs ds →
    wpAny (model p0 w) A (PySem.call (.ref a) vs) (fun v s' => Kp s s' ∧ Rep S s'.heap v (.list l) ∧ ∃ b, v = .ref b ∧ s.heap.get? b = none) E s
section
variable {w : World} {k : Nat} {s₀ : Shared} {X S : List Addr} {env : Env} {G : Gam} {Q : Flow → Shared → Prop}
theorem EvN.ev {e : Expr} {l : List PA} (h : EvN w k S env G e l) : Ev w k S env G e (.list l) := ⟨fun s₀ A E s ha f => wpAny_mono (h.run s₀ A E s ha f) (fun _ _ x => ⟨x.1, x.2.1⟩) fun _ _ x => x⟩
theorem FnN.fn {a : Addr} {ds : List PV} {l : List PA} (h : FnN w k a ds l) : Fn w k a ds (.list l) := ⟨fun A E S s vs h1 h2 h3 h4 h5 h6 => wpAny_mono (h.run A E S s vs h1 h2 h3 h4 h5 h6) (fun _ _ x => ⟨x.1, x.2.1⟩) fun _ _ x => x⟩
theorem ev_unfl {e : Expr} {B : Heap} {l : List PA} (h : Ev w k S env G e (.fl B l)) : Ev w k S env G e (.list l) := ⟨fun s₀ A E s ha f => wpAny_mono (h.run s₀ A E s ha f) (fun _ _ x => ⟨x.1, x.2.unfl⟩) fun _ _ x => x⟩
theorem evn_list {es : List Expr} {pos : Pos} {l : List PA} (h : Evs w k S env G es (l.map PV.at)) (hsz : l.length ≤ 2 ^ 24) : EvN w k S env G (.List es pos) l := ⟨fun s₀ A E s ha f => by
  rw [arm_eval_List]
  refine wpAny_bind (wpAny_standAt (wpAny_bind (wpAny_mono (h.run s₀ A E s pos ha f) (fun vs s₁ x => ?_) fun _ _ x => x)))
  have p := paired_at x.2
  exact wpAny_newList ⟨kp_trans x.1 kp_push, .list (fresh_off (f.keeps x.1).low) ⟨_, Heap.get?_push_size _ rfl⟩ (by simpa using p), _, rfl, none_back x.1 fresh_none⟩ (by rw [p.length]; exact hsz)⟩
theorem evn_add {l r : Expr} {pos : Pos} {a b : List PA} (h₁ : Ev w k S env G l (.list a)) (h₂ : Ev w k S env G r (.list b)) (hsz : a.length + b.length ≤ 2 ^ 24) : EvN w k S env G (.BinOp l .Add r pos) (a ++ b) := ⟨fun s₀ A E s ha f => by
  refine wpAny_BinOp (wpAny_mono (h₁.run s₀ A E s ha f) (fun v s₁ x => wpAny_mono (h₂.run s₀ A E s₁ ha (f.keeps x.1)) (fun v₂ s₂ y => ?_) fun _ _ x => x) fun _ _ x => x)
  have f2 := (f.keeps x.1).keeps y.1
  have r₁ := x.2.keep (kp_x y.1 S)
  have r₂ := y.2
  cases r₁ using Rep.cList with | list hs1 hl1 hp1 => cases r₂ using Rep.cList with | list hs2 hl2 hp2 =>
    have kk := kp_trans x.1 y.1
    refine add_lists' hl1 hl2 ⟨kp_trans kk kp_push, .list (fresh_off f2.low) ⟨_, Heap.get?_push_size _ rfl⟩ (by rw [Array.toList_append]; exact Paired.append' hp1 hp2), _, rfl, none_back kk fresh_none⟩ ?_
    have e1 := hp1.length; have e2 := hp2.length
    simp only [Array.length_toList] at e1 e2
    unfold sizeLine; (first | lia | omega)⟩
theorem evn_fn {fe e : Expr} {es : List Expr} {pos : Pos} {a : Addr} {j : Nat} {nm : Str} {i : Nat} {md : Value} {c : Addr} {names : List Str} {ds : List PV} {l : List PA} (D : Def a nm i md c names) (hl : Ld w k S env G fe (.ref a)) (hs : Evs w k S env G (e :: es) ds) (hf : FnN w j a ds l) (hj : j ≤ k)
    (he : starEach (e :: es) env = (false, eval e env) :: starEach es env := by rfl)
    (hc : eval (.Call fe (e :: es) [] pos) env = (do callWith pos (← eval fe env) [] (backTo pos (starEach (e :: es) env)) (backToKw pos (keywordEach [] env))) := by rfl) : EvN w k S env G (.Call fe (e :: es) [] pos) l := ⟨fun s₀ A E s ha f => by
  refine Call_ (wpAny_mono (hl.run s₀ A E s ha f) (fun v s₁ x => ?_) fun _ _ x => x) hc
  obtain ⟨rfl, k1⟩ := x
  refine callWith_def (o := fnObj nm i md c) (fd := fdOf nm i md c) rfl (wpAny_mono (hs.run s₀ A E s₁ pos ha (f.keeps k1)) (fun vs s₂ y => ?_) fun _ _ x => x) he
  have f2 := (f.keeps k1).keeps y.1
  refine ⟨f2.st.obj (D.obj _) D.lt rfl, wpAny_mono (hf.run A E S s₂ vs (ha.mono hj) f2.st f2.gen f2.tk f2.low y.2) (fun v s₃ z => ⟨kp_trans k1 (kp_trans y.1 z.1), z.2.1, ?_⟩) fun _ _ x => x⟩
  obtain ⟨b, e, hb⟩ := z.2.2
  exact ⟨b, e, none_back (kp_trans k1 y.1) hb⟩⟩
/-- a local name takes a new list -/
theorem ex_localN {n : Str} {p pos : Pos} {e : Expr} {rest : List Stmt} {l : List PA} (hk : env.kindOf n = some .local) (h : EvN w k S env G e l) (hs : swapsWith e (some (.Name n p)) pos.line env = pure false)
    (h' : Ex w k s₀ X S env ((n, .fl s₀.heap l) :: G) rest Q) : Ex w k s₀ X S env G (.Assign [.Name n p] e pos :: rest) Q := ⟨fun A E s a f => by
  refine wpAny_execs_cons (wpAny_Assign_Name (wpAny_mono (h.run s₀ A E s a f) (fun v s' x => ?_) fun _ _ x => x) hs)
  obtain ⟨b, rfl, hb⟩ := x.2.2
  have r : Rep S s'.heap (.ref b) (.fl s₀.heap l) := by
    cases x.2.1 using Rep.cList with | list hs hl hp => exact .fl hs hl hp (none_back f.keep hb)
  exact store_local (f.keeps x.1) hk r fun s'' f' kx _ => ex_then h' a f' ((kp_x x.1 _).trans (kx.mono loc_mut))⟩
end

theorem fnn_concat {w : World} {a b : List PA} (hsz : a.length + b.length ≤ 2 ^ 24) : FnN w 1 45 [.list a, .list b] (a ++ b) := ⟨fun A E S s vs hA hst hg htk hlow hp => by
  refine fn_run def_concat (by decide +kernel) rfl hA hst hg htk hlow hp fun S' env bd hS => ?_
  dsimp only [List.zip, List.zipWith]
  have hK := ns_of bd
  refine ex_at (by unfold fB; exact rfl) ?_
  refine ex_if_not (tr_as (tr_not (tr_ev (ev_bi (ld_bi (kd hK (by kernel_rfl)) (gm_hasattr _) bb_hasattr) (evs_cons ev_n (evs_cons (ev_s (l := giL) (by kernel_rfl)) evs_nil)) bi_hasattr (Nat.le_refl _)))) rfl) ?_
  refine ⟨fun A' E' s₁ a' f => wpAny_execs_cons (wpAny_Return_some (wpAny_mono ((evn_add (a := a) (b := b) ev_n ev_n hsz).run s A' E' s₁ a' f) (fun v s' x => ?_) fun _ _ x => x))⟩
  obtain ⟨c, e, hc⟩ := x.2.2
  exact ⟨⟨kp_trans f.keep x.1, x.2.1.sub hS, c, e, none_back f.keep hc⟩, kp_x x.1 _⟩⟩
end Mine
end

section
set_option maxRecDepth 100000
set_option linter.unusedVariables false
set_option linter.unusedSimpArgs false
namespace Mine
open PySem PySem.W PySem.Calls PyProof.Rows

/-- the word that is read from dots: each row laid in behind as many of the later rows as it has dots -/
noncomputable def readFrom : Nat → List Nat → List Nat
  | _, [] => []
  | i, d :: ds => (readFrom (i + 1) ds).take d ++ i :: (readFrom (i + 1) ds).drop d
theorem readFrom_length : ∀ (ds : List Nat) (i : Nat), (readFrom i ds).length = ds.length
  | [], _ => rfl
  | d :: ds, i => by
    have := readFrom_length ds (i + 1)
    simp only [readFrom, List.length_append, List.length_take, List.length_cons, List.length_drop, this]
    (first | lia | omega)
noncomputable def intsL (l : List Nat) : List PA := l.map fun n => PA.int (n : Nat)

section
variable {w : World} {k : Nat} {S : List Addr} {env : Env} {G : Gam}
theorem ev_neg {e : Expr} {pos : Pos} {i : Int} (h : Ev w k S env G e (.at (.int i))) : Ev w k S env G (.UnaryOp .USub e pos) (.at (.int (-i))) := ⟨fun s₀ A E s ha f => by
  rw [arm_eval_UnaryOp]
  refine wpAny_bind (wpAny_mono (h.run s₀ A E s ha f) (fun v s₁ x => ?_) fun _ _ x => x)
  obtain ⟨k1, r⟩ := x
  cases r using Rep.cAt with | «at» r => (first | cases r using Atom.cInt | cases r using Atom.cStr | cases r using Atom.cBool | cases r using Atom.cNone | cases r); exact wpAny_bind (wpAny_standAt (wpAny_holding (P.neg_int ⟨kp_trans k1 kp_tok, .at (.int _ _)⟩)))⟩
theorem pickL_upto {α : Type} (l : List α) (b : Nat) : pickL l none (some (b : Int)) none = l.take b := by
  have e : sliceBounds none (some (b : Int)) none l.length = (((0 : Nat) : Int), ((min b l.length : Nat) : Int), 1) := by
    simp only [sliceBounds, Option.getD_none]
    have h1 : ¬ ((b : Int) < 0) := by (first | lia | omega)
    simp only [h1, if_false, show (1 : Int) > 0 by decide, if_true]
    refine Prod.ext rfl (Prod.ext ?_ rfl)
    show max 0 (min (b : Int) l.length) = ((min b l.length : Nat) : Int)
    (first | lia | omega)
  have h := pick_run l.toArray 0 (min b l.length)
  unfold pickL
  rw [e]
  show List.filterMap _ (sliceRange ((0 : Nat) : Int) ((min b l.length : Nat) : Int) 1) = _
  rw [sliceRange_one]
  have h2 : ((List.range (min b l.length - 0)).map (0 + ·)).filterMap (l.toArray[·]?) = (l.drop 0).take (min b l.length) := by simpa using h
  have h3 : (fun (x : Nat) => l.toArray[x]?) = (fun (x : Nat) => l[x]?) := by funext x; simp
  rw [h3] at h2
  rw [h2, List.drop_zero]
  rcases Nat.le_total b l.length with q | q
  · rw [Nat.min_eq_left q]
  · rw [Nat.min_eq_right q, List.take_of_length_le (Nat.le_refl _), List.take_of_length_le q]
theorem pickL_from {α : Type} (l : List α) (b : Nat) : pickL l (some (b : Int)) none none = l.drop b := by
  have e : sliceBounds (some (b : Int)) none none l.length = (((min b l.length : Nat) : Int), ((l.length : Nat) : Int), 1) := by
    simp only [sliceBounds, Option.getD_none]
    have h1 : ¬ ((b : Int) < 0) := by (first | lia | omega)
    simp only [h1, if_false, show (1 : Int) > 0 by decide, if_true]
    refine Prod.ext ?_ rfl
    show max 0 (min (b : Int) l.length) = ((min b l.length : Nat) : Int)
    (first | lia | omega)
  have h := pick_run l.toArray (min b l.length) (l.length - min b l.length)
  unfold pickL
  rw [e]
  show List.filterMap _ (sliceRange ((min b l.length : Nat) : Int) ((l.length : Nat) : Int) 1) = _
  rw [sliceRange_one]
  have h3 : (fun (x : Nat) => l.toArray[x]?) = (fun (x : Nat) => l[x]?) := by funext x; simp
  rw [h3] at h
  rw [h]
  show (l.drop (min b l.length)).take _ = _
  rw [List.take_of_length_le (by rw [List.length_drop]; exact Nat.le_refl _)]
  rcases Nat.le_total b l.length with q | q
  · rw [Nat.min_eq_left q]
  · rw [Nat.min_eq_right q, List.drop_of_length_le (Nat.le_refl _), List.drop_of_length_le q]
end
/-- the names of Γ are names of G -/
structure Sub (Γ G : Gam) : Prop where
  all : ∀ n d, List.lookup n Γ = some d → List.lookup n G = some d
theorem sub_nil {G : Gam} : Sub [] G := ⟨fun _ _ h => nomatch h⟩
theorem sub_cons {Γ G : Gam} {n : Str} {d : PV} (t : Sub Γ G) (h : List.lookup n G = some d := by repeat (first | with_reducible exact lk_here | (apply lk_there; decide +kernel) | (apply lk_capt; kernel_rfl))) : Sub ((n, d) :: Γ) G := ⟨fun m e he => by
  rw [List.lookup_cons] at he
  cases q : m == n with
  | true =>
    rw [q] at he; cases he
    have : m = n := by simpa using q
    rw [this]; exact h
  | false => rw [q] at he; exact t.all m e he⟩
theorem fnn_read {w : World} {D : List Nat} (hn : D.length ≤ 1000) : FnN w 2 194 [.list (intsL D)] (intsL (readFrom 0 D)) := ⟨fun A E S s vs hA hst hg htk hlow hp => by
  refine fn_run def_l_read (by decide +kernel) rfl hA hst hg htk hlow hp fun S' env bd hS => ?_
  dsimp only [List.zip, List.zipWith]
  have hK := ns_of bd
  refine ex_at (by unfold fB; exact rfl) ?_
  refine ex_localN (kd hK (by kernel_rfl)) (evn_list (l := []) evs_nil (by decide)) rfl ?_
  have hsm : Builtin.Range.small ((D.length : Int) - 1) (-1) (-1) = true := by
    have hsz : Builtin.Range.rangeSize ((D.length : Int) - 1) (-1) (-1) = D.length := by
      unfold Builtin.Range.rangeSize
      rw [if_neg (by decide)]
      split
      · simp
      · (first | lia | omega)
    unfold Builtin.Range.small
    rw [hsz]
    simp only [Builtin.Range.rangeFitsLong, Bool.and_eq_true, Bool.or_eq_true, decide_eq_true_eq, beq_iff_eq, show ¬ ((-1 : Int) > 0) by decide, if_false]
    (first | lia | omega)
  have hsz : Builtin.Range.rangeSize ((D.length : Int) - 1) (-1) (-1) = D.length := by
    unfold Builtin.Range.rangeSize
    rw [if_neg (by decide)]
    split
    · simp
    · (first | lia | omega)
  have hlen : (intsL D).length = D.length := by unfold intsL; simp
  refine ex_for (Γ := fun j => [("word", .fl s.heap (intsL (readFrom (D.length - j) (D.drop (D.length - j))))), ("dots", .list (intsL D))])
    (Γa := fun j => [("row", .at (.int ((D.length - 1 - j : Nat) : Int))), ("word", .fl s.heap (intsL (readFrom (D.length - j) (D.drop (D.length - j))))), ("dots", .list (intsL D))]) (fun _ h => nomatch h) bd.cellMem
    (ev_ty (ld_bi (kd hK (by kernel_rfl)) (gm_range _) bb_range) (evs_cons (ev_bin (ev_bi (ld_bi (kd hK (by kernel_rfl)) (gm_len _) bb_len) (evs_cons ev_n evs_nil) (bi_len_list (by rw [hlen]; (first | lia | omega))) (Nat.le_refl _)) ev_int bn_sub_int)
      (evs_cons (ev_neg ev_int) (evs_cons (ev_neg ev_int) evs_nil))) (bi_range3 (by decide) (by decide)) (Nat.le_refl _))
    (by rw [hlen]; exact itr_rng (m := 0) hsm (by rw [hsz]; (first | lia | omega))) ?_ ?_ ?_ ?_
  · intro n d h
    simpa [readFrom, intsL] using h
  · intro i x hx S''
    have hi : i < D.length := by
      have := (List.getElem?_eq_some_iff.mp hx).1
      rw [hsz] at this; simpa using this
    obtain rfl : x = .at (.int ((D.length - 1 - i : Nat) : Int)) := by
      rw [hsz] at hx
      simp [hi] at hx
      rw [← hx]; congr 2; (first | lia | omega)
    exact asg_name (kd hK (by kernel_rfl))
  · intro i x hx S'' hS''
    have hi : i < D.length := by
      have := (List.getElem?_eq_some_iff.mp hx).1
      rw [hsz] at this; simpa using this
    generalize hr : D.length - 1 - i = r
    have hrl : r < D.length := by (first | lia | omega)
    have e1 : D.length - i = r + 1 := by (first | lia | omega)
    have e2 : D.length - (i + 1) = r := by (first | lia | omega)
    have e3 : D.drop r = D[r] :: D.drop (r + 1) := List.drop_eq_getElem_cons hrl
    have hd? : (intsL D)[((r : Nat) : Int).toNat]? = some (.int ((D[r] : Nat) : Int)) := by unfold intsL; simp [hrl]
    generalize hd : D[r] = d at e3 hd?
    have el := readFrom_length (D.drop (r + 1)) (r + 1)
    have ell : (readFrom (r + 1) (D.drop (r + 1))).length ≤ 1000 := by rw [el, List.length_drop]; (first | lia | omega)
    simp only [e1, e2]
    generalize hW : readFrom (r + 1) (D.drop (r + 1)) = W at ell
    have hlW : (intsL W).length = W.length := by unfold intsL; simp
    have hlD : (intsL D).length < 2 ^ 62 := by rw [hlen]; (first | lia | omega)
    have elT : ((intsL W).take d).length ≤ 1000 := by rw [List.length_take, hlW]; (first | lia | omega)
    have elD : ((intsL W).drop d).length ≤ 1000 := by rw [List.length_drop, hlW]; (first | lia | omega)
    refine ex_at rfl ?_
    refine ex_local (kd hK (by kernel_rfl)) (ev_as (ev_slice (ev_unfl ev_n) pt_none (pt_some (ev_sub ev_n ev_n (it_list (x := .int (d : Nat)) (by (first | lia | omega)) hd? hlD))) pt_none (by decide) (by rw [hlW]; (first | lia | omega))) (congrArg PV.list (pickL_upto _ d))) rfl ?_
    refine ex_local (kd hK (by kernel_rfl)) (ev_bi (ld_bi (kd hK (by kernel_rfl)) (gm_len _) bb_len) (evs_cons ev_n evs_nil) (bi_len_list (by (first | lia | omega))) (Nat.le_refl _)) rfl ?_
    refine ex_local (kd hK (by kernel_rfl)) (ev_fn def_concat (ld_glob (kd hK (by kernel_rfl)) (gm_concat _)) (evs_cons ev_n (evs_cons (ev_list (l := [.int ((r : Nat) : Int)]) (evs_cons ev_n evs_nil) (by simp)) evs_nil)) (fn_concat (by simp only [List.length_singleton]; (first | lia | omega))) (Nat.le_refl _)) rfl ?_
    refine ex_if_not (tr_cmp (ev_bi (ld_bi (kd hK (by kernel_rfl)) (gm_len _) bb_len) (evs_cons ev_n evs_nil) (bi_len_list (by (first | lia | omega))) (Nat.le_refl _)) ev_n (cm_as cm_ne_int (by simp))) ?_
    refine ex_localN (kd hK (by kernel_rfl)) (evn_fn def_concat (ld_glob (kd hK (by kernel_rfl)) (gm_concat _)) (evs_cons ev_n (evs_cons (ev_as (ev_slice (ev_unfl ev_n) (pt_some (ev_sub ev_n ev_n (it_list (x := .int (d : Nat)) (by (first | lia | omega)) hd? hlD))) pt_none pt_none (by decide) (by rw [hlW]; (first | lia | omega))) (congrArg PV.list (pickL_from _ d))) evs_nil))
      (fnn_concat (by simp only [List.length_append, List.length_singleton]; (first | lia | omega))) (Nat.le_refl _)) rfl ?_
    have eW : intsL (readFrom r (D.drop r)) = (intsL W).take d ++ [PA.int ((r : Nat) : Int)] ++ (intsL W).drop d := by
      rw [e3, readFrom, hW]; unfold intsL; simp [List.map_take, List.map_drop]
    rw [eW]
    exact ex_nil fun s' f => f.fewer (sub_cons (sub_cons sub_nil)).all
  · rw [hsz, Int.toNat_natCast]
    simp only [List.length_map, List.length_range, Nat.sub_self, List.drop_zero]
    refine ⟨fun A' E' s₁ a' f => wpAny_execs_cons (wpAny_Return_some (wpAny_mono ((ev_n (n := "word") (d := .fl s.heap (intsL (readFrom 0 D)))).run s A' E' s₁ a' f) (fun v s' x => ?_) fun _ _ x => x))⟩
    refine ⟨⟨kp_trans f.keep x.1, x.2.unfl.sub hS, ?_⟩, kp_x x.1 _⟩
    cases x.2 using Rep.cFl with | fl _ _ _ hb => exact ⟨_, rfl, hb⟩⟩
end Mine
end

section
set_option maxRecDepth 100000
set_option linter.unusedVariables false
set_option linter.unusedSimpArgs false
namespace Mine
open PySem PySem.W PySem.Calls PyProof.Rows

/-- entries of a set of ints, and which ints -/
noncomputable def esInts : List (Int × Value) → Option (List Int)
  | [] => some []
  | (h, .int i t) :: r => if h == hashInt i && (Value.int i t).scannable then (esInts r).map (i :: ·) else none
  | _ => none
theorem esInts_spec {prog : Program} {w : World} : ∀ {es : List (Int × Value)} {l : List Int}, esInts es = some l → ElemsOf (intKind prog w) es ∧ ∀ k, (k ∈ l) ↔ ∃ e ∈ es, (intKind prog w).is k e.2 = true
  | [], l, h => by
    cases h
    exact ⟨(fun e h => nomatch h), fun k => ⟨(fun h => nomatch h), (fun ⟨_, h, _⟩ => nomatch h)⟩⟩
  | (h, .int i t) :: r, l, hh => by
    unfold esInts at hh
    split at hh
    · rename_i q
      obtain ⟨l', h1, rfl⟩ := Option.map_eq_some_iff.mp hh
      obtain ⟨q1, q2⟩ := Bool.and_eq_true_iff.mp q
      obtain ⟨i1, i2⟩ := esInts_spec (prog := prog) (w := w) h1
      refine ⟨fun e he => ?_, fun k => ⟨fun hk => ?_, fun ⟨e, he, hk⟩ => ?_⟩⟩
      · rcases List.mem_cons.mp he with rfl | he
        · exact ⟨⟨i, intKind_is _ _ _ _, (by simpa using q1 : h = hashInt i)⟩, q2⟩
        · exact i1 e he
      · rcases List.mem_cons.mp hk with rfl | hk
        · exact ⟨_, List.mem_cons_self, intKind_is _ _ _ _⟩
        · obtain ⟨e, he, h3⟩ := (i2 k).mp hk
          exact ⟨e, List.mem_cons_of_mem _ he, h3⟩
      · rcases List.mem_cons.mp he with rfl | he
        · have : i = k := by simpa [intKind, Value.isInt] using hk
          rw [← this]; exact List.mem_cons_self
        · exact List.mem_cons_of_mem _ ((i2 k).mpr ⟨e, he, hk⟩)
    · cases hh
noncomputable def setSeen : Option Obj → Option (List Int)
  | some ⟨.type "set", none, .set es _ t, sl⟩ => if sl.size == 0 && t.fits es.size && decide (es.size < scanBound) then esInts es.toList else none
  | _ => none
theorem set_seen : ∀ P : Params, setSeen ((T25 P).get 91) = some [65024, 65025, 65026, 65027, 65028, 65029, 6150, 65030, 65031, 65032, 65033, 6155, 6156, 6157, 8203, 8204, 8205, 65034, 65035, 65036, 65037, 65038, 65039, 173, 847, 8288, 65279] := by intro P; kernel_rfl

noncomputable def b1L : List Int := [65024, 65025, 65026, 65027, 65028, 65029, 6150, 65030, 65031, 65032, 65033, 6155, 6156, 6157, 8203, 8204, 8205, 65034, 65035, 65036, 65037, 65038, 65039, 173, 847, 8288, 65279]
theorem b1_set {w : World} {h : Heap} (st : Stays w.params h) : ∃ n, h.SetOf (intKind p0 w) 91 (fun k => decide (k ∈ b1L)) n := by
  have e := set_seen w.params
  cases ho : (T25 w.params).get 91 with
  | none => rw [ho] at e; exact nomatch e
  | some o =>
    rw [ho] at e
    obtain ⟨cls, dict, data, sl⟩ := o
    unfold setSeen at e
    split at e
    · rename_i es ep t sl' heq
      cases heq
      split at e
      · rename_i q
        obtain ⟨q1, q2⟩ := Bool.and_eq_true_iff.mp q
        obtain ⟨q1, q3⟩ := Bool.and_eq_true_iff.mp q1
        obtain ⟨i1, i2⟩ := esInts_spec (prog := p0) (w := w) e
        refine ⟨_, _, es, ep, t, st.obj ho (by decide) rfl, ⟨rfl, rfl, by simpa using q1⟩, rfl, i1, fun k => ?_, of_decide_eq_true q2, q3, rfl⟩
        rw [decide_eq_true_iff]; exact i2 k
      · cases e
    · cases e
section
variable {w : World} {k : Nat} {S : List Addr} {env : Env} {G : Gam}
theorem ev_in_b1 {l r : Expr} {pos : Pos} {i : Int} (h₁ : Ev w k S env G l (.at (.int i))) (h₂ : Ld w k S env G r (.ref 91)) (hm : behindInMarks .In r = false := by with_unfolding_all rfl) : Ev w k S env G (.Compare l [.In] [r] pos) (.at (.bool (decide (i ∈ b1L)))) := ⟨fun s₀ A E s ha f => by
  refine wpAny_Compare1 (wpAny_mono (h₁.run s₀ A E s ha f) (fun v s₁ x => wpAny_mono (h₂.run s₀ A E s₁ ha (f.keeps x.1)) (fun v₂ s₂ y => ?_) fun _ _ x => x) fun _ _ x => x) hm
  obtain ⟨rfl, k2⟩ := y
  obtain ⟨n, hS⟩ := b1_set ((f.keeps x.1).keeps k2).st
  cases x.2 using Rep.cAt with | «at» r =>
    (first | cases r using Atom.cInt | cases r using Atom.cStr | cases r using Atom.cBool | cases r using Atom.cNone | cases r)
    exact wpAny_inSet_of (k := i) (intKind_is _ _ _ _) rfl hS ⟨kp_trans x.1 (kp_trans k2 kp_tok), .at (.bool _)⟩⟩
end
theorem fn_b1 {w : World} {c : Nat} : Fn w 1 101 [.at (.str [c])] (.at (.bool (decide ((c : Int) ∈ b1L)))) := by
  refine fn_of def_in_table_b1 (by decide +kernel) rfl fun s S env bd => ?_
  dsimp only [List.zip, List.zipWith]
  have hK := ns_of bd
  refine ex_at (by unfold fB; exact rfl) ?_
  exact ex_ret (ev_in_b1 (ev_bi (ld_bi (kd hK (by kernel_rfl)) (gm_ord _) bb_ord) (evs_cons ev_n evs_nil) bi_ord (Nat.le_refl _)) (ld_glob (kd hK (by kernel_rfl)) (gm_b1 _))) rep_out
end Mine
end

section
set_option maxRecDepth 100000
set_option linter.unusedVariables false
set_option linter.unusedSimpArgs false
namespace Mine
open PySem PySem.W PySem.Calls PyProof.Rows

/-! the table of case folding -/
inductive EntsAre : List DictEntry → List (Int × Str) → Prop
  | nil : EntsAre [] []
  | cons {h k t x u es l} : h = hashInt k → EntsAre es l → EntsAre (⟨h, .int k t, .str x u⟩ :: es) ((k, x) :: l)
theorem entsL_are : ∀ (l : List (Int × Str)) (t : Nat), EntsAre (entsL t l) l
  | [], _ => .nil
  | (k, x) :: r, t => .cons rfl (entsL_are r _)
theorem entsS_are : ∀ (l : List (Int × Str)) (t : Nat), EntsAre (entsS t l) l
  | [], _ => .nil
  | (k, x) :: r, t => .cons rfl (entsS_are r _)
theorem EntsAre.app : ∀ {es es' : List DictEntry} {l l' : List (Int × Str)}, EntsAre es l → EntsAre es' l' → EntsAre (es ++ es') (l ++ l')
  | _, _, _, _, .nil, h => h
  | _, _, _, _, .cons e t, h => .cons e (EntsAre.app t h)
theorem EntsAre.find : ∀ {es : List DictEntry} {l : List (Int × Str)}, EntsAre es l → ∀ k : Int, (∃ x u, (es.find? fun e => Value.isInt k e.key).map (·.val) = some (.str x u) ∧ (l.find? fun p => p.1 == k).map (·.2) = some x) ∨
    ((es.find? fun e => Value.isInt k e.key).map (·.val) = none ∧ (l.find? fun p => p.1 == k).map (·.2) = none)
  | _, _, .nil, k => .inr ⟨rfl, rfl⟩
  | _, _, .cons (k := j) (t := t) (x := x) (u := u) e tl, k => by
    by_cases q : j = k
    · subst q
      exact .inl ⟨x, u, by simp [Value.isInt], by simp⟩
    · have h1 : Value.isInt k (.int j t) = false := by simp [Value.isInt, q]
      have h2 : (j == k) = false := by simpa using q
      rcases EntsAre.find tl k with ⟨x', u', h3, h4⟩ | ⟨h3, h4⟩
      · exact .inl ⟨x', u', by rw [List.find?_cons, h1]; exact h3, by rw [List.find?_cons]; simp only [h2]; exact h4⟩
      · exact .inr ⟨by rw [List.find?_cons, h1]; exact h3, by rw [List.find?_cons]; simp only [h2]; exact h4⟩
theorem EntsAre.keys : ∀ {es : List DictEntry} {l : List (Int × Str)}, EntsAre es l → ∀ e ∈ es, ∃ k t, e.key = .int k t ∧ e.hash = hashInt k
  | _, _, .nil, _, h => nomatch h
  | _, _, .cons e tl, d, h => by
    rcases List.mem_cons.mp h with rfl | h
    · exact ⟨_, _, rfl, e⟩
    · exact EntsAre.keys tl d h

theorem b3_at (P : Params) : (T25 P).get 102 = some (dObj 0) := by kernel_rfl
theorem b3_ents : ∃ es ep, dObj 0 = ⟨.type "dict", none, .dict es ep, #[]⟩ ∧ EntsAre es.toList b3Data := by
  have h : dObj 0 = dictOf (entsL 466 (b3Data.take (17 * (b3Data.length / 17))) ++ entsS (466 + 51 * (b3Data.length / 17)) (b3Data.drop (17 * (b3Data.length / 17)))) b3Data.length := by
    unfold dObj dObjs; rfl
  rw [h]
  refine ⟨_, _, rfl, ?_⟩
  have h2 := (entsL_are (b3Data.take (17 * (b3Data.length / 17))) 466).app (entsS_are (b3Data.drop (17 * (b3Data.length / 17))) (466 + 51 * (b3Data.length / 17)))
  rw [List.take_append_drop] at h2
  simpa using h2
noncomputable def b3Get (c : Int) : Option Str := (b3Data.find? fun p => p.1 == c).map (·.2)
theorem b3_map {w : World} {h : Heap} (st : Stays w.params h) : ∃ f, h.MapOf (intKind p0 w) 102 f ∧ ∀ c : Int, (∃ x u, f c = some (.str x u) ∧ b3Get c = some x) ∨ (f c = none ∧ b3Get c = none) := by
  obtain ⟨es, ep, e, he⟩ := b3_ents
  have ho := st.obj (b3_at w.params) (by decide) (by rw [e]; rfl)
  rw [e] at ho
  refine ⟨fun k => findBy (intKind p0 w).is es k, ⟨_, es, ep, ho, ⟨rfl, rfl, rfl⟩, rfl, fun d hd => ?_, fun k => rfl⟩, fun c => ?_⟩
  · obtain ⟨k, t, h1, h2⟩ := he.keys d (by simpa using hd)
    exact ⟨k, by rw [h1]; exact intKind_is _ _ _ _, h2⟩
  · have := he.find c
    unfold b3Get
    obtain ⟨l⟩ := es
    simpa [findBy, intKind] using this

noncomputable def b3PV (c : Int) : PV := match b3Get c with
  | some x => .at (.str x.cps.toList)
  | none => .at .none
section
variable {w : World} {k : Nat} {S : List Addr} {env : Env} {G : Gam}
theorem ev_b3get {o e : Expr} {apos pos : Pos} {c : Int} (ho : Ld w k S env G o (.ref 102)) (he : Ev w k S env G e (.at (.int c))) (hbase : attributeBase o "get" env (eval o env) = eval o env) (hline : (apos.endLine == pos.line) = true)
    (hs : starEach [e] env = [(false, eval e env)] := by rfl) : Ev w k S env G (.Call (.Attribute o "get" apos) [e] [] pos) (b3PV c) := ⟨fun s₀ A E s ha f => by
  refine wpAny_Call_method_late (trees := [(false, eval e env)]) hbase (by rw [hs]; rfl) hline (by rw [hs]; rfl) (wpAny_mono (ho.run s₀ A E s ha f) (fun v s₁ x => ?_) fun _ _ x => x)
  obtain ⟨rfl, k1⟩ := x
  have f1 := f.keeps k1
  obtain ⟨g, hm, _⟩ := b3_map f1.st
  refine ⟨"dict", "dict.get", F.plainAttrs_dict, F.slot_dict_get, F.type_dict_get, hm.typeIs, hm.noDict, wpAny_dict_get1 (knd := intKind p0 w) (by decide) (wpAny_mono (he.run s₀ A E s₁ ha f1) (fun v s₂ x => ?_) fun _ _ x => x)⟩
  have f2 := f1.keeps x.1
  obtain ⟨g, hm, hg⟩ := b3_map f2.st
  cases x.2 using Rep.cAt with | «at» r =>
    (first | cases r using Atom.cInt | cases r using Atom.cStr | cases r using Atom.cBool | cases r using Atom.cNone | cases r)
    refine ⟨c, g, intKind_is _ _ _ _, hm, kp_trans k1 (kp_trans x.1 kp_tok), ?_⟩
    unfold b3PV
    rcases hg c with ⟨y, u, h1, h2⟩ | ⟨h1, h2⟩
    · rw [h1, h2]; exact .at (.ofStr y u)
    · rw [h1, h2]; exact .at .none⟩
theorem ev_lower {o : Expr} {apos pos : Pos} {l l' : List Nat} (ho : Ev w k S env G o (.at (.str l))) (hl : (Txt.lower (T_ l)).cps.toList = l') (hsz : l'.length ≤ 2 ^ 24) (hbase : attributeBase o "lower" env (eval o env) = eval o env) (hline : (apos.endLine == pos.line) = true) :
    Ev w k S env G (.Call (.Attribute o "lower" apos) [] [] pos) (.at (.str l')) := ⟨fun s₀ A E s ha f => by
  refine Call_method0 hbase hline (wpAny_mono (ho.run s₀ A E s ha f) (fun v s₁ x => ?_) fun _ _ x => x)
  cases x.2 using Rep.cAt with | «at» r =>
    (first | cases r using Atom.cInt | cases r using Atom.cStr | cases r using Atom.cBool | cases r using Atom.cNone | cases r)
    refine SB.lower ?_ ⟨kp_trans x.1 kp_tok, by rw [← hl]; exact .at (.ofStr _ _)⟩
    have : (Txt.lower (T_ l)).length = l'.length := by rw [← hl]; rfl
    rw [this]; unfold Builtin.Str.tooLong sizeLine; exact decide_eq_false (by (first | lia | omega))⟩
end
/-- one sign, folded -/
noncomputable def foldOf (c : Nat) : List Nat := match b3Get c with
  | some x => x.cps.toList
  | none => (Txt.lower (T_ [c])).cps.toList
theorem fn_b3 {w : World} {c : Nat} (hsz : (foldOf c).length ≤ 1000) : Fn w 1 147 [.at (.str [c])] (.at (.str (foldOf c))) := by
  refine fn_of def_map_table_b3 (by decide +kernel) rfl fun s S env bd => ?_
  dsimp only [List.zip, List.zipWith]
  have hK := ns_of bd
  refine ex_at (by unfold fB; exact rfl) ?_
  refine ex_local (d := b3PV c) (kd hK (by kernel_rfl)) (ev_b3get (ld_glob (kd hK (by kernel_rfl)) (gm_b3 _)) (ev_bi (ld_bi (kd hK (by kernel_rfl)) (gm_ord _) bb_ord) (evs_cons ev_n evs_nil) bi_ord (Nat.le_refl _)) rfl rfl) rfl ?_
  cases h : b3Get c with
  | some x =>
    have e : b3PV c = .at (.str x.cps.toList) := by unfold b3PV; rw [h]
    have e2 : foldOf c = x.cps.toList := by unfold foldOf; rw [h]
    rw [e, e2]
    refine ex_if_ret (tr_cmp ev_n ev_none cm_isnot_none_str) (ex_ret ev_n rep_out) fun _ h => nomatch h.2
  | none =>
    have e : b3PV c = .at .none := by unfold b3PV; rw [h]
    have e2 : foldOf c = (Txt.lower (T_ [c])).cps.toList := by unfold foldOf; rw [h]
    rw [e]
    refine ex_if_not (tr_cmp ev_n ev_none cm_isnot_none_none) ?_
    exact ex_ret (ev_lower (l := [c]) ev_n e2.symm (by (first | lia | omega)) rfl rfl) rep_out
end Mine
end

section
set_option maxRecDepth 100000
set_option linter.unusedVariables false
set_option linter.unusedSimpArgs false
namespace Mine
open PySem PySem.W PySem.Calls PyProof.Rows

section
variable {w : World} {k : Nat} {S : List Addr} {env : Env} {G : Gam}
noncomputable def SignT (m : Nat) (l : List Nat) (j : Nat) (v : Value) : Prop := ∃ c t, l[j]? = some c ∧ m ≤ t ∧ v = .str (T_ [c]) t
theorem wks_ascii {m : Nat} {A : Around} (hh : A.handled = none) (I : Addr) (l : List Nat) (t : Tok) : Wks w m A I [I] l.length (SignT m l) (fun i h => h.IsStrIter I "str_ascii_iterator" (T_ l) t i) where
  frame := (Walks.strAscii (prog := p0) (w := w) hh I (T_ l) t).frame
  item := fun i s Q E ht hi st hQ => by
    refine wpAny_pyNext_ascii_item st (c := l[i]) (by simp [T_, hi]) fun h' hit' hs' => ?_
    exact hQ _ h' (s.toks + 1) ⟨_, _, by simp [hi], ht, rfl⟩ hit' fun b o hb e => hs'.extBut b o (fun h => hb (by simp [h])) e
  done := fun s Q E st hQ => (Walks.strAscii (prog := p0) (w := w) hh I (T_ l) t).done s Q E (by simpa [T_] using st) hQ
  self := (Walks.strAscii (prog := p0) (w := w) hh I (T_ l) t).self
theorem wks_wide {m : Nat} {A : Around} (hh : A.handled = none) (I : Addr) (l : List Nat) (t : Tok) : Wks w m A I [I] l.length (SignT m l) (fun i h => h.IsStrIter I "str_iterator" (T_ l) t i) where
  frame := (Walks.strWide (prog := p0) (w := w) hh I (T_ l) t).frame
  item := fun i s Q E ht hi st hQ => by
    refine wpAny_pyNext_wide_item st (c := l[i]) (by simp [T_, hi]) fun h' hit' hs' => ?_
    exact hQ _ h' (s.toks + 1) ⟨_, _, by simp [hi], ht, rfl⟩ hit' fun b o hb e => hs'.extBut b o (fun h => hb (by simp [h])) e
  done := fun s Q E st hQ => (Walks.strWide (prog := p0) (w := w) hh I (T_ l) t).done s Q E (by simpa [T_] using st) hQ
  self := (Walks.strWide (prog := p0) (w := w) hh I (T_ l) t).self
theorem itr_strGE {m : Nat} {l : List Nat} : Itr w m (.at (.str l)) (l.map fun c => PV.at (.strGE [c] m)) := ⟨fun A E S s v hA r hlow => by
  cases r using Rep.cAt with | «at» r =>
    (first | cases r using Atom.cInt | cases r using Atom.cStr | cases r using Atom.cBool | cases r using Atom.cNone | cases r)
    rename_i t
    have sign : ∀ j v, j < (l.map fun c => PV.at (.strGE [c] m)).length → SignT m l j v → ∃ x, (l.map fun c => PV.at (.strGE [c] m))[j]? = some x ∧ Rep S s.heap v x := fun j v _ hv => by
      obtain ⟨c, u, hc, hu, rfl⟩ := hv
      exact ⟨.at (.strGE [c] m), by simp [hc], .at (.strGE [c] u m hu)⟩
    have e0 : (l.map fun c => PV.at (.strGE [c] m)).length = l.length := by simp
    refine wpAny_pyIter_strU ?_
    cases ha : (T_ l).cps.all (· < 128)
    · refine ⟨s.heap.objs.size, [s.heap.objs.size], _, _, rfl, fresh_none, fun i h st => ?_, fun b hb => .inl (by simpa using hb), fun b hb => ?_, fun A' hA' => e0.symm ▸ wks_wide hA' s.heap.objs.size l t, sign, ⟨_, Heap.get?_push_size _ rfl, by simp [strIterType, ha], rfl⟩, kp_push⟩
      · obtain ⟨o, ho, hc, _⟩ := st
        exact ⟨o, ho, fun n hn => by rw [hc] at hn; cases hn; decide⟩
      · simp at hb; subst hb; exact fresh_off hlow
    · refine ⟨s.heap.objs.size, [s.heap.objs.size], _, _, rfl, fresh_none, fun i h st => ?_, fun b hb => .inl (by simpa using hb), fun b hb => ?_, fun A' hA' => e0.symm ▸ wks_ascii hA' s.heap.objs.size l t, sign, ⟨_, Heap.get?_push_size _ rfl, by simp [strIterType, ha], rfl⟩, kp_push⟩
      · obtain ⟨o, ho, hc, _⟩ := st
        exact ⟨o, ho, fun n hn => by rw [hc] at hn; cases hn; decide⟩
      · simp at hb; subst hb; exact fresh_off hlow⟩
theorem statics_ns (P : Params) : (absHeap (T25 P) 207 {}).isNs cStatics = true := by kernel_rfl
theorem statics_booked (P : Params) : (absHeap (T25 P) 207 {}).nsMap cStatics sharingNotToldKey = none := by kernel_rfl
theorem booked {P : Params} {h : Heap} (st : Stays P h) : NoneBooked h := ⟨_, (Heap.Ns.of_isNs (statics_ns P)).keeps st, statics_booked P⟩

/-- one is the other, or is equal to it -/
theorem tr_is_or_eq {m : Nat} {x y x' y' : Expr} {p q r : Pos} {a b : List Nat} (hx : Ev w k S env G x (.at (.strGE a m))) (hy : Ev w k S env G y (.at (.strLT b m))) (hx' : Ev w k S env G x' (.at (.strGE a m))) (hy' : Ev w k S env G y' (.at (.strLT b m))) (h1 : behindInMarks .Is y = false := by with_unfolding_all rfl) (h2 : behindInMarks .Eq y' = false := by with_unfolding_all rfl) :
    Tr w k S env G (.BoolOp .Or [.Compare x [.Is] [y] p, .Compare x' [.Eq] [y'] q] r) (a == b) := ⟨fun s₀ A E s ha f => by
  rw [arm_isTrue_BoolOp, arm_allTrue_cons]
  refine wpAny_bind (wpAny_isTrue_Compare1 (wpAny_mono (hx.run s₀ A E s ha f) (fun v s₁ x₁ => wpAny_mono (hy.run s₀ A E s₁ ha (f.keeps x₁.1)) (fun v₂ s₂ y₁ => ?_) fun _ _ x => x) fun _ _ x => x) h1)
  have f2 := (f.keeps x₁.1).keeps y₁.1
  have k2 := kp_trans x₁.1 y₁.1
  cases x₁.2 using Rep.cAt with | «at» r₁ =>
    cases r₁ with | strGE _ t _ ht =>
      cases y₁.2 using Rep.cAt with | «at» r₂ =>
        cases r₂ with | strLT _ u _ hu hum =>
          have second : wpAny (model p0 w) A (allTrue .Or [.Compare x' [.Eq] [y'] q] env) (fun v s' => v = (a == b) ∧ Kp s s') E s₂ := by
            have hh := (als_or (w := w) (k := k) (S := S) (env := env) (G := G) (es := []) (c := false) (tr_cmp (pos := q) hx' hy' (⟨fun A E S s v₁ v₂ hA st r₁ r₂ => by
              cases r₁ using Rep.cAt with | «at» r₁ => (first | cases r₁ using Atom.cInt | cases r₁ using Atom.cStr | cases r₁ using Atom.cBool | cases r₁ using Atom.cNone | cases r₁); cases r₂ using Rep.cAt with | «at» r₂ => (first | cases r₂ using Atom.cInt | cases r₂ using Atom.cStr | cases r₂ using Atom.cBool | cases r₂ using Atom.cNone | cases r₂); exact P.eq_str ⟨rfl, kp_refl _⟩⟩ : Cm w k .Eq (.at (.strGE a m)) (.at (.strLT b m)) (a == b)) h2) (fun _ => als_nil)).run s₀ A E s₂ ha f2
            exact wpAny_mono hh (fun v s' z => ⟨by rw [z.1, Bool.or_false], kp_trans k2 z.2⟩) fun _ _ z => z
          have h0 : (t == 0 || u == 0) = false := by
            have : t ≠ 0 := fun q => by subst q; exact absurd hum (by (first | lia | omega))
            simp [this, hu]
          show wpAny _ A (isSame (.str (T_ a) t) (.str (T_ b) u) >>= fun r => pure (Value.bool r)) _ _ _
          by_cases hab : a = b
          · subst hab
            refine wpAny_bind (wpAny_isSame_str h0 (booked f2.st) fun c => wpAny_pure (wpAny_truthy_bool ?_))
            cases c with
            | true => exact wpAny_pure ⟨by simp, k2⟩
            | false => exact second
          · have hne : (T_ a == T_ b) = false := by
              refine beq_eq_false_iff_ne.mpr fun q => hab ?_
              have := congrArg (fun z : Str => z.cps.toList) q
              simpa [T_] using this
            have htu : (t == u) = false := beq_eq_false_iff_ne.mpr fun q => by subst q; (first | lia | omega)
            rw [isSame_str_other (T_ a) (T_ b) t u h0 htu hne]
            exact wpAny_bind (wpAny_pure (wpAny_pure (wpAny_truthy_bool second)))⟩
theorem ex_aug_add {s₀ : Shared} {X : List Addr} {Q : Flow → Shared → Prop} {n : Str} {p pos : Pos} {e : Expr} {rest : List Stmt} {a b : Int} (hk : env.kindOf n = some .local) (h0 : Ev w k S env G (.Name n p) (.at (.int a))) (h0' : G.lookup n = some (.at (.int a))) (h : Ev w k S env G e (.at (.int b)))
    (h' : Ex w k s₀ X S env ((n, .at (.int (a + b))) :: G) rest Q) : Ex w k s₀ X S env G (.AugAssign (.Name n p) .Add e pos :: rest) Q := ⟨fun A E s ha f => by
  obtain ⟨v, hv, r⟩ := f.has n _ h0'
  refine wpAny_execs_cons (wpAny_AugAssign_Name (load_held f.fn hv (wpAny_mono (h.run s₀ A E s ha f) (fun v₂ s₁ x => ?_) fun _ _ x => x)))
  cases r using Rep.cAt with | «at» r =>
    (first | cases r using Atom.cInt | cases r using Atom.cStr | cases r using Atom.cBool | cases r using Atom.cNone | cases r)
    cases x.2 using Rep.cAt with | «at» r₂ =>
      (first | cases r₂ using Atom.cInt | cases r₂ using Atom.cStr | cases r₂ using Atom.cBool | cases r₂ using Atom.cNone | cases r₂)
      refine wpAny_mono (Q := fun v s' => Kp s s' ∧ Rep S s'.heap v (.at (.int (a + b)))) (PySem.AutoIntOps.iadd_0 ⟨kp_trans x.1 kp_tok, .at (.int _ _)⟩) (fun v₃ s₂ y => ?_) fun _ _ x => x
      exact store_local (f.keeps y.1) hk y.2 fun s'' f' kx _ => ex_then h' ha f' ((kp_x y.1 _).trans (kx.mono loc_mut))⟩
end
noncomputable def countL (l : List Nat) (c : Nat) : Nat := (l.filter (· == c)).length
theorem call_count {w : World} {l : List Nat} {c m : Nat} {A : Around} {E : Value → Shared → Prop} {S : List Addr} {s : Shared} {vs : List Value} (hA : AOk 2 A) (hst : Stays w.params s.heap) (hg : s.gens = #[]) (htk : 0 < s.toks) (hlow : ∀ b ∈ S, ∃ o, s.heap.get? b = some o)
    (hp : Paired (Rep S s.heap) vs [.at (.str l), .at (.strLT [c] m)]) (hm : m ≤ s.toks) : wpAny (model p0 w) A (PySem.call (.ref 52) vs) (fun v s' => Kp s s' ∧ Rep S s'.heap v (.at (.int (countL l c)))) E s := by
  refine fn_run def_countOf (by decide +kernel) rfl hA hst hg htk hlow hp fun S' env bd hS => ?_
  dsimp only [List.zip, List.zipWith]
  have hK := ns_of bd
  refine ex_at (by unfold fB; exact rfl) ?_
  refine ex_local (kd hK (by kernel_rfl)) ev_int rfl ?_
  refine ex_for (m := m) (Γ := fun j => [("count", .at (.int ((countL (l.take j) c : Nat) : Int))), ("b", .at (.strLT [c] m))])
    (Γa := fun j => [("i", .at (.strGE [l.getD j 0] m)), ("count", .at (.int ((countL (l.take j) c : Nat) : Int))), ("b", .at (.strLT [c] m))]) (fun _ h => nomatch h) bd.cellMem
    ev_n itr_strGE ?_ ?_ ?_ ?_ hm
  · intro n d h
    have h2 : List.lookup n [((Str.ofString "count"), PV.at (PA.int 0)), (Str.ofString "b", PV.at (PA.strLT [c] m))] = some d := by simpa [countL] using h
    exact (sub_cons (sub_cons sub_nil)).all n d h2
  · intro i x hx S''
    have hi : i < l.length := by
      have := (List.getElem?_eq_some_iff.mp hx).1
      simpa using this
    obtain rfl : x = .at (.strGE [l.getD i 0] m) := by
      simp [hi] at hx
      rw [← hx]; simp [hi]
    exact asg_name (kd hK (by kernel_rfl))
  · intro i x hx S'' hS''
    have hi : i < l.length := by
      have := (List.getElem?_eq_some_iff.mp hx).1
      simpa using this
    have e : (countL (l.take (i + 1)) c : Int) = (countL (l.take i) c : Int) + (if ([l.getD i 0] == [c]) = true then 1 else 0) := by
      rw [List.take_add_one]
      unfold countL
      rw [List.filter_append, List.length_append]
      simp [hi]
      by_cases h : l[i] = c <;> simp [h]
    refine ex_at rfl ?_
    dsimp only
    refine ex_if (Q' := NextQ w s S'' env [("count", .at (.int ((countL (l.take (i + 1)) c : Nat) : Int))), ("b", .at (.strLT [c] m))]) (c := [l.getD i 0] == [c]) ?_ (fun hc => ?_) (fun hc => ?_) (fun f s' x n => (n x.1).elim) (fun s' x => x.2) ?_
    · exact tr_is_or_eq ev_n ev_n ev_n ev_n
    · refine ex_at rfl ?_
      refine ex_aug_add (b := 1) (kd hK (by kernel_rfl)) ev_n (by repeat (first | with_reducible exact lk_here | (apply lk_there; decide +kernel))) ev_int ?_
      rw [e, if_pos hc]
      exact ex_nil fun s' f => ⟨rfl, f.fewer (sub_cons (sub_cons sub_nil)).all⟩
    · rw [e, if_neg (by rw [hc]; decide), Int.add_zero]
      exact ex_nil fun s' f => ⟨rfl, f.fewer (sub_cons (sub_cons sub_nil)).all⟩
    · exact ex_nil fun s' f => f
  · refine ex_at rfl ?_
    have el : ((l.map fun c => PV.at (.strGE [c] m)).length) = l.length := by simp
    rw [el, List.take_length]
    exact ex_ret ev_n fun v s' a b => ⟨a, b.sub hS⟩
section
variable {w : World} {k : Nat} {S : List Addr} {env : Env} {G : Gam}
/-- how often a sign stands in a str, the sign written out -/
theorem ev_count {fe e : Expr} {x : Str} {j} {p pos : Pos} {l : List Nat} {c : Nat} (hl : Ld w k S env G fe (.ref 52)) (h : Ev w k S env G e (.at (.str l))) (hx : x.cps.toList = [c]) (hk : 2 ≤ k)
    (he : starEach [e, .Constant (.str x) j p] env = (false, eval e env) :: starEach [.Constant (.str x) j p] env := by rfl) (he2 : starEach [.Constant (.str x) j p] env = (false, eval (.Constant (.str x) j p) env) :: starEach [] env := by rfl)
    (hc : eval (.Call fe [e, .Constant (.str x) j p] [] pos) env = (do callWith pos (← eval fe env) [] (backTo pos (starEach [e, .Constant (.str x) j p] env)) (backToKw pos (keywordEach [] env))) := by rfl) : Ev w k S env G (.Call fe [e, .Constant (.str x) j p] [] pos) (.at (.int (countL l c))) := ⟨fun s₀ A E s ha f => by
  refine Call_ (wpAny_mono (hl.run s₀ A E s ha f) (fun v s₁ x₁ => ?_) fun _ _ x => x) hc
  obtain ⟨rfl, k1⟩ := x₁
  refine callWith_def (o := fnObj (sx [99, 111, 117, 110, 116, 79, 102]) 4 mdOp 51) (fd := fdOf (sx [99, 111, 117, 110, 116, 79, 102]) 4 mdOp 51) rfl (args_cons (wpAny_mono (h.run s₀ A E s₁ ha (f.keeps k1)) (fun v s₂ y => ?_) fun _ _ x => x) he) he
  refine args_cons (Constant_str (args_nil ?_)) he2
  have f2 := ((f.keeps k1).keeps y.1).keeps kp_tok
  refine ⟨f2.st.obj (def_countOf.obj _) def_countOf.lt rfl, wpAny_mono (call_count (m := s₂.toks + 1) (l := l) (c := c) (S := S) (ha.mono hk) f2.st f2.gen f2.tk f2.low (.cons (y.2.keep (kp_x kp_tok S)) (.cons (.at ?_) .nil)) (Nat.le_refl _)) (fun v s₃ z => ⟨kp_trans k1 (kp_trans y.1 (kp_trans kp_tok z.1)), z.2⟩) fun _ _ x => x⟩
  have : x = T_ [c] := by
    obtain ⟨⟨l'⟩⟩ := x
    obtain rfl : l' = [c] := hx
    rfl
  rw [this]
  exact .strLT _ _ _ (Nat.pos_iff_ne_zero.mp ((f.keeps k1).keeps y.1).tk) (Nat.lt_succ_self _)⟩
end
end Mine
end

section
set_option maxRecDepth 100000
set_option linter.unusedVariables false
set_option linter.unusedSimpArgs false
namespace Mine
open PySem PySem.W PySem.Calls PyProof.Rows

/-! a list that is changed: its address is known -/
theorem sameBut_x {W : Addr} {h h' : Heap} (hs : Heap.SameBut W h h') : KeepX [W] h h' := fun b o hb e => hs.extBut b o (fun q => hb (by simp [q])) e
theorem setItem_plain {prog : Program} {w : World} {A : Around} {E : Value → Shared → Prop} {s : Shared} {W : Addr} {items : Array Value} {i : Int} {t : Tok} {v : Value} {Q : Unit → Shared → Prop} (hl : s.heap.PlainList W items) (h0 : 0 ≤ i) (hn : i.toNat < items.size) (hfit : i < 2 ^ 63)
    (hQ : ∀ h', h'.PlainList W (items.setIfInBounds i.toNat v) → KeepX [W] s.heap h' → Q () { s with heap := h' }) : wpAny (model prog w) A (setItem (.ref W) (.int i t) v) Q E s := by
  obtain ⟨n, ho⟩ := hl
  have hT : s.TypeIs (.ref W) "list" := ⟨_, ho, rfl⟩
  obtain ⟨x, hx⟩ : ∃ x, items[i.toNat]? = some x := ⟨_, Array.getElem?_eq_getElem hn⟩
  have em : Obj.mapSeq (·.setIfInBounds i.toNat v) { cls := .type "list", data := .seq items n } = { cls := .type "list", data := .seq (items.setIfInBounds i.toNat v) n } := by simp [Obj.mapSeq]
  have hfin : (s.heap.update W (Obj.mapSeq (·.setIfInBounds i.toNat v))).PlainList W (items.setIfInBounds i.toNat v) := ⟨n, by rw [Heap.get?_update_self _ ho (by rw [em]; rfl), em]⟩
  have last := hQ _ hfin (sameBut_x (Heap.SameBut.update ..))
  unfold setItem
  try with_reducible refine wpAny_holding ?_
  first | refine wpAny_bind (wpAny_pure ?_) | skip
  refine wpAny_bind (wpAny_sequenceKey hT (by decide) ?_)
  refine wpAny_bind (wpAny_callSpecial?_slot (name := Str.ofString "__setitem__") hT slot_list_setitem (wpAny_call_entry slot_list_setitem hT entry_list_setitem ?_ (args_list_setitem _ _ _)))
  show wpAny _ _ (Builtin.List.listSubscript? (.int i t) >>= _) _ _ s
  refine wpAny_bind (wpAny_listSubscript_int (fitsIndex_of h0 hfit) ?_)
  have e0 : ∃ j : Nat, i = (j : Int) ∧ i.toNat = j := ⟨i.toNat, (Int.toNat_of_nonneg h0).symm, rfl⟩
  clear hfit em hfin hQ
  obtain ⟨j, rfl, ej⟩ := e0
  rw [ej] at hx last hn
  show wpAny _ _ ((seqItemAt W j >>= fun r => pure (r.map (j, ·))) >>= _) _ _ s
  refine wpAny_bind (wpAny_bind (wpAny_seqItemAt ho rfl (wpAny_pure ?_)))
  rw [hx]
  show wpAny _ _ (setSeqItemAt W j v >>= _) _ _ s
  refine wpAny_bind (wpAny_setSeqItemAt ho rfl ?_)
  first
    | exact wpAny_bind (wpAny_pure (wpAny_pure ⟨.none, rfl, wpAny_pure last⟩))
    | exact wpAny_pure ⟨.none, rfl, wpAny_pure last⟩
theorem Paired.set {α β : Type} {F : α → β → Prop} {v : α} {x : β} (h : F v x) : ∀ {l₁ : List α} {l₂ : List β}, Paired F l₁ l₂ → ∀ j, Paired F (l₁.set j v) (l₂.set j x)
  | _, _, .nil, _ => .nil
  | _, _, .cons _ t, 0 => .cons h t
  | _, _, .cons a t, j + 1 => .cons a (Paired.set h t j)

inductive Off (W : Addr) : PV → Prop
  | at (x : PA) : Off W (.at x)
  | raw (v : Value) : Off W (.raw v)
  | la (b : Addr) (l : List PA) : b ≠ W → Off W (.la b l)
structure Offs (W : Addr) (n : Str) (G : Gam) : Prop where
  all : ∀ m d, m ≠ n → G.lookup m = some d → Off W d
theorem offs_nil {W : Addr} {n : Str} : Offs W n [] := ⟨fun _ _ _ h => nomatch h⟩
theorem offs_self {W : Addr} {n : Str} {d : PV} {G : Gam} (t : Offs W n G) : Offs W n ((n, d) :: G) := ⟨fun m e hm he => by
  have : (m == n) = false := by simpa using hm
  rw [List.lookup_cons, this] at he
  exact t.all m e hm he⟩
theorem offs_cons {W : Addr} {n m : Str} {d : PV} {G : Gam} (h : Off W d) (t : Offs W n G) : Offs W n ((m, d) :: G) := ⟨fun y e hy he => by
  rw [List.lookup_cons] at he
  cases q : y == m with
  | true => rw [q] at he; cases he; exact h
  | false => rw [q] at he; exact t.all y e hy he⟩
theorem offs_at {W : Addr} {n m : Str} {x : PA} {G : Gam} (t : Offs W n G) : Offs W n ((m, .at x) :: G) := offs_cons (.at x) t
theorem offs_la {W b : Addr} {n m : Str} {l : List PA} {G : Gam} (h : b ≠ W) (t : Offs W n G) : Offs W n ((m, .la b l) :: G) := offs_cons (.la b l h) t

theorem shape_of {b s s' : Shared} (k : Kp b s) (k' : Kp b s') : ∃ h tk, s' = { s with heap := h, toks := tk } := by
  obtain ⟨⟨h, t, rfl, _⟩, _⟩ := k
  obtain ⟨⟨h', t', rfl, _⟩, _⟩ := k'
  exact ⟨h', t', rfl⟩

namespace Fm
variable {w : World} {s₀ s s' : Shared} {S : List Addr} {env : Env} {G : Gam}
/-- names that lie off W, with W shut out too -/
theorem off (f : Fm w s₀ S env G s) {W : Addr} {G' : Gam} (hW : ∃ o, s.heap.get? W = some o) (hG : ∀ m d, G'.lookup m = some d → G.lookup m = some d ∧ Off W d) : Fm w s₀ (W :: S) env G' s := by
  have hhas : ∀ m d, G'.lookup m = some d → ∃ v, Held env s m v ∧ Rep (W :: S) s.heap v d := by
    intro m d e
    obtain ⟨e, o⟩ := hG m d e
    obtain ⟨v, hv, r⟩ := f.has m d e
    refine ⟨v, hv, ?_⟩
    cases o with
    | «at» x => cases r using Rep.cAt with | «at» r => exact .at r
    | raw v => cases r with | raw => exact .raw
    | la b l hb =>
      cases r with
      | la ha hl hp =>
        refine .la ?_ hl hp
        intro q
        rcases List.mem_cons.mp q with q | q
        · exact hb q
        · exact ha q
  have hlow : ∀ a ∈ W :: S, ∃ o, s.heap.get? a = some o := by
    intro a ha
    rcases List.mem_cons.mp ha with rfl | ha
    · exact hW
    · exact f.low a ha
  exact ⟨f.keep, f.stays, f.gens, f.tok, hlow, f.fn, f.glob, f.bi, f.own, List.mem_cons_of_mem _ f.locIn, fun n c hc => ⟨List.mem_cons_of_mem _ (f.cellIn n c hc).1, (f.cellIn n c hc).2⟩, f.cellOk, f.ns, hhas⟩
/-- the list that a name bears is changed -/
theorem write (f : Fm w s₀ S env G s) {W : Addr} {n : Str} {l l' : List PA} (hn : G.lookup n = some (.la W l)) (h0 : s₀.heap.get? W = none) (hs : ∃ h tk, s' = { s with heap := h, toks := tk }) (ht : s.toks ≤ s'.toks) (kx : KeepX [W] s.heap s'.heap)
    (hr : Rep S s'.heap (.ref W) (.la W l')) (hoff : Offs W n G) : Fm w s₀ S env ((n, .la W l') :: G) s' := by
  obtain ⟨v, hv, r⟩ := f.has n _ hn
  cases r using Rep.cLa with | la hWS hl hp =>
    have hW : ∃ o, s.heap.get? W = some o := let ⟨_, e⟩ := hl; ⟨_, e⟩
    have hcell : ∀ m c, env.cells.lookup m = some c → c ≠ W := fun m c hc q => hWS (q ▸ (f.cellIn m c hc).1)
    have hloc : W ≠ env.locals := fun q => hWS (q ▸ f.locIn)
    have hW' : ∃ o, s'.heap.get? W = some o := by
      cases hr using Rep.cLa with | la _ hl' _ => obtain ⟨_, e⟩ := hl'; exact ⟨_, e⟩
    have f1 : Fm w s₀ (W :: S) env (G.filter (fun p => !(p.1 == n))) s := f.off hW fun m d e => by
      have key : ∀ G : Gam, (G.filter (fun p => !(p.1 == n))).lookup m = some d → m ≠ n ∧ G.lookup m = some d := by
        intro G
        induction G with
        | nil => intro h; simp at h
        | cons p G ih =>
          intro h
          obtain ⟨a, d'⟩ := p
          rw [List.filter_cons] at h
          by_cases q : (a == n) = true
          · rw [q] at h
            obtain ⟨h1, h2⟩ := ih h
            refine ⟨h1, ?_⟩
            rw [List.lookup_cons, show (m == a) = false by
              refine beq_eq_false_iff_ne.mpr fun r => h1 ?_
              rw [r]; simpa using q]
            exact h2
          · have q' : (a == n) = false := by simpa using q
            rw [q'] at h
            simp only [Bool.not_false, if_true] at h
            rw [List.lookup_cons] at h ⊢
            cases r : m == a with
            | true => rw [r] at h; refine ⟨fun e => ?_, h⟩; have : m = a := by simpa using r
                      rw [← this, e] at q'; simp at q'
            | false => rw [r] at h; exact ih h
      obtain ⟨h1, h2⟩ := key G e
      exact ⟨h2, hoff.all m d h1 h2⟩
    have f2 := f1.move hs ht kx fun a ha => by
      simp at ha; subst ha
      exact ⟨List.mem_cons_self, h0, hloc, hcell, hW'⟩
    have f3 : Fm w s₀ S env (G.filter (fun p => !(p.1 == n))) s' := Fm.shrink (X := [W]) f2 f.locIn f.cellIn
    refine { f3 with has := fun m d e => ?_ }
    rw [List.lookup_cons] at e
    cases q : m == n with
    | true =>
      rw [q] at e
      cases e
      obtain rfl : m = n := by simpa using q
      refine ⟨.ref W, ?_, hr⟩
      rcases hv with ⟨hk, ms, hms, em⟩ | ⟨hk, c, hc, ec⟩
      · obtain ⟨ms', hms'⟩ := f3.ns
        obtain ⟨o, es, ep, g, dd, x1, x2⟩ := hms
        exact .inl ⟨hk, ms, ⟨o, es, ep, kx _ _ (fun q => hloc (by simp at q; exact q.symm)) g, dd, x1, x2⟩, em⟩
      · obtain ⟨o, g, dd⟩ := ec
        exact .inr ⟨hk, c, hc, o, kx _ _ (fun q => hcell m c hc (by simpa using q)) g, dd⟩
    | false =>
      rw [q] at e
      have key : ∀ G : Gam, G.lookup m = some d → (G.filter (fun p => !(p.1 == n))).lookup m = some d := by
        intro G
        induction G with
        | nil => intro h; simp at h
        | cons p G ih =>
          intro h
          obtain ⟨a, d'⟩ := p
          rw [List.filter_cons]
          rw [List.lookup_cons] at h
          by_cases q2 : (a == n) = true
          · rw [q2]
            have ha : a = n := by simpa using q2
            rw [ha, q] at h
            exact ih h
          · have q' : (a == n) = false := by simpa using q2
            rw [q']
            simp only [Bool.not_false, if_true]
            rw [List.lookup_cons]
            cases r : m == a with
            | true => rw [r] at h; exact h
            | false => rw [r] at h; exact ih h
      exact f3.has m d (key G e)
end Fm
end Mine
end

section
set_option maxRecDepth 100000
set_option linter.unusedVariables false
set_option linter.unusedSimpArgs false
namespace Mine
open PySem PySem.W PySem.Calls PyProof.Rows

section
variable {w : World} {k : Nat} {s₀ : Shared} {X S : List Addr} {env : Env} {G : Gam} {Q : Flow → Shared → Prop}
theorem ev_la {e : Expr} {W : Addr} {l : List PA} (h : Ev w k S env G e (.la W l)) : Ev w k S env G e (.list l) := ⟨fun s₀ A E s ha f => wpAny_mono (h.run s₀ A E s ha f) (fun _ _ x => ⟨x.1, x.2.unla⟩) fun _ _ x => x⟩
theorem ex_setsub {n : Str} {p pos' pos : Pos} {i value : Expr} {rest : List Stmt} {W : Addr} {l : List PA} {j : Int} {x : PA} (hn : G.lookup n = some (.la W l)) (hv : Ev w k S env G value (.at x)) (hi : Ev w k S env G i (.at (.int j))) (h0 : 0 ≤ j) (hj : j.toNat < l.length) (hsz : l.length ≤ 2 ^ 24)
    (hW0 : s₀.heap.get? W = none) (hWX : W ∈ X) (hoff : Offs W n G) (hnd : (n == ("__debug__" : Str)) = false) (next : Ex w k s₀ X S env ((n, .la W (l.set j.toNat x)) :: G) rest Q) (hs : swapsWith value (some (.Subscript (.Name n p) i pos')) pos.line env = pure false := by rfl) :
    Ex w k s₀ X S env G (.Assign [.Subscript (.Name n p) i pos'] value pos :: rest) Q := ⟨fun A E s ha f => by
  refine wpAny_execs_cons (wpAny_Assign_Subscript (wpAny_mono (hv.run s₀ A E s ha f) (fun v s₁ x₁ => ?_) fun _ _ x => x) hs)
  have f1 := f.keeps x₁.1
  refine wpAny_mono ((ev_name (pos := p) hn hnd).run s₀ A E s₁ ha f1) (fun ov s₂ x₂ => ?_) fun _ _ x => x
  have f2 := f1.keeps x₂.1
  refine wpAny_mono (hi.run s₀ A E s₂ ha f2) (fun iv s₃ x₃ => ?_) fun _ _ x => x
  have f3 := f2.keeps x₃.1
  have rv := x₁.2
  have rl := x₂.2.keep (kp_x x₃.1 S)
  cases x₃.2 using Rep.cAt with | «at» ri =>
    (first | cases ri using Atom.cInt | cases ri using Atom.cStr | cases ri using Atom.cBool | cases ri using Atom.cNone | cases ri)
    cases rv using Rep.cAt with | «at» rv =>
      cases rl using Rep.cLa with | la hWS hl hp =>
        rename_i items
        have hlen : items.size = l.length := by have := hp.length; simpa using this
        refine setItem_plain hl h0 (by (first | lia | omega)) (by (first | lia | omega)) fun h' hl' kx => ?_
        have f4 : Fm w s₀ S env ((n, .la W (l.set j.toNat x)) :: G) { s₃ with heap := h' } := f3.write hn hW0 ⟨h', _, rfl⟩ (Nat.le_refl _) kx (.la hWS hl' (by rw [Array.toList_setIfInBounds]; exact Paired.set rv hp _)) hoff
        exact ex_then next ha f4 ((kp_x (kp_trans x₁.1 (kp_trans x₂.1 x₃.1)) _).trans (kx.mono fun a h => by
          simp at h; subst h
          exact List.mem_cons_of_mem _ (List.mem_append_right _ hWX)))⟩
theorem call_setitem {b s : Shared} {A : Around} {E : Value → Shared → Prop} {vs : List Value} {W : Addr} {l : List PA} {j : Int} {x : PA} (hA : AOk 1 A) (hb : Kp b s) (hst : Stays w.params b.heap) (hg : b.gens = #[]) (htk : 0 < b.toks) (hW0 : b.heap.get? W = none)
    (hlow : ∀ b ∈ S, ∃ o, s.heap.get? b = some o) (hp : Paired (Rep S s.heap) vs [.la W l, .at (.int j), .at x]) (h0 : 0 ≤ j) (hj : j.toNat < l.length) (hsz : l.length ≤ 2 ^ 24) :
    wpAny (model p0 w) A (PySem.call (.ref 66) vs) (fun v s' => v = .none ∧ (∃ h tk, s' = { s with heap := h, toks := tk }) ∧ s.toks ≤ s'.toks ∧ KeepX [W] s.heap s'.heap ∧ Rep S s'.heap (.ref W) (.la W (l.set j.toNat x))) E s := by
  refine wpAny_mono (wpAny_toks (fn_runB (X := [W]) (b₀ := b) def_setitem (by decide +kernel) rfl (R := fun v s' => v = .none ∧ Kp b s' ∧ Rep S s'.heap (.ref W) (.la W (l.set j.toNat x))) hA hb hst hg htk hlow hp fun S' env bd hS => ?_)) (fun v s' y => ?_) fun _ _ y => y.2
  · dsimp only [List.zip, List.zipWith]
    have hK := ns_of bd
    refine ex_at (by unfold fB; exact rfl) ?_
    refine ex_setsub (by repeat (first | with_reducible exact lk_here | (apply lk_there; decide +kernel))) ev_n ev_n h0 hj hsz hW0 List.mem_cons_self (offs_self (offs_at (offs_at offs_nil))) (by decide +kernel) (ex_nil fun s' f => ?_)
    obtain ⟨v, _, r⟩ := f.has _ _ lk_here
    refine ⟨rfl, f.keep, ?_⟩
    cases r using Rep.cLa with | la ha hl hp => exact .la (fun q => ha (hS _ q)) hl hp
  · exact ⟨y.2.1.1, shape_of hb y.2.1.2.1, y.1, y.2.2, y.2.1.2.2⟩

/-- a test that changes the list W which the name n bears -/
structure TrW (w : World) (k : Nat) (s₀ : Shared) (W : Addr) (S : List Addr) (env : Env) (G G' : Gam) (e : Expr) (b : Bool) : Prop where
  run : ∀ A E s, AOk k A → Fm w s₀ S env G s → wpAny (model p0 w) A (isTrue e env (eval e env)) (fun v s' => v = b ∧ Fm w s₀ S env G' s' ∧ KeepX [W] s.heap s'.heap) E s
theorem trw_setitem {fe ei ev : Expr} {n : Str} {p q q' pos : Pos} {j' : Nat} {W : Addr} {l : List PA} {j : Int} {x : PA} (hl : Ld w k S env G fe (.ref 66)) (hn : G.lookup n = some (.la W l)) (hnd : (n == ("__debug__" : Str)) = false) (hi : Ev w k S env G ei (.at (.int j))) (hv : Ev w k S env G ev (.at x)) (h0 : 0 ≤ j) (hj : j.toNat < l.length) (hsz : l.length ≤ 2 ^ 24)
    (hW0 : s₀.heap.get? W = none) (hoff : Offs W n G) (hk : 1 ≤ k)
    (he : starEach [.Name n p, ei, ev] env = (false, eval (.Name n p) env) :: starEach [ei, ev] env := by rfl) (he2 : starEach [ei, ev] env = (false, eval ei env) :: starEach [ev] env := by rfl) (he3 : starEach [ev] env = (false, eval ev env) :: starEach [] env := by rfl)
    (hc : eval (.Call fe [.Name n p, ei, ev] [] pos) env = (do callWith pos (← eval fe env) [] (backTo pos (starEach [.Name n p, ei, ev] env)) (backToKw pos (keywordEach [] env))) := by rfl) :
    TrW w k s₀ W S env G ((n, .la W (l.set j.toNat x)) :: G) (.Compare (.Call fe [.Name n p, ei, ev] [] pos) [.IsNot] [.Constant .none j' q] q') false := ⟨fun A E s ha f => by
  have evs : Evs w k S env G [.Name n p, ei, ev] [.la W l, .at (.int j), .at x] := evs_cons (ev_name hn hnd) (evs_cons hi (evs_cons hv evs_nil he3) he2) he
  refine wpAny_isTrue_Compare1 (Call_ (wpAny_mono (hl.run s₀ A E s ha f) (fun v s₁ x₁ => ?_) fun _ _ x => x) hc)
  obtain ⟨rfl, k1⟩ := x₁
  refine callWith_def (o := fnObj (sx [115, 101, 116, 105, 116, 101, 109]) 6 mdOp 65) (fd := fdOf (sx [115, 101, 116, 105, 116, 101, 109]) 6 mdOp 65) rfl (wpAny_mono (evs.run s₀ A E s₁ pos ha (f.keeps k1)) (fun vs s₂ y => ?_) fun _ _ x => x) he
  have f2 := (f.keeps k1).keeps y.1
  refine ⟨f2.st.obj (def_setitem.obj _) def_setitem.lt rfl, wpAny_mono (call_setitem (S := S) (l := l) (x := x) (ha.mono hk) f2.keep f.stays f.gens f.tok hW0 f2.low y.2 h0 hj hsz) (fun v s₃ z => ?_) fun _ _ x => x⟩
  obtain ⟨rfl, hsh, ht, kx, hr⟩ := z
  rw [eval_Constant]
  have f3 := f2.write hn hW0 hsh ht kx hr hoff
  exact wpAny_pure (wpAny_isNot_plain rfl (wpAny_truthy_bool ⟨rfl, f3, (kp_x (kp_trans k1 y.1) _).trans kx⟩))⟩
theorem trw_or {e₁ e₂ : Expr} {pos : Pos} {W : Addr} {G₁ G₂ : Gam} {b : Bool} (h₁ : TrW w k s₀ W S env G G₁ e₁ false) (h₂ : TrW w k s₀ W S env G₁ G₂ e₂ b) : TrW w k s₀ W S env G G₂ (.BoolOp .Or [e₁, e₂] pos) b := ⟨fun A E s ha f => by
  rw [arm_isTrue_BoolOp, arm_allTrue_cons]
  refine wpAny_bind (wpAny_mono (h₁.run A E s ha f) (fun v s₁ x => ?_) fun _ _ x => x)
  obtain ⟨rfl, f1, k1⟩ := x
  show wpAny (model p0 w) A (allTrue .Or [e₂] env) _ _ _
  rw [arm_allTrue_cons]
  refine wpAny_bind (wpAny_mono (h₂.run A E s₁ ha f1) (fun v s₂ x => ?_) fun _ _ x => x)
  obtain ⟨rfl, f2, k2⟩ := x
  cases v with
  | true => exact wpAny_pure ⟨rfl, f2, k1.trans k2⟩
  | false => 
    show wpAny (model p0 w) A (allTrue .Or [] env) _ _ _
    rw [arm_allTrue_nil]
    exact wpAny_pure ⟨rfl, f2, k1.trans k2⟩⟩
theorem ex_ifW_not {t : Expr} {b rest : List Stmt} {pos : Pos} {W : Addr} {G' : Gam} (hWX : W ∈ X) (ht : TrW w k s₀ W S env G G' t false) (h : Ex w k s₀ X S env G' rest Q) : Ex w k s₀ X S env G (.If t b [] pos :: rest) Q := ⟨fun A E s a f => by
  refine wpAny_execs_cons (wpAny_If (wpAny_mono (ht.run A E s a f) (fun v s' x => ?_) fun _ _ x => x))
  obtain ⟨rfl, f1, k1⟩ := x
  rw [if_neg Bool.false_ne_true]
  exact wpAny_execs_nil (ex_then h a f1 (k1.mono fun a h => by
    simp at h; subst h
    exact List.mem_cons_of_mem _ (List.mem_append_right _ hWX)))⟩
end
end Mine
end

section
set_option maxRecDepth 100000
set_option linter.unusedVariables false
set_option linter.unusedSimpArgs false
namespace Mine
open PySem PySem.W PySem.Calls PyProof.Rows

/-! a pass of exchanges: what was laid down, what is carried, how many exchanges -/
noncomputable def bst (l : List Nat) : Nat → List Nat × Nat × Nat
  | 0 => ([], l.getD 0 0, 0)
  | i + 1 => if l.getD (i + 1) 0 < (bst l i).2.1 then ((bst l i).1 ++ [l.getD (i + 1) 0], (bst l i).2.1, (bst l i).2.2 + 1) else ((bst l i).1 ++ [(bst l i).2.1], l.getD (i + 1) 0, (bst l i).2.2)
theorem bst_len (l : List Nat) : ∀ i, (bst l i).1.length = i
  | 0 => rfl
  | i + 1 => by
    unfold bst
    split <;> simp [bst_len l i]
noncomputable def bword (l : List Nat) (i : Nat) : List Nat := (bst l i).1 ++ (bst l i).2.1 :: l.drop (i + 1)
noncomputable def PassOk (rows l : List Nat) : Prop := ∀ i, i + 1 < l.length → (bst l i).2.1 < rows.length ∧ l.getD (i + 1) 0 < rows.length ∧ (rows.getD (l.getD (i + 1) 0) 0 < rows.getD (bst l i).2.1 0 ↔ l.getD (i + 1) 0 < (bst l i).2.1)
theorem bword_at (l : List Nat) (i : Nat) (h : i + 1 < l.length) : bword l i = (bst l i).1 ++ (bst l i).2.1 :: l.getD (i + 1) 0 :: l.drop (i + 2) := by
  unfold bword
  rw [List.drop_eq_getElem_cons h]
  simp [h]
theorem intsL_append (a b : List Nat) : intsL (a ++ b) = intsL a ++ intsL b := by unfold intsL; rw [List.map_append]
theorem intsL_cons (a : Nat) (b : List Nat) : intsL (a :: b) = PA.int (a : Nat) :: intsL b := rfl
theorem intsL_len (a : List Nat) : (intsL a).length = a.length := by unfold intsL; simp
theorem bword_len (l : List Nat) (i : Nat) (h : i < l.length) : (bword l i).length = l.length := by
  unfold bword
  simp [bst_len]; (first | lia | omega)
theorem at_mid (p r : List PA) (x : PA) {i : Nat} (hp : p.length = i) : (p ++ x :: r)[i]? = some x := by
  subst hp; simp
theorem at_mid1 (p r : List PA) (x y : PA) {i : Nat} (hp : p.length = i) : (p ++ x :: y :: r)[i + 1]? = some y := by
  subst hp; rw [List.getElem?_append_right (by (first | lia | omega))]; simp
theorem set_two (p r : List PA) (x y : PA) {i : Nat} (hp : p.length = i) : ((p ++ x :: y :: r).set i y).set (i + 1) x = (p ++ [y]) ++ x :: r := by
  subst hp
  simp

theorem call_pass {w : World} {S : List Addr} {b s : Shared} {A : Around} {E : Value → Shared → Prop} {vs : List Value} {W : Addr} {l rows : List Nat} (hA : AOk 3 A) (hb : Kp b s) (hst : Stays w.params b.heap) (hg : b.gens = #[]) (htk : 0 < b.toks) (hW0 : b.heap.get? W = none)
    (hlow : ∀ b ∈ S, ∃ o, s.heap.get? b = some o) (hp : Paired (Rep S s.heap) vs [.la W (intsL l), .at (.str rows)]) (hl1 : 1 ≤ l.length) (hl2 : l.length ≤ 1000) (hr : rows.length ≤ 1000) (ok : PassOk rows l) :
    wpAny (model p0 w) A (PySem.call (.ref 201) vs) (fun v s' => Rep S s'.heap v (.at (.int ((bst l (l.length - 1)).2.2 : Nat))) ∧ (∃ h tk, s' = { s with heap := h, toks := tk }) ∧ s.toks ≤ s'.toks ∧ KeepX [W] s.heap s'.heap ∧ Rep S s'.heap (.ref W) (.la W (intsL (bword l (l.length - 1))))) E s := by
  refine wpAny_mono (wpAny_toks (fn_runB (X := [W]) (b₀ := b) def_l_pass (by decide +kernel) rfl (R := fun v s' => Rep S s'.heap v (.at (.int ((bst l (l.length - 1)).2.2 : Nat))) ∧ Kp b s' ∧ Rep S s'.heap (.ref W) (.la W (intsL (bword l (l.length - 1))))) hA hb hst hg htk hlow hp fun S' env bd hS => ?_)) (fun v s' y => ?_) fun _ _ y => y.2
  rotate_left
  · exact ⟨y.2.1.1, shape_of hb y.2.1.2.1, y.1, y.2.2, y.2.1.2.2⟩
  dsimp only [List.zip, List.zipWith]
  have hK := ns_of bd
  refine ex_at (by unfold fB; exact rfl) ?_
  refine ex_local (kd hK (by kernel_rfl)) ev_int rfl ?_
  have elen : (((l.length : Int) - 1) - 0).toNat = l.length - 1 := by (first | lia | omega)
  have hlI : (intsL l).length = l.length := intsL_len l
  refine ex_forX (Γ := fun j => [("exchanges", .at (.int ((bst l j).2.2 : Nat))), ("word", .la W (intsL (bword l j))), ("letters", .at (.str rows))])
    (Γa := fun j => [("place", .at (.int (0 + (j : Nat)))), ("exchanges", .at (.int ((bst l j).2.2 : Nat))), ("word", .la W (intsL (bword l j))), ("letters", .at (.str rows))])
    (di := .rng 0 ((l.length : Int) - 1) 1) (W :: S') (fun a ha => List.mem_cons_of_mem _ ha) (fun a ha => by simp at ha; subst ha; exact List.mem_cons_self) bd.cellMem ?_
    (ev_ty (ld_bi (kd hK (by kernel_rfl)) (gm_range _) bb_range) (evs_cons (ev_bin (ev_bi (ld_bi (kd hK (by kernel_rfl)) (gm_len _) bb_len) (evs_cons (ev_la ev_n) evs_nil) (bi_len_list (by rw [hlI]; (first | lia | omega))) (Nat.le_refl _)) ev_int (d := .at (.int ((l.length : Int) - 1))) (by rw [hlI]; exact bn_sub_int)) evs_nil) bi_range1 (Nat.le_refl _))
    (itr_range (a := 0) (b := (l.length : Int) - 1) (by (first | lia | omega)) (by (first | lia | omega)) (by (first | lia | omega))) ?_ ?_ ?_ ?_
  · intro s' f
    obtain ⟨v, _, r⟩ := f.has "word" (.la W (intsL l)) (by repeat (first | with_reducible exact lk_here | (apply lk_there; decide +kernel)))
    cases r using Rep.cLa with | la hWS hl hp =>
      obtain ⟨n, e⟩ := hl
      refine ⟨fun a ha => ?_, fun x r => ?_⟩
      · rcases List.mem_cons.mp ha with rfl | ha
        · exact ⟨_, e⟩
        · exact f.low a ha
      · cases r with
        | rng hr0 er =>
          refine .rng ?_ er
          intro q
          rcases List.mem_cons.mp q with rfl | q
          · rw [IsRange, e] at er
            have e1 : Value.type "list" = Value.type "range" := congrArg Obj.cls (Option.some.inj er)
            exact absurd e1 (by decide)
          · exact hr0 q
  · intro n d h
    have h2 : List.lookup n [((Str.ofString "exchanges"), PV.at (PA.int 0)), (Str.ofString "word", PV.la W (intsL l)), (Str.ofString "letters", PV.at (PA.str rows))] = some d := by
      have e : bword l 0 = l := by
        unfold bword bst
        cases l with
        | nil => simp at hl1
        | cons a t => simp
      simpa [e, bst] using h
    exact (sub_cons (sub_cons (sub_cons sub_nil))).all n d h2
  · intro i x hx S''
    have hi : i < l.length - 1 := by
      have := (List.getElem?_eq_some_iff.mp hx).1
      simpa using this
    obtain rfl : x = .at (.int (0 + (i : Nat))) := by
      simp [hi] at hx
      rw [← hx]; simp
    exact asg_name (kd hK (by kernel_rfl))
  · intro i x hx S'' hS''
    have hi : i + 1 < l.length := by
      have := (List.getElem?_eq_some_iff.mp hx).1
      simp at this; (first | lia | omega)
    obtain ⟨o1, o2, o3⟩ := ok i hi
    have hbs : bst l (i + 1) = if l.getD (i + 1) 0 < (bst l i).2.1 then ((bst l i).1 ++ [l.getD (i + 1) 0], (bst l i).2.1, (bst l i).2.2 + 1) else ((bst l i).1 ++ [(bst l i).2.1], l.getD (i + 1) 0, (bst l i).2.2) := by rw [bst]
    have hpl : (intsL (bst l i).1).length = i := by rw [intsL_len, bst_len]
    have hwl : (intsL (bword l i)).length = l.length := by rw [intsL_len, bword_len l i (by (first | lia | omega))]
    have hw := bword_at l i hi
    have hI : intsL (bword l i) = intsL (bst l i).1 ++ PA.int ((bst l i).2.1 : Nat) :: PA.int (l.getD (i + 1) 0 : Nat) :: intsL (l.drop (i + 2)) := by rw [hw, intsL_append, intsL_cons, intsL_cons]
    have hw' : bword l (i + 1) = (bst l (i + 1)).1 ++ (bst l (i + 1)).2.1 :: l.drop (i + 2) := rfl
    dsimp only
    generalize (bst l i).1 = p at *
    generalize (bst l i).2.1 = c at *
    generalize (bst l i).2.2 = n at *
    generalize l.getD (i + 1) 0 = d at *
    generalize hr2 : l.drop (i + 2) = r at *
    generalize bword l i = wd at *
    have g1 : (intsL wd)[((0 : Int) + (i : Nat)).toNat]? = some (.int (c : Nat)) := by
      rw [show ((0 : Int) + (i : Nat)).toNat = i by (first | lia | omega), hI]; exact at_mid _ _ _ hpl
    have g2 : (intsL wd)[((0 : Int) + (i : Nat) + 1).toNat]? = some (.int (d : Nat)) := by
      rw [show ((0 : Int) + (i : Nat) + 1).toNat = i + 1 by (first | lia | omega), hI]; exact at_mid1 _ _ _ _ hpl
    have r1 : rows[((c : Nat) : Int).toNat]? = some (rows.getD c 0) := by simp [o1]
    have r2 : rows[((d : Nat) : Int).toNat]? = some (rows.getD d 0) := by simp [o2]
    have hlt : decide ([rows.getD d 0] < [rows.getD c 0]) = decide ((c : Int) > (d : Int)) := by
      have : ([rows.getD d 0] < [rows.getD c 0]) ↔ (rows.getD d 0 < rows.getD c 0) := by
        rw [List.cons_lt_cons_iff]
        simp
      rw [decide_eq_decide, this, o3]; (first | lia | omega)
    refine ex_at rfl ?_
    refine ex_local (kd hK (by kernel_rfl)) (ev_fn def_getitem (ld_glob (kd hK (by kernel_rfl)) (gm_getitem _)) (evs_cons (ev_la ev_n) (evs_cons ev_n evs_nil)) (fn_getitem (by (first | lia | omega)) g1 (by (first | lia | omega))) (by (first | lia | omega))) rfl ?_
    refine ex_local (kd hK (by kernel_rfl)) (ev_fn def_getitem (ld_glob (kd hK (by kernel_rfl)) (gm_getitem _)) (evs_cons (ev_la ev_n) (evs_cons (ev_bin ev_n ev_int bn_add_int) evs_nil)) (fn_getitem (by (first | lia | omega)) g2 (by (first | lia | omega))) (by (first | lia | omega))) rfl ?_
    refine ex_local (kd hK (by kernel_rfl)) (ev_fn def_gt (ld_glob (kd hK (by kernel_rfl)) (gm_gt _)) (evs_cons (ev_sub ev_n ev_n (it_str (by (first | lia | omega)) r1 (by (first | lia | omega)))) (evs_cons (ev_sub ev_n ev_n (it_str (by (first | lia | omega)) r2 (by (first | lia | omega)))) evs_nil)) fn_gt_str (by (first | lia | omega))) rfl ?_
    rw [hlt]
    refine ex_if_not (tr_cmp (ev_fn def_gt (ld_glob (kd hK (by kernel_rfl)) (gm_gt _)) (evs_cons ev_n (evs_cons ev_n evs_nil)) fn_gt (by (first | lia | omega))) ev_n (cm_as cm_isnot_bool (by simp))) ?_
    refine ex_if (c := decide ((c : Int) > (d : Int)) == true) (Q' := NextQ w b S'' env [("exchanges", .at (.int ((bst l (i + 1)).2.2 : Nat))), ("word", .la W (intsL (bword l (i + 1)))), ("letters", .at (.str rows))]) (tr_cmp ev_n ev_bool cm_is_bool) (fun hc => ?_) (fun hc => ?_) (fun f s' x n => (n x.1).elim) (fun s' x => x.2) ?_
    · have hgt : d < c := by simp at hc; (first | lia | omega)
      rw [if_pos hgt] at hbs
      have e1 : intsL (bword l (i + 1)) = ((intsL wd).set ((0 : Int) + (i : Nat)).toNat (PA.int (d : Nat))).set ((0 : Int) + (i : Nat) + 1).toNat (PA.int (c : Nat)) := by
        rw [show ((0 : Int) + (i : Nat)).toNat = i by (first | lia | omega), show ((0 : Int) + (i : Nat) + 1).toNat = i + 1 by (first | lia | omega), hI, set_two _ _ _ _ hpl, hw', hbs]
        simp only [intsL_append, intsL_cons]; rfl
      have e2 : (((bst l (i + 1)).2.2 : Nat) : Int) = (n : Int) + 1 := by rw [hbs]; simp
      rw [e1, e2]
      refine ex_at rfl ?_
      refine ex_ifW_not List.mem_cons_self (trw_or (trw_setitem (ld_glob (kd hK (by kernel_rfl)) (gm_setitem _)) (by repeat (first | with_reducible exact lk_here | (apply lk_there; decide +kernel))) (by decide +kernel) ev_n ev_n (by (first | lia | omega)) (by (first | lia | omega)) (by (first | lia | omega)) hW0 (by repeat (first | exact offs_nil | refine offs_self ?_ | refine offs_at ?_)) (by (first | lia | omega)))
        (trw_setitem (ld_glob (kd hK (by kernel_rfl)) (gm_setitem _)) (by repeat (first | with_reducible exact lk_here | (apply lk_there; decide +kernel))) (by decide +kernel) (ev_bin ev_n ev_int bn_add_int) ev_n (by (first | lia | omega)) (by rw [List.length_set]; (first | lia | omega)) (by rw [List.length_set]; (first | lia | omega)) hW0 (by repeat (first | exact offs_nil | refine offs_self ?_ | refine offs_at ?_)) (by (first | lia | omega)))) ?_
      refine ex_local (kd hK (by kernel_rfl)) (ev_bin ev_n ev_int bn_add_int) rfl ?_
      exact ex_nil fun s' f => ⟨rfl, f.fewer (sub_cons (sub_cons (sub_cons sub_nil))).all⟩
    · have hgt : ¬ d < c := by simp at hc; (first | lia | omega)
      rw [if_neg hgt] at hbs
      have e1 : intsL (bword l (i + 1)) = intsL wd := by
        rw [hI, hw', hbs]
        simp only [intsL_append, intsL_cons]; simp [intsL]
      have e2 : (((bst l (i + 1)).2.2 : Nat) : Int) = (n : Int) := by rw [hbs]
      rw [e1, e2]
      refine ex_at rfl ?_
      refine ex_if_not (tr_cmp ev_n ev_bool (cm_as cm_isnot_bool (by simp; (first | lia | omega)))) ?_
      exact ex_nil fun s' f => ⟨rfl, f.fewer (sub_cons (sub_cons (sub_cons sub_nil))).all⟩
    · exact ex_nil fun s' f => f
  · refine ex_at rfl ?_
    have el : ((List.range ((l.length : Int) - 1 - 0).toNat).map fun i => PV.at (.int (0 + (i : Nat)))).length = l.length - 1 := by simp
    rw [el]
    refine ⟨fun A' E' s₁ a' f => wpAny_execs_cons (wpAny_Return_some (wpAny_mono ((ev_n (n := "exchanges") (d := .at (.int ((bst l (l.length - 1)).2.2 : Nat)))).run b A' E' s₁ a' f) (fun v s' x => ?_) fun _ _ x => x))⟩
    have f' := f.keeps x.1
    obtain ⟨v, _, r⟩ := f'.has "word" (.la W (intsL (bword l (l.length - 1)))) (by repeat (first | with_reducible exact lk_here | (apply lk_there; decide +kernel)))
    refine ⟨⟨x.2.sub hS, f'.keep, ?_⟩, kp_x x.1 _⟩
    cases r using Rep.cLa with | la ha hl hp => exact .la (fun q => ha (hS _ q)) hl hp
end Mine
end

section
set_option maxRecDepth 100000
set_option linter.unusedVariables false
set_option linter.unusedSimpArgs false
namespace Mine
open PySem PySem.W PySem.Calls PyProof.Rows
open PySem.Sre (M)

/-! the engine of the patterns, step by step -/
noncomputable def stepN : Nat → M → M
  | 0, m => m
  | n + 1, m => stepN n m.step
theorem step_fix {m : M} (h : m.outcome.isSome = true) : m.step = m := by unfold M.step; rw [if_pos h]
theorem stepN_fix {m : M} (h : m.outcome.isSome = true) : ∀ n, stepN n m = m
  | 0 => rfl
  | n + 1 => by rw [stepN, step_fix h, stepN_fix h n]
theorem runFor_eq : ∀ (n : Nat) (m : M), M.runFor n m = stepN n m
  | 0, m => rfl
  | n + 1, m => by
    rw [M.runFor]
    split
    · rename_i h; rw [stepN_fix h]
    · rw [runFor_eq n]; rfl
theorem stepN_add : ∀ (a b : Nat) (m : M), stepN (a + b) m = stepN b (stepN a m)
  | 0, b, m => by rw [Nat.zero_add]; rfl
  | a + 1, b, m => by rw [Nat.succ_add, stepN, stepN, stepN_add a b]
noncomputable def C1 : Array Nat := #[14, 4, 0, 1, 1, 6, 1, 16, 46, 1]
noncomputable def C2 : Array Nat := #[14, 9, 4, 1, 2, 16, 10, 16, 13, 0, 7, 7, 16, 13, 16, 10, 15, 18, 5, 16, 10, 15, 13, 11, 16, 13, 5, 5, 0, 16, 10, 1, 15, 2, 0, 1]
noncomputable def F0 (q s : Nat) (first : Bool) : Sre.Frame := { wait := .nextStart, pc := q, pos := s, outermost := first }
noncomputable def SS (C T : Array Nat) (pc s p hd : Nat) (om : Bool) (fr : List Sre.Frame) (w : Nat) (ans : Option Bool) (sn : Sre.Seen) : M :=
  { code := C, text := T, lim := T.size, start := s, lastStart := T.size, pc := pc, pos := p, handed := hd, outermost := om, marks := #[], frames := fr, weight := w, seen := sn, answer := ans }
section
variable {T : Array Nat} {s p hd w : Nat} {om : Bool} {fr : List Sre.Frame} {sn : Sre.Seen}
theorem c1_7_out (h : p ≥ T.size) : ∃ sn', (SS C1 T 7 s p hd om fr w none sn).step = SS C1 T 7 s p hd om fr w (some false) sn' := ⟨_, if_pos h⟩
theorem c1_7_yes (h : ¬ p ≥ T.size) (h2 : (T.getD p 0 == 46) = true) : ∃ sn', (SS C1 T 7 s p hd om fr w none sn).step = SS C1 T 9 s (p + 1) hd om fr w none sn' := by
  refine ⟨sn.add 16, (if_neg h).trans ?_⟩
  have e : Sre.accepts C1 7 (T.getD p 0) (sn.add 16) = .ok (true, sn.add 16) := by
    show Except.ok (T.getD p 0 == 46, _) = _
    rw [h2]
  show (match Sre.accepts C1 7 (T.getD p 0) (sn.add 16) with | .error why => _ | .ok (false, seen) => _ | .ok (true, seen) => _) = _
  rw [e]
  rfl
theorem c1_7_no (h : ¬ p ≥ T.size) (h2 : (T.getD p 0 == 46) = false) : ∃ sn', (SS C1 T 7 s p hd om fr w none sn).step = SS C1 T 7 s p hd om fr w (some false) sn' := by
  refine ⟨sn.add 16, (if_neg h).trans ?_⟩
  have e : Sre.accepts C1 7 (T.getD p 0) (sn.add 16) = .ok (false, sn.add 16) := by
    show Except.ok (T.getD p 0 == 46, _) = _
    rw [h2]
  show (match Sre.accepts C1 7 (T.getD p 0) (sn.add 16) with | .error why => _ | .ok (false, seen) => _ | .ok (true, seen) => _) = _
  rw [e]
  rfl
theorem c1_7_not (h2 : ¬ p < T.size ∨ (T.getD p 0 == 46) = false) : ∃ sn', (SS C1 T 7 s p hd om fr w none sn).step = SS C1 T 7 s p hd om fr w (some false) sn' := by
  by_cases h : p ≥ T.size
  · exact c1_7_out h
  · exact c1_7_no h (h2.resolve_left (fun q => q (Nat.lt_of_not_le h)))
theorem c2_12_out (h : p ≥ T.size) : ∃ sn', (SS C2 T 12 s p hd om fr w none sn).step = SS C2 T 12 s p hd om fr w (some false) sn' := ⟨_, if_pos h⟩
theorem c2_12_yes (h : ¬ p ≥ T.size) (h2 : (T.getD p 0 == 13) = true) : ∃ sn', (SS C2 T 12 s p hd om fr w none sn).step = SS C2 T 14 s (p + 1) hd om fr w none sn' := by
  refine ⟨sn.add 16, (if_neg h).trans ?_⟩
  have e : Sre.accepts C2 12 (T.getD p 0) (sn.add 16) = .ok (true, sn.add 16) := by
    show Except.ok (T.getD p 0 == 13, _) = _
    rw [h2]
  show (match Sre.accepts C2 12 (T.getD p 0) (sn.add 16) with | .error why => _ | .ok (false, seen) => _ | .ok (true, seen) => _) = _
  rw [e]
  rfl
theorem c2_12_no (h : ¬ p ≥ T.size) (h2 : (T.getD p 0 == 13) = false) : ∃ sn', (SS C2 T 12 s p hd om fr w none sn).step = SS C2 T 12 s p hd om fr w (some false) sn' := by
  refine ⟨sn.add 16, (if_neg h).trans ?_⟩
  have e : Sre.accepts C2 12 (T.getD p 0) (sn.add 16) = .ok (false, sn.add 16) := by
    show Except.ok (T.getD p 0 == 13, _) = _
    rw [h2]
  show (match Sre.accepts C2 12 (T.getD p 0) (sn.add 16) with | .error why => _ | .ok (false, seen) => _ | .ok (true, seen) => _) = _
  rw [e]
  rfl
theorem c2_12_not (h2 : ¬ p < T.size ∨ (T.getD p 0 == 13) = false) : ∃ sn', (SS C2 T 12 s p hd om fr w none sn).step = SS C2 T 12 s p hd om fr w (some false) sn' := by
  by_cases h : p ≥ T.size
  · exact c2_12_out h
  · exact c2_12_no h (h2.resolve_left (fun q => q (Nat.lt_of_not_le h)))
theorem c2_14_out (h : p ≥ T.size) : ∃ sn', (SS C2 T 14 s p hd om fr w none sn).step = SS C2 T 14 s p hd om fr w (some false) sn' := ⟨_, if_pos h⟩
theorem c2_14_yes (h : ¬ p ≥ T.size) (h2 : (T.getD p 0 == 10) = true) : ∃ sn', (SS C2 T 14 s p hd om fr w none sn).step = SS C2 T 16 s (p + 1) hd om fr w none sn' := by
  refine ⟨sn.add 16, (if_neg h).trans ?_⟩
  have e : Sre.accepts C2 14 (T.getD p 0) (sn.add 16) = .ok (true, sn.add 16) := by
    show Except.ok (T.getD p 0 == 10, _) = _
    rw [h2]
  show (match Sre.accepts C2 14 (T.getD p 0) (sn.add 16) with | .error why => _ | .ok (false, seen) => _ | .ok (true, seen) => _) = _
  rw [e]
  rfl
theorem c2_14_no (h : ¬ p ≥ T.size) (h2 : (T.getD p 0 == 10) = false) : ∃ sn', (SS C2 T 14 s p hd om fr w none sn).step = SS C2 T 14 s p hd om fr w (some false) sn' := by
  refine ⟨sn.add 16, (if_neg h).trans ?_⟩
  have e : Sre.accepts C2 14 (T.getD p 0) (sn.add 16) = .ok (false, sn.add 16) := by
    show Except.ok (T.getD p 0 == 10, _) = _
    rw [h2]
  show (match Sre.accepts C2 14 (T.getD p 0) (sn.add 16) with | .error why => _ | .ok (false, seen) => _ | .ok (true, seen) => _) = _
  rw [e]
  rfl
theorem c2_14_not (h2 : ¬ p < T.size ∨ (T.getD p 0 == 10) = false) : ∃ sn', (SS C2 T 14 s p hd om fr w none sn).step = SS C2 T 14 s p hd om fr w (some false) sn' := by
  by_cases h : p ≥ T.size
  · exact c2_14_out h
  · exact c2_14_no h (h2.resolve_left (fun q => q (Nat.lt_of_not_le h)))
theorem c2_19_out (h : p ≥ T.size) : ∃ sn', (SS C2 T 19 s p hd om fr w none sn).step = SS C2 T 19 s p hd om fr w (some false) sn' := ⟨_, if_pos h⟩
theorem c2_19_yes (h : ¬ p ≥ T.size) (h2 : (T.getD p 0 == 10) = true) : ∃ sn', (SS C2 T 19 s p hd om fr w none sn).step = SS C2 T 21 s (p + 1) hd om fr w none sn' := by
  refine ⟨sn.add 16, (if_neg h).trans ?_⟩
  have e : Sre.accepts C2 19 (T.getD p 0) (sn.add 16) = .ok (true, sn.add 16) := by
    show Except.ok (T.getD p 0 == 10, _) = _
    rw [h2]
  show (match Sre.accepts C2 19 (T.getD p 0) (sn.add 16) with | .error why => _ | .ok (false, seen) => _ | .ok (true, seen) => _) = _
  rw [e]
  rfl
theorem c2_19_no (h : ¬ p ≥ T.size) (h2 : (T.getD p 0 == 10) = false) : ∃ sn', (SS C2 T 19 s p hd om fr w none sn).step = SS C2 T 19 s p hd om fr w (some false) sn' := by
  refine ⟨sn.add 16, (if_neg h).trans ?_⟩
  have e : Sre.accepts C2 19 (T.getD p 0) (sn.add 16) = .ok (false, sn.add 16) := by
    show Except.ok (T.getD p 0 == 10, _) = _
    rw [h2]
  show (match Sre.accepts C2 19 (T.getD p 0) (sn.add 16) with | .error why => _ | .ok (false, seen) => _ | .ok (true, seen) => _) = _
  rw [e]
  rfl
theorem c2_19_not (h2 : ¬ p < T.size ∨ (T.getD p 0 == 10) = false) : ∃ sn', (SS C2 T 19 s p hd om fr w none sn).step = SS C2 T 19 s p hd om fr w (some false) sn' := by
  by_cases h : p ≥ T.size
  · exact c2_19_out h
  · exact c2_19_no h (h2.resolve_left (fun q => q (Nat.lt_of_not_le h)))
theorem c2_24_out (h : p ≥ T.size) : ∃ sn', (SS C2 T 24 s p hd om fr w none sn).step = SS C2 T 24 s p hd om fr w (some false) sn' := ⟨_, if_pos h⟩
theorem c2_24_yes (h : ¬ p ≥ T.size) (h2 : (T.getD p 0 == 13) = true) : ∃ sn', (SS C2 T 24 s p hd om fr w none sn).step = SS C2 T 26 s (p + 1) hd om fr w none sn' := by
  refine ⟨sn.add 16, (if_neg h).trans ?_⟩
  have e : Sre.accepts C2 24 (T.getD p 0) (sn.add 16) = .ok (true, sn.add 16) := by
    show Except.ok (T.getD p 0 == 13, _) = _
    rw [h2]
  show (match Sre.accepts C2 24 (T.getD p 0) (sn.add 16) with | .error why => _ | .ok (false, seen) => _ | .ok (true, seen) => _) = _
  rw [e]
  rfl
theorem c2_24_no (h : ¬ p ≥ T.size) (h2 : (T.getD p 0 == 13) = false) : ∃ sn', (SS C2 T 24 s p hd om fr w none sn).step = SS C2 T 24 s p hd om fr w (some false) sn' := by
  refine ⟨sn.add 16, (if_neg h).trans ?_⟩
  have e : Sre.accepts C2 24 (T.getD p 0) (sn.add 16) = .ok (false, sn.add 16) := by
    show Except.ok (T.getD p 0 == 13, _) = _
    rw [h2]
  show (match Sre.accepts C2 24 (T.getD p 0) (sn.add 16) with | .error why => _ | .ok (false, seen) => _ | .ok (true, seen) => _) = _
  rw [e]
  rfl
theorem c2_24_not (h2 : ¬ p < T.size ∨ (T.getD p 0 == 13) = false) : ∃ sn', (SS C2 T 24 s p hd om fr w none sn).step = SS C2 T 24 s p hd om fr w (some false) sn' := by
  by_cases h : p ≥ T.size
  · exact c2_24_out h
  · exact c2_24_no h (h2.resolve_left (fun q => q (Nat.lt_of_not_le h)))
theorem c2_29_out (h : p ≥ T.size) : ∃ sn', (SS C2 T 29 s p hd om fr w none sn).step = SS C2 T 29 s p hd om fr w (some false) sn' := ⟨_, if_pos h⟩
theorem c2_29_yes (h : ¬ p ≥ T.size) (h2 : (T.getD p 0 == 10) = true) : ∃ sn', (SS C2 T 29 s p hd om fr w none sn).step = SS C2 T 31 s (p + 1) hd om fr w none sn' := by
  refine ⟨sn.add 16, (if_neg h).trans ?_⟩
  have e : Sre.accepts C2 29 (T.getD p 0) (sn.add 16) = .ok (true, sn.add 16) := by
    show Except.ok (T.getD p 0 == 10, _) = _
    rw [h2]
  show (match Sre.accepts C2 29 (T.getD p 0) (sn.add 16) with | .error why => _ | .ok (false, seen) => _ | .ok (true, seen) => _) = _
  rw [e]
  rfl
theorem c2_29_no (h : ¬ p ≥ T.size) (h2 : (T.getD p 0 == 10) = false) : ∃ sn', (SS C2 T 29 s p hd om fr w none sn).step = SS C2 T 29 s p hd om fr w (some false) sn' := by
  refine ⟨sn.add 16, (if_neg h).trans ?_⟩
  have e : Sre.accepts C2 29 (T.getD p 0) (sn.add 16) = .ok (false, sn.add 16) := by
    show Except.ok (T.getD p 0 == 10, _) = _
    rw [h2]
  show (match Sre.accepts C2 29 (T.getD p 0) (sn.add 16) with | .error why => _ | .ok (false, seen) => _ | .ok (true, seen) => _) = _
  rw [e]
  rfl
theorem c2_29_not (h2 : ¬ p < T.size ∨ (T.getD p 0 == 10) = false) : ∃ sn', (SS C2 T 29 s p hd om fr w none sn).step = SS C2 T 29 s p hd om fr w (some false) sn' := by
  by_cases h : p ≥ T.size
  · exact c2_29_out h
  · exact c2_29_no h (h2.resolve_left (fun q => q (Nat.lt_of_not_le h)))
theorem c1_at_yes (h : (s == 0 || T.getD (s - 1) 0 == 10) = true) : ∃ sn', (SS C1 T 5 s s hd om fr w none sn).step = SS C1 T 7 s s hd om fr w none sn' := ⟨(sn.add 6).add 44, if_pos h⟩
theorem c1_at_no (h : (s == 0 || T.getD (s - 1) 0 == 10) = false) : ∃ sn', (SS C1 T 5 s s hd om fr w none sn).step = SS C1 T 5 s s hd om fr w (some false) sn' := by
  have h2 : ¬ ((s == 0 || T.getD (s - 1) 0 == 10) = true) := by rw [h]; exact Bool.false_ne_true
  exact ⟨(sn.add 6).add 44, if_neg h2⟩
/-- the match stands -/
theorem c1_end (hp : s < p) : ∃ sn', (SS C1 T 9 s p hd om fr w none sn).step = SS C1 T 9 s p p om fr w (some true) sn' := by
  cases om <;> exact ⟨_, rfl⟩
theorem c2_end : ∃ sn', (SS C2 T 35 s p hd om fr w none sn).step = SS C2 T 35 s p p om fr w (some true) sn' := by
  cases om <;> exact ⟨_, rfl⟩
theorem c1_next {pc s' : Nat} {om' : Bool} (h : s < T.size) : (SS C1 T pc s' p hd om' [F0 5 s om] 1 (some false) sn).step = SS C1 T 5 (s + 1) (s + 1) (s + 1) false [F0 5 (s + 1) false] 1 none sn := if_pos h
theorem c1_over {pc s' : Nat} {om' : Bool} (h : ¬ s < T.size) : (SS C1 T pc s' p hd om' [F0 5 s om] 1 (some false) sn).step = SS C1 T 5 s' s hd om [] 0 (some false) sn := if_neg h
theorem ss_yes {C : Array Nat} {pc q s' : Nat} {om' : Bool} : (SS C T pc s' p hd om' [F0 q s om] 1 (some true) sn).step = SS C T q s' s hd om [] 0 (some true) sn := rfl
theorem ss_done {C : Array Nat} {pc s : Nat} {b : Bool} : (SS C T pc s p hd om [] 0 (some b) sn).step = { SS C T pc s p hd om [] 0 (some b) sn with outcome := some (if b = true then .matched else .failed) } := rfl
noncomputable def FB (a p : Nat) (om : Bool) : Sre.Frame := { wait := .nextBranch, pc := a, pos := p, outermost := om, kept := { lastmark := -1, lastindex := -1, whole := false, marks := #[] } }
noncomputable def FL (p : Nat) (om : Bool) : Sre.Frame := { wait := .lookNot, pc := 26, pos := p, outermost := om, kept := { lastmark := -1, lastindex := -1, whole := false, marks := #[] } }
theorem c2_branch : ∃ sn', (SS C2 T 10 s p hd om fr 1 none sn).step = SS C2 T 12 s p p om (FB 11 p om :: fr) 2 none sn' := ⟨_, rfl⟩
theorem c2_alt2 {pc s' : Nat} {om' : Bool} : (SS C2 T pc s' p hd om' (FB 11 s om :: fr) 2 (some false) sn).step = SS C2 T 19 s' s s om (FB 18 s om :: fr) 2 none sn := rfl
theorem c2_alt3 {pc s' : Nat} {om' : Bool} : (SS C2 T pc s' p hd om' (FB 18 s om :: fr) 2 (some false) sn).step = SS C2 T 24 s' s s om (FB 23 s om :: fr) 2 none sn := rfl
theorem c2_yes {pc a s' : Nat} {om' : Bool} : (SS C2 T pc s' p hd om' (FB a s om :: fr) 2 (some true) sn).step = SS C2 T a s' s hd om fr 1 (some true) sn := rfl
theorem c2_jump16 : ∃ sn', (SS C2 T 16 s p hd om fr w none sn).step = SS C2 T 35 s p hd om fr w none sn' := ⟨_, rfl⟩
theorem c2_jump21 : ∃ sn', (SS C2 T 21 s p hd om fr w none sn).step = SS C2 T 35 s p hd om fr w none sn' := ⟨_, rfl⟩
theorem c2_jump32 : ∃ sn', (SS C2 T 32 s p hd om fr w none sn).step = SS C2 T 35 s p hd om fr w none sn' := ⟨_, rfl⟩
theorem c2_look : ∃ sn', (SS C2 T 26 s p hd om fr 2 none sn).step = SS C2 T 29 s p p false (FL p om :: fr) 3 none sn' := ⟨_, rfl⟩
theorem c2_look_no {pc s' : Nat} {om' : Bool} : (SS C2 T pc s' p hd om' (FL s om :: fr) 3 (some false) sn).step = SS C2 T 32 s' s hd om fr 2 none sn := rfl
end
end Mine
end

section
set_option maxRecDepth 100000
set_option linter.unusedVariables false
set_option linter.unusedSimpArgs false
namespace Mine
open PySem PySem.W PySem.Calls PyProof.Rows
open PySem.Sre (M)

noncomputable def EndIs (e : M) : Option (Nat × Nat) → Prop
  | some (a, b) => e.outcome = some .matched ∧ e.start = a ∧ e.handed = b
  | none => e.outcome = some .failed
structure Ends (m : M) (n : Nat) (o : Option (Nat × Nat)) : Prop where
  ex : ∃ k, k ≤ n ∧ EndIs (stepN k m) o
theorem Ends.back {m m' : M} {n : Nat} {o : Option (Nat × Nat)} (e : m.step = m') (h : Ends m' n o) : Ends m (n + 1) o := by
  obtain ⟨k, hk, h⟩ := h.ex
  exact ⟨k + 1, by (first | lia | omega), by rw [stepN, e]; exact h⟩
theorem Ends.more {m : M} {n n' : Nat} {o : Option (Nat × Nat)} (h : Ends m n o) (hn : n ≤ n') : Ends m n' o := by
  obtain ⟨k, hk, h⟩ := h.ex
  exact ⟨k, by (first | lia | omega), h⟩
theorem Ends.now {m : M} {o : Option (Nat × Nat)} (h : EndIs m o) : Ends m 0 o := ⟨0, Nat.le_refl _, h⟩
section
variable {T : Array Nat} {s p hd w : Nat} {om : Bool} {fr : List Sre.Frame} {sn : Sre.Seen}
theorem ends_yes {C : Array Nat} {pc q s' : Nat} {om' : Bool} : Ends (SS C T pc s' p hd om' [F0 q s om] 1 (some true) sn) 2 (some (s', hd)) :=
  .back ss_yes (.back ss_done (.now ⟨rfl, rfl, rfl⟩))
theorem ends_no {C : Array Nat} {pc : Nat} : Ends (SS C T pc s p hd om [] 0 (some false) sn) 1 none := .back ss_done (.now rfl)

noncomputable def Hit1 (T : Array Nat) (s : Nat) : Bool := (s == 0 || T.getD (s - 1) 0 == 10) && (decide (s < T.size) && T.getD s 0 == 46)
theorem c1_hit (h : Hit1 T s = true) : Ends (SS C1 T 5 s s hd om [F0 5 s om] 1 none sn) 5 (some (s, s + 1)) := by
  unfold Hit1 at h
  rw [Bool.and_eq_true, Bool.and_eq_true, decide_eq_true_eq] at h
  obtain ⟨h1, h2, h3⟩ := h
  obtain ⟨_, e⟩ := c1_at_yes (hd := hd) (om := om) (fr := [F0 5 s om]) (w := 1) (sn := sn) h1
  refine .back e ?_
  obtain ⟨_, e⟩ := c1_7_yes (T := T) (s := s) (hd := hd) (om := om) (fr := [F0 5 s om]) (w := 1) (by (first | lia | omega)) h3
  refine .back e ?_
  obtain ⟨_, e⟩ := c1_end (T := T) (s := s) (p := s + 1) (hd := hd) (om := om) (fr := [F0 5 s om]) (w := 1) (by (first | lia | omega))
  exact .back e ends_yes
theorem c1_miss (h : Hit1 T s = false) : ∃ k pc hd' sn', k ≤ 2 ∧ stepN k (SS C1 T 5 s s hd om [F0 5 s om] 1 none sn) = SS C1 T pc s s hd' om [F0 5 s om] 1 (some false) sn' := by
  unfold Hit1 at h
  cases h1 : (s == 0 || T.getD (s - 1) 0 == 10) with
  | false =>
    obtain ⟨sn', e⟩ := c1_at_no (hd := hd) (om := om) (fr := [F0 5 s om]) (w := 1) (sn := sn) h1
    exact ⟨1, _, _, _, by decide, e⟩
  | true =>
    rw [h1, Bool.true_and] at h
    obtain ⟨sn', e⟩ := c1_at_yes (hd := hd) (om := om) (fr := [F0 5 s om]) (w := 1) (sn := sn) h1
    obtain ⟨sn'', e'⟩ := c1_7_not (T := T) (s := s) (p := s) (hd := hd) (om := om) (fr := [F0 5 s om]) (w := 1) (sn := sn') (by
      rcases Bool.and_eq_false_iff.mp h with q | q
      · exact .inl (by simpa using q)
      · exact .inr q)
    exact ⟨2, _, _, _, by decide, by rw [stepN, e, stepN, e']; rfl⟩
theorem Ends.backN {m m' : M} {n k : Nat} {o : Option (Nat × Nat)} (e : stepN k m = m') (h : Ends m' n o) : Ends m (k + n) o := by
  obtain ⟨j, hj, h⟩ := h.ex
  exact ⟨k + j, by (first | lia | omega), by rw [stepN_add, e]; exact h⟩
/-- the engine from d on comes to o -/
noncomputable def Nx1 (T : Array Nat) (d : Nat) (o : Option (Nat × Nat)) : Prop := ∀ hd om sn, Ends (SS C1 T 5 d d hd om [F0 5 d om] 1 none sn) (4 * (T.size - d) + 6) o
theorem nx1_hit (h : Hit1 T s = true) : Nx1 T s (some (s, s + 1)) := fun _ _ _ => (c1_hit h).more (by (first | lia | omega))
theorem nx1_skip {o : Option (Nat × Nat)} (h : Hit1 T s = false) (hs : s < T.size) (n : Nx1 T (s + 1) o) : Nx1 T s o := fun hd om sn => by
  obtain ⟨k, pc, hd', sn', hk, e⟩ := c1_miss (hd := hd) (om := om) (sn := sn) h
  exact (Ends.backN e (.back (c1_next hs) (n _ _ _))).more (by (first | lia | omega))
theorem nx1_fin (hs : ¬ s < T.size) : Nx1 T s none := fun hd om sn => by
  have h : Hit1 T s = false := by unfold Hit1; simp [hs]
  obtain ⟨k, pc, hd', sn', hk, e⟩ := c1_miss (hd := hd) (om := om) (sn := sn) h
  exact (Ends.backN e (.back (c1_over hs) ends_no)).more (by (first | lia | omega))
theorem search1 {d : Nat} {o : Option (Nat × Nat)} (hd : d < T.size) (h : Nx1 T d o) : Ends (Sre.forSearch C1 T 0 d T.size false) (4 * (T.size - d) + 6) o := by
  have e : Sre.forSearch C1 T 0 d T.size false = SS C1 T 5 d d d true [F0 5 d true] 1 none (({} : Sre.Seen).add 14) := if_neg (by
    rw [Bool.or_eq_true, decide_eq_true_eq, decide_eq_true_eq]
    show ¬ (d > T.size ∨ T.size - d < 1)
    (first | lia | omega))
  rw [e]; exact h _ _ _
theorem search1_end : Ends (Sre.forSearch C1 T 0 T.size T.size false) 6 none := by
  have e : ∃ m : M, Sre.forSearch C1 T 0 T.size T.size false = m ∧ m.step.outcome = some .failed := ⟨_, if_pos (by
    rw [Bool.or_eq_true, decide_eq_true_eq, decide_eq_true_eq]
    show T.size > T.size ∨ T.size - T.size < 1
    (first | lia | omega)), rfl⟩
  obtain ⟨m, e, h⟩ := e
  rw [e]; exact ⟨1, by decide, h⟩

/-! the second pattern -/
theorem c2_set (c : Nat) (sn : Sre.Seen) : ∃ sn', Sre.inSet C2 c 36 5 true sn = .ok (c == 10 || c == 13, sn') := by
  cases h : (c == 10) with
  | true => exact ⟨_, if_pos h⟩
  | false =>
    have h' : ¬ ((c == 10) = true) := by rw [h]; exact Bool.false_ne_true
    cases h2 : (c == 13) with
    | true => exact ⟨_, (if_neg h').trans (if_pos h2)⟩
    | false =>
      have h2' : ¬ ((c == 13) = true) := by rw [h2]; exact Bool.false_ne_true
      exact ⟨_, (if_neg h').trans (if_neg h2')⟩
theorem adm_out {m : M} {f : Nat} (h : s ≥ m.lim) : M.admitted m (f + 1) s sn = .ok (none, sn) := by rw [M.admitted, if_pos h]
theorem adm_hit {m : M} {f : Nat} (hC : m.code = C2) (h : ¬ s ≥ m.lim) (hc : (m.text.getD s 0 == 10 || m.text.getD s 0 == 13) = true) : ∃ sn', M.admitted m (f + 1) s sn = .ok (some s, sn') := by
  obtain ⟨sn', e⟩ := c2_set (m.text.getD s 0) sn
  refine ⟨sn', ?_⟩
  rw [M.admitted, if_neg h, hC]
  show (match Sre.inSet C2 (m.text.getD s 0) 36 5 true sn with | .ok (true, seen) => _ | .ok (false, seen) => _ | .error why => _) = _
  rw [e, hc]
theorem adm_skip {m : M} {f : Nat} (hC : m.code = C2) (h : ¬ s ≥ m.lim) (hc : (m.text.getD s 0 == 10 || m.text.getD s 0 == 13) = false) : ∃ sn', M.admitted m (f + 1) s sn = M.admitted m f (s + 1) sn' := by
  obtain ⟨sn', e⟩ := c2_set (m.text.getD s 0) sn
  refine ⟨sn', ?_⟩
  rw [M.admitted, if_neg h, hC]
  show (match Sre.inSet C2 (m.text.getD s 0) 36 5 true sn with | .ok (true, seen) => _ | .ok (false, seen) => _ | .error why => _) = _
  rw [e, hc]
noncomputable def Go2 (T : Array Nat) (st d f : Nat) (sn : Sre.Seen) (adm : Except String (Option Nat × Sre.Seen)) : M :=
  match adm with
  | .ok (some s, seen) => M.attemptAt { SS C2 T 10 st st st true [] 0 none sn with mustAdvance := false, seen } s true
  | .ok (none, seen) => M.say { SS C2 T 10 st st st true [] 0 none sn with seen } false
  | .error why => M.stick (SS C2 T 10 st st st true [] 0 none sn) why
noncomputable def Nx2 (T : Array Nat) (d : Nat) (o : Option (Nat × Nat)) : Prop := ∀ st sn₀ sn f, T.size - d < f → Ends (Go2 T st d f sn₀ (M.admitted (SS C2 T 10 st st st true [] 0 none sn₀) f d sn)) 30 o
theorem nx2_fin (hs : ¬ s < T.size) : Nx2 T s none := fun st sn₀ sn f hf => by
  obtain ⟨f, rfl⟩ : ∃ g, f = g + 1 := ⟨f - 1, by (first | lia | omega)⟩
  rw [adm_out (by show s ≥ T.size; (first | lia | omega))]
  exact (ends_no (C := C2) (pc := 10)).more (by decide)
theorem nx2_skip {o : Option (Nat × Nat)} (hs : s < T.size) (hc : (T.getD s 0 == 10 || T.getD s 0 == 13) = false) (n : Nx2 T (s + 1) o) : Nx2 T s o := fun st sn₀ sn f hf => by
  obtain ⟨f, rfl⟩ : ∃ g, f = g + 1 := ⟨f - 1, by (first | lia | omega)⟩
  obtain ⟨sn', e⟩ := adm_skip (m := SS C2 T 10 st st st true [] 0 none sn₀) (f := f) (sn := sn) rfl (show ¬ s ≥ T.size by (first | lia | omega)) hc
  rw [e]
  exact n _ _ _ _ (by (first | lia | omega))
/-- what ends a match -/
noncomputable def end2 (T : Array Nat) (s : Nat) : Nat := if (T.getD s 0 == 13 && (decide (s + 1 < T.size) && T.getD (s + 1) 0 == 10)) = true then s + 2 else s + 1
theorem nx2_hit (hs : s < T.size) (hc : (T.getD s 0 == 10 || T.getD s 0 == 13) = true) : Nx2 T s (some (s, end2 T s)) := fun st sn₀ sn f hf => by
  obtain ⟨f, rfl⟩ : ∃ g, f = g + 1 := ⟨f - 1, by (first | lia | omega)⟩
  obtain ⟨sn', e⟩ := adm_hit (m := SS C2 T 10 st st st true [] 0 none sn₀) (f := f) (sn := sn) rfl (show ¬ s ≥ T.size by (first | lia | omega)) hc
  rw [e]
  show Ends (SS C2 T 10 s s s true [F0 10 s true] 1 none sn') 30 _
  obtain ⟨sn1, e1⟩ := c2_branch (T := T) (s := s) (p := s) (hd := s) (om := true) (fr := [F0 10 s true]) (sn := sn')
  unfold end2
  have fin : ∀ {a hd p : Nat} {sn : Sre.Seen}, Ends (SS C2 T 35 s p hd true [FB a s true, F0 10 s true] 2 none sn) 4 (some (s, p)) := fun {a hd p sn} => by
    obtain ⟨_, e⟩ := c2_end (T := T) (s := s) (p := p) (hd := hd) (om := true) (fr := [FB a s true, F0 10 s true]) (w := 2) (sn := sn)
    exact .back e (.back c2_yes ends_yes)
  cases h13 : (T.getD s 0 == 13) with
  | false =>
    have h10 : (T.getD s 0 == 10) = true := by rw [h13, Bool.or_false] at hc; exact hc
    rw [Bool.false_and, if_neg Bool.false_ne_true]
    obtain ⟨sn2, e2⟩ := c2_12_no (T := T) (s := s) (p := s) (hd := s) (om := true) (fr := [FB 11 s true, F0 10 s true]) (w := 2) (sn := sn1) (by (first | lia | omega)) h13
    obtain ⟨sn3, e3⟩ := c2_19_yes (T := T) (s := s) (p := s) (hd := s) (om := true) (fr := [FB 18 s true, F0 10 s true]) (w := 2) (sn := sn2) (by (first | lia | omega)) h10
    obtain ⟨sn4, e4⟩ := c2_jump21 (T := T) (s := s) (p := s + 1) (hd := s) (om := true) (fr := [FB 18 s true, F0 10 s true]) (w := 2) (sn := sn3)
    exact (Ends.back e1 (.back e2 (.back c2_alt2 (.back e3 (.back e4 fin))))).more (by decide)
  | true =>
    rw [Bool.true_and]
    obtain ⟨sn2, e2⟩ := c2_12_yes (T := T) (s := s) (p := s) (hd := s) (om := true) (fr := [FB 11 s true, F0 10 s true]) (w := 2) (sn := sn1) (by (first | lia | omega)) h13
    cases hn : (decide (s + 1 < T.size) && T.getD (s + 1) 0 == 10) with
    | true =>
      rw [if_pos rfl]
      rw [Bool.and_eq_true, decide_eq_true_eq] at hn
      obtain ⟨sn3, e3⟩ := c2_14_yes (T := T) (s := s) (p := s + 1) (hd := s) (om := true) (fr := [FB 11 s true, F0 10 s true]) (w := 2) (sn := sn2) (by (first | lia | omega)) hn.2
      obtain ⟨sn4, e4⟩ := c2_jump16 (T := T) (s := s) (p := s + 2) (hd := s) (om := true) (fr := [FB 11 s true, F0 10 s true]) (w := 2) (sn := sn3)
      exact (Ends.back e1 (.back e2 (.back e3 (.back e4 fin)))).more (by decide)
    | false =>
      rw [if_neg Bool.false_ne_true]
      have hn' : ¬ s + 1 < T.size ∨ (T.getD (s + 1) 0 == 10) = false := by
        rcases Bool.and_eq_false_iff.mp hn with q | q
        · exact .inl (by simpa using q)
        · exact .inr q
      obtain ⟨sn3, e3⟩ := c2_14_not (T := T) (s := s) (p := s + 1) (hd := s) (om := true) (fr := [FB 11 s true, F0 10 s true]) (w := 2) (sn := sn2) hn'
      have h10 : (T.getD s 0 == 10) = false := by
        have : T.getD s 0 = 13 := by simpa using h13
        rw [this]; rfl
      obtain ⟨sn4, e4⟩ := c2_19_no (T := T) (s := s) (p := s) (hd := s) (om := true) (fr := [FB 18 s true, F0 10 s true]) (w := 2) (sn := sn3) (by (first | lia | omega)) h10
      obtain ⟨sn5, e5⟩ := c2_24_yes (T := T) (s := s) (p := s) (hd := s) (om := true) (fr := [FB 23 s true, F0 10 s true]) (w := 2) (sn := sn4) (by (first | lia | omega)) h13
      obtain ⟨sn6, e6⟩ := c2_look (T := T) (s := s) (p := s + 1) (hd := s) (om := true) (fr := [FB 23 s true, F0 10 s true]) (sn := sn5)
      obtain ⟨sn7, e7⟩ := c2_29_not (T := T) (s := s) (p := s + 1) (hd := s + 1) (om := false) (fr := FL (s + 1) true :: [FB 23 s true, F0 10 s true]) (w := 3) (sn := sn6) hn'
      obtain ⟨sn8, e8⟩ := c2_jump32 (T := T) (s := s) (p := s + 1) (hd := s + 1) (om := true) (fr := [FB 23 s true, F0 10 s true]) (w := 2) (sn := sn7)
      exact (Ends.back e1 (.back e2 (.back e3 (.back c2_alt2 (.back e4 (.back c2_alt3 (.back e5 (.back e6 (.back e7 (.back c2_look_no (.back e8 fin))))))))))).more (by decide)
theorem search2 {d : Nat} {o : Option (Nat × Nat)} (hd : d < T.size) (h : Nx2 T d o) : Ends (Sre.forSearch C2 T 0 d T.size false) 30 o := by
  have e : Sre.forSearch C2 T 0 d T.size false = Go2 T d d (T.size + 1 - d) (({} : Sre.Seen).add 14) (M.admitted (SS C2 T 10 d d d true [] 0 none (({} : Sre.Seen).add 14)) (T.size + 1 - d) d (({} : Sre.Seen).add 14)) := if_neg (by
    rw [Bool.or_eq_true, decide_eq_true_eq, decide_eq_true_eq]
    show ¬ (d > T.size ∨ T.size - d < 1)
    (first | lia | omega))
  rw [e]; exact h _ _ _ _ (by (first | lia | omega))
theorem search2_end : Ends (Sre.forSearch C2 T 0 T.size T.size false) 6 none := by
  have e : ∃ m : M, Sre.forSearch C2 T 0 T.size T.size false = m ∧ m.step.outcome = some .failed := ⟨_, if_pos (by
    rw [Bool.or_eq_true, decide_eq_true_eq, decide_eq_true_eq]
    show T.size > T.size ∨ T.size - T.size < 1
    (first | lia | omega)), rfl⟩
  obtain ⟨m, e, h⟩ := e
  rw [e]; exact ⟨1, by decide, h⟩
end
end Mine
end

section
set_option maxRecDepth 100000
set_option linter.unusedVariables false
set_option linter.unusedSimpArgs false
namespace Mine
open PySem PySem.W PySem.Calls PyProof.Rows
open PySem.Sre (M)

/-! what is put in the place of what is found -/
inductive SubN (T : Array Nat) (R : List Nat) (N : Nat → Option (Nat × Nat) → Prop) : Nat → List Nat → Prop
  | fin {d : Nat} : d ≤ T.size → N d none → SubN T R N d (T.toList.drop d)
  | hit {d s e : Nat} {r : List Nat} : d ≤ s → s < e → e ≤ T.size → N d (some (s, e)) → SubN T R N e r → SubN T R N d ((T.toList.take s).drop d ++ R ++ r)
section
variable {T : Array Nat} {R : List Nat} {N N' : Nat → Option (Nat × Nat) → Prop}
theorem SubN.imp (h : ∀ d o, d ≤ T.size → (o = none ∨ d < T.size) → N d o → N' d o) {d : Nat} {r : List Nat} (x : SubN T R N d r) : SubN T R N' d r := by
  induction x with
  | fin hd hn => exact .fin hd (h _ _ hd (.inl rfl) hn)
  | hit h1 h2 h3 hn _ ih => exact .hit h1 h2 h3 (h _ _ (by (first | lia | omega)) (.inr (by (first | lia | omega))) hn) ih
theorem SubN.skip {d c : Nat} {r : List Nat} (hd : d < T.size) (hc : T[d]? = some c) (h : ∀ o, N (d + 1) o → N d o) (x : SubN T R N (d + 1) r) : SubN T R N d (c :: r) := by
  have e : ∀ l : List Nat, l[d]? = some c → l.drop d = c :: l.drop (d + 1) := fun l hl => by
    obtain ⟨hlt, hl⟩ := List.getElem?_eq_some_iff.mp hl
    rw [List.drop_eq_getElem_cons hlt, hl]
  cases x with
  | fin h1 hn =>
    have e1 := e T.toList (by simpa using hc)
    rw [← e1]
    exact .fin (by (first | lia | omega)) (h _ hn)
  | hit h1 h2 h3 hn t =>
    rename_i s e' r'
    have e1 := e (T.toList.take s) (by rw [List.getElem?_take_of_lt (by (first | lia | omega))]; simpa using hc)
    have := SubN.hit (T := T) (R := R) (N := N) (d := d) (s := s) (e := e') (by (first | lia | omega)) h2 h3 (h _ hn) t
    rw [e1] at this
    simpa using this
theorem SubN.here {d e : Nat} {r : List Nat} (h2 : d < e) (h3 : e ≤ T.size) (hn : N d (some (d, e))) (x : SubN T R N e r) : SubN T R N d (R ++ r) := by
  have := SubN.hit (Nat.le_refl d) h2 h3 hn x
  have e1 : (T.toList.take d).drop d = [] := by simp
  rw [e1] at this
  simpa using this
end
/-- a second dot ahead of the dot that begins a line -/
noncomputable def q1 : Bool → List Nat → List Nat
  | _, [] => []
  | b, c :: t => (if (b && c == 46) = true then [46, 46] else [c]) ++ q1 (c == 10) t
/-- both signs for each end of a line -/
noncomputable def q2 : Bool → List Nat → List Nat
  | _, [] => []
  | b, c :: t => if c = 13 then 13 :: 10 :: q2 true t else if c = 10 then (if b = true then q2 false t else 13 :: 10 :: q2 false t) else c :: q2 false t
theorem q2_free {l : List Nat} (h : l.head? ≠ some 10) : q2 true l = q2 false l := by
  cases l with
  | nil => rfl
  | cons c t =>
    have : c ≠ 10 := by simpa using h
    simp [q2, this]
theorem drop_at {T : Array Nat} {d : Nat} (hd : d < T.size) : T.toList.drop d = T.getD d 0 :: T.toList.drop (d + 1) := by
  rw [List.drop_eq_getElem_cons (by simpa using hd)]
  simp [hd]
theorem get_at {T : Array Nat} {d : Nat} (hd : d < T.size) : T[d]? = some (T.getD d 0) := by simp [hd]
theorem sub1_all (T : Array Nat) : ∀ n d, T.size - d = n → d ≤ T.size → SubN T [46, 46] (Nx1 T) d (q1 (d == 0 || T.getD (d - 1) 0 == 10) (T.toList.drop d))
  | 0, d, hn, hd => by
    have e : T.toList.drop d = [] := by simp; (first | lia | omega)
    rw [e]
    have := SubN.fin (R := [46, 46]) hd (nx1_fin (T := T) (s := d) (by (first | lia | omega)))
    rw [e] at this
    exact this
  | n + 1, d, hn, hd => by
    have hlt : d < T.size := by (first | lia | omega)
    have ih := sub1_all T n (d + 1) (by (first | lia | omega)) (by (first | lia | omega))
    have e0 : (d + 1 == 0 || T.getD (d + 1 - 1) 0 == 10) = (T.getD d 0 == 10) := by simp
    rw [e0] at ih
    rw [drop_at hlt, q1]
    cases h : Hit1 T d with
    | true =>
      have h' := h
      unfold Hit1 at h'
      rw [Bool.and_eq_true, Bool.and_eq_true] at h'
      rw [h'.1, Bool.true_and, if_pos h'.2.2]
      exact .here (by (first | lia | omega)) (by (first | lia | omega)) (nx1_hit h) ih
    | false =>
      have h' : ((d == 0 || T.getD (d - 1) 0 == 10) && (T.getD d 0 == 46)) = false := by
        unfold Hit1 at h
        simpa [hlt] using h
      rw [h', if_neg Bool.false_ne_true]
      exact .skip hlt (get_at hlt) (fun o hn => nx1_skip h hlt hn) ih
theorem sub2_all (T : Array Nat) : ∀ n d, T.size - d ≤ n → d ≤ T.size → SubN T [13, 10] (Nx2 T) d (q2 false (T.toList.drop d))
  | 0, d, hn, hd => by
    have e : T.toList.drop d = [] := by simp; (first | lia | omega)
    rw [e]
    have := SubN.fin (R := [13, 10]) hd (nx2_fin (T := T) (s := d) (by (first | lia | omega)))
    rw [e] at this
    exact this
  | n + 1, d, hn, hd => by
    by_cases hlt : d < T.size
    · have ih := sub2_all T n (d + 1) (by (first | lia | omega)) (by (first | lia | omega))
      rw [drop_at hlt, q2]
      by_cases h13 : T.getD d 0 = 13
      · rw [if_pos h13]
        by_cases hn2 : d + 1 < T.size ∧ T.getD (d + 1) 0 = 10
        · have he : end2 T d = d + 2 := by
            unfold end2; rw [if_pos]; simp only [Bool.and_eq_true, decide_eq_true_eq, beq_iff_eq]; exact ⟨h13, hn2⟩
          have ih2 := sub2_all T n (d + 2) (by (first | lia | omega)) (by (first | lia | omega))
          rw [drop_at hn2.1, hn2.2, q2, if_neg (by decide), if_pos rfl, if_pos rfl]
          have hit := nx2_hit (T := T) (s := d) hlt (by rw [h13]; rfl)
          rw [he] at hit
          exact .here (R := [13, 10]) (by (first | lia | omega)) (by (first | lia | omega)) hit ih2
        · have he : end2 T d = d + 1 := by
            unfold end2; rw [if_neg]; simp only [Bool.and_eq_true, decide_eq_true_eq, beq_iff_eq]; exact fun q => hn2 q.2
          have hfree : (T.toList.drop (d + 1)).head? ≠ some 10 := by
            intro q
            by_cases hl : d + 1 < T.size
            · rw [drop_at hl] at q
              simp only [List.head?_cons, Option.some.injEq] at q
              exact hn2 ⟨hl, q⟩
            · have : T.toList.drop (d + 1) = [] := by simp; (first | lia | omega)
              rw [this] at q; cases q
          rw [q2_free hfree]
          have hit := nx2_hit (T := T) (s := d) hlt (by rw [h13]; rfl)
          rw [he] at hit
          exact .here (R := [13, 10]) (by (first | lia | omega)) (by (first | lia | omega)) hit ih
      · rw [if_neg h13]
        by_cases h10 : T.getD d 0 = 10
        · have he : end2 T d = d + 1 := by
            unfold end2; rw [if_neg]; simp only [Bool.and_eq_true, decide_eq_true_eq, beq_iff_eq]; exact fun q => h13 q.1
          rw [if_pos h10, if_neg Bool.false_ne_true]
          have hit := nx2_hit (T := T) (s := d) hlt (by rw [h10]; rfl)
          rw [he] at hit
          exact .here (R := [13, 10]) (by (first | lia | omega)) (by (first | lia | omega)) hit ih
        · rw [if_neg h10]
          exact .skip hlt (get_at hlt) (fun o hn => nx2_skip hlt (by rw [beq_eq_false_iff_ne.mpr h10, beq_eq_false_iff_ne.mpr h13]; rfl) hn) ih
    · have e : T.toList.drop d = [] := by simp; (first | lia | omega)
      rw [e]
      have := SubN.fin (R := [13, 10]) hd (nx2_fin (T := T) (s := d) (by (first | lia | omega)))
      rw [e] at this
      exact this
noncomputable def Nx (C T : Array Nat) (d : Nat) (o : Option (Nat × Nat)) : Prop := Ends (Sre.forSearch C T 0 d T.size false) (4 * T.size + 40) o
theorem sub1_is (T : Array Nat) : SubN T [46, 46] (Nx C1 T) 0 (q1 true T.toList) := by
  have := sub1_all T T.size 0 rfl (Nat.zero_le _)
  refine SubN.imp (fun d o hd ho hn => ?_) this
  by_cases h : d < T.size
  · exact (search1 h hn).more (by (first | lia | omega))
  · obtain rfl : d = T.size := by (first | lia | omega)
    obtain rfl := ho.resolve_right h
    exact search1_end.more (by (first | lia | omega))
theorem sub2_is (T : Array Nat) : SubN T [13, 10] (Nx C2 T) 0 (q2 false T.toList) := by
  have := sub2_all T T.size 0 (by (first | lia | omega)) (Nat.zero_le _)
  refine SubN.imp (fun d o hd ho hn => ?_) this
  by_cases h : d < T.size
  · exact (search2 h hn).more (by (first | lia | omega))
  · obtain rfl : d = T.size := by (first | lia | omega)
    obtain rfl := ho.resolve_right h
    exact search2_end.more (by (first | lia | omega))
end Mine
end

section
set_option maxRecDepth 100000
set_option linter.unusedVariables false
set_option linter.unusedSimpArgs false
namespace Mine
open PySem PySem.W PySem.Calls PyProof.Rows
open PySem.Sre (M)
open PySem.Builtin.Re

theorem pa_re : PlainAttrs "re.Pattern" :=
  ⟨⟨"object.__getattribute__", by rw [typeLookup_type, builtinLookup_eq_fast]; kernel_rfl, by decide +kernel⟩, by rw [typeLookup_type, builtinLookup_eq_fast]; kernel_rfl⟩
theorem slot_re_sub : Slot "re.Pattern" "sub" "re.Pattern.sub" :=
  .of (owner := "re.Pattern") (n := "sub") (by rw [typeLookup_type, builtinLookup_eq_fast]; kernel_rfl) (by decide +kernel) (by decide +kernel) (by decide +kernel)
    (by first | exact .inl (by decide +kernel) | exact .inr (by decide +kernel)) (by rw [isSubtype_type]; kernel_rfl)
theorem type_re_sub : typeOf (.builtin "re.Pattern.sub") = pure (.type "method_descriptor") := by show builtinType _ = _; rw [builtinType_eq_fast]; kernel_rfl
theorem entry_re_sub : entryFor table "re.Pattern.sub" = some Builtin.«re.Pattern.sub» := entryFor_of_tree (by kernel_rfl)
theorem args_re_sub (a b c : Value) : argsOk "re.Pattern.sub" ⟨[a, b, c], []⟩ := by unfold argsOk; kernel_rfl
theorem plain_re_loop : plainId "re.Pattern.sub.loop" = true := by decide +kernel
theorem entry_re_loop : entryFor table "re.Pattern.sub.loop" = some Builtin.«re.Pattern.sub.loop» := entryFor_of_tree (by kernel_rfl)

section
variable {Mo : Model} {A : Around} {E : Value → Shared → Prop} {s : Shared}
theorem ends_now {e : M} {o : Option (Nat × Nat)} (h : EndIs e o) : e.outcome.isSome = true := by
  cases o with
  | none => rw [show e.outcome = _ from h]; rfl
  | some p => rw [show e.outcome = _ from h.1]; rfl
theorem wp_drive {o : Option (Nat × Nat)} {Q : M → Shared → Prop} (hQ : ∀ e, EndIs e o → Q e s) : ∀ (T n : Nat) (m : M), n < 4 * T → Ends m n o → wpAny Mo A (reDrive T m) Q E s
  | 0, n, m, hn, _ => absurd hn (by (first | lia | omega))
  | T + 1, n, m, hn, h => by
    obtain ⟨k, hk, he⟩ := h.ex
    have fin := ends_now he
    rw [reDrive, runFor_eq]
    by_cases h4 : k ≤ 4
    · have e4 : stepN 4 m = stepN k m := by
        rw [show 4 = k + (4 - k) by (first | lia | omega), stepN_add, stepN_fix fin]
      have e4' : stepN reTurnSteps m = stepN k m := e4
      rw [e4']
      rw [if_pos fin]
      exact wpAny_pure (hQ _ he)
    · have ek : stepN k m = stepN (k - 4) (stepN reTurnSteps m) := by
        show stepN k m = stepN (k - 4) (stepN 4 m)
        rw [← stepN_add, show 4 + (k - 4) = k by (first | lia | omega)]
      by_cases h0 : (stepN reTurnSteps m).outcome.isSome = true
      · rw [if_pos h0]
        rw [ek, stepN_fix h0] at he
        exact wpAny_pure (hQ _ he)
      · rw [if_neg h0]
        refine wpAny_bind (wpAny_rule ?_)
        exact wp_drive hQ T (n - 4) _ (by (first | lia | omega)) ⟨k - 4, by (first | lia | omega), ek ▸ he⟩
theorem wp_seen (m : M) {Q : Unit → Shared → Prop} (h : Q () s) : ∀ l : List Nat, wpAny Mo A (forIn l PUnit.unit fun i r => do
    if m.seen.has i = true then do rule (Sre.names.getD i ""); pure (ForInStep.yield PUnit.unit) else pure (ForInStep.yield PUnit.unit)) Q E s
  | [] => by rw [List.forIn_nil]; exact wpAny_pure h
  | i :: l => by
    rw [List.forIn_cons]
    refine wpAny_bind ?_
    split
    · exact wpAny_bind (wpAny_rule (wpAny_pure (wp_seen m h l)))
    · exact wpAny_pure (wp_seen m h l)
theorem wp_toEnd {o : Option (Nat × Nat)} {Q : Option M → Shared → Prop} {n : Nat} {m : M} (hn : n < 2 ^ 62) (h : Ends m n o) (hQ : ∀ e, EndIs e o → Q (o.map fun _ => e) s) : wpAny Mo A (reRunToEnd m) Q E s := by
  unfold reRunToEnd
  refine wpAny_bind (wp_drive (o := o) (fun e he => ?_) (2 ^ 64) n m (by (first | lia | omega)) h)
  refine wpAny_bind (wp_seen e ?_ _)
  have hq := hQ e he
  cases o with
  | none =>
    rw [show e.outcome = _ from he]
    exact wpAny_pure hq
  | some p =>
    rw [show e.outcome = _ from he.1]
    exact wpAny_pure hq
end
end Mine
end

section
set_option maxRecDepth 100000
set_option linter.unusedVariables false
set_option linter.unusedSimpArgs false
namespace Mine
open PySem PySem.W PySem.Calls PyProof.Rows

/-! the sorting of a short list, its questions answered by a strict order -/
noncomputable def kev {α : Type} (lt : Nat → Nat → Bool) : KasT α → α
  | .ret a => a
  | .ask i j k => kev lt (k (lt i j))
theorem kev_bind {α β : Type} (lt : Nat → Nat → Bool) (f : α → KasT β) : ∀ t : KasT α, kev lt (t.bind f) = kev lt (f (kev lt t))
  | .ret _ => rfl
  | .ask i j k => by
    show kev lt ((k (lt i j)).bind f) = kev lt (f (kev lt (k (lt i j))))
    exact kev_bind lt f (k (lt i j))
theorem kev_wp {α : Type} {lt : Nat → Nat → Bool} {cmp : Nat → Nat → (Bool → Shared → Prop) → Shared → Prop} {s : Shared} (hc : ∀ i j C, C (lt i j) s → cmp i j C s) {Q : α → Shared → Prop} : ∀ t : KasT α, Q (kev lt t) s → t.kasWp cmp Q s
  | .ret _, h => h
  | .ask i j k, h => hc i j _ (kev_wp hc (k (lt i j)) h)
structure Ord (lt : Nat → Nat → Bool) : Prop where
  trans : ∀ a b c, lt a b = true → lt b c = true → lt a c = true
  tot : ∀ a b, a ≠ b → lt a b = false → lt b a = true
noncomputable def gx (p : Array Nat) (i : Nat) : Nat := p.getD i 0
noncomputable def Asc (lt : Nat → Nat → Bool) (p : Array Nat) (k : Nat) : Prop := ∀ i j, i < j → j < k → lt (gx p i) (gx p j) = true
noncomputable def Dsc (lt : Nat → Nat → Bool) (p : Array Nat) (k : Nat) : Prop := ∀ i j, i < j → j < k → lt (gx p j) (gx p i) = true
noncomputable def Inj (p : Array Nat) : Prop := ∀ i j, i < j → j < p.size → gx p i ≠ gx p j
theorem gx_eq (p : Array Nat) (i : Nat) : gx p i = p[i]?.getD 0 := by unfold gx; rw [Array.getD_eq_getD_getElem?]
theorem inj_of_nodup {p : Array Nat} (h : p.toList.Nodup) : Inj p := fun i j hij hj e => by
  have hi : i < p.size := by (first | lia | omega)
  have h1 : p.toList[i]? = some (gx p i) := by rw [gx_eq]; simp [hi]
  have h2 : p.toList[j]? = some (gx p j) := by rw [gx_eq]; simp [hj]
  rw [e] at h1
  have := (List.getElem?_inj (by simp; (first | lia | omega)) h).mp (h1.trans h2.symm)
  (first | lia | omega)
theorem inj_perm {p q : Array Nat} (h : q.Perm p) (hn : p.toList.Nodup) : q.toList.Nodup := (h.toList.nodup_iff).mpr hn
section
variable {lt : Nat → Nat → Bool} (O : Ord lt)
include O
theorem asc_ok {p : Array Nat} (hI : Inj p) : ∀ (f n : Nat), 1 ≤ n → n + f ≤ p.size → Asc lt p n → n ≤ kev lt (kas_asc p f n) ∧ kev lt (kas_asc p f n) ≤ n + f ∧ Asc lt p (kev lt (kas_asc p f n)) ∧ (kev lt (kas_asc p f n) < n + f → lt (gx p (kev lt (kas_asc p f n))) (gx p (kev lt (kas_asc p f n) - 1)) = true)
  | 0, n, h1, hz, ha => ⟨Nat.le_refl _, Nat.le_refl _, ha, fun h => absurd h (Nat.lt_irrefl _)⟩
  | f + 1, n, h1, hz, ha => by
    show n ≤ kev lt (if lt (gx p n) (gx p (n - 1)) = true then .ret n else kas_asc p f (n + 1)) ∧ kev lt (if lt (gx p n) (gx p (n - 1)) = true then .ret n else kas_asc p f (n + 1)) ≤ _ ∧ Asc lt p (kev lt (if lt (gx p n) (gx p (n - 1)) = true then .ret n else kas_asc p f (n + 1))) ∧
      (kev lt (if lt (gx p n) (gx p (n - 1)) = true then .ret n else kas_asc p f (n + 1)) < _ → lt (gx p (kev lt (if lt (gx p n) (gx p (n - 1)) = true then .ret n else kas_asc p f (n + 1)))) (gx p (kev lt (if lt (gx p n) (gx p (n - 1)) = true then .ret n else kas_asc p f (n + 1)) - 1)) = true)
    cases h : lt (gx p n) (gx p (n - 1)) with
    | true =>
      rw [if_pos rfl]
      exact ⟨Nat.le_refl _, by show n ≤ _; (first | lia | omega), ha, fun _ => h⟩
    | false =>
      rw [if_neg Bool.false_ne_true]
      have up : lt (gx p (n - 1)) (gx p n) = true := O.tot _ _ (fun e => hI (n - 1) n (by (first | lia | omega)) (by (first | lia | omega)) e.symm) h
      have ha' : Asc lt p (n + 1) := fun i j hij hj => by
        by_cases hjn : j < n
        · exact ha i j hij hjn
        · obtain rfl : j = n := by (first | lia | omega)
          by_cases hi : i = j - 1
          · rw [hi]; exact up
          · exact O.trans _ _ _ (ha i (j - 1) (by (first | lia | omega)) (by (first | lia | omega))) up
      obtain ⟨a, b, c, d⟩ := asc_ok hI f (n + 1) (by (first | lia | omega)) (by (first | lia | omega)) ha'
      exact ⟨by (first | lia | omega), by (first | lia | omega), c, fun q => d (by (first | lia | omega))⟩
theorem desc_ok {p : Array Nat} (hI : Inj p) : ∀ (f n : Nat), 1 ≤ n → n + f ≤ p.size → Dsc lt p n → ∃ m, kev lt (kas_desc f p n 0) = (p, m, 0) ∧ n ≤ m ∧ m ≤ n + f ∧ Dsc lt p m
  | 0, n, h1, hz, ha => ⟨n, rfl, Nat.le_refl _, Nat.le_refl _, ha⟩
  | f + 1, n, h1, hz, ha => by
    have e : kev lt (kas_desc (f + 1) p n 0) = kev lt (if lt (gx p n) (gx p (n - 1)) = true then (if 0 > 0 then kas_desc f (kas_rev p (n - (0 + 1)) n) (n + 1) 0 else kas_desc f p (n + 1) 0)
      else .ask (p.getD (n - 1) 0) (p.getD n 0) fun d => if d = true then .ret (p, n, 0) else kas_desc f p (n + 1) (0 + 1)) := rfl
    rw [e]
    cases h : lt (gx p n) (gx p (n - 1)) with
    | true =>
      rw [if_pos rfl, if_neg (by (first | lia | omega))]
      have ha' : Dsc lt p (n + 1) := fun i j hij hj => by
        by_cases hjn : j < n
        · exact ha i j hij hjn
        · obtain rfl : j = n := by (first | lia | omega)
          by_cases hi : i = j - 1
          · rw [hi]; exact h
          · exact O.trans _ _ _ h (ha i (j - 1) (by (first | lia | omega)) (by (first | lia | omega)))
      obtain ⟨m, a, b, c, d⟩ := desc_ok hI f (n + 1) (by (first | lia | omega)) (by (first | lia | omega)) ha'
      exact ⟨m, a, by (first | lia | omega), by (first | lia | omega), d⟩
    | false =>
      rw [if_neg Bool.false_ne_true]
      have up : lt (gx p (n - 1)) (gx p n) = true := O.tot _ _ (fun e => hI (n - 1) n (by (first | lia | omega)) (by (first | lia | omega)) e.symm) h
      refine ⟨n, ?_, Nat.le_refl _, by (first | lia | omega), ha⟩
      show kev lt (if lt (gx p (n - 1)) (gx p n) = true then .ret (p, n, 0) else _) = _
      rw [up, if_pos rfl]; rfl
omit O in
theorem rev_at {p : Array Nat} {m : Nat} (hm : m ≤ p.size) (k : Nat) : gx (kas_rev p 0 m) k = if k < m then gx p (m - 1 - k) else gx p k := by
  have h := getElem?_mirror_all (xs := p) (i := 0) hm k
  rw [gx_eq, gx_eq, gx_eq]
  unfold kas_rev
  rw [h]
  by_cases hk : k < m
  · rw [if_pos ⟨Nat.zero_le _, hk⟩, if_pos hk, Nat.zero_add]
  · rw [if_neg (fun q => hk q.2), if_neg hk]
theorem tail3_ok {p : Array Nat} (hn : p.toList.Nodup) {m : Nat} (h1 : 1 ≤ m) (hm : m ≤ p.size) (hd : Dsc lt p m) : ∃ r p', kev lt (kas_tail3 m p.size p) = (r, p') ∧ p'.Perm p ∧ Asc lt p' r ∧ 1 ≤ r ∧ r ≤ p.size := by
  unfold kas_tail3
  rw [kev_bind]
  have hp : (kas_rev p 0 m).Perm p := mirror_perm _ _ _ _
  have hs : (kas_rev p 0 m).size = p.size := mirror_size _ _ _ _
  have ha : Asc lt (kas_rev p 0 m) m := fun i j hij hj => by
    rw [rev_at hm, rev_at hm, if_pos (by (first | lia | omega)), if_pos hj]
    exact hd (m - 1 - j) (m - 1 - i) (by (first | lia | omega)) (by (first | lia | omega))
  obtain ⟨a, b, c, _⟩ := asc_ok O (inj_of_nodup (inj_perm hp hn)) (p.size - m) m h1 (by (first | lia | omega)) ha
  exact ⟨_, _, rfl, hp, c, by (first | lia | omega), by (first | lia | omega)⟩
theorem count_ok {p : Array Nat} (hn : p.toList.Nodup) (h1 : 1 ≤ p.size) : ∃ r p', kev lt (kas_count p.size p) = (r, p') ∧ p'.Perm p ∧ Asc lt p' r ∧ 1 ≤ r ∧ r ≤ p.size := by
  have hI := inj_of_nodup hn
  unfold kas_count
  rw [kev_bind]
  obtain ⟨a, b, c, d⟩ := asc_ok O hI (p.size - 1) 1 (Nat.le_refl _) (by (first | lia | omega)) (fun i j hij hj => by (first | lia | omega))
  generalize kev lt (kas_asc p (p.size - 1) 1) = n at *
  by_cases hz : n = p.size
  · rw [if_pos (by simpa using hz)]
    exact ⟨n, p, rfl, .refl _, c, a, by (first | lia | omega)⟩
  · rw [if_neg (by simpa using hz)]
    by_cases h2 : n > 1
    · rw [if_pos h2]
      have up : lt (gx p 0) (gx p (n - 1)) = true := c 0 (n - 1) (by (first | lia | omega)) (by (first | lia | omega))
      refine ⟨n, p, ?_, .refl _, c, a, by (first | lia | omega)⟩
      show kev lt (if lt (gx p 0) (gx p (n - 1)) = true then .ret (n, p) else _) = _
      rw [up, if_pos rfl]; rfl
    · rw [if_neg h2]
      obtain rfl : n = 1 := by (first | lia | omega)
      unfold kas_descPart
      rw [kev_bind]
      have hd : Dsc lt p 2 := fun i j hij hj => by
        obtain rfl : i = 0 := by (first | lia | omega)
        obtain rfl : j = 1 := by (first | lia | omega)
        exact d (by (first | lia | omega))
      obtain ⟨m, e, m1, m2, m3⟩ := desc_ok O hI (p.size - (1 + 1)) (1 + 1) (by (first | lia | omega)) (by (first | lia | omega)) hd
      rw [e]
      dsimp only
      rw [if_neg (by (first | lia | omega))]
      exact tail3_ok O hn (by (first | lia | omega)) (by (first | lia | omega)) m3
theorem place_ok {p : Array Nat} (hI : Inj p) {k : Nat} (hk : k < p.size) (ha : Asc lt p k) : ∀ (f l r : Nat), l ≤ r → r ≤ k → r - l ≤ f → (∀ i, i < l → lt (gx p i) (gx p k) = true) → (∀ i, r ≤ i → i < k → lt (gx p k) (gx p i) = true) →
    kev lt (kas_place p k f l r) ≤ k ∧ (∀ i, i < kev lt (kas_place p k f l r) → lt (gx p i) (gx p k) = true) ∧ (∀ i, kev lt (kas_place p k f l r) ≤ i → i < k → lt (gx p k) (gx p i) = true)
  | 0, l, r, h1, h2, h3, h4, h5 => by
    obtain rfl : l = r := by (first | lia | omega)
    exact ⟨h2, h4, h5⟩
  | f + 1, l, r, h1, h2, h3, h4, h5 => by
    unfold kas_place
    by_cases hlr : l ≥ r
    · rw [if_pos hlr]
      obtain rfl : l = r := by (first | lia | omega)
      exact ⟨h2, h4, h5⟩
    · rw [if_neg hlr]
      have e : kev lt (.ask (p.getD k 0) (p.getD ((l + r) / 2) 0) fun c => if c = true then kas_place p k f l ((l + r) / 2) else kas_place p k f ((l + r) / 2 + 1) r) = kev lt (if lt (gx p k) (gx p ((l + r) / 2)) = true then kas_place p k f l ((l + r) / 2) else kas_place p k f ((l + r) / 2 + 1) r) := rfl
      rw [e]
      have hm1 : l ≤ (l + r) / 2 := by (first | lia | omega)
      have hm2 : (l + r) / 2 < r := by (first | lia | omega)
      generalize (l + r) / 2 = mid at *
      cases h : lt (gx p k) (gx p mid) with
      | true =>
        rw [if_pos rfl]
        refine place_ok hI hk ha f l mid hm1 (by (first | lia | omega)) (by (first | lia | omega)) h4 fun i hi hik => ?_
        by_cases q : i = mid
        · rw [q]; exact h
        · exact O.trans _ _ _ h (ha mid i (by (first | lia | omega)) hik)
      | false =>
        rw [if_neg Bool.false_ne_true]
        have up : lt (gx p mid) (gx p k) = true := O.tot _ _ (fun e => hI mid k (by (first | lia | omega)) hk e.symm) h
        refine place_ok hI hk ha f (mid + 1) r (by (first | lia | omega)) h2 (by (first | lia | omega)) (fun i hi => ?_) h5
        by_cases q : i = mid
        · rw [q]; exact up
        · exact O.trans _ _ _ (ha i mid (by (first | lia | omega)) (by (first | lia | omega))) up
omit O in
theorem bubble_at {p : Array Nat} {k l : Nat} (hk : k < p.size) (hl : l ≤ k) (i : Nat) : gx (bubble p k (k - l)) i = if i = l then gx p k else if l < i ∧ i ≤ k then gx p (i - 1) else gx p i := by
  have h := getElem?_bubble (xs := p) hk (k - l) (by (first | lia | omega)) i
  rw [show k - (k - l) = l by (first | lia | omega)] at h
  rw [gx_eq, gx_eq, gx_eq, gx_eq, h]
  repeat' split
  all_goals rfl
theorem bin_ok : ∀ (f : Nat) (p : Array Nat) (k : Nat), p.toList.Nodup → 1 ≤ k → k + f = p.size → Asc lt p k → (kev lt (kas_bin f p k)).Perm p ∧ Asc lt (kev lt (kas_bin f p k)) p.size
  | 0, p, k, hn, h1, hz, ha => ⟨.refl _, by rw [← hz]; exact ha⟩
  | f + 1, p, k, hn, h1, hz, ha => by
    unfold kas_bin
    rw [kev_bind]
    have hI := inj_of_nodup hn
    obtain ⟨a, b, c⟩ := place_ok O hI (k := k) (by (first | lia | omega)) ha k 0 k (Nat.zero_le _) (Nat.le_refl _) (by (first | lia | omega)) (fun i hi => absurd hi (Nat.not_lt_zero _)) (fun i hi hik => absurd hik (Nat.not_lt.mpr hi))
    generalize kev lt (kas_place p k k 0 k) = l at *
    have hp : (bubble p k (k - l)).Perm p := bubble_perm _ _ _
    have hs : (bubble p k (k - l)).size = p.size := bubble_size _ _ _
    have ha' : Asc lt (bubble p k (k - l)) (k + 1) := fun i j hij hj => by
      have hk : k < p.size := by (first | lia | omega)
      rw [bubble_at hk a, bubble_at hk a]
      by_cases hi : i = l
      · subst hi
        rw [if_pos rfl, if_neg (by (first | lia | omega)), if_pos (by (first | lia | omega))]
        exact c (j - 1) (by (first | lia | omega)) (by (first | lia | omega))
      · rw [if_neg hi]
        by_cases hjl : j = l
        · subst hjl
          rw [if_pos rfl, if_neg (by (first | lia | omega))]
          exact b i hij
        · rw [if_neg hjl]
          by_cases hil : l < i
          · rw [if_pos ⟨hil, by (first | lia | omega)⟩, if_pos ⟨by (first | lia | omega), by (first | lia | omega)⟩]
            exact ha (i - 1) (j - 1) (by (first | lia | omega)) (by (first | lia | omega))
          · rw [if_neg (by (first | lia | omega))]
            by_cases hjl2 : l < j
            · rw [if_pos ⟨hjl2, by (first | lia | omega)⟩]
              exact ha i (j - 1) (by (first | lia | omega)) (by (first | lia | omega))
            · rw [if_neg (by (first | lia | omega))]
              exact ha i j hij (by (first | lia | omega))
    obtain ⟨x, y⟩ := bin_ok f (bubble p k (k - l)) (k + 1) (inj_perm hp hn) (by (first | lia | omega)) (by (first | lia | omega)) ha'
    exact ⟨x.trans hp, by rw [hs] at y; exact y⟩
theorem sort_ok {n : Nat} (h1 : 1 ≤ n) : (kev lt (kas_sort n)).toList.Perm (List.range n) ∧ (kev lt (kas_sort n)).toList.Pairwise (fun a b => lt a b = true) := by
  have hn : (List.toArray (List.range n)).toList.Nodup := by simpa using List.nodup_range
  have hs : (List.toArray (List.range n)).size = n := by simp
  have key : (kev lt (kas_sort n)).Perm (List.toArray (List.range n)) ∧ Asc lt (kev lt (kas_sort n)) n := by
    unfold kas_sort
    rw [kev_bind]
    obtain ⟨r, p', e, hp, ha, r1, r2⟩ := count_ok O hn (by rw [hs]; exact h1)
    rw [hs] at e r2
    rw [e]
    dsimp only
    have hps : p'.size = n := by rw [hp.size_eq, hs]
    by_cases hr : r < n
    · rw [if_pos hr, show max r 1 = r by (first | lia | omega)]
      obtain ⟨x, y⟩ := bin_ok O (n - r) p' r (inj_perm hp hn) r1 (by (first | lia | omega)) ha
      exact ⟨x.trans hp, by rw [hps] at y; exact y⟩
    · rw [if_neg hr]
      obtain rfl : r = n := by (first | lia | omega)
      exact ⟨hp, ha⟩
  refine ⟨by simpa using key.1.toList, ?_⟩
  have hsz : (kev lt (kas_sort n)).size = n := by rw [key.1.size_eq, hs]
  rw [List.pairwise_iff_getElem]
  intro i j hi hj hij
  have h2 := key.2 i j hij (by simpa [hsz] using hj)
  rw [gx_eq, gx_eq] at h2
  have hi' : i < (kev lt (kas_sort n)).size := by simpa using hi
  have hj' : j < (kev lt (kas_sort n)).size := by simpa using hj
  rw [Array.getElem?_eq_getElem hi', Array.getElem?_eq_getElem hj'] at h2
  simpa using h2
end

/-! which questions are asked -/
noncomputable def AskB (n : Nat) {α : Type} (P : α → Prop) : KasT α → Prop
  | .ret a => P a
  | .ask i j k => i < n ∧ j < n ∧ ∀ b, AskB n P (k b)
theorem askB_bind {n : Nat} {α β : Type} {P : α → Prop} {Q : β → Prop} {f : α → KasT β} (hf : ∀ a, P a → AskB n Q (f a)) : ∀ t : KasT α, AskB n P t → AskB n Q (t.bind f)
  | .ret a, h => hf a h
  | .ask i j k, h => ⟨h.1, h.2.1, fun b => askB_bind hf (k b) (h.2.2 b)⟩
noncomputable def AllLt (n : Nat) (p : Array Nat) : Prop := ∀ x ∈ p.toList, x < n
theorem allLt_perm {n : Nat} {p q : Array Nat} (h : q.Perm p) (a : AllLt n p) : AllLt n q := fun x hx => a x (h.toList.mem_iff.mp hx)
section
variable {n : Nat} (h1 : 1 ≤ n)
include h1
theorem allLt_at {p : Array Nat} (a : AllLt n p) (i : Nat) : p.getD i 0 < n := by
  rw [Array.getD_eq_getD_getElem?]
  cases h : p[i]? with
  | none => exact h1
  | some x =>
    obtain ⟨hi, e⟩ := Array.getElem?_eq_some_iff.mp h
    refine a x ?_
    rw [← e]; simp
theorem b_asc {p : Array Nat} (a : AllLt n p) : ∀ (f m : Nat), AskB n (fun _ => True) (kas_asc p f m)
  | 0, m => trivial
  | f + 1, m => ⟨allLt_at h1 a _, allLt_at h1 a _, fun b => by
      cases b with
      | true => trivial
      | false => dsimp only; rw [if_neg Bool.false_ne_true]; exact b_asc a f (m + 1)⟩
theorem b_desc : ∀ (f : Nat) {p : Array Nat} (m q : Nat), AllLt n p → AskB n (fun r => AllLt n r.1) (kas_desc f p m q)
  | 0, p, m, q, a => a
  | f + 1, p, m, q, a => ⟨allLt_at h1 a _, allLt_at h1 a _, fun b => by
      cases b with
      | true =>
        dsimp only
        rw [if_pos rfl]
        split
        · exact b_desc f _ _ (allLt_perm (mirror_perm _ _ _ _) a)
        · exact b_desc f _ _ a
      | false =>
        dsimp only
        rw [if_neg Bool.false_ne_true]
        refine ⟨allLt_at h1 a _, allLt_at h1 a _, fun b => ?_⟩
        cases b with
        | true => dsimp only; rw [if_pos rfl]; exact a
        | false => dsimp only; rw [if_neg Bool.false_ne_true]; exact b_desc f _ _ a⟩
theorem b_tail3 {p : Array Nat} (a : AllLt n p) (m k : Nat) : AskB n (fun r => AllLt n r.2) (kas_tail3 m k p) :=
  have a' : AllLt n (kas_rev p 0 m) := allLt_perm (mirror_perm _ _ _ _) a
  askB_bind (n := n) (P := fun _ => True) (Q := fun r : Nat × Array Nat => AllLt n r.2) (f := fun i => .ret (i, kas_rev p 0 m)) (fun i _ => show AllLt n (i, kas_rev p 0 m).2 from a') _ (b_asc h1 a' _ _)
theorem b_descPart {p : Array Nat} (a : AllLt n p) (m k : Nat) : AskB n (fun r => AllLt n r.2) (kas_descPart m k p) :=
  askB_bind (fun r hr => by
    split
    · exact b_tail3 h1 (allLt_perm (mirror_perm _ _ _ _) hr) _ _
    · exact b_tail3 h1 hr _ _) _ (b_desc h1 _ _ _ a)
theorem b_count {p : Array Nat} (a : AllLt n p) (k : Nat) : AskB n (fun r => AllLt n r.2) (kas_count k p) :=
  askB_bind (fun m _ => by
    split
    · exact a
    · split
      · refine ⟨allLt_at h1 a _, allLt_at h1 a _, fun b => ?_⟩
        cases b with
        | true => dsimp only; rw [if_pos rfl]; exact a
        | false => dsimp only; rw [if_neg Bool.false_ne_true]; exact b_descPart h1 (allLt_perm (mirror_perm _ _ _ _) a) _ _
      · exact b_descPart h1 a _ _) _ (b_asc h1 a _ _)
theorem b_place {p : Array Nat} (a : AllLt n p) (k : Nat) : ∀ (f l r : Nat), AskB n (fun _ => True) (kas_place p k f l r)
  | 0, l, r => trivial
  | f + 1, l, r => by
    unfold kas_place
    split
    · trivial
    · refine ⟨allLt_at h1 a _, allLt_at h1 a _, fun b => ?_⟩
      cases b with
      | true => dsimp only; rw [if_pos rfl]; exact b_place a k f _ _
      | false => dsimp only; rw [if_neg Bool.false_ne_true]; exact b_place a k f _ _
theorem b_bin : ∀ (f : Nat) (p : Array Nat) (k : Nat), AllLt n p → AskB n (fun _ => True) (kas_bin f p k)
  | 0, p, k, a => trivial
  | f + 1, p, k, a => askB_bind (fun l _ => b_bin f _ _ (allLt_perm (bubble_perm _ _ _) a)) _ (b_place h1 a _ _ _ _)
theorem b_sort : AskB n (fun _ => True) (kas_sort n) :=
  askB_bind (fun r hr => by
    split
    · exact b_bin h1 _ _ _ hr
    · trivial) _ (b_count h1 (fun x hx => by simpa using hx) _)
end
theorem kev_wpB {n : Nat} {α : Type} {lt : Nat → Nat → Bool} {cmp : Nat → Nat → (Bool → Shared → Prop) → Shared → Prop} {s : Shared} (hc : ∀ i j C, i < n → j < n → C (lt i j) s → cmp i j C s) {P : α → Prop} {Q : α → Shared → Prop} : ∀ t : KasT α, AskB n P t → Q (kev lt t) s → t.kasWp cmp Q s
  | .ret _, _, h => h
  | .ask i j k, a, h => hc i j _ a.1 a.2.1 (kev_wpB hc (k (lt i j)) (a.2.2 _) h)
end Mine
end

section
set_option maxRecDepth 100000
set_option linter.unusedVariables false
set_option linter.unusedSimpArgs false
namespace Mine
open PySem PySem.W PySem.Calls PyProof.Rows
open PySem.Builtin.Re

noncomputable def PatAt (h : Heap) (a : Addr) (C : Array Nat) : Prop := ∃ o v0 v1 b ob items n, h.get? a = some o ∧ o.cls = .type "re.Pattern" ∧ o.dict = none ∧ o.data = .fields #[v0, v1, .int 0 0, .none, .none, .ref b, .int 0 0] ∧ h.get? b = some ob ∧ ob.data = .seq items n ∧ (items.map reRawOf).map (·.toNat) = C
theorem PatAt.keep {h h' : Heap} {a : Addr} {C : Array Nat} (x : PatAt h a C) (k : ∀ b o, h.get? b = some o → h'.get? b = some o) : PatAt h' a C := by
  obtain ⟨o, v0, v1, b, ob, items, n, h1, h2, h3, h4, h5, h6, h7⟩ := x
  exact ⟨o, v0, v1, b, ob, items, n, k _ _ h1, h2, h3, h4, k _ _ h5, h6, h7⟩
section
variable {Mo : Model} {A : Around} {E : Value → Shared → Prop} {s : Shared}
theorem wp_whole {a : Addr} {C : Array Nat} {x : Str} {t : Tok} {Q : ReTarget → Shared → Prop} (hp : PatAt s.heap a C) (h : Q ⟨.ref a, .str x t, C, x.cps, 0, 0, 0, x.cps.size⟩ s) : wpAny Mo A (reWholeTarget (.ref a) (.str x t)) Q E s := by
  obtain ⟨o, v0, v1, b, ob, items, n, h1, h2, h3, h4, h5, h6, rfl⟩ := hp
  unfold reWholeTarget
  refine wpAny_bind (wpAny_fieldsOf h1 h4 ?_)
  show wpAny _ _ (reRawItems (.ref b) >>= fun c => pure _) _ _ s
  refine wpAny_bind ?_
  unfold reRawItems
  refine wpAny_bind (wpAny_seqItems h5 h6 (wpAny_pure (wpAny_pure ?_)))
  exact h
theorem push_L {L : Addr} {vs : Array Value} {v : Value} {Q : Unit → Shared → Prop} (hl : s.heap.PlainList L vs) (hsz : vs.size ≤ sizeLine) (h : ∀ h', h'.PlainList L (vs.push v) → KeepX [L] s.heap h' → Q () { s with heap := h' }) : wpAny Mo A (updateSeq L (·.push v)) Q E s := by
  obtain ⟨n, ho⟩ := hl
  refine wpAny_updateSeq ho rfl (h _ ⟨n + 1, ?_⟩ (sameBut_x (Heap.SameBut.update ..))) hsz (by rw [Array.size_push]; (first | lia | omega))
  rw [Heap.get?_update_self _ ho (by rw [Obj.mapSeq_push_plain]; rfl), Obj.mapSeq_push_plain]
end
theorem slice_T (x : Str) (b e : Nat) : (⟨x.cps.extract b e⟩ : Str) = T_ ((x.cps.toList.take e).drop b) := by
  unfold T_
  congr 1
  apply Array.ext'
  simp [Array.toList_extract, List.extract_eq_take_drop]
  rw [List.drop_take]
theorem loop_re {w : World} {A : Around} {x : Str} {R : List Nat} {t u : Tok} {a L : Addr} {C : Array Nat} {s₀ : Shared} {Res : Result → Shared → Prop} (hp : PatAt s₀.heap a C) (hL : s₀.heap.get? L = none) (hx : x.cps.size ≤ 2 ^ 20) {d : Nat} {r : List Nat} (sub : SubN x.cps R (Nx C x.cps) d r) :
    ∀ (s : Shared) (acc : List (List Nat)) (vs : Array Value) (n : Int), Keeps s₀ s → s.heap.PlainList L vs → Paired Atom vs.toList (acc.map PA.str) → vs.size + 2 * (x.cps.size - d) + 1 ≤ 2 ^ 24 → (acc.flatten ++ r).length ≤ 2 ^ 24 →
    (∀ s' t', Keeps s₀ s' → Res (.ok (.ret (.str (T_ (acc.flatten ++ r)) t'))) s') →
    codeAny (model p0 w) A (.builtin "re.Pattern.sub.loop" ⟨[.ref a, .str x t, .str (T_ R) u, rawInt 0, rawInt 0, rawInt n, rawInt d, rawInt d, .bool false, .ref L, .bool false], []⟩) Res s := by
  have key : ∀ {s s' : Shared} {h' : Heap}, Keeps s₀ s → s' = { s with heap := h' } → KeepX [L] s.heap h' → Keeps s₀ s' := fun {s s' h'} k e kx => by
    obtain ⟨h1, t1, rfl, k1⟩ := k
    exact ⟨h', t1, e, fun b o e => kx b o (fun q => by simp at q; subst q; rw [hL] at e; cases e) (k1 b o e)⟩
  induction sub with
  | fin hd hn =>
    intro s acc vs n hk hl hv hsz hlen fin
    rename_i d
    refine codeAny_builtin entry_re_loop ?_
    rw [Around.under_plainId plain_re_loop]
    unfold Builtin.«re.Pattern.sub.loop»
    show wpAny _ _ (reWholeTarget (.ref a) (.str x t) >>= _) _ _ s
    refine wpAny_bind (wp_whole (hp.keep (keeps_get hk)) ?_)
    show wpAny _ _ (reRunToEnd (Sre.forSearch C x.cps 0 d x.cps.size false) >>= _) _ _ s
    refine wpAny_bind (wp_toEnd (by (first | lia | omega)) hn fun e he => ?_)
    have tail : ∀ (s : Shared) (vs : Array Value) (acc : List (List Nat)), Keeps s₀ s → s.heap.PlainList L vs → Paired Atom vs.toList (acc.map PA.str) → vs.size ≤ 2 ^ 24 → acc.flatten.length ≤ 2 ^ 24 → (∀ s' t', Keeps s₀ s' → Res (.ok (.ret (.str (T_ acc.flatten) t'))) s') →
        wpAny (model p0 w) A.in1 (do
          let joiner ← reSlice x.cps 0 0 0
          let __do_lift ← seqItems? (Value.ref L)
          if (__do_lift.getD #[]).isEmpty = true then do { let text ← pure joiner; ret text } else do { let text ← call (.builtin "str.join") [joiner, .ref L]; ret text }) (fun fin s' => match fin with | .done f => Res (.ok f) s' | .again c' => c'.quiet = true ∧ codeAny (model p0 w) A c' Res s') (fun e s' => Res (.error e) s') s := fun s vs acc hk hl hv hsz hlen fin => by
      refine wpAny_bind (wpAny_mkStr ?_ (by show (x.cps.extract 0 0).size ≤ _; simp))
      obtain ⟨n, ho⟩ := hl
      refine wpAny_bind (wpAny_seqItems (s := { s with toks := s.toks + 1 }) ho rfl ?_)
      have hk1 : Keeps s₀ { s with toks := s.toks + 1 } := keeps_trans hk keeps_tok
      rw [slice_T]
      have e0 : (x.cps.toList.take 0).drop 0 = [] := by simp
      rw [e0]
      by_cases hemp : vs.isEmpty = true
      · rw [if_pos (by simpa using hemp)]
        have hacc : acc = [] := by
          have : vs = #[] := by simpa using hemp
          subst this
          cases acc with
          | nil => rfl
          | cons _ _ => cases hv
        subst hacc
        exact wpAny_bind (wpAny_pure (wpAny_pure (fin _ _ hk1)))
      · rw [if_neg (by simpa using hemp)]
        refine wpAny_bind (join_list (s := { s with toks := s.toks + 1 }) (Heap.PlainList.isList ⟨n, ho⟩) (strs_items hv) ?_ fun t' k => ?_)
        · have e1 : (acc.map T_).map (·.length) = acc.map List.length := by rw [List.map_map]; apply List.map_congr_left; intro y _; exact T_length y
          rw [e1, T_length]
          rw [List.length_flatten] at hlen
          simpa using hlen
        · have e2 : Txt.join (T_ []) (acc.map T_) = T_ acc.flatten := (StrLaws.glued_eq_join _ _).trans (join_T acc)
          rw [e2]
          exact wpAny_pure (fin _ _ (keeps_trans hk1 keeps_tok))
    show wpAny _ _ (if d < x.cps.size then _ else _) _ _ s
    by_cases hlt : d < x.cps.size
    · rw [if_pos hlt]
      refine wpAny_bind (wpAny_mkStr ?_ (by show (x.cps.extract d x.cps.size).size ≤ _; rw [Array.size_extract]; unfold sizeLine; (first | lia | omega)))
      have hk1 : Keeps s₀ { s with toks := s.toks + 1 } := keeps_trans hk keeps_tok
      refine wpAny_bind (push_L (s := { s with toks := s.toks + 1 }) hl (by unfold sizeLine; (first | lia | omega)) fun h' hl' kx => ?_)
      have hk2 : Keeps s₀ { s with heap := h', toks := s.toks + 1 } := key hk1 rfl kx
      rw [slice_T] at hl'
      change h'.PlainList L (vs.push (.str (T_ ((x.cps.toList.take x.cps.size).drop d)) s.toks)) at hl'
      have ed : (x.cps.toList.take x.cps.size).drop d = x.cps.toList.drop d := by rw [List.take_of_length_le (by simp)]
      rw [ed] at hl'
      refine tail { s with heap := h', toks := s.toks + 1 } _ (acc ++ [x.cps.toList.drop d]) hk2 hl' ?_ (by rw [Array.size_push]; (first | lia | omega)) (by simpa using hlen) (by simpa using fin)
      rw [Array.toList_push, List.map_append]
      exact Paired.append' hv (.cons (.str _ _) .nil)
    · rw [if_neg hlt]
      have ed : x.cps.toList.drop d = [] := by simp; (first | lia | omega)
      rw [ed, List.append_nil] at hlen fin
      exact tail s vs acc hk hl hv (by (first | lia | omega)) hlen fin
  | hit h1 h2 h3 hn sub ih =>
    intro s acc vs n hk hl hv hsz hlen fin
    rename_i d b e' r'
    refine codeAny_builtin entry_re_loop ?_
    rw [Around.under_plainId plain_re_loop]
    unfold Builtin.«re.Pattern.sub.loop»
    show wpAny _ _ (reWholeTarget (.ref a) (.str x t) >>= _) _ _ s
    refine wpAny_bind (wp_whole (hp.keep (keeps_get hk)) ?_)
    show wpAny _ _ (reRunToEnd (Sre.forSearch C x.cps 0 d x.cps.size false) >>= _) _ _ s
    refine wpAny_bind (wp_toEnd (by (first | lia | omega)) hn fun e he => ?_)
    obtain ⟨_, he1, he2⟩ := he
    show wpAny _ _ (if d < e.start then _ else _) _ _ s
    have tail : ∀ (s : Shared) (vs : Array Value) (acc : List (List Nat)), Keeps s₀ s → s.heap.PlainList L vs → Paired Atom vs.toList (acc.map PA.str) → vs.size + 1 + 2 * (x.cps.size - e') + 1 ≤ 2 ^ 24 → (acc.flatten ++ R ++ r').length ≤ 2 ^ 24 → (∀ s' t', Keeps s₀ s' → Res (.ok (.ret (.str (T_ (acc.flatten ++ R ++ r')) t'))) s') →
        wpAny (model p0 w) A.in1 (do
          updateSeq L (·.push (.str (T_ R) u))
          again (.builtin "re.Pattern.sub.loop" ⟨[.ref a, .str x t, .str (T_ R) u, rawInt 0, rawInt 0, rawInt (n + 1), rawInt e.handed, rawInt e.handed, .bool (e.handed == e.start), .ref L, .bool false], []⟩)) (fun fin s' => match fin with | .done f => Res (.ok f) s' | .again c' => c'.quiet = true ∧ codeAny (model p0 w) A c' Res s') (fun e s' => Res (.error e) s') s := fun s vs acc hk hl hv hsz hlen fin => by
      refine wpAny_bind (push_L hl (by unfold sizeLine; (first | lia | omega)) fun h' hl' kx => ?_)
      have hk2 : Keeps s₀ { s with heap := h' } := key hk rfl kx
      refine wpAny_pure ⟨plainId_quiet plain_re_loop _, ?_⟩
      have eb : (e.handed == e.start) = false := by rw [he1, he2]; exact beq_eq_false_iff_ne.mpr (by (first | lia | omega))
      rw [eb, he2]
      refine ih _ (acc ++ [R]) _ _ hk2 hl' ?_ (by rw [Array.size_push]; (first | lia | omega)) (by simpa using hlen) (by simpa using fin)
      rw [Array.toList_push, List.map_append]
      exact Paired.append' hv (.cons (.str _ _) .nil)
    by_cases hlt : d < e.start
    · rw [if_pos hlt]
      refine wpAny_bind (wpAny_mkStr ?_ (by show (x.cps.extract d e.start).size ≤ _; rw [Array.size_extract]; unfold sizeLine; (first | lia | omega)))
      have hk1 : Keeps s₀ { s with toks := s.toks + 1 } := keeps_trans hk keeps_tok
      refine wpAny_bind (push_L (s := { s with toks := s.toks + 1 }) hl (by unfold sizeLine; (first | lia | omega)) fun h' hl' kx => ?_)
      have hk2 : Keeps s₀ { s with heap := h', toks := s.toks + 1 } := key hk1 rfl kx
      rw [slice_T, he1] at hl'
      change h'.PlainList L (vs.push (.str (T_ ((x.cps.toList.take b).drop d)) s.toks)) at hl'
      refine tail { s with heap := h', toks := s.toks + 1 } _ (acc ++ [(x.cps.toList.take b).drop d]) hk2 hl' ?_ (by rw [Array.size_push]; (first | lia | omega)) (by simpa using hlen) (by simpa using fin)
      rw [Array.toList_push, List.map_append]
      exact Paired.append' hv (.cons (.str _ _) .nil)
    · rw [if_neg hlt]
      have ed : (x.cps.toList.take b).drop d = [] := by
        rw [he1] at hlt
        simp; (first | lia | omega)
      rw [ed, List.nil_append] at hlen fin
      exact tail s vs acc hk hl hv (by (first | lia | omega)) (by simpa using hlen) (by simpa using fin)
end Mine
end

section
set_option maxRecDepth 100000
set_option linter.unusedVariables false
set_option linter.unusedSimpArgs false
namespace Mine
open PySem PySem.W PySem.Calls PyProof.Rows
open PySem.Builtin.Re

theorem str_no_call : typeLookup (.type "str") "__call__" = pure none := by rw [typeLookup_type, builtinLookup_eq_fast]; kernel_rfl
theorem named_sub (a b : Value) : reNamed "re.Pattern.sub" "sub" ["repl", "string", "count"] 2 [a, b] [] = pure [some a, some b, none] := by rfl
theorem call_re_sub {w : World} {A : Around} {E : Value → Shared → Prop} {s : Shared} {x : Str} {R r : List Nat} {t u : Tok} {a : Addr} {C : Array Nat} {Q : Value → Shared → Prop} (hp : PatAt s.heap a C) (hx : x.cps.size ≤ 2 ^ 20) (hR : (T_ R).cps.contains 92 = false) (sub : SubN x.cps R (Nx C x.cps) 0 r) (hr : r.length ≤ 2 ^ 24)
    (hQ : ∀ s' t', Keeps s s' → Q (.str (T_ r) t') s') : wpAny (model p0 w) A (PySem.call (.builtin "re.Pattern.sub") [.ref a, .str (T_ R) u, .str x t]) Q E s := by
  have hT : s.TypeIs (.ref a) "re.Pattern" := by
    obtain ⟨o, v0, v1, b, ob, items, n, h1, h2, _⟩ := hp
    exact ⟨o, h1, h2⟩
  refine wpAny_call (codeAny_call_builtin slot_re_sub.plain entry_re_sub (slot_re_sub.check _ _ _ _ _ _ _ _ hT (args_re_sub _ _ _) ?_))
  unfold Builtin.«re.Pattern.sub» reSubstitute
  show wpAny _ _ (reNamed "re.Pattern.sub" "sub" ["repl", "string", "count"] 2 [.str (T_ R) u, .str x t] [] >>= _) _ _ s
  refine wpAny_bind (wpAny_of_eq (named_sub _ _) ?_)
  refine wpAny_bind (wpAny_pure ?_)
  refine wpAny_bind (wpAny_specialOf (T := "str") (typeIs_str _ _ _) str_no_call ?_)
  show wpAny _ _ (pure (some (T_ R)) >>= _) _ _ s
  refine wpAny_bind (wpAny_pure ?_)
  show wpAny _ _ (pure (!(T_ R).cps.contains 92) >>= _) _ _ s
  rw [hR]
  refine wpAny_bind (wpAny_pure ?_)
  show wpAny _ _ (pure (Value.str (T_ R) u, (0 : Int)) >>= _) _ _ s
  refine wpAny_bind (wpAny_pure ?_)
  show wpAny _ _ (holding [.str (T_ R) u] (reWholeTarget (.ref a) (.str x t)) >>= _) _ _ s
  refine wpAny_bind (wpAny_holding (wp_whole hp ?_))
  show wpAny _ _ (newList [] >>= _) _ _ s
  refine wpAny_bind (wpAny_newList ?_ (by show (0 : Nat) ≤ _; decide))
  refine wpAny_pure ⟨plainId_quiet plain_re_loop _, ?_⟩
  exact loop_re (s₀ := s) (d := 0) hp fresh_none hx sub _ [] #[] 0 keeps_push ⟨_, Heap.get?_push_size _ rfl⟩ .nil (by simp; (first | lia | omega)) (by simpa using hr) (fun s' t' k => by simpa using hQ s' t' k)
theorem re1_obj (P : Params) : (T25 P).get 71 = some ⟨.type "re.Pattern", none, .fields ⟨[.str (sx [40, 63, 109, 41, 94, 92, 46]) 331, .int 40 344, .int 0 0, .none, .none, .ref 70, .int 0 0]⟩, ⟨[]⟩⟩ := by kernel_rfl
theorem re1_code (P : Params) : (T25 P).get 70 = some ⟨.type "tuple", none, .seq ⟨[(Value.int 14 0), (Value.int 4 0), (Value.int 0 0), (Value.int 1 0), (Value.int 1 0), (Value.int 6 0), (Value.int 1 0), (Value.int 16 0), (Value.int 46 0), (Value.int 1 0)]⟩ 0, ⟨[]⟩⟩ := by kernel_rfl
theorem re1_pat {P : Params} {h : Heap} (st : Stays P h) : PatAt h 71 C1 :=
  ⟨_, _, _, 70, _, _, _, st.obj (re1_obj P) (by decide) rfl, rfl, rfl, rfl, st.obj (re1_code P) (by decide) rfl, rfl, by kernel_rfl⟩
theorem re2_obj (P : Params) : (T25 P).get 76 = some ⟨.type "re.Pattern", none, .fields ⟨[.str (sx [40, 63, 58, 92, 114, 92, 110, 124, 92, 110, 124, 92, 114, 40, 63, 33, 92, 110, 41, 41]) 347, .int 32 386, .int 0 0, .none, .none, .ref 75, .int 0 0]⟩, ⟨[]⟩⟩ := by kernel_rfl
theorem re2_code (P : Params) : (T25 P).get 75 = some ⟨.type "tuple", none, .seq ⟨[(Value.int 14 0), (Value.int 9 0), (Value.int 4 0), (Value.int 1 0), (Value.int 2 0), (Value.int 16 0), (Value.int 10 0), (Value.int 16 0), (Value.int 13 0), (Value.int 0 0), (Value.int 7 0), (Value.int 7 0), (Value.int 16 0), (Value.int 13 0), (Value.int 16 0), (Value.int 10 0), (Value.int 15 0), (Value.int 18 0), (Value.int 5 0), (Value.int 16 0), (Value.int 10 0), (Value.int 15 0), (Value.int 13 0), (Value.int 11 0), (Value.int 16 0), (Value.int 13 0), (Value.int 5 0), (Value.int 5 0), (Value.int 0 0), (Value.int 16 0), (Value.int 10 0), (Value.int 1 0), (Value.int 15 0), (Value.int 2 0), (Value.int 0 0), (Value.int 1 0)]⟩ 0, ⟨[]⟩⟩ := by kernel_rfl
theorem re2_pat {P : Params} {h : Heap} (st : Stays P h) : PatAt h 76 C2 :=
  ⟨_, _, _, 75, _, _, _, st.obj (re2_obj P) (by decide) rfl, rfl, rfl, rfl, st.obj (re2_code P) (by decide) rfl, rfl, by kernel_rfl⟩
end Mine
end

section
set_option maxRecDepth 100000
set_option linter.unusedVariables false
set_option linter.unusedSimpArgs false
namespace Mine
open PySem PySem.W PySem.Calls PyProof.Rows

section
variable {w : World} {k : Nat} {S : List Addr} {env : Env} {G : Gam}
theorem ev_ldstr {e : Expr} {l : List Nat} {t : Tok} (h : Ld w k S env G e (.str (T_ l) t)) : Ev w k S env G e (.at (.str l)) := ⟨fun s₀ A E s ha f => wpAny_mono (h.run s₀ A E s ha f) (fun v s' x => ⟨x.2, by rw [x.1]; exact .at (.str _ _)⟩) fun _ _ x => x⟩
theorem ev_re_sub {o e₁ e₂ : Expr} {apos pos : Pos} {a : Addr} {C : Array Nat} {R l r : List Nat} (ho : Ld w k S env G o (.ref a)) (h₁ : Ev w k S env G e₁ (.at (.str R))) (h₂ : Ev w k S env G e₂ (.at (.str l))) (hp : ∀ {h : Heap}, Stays w.params h → PatAt h a C) (hR : (T_ R).cps.contains 92 = false) (hl : l.length ≤ 2 ^ 20) (hr : r.length ≤ 2 ^ 24)
    (sub : SubN l.toArray R (Nx C l.toArray) 0 r) (hbase : attributeBase o "sub" env (eval o env) = eval o env) (hline : (apos.endLine == pos.line) = true)
    (he : starEach [e₁, e₂] env = (false, eval e₁ env) :: starEach [e₂] env := by rfl) (he2 : starEach [e₂] env = (false, eval e₂ env) :: starEach [] env := by rfl)
    (hplain : (backTo pos (starEach [e₂] env)).any (·.1) = false := by rfl) (hfew : (backTo pos (starEach [e₁, e₂] env)).all (fun x => !x.1) = true := by rfl) :
    Ev w k S env G (.Call (.Attribute o "sub" apos) [e₁, e₂] [] pos) (.at (.str r)) := ⟨fun s₀ A E s ha f => by
  refine wpAny_Call_method_late (trees := backTo pos (starEach [e₁, e₂] env)) hbase (by rw [hfew]; rfl) hline rfl (wpAny_mono (ho.run s₀ A E s ha f) (fun v s₁ x => ?_) fun _ _ x => x)
  obtain ⟨rfl, k1⟩ := x
  have f1 := f.keeps k1
  have hT : s₁.TypeIs (.ref a) "re.Pattern" := by
    obtain ⟨o, v0, v1, b, ob, items, n, h1, h2, _⟩ := hp f1.st
    exact ⟨o, h1, h2⟩
  have hD : ∀ b, Value.ref a = .ref b → ∃ ob, s₁.heap.get? b = some ob ∧ ob.dict = none := fun b e => by
    cases e
    obtain ⟨o, v0, v1, b, ob, items, n, h1, h2, h3, _⟩ := hp f1.st
    exact ⟨o, h1, h3⟩
  refine ⟨"re.Pattern", "re.Pattern.sub", pa_re, slot_re_sub, type_re_sub, hT, hD, callWith_method1 ?_ he hplain⟩
  refine wpAny_mono ((evs_cons h₁ (evs_cons h₂ evs_nil he2) he).run s₀ A E s₁ pos ha f1) (fun vs s₂ y => ?_) fun _ _ x => x
  have f2 := f1.keeps y.1
  obtain ⟨ky, p⟩ := y
  cases p with | cons r1 p =>
    cases p with | cons r2 p =>
      cases p
      cases r1 using Rep.cAt with | «at» r1 =>
        cases r2 using Rep.cAt with | «at» r2 =>
          cases r1 with | str _ u =>
          cases r2 with | str _ t =>
          have hh := kp_of (E := E) (call_re_sub (w := w) (A := A) (E := E) (x := T_ l) (t := t) (u := u) (Q := fun v s' => Keeps s₂ s' ∧ Rep S s'.heap v (.at (.str r))) (hp f2.st) (by show l.toArray.size ≤ _; simpa using hl) hR sub hr fun s' t' hk => ⟨hk, .at (.str _ _)⟩)
          exact wpAny_mono hh (fun v s' z => ⟨kp_trans k1 (kp_trans ky z.1), z.2⟩) fun _ _ x => x⟩
end
theorem fn_quotedata {w : World} {l : List Nat} (hl : l.length ≤ 2 ^ 20) (h2 : (q2 false l).length ≤ 2 ^ 20) (h1 : (q1 true (q2 false l)).length ≤ 2 ^ 24) : Fn w 1 83 [.at (.str l)] (.at (.str (q1 true (q2 false l)))) := by
  refine fn_of def_quotedata (by decide +kernel) rfl fun s S env bd => ?_
  dsimp only [List.zip, List.zipWith]
  have hK := ns_of bd
  refine ex_at (by unfold fB; exact rfl) ?_
  have s1 := sub1_is (q2 false l).toArray
  have s2 := sub2_is l.toArray
  simp only [List.toList_toArray] at s1 s2
  refine ex_ret (ev_re_sub (ld_glob (kd hK (by kernel_rfl)) (gm_re1 _)) (ev_s (l := [46, 46]) (by kernel_rfl)) (ev_re_sub (ld_glob (kd hK (by kernel_rfl)) (gm_re2 _)) (ev_ldstr (l := [13, 10]) (ld_glob (kd hK (by kernel_rfl)) (gm_crlf _))) ev_n re2_pat (by kernel_rfl) hl (by (first | lia | omega)) s2 rfl rfl) re1_pat (by kernel_rfl) h2 h1 s1 rfl rfl) rep_out
end Mine
end

section
set_option maxRecDepth 100000
set_option linter.unusedVariables false
set_option linter.unusedSimpArgs false
namespace Mine
open PySem PySem.W PySem.Calls PyProof.Rows

section
variable {w : World} {k : Nat} {s₀ : Shared} {X S : List Addr} {env : Env} {G : Gam} {Q : Flow → Shared → Prop}
/-- a list made anew is given a name: from now on it may be changed -/
theorem ex_localA {n : Str} {p pos : Pos} {e : Expr} {rest : List Stmt} {l : List PA} (hk : env.kindOf n = some .local) (h : EvN w k S env G e l) (hs : swapsWith e (some (.Name n p)) pos.line env = pure false)
    (h' : ∀ D, s₀.heap.get? D = none → (∀ m b l', G.lookup m = some (.la b l') → b ≠ D) → Ex w k s₀ (D :: X) S env ((n, .la D l) :: G) rest Q) : Ex w k s₀ X S env G (.Assign [.Name n p] e pos :: rest) Q := ⟨fun A E s a f => by
  refine wpAny_execs_cons (wpAny_Assign_Name (wpAny_mono (h.run s₀ A E s a f) (fun v s' x => ?_) fun _ _ x => x) hs)
  obtain ⟨D, rfl, hD⟩ := x.2.2
  have r : Rep S s'.heap (.ref D) (.la D l) := by
    cases x.2.1 using Rep.cList with | list hs hl hp => exact .la hs hl hp
  refine store_local (f.keeps x.1) hk r fun s'' f' kx _ => ?_
  have go := h' D (none_back f.keep hD) fun m b l' hm q => by
    obtain ⟨v, _, rr⟩ := f.has m _ hm
    cases rr using Rep.cLa with | la _ hl _ => obtain ⟨_, e⟩ := hl; rw [q, hD] at e; cases e
  refine wpAny_mono (go.run A E s'' a f') (fun fl s3 y => ⟨y.1, fun b o hb e => ?_⟩) fun _ _ x => x
  have hbD : b ≠ D := fun q => by rw [q, hD] at e; cases e
  have h1 := kp_get x.1 b o e
  have h2 := kx b o (fun q => hb (by simp at q; rw [q]; exact List.mem_cons_self)) h1
  refine y.2 b o (fun q => ?_) h2
  rcases List.mem_cons.mp q with q | q
  · exact hb (q ▸ List.mem_cons_self)
  · rcases List.mem_append.mp q with q | q
    · exact hb (List.mem_cons_of_mem _ (List.mem_append_left _ q))
    · rcases List.mem_cons.mp q with q | q
      · exact hbD q
      · exact hb (List.mem_cons_of_mem _ (List.mem_append_right _ q))⟩
theorem ex_append {n : Str} {p apos pos spos : Pos} {e : Expr} {rest : List Stmt} {W : Addr} {l : List PA} {x : PA} (hn : G.lookup n = some (.la W l)) (hnd : (n == ("__debug__" : Str)) = false) (he : Ev w k S env G e (.at x)) (hsz : l.length ≤ 2 ^ 20) (hW0 : s₀.heap.get? W = none) (hWX : W ∈ X) (hoff : Offs W n G)
    (next : Ex w k s₀ X S env ((n, .la W (l ++ [x])) :: G) rest Q) (hbase : attributeBase (.Name n p) "append" env (eval (.Name n p) env) = eval (.Name n p) env) (hline : (apos.endLine == pos.line) = true)
    (hs : starEach [e] env = (false, eval e env) :: starEach [] env := by rfl) (hplain : (backTo pos (starEach [] env)).any (·.1) = false := by rfl) (hfew : (backTo pos (starEach [e] env)).all (fun x => !x.1) = true := by rfl) :
    Ex w k s₀ X S env G (.Expr (.Call (.Attribute (.Name n p) "append" apos) [e] [] pos) spos :: rest) Q := ⟨fun A E s ha f => by
  refine wpAny_execs_cons (wpAny_Expr_any (wpAny_Call_method_late (trees := backTo pos (starEach [e] env)) hbase (by rw [hfew]; rfl) hline rfl (wpAny_mono ((ev_name (pos := p) hn hnd).run s₀ A E s ha f) (fun v s₁ x₁ => ?_) fun _ _ x => x)) (by unfold interactive; rw [f.fn]; rfl) (by rfl))
  obtain ⟨k1, r1⟩ := x₁
  have f1 := f.keeps k1
  cases r1 using Rep.cLa with | la hWS hl hp =>
    obtain ⟨nn, ho⟩ := hl
    refine ⟨"list", "list.append", F.plainAttrs_list, F.slot_list_append, F.type_list_append, ⟨_, ho, rfl⟩, fun b e => by cases e; exact ⟨_, ho, rfl⟩, callWith_method1 ?_ hs hplain⟩
    refine wpAny_mono ((evs_cons he evs_nil hs).run s₀ A E s₁ pos ha f1) (fun vs s₂ y => ?_) fun _ _ x => x
    have f2 := f1.keeps y.1
    obtain ⟨ky, pp⟩ := y
    cases pp with | cons rv pp =>
      cases pp
      cases rv using Rep.cAt with | «at» rv =>
        rename_i items v
        have hlen : items.size = l.length := by have := hp.length; simpa using this
        refine wpAny_list_append_plain (s := s₂) ⟨nn, kp_get ky _ _ ho⟩ (fun h' hl' hb => ?_) (by unfold sizeLine; (first | lia | omega))
        have kx := sameBut_x hb
        have f3 : Fm w s₀ S env ((n, .la W (l ++ [x])) :: G) { s₂ with heap := h' } := f2.write hn hW0 ⟨h', _, rfl⟩ (Nat.le_refl _) kx (.la hWS hl' (by rw [Array.toList_push]; exact Paired.append' hp (.cons rv .nil))) hoff
        exact ex_then next ha f3 ((kp_x (kp_trans k1 ky) _).trans (kx.mono fun a h => by
          simp at h; subst h
          exact List.mem_cons_of_mem _ (List.mem_append_right _ hWX)))⟩
end
noncomputable def keptL (l : List Nat) : List (List Nat) := (l.filter fun c : Nat => !decide ((c : Int) ∈ b1L)).map foldOf
theorem keptL_take (l : List Nat) (i : Nat) (hi : i < l.length) : keptL (l.take (i + 1)) = keptL (l.take i) ++ (if decide ((l.getD i 0 : Int) ∈ b1L) = true then [] else [foldOf (l.getD i 0)]) := by
  unfold keptL
  rw [List.take_add_one, List.filter_append, List.map_append]
  congr 1
  simp [hi]
  by_cases h : (l[i] : Int) ∈ b1L <;> simp [h]
theorem keptL_len (l : List Nat) : (keptL l).length ≤ l.length := by
  unfold keptL
  rw [List.length_map]
  exact List.length_filter_le _ _
theorem keptL_sum (l : List Nat) (h : ∀ c ∈ l, decide ((c : Int) ∈ b1L) = false → (foldOf c).length ≤ 1000) : ((keptL l).map List.length).sum ≤ 1000 * l.length := by
  have key : ∀ m : List (List Nat), (∀ x ∈ m, x.length ≤ 1000) → (m.map List.length).sum ≤ 1000 * m.length := by
    intro m
    induction m with
    | nil => intro _; simp
    | cons x m ih =>
      intro hm
      have h1 := hm x List.mem_cons_self
      have h2 := ih fun y hy => hm y (List.mem_cons_of_mem _ hy)
      simp only [List.map_cons, List.sum_cons, List.length_cons]
      (first | lia | omega)
  refine Nat.le_trans (key _ fun x hx => ?_) (Nat.mul_le_mul_left _ (keptL_len l))
  unfold keptL at hx
  obtain ⟨c, hc, rfl⟩ := List.mem_map.mp hx
  exact h c (List.mem_filter.mp hc).1 (by simpa using (List.mem_filter.mp hc).2)
theorem fn_prepared {w : World} {l : List Nat} (hl : l.length ≤ 10000) (hf : ∀ c ∈ l, decide ((c : Int) ∈ b1L) = false → (foldOf c).length ≤ 1000) : Fn w 2 182 [.at (.str l)] (.at (.str (keptL l).flatten)) := by
  refine fn_of def_l_prepared (by decide +kernel) rfl fun s S env bd => ?_
  dsimp only [List.zip, List.zipWith]
  have hK := ns_of bd
  refine ex_at (by unfold fB; exact rfl) ?_
  refine ex_localA (kd hK (by kernel_rfl)) (evn_list (l := []) evs_nil (by decide)) rfl fun D hD _ => ?_
  refine ex_forX (m := 0) (Γ := fun j => [("kept", .la D ((keptL (l.take j)).map PA.str))]) (Γa := fun j => [("sign", .at (.str [l.getD j 0])), ("kept", .la D ((keptL (l.take j)).map PA.str))])
    (di := .at (.str l)) (D :: S) (fun a ha => List.mem_cons_of_mem _ ha) (fun a ha => by simp at ha; subst ha; exact List.mem_cons_self) bd.cellMem ?_ ev_n itr_str ?_ ?_ ?_ ?_
  · intro s' f
    obtain ⟨v, _, r⟩ := f.has "kept" (.la D []) (by repeat (first | with_reducible exact lk_here | (apply lk_there; decide +kernel)))
    cases r using Rep.cLa with | la hWS hl hp =>
      obtain ⟨n, e⟩ := hl
      refine ⟨fun a ha => ?_, fun x r => ?_⟩
      · rcases List.mem_cons.mp ha with rfl | ha
        · exact ⟨_, e⟩
        · exact f.low a ha
      · cases r using Rep.cAt with | «at» r => exact .at r
  · intro n d h
    have h2 : List.lookup n [((Str.ofString "kept"), PV.la D [])] = some d := by simpa [keptL] using h
    exact (sub_cons sub_nil).all n d h2
  · intro i x hx S''
    have hi : i < l.length := by
      have := (List.getElem?_eq_some_iff.mp hx).1
      simpa using this
    obtain rfl : x = .at (.str [l.getD i 0]) := by
      simp [hi] at hx
      rw [← hx]; simp [hi]
    exact asg_name (kd hK (by kernel_rfl))
  · intro i x hx S'' hS''
    have hi : i < l.length := by
      have := (List.getElem?_eq_some_iff.mp hx).1
      simpa using this
    have hk := keptL_take l i hi
    have hkl : ((keptL (l.take i)).map PA.str).length ≤ 10000 := by
      rw [List.length_map]
      exact Nat.le_trans (keptL_len _) (by rw [List.length_take]; (first | lia | omega))
    have hfc : decide ((l.getD i 0 : Int) ∈ b1L) = false → (foldOf (l.getD i 0)).length ≤ 1000 := hf _ (by simp [hi])
    generalize l.getD i 0 = c at *
    dsimp only
    refine ex_at rfl ?_
    refine ex_local (kd hK (by kernel_rfl)) (ev_fn def_in_table_b1 (ld_glob (kd hK (by kernel_rfl)) (gm_in_table_b1 _)) (evs_cons ev_n evs_nil) fn_b1 (by (first | lia | omega))) rfl ?_
    refine ex_if (c := decide ((c : Int) ∈ b1L) == false) (Q' := NextQ w s S'' env [("kept", .la D ((keptL (l.take (i + 1))).map PA.str))]) (tr_cmp ev_n ev_bool cm_is_bool) (fun hc => ?_) (fun hc => ?_) (fun f s' x n => (n x.1).elim) (fun s' x => x.2) ?_
    · have hb : decide ((c : Int) ∈ b1L) = false := by simpa using hc
      rw [hk, hb, if_neg Bool.false_ne_true, List.map_append, List.map_cons, List.map_nil]
      refine ex_at rfl ?_
      refine ex_append (by repeat (first | with_reducible exact lk_here | (apply lk_there; decide +kernel))) (by decide +kernel) (ev_fn def_map_table_b3 (ld_glob (kd hK (by kernel_rfl)) (gm_map_table_b3 _)) (evs_cons ev_n evs_nil) (fn_b3 (hfc hb)) (by (first | lia | omega))) (by (first | lia | omega)) hD List.mem_cons_self (by repeat (first | exact offs_nil | refine offs_self ?_ | refine offs_at ?_)) ?_ rfl rfl
      exact ex_nil fun s' f => ⟨rfl, f.fewer (sub_cons sub_nil).all⟩
    · have hb : decide ((c : Int) ∈ b1L) = true := by simpa using hc
      rw [hk, hb, if_pos rfl, List.append_nil]
      refine ex_at rfl ?_
      refine ex_if_not (tr_cmp ev_n ev_bool (cm_as cm_isnot_bool rfl)) ?_
      exact ex_nil fun s' f => ⟨rfl, f.fewer (sub_cons sub_nil).all⟩
    · exact ex_nil fun s' f => f
  · refine ex_at rfl ?_
    have el : ((l.map fun c => PV.at (.str [c])).length) = l.length := by simp
    rw [el, List.take_length]
    exact ex_ret (ev_join rfl (ev_la ev_n) (Nat.le_trans (keptL_sum l hf) (by (first | lia | omega))) rfl) rep_out
end Mine
end

section
set_option maxRecDepth 100000
set_option linter.unusedVariables false
set_option linter.unusedSimpArgs false
namespace Mine
open PySem PySem.W PySem.Calls PyProof.Rows

section
variable {w : World} {k : Nat} {s₀ : Shared} {X S : List Addr} {env : Env} {G : Gam}
theorem asg_cell {n : Str} {p : Pos} {x : PV} (hk : OwnCell env s₀ n) : Asg w k s₀ S env G (.Name n p) x ((n, x) :: G) := ⟨fun A E s v I a f _ r =>
  wpAny_of_eq (rfl : letOwnedTupleGo (.Name n p) (.ref I) v = pure ()) (wpAny_assign_Name (wpAny_mono (Q := fun _ s'' => (∃ h tk, s'' = { s with heap := h, toks := tk }) ∧ (Fm w s₀ S env ((n, x) :: G) s'' ∧ KeepX (env.cells.map (·.2)) s.heap s''.heap)) (store_cell f hk r fun s'' f' kx e => ⟨e, f', kx⟩) (fun _ s'' q => by
      obtain ⟨⟨h, tk, e⟩, q1, q2⟩ := q
      exact ⟨q1, q2.mono (fun a ha => List.mem_cons_of_mem _ ha), h, tk, e⟩) fun _ _ x => x))⟩
theorem go_tame {A : Around} {E : Value → Shared → Prop} {s : Shared} {I a : Addr} {es : List Expr} {j : Nat} {p : Pos} {Q : Unit → Shared → Prop} (ht : ∃ o, s.heap.get? I = some o ∧ Tame o) (h : Q () s) : wpAny (model p0 w) A (letOwnedTupleGo (.Tuple es j p) (.ref I) (.ref a)) Q E s := by
  obtain ⟨o, ho, ht⟩ := ht
  show wpAny _ _ (load I >>= _) _ _ s
  refine wpAny_bind (wpAny_load ho ?_)
  obtain ⟨cls, dict, data, sl⟩ := o
  dsimp only
  cases cls with
  | type n =>
    cases data with
    | fields vs =>
      have := ht n rfl
      unfold ownedIters at this
      dsimp only
      rw [this, Bool.false_and, if_neg Bool.false_ne_true]
      exact wpAny_pure h
    | _ => exact wpAny_pure h
  | _ => exact wpAny_pure h
theorem asg_tup {a b : Str} {pa pb p : Pos} {j : Nat} {x y : PA} (ha : env.kindOf a = some .local) (hb : env.kindOf b = some .local) : Asg w k s₀ S env G (.Tuple [.Name a pa, .Name b pb] j p) (.tup [x, y]) ((b, .at y) :: (a, .at x) :: G) := ⟨fun A E s v I hA f ht r => by
  cases r using Rep.cTup with | tup r =>
    obtain ⟨t, vs, rfl, htS, htup, hp⟩ := r
    refine go_tame ht ?_
    obtain ⟨v1, v2, rfl, h1, h2⟩ : ∃ v1 v2, vs = #[v1, v2] ∧ Atom v1 x ∧ Atom v2 y := by
      obtain ⟨l⟩ := vs
      cases hp with | cons h1 t => cases t with | cons h2 t => cases t; exact ⟨_, _, rfl, h1, h2⟩
    refine wpAny_assign_Tuple hA.handled htup rfl rfl fun h' hx => ?_
    have k1 : Kp s { s with heap := h' } := ⟨keeps_heap fun b o e => hx b o (fun q => by
      subst q; rw [fresh_none] at e; cases e) e, Nat.le_refl _⟩
    have f1 := f.keeps k1
    refine assignInOrder_cons (wpAny_assign_Name (store_local f1 ha (.at h1) fun s1 f2 kx1 e1 => ?_))
    refine assignInOrder_cons (wpAny_assign_Name (store_local f2 hb (.at h2) fun s2 f3 kx2 e2 => ?_))
    refine assignInOrder_nil ⟨f3, ?_, ?_⟩
    · exact ((kp_x k1 _).trans (kx1.trans kx2)).mono fun a ha => by simp at ha; simp [ha]
    · obtain ⟨g1, t1, rfl⟩ := e1
      obtain ⟨g2, t2, rfl⟩ := e2
      exact ⟨g2, t2, rfl⟩⟩

theorem ints_are {vs : List Value} {l : List Int} (p : Paired Atom vs (l.map PA.int)) : IntsAre vs l := by
  induction l generalizing vs with
  | nil => cases p; exact .nil
  | cons x l ih =>
    cases p with | cons h t =>
      cases h
      exact .cons _ _ (ih t)
theorem cm_ne_ints {l : List Nat} : Cm w k .NotEq (.list (intsL l)) (.list (intsL l)) (false) := ⟨fun A E S s v₁ v₂ hA st r₁ r₂ => by
  cases r₁ using Rep.cList with | list hs1 hl1 hp1 => cases r₂ using Rep.cList with | list hs2 hl2 hp2 =>
    rename_i a1 vs1 a2 vs2
    have e1 : vs1.size = l.length := by have := hp1.length; rw [intsL_len] at this; simpa using this
    have e2 : vs2.size = l.length := by have := hp2.length; rw [intsL_len] at this; simpa using this
    have key := SeqAt.RcNeAt.lists (e := fun _ => true) (A := A) (s := s) hl1.isList hl2.isList (by (first | lia | omega)) hA.cline (fun j h1 h2 => by
      obtain ⟨b1, hb1, at1⟩ := Paired.get hp1 (i := j) (a := vs1[j]) (by simp [h1])
      obtain ⟨b2, hb2, at2⟩ := Paired.get hp2 (i := j) (a := vs2[j]) (by simp [h2])
      rw [hb1] at hb2
      cases hb2
      have hj : j < l.length := by (first | lia | omega)
      have : b1 = .int (l[j] : Nat) := by
        unfold intsL at hb1
        simp [hj] at hb1
        exact hb1.symm
      subst this
      revert at1 at2
      generalize vs1[j] = x1
      generalize vs2[j] = x2
      intro at1 at2
      cases at1
      cases at2
      rename_i t u
      have := SeqAt.EqAt.int_int (A := A.in1) (s := s) (l[j] : Nat) t (l[j] : Nat) u
      simpa using this)
    exact key p0 w E _ ⟨by simp, kp_refl _⟩⟩
theorem ev_index {o e : Expr} {apos pos : Pos} {l : List Nat} {x j : Nat} (ho : Ev w k S env G o (.list (intsL l))) (he : Ev w k S env G e (.at (.int (x : Nat)))) (hj : l[j]? = some x) (hno : ∀ m, m < j → l[m]? ≠ some x) (hlen : l.length ≤ 1000) (hbase : attributeBase o "index" env (eval o env) = eval o env) (hline : (apos.endLine == pos.line) = true)
    (hs : starEach [e] env = (false, eval e env) :: starEach [] env := by rfl) (hplain : (backTo pos (starEach [] env)).any (·.1) = false := by rfl) (hfew : (backTo pos (starEach [e] env)).all (fun x => !x.1) = true := by rfl) :
    Ev w k S env G (.Call (.Attribute o "index" apos) [e] [] pos) (.at (.int (j : Nat))) := ⟨fun s₀ A E s ha f => by
  refine wpAny_Call_method_late (trees := backTo pos (starEach [e] env)) hbase (by rw [hfew]; rfl) hline rfl (wpAny_mono (ho.run s₀ A E s ha f) (fun v s₁ x₁ => ?_) fun _ _ x => x)
  obtain ⟨k1, r1⟩ := x₁
  have f1 := f.keeps k1
  cases r1 using Rep.cList with | list hWS hl hp =>
    rename_i a vs
    obtain ⟨nn, hh⟩ := hl
    refine ⟨"list", "list.index", F.plainAttrs_list, F.slot_list_index, F.type_list_index, ⟨_, hh, rfl⟩, fun b e => by cases e; exact ⟨_, hh, rfl⟩, callWith_method1 ?_ hs hplain⟩
    refine wpAny_mono ((evs_cons he evs_nil hs).run s₀ A E s₁ pos ha f1) (fun vs' s₂ y => ?_) fun _ _ x => x
    obtain ⟨ky, pp⟩ := y
    cases pp with | cons rv pp =>
      cases pp
      cases rv using Rep.cAt with | «at» rv =>
        cases rv with | int _ t =>
          have e1 : vs.size = l.length := by have := hp.length; rw [intsL_len] at this; simpa using this
          obtain ⟨hjl, hjx⟩ := List.getElem?_eq_some_iff.mp hj
          have hi : IntsAre vs.toList (l.map fun n => ((n : Nat) : Int)) := ints_are (by unfold intsL at hp; rw [List.map_map]; exact hp)
          have at_ : ∀ m (hm : m < vs.size), isInt (x : Nat) vs[m] = (l[m]'(by (first | lia | omega)) == x) := fun m hm => by
            obtain ⟨b, hb, ab⟩ := Paired.get hp (i := m) (a := vs[m]) (by simp [hm])
            have hml : m < l.length := by (first | lia | omega)
            have : b = .int (l[m] : Nat) := by
              unfold intsL at hb
              simp [hml] at hb
              exact hb.symm
            subst this
            revert ab
            generalize vs[m] = z
            intro ab
            cases ab
            show decide ((l[m] : Int) = (x : Int)) = (l[m] == x)
            rw [Bool.eq_iff_iff]; simp; (first | lia | omega)
          refine call_meets F.slot_list_index ⟨_, kp_get ky _ _ hh, rfl⟩ F.entry_list_index (F.args_list_index_2 _ _) (SeqAt.list_indexAt a vs nn none #[] (.int (x : Nat) t) (isInt (x : Nat)) j (by (first | lia | omega)) (by (first | lia | omega)) ?_ ?_) ⟨kp_get ky _ _ hh, fun y hy => (eq_isInt (x : Nat) t hi y (by simpa using hy)).at _ _, ?_⟩
          · rw [at_ j (by (first | lia | omega))]; simp [hjx]
          · intro m hm hmj
            rw [at_ m hm]
            have := hno m hmj
            have hml : m < l.length := by (first | lia | omega)
            simp [hml] at this
            simpa using this
          · exact ⟨kp_trans k1 (kp_trans ky kp_tok), .at (.int _ _)⟩⟩
end
end Mine
end

section
set_option maxRecDepth 100000
set_option linter.unusedVariables false
set_option linter.unusedSimpArgs false
namespace Mine
open PySem PySem.W PySem.Calls PyProof.Rows

section
variable {w : World} {k : Nat} {s₀ : Shared} {X S : List Addr} {env : Env} {G : Gam}
theorem tr_type_int {fe e r : Expr} {pos p : Pos} {i : Int} (hl : Ld w k S env G fe (.type "type")) (he : Ev w k S env G e (.at (.int i))) (hr : Ld w k S env G r (.type "int"))
    (hs : starEach [e] env = (false, eval e env) :: starEach [] env := by rfl) (hplain : (backTo pos (starEach [] env)).any (·.1) = false := by rfl)
    (hc : eval (.Call fe [e] [] pos) env = (do callWith pos (← eval fe env) [] (backTo pos (starEach [e] env)) (backToKw pos (keywordEach [] env))) := by rfl)
    (hm : behindInMarks .IsNot r = false := by with_unfolding_all rfl) : Tr w k S env G (.Compare (.Call fe [e] [] pos) [.IsNot] [r] p) false := ⟨fun s₀ A E s ha f => by
  refine wpAny_isTrue_Compare1 (Call_ (wpAny_mono (hl.run s₀ A E s ha f) (fun v s₁ x => ?_) fun _ _ x => x) hc) hm
  obtain ⟨rfl, k1⟩ := x
  have f1 := f.keeps k1
  refine PyProof.Rows.callWith_type1 (wpAny_mono ((evs_cons he evs_nil hs).run s₀ A E s₁ pos ha f1) (fun vs s₂ y => ?_) fun _ _ x => x) hs hplain
  obtain ⟨ky, pp⟩ := y
  have f2 := f1.keeps ky
  cases pp with | cons rv pp =>
    cases pp
    cases rv using Rep.cAt with | «at» rv =>
      cases rv with | int _ t =>
        refine call_type_of (typeIs_int _ _ _) (by decide) ?_
        refine wpAny_mono (hr.run s₀ A E s₂ ha f2) (fun v s₃ z => ?_) fun _ _ x => x
        obtain ⟨rfl, k3⟩ := z
        exact wpAny_isNot_plain rfl (wpAny_truthy_bool ⟨by decide, kp_trans k1 (kp_trans ky k3)⟩)⟩
theorem strs_from : ∀ (l : List (List Nat)) (t : Nat), Paired Atom (strsFrom t (l.map T_)) (l.map PA.str)
  | [], _ => .nil
  | x :: l, t => .cons (.str _ _) (strs_from l (t + 1))
theorem ev_split {o e : Expr} {apos pos : Pos} {l sep : List Nat} {parts : List (List Nat)} (ho : Ev w k S env G o (.at (.str l))) (he : Ev w k S env G e (.at (.str sep)))
    (h1 : (decide ((T_ l).length < (T_ sep).length) || decide (Builtin.Str.strKind (T_ l) < Builtin.Str.strKind (T_ sep))) = false) (hy : ((T_ sep).length == 0) = false)
    (hf : (Builtin.Str.occurrences (T_ l) (T_ sep) 0 (T_ l).length ((T_ l).length + 1)).isEmpty = false) (hp : Builtin.Str.partsBetween (T_ l) (Builtin.Str.occurrences (T_ l) (T_ sep) 0 (T_ l).length ((T_ l).length + 1)) (T_ sep).length = parts.map T_)
    (hl : l.length ≤ 2 ^ 20) (hn : parts.length ≤ 2 ^ 20) (hbase : attributeBase o "split" env (eval o env) = eval o env) (hline : (apos.endLine == pos.line) = true)
    (hs : starEach [e] env = (false, eval e env) :: starEach [] env := by rfl) (hplain : (backTo pos (starEach [] env)).any (·.1) = false := by rfl) (hfew : (backTo pos (starEach [e] env)).all (fun x => !x.1) = true := by rfl) :
    Ev w k S env G (.Call (.Attribute o "split" apos) [e] [] pos) (.list (parts.map PA.str)) := ⟨fun s₀ A E s ha f => by
  refine wpAny_Call_method_late (trees := backTo pos (starEach [e] env)) hbase (by rw [hfew]; rfl) hline rfl (wpAny_mono (ho.run s₀ A E s ha f) (fun v s₁ x₁ => ?_) fun _ _ x => x)
  obtain ⟨k1, r1⟩ := x₁
  have f1 := f.keeps k1
  cases r1 using Rep.cAt with | «at» r1 =>
    cases r1 with | str _ t =>
      refine ⟨"str", "str.split", F.plainAttrs_str, F.slot_str_split, F.type_str_split, typeIs_str _ _ _, (fun _ e => nomatch e), callWith_method1 ?_ hs hplain⟩
      refine wpAny_mono ((evs_cons he evs_nil hs).run s₀ A E s₁ pos ha f1) (fun vs' s₂ y => ?_) fun _ _ x => x
      obtain ⟨ky, pp⟩ := y
      have f2 := f1.keeps ky
      cases pp with | cons rv pp =>
        cases pp
        cases rv using Rep.cAt with | «at» rv =>
          cases rv with | str _ u =>
            refine call_meets F.slot_str_split (typeIs_str _ _ _) F.entry_str_split (F.args_str_split_2 _ _) (meets_str_split_sep (T_ l) (T_ sep) t u h1 hy hf (by rw [T_length]; unfold sizeLine; (first | lia | omega)) (by rw [hp]; unfold sizeLine; rw [List.length_map]; (first | lia | omega))) ?_
            rw [hp]
            refine ⟨kp_trans k1 (kp_trans ky ⟨⟨_, _, rfl, fun _ _ e => Heap.get?_push_of_some _ e⟩, Nat.le_add_right _ _⟩), .list (fresh_off f2.low) ⟨_, Heap.get?_push_size _ rfl⟩ ?_⟩
            simpa using strs_from parts s₂.toks⟩
end
end Mine
end

section
set_option maxRecDepth 100000
set_option linter.unusedVariables false
set_option linter.unusedSimpArgs false
namespace Mine
open PySem PySem.W PySem.Calls PyProof.Rows

noncomputable def liveL (h : Heap) (L : Addr) : List (Addr × Obj) := (List.range h.objs.size).filterMap fun a => if a = L then none else (h.get? a).map fun o => (a, o)
theorem mem_liveL {h : Heap} {L a : Addr} {o : Obj} : (a, o) ∈ liveL h L ↔ a ≠ L ∧ h.get? a = some o := by
  unfold liveL
  rw [List.mem_filterMap]
  constructor
  · rintro ⟨b, _, e⟩
    split at e
    · cases e
    · rename_i hb
      obtain ⟨o', ho, e2⟩ := Option.map_eq_some_iff.mp e
      cases e2
      exact ⟨hb, ho⟩
  · rintro ⟨hne, ho⟩
    exact ⟨a, List.mem_range.mpr (Heap.lt_size ho), by rw [if_neg hne, ho]; rfl⟩
noncomputable def TupsAt (h : Heap) (vs : List Value) (ps : List (Nat × Int)) : Prop := Paired (fun v p => ∃ a t u, v = .ref a ∧ h.IsTuple a #[.str (T_ [p.1]) t, .int p.2 u]) vs ps
noncomputable def tupLt (ps : List (Nat × Int)) (i j : Nat) : Bool := let p := ps.getD i (0, 0); let q := ps.getD j (0, 0); if p.1 = q.1 then decide (p.2 < q.2) else decide (p.1 < q.1)
theorem kat_tups {h : Heap} : ∀ {vs : List Value} {ps : List (Nat × Int)}, TupsAt h vs ps → ∃ fs, KatTups h vs fs ∧ fs.length = vs.length ∧ ∀ v ∈ fs, ∃ x t, v = .str x t := by
  intro vs ps
  induction ps generalizing vs with
  | nil => intro p; cases p; exact ⟨[], trivial, rfl, fun _ h => nomatch h⟩
  | cons p ps ih =>
    intro x
    cases x with | cons hx r =>
      obtain ⟨a, t, u, rfl, ⟨o, ho, hc, n, hd⟩⟩ := hx
      obtain ⟨fs, h1, h2, h3⟩ := ih r
      refine ⟨.str (T_ [p.1]) t :: fs, KatTups.cons ho hc hd rfl h1, by simp [h2], ?_⟩
      intro v hv
      rcases List.mem_cons.mp hv with rfl | hv
      · exact ⟨_, _, rfl⟩
      · exact h3 v hv
theorem ask_tup {w : World} {A : Around} {s : Shared} {vs : List Value} {ps : List (Nat × Int)} {i j : Nat} {C : Bool → Shared → Prop} (ht : TupsAt s.heap vs ps) (hi : i < vs.length) (hj : j < vs.length) (h : C (tupLt ps i j) s) : kas_ask p0 w A (tuples' true) vs i j C s := by
  unfold kas_ask
  obtain ⟨p, hp, a, t, u, e1, ⟨o, ho, hc, n, hd⟩⟩ := Paired.get ht (i := i) (a := vs.getD i .none) (by simp [hi])
  obtain ⟨q, hq, b, t', u', e2, ⟨o', ho', hc', n', hd'⟩⟩ := Paired.get ht (i := j) (a := vs.getD j .none) (by simp [hj])
  rw [e1, e2]
  have hpd : ps.getD i (0, 0) = p := by simp [hp]
  have hqd : ps.getD j (0, 0) = q := by simp [hq]
  unfold tupLt at h
  rw [hpd, hqd] at h
  dsimp only at h
  refine kat_lt ho hd ho' hd' ?_
  refine kat_cons (SeqAt.EqAt.str_str _ _ _ _ p0 w _ _ ?_)
  by_cases h1 : p.1 = q.1
  · rw [if_pos h1] at h
    rw [h1, beq_self_eq_true]
    refine kat_yes (kat_cons (SeqAt.EqAt.int_int _ _ _ _ p0 w _ _ ?_))
    by_cases h2 : p.2 = q.2
    · rw [h2, beq_self_eq_true]
      refine kat_yes (kat_nil ?_)
      rw [h2] at h
      simpa using h
    · rw [beq_eq_false_iff_ne.mpr h2]
      refine kat_no (kat_one _ _ (lt_int ?_))
      exact h
  · rw [if_neg h1] at h
    have : (T_ [p.1] == T_ [q.1]) = false := beq_eq_false_iff_ne.mpr fun q' => h1 (by
      have := congrArg (fun z : Str => z.cps.toList) q'
      simpa [T_] using this)
    rw [this]
    refine kat_no (oneLt_str ?_)
    have e : decide ((T_ [p.1]).cps.toList < (T_ [q.1]).cps.toList) = decide (p.1 < q.1) := by
      rw [decide_eq_decide]
      show [p.1] < [q.1] ↔ _
      rw [List.cons_lt_cons_iff]
      simp
    rw [e]
    exact h
theorem call_sorted {w : World} {A : Around} {E : Value → Shared → Prop} {s : Shared} {L l : Addr} {m : Str → Option Value} {vs : List Value} {ps : List (Nat × Int)} {Q : Value → Shared → Prop} (hns : s.heap.Ns L m) (hl : s.heap.IsList l vs.toArray) (ht : TupsAt s.heap vs ps) (htL : ∀ p ∈ vs, ∀ a, p = .ref a → a ≠ L) (h2 : 2 ≤ vs.length) (h64 : vs.length < 64)
    (hQ : ∀ D h' , KeepX [L] s.heap h' → h'.Ns L m → s.heap.get? D = none → h'.PlainList D ((kev (tupLt ps) (kas_sort vs.length)).toList.map fun i => vs.getD i .none).toArray → Q (.ref D) { s with heap := h' }) :
    wpAny (model p0 w) A (PySem.call (.builtin "sorted") [.ref l]) Q E s := by
  have F : Fr (default : Heap) L s.heap m := ⟨hns, fun b o e => (nomatch (show none = some o from e)), Nat.zero_le _⟩
  have N : News (default : Heap) L s.heap (liveL s.heap L) := fun p hp => by
    obtain ⟨a, o⟩ := p
    obtain ⟨h1, h2⟩ := mem_liveL.mp hp
    exact ⟨h2, h1, rfl⟩
  refine kat_sorted F N hl h2 h64 fun D e1 h' F' N' hD => ?_
  have old : ∀ b o, b ≠ L → s.heap.get? b = some o → h'.get? b = some o := fun b o hb e => (N' (b, o) (List.mem_cons_of_mem _ (mem_liveL.mpr ⟨hb, e⟩))).1
  have ht' : TupsAt h' vs ps := by
    have key : ∀ (vs : List Value) (ps : List (Nat × Int)), (∀ p ∈ vs, ∀ a, p = .ref a → a ≠ L) → TupsAt s.heap vs ps → TupsAt h' vs ps := by
      intro vs
      induction vs with
      | nil => intro ps _ x; cases x; exact .nil
      | cons v vs ih =>
        intro ps hv x
        cases x with | cons hx r =>
          obtain ⟨a, t, u, e, ⟨o, ho, r2⟩⟩ := hx
          exact .cons ⟨a, t, u, e, o, old a o (hv _ List.mem_cons_self a e) ho, r2⟩ (ih _ (fun p hp => hv p (List.mem_cons_of_mem _ hp)) r)
    exact key vs ps htL ht
  obtain ⟨fs, k1, k2, k3⟩ := kat_tups ht'
  refine kat_kind (T := .type "str") k1 (by (first | lia | omega)) (fun v hv => ?_) rfl ?_
  · obtain ⟨x, t, rfl⟩ := k3 v hv
    exact Looks.now
  · show (kas_sort vs.length).kasWp (kas_ask p0 w A.in1.in1 (tuples' true) vs) _ _
    refine kev_wpB (n := vs.length) (lt := tupLt ps) (fun i j C hi hj h => ask_tup ht' hi hj h) _ (b_sort (by (first | lia | omega))) ?_
    refine KasFin.intro F' N' (UpdF.head (fun p hp => Nat.ne_of_lt (hD p hp))) fun h2 c F2 N2 => ?_
    refine hQ D h2 (fun b o hb e => (N2 (b, o) (List.mem_cons_of_mem _ (mem_liveL.mpr ⟨fun q => hb (by simp [q]), e⟩))).1) F2.ns ?_ ⟨_, (N2 _ List.mem_cons_self).1⟩
    have hDL : D ≠ L := (N' _ List.mem_cons_self).2.1
    cases e : s.heap.get? D with
    | none => rfl
    | some o => exact absurd (hD _ (mem_liveL.mpr ⟨hDL, e⟩)) (Nat.lt_irrefl _)
end Mine
end

section
set_option maxRecDepth 100000
set_option linter.unusedVariables false
set_option linter.unusedSimpArgs false
namespace Mine
open PySem PySem.W PySem.Calls PyProof.Rows

theorem sort_one {w : World} {A : Around} {E : Value → Shared → Prop} {s : Shared} {a : Addr} {v : Value} {n : Nat} {P : PySem.Fin → Shared → Prop} (ho : s.heap.get? a = some (seqObj "list" #[v] n))
    (h : ∀ h', KeepX [a] s.heap h' → h'.PlainList a #[v] → P (.done (.ret .none)) { s with heap := h' }) : wpAny (model p0 w) A (Builtin.«list.sort» ⟨[.ref a], []⟩) P E s := by
  obtain ⟨e1, ho1⟩ : ∃ e1, (s.heap.update a (Obj.mapSeq fun _ => (#[] : Array Value))).get? a = some (seqObj "list" #[] e1) := ⟨_, get?_update_seq ho fun _ => #[]⟩
  rw [list_sort_plain]
  refine wpAny_bind (listItems_at ho rfl ?_)
  refine wpAny_bind (listUpdate_at ho rfl ?_ (by show (1 : Nat) ≤ _; decide) (Nat.zero_le _))
  refine wpAny_bind (seqEpoch_at ho1 rfl ?_)
  refine wpAny_bind (wpAny_newTuple ?_ (by show (1 : Nat) ≤ _; decide))
  refine wpAny_bind (wpAny_newList ?_ (Nat.zero_le _))
  refine wpAny_holding ?_
  dsimp only
  have h12 : (#[v] : Array Value).size < 2 := by show (1 : Nat) < 2; decide
  rw [if_pos h12, if_pos h12]
  have ho3 : ((((s.heap.update a (Obj.mapSeq fun _ => (#[] : Array Value))).push { cls := Value.type "tuple", data := Data.seq #[v] }).push { cls := Value.type "list", data := Data.seq #[] }) : Heap).get? a = some (seqObj "list" #[] e1) :=
    Heap.get?_push_of_some _ (Heap.get?_push_of_some _ ho1)
  refine wpAny_bind (wpAny_pure ?_)
  refine wpAny_bind (m := (pure ((), SortSt.mk' general' ((#[v] : Array Value).zip #[v]) #[] 7 none) : Sem (Unit × SortSt))) (wpAny_pure ?_)
  refine wpAny_bind (seqEpoch_at ho3 rfl ?_)
  have er : Array.map (fun x : Keyed => x.2) (arrOf (SortSt.mk' general' ((#[v] : Array Value).zip #[v]) #[] 7 none)) = #[v] := by
    show Array.map (fun x : Keyed => x.2) ((#[v] : Array Value).zip #[v]) = #[v]
    simp
  dsimp only
  rw [er]
  refine wpAny_bind (listUpdate_at ho3 rfl ?_ (Nat.zero_le _) (by show (1 : Nat) ≤ _; decide))
  rw [if_neg (by simp)]
  obtain ⟨e2, ho4⟩ : ∃ e2, ((((s.heap.update a (Obj.mapSeq fun _ => (#[] : Array Value))).push { cls := Value.type "tuple", data := Data.seq #[v] }).push { cls := Value.type "list", data := Data.seq #[] }).update a (Obj.mapSeq fun _ => (#[v] : Array Value))).get? a = some (seqObj "list" #[v] e2) := ⟨_, get?_update_seq ho3 fun _ => #[v]⟩
  refine wpAny_pure (h _ (fun b o hb e => ?_) ⟨e2, ho4⟩)
  have hb' : b ≠ a := fun q => hb (by simp [q])
  have q1 := sameBut_x (Heap.SameBut.update s.heap a (Obj.mapSeq fun _ => (#[] : Array Value))) b o hb e
  exact sameBut_x (Heap.SameBut.update _ a _) b o hb (Heap.get?_push_of_some _ (Heap.get?_push_of_some _ q1))
theorem call_sorted1 {w : World} {A : Around} {E : Value → Shared → Prop} {s : Shared} {l : Addr} {v : Value} {Q : Value → Shared → Prop} (hl : s.heap.IsList l [v].toArray)
    (hQ : ∀ D h', KeepX [] s.heap h' → s.heap.get? D = none → h'.PlainList D #[v] → Q (.ref D) { s with heap := h' }) :
    wpAny (model p0 w) A (PySem.call (.builtin "sorted") [.ref l]) Q E s := by
  refine Calls.call_function_entry kind_sorted plain_sorted entry_sorted (args_sorted1 _) ?_
  unfold Builtin.«sorted»
  refine wpAny_bind (m := checkCount "sorted" 1 1 _) (wpAny_pure ?_)
  refine wpAny_bind (collect_list hl ?_ (by show (1 : Nat) ≤ _; decide))
  refine wpAny_bind (wpAny_newList ?_ (by show (1 : Nat) ≤ _; decide))
  have hk : ∀ b o, s.heap.get? b = some o → (((s.heap.push (seqObj "list" #[] 0)).update s.heap.objs.size (Obj.mapSeq (· ++ [v].toArray))).push (seqObj "list" [v].toArray 0) : Heap).get? b = some o := fun b o e =>
    Heap.get?_push_of_some _ (sameBut_x (Heap.SameBut.update _ _ _) b o (fun q => by simp at q; subst q; rw [fresh_none] at e; cases e) (Heap.get?_push_of_some _ e))
  generalize hH : ((s.heap.push (seqObj "list" #[] 0)).update s.heap.objs.size (Obj.mapSeq (· ++ [v].toArray)) : Heap) = H at hk ⊢
  have hsz : H.objs.size = s.heap.objs.size + 1 := by
    rw [← hH, Heap.size_update]
    exact Heap.size_push _ _
  have hD : s.heap.get? H.objs.size = none := by
    cases e : s.heap.get? H.objs.size with
    | none => rfl
    | some o =>
      rw [hsz] at e
      exact absurd (Heap.lt_size e) (Nat.not_lt.mpr (Nat.le_succ _))
  have ho : (H.push (seqObj "list" [v].toArray 0)).get? H.objs.size = some (seqObj "list" #[v] 0) := Heap.get?_push_size _ rfl
  refine wpAny_bind (wpAny_holding (wpAny_call_entry slot_list_sort ⟨_, ho, rfl⟩ entry_list_sort ?_ (args_list_sort _)))
  refine sort_one ho fun h' kx hl' => ⟨_, rfl, wpAny_pure ⟨_, rfl, ?_⟩⟩
  exact hQ _ h' (fun b o _ e => kx b o (fun q => by simp at q; subst q; rw [hD] at e; cases e) (hk b o e)) hD hl'
end Mine
end

section
set_option maxRecDepth 100000
set_option linter.unusedVariables false
set_option linter.unusedSimpArgs false
namespace Mine
open PySem PySem.W PySem.Calls PyProof.Rows

theorem ns_uniq {h : Heap} {a : Addr} {m m' : Str → Option Value} (hm : h.Ns a m) (hm' : h.Ns a m') : m = m' := by
  obtain ⟨o1, es1, ep1, g1, d1, _, x1⟩ := hm
  obtain ⟨o2, es2, ep2, g2, d2, _, x2⟩ := hm'
  rw [g1] at g2; cases g2; rw [d1] at d2; cases d2
  funext y; rw [← x1, ← x2]
/-- the frame's dict may be written anew, if it says the same -/
theorem Fm.relay {w : World} {s₀ s s' : Shared} {S : List Addr} {env : Env} {G : Gam} (f : Fm w s₀ S env G s) {m : Str → Option Value} (hm : s.heap.Ns env.locals m) (hm' : s'.heap.Ns env.locals m) (hs : ∃ h tk, s' = { s with heap := h, toks := tk }) (ht : s.toks ≤ s'.toks) (kx : KeepX [env.locals] s.heap s'.heap) : Fm w s₀ S env G s' := by
  have kS : KeepX S s.heap s'.heap := kx.mono fun a ha => by simp at ha; exact ha ▸ f.locIn
  have hlive : ∃ o, s'.heap.get? env.locals = some o := let ⟨o, _, _, e, _⟩ := hm'; ⟨o, e⟩
  have cell : ∀ n c v, env.cells.lookup n = some c → s.heap.IsCell c v → s'.heap.IsCell c v := fun n c v hc h => let ⟨o, ho, hd⟩ := h; ⟨o, kx _ _ (fun q => (f.cellIn n c hc).2 (by simpa using q)) ho, hd⟩
  have hlow : ∀ a ∈ S, ∃ o, s'.heap.get? a = some o := by
    intro a ha
    by_cases q : a = env.locals
    · exact q ▸ hlive
    · obtain ⟨o, e⟩ := f.low a ha
      exact ⟨o, kx _ _ (by simpa using q) e⟩
  have hkeep : Kp s₀ s' := by
    obtain ⟨⟨h1, t1, e1, k1⟩, kt⟩ := f.keep
    obtain ⟨h2, t2, rfl⟩ := hs
    refine ⟨⟨h2, t2, by rw [e1], fun b o e => kx b o (fun q => ?_) (by rw [e1]; exact k1 b o e)⟩, Nat.le_trans kt ht⟩
    simp at q; subst q
    rw [f.own] at e; cases e
  have hhas : ∀ n d, G.lookup n = some d → ∃ v, Held env s' n v ∧ Rep S s'.heap v d := by
    intro n d e
    obtain ⟨v, hv, r⟩ := f.has n d e
    refine ⟨v, ?_, r.keep kS⟩
    rcases hv with ⟨hl, m', hm2, em⟩ | ⟨hl, c, hc, ec⟩
    · exact .inl ⟨hl, m, hm', ns_uniq hm2 hm ▸ em⟩
    · exact .inr ⟨hl, c, hc, cell n c _ hc ec⟩
  exact ⟨hkeep, f.stays, f.gens, f.tok, hlow, f.fn, f.glob, f.bi, f.own, f.locIn, f.cellIn, fun n c hc => let ⟨v, hv⟩ := f.cellOk n c hc; ⟨v, cell n c v hc hv⟩, ⟨m, hm'⟩, hhas⟩

/-- an expression gives known data; the frame's dict may have been written anew -/
structure EvL (w : World) (k : Nat) (S : List Addr) (env : Env) (G : Gam) (e : Expr) (d : PV) : Prop where
  run : ∀ s₀ A E s, AOk k A → Fm w s₀ S env G s → wpAny (model p0 w) A (eval e env) (fun v s' => Fm w s₀ S env G s' ∧ KeepX [env.locals] s.heap s'.heap ∧ Rep S s'.heap v d) E s
noncomputable def embT (p : Nat × Int) : List PA := [.str [p.1], .int p.2]
noncomputable def srt (ps : List (Nat × Int)) : List (Nat × Int) := if ps.length < 2 then ps else (kev (tupLt ps) (kas_sort ps.length)).toList.map fun i => ps.getD i (0, 0)
theorem tups_of {S : List Addr} {h : Heap} : ∀ {ps : List (Nat × Int)} {vs : List Value}, Paired (TupAt S h) vs (ps.map embT) → TupsAt h vs ps ∧ ∀ v ∈ vs, ∃ a, v = .ref a ∧ a ∉ S := by
  intro ps
  induction ps with
  | nil => intro vs p; cases p; exact ⟨.nil, fun _ h => nomatch h⟩
  | cons p ps ih =>
    intro vs x
    cases x with | cons hx r =>
      obtain ⟨a, xs, rfl, ha, ht, hp⟩ := hx
      obtain ⟨h1, h2⟩ := ih r
      obtain ⟨t, u, rfl⟩ : ∃ t u, xs = #[.str (T_ [p.1]) t, .int p.2 u] := by
        obtain ⟨l⟩ := xs
        cases hp with | cons q1 hp => cases hp with | cons q2 hp =>
          cases hp; cases q1; cases q2; exact ⟨_, _, rfl⟩
      refine ⟨.cons ⟨a, t, u, rfl, ht⟩ h1, ?_⟩
      intro v hv
      rcases List.mem_cons.mp hv with rfl | hv
      · exact ⟨a, rfl, ha⟩
      · exact h2 v hv
theorem paired_pickT {S : List Addr} {h : Heap} {vs : List Value} {ps : List (Nat × Int)} (hp : Paired (TupAt S h) vs (ps.map embT)) : ∀ (is : List Nat), (∀ i ∈ is, i < ps.length) → Paired (TupAt S h) (is.map fun i => vs.getD i .none) ((is.map fun i => ps.getD i (0, 0)).map embT)
  | [], _ => .nil
  | i :: is, hi => by
    have hlen : vs.length = ps.length := by have := hp.length; simpa using this
    have hi0 := hi i List.mem_cons_self
    obtain ⟨b, hb, hF⟩ := Paired.get hp (i := i) (a := vs.getD i .none) (by simp [hlen, hi0])
    have : b = embT (ps.getD i (0, 0)) := by
      simp [hi0] at hb
      simp [hi0, hb]
    subst this
    exact .cons hF (paired_pickT hp is fun j hj => hi j (List.mem_cons_of_mem _ hj))
section
variable {w : World} {k : Nat} {s₀ : Shared} {X S : List Addr} {env : Env} {G : Gam} {Q : Flow → Shared → Prop}
theorem evl_sorted {fe e : Expr} {pos : Pos} {ps : List (Nat × Int)} (hl : Ld w k S env G fe (.builtin "sorted")) (he : Ev w k S env G e (.tlist (ps.map embT))) (h1 : 1 ≤ ps.length) (h64 : ps.length < 64) (hin : ∀ i ∈ (kev (tupLt ps) (kas_sort ps.length)).toList, i < ps.length)
    (hs : starEach [e] env = (false, eval e env) :: starEach [] env := by rfl) (hplain : (backTo pos (starEach [] env)).any (·.1) = false := by rfl)
    (hc : eval (.Call fe [e] [] pos) env = (do callWith pos (← eval fe env) [] (backTo pos (starEach [e] env)) (backToKw pos (keywordEach [] env))) := by rfl) : EvL w k S env G (.Call fe [e] [] pos) (.tlist ((srt ps).map embT)) := ⟨fun s₀ A E s ha f => by
  refine Call_ (wpAny_mono (hl.run s₀ A E s ha f) (fun v s₁ x => ?_) fun _ _ x => x) hc
  obtain ⟨rfl, k1⟩ := x
  have f1 := f.keeps k1
  refine PyProof.Rows.callWith_builtin1 (wpAny_mono ((evs_cons he evs_nil hs).run s₀ A E s₁ pos ha f1) (fun vs s₂ y => ?_) fun _ _ x => x) hs hplain
  obtain ⟨ky, pp⟩ := y
  have f2 := f1.keeps ky
  cases pp with | cons rv pp =>
    cases pp
    cases rv using Rep.cTlist with | tlist hS hl hp =>
      rename_i l items
      obtain ⟨htu, hoff⟩ := tups_of hp
      have hlen : items.size = ps.length := by have := hp.length; simpa using this
      obtain ⟨m, hm⟩ := f2.ns
      have hil : s₂.heap.IsList l items.toList.toArray := by simpa using hl.isList
      have k02 := kp_trans k1 ky
      by_cases h2 : ps.length < 2
      · have hps : srt ps = ps := by unfold srt; rw [if_pos h2]
        rw [hps]
        obtain ⟨v, hv⟩ : ∃ v, items.toList = [v] := by
          have : items.toList.length = 1 := by simp; (first | lia | omega)
          exact List.length_eq_one_iff.mp this
        rw [hv] at hil
        refine call_sorted1 hil fun D h' kx hD hDl => ?_
        have kk : Kp s₂ { s₂ with heap := h' } := ⟨keeps_heap fun b o e => kx b o (by simp) e, Nat.le_refl _⟩
        refine ⟨f2.keeps kk, kp_x (kp_trans k02 kk) _, .tlist (fun q => ?_) hDl ?_⟩
        · obtain ⟨o, e⟩ := f2.low _ q; rw [hD] at e; cases e
        · have := Paired.imp (fun _ _ t => t.keep (kp_x kk S)) hp
          rw [hv] at this
          simpa using this
      · have hps : srt ps = (kev (tupLt ps) (kas_sort ps.length)).toList.map fun i => ps.getD i (0, 0) := by unfold srt; rw [if_neg h2]
        rw [hps]
        have hlen' : items.toList.length = ps.length := by simpa using hlen
        refine call_sorted (L := env.locals) hm hil htu (fun p hp a e => ?_) (by (first | lia | omega)) (by (first | lia | omega)) fun D h' kx hns hD hDl => ?_
        · obtain ⟨b, rfl, hb⟩ := hoff p hp
          cases e
          exact fun q => hb (q ▸ f2.locIn)
        · have f3 : Fm w s₀ S env G { s₂ with heap := h' } := f2.relay hm hns ⟨h', _, rfl⟩ (Nat.le_refl _) kx
          refine ⟨f3, (kp_x k02 _).trans kx, .tlist (fun q => ?_) hDl ?_⟩
          · obtain ⟨o, e⟩ := f2.low _ q; rw [hD] at e; cases e
          · have kS : KeepX S s₂.heap h' := kx.mono fun a ha => by simp at ha; exact ha ▸ f2.locIn
            have := paired_pickT (Paired.imp (fun _ _ t => t.keep kS) hp) (kev (tupLt ps) (kas_sort ps.length)).toList hin
            rw [hlen']
            simpa using this⟩
theorem ex_cellL {n : Str} {p pos : Pos} {e : Expr} {rest : List Stmt} {d : PV} (hk : OwnCell env s₀ n) (h : EvL w k S env G e d) (hs : swapsWith e (some (.Name n p)) pos.line env = pure false)
    (h' : Ex w k s₀ X S env ((n, d) :: G) rest Q) : Ex w k s₀ X S env G (.Assign [.Name n p] e pos :: rest) Q := ⟨fun A E s a f => by
  refine wpAny_execs_cons (wpAny_Assign_Name (wpAny_mono (h.run s₀ A E s a f) (fun v s' x => ?_) fun _ _ x => x) hs)
  exact store_cell x.1 hk x.2.2 fun s'' f' kx _ => ex_then h' a f' ((x.2.1.mono loc_mut).trans (kx.mono cell_mut))⟩
theorem evl_comp {γ β : Type} (O : Out γ) {K : List (Str × NameKind)} {elt target iter : Expr} {ifs : List Expr} {scope : Scope} {pos : Pos} {di : PV} (l : List β) (emb : β → PV) (p : β → Bool) (ρ : β → γ) (Γ' : β → Gam)
    (hK : env.scope.names = K) (hi : EvL w k S env G iter di) (hI : Itr w 0 di (l.map emb)) (ok : compOk K scope.names (G.map (·.1)) = true) (hkind : scope.kind = .function) (hsz : l.length ≤ 2 ^ 24)
    (asg : ∀ s₁ S' cenv, CEnv s₁ K scope.names cenv → ∀ b ∈ l, Asg w k s₁ S' cenv (capt scope.names G) target (emb b) (Γ' b))
    (back : ∀ b n d, (capt scope.names G).lookup n = some d → (Γ' b).lookup n = some d)
    (tst : ∀ s₁ S' cenv, CEnv s₁ K scope.names cenv → ∀ b ∈ l, Ts w k S' cenv (Γ' b) ifs (p b))
    (elm : ∀ s₁ S' cenv, CEnv s₁ K scope.names cenv → ∀ b ∈ l, p b = true → Ev w k S' cenv (Γ' b) elt (O.one (ρ b)))
    (hs : ∀ x, foldedSetIterable iter env x = pure x := by intro _; rfl) :
    EvL w k S env G (.ListComp elt [⟨target, iter, ifs, 0⟩] scope pos) (O.many ((l.filter p).map ρ)) := ⟨fun s₀ A E s hA f => by
  obtain ⟨hcl, hloc⟩ := comp_static f hK ok
  rw [eval_ListComp]
  refine wpAny_comprehension_free (use := none) rfl hs hcl hkind hloc ?_
  refine wpAny_mono (hi.run s₀ A E s hA f) (fun x s₁ q => ?_) fun _ _ q => q
  obtain ⟨f₁, kx1, rx⟩ := q
  refine wpAny_mono (hI.run A E S s₁ x hA.handled rx f₁.low) (fun it s₂ r => ?_) fun _ _ q => q
  obtain ⟨I, fp, P, St, rfl, h1, h2, h3, h4, W, hP, st0, k12⟩ := r
  refine (comp_core (E := E) (s₂ := s₂) O l emb p ρ Γ' hA f₁ hK ok hkind hsz h1 h2 h3 (W A hA.handled) hP st0 k12 (asg s₁) back (tst s₁) (elm s₁)
      (RR := fun acc C => compPost (model p0 w) A E none (fun v s' => Fm w s₀ S env G s' ∧ KeepX [env.locals] s.heap s'.heap ∧ Rep S s'.heap v (O.many ((l.filter p).map ρ))) acc C) (pos := pos) (iter := iter) (fun S' cenv D s' dn => ?_)).2.2
  obtain ⟨ys, hl, hp⟩ := dn.list
  obtain ⟨m, hm⟩ := dn.fm.ns
  refine ⟨m, hm, fun h' hs' => ?_⟩
  have kx : KeepX S' s'.heap h' := fun b o hb e => hs'.extBut b o (fun q => hb (q ▸ dn.fm.locIn)) e
  have kk : Kp s₁ s' := dn.fm.keep
  have kk' : Kp s₁ { s' with heap := h' } := by
    refine ⟨?_, kk.2⟩
    obtain ⟨⟨h1, t1, e1, k1'⟩, _⟩ := kk
    refine ⟨h', t1, by rw [e1], fun b o e => hs'.extBut b o (fun q => ?_) (by rw [e1]; exact k1' b o e)⟩
    rw [q, dn.fm.own] at e; cases e
  exact ⟨f₁.keeps kk', kx1.trans (kp_x kk' _), O.mkl dn.offD (hl.extBut hs'.extBut dn.neD) (Paired.imp (fun _ _ r => O.sub dn.sub (O.keep kx r)) hp)⟩⟩
end
end Mine
end

section
set_option maxRecDepth 100000
set_option linter.unusedVariables false
set_option linter.unusedSimpArgs false
namespace Mine
open PySem PySem.W PySem.Calls PyProof.Rows

/-! what the law computes, in plain lists -/
noncomputable def lTyped (cs : List Int) : List (List Nat × List Nat) := cs.map typedOf ++ [([70], [102])]
noncomputable def lDrawn (cs : List Int) : List Nat := ((lTyped cs).map (·.2)).flatten
noncomputable def lSigns (cs : List Int) : List Nat := ((lTyped cs).map (·.1)).flatten
noncomputable def lTotal (cs : List Int) : Int := cs.sum
noncomputable def lTimes (cs : List Int) : Nat := 1 + (lTotal cs % 3).toNat
noncomputable def lPairs (cs : List Int) : List (Nat × Int) := (List.range (lDrawn cs).length).map fun k => ((lDrawn cs).getD k 0, (k : Int))
noncomputable def lOrder (cs : List Int) : List Nat := (srt (lPairs cs)).map fun p => p.2.toNat
noncomputable def aheadAt (d : List Nat) (place : Nat) : Nat := ((List.range place).filter fun k => decide (d.getD place 0 < d.getD k 0)).length
noncomputable def lAhead (cs : List Int) : List Nat := (lOrder cs).map (aheadAt (lDrawn cs)) ++ List.replicate (lTimes cs) 0
noncomputable def lRows (cs : List Int) : List Nat := (lOrder cs).map (fun p => (lDrawn cs).getD p 0) ++ List.replicate (lTimes cs) 122
noncomputable def lFolded (cs : List Int) : List (List Nat) := (List.range (lRows cs).length).map fun k => [(lRows cs).getD k 0, besideOf (lTotal cs + 5 * (k : Nat)), 46]
noncomputable def lNames (cs : List Int) : List (List Nat) := (List.range (lRows cs).length).map fun k => [unseenOf (lTotal cs / 3 + 5 * (k : Nat)), formOf ((lRows cs).getD k 0) ((lTotal cs / 3 + (k : Nat)) % 12), besideOf (lTotal cs + 5 * (k : Nat)), 46]
noncomputable def lKinds (cs : List Int) : List Nat := (List.range ((lRows cs).length - 1)).map fun j => ((lTotal cs / 9 + (1 + (j : Nat))) % 5).toNat
noncomputable def endsT : List (List Nat) := [[10], [13], [13, 10], [10, 13], [13, 13, 10]]
noncomputable def lEnds0 (cs : List Int) : List (List Nat) := [] :: (lKinds cs).map fun kind => endsT.getD kind []
noncomputable def lEnds (cs : List Int) : List (List Nat) := [] :: (lKinds cs).map fun kind => if kind < 3 then [13, 10] else [13, 10, 13, 10]
noncomputable def moreOf (a : List Nat) (j : Nat) : List Nat := a.map fun c => if 0 < c then c + j else 0
noncomputable def lMail (cs : List Int) : Nat → List Nat
  | 0 => pageOf (lEnds0 cs) (lAhead cs) (lNames cs)
  | j + 1 => pageOf (lEnds cs) (moreOf (lAhead cs) (j + 1)) (lNames cs)
noncomputable def lDots (cs : List Int) : List Nat := moreOf (lAhead cs) (lTimes cs)
noncomputable def lPage (cs : List Int) : List Nat := pageOf (lEnds cs) (lDots cs) (lFolded cs)
noncomputable def lDue (cs : List Int) : List Nat := (List.range (lDrawn cs).length).map (fun p => (lOrder cs).idxOf p) ++ (List.range ((lRows cs).length - (lDrawn cs).length)).map fun j => (lDrawn cs).length + j
noncomputable def lWord (cs : List Int) (t : Nat) : List Nat := readFrom 0 ((lDots cs).map (· - t))

/-- what the walk leans on -/
structure LF (cs : List Int) : Prop where
  nonneg : ∀ c ∈ cs, 0 ≤ c ∧ c < 2 ^ 40
  five : cs.length = 5
  letters : ∀ c ∈ lDrawn cs, 97 ≤ c ∧ c ≤ 122
  dlen : 1 ≤ (lDrawn cs).length ∧ (lDrawn cs).length ≤ 16
  slen : (lSigns cs).length ≤ 100
  sfold : ∀ c ∈ lSigns cs, decide ((c : Int) ∈ b1L) = false → (foldOf c).length ≤ 1000
  prep : (keptL (lSigns cs)).flatten = lDrawn cs
  oin : ∀ i ∈ (kev (tupLt (lPairs cs)) (kas_sort (lPairs cs).length)).toList, i < (lPairs cs).length
  olen : (lOrder cs).length = (lDrawn cs).length
  olt : ∀ p ∈ lOrder cs, p < (lDrawn cs).length
  alen : ∀ a ∈ lAhead cs, a ≤ 16
  quote : ∀ j, j < lTimes cs → q1 true (q2 false (lMail cs j)) = lMail cs (j + 1)
  qlen : ∀ j, j ≤ lTimes cs → (lMail cs j).length ≤ 5000 ∧ (q2 false (lMail cs j)).length ≤ 10000
  mfold : ∀ c ∈ lMail cs (lTimes cs), decide ((c : Int) ∈ b1L) = false → (foldOf c).length ≤ 1000
  fold : (keptL (lMail cs (lTimes cs))).flatten = lPage cs
  plen : (lPage cs).length ≤ 10000
  sepk : (decide ((T_ (lPage cs)).length < (T_ [13, 10]).length) || decide (Builtin.Str.strKind (T_ (lPage cs)) < Builtin.Str.strKind (T_ [13, 10]))) = false
  sepf : (Builtin.Str.occurrences (T_ (lPage cs)) (T_ [13, 10]) 0 (T_ (lPage cs)).length ((T_ (lPage cs)).length + 1)).isEmpty = false
  split : ∃ parts : List (List Nat), Builtin.Str.partsBetween (T_ (lPage cs)) (Builtin.Str.occurrences (T_ (lPage cs)) (T_ [13, 10]) 0 (T_ (lPage cs)).length ((T_ (lPage cs)).length + 1)) (T_ [13, 10]).length = parts.map T_ ∧ parts.length ≤ 10000 ∧ (∀ x ∈ parts, x.length ≤ 10000) ∧
    (parts.filter fun r => r != []).map (fun r => countL r 46) = (lDots cs).map (· + 1)
  idx : ∀ p, p < (lDrawn cs).length → p ∈ lOrder cs
  passok : ∀ t, PassOk (lRows cs) (lWord cs t)
  pass : ∀ t, bword (lWord cs t) ((lRows cs).length - 1) = lWord cs (t + 1)
  exch : ∀ t, (bst (lWord cs t) ((lRows cs).length - 1)).2.2 = ((lDots cs).filter fun c => decide (t + 1 ≤ c)).length
  due : lWord cs (lTimes cs) = lDue cs
end Mine
end

section
set_option maxRecDepth 100000
set_option linter.unusedVariables false
set_option linter.unusedSimpArgs false
namespace Mine
open PySem PySem.W PySem.Calls PyProof.Rows

theorem own_cell {s : Shared} {i : Nat} {S : List Addr} {env : Env} {n : Str} (bd : Bd s i S env) (hk : env.kindOf n = some .cell) (h : ((cellsFrom 0 (fS i).names []).lookup n).isSome = true) : OwnCell env s n :=
  bd.ownc n hk (by rw [bd.cells, cellsFrom_lookup (fS i).names _ 0 [] [] (fun _ => rfl)]; exact h)
theorem pickL_map {α β : Type} (f : α → β) (l : List α) (a b c : Option Int) : pickL (l.map f) a b c = (pickL l a b c).map f := by
  unfold pickL
  rw [List.length_map]
  generalize sliceRange _ _ _ = r
  induction r with
  | nil => rfl
  | cons i r ih =>
    simp only [List.filterMap_cons, List.getElem?_map]
    cases l[i]? with
    | none => simpa using ih
    | some x => simpa using ih
theorem pickL_mem {α : Type} (l : List α) (a b c : Option Int) : ∀ x ∈ pickL l a b c, x ∈ l := by
  intro x hx
  unfold pickL at hx
  obtain ⟨i, _, e⟩ := List.mem_filterMap.mp hx
  exact List.mem_of_getElem? e
section
variable {w : World} {k : Nat} {s₀ : Shared} {X S : List Addr} {env : Env} {G : Gam} {γ β : Type}
theorem ev_slice_isl {v : Expr} {lo st : Expr} {p pos : Pos} {l : List PA} {x z : Int} (hv : Ev w k S env G v (.isl l)) (h₁ : Pt w k S env G (some lo) (some x)) (h₃ : Pt w k S env G (some st) (some z)) (hz : some z ≠ some 0) (hsz : l.length ≤ 2 ^ 24) :
    Ev w k S env G (.Subscript v (.Slice (some lo) none (some st) p) pos) (.list (pickL l (some x) none (some z))) := ⟨fun s₀ A E s ha f => by
  rw [arm_eval_Subscript]
  refine wpAny_bind (wpAny_mono (hv.run s₀ A E s ha f) (fun o s₁ q => wpAny_bind (wpAny_holding ?_)) fun _ _ x => x)
  rw [arm_eval_Slice]
  refine wpAny_bind (wpAny_mono (h₁.run s₀ A E s₁ ha (f.keeps q.1)) (fun vl s₂ q₁ => wpAny_bind (wpAny_holding ?_)) fun _ _ x => x)
  refine wpAny_mono (pt_none.run s₀ A E s₂ ha ((f.keeps q.1).keeps q₁.1)) (fun vu s₃ q₂ => wpAny_bind (wpAny_holding ?_)) fun _ _ x => x
  refine wpAny_mono (h₃.run s₀ A E s₃ ha (((f.keeps q.1).keeps q₁.1).keeps q₂.1)) (fun vs s₄ q₃ => ?_) fun _ _ x => x
  have kk := kp_trans q.1 (kp_trans q₁.1 (kp_trans q₂.1 q₃.1))
  have f4 := f.keeps kk
  refine wpAny_newObj_type ?_ (by show (3 : Nat) ≤ _; decide)
  have r := q.2.keep (kp_x (kp_trans q₁.1 (kp_trans q₂.1 q₃.1)) S)
  cases r using Rep.cIsl with | isl hs1 hl1 hp1 =>
    rename_i l' items
    have e : items.size = l.length := by have := hp1.length; simpa using this
    have hl2 := (hl1.push { cls := .type "slice", data := .fields #[vl, vu, vs] : Obj})
    refine wpAny_bind (wpAny_standAt (wpAny_bind ?_))
    unfold getitemInPython
    refine wpAny_bind (wpAny_specialOf hl2.typeIs list_getitem_lookup (wpAny_pure ?_))
    have go : wpAny (model p0 w) A (getItem (.ref l') (.ref s₄.heap.objs.size)) (fun r s' => Kp s s' ∧ Rep S s'.heap r (.list (pickL l (some x) none (some z)))) E { s₄ with heap := s₄.heap.push { cls := .type "slice", data := .fields #[vl, vu, vs] } } := by
      refine wpAny_getItem_list_slice hl2 (Heap.IsSliceOf.new ..) q₁.2 q₂.2 q₃.2 hz ⟨kp_trans kk (kp_trans kp_push kp_push), .list (fresh_off (f4.keeps kp_push).low) ⟨_, Heap.get?_push_size _ rfl⟩ (paired_pick hp1 _ _ _)⟩ (by unfold sizeLine; (first | lia | omega))
    exact wpAny_bind (wpAny_operating (wpAny_mono go (fun r s' hr => wpAny_bind (wpAny_letTemporaryGo (wpAny_pure hr))) fun _ _ x => x))⟩
theorem back_two {ns : List (Str × NameKind)} {x y : Str} {d' d'' : PV} (hx : (ns.lookup x == some .local) = true) (hy : (ns.lookup y == some .local) = true) {n : Str} {d : PV} (h : (capt ns G).lookup n = some d) : List.lookup n ((y, d'') :: (x, d') :: capt ns G) = some d := by
  refine lk_there ?_ (back_one hx h)
  refine beq_eq_false_iff_ne.mpr fun q => ?_
  subst q
  have h1 := (capt_lk h).1
  rw [h1] at hy; exact absurd hy (by decide)
/-- a comprehension over pairs -/
theorem ev_comp2 (O : Out γ) {K : List (Str × NameKind)} {elt iter : Expr} {x y : Str} {px py pt : Pos} {j : Nat} {scope : Scope} {pos : Pos} {di : PV} {xs : List PV} (l : List β) (f1 f2 : β → PA) (ρ : β → γ)
    (hK : env.scope.names = K) (hi : Ev w k S env G iter di) (hI : Itr w 0 di xs) (hxs : xs = l.map fun b => PV.tup [f1 b, f2 b]) (hsz : l.length ≤ 2 ^ 24)
    (elm : ∀ S' cenv, cenv.scope.names = relabelN K scope.names → ∀ b ∈ l, Ev w k S' cenv ((y, .at (f2 b)) :: (x, .at (f1 b)) :: capt scope.names G) elt (O.one (ρ b)))
    (ok : compOk K scope.names (G.map (·.1)) = true) (hx : (scope.names.lookup x == some .local) = true) (hy : (scope.names.lookup y == some .local) = true) (hkind : scope.kind = .function)
    (hs : ∀ x, foldedSetIterable iter env x = pure x := by intro _; rfl) :
    Ev w k S env G (.ListComp elt [⟨.Tuple [.Name x px, .Name y py] j pt, iter, [], 0⟩] scope pos) (O.many (l.map ρ)) := by
  have h := ev_comp O (w := w) (k := k) (S := S) (env := env) (G := G) (elt := elt) (target := .Tuple [.Name x px, .Name y py] j pt) (iter := iter) (ifs := []) (pos := pos) (di := di) l (fun b => PV.tup [f1 b, f2 b]) (fun _ => true) ρ (fun b => (y, .at (f2 b)) :: (x, .at (f1 b)) :: capt scope.names G) hK hi (hxs ▸ hI) ok hkind hsz
    (fun s₁ S' cenv ce b hb => asg_tup (kind_loc ce.names hx) (kind_loc ce.names hy)) (fun b n d h => back_two hx hy h) (fun s₁ S' cenv ce b hb => ts_nil) (fun s₁ S' cenv ce b hb hp => elm S' cenv ce.names b hb) hs
  have e : l.filter (fun _ => true) = l := List.filter_eq_self.mpr fun _ _ => rfl
  rw [e] at h
  exact h
theorem evl_comp2 (O : Out γ) {K : List (Str × NameKind)} {elt iter : Expr} {x y : Str} {px py pt : Pos} {j : Nat} {scope : Scope} {pos : Pos} {di : PV} {xs : List PV} (l : List β) (f1 f2 : β → PA) (ρ : β → γ)
    (hK : env.scope.names = K) (hi : EvL w k S env G iter di) (hI : Itr w 0 di xs) (hxs : xs = l.map fun b => PV.tup [f1 b, f2 b]) (hsz : l.length ≤ 2 ^ 24)
    (elm : ∀ S' cenv, cenv.scope.names = relabelN K scope.names → ∀ b ∈ l, Ev w k S' cenv ((y, .at (f2 b)) :: (x, .at (f1 b)) :: capt scope.names G) elt (O.one (ρ b)))
    (ok : compOk K scope.names (G.map (·.1)) = true) (hx : (scope.names.lookup x == some .local) = true) (hy : (scope.names.lookup y == some .local) = true) (hkind : scope.kind = .function)
    (hs : ∀ x, foldedSetIterable iter env x = pure x := by intro _; rfl) :
    EvL w k S env G (.ListComp elt [⟨.Tuple [.Name x px, .Name y py] j pt, iter, [], 0⟩] scope pos) (O.many (l.map ρ)) := by
  have h := evl_comp O (w := w) (k := k) (S := S) (env := env) (G := G) (elt := elt) (target := .Tuple [.Name x px, .Name y py] j pt) (iter := iter) (ifs := []) (pos := pos) (di := di) l (fun b => PV.tup [f1 b, f2 b]) (fun _ => true) ρ (fun b => (y, .at (f2 b)) :: (x, .at (f1 b)) :: capt scope.names G) hK hi (hxs ▸ hI) ok hkind hsz
    (fun s₁ S' cenv ce b hb => asg_tup (kind_loc ce.names hx) (kind_loc ce.names hy)) (fun b n d h => back_two hx hy h) (fun s₁ S' cenv ce b hb => ts_nil) (fun s₁ S' cenv ce b hb hp => elm S' cenv ce.names b hb) hs
  have e : l.filter (fun _ => true) = l := List.filter_eq_self.mpr fun _ _ => rfl
  rw [e] at h
  exact h
/-- a comprehension without ifs, one plain target -/
theorem ev_compA (O : Out γ) {K : List (Str × NameKind)} {elt iter : Expr} {x : Str} {px : Pos} {scope : Scope} {pos : Pos} {di : PV} {xs : List PV} (l : List β) (emb : β → PV) (ρ : β → γ)
    (hK : env.scope.names = K) (hi : Ev w k S env G iter di) (hI : Itr w 0 di xs) (hxs : xs = l.map emb) (hsz : l.length ≤ 2 ^ 24)
    (elm : ∀ S' cenv, cenv.scope.names = relabelN K scope.names → ∀ b ∈ l, Ev w k S' cenv ((x, emb b) :: capt scope.names G) elt (O.one (ρ b)))
    (ok : compOk K scope.names (G.map (·.1)) = true) (hx : (scope.names.lookup x == some .local) = true) (hkind : scope.kind = .function)
    (hs : ∀ x, foldedSetIterable iter env x = pure x := by intro _; rfl) :
    Ev w k S env G (.ListComp elt [⟨.Name x px, iter, [], 0⟩] scope pos) (O.many (l.map ρ)) := by
  have h := ev_comp1 O (w := w) (k := k) (S := S) (env := env) (G := G) (elt := elt) (x := x) (px := px) (iter := iter) (ifs := []) (pos := pos) (di := di) l emb (fun _ => true) ρ hK hi hI hxs hsz (fun _ _ _ _ _ => ts_nil) (fun S' cenv hc b hb _ => elm S' cenv hc b hb) ok hx hkind hs
  have e : l.filter (fun _ => true) = l := List.filter_eq_self.mpr fun _ _ => rfl
  rw [e] at h
  exact h
theorem ex_compA (O : Out γ) {K : List (Str × NameKind)} {elt iter : Expr} {x : Str} {px : Pos} {scope : Scope} {pos spos py : Pos} {y : Str} {rest : List Stmt} {Q : Flow → Shared → Prop} {di : PV} {xs : List PV} (l : List β) (emb : β → PV) (ρ : β → γ)
    (hK : env.scope.names = K) (hi : Ev w k S env G iter di) (hI : Itr w 0 di xs) (hxs : xs = l.map emb) (hsz : l.length ≤ 2 ^ 24)
    (elm : ∀ S' cenv, cenv.scope.names = relabelN K scope.names → ∀ b ∈ l, Ev w k S' cenv ((x, emb b) :: capt scope.names G) elt (O.one (ρ b)))
    (ok : compOk K scope.names (G.map (·.1)) = true) (hx : (scope.names.lookup x == some .local) = true) (hkind : scope.kind = .function)
    (hy : env.kindOf y = some .local) (hsw : swapsWith (.ListComp elt [⟨.Name x px, iter, [], 0⟩] scope pos) (some (.Name y py)) spos.line env = pure true)
    (next : Ex w k s₀ X S env ((y, O.many (l.map ρ)) :: G) rest Q)
    (hs : ∀ x, foldedSetIterable iter env x = pure x := by intro _; rfl) :
    Ex w k s₀ X S env G (.Assign [.Name y py] (.ListComp elt [⟨.Name x px, iter, [], 0⟩] scope pos) spos :: rest) Q := by
  have e : l.filter (fun _ => true) = l := List.filter_eq_self.mpr fun _ _ => rfl
  refine ex_comp1 O (w := w) (k := k) (S := S) (env := env) (G := G) l emb (fun _ => true) ρ hK hi hI hxs hsz (fun _ _ _ _ _ => ts_nil) (fun S' cenv hc b hb _ => elm S' cenv hc b hb) ok hx hkind hy hsw ?_ hs
  rw [e]
  exact next
end
noncomputable def lBase : List Int := [32, 117, 107, 8, 154]
noncomputable def lCells (ns : List Int) : List Int := (List.range 5).map fun k => lBase.getD k 0 + ((pickL ns (some (k : Nat)) none (some 5)).map (· % 1000000)).sum
noncomputable def lTypedPA (cs : List Int) : List (List PA) := (lTyped cs).map fun p => [PA.str p.1, PA.str p.2]
end Mine
end

section
set_option maxRecDepth 100000
set_option linter.unusedVariables false
set_option linter.unusedSimpArgs false
namespace Mine
open PySem PySem.W PySem.Calls PyProof.Rows

theorem pickL_len (l : List Int) (a b c : Option Int) : (pickL l a b c).length ≤ l.length := by
  have hp : ∀ m : List Int, Paired (fun _ _ => True) (m.map fun n => Value.int n 0) (m.map PA.int) := by
    intro m
    induction m with
    | nil => exact .nil
    | cons x m ih => exact .cons trivial ih
  have h1 := slicePick_size_le (l.map fun n => Value.int n 0).toArray a b c
  have h2 := (paired_pick (F := fun _ _ => True) (items := (l.map fun n => Value.int n 0).toArray) (hp l) a b c).length
  rw [pickL_map, List.length_map] at h2
  simp at h1 h2
  (first | lia | omega)
theorem ex_fewer {w : World} {k : Nat} {s₀ : Shared} {X S : List Addr} {env : Env} {G G' : Gam} {body body' : List Stmt} {Q : Flow → Shared → Prop} (e : body = body') (h : Ex w k s₀ X S env G' body' Q) (hG : Sub G' G) : Ex w k s₀ X S env G body Q :=
  ⟨fun A E s a f => e ▸ h.run A E s a (f.fewer hG.all)⟩
noncomputable def GA (cs : List Int) : Gam := [("times", .at (.int (lTimes cs : Nat))), ("total", .at (.int (lTotal cs))), ("drawn", .at (.str (lDrawn cs)))]
theorem law_A {w : World} {s : Shared} {S : List Addr} {env : Env} {Q : Flow → Shared → Prop} (bd : Bd s 26 S env) {ns : List Int} (hn : ns.length ≤ 63) (F : LF (lCells ns)) (next : Ex w 4 s [] S env (GA (lCells ns)) ((fB 26).drop 7) Q) :
    Ex w 4 s [] S env [("script", .isl (ns.map PA.int))] (fB 26) Q := by
  have hK := ns_of bd
  have hfun : env.scope.kind = .function := by rw [bd.scope]; kernel_rfl
  refine ex_at (by unfold fB; exact rfl) ?_
  refine ex_cell (own_cell bd (kd hK (by kernel_rfl)) (by kernel_rfl)) (ev_list (l := lBase.map PA.int) (by unfold lBase; repeat (first | exact evs_nil | refine evs_cons ev_int ?_)) (by decide)) rfl ?_
  refine ex_compA outA (List.range 5) (fun i => PV.at (.int (i : Nat))) (fun k => PA.int (lBase.getD k 0 + ((pickL ns (some (k : Nat)) none (some 5)).map (· % 1000000)).sum)) hK
    (ev_ty (ld_bi (kd hK (by kernel_rfl)) (gm_range _) bb_range) (evs_cons ev_int evs_nil) bi_range1 (Nat.le_refl _)) (itr_range0 (n := 5) (by decide)) rfl (by decide) (fun S' cenv hc k hk => ?_) (by kernel_rfl) (by kernel_rfl) rfl (kd hK (by kernel_rfl)) (swaps_local hfun hK (by kernel_rfl)) ?_
  · have hk5 := List.mem_range.mp hk
    have hx : (lBase.map PA.int)[((k : Nat) : Int).toNat]? = some (.int (lBase.getD k 0)) := by
      have h : k = 0 ∨ k = 1 ∨ k = 2 ∨ k = 3 ∨ k = 4 := by (first | lia | omega)
      rcases h with rfl | rfl | rfl | rfl | rfl <;> rfl
    have hb : ∀ x ∈ (pickL ns (some (k : Nat)) none (some 5)).map (· % 1000000), 0 ≤ x ∧ x < 2 ^ 40 := fun x hx => by
      obtain ⟨y, _, rfl⟩ := List.mem_map.mp hx
      have h1 := Int.emod_nonneg y (b := 1000000) (by decide)
      have h2 := Int.emod_lt_of_pos y (b := 1000000) (by decide)
      (first | lia | omega)
    have hpl : (pickL ns (some (k : Nat)) none (some 5)).length ≤ 63 := Nat.le_trans (pickL_len _ _ _ _) hn
    refine ev_bin (ev_sub ev_n ev_n (it_list (by (first | lia | omega)) hx (by decide))) (ev_bi (ld_bi (kd hc (by kernel_rfl)) (gm_sum _) bb_sum) (evs_cons (ev_as (ev_compA outA (pickL ns (some (k : Nat)) none (some 5)) (fun x => PV.at (.int x)) (fun x => PA.int (x % 1000000)) hc
      (ev_as (ev_slice_isl ev_n (pt_some ev_n) (pt_some ev_int) (by decide) (by rw [List.length_map]; (first | lia | omega))) (congrArg PV.list (pickL_map _ _ _ _ _))) itr_list (by rw [List.map_map]; rfl) (by (first | lia | omega)) (fun S'' cenv' hc' x hx => ?_) (by kernel_rfl) (by kernel_rfl) rfl) ?_) evs_nil) (bi_sum hb (by rw [List.length_map]; (first | lia | omega))) (Nat.le_refl _)) bn_add_int
    · exact ev_bin ev_n (ev_as (ev_bin ev_int ev_int (bn_pow_int (by decide) (by decide) (by decide))) (by kernel_rfl : PV.at (PA.int ((10 : Int) ^ (6 : Int).toNat)) = .at (.int 1000000))) (bn_mod_int (by decide))
    · show PV.list _ = PV.list _
      rw [List.map_map]; rfl
  · show Ex w 4 s [] S env (("cells", .list ((List.range 5).map _)) :: _) _ Q
    have ecs : (List.range 5).map (fun k => PA.int (lBase.getD k 0 + ((pickL ns (some (k : Nat)) none (some 5)).map (· % 1000000)).sum)) = (lCells ns).map PA.int := by
      unfold lCells; rw [List.map_map]; rfl
    rw [ecs]
    clear ecs
    generalize lCells ns = cs at F next ⊢
    have hc5 : cs.length = 5 := F.five
    have hdl : ((lTyped cs).map (·.2)).flatten.length ≤ 16 := F.dlen.2
    have hsl : ((lTyped cs).map (·.1)).flatten.length ≤ 100 := F.slen
    rw [List.length_flatten] at hdl hsl
    have htl : (lTyped cs).length ≤ 10 := by unfold lTyped; simp; (first | lia | omega)
    refine ex_local (kd hK (by kernel_rfl)) (ev_as (ev_bin (ev_compA outT cs (fun c => PV.at (.int c)) (fun c => [PA.str (typedOf c).1, PA.str (typedOf c).2]) hK ev_n itr_list (by rw [List.map_map]; rfl) (by (first | lia | omega)) (fun S' cenv hc c hcc => ?_) (by kernel_rfl) (by kernel_rfl) rfl)
      (ev_tlist (l := [[PA.str [70], PA.str [102]]]) (evs_cons (ev_tup (l := [PA.str [70], PA.str [102]]) (evs_cons (ev_s (l := [70]) (by kernel_rfl)) (evs_cons (ev_s (l := [102]) (by kernel_rfl)) evs_nil)) (by decide)) evs_nil) (by decide)) (bn_add_tlist (by rw [List.length_map, hc5]; decide))) (d := .tlist (lTypedPA cs)) ?_) rfl ?_
    · exact ev_fn def_l_typed (ld_glob (kd hc (by kernel_rfl)) (gm_l_typed _)) (evs_cons ev_n evs_nil) fn_typed (by decide)
    · unfold lTypedPA lTyped; rw [List.map_append, List.map_map]; rfl
    refine ex_cell (own_cell bd (kd hK (by kernel_rfl)) (by kernel_rfl)) (ev_join (ls := (lTyped cs).map (·.2)) (by kernel_rfl) (ev_as (ev_comp2 outA (lTyped cs) (fun p => PA.str p.1) (fun p => PA.str p.2) (fun p => PA.str p.2) hK ev_n itr_tlist (by unfold lTypedPA; rw [List.map_map]; rfl) (by (first | lia | omega)) (fun S' cenv hc p hp => ev_n (d := .at (.str p.2))) (by kernel_rfl) (by kernel_rfl) (by kernel_rfl) rfl) (by show PV.list _ = PV.list _; rw [List.map_map]; rfl)) (by (first | lia | omega)) rfl) rfl ?_
    refine ex_if_not (tr_cmp (ev_fn def_l_prepared (ld_glob (kd hK (by kernel_rfl)) (gm_l_prepared _)) (evs_cons (ev_join (ls := (lTyped cs).map (·.1)) (by kernel_rfl) (ev_as (ev_comp2 outA (lTyped cs) (fun p => PA.str p.1) (fun p => PA.str p.2) (fun p => PA.str p.1) hK ev_n itr_tlist (by unfold lTypedPA; rw [List.map_map]; rfl) (by (first | lia | omega)) (fun S' cenv hc p hp => ev_n (d := .at (.str p.1))) (by kernel_rfl) (by kernel_rfl) (by kernel_rfl) rfl) (by show PV.list _ = PV.list _; rw [List.map_map]; rfl)) (by (first | lia | omega)) rfl) evs_nil) (fn_prepared (l := lSigns cs) (Nat.le_trans F.slen (by decide)) F.sfold) (by decide)) ev_n (cm_as cm_ne_str (by rw [F.prep]; exact bne_self_eq_false _))) ?_
    refine ex_cell (own_cell bd (kd hK (by kernel_rfl)) (by kernel_rfl)) (ev_bi (ld_bi (kd hK (by kernel_rfl)) (gm_sum _) bb_sum) (evs_cons ev_n evs_nil) (bi_sum F.nonneg (by (first | lia | omega))) (Nat.le_refl _)) rfl ?_
    have et : (1 : Int) + cs.sum % 3 = (lTimes cs : Nat) := by
      unfold lTimes lTotal
      have := Int.emod_nonneg cs.sum (b := 3) (by decide)
      (first | lia | omega)
    refine ex_local (kd hK (by kernel_rfl)) (ev_as (ev_bin ev_int (ev_bin ev_n ev_int (bn_mod_int (by decide))) bn_add_int) (congrArg (fun i => PV.at (PA.int i)) et)) rfl ?_
    have next' : Ex w 4 s [] S env [("times", .at (.int (lTimes cs : Nat))), ("total", .at (.int cs.sum)), ("drawn", .at (.str (List.map (fun p : List Nat × List Nat => p.2) (lTyped cs)).flatten))] ((fB 26).drop 7) Q := next
    exact ex_fewer (by unfold fB; exact rfl) next' (sub_cons (sub_cons (sub_cons sub_nil)))
end Mine
end

section
set_option maxRecDepth 100000
set_option linter.unusedVariables false
set_option linter.unusedSimpArgs false
namespace Mine
open PySem PySem.W PySem.Calls PyProof.Rows

theorem srt_mem {ps : List (Nat × Int)} (h : ∀ i ∈ (kev (tupLt ps) (kas_sort ps.length)).toList, i < ps.length) : ∀ p ∈ srt ps, p ∈ ps := by
  intro p hp
  unfold srt at hp
  split at hp
  · exact hp
  · obtain ⟨i, hi, rfl⟩ := List.mem_map.mp hp
    have := h i hi
    simp [this]
theorem flat_one {α β : Type} (f : α → β) (l : List α) : (l.map fun b => [f b]).flatten = l.map f := by
  induction l with
  | nil => rfl
  | cons x l ih => simp [ih]
theorem flat_rep1 {α : Type} (n : Nat) (x : α) : (List.replicate n [x]).flatten = List.replicate n x := by
  induction n with
  | zero => rfl
  | succ n ih => rw [List.replicate_succ, List.flatten_cons, ih]; rfl
theorem back_cell {G : Gam} {ns : List (Str × NameKind)} {x : Str} {d' : PV} (hx : (ns.lookup x == some .cell) = true) {n : Str} {d : PV} (h : (capt ns G).lookup n = some d) : List.lookup n ((x, d') :: capt ns G) = some d := by
  refine lk_there ?_ h
  refine beq_eq_false_iff_ne.mpr fun q => ?_
  subst q
  have h1 := (capt_lk h).1
  rw [h1] at hx; exact absurd hx (by decide)
noncomputable def GB (cs : List Int) : Gam := [("rows", .at (.str (lRows cs))), ("ahead", .list (intsL (lAhead cs))), ("order", .list (intsL (lOrder cs))), ("times", .at (.int (lTimes cs : Nat))), ("total", .at (.int (lTotal cs))), ("drawn", .at (.str (lDrawn cs)))]
theorem law_B {w : World} {s : Shared} {S : List Addr} {env : Env} {Q : Flow → Shared → Prop} (bd : Bd s 26 S env) {cs : List Int} (F : LF cs) (next : Ex w 4 s [] S env (GB cs) ((fB 26).drop 10) Q) :
    Ex w 4 s [] S env (GA cs) ((fB 26).drop 7) Q := by
  have hK := ns_of bd
  have hfun : env.scope.kind = .function := by rw [bd.scope]; kernel_rfl
  have hdl := F.dlen
  have hpl : (lPairs cs).length = (lDrawn cs).length := by unfold lPairs; simp
  have ht3 : lTimes cs ≤ 3 := by
    unfold lTimes
    have h1 := Int.emod_nonneg (lTotal cs) (b := 3) (by decide)
    have h2 := Int.emod_lt_of_pos (lTotal cs) (b := 3) (by decide)
    (first | lia | omega)
  have hol := F.olen
  have hsl : (srt (lPairs cs)).length = (lDrawn cs).length := by rw [← hol]; unfold lOrder; simp
  have hpos : (srt (lPairs cs)).map (fun p => PA.int p.2) = intsL (lOrder cs) := by
    unfold lOrder intsL
    rw [List.map_map]
    refine List.map_congr_left fun p hp => ?_
    have := srt_mem F.oin p hp
    unfold lPairs at this
    obtain ⟨k, _, rfl⟩ := List.mem_map.mp this
    rfl
  unfold GA
  have hlr : (lRows cs).length = (lDrawn cs).length + lTimes cs := by unfold lRows; rw [List.length_append, List.length_map, List.length_replicate, hol]
  refine ex_at (by unfold fB; exact rfl) ?_
  generalize hd : lDrawn cs = d at *
  have hat : ∀ k, k < d.length → d[((k : Nat) : Int).toNat]? = some (d.getD k 0) := fun k hk => by simp [hk]
  refine ex_cellL (own_cell bd (kd hK (by kernel_rfl)) (by kernel_rfl)) (evl_comp2 outA (srt (lPairs cs)) (fun p => PA.str [p.1]) (fun p => PA.int p.2) (fun p => PA.int p.2) hK
    (evl_sorted (ps := lPairs cs) (ld_bi (kd hK (by kernel_rfl)) (gm_sorted _) bb_sorted) (ev_as (ev_compA outT (List.range d.length) (fun i => PV.at (.int (i : Nat))) (fun k => [PA.str [d.getD k 0], PA.int (k : Nat)]) hK
      (ev_ty (ld_bi (kd hK (by kernel_rfl)) (gm_range _) bb_range) (evs_cons (ev_bi (ld_bi (kd hK (by kernel_rfl)) (gm_len _) bb_len) (evs_cons ev_n evs_nil) (bi_len_str (by (first | lia | omega))) (Nat.le_refl _)) evs_nil) bi_range1 (Nat.le_refl _)) (itr_range0 (by (first | lia | omega))) rfl (by simp; (first | lia | omega)) (fun S' cenv hc k hk => ?_) (by kernel_rfl) (by kernel_rfl) rfl) ?_) (by (first | lia | omega)) (by (first | lia | omega)) F.oin)
    itr_tlist (by rw [List.map_map]; rfl) (by (first | lia | omega)) (fun S' cenv hc p hp => ev_n (d := .at (.int p.2))) (by kernel_rfl) (by kernel_rfl) (by kernel_rfl) rfl) (swaps_cell hK (by kernel_rfl)) ?_
  · have hk := List.mem_range.mp hk
    exact ev_tup (l := [PA.str [d.getD k 0], PA.int (k : Nat)]) (evs_cons (ev_sub ev_n ev_n (it_str (by (first | lia | omega)) (hat k hk) (by (first | lia | omega)))) (evs_cons ev_n evs_nil)) (by simp)
  · show PV.tlist _ = PV.tlist _
    unfold lPairs
    rw [List.map_map, hd]; rfl
  show Ex w 4 s [] S env (("order", .list _) :: _) _ Q
  rw [hpos]
  generalize ho : lOrder cs = ord at *
  have holt : ∀ p ∈ ord, p < d.length := fun p hp => hd ▸ F.olt p (ho ▸ hp)
  have hil : (intsL ord).length = ord.length := intsL_len ord
  have eah : ord.map (fun b => PA.int ((aheadAt d b : Nat) : Int)) ++ (List.replicate (lTimes cs) [PA.int ((0 : Nat) : Int)]).flatten = intsL (lAhead cs) := by
    unfold lAhead
    rw [ho, hd, intsL_append]
    unfold intsL
    rw [List.map_map, List.map_replicate]
    congr 1
    induction lTimes cs with
    | zero => rfl
    | succ n ih => rw [List.replicate_succ, List.replicate_succ, List.flatten_cons, ih]; rfl
  refine ex_local (kd hK (by kernel_rfl)) (ev_as (d := .list (intsL (lAhead cs))) (ev_bin (ev_comp outA ord (fun p => PV.at (.int (p : Nat))) (fun _ => true) (fun b => PA.int ((aheadAt d b : Nat) : Int)) (fun b => ("place", .at (.int (b : Nat))) :: capt _ _) hK ev_n (by have := itr_list (w := w) (m := 0) (l := intsL ord); unfold intsL at this; rw [List.map_map] at this; exact this) (by kernel_rfl) rfl (by (first | lia | omega))
      (fun s₁ S' cenv ce b hb => asg_cell (ce.ownc "place" (.tail _ (.head _)))) (fun b n d h => back_cell (by kernel_rfl) h) (fun s₁ S' cenv ce b hb => ts_nil) (fun s₁ S' cenv ce b hb _ => ?_))
    (ev_bin (ev_list (l := [PA.int ((0 : Nat) : Int)]) (evs_cons ev_int evs_nil) (by decide)) ev_n (bn_mul_list (by simp) (by (first | lia | omega)) (by (first | lia | omega)) (by simp; (first | lia | omega)))) (bn_add_list ?_)) ?_) rfl ?_
  · have hbl := holt b hb
    have hb2 : b ≤ 16 := by (first | lia | omega)
    show Ev w 4 S' cenv _ _ (.at (.int ((aheadAt d b : Nat) : Int)))
    refine ev_as (ev_bi (ld_bi (kd ce.names (by kernel_rfl)) (gm_len _) bb_len) (evs_cons (ev_comp1 outA (List.range b) (fun i => PV.at (.int (i : Nat))) (fun k => decide (d.getD b 0 < d.getD k 0)) (fun k => PA.int (k : Nat)) ce.names
      (ev_ty (ld_bi (kd ce.names (by kernel_rfl)) (gm_range _) bb_range) (evs_cons ev_n evs_nil) bi_range1 (Nat.le_refl _)) (itr_range0 (by (first | lia | omega))) rfl (by simp; (first | lia | omega)) (fun S'' cenv' hc' k hk => ?_) (fun S'' cenv' hc' k hk _ => ev_n (d := .at (.int (k : Nat)))) (by kernel_rfl) (by kernel_rfl) rfl) evs_nil) (bi_len_list ?_) (Nat.le_refl _)) ?_
    · have hk := List.mem_range.mp hk
      refine ts_one (tr_cmp (ev_sub ev_n ev_n (it_str (by (first | lia | omega)) (hat k (by (first | lia | omega))) (by (first | lia | omega)))) (ev_sub ev_n ev_n (it_str (by (first | lia | omega)) (hat b hbl) (by (first | lia | omega)))) (cm_as cm_gt_str ?_))
      rw [decide_eq_decide, List.cons_lt_cons_iff]
      simp
    · rw [List.length_map]
      refine Nat.lt_of_le_of_lt (List.length_filter_le _ _) (by simp; (first | lia | omega))
    · show PV.at _ = PV.at _
      rw [List.length_map]; rfl
  · have := List.length_filter_le (fun _ : Nat => true) ord
    simp; (first | lia | omega)
  · show PV.list _ = PV.list _
    rw [List.filter_eq_self.mpr (fun _ _ => rfl), Int.toNat_natCast]
    exact congrArg PV.list eah
  have hitr : Itr w 0 (.list (intsL ord)) (ord.map fun p => PV.at (.int (p : Nat))) := by have := itr_list (w := w) (m := 0) (l := intsL ord); unfold intsL at this; rw [List.map_map] at this; exact this
  refine ex_cell (own_cell bd (kd hK (by kernel_rfl)) (by kernel_rfl)) (ev_as (ev_bin (ev_join (ls := ord.map fun b => [d.getD b 0]) (by kernel_rfl) (ev_as (ev_compA outA ord (fun p => PV.at (.int (p : Nat))) (fun b => PA.str [d.getD b 0]) hK ev_n hitr rfl (by (first | lia | omega)) (fun S' cenv hc b hb => ?_) (by kernel_rfl) (by kernel_rfl) rfl) (by show PV.list _ = PV.list _; rw [List.map_map]; rfl)) ?_ rfl)
    (ev_bin (ev_s (l := [122]) (by kernel_rfl)) ev_n (bn_mul_str (by (first | lia | omega)) (by (first | lia | omega)) (by simp; (first | lia | omega)))) (bn_add_str ?_)) (d := .at (.str (lRows cs))) ?_) rfl ?_
  · exact ev_sub ev_n ev_n (it_str (by (first | lia | omega)) (hat b (holt b hb)) (by (first | lia | omega)))
  · have e1 : ((ord.map fun b => [d.getD b 0]).map List.length).sum = ord.length := by
      rw [← List.length_flatten, flat_one, List.length_map]
    (first | lia | omega)
  · rw [flat_one, List.length_map]; simp; (first | lia | omega)
  · show PV.at (PA.str _) = PV.at (PA.str _)
    rw [flat_one, Int.toNat_natCast, flat_rep1]
    unfold lRows
    rw [hd, ho]
  refine ex_fewer (G' := GB cs) (body' := (fB 26).drop 10) (by unfold fB; exact rfl) next ?_
  unfold GB
  rw [hd, ho]
  exact sub_cons (sub_cons (sub_cons (sub_cons (sub_cons (sub_cons sub_nil)))))
end Mine
end

section
set_option maxRecDepth 100000
set_option linter.unusedVariables false
set_option linter.unusedSimpArgs false
namespace Mine
open PySem PySem.W PySem.Calls PyProof.Rows

noncomputable def GC (cs : List Int) : Gam := [("ends", .list ((lEnds cs).map PA.str)), ("mail", .at (.str (lMail cs 0))), ("names", .list ((lNames cs).map PA.str)), ("folded", .list ((lFolded cs).map PA.str)), ("rows", .at (.str (lRows cs))), ("ahead", .list (intsL (lAhead cs))), ("order", .list (intsL (lOrder cs))), ("times", .at (.int (lTimes cs : Nat))), ("drawn", .at (.str (lDrawn cs)))]
theorem rows_letters {cs : List Int} (F : LF cs) : ∀ c ∈ lRows cs, 97 ≤ c ∧ c ≤ 122 := fun c hc => by
  unfold lRows at hc
  rcases List.mem_append.mp hc with h | h
  · obtain ⟨p, hp, rfl⟩ := List.mem_map.mp h
    have := F.olt p hp
    exact F.letters _ (by simp [this])
  · obtain ⟨_, rfl⟩ := List.mem_replicate.mp h
    decide
theorem kinds_lt (cs : List Int) : ∀ x ∈ lKinds cs, x < 5 := fun x hx => by
  unfold lKinds at hx
  obtain ⟨j, _, rfl⟩ := List.mem_map.mp hx
  have h1 := Int.emod_nonneg (lTotal cs / 9 + (1 + (j : Nat))) (b := 5) (by decide)
  have h2 := Int.emod_lt_of_pos (lTotal cs / 9 + (1 + (j : Nat))) (b := 5) (by decide)
  (first | lia | omega)
theorem times_le (cs : List Int) : 1 ≤ lTimes cs ∧ lTimes cs ≤ 3 := by
  unfold lTimes
  have h1 := Int.emod_nonneg (lTotal cs) (b := 3) (by decide)
  have h2 := Int.emod_lt_of_pos (lTotal cs) (b := 3) (by decide)
  (first | lia | omega)
theorem rows_len {cs : List Int} (F : LF cs) : (lRows cs).length = (lDrawn cs).length + lTimes cs := by unfold lRows; rw [List.length_append, List.length_map, List.length_replicate, F.olen]
theorem itr_ints {w : World} (l : List Nat) : Itr w 0 (.list (intsL l)) (l.map fun p => PV.at (.int (p : Nat))) := by have := itr_list (w := w) (m := 0) (l := intsL l); unfold intsL at this; rw [List.map_map] at this; exact this
theorem law_C {w : World} {s : Shared} {S : List Addr} {env : Env} {Q : Flow → Shared → Prop} (bd : Bd s 26 S env) {cs : List Int} (F : LF cs) (next : Ex w 4 s [] S env (GC cs) ((fB 26).drop 15) Q) :
    Ex w 4 s [] S env (GB cs) ((fB 26).drop 10) Q := by
  have hK := ns_of bd
  have hfun : env.scope.kind = .function := by rw [bd.scope]; kernel_rfl
  have hdl := F.dlen
  have ht3 := times_le cs
  have hlr := rows_len F
  have hrl := rows_letters F
  have hN : 2 ≤ (lRows cs).length ∧ (lRows cs).length ≤ 19 := by (first | lia | omega)
  unfold GB
  refine ex_at (by unfold fB; exact rfl) ?_
  have efold : (List.range (lRows cs).length).map (fun k => PA.str [(lRows cs).getD k 0, besideOf (lTotal cs + 5 * (k : Nat)), 46]) = (lFolded cs).map PA.str := by unfold lFolded; rw [List.map_map]; rfl
  have enames : (List.range (lRows cs).length).map (fun k => PA.str [unseenOf (lTotal cs / 3 + 5 * (k : Nat)), formOf ((lRows cs).getD k 0) ((lTotal cs / 3 + (k : Nat)) % 12), besideOf (lTotal cs + 5 * (k : Nat)), 46]) = (lNames cs).map PA.str := by unfold lNames; rw [List.map_map]; rfl
  have ekinds : (List.range ((lRows cs).length - 1)).map (fun j => PA.int ((lTotal cs / 9 + (1 + ((j : Nat) : Int))) % 5)) = intsL (lKinds cs) := by
    unfold lKinds intsL
    rw [List.map_map]
    refine List.map_congr_left fun j _ => ?_
    have h1 := Int.emod_nonneg (lTotal cs / 9 + (1 + (j : Nat))) (b := 5) (by decide)
    show PA.int _ = PA.int _
    rw [Int.toNat_of_nonneg h1]
  have efl : (lFolded cs).length = (lRows cs).length := by unfold lFolded; simp
  have efat : ∀ k, k < (lRows cs).length → ((lFolded cs).map PA.str)[((k : Nat) : Int).toNat]? = some (.str [(lRows cs).getD k 0, besideOf (lTotal cs + 5 * (k : Nat)), 46]) := fun k hk => by
    rw [← efold, Int.toNat_natCast]; simp [hk]
  have hkl : (lKinds cs).length = (lRows cs).length - 1 := by unfold lKinds; simp
  have hk5 := kinds_lt cs
  have hnl : (lNames cs).length = (lRows cs).length := by unfold lNames; simp
  have hn4 : ∀ x ∈ lNames cs, x.length ≤ 1000 := fun x hx => by
    unfold lNames at hx
    obtain ⟨k, _, rfl⟩ := List.mem_map.mp hx
    simp
  have hal : (lAhead cs).length = (lRows cs).length := by unfold lAhead lRows; simp
  have hmail : lMail cs 0 = pageOf (lEnds0 cs) (lAhead cs) (lNames cs) := rfl
  unfold GC at next
  rw [hmail] at next
  have hE0 : ∀ x ∈ lEnds0 cs, x.length ≤ 1000 := fun x hx => by
    unfold lEnds0 at hx
    rcases List.mem_cons.mp hx with rfl | hx
    · simp
    · obtain ⟨k, hk, rfl⟩ := List.mem_map.mp hx
      have h5 := hk5 k hk
      have h : k = 0 ∨ k = 1 ∨ k = 2 ∨ k = 3 ∨ k = 4 := by (first | lia | omega)
      rcases h with rfl | rfl | rfl | rfl | rfl <;> decide
  have hE0l : (lEnds0 cs).length = (lRows cs).length := by unfold lEnds0; simp [hkl]; (first | lia | omega)
  have eE0 : [PA.str []] ++ (lKinds cs).map (fun kind => PA.str (endsT.getD kind [])) = (lEnds0 cs).map PA.str := by unfold lEnds0; rw [List.map_cons, List.map_map]; rfl
  have eE : [PA.str []] ++ (lKinds cs).map (fun kind => PA.str (if kind < 3 then [13, 10] else [13, 10, 13, 10])) = (lEnds cs).map PA.str := by unfold lEnds; rw [List.map_cons, List.map_map]; rfl
  generalize lRows cs = R at *
  generalize lTotal cs = T at *
  have hat : ∀ k, k < R.length → R[((k : Nat) : Int).toNat]? = some (R.getD k 0) := fun k hk => by simp [hk]
  refine ex_cell (own_cell bd (kd hK (by kernel_rfl)) (by kernel_rfl)) (ev_as (d := .list ((lFolded cs).map PA.str)) (ev_compA outA (List.range R.length) (fun i => PV.at (.int (i : Nat))) (fun k => PA.str [R.getD k 0, besideOf (T + 5 * (k : Nat)), 46]) hK
    (ev_ty (ld_bi (kd hK (by kernel_rfl)) (gm_range _) bb_range) (evs_cons (ev_bi (ld_bi (kd hK (by kernel_rfl)) (gm_len _) bb_len) (evs_cons ev_n evs_nil) (bi_len_str (by (first | lia | omega))) (Nat.le_refl _)) evs_nil) bi_range1 (Nat.le_refl _)) (itr_range0 (by (first | lia | omega))) rfl (by simp; (first | lia | omega)) (fun S' cenv hc k hk => ?_) (by kernel_rfl) (by kernel_rfl) rfl) (congrArg PV.list efold)) (swaps_cell hK (by kernel_rfl)) ?_
  · have hk := List.mem_range.mp hk
    exact ev_as (ev_bin (ev_bin (ev_sub ev_n ev_n (it_str (by (first | lia | omega)) (hat k hk) (by (first | lia | omega)))) (ev_fn def_l_beside (ld_glob (kd hc (by kernel_rfl)) (gm_l_beside _)) (evs_cons (ev_bin ev_n (ev_bin ev_int ev_n (bn_mul_int (by decide))) bn_add_int) evs_nil) fn_beside (by decide)) (bn_add_str (by simp))) (ev_s (l := [46]) (by kernel_rfl)) (bn_add_str (by simp))) rfl
  generalize lFolded cs = Fo at *
  refine ex_compA outA (List.range R.length) (fun i => PV.at (.int (i : Nat))) (fun k => PA.str [unseenOf (T / 3 + 5 * (k : Nat)), formOf (R.getD k 0) ((T / 3 + (k : Nat)) % 12), besideOf (T + 5 * (k : Nat)), 46]) hK
    (ev_ty (ld_bi (kd hK (by kernel_rfl)) (gm_range _) bb_range) (evs_cons (ev_bi (ld_bi (kd hK (by kernel_rfl)) (gm_len _) bb_len) (evs_cons ev_n evs_nil) (bi_len_str (by (first | lia | omega))) (Nat.le_refl _)) evs_nil) bi_range1 (Nat.le_refl _)) (itr_range0 (by (first | lia | omega))) rfl (by simp; (first | lia | omega)) (fun S' cenv hc k hk => ?_) (by kernel_rfl) (by kernel_rfl) rfl (kd hK (by kernel_rfl)) (swaps_local hfun hK (by kernel_rfl)) ?_
  · have hk := List.mem_range.mp hk
    have hc97 := hrl (R.getD k 0) (by simp [hk])
    have m0 := Int.emod_nonneg (T / 3 + (k : Nat)) (b := 12) (by decide)
    have m1 := Int.emod_lt_of_pos (T / 3 + (k : Nat)) (b := 12) (by decide)
    exact ev_as (ev_bin (ev_bin (ev_fn def_l_unseen (ld_glob (kd hc (by kernel_rfl)) (gm_l_unseen _)) (evs_cons (ev_bin (ev_bin ev_n ev_int (bn_div_int (by decide) (by decide))) (ev_bin ev_int ev_n (bn_mul_int (by decide))) bn_add_int) evs_nil) fn_unseen (by decide))
      (ev_fn def_l_form (ld_glob (kd hc (by kernel_rfl)) (gm_l_form _)) (evs_cons (ev_sub ev_n ev_n (it_str (by (first | lia | omega)) (hat k hk) (by (first | lia | omega)))) (evs_cons (ev_bin (ev_bin (ev_bin ev_n ev_int (bn_div_int (by decide) (by decide))) ev_n bn_add_int) ev_int (bn_mod_int (by decide))) evs_nil)) (fn_form m0 m1 hc97.1 hc97.2) (by decide)) (bn_add_str (by simp)))
      (ev_tail (ev_sub ev_n ev_n (it_list (by (first | lia | omega)) (efat k hk) (by rw [List.length_map]; (first | lia | omega)))) (pt_some ev_int) (by simp) (by simp)) (bn_add_str (by simp))) rfl
  show Ex w 4 s [] S env (("names", .list _) :: _) _ Q
  rw [enames]
  generalize lNames cs = Na at *
  refine ex_compA outA (List.range (R.length - 1)) (fun j => PV.at (.int (1 + (j : Nat)))) (fun j => PA.int ((T / 9 + (1 + ((j : Nat) : Int))) % 5)) hK
    (ev_ty (ld_bi (kd hK (by kernel_rfl)) (gm_range _) bb_range) (evs_cons ev_int (evs_cons (ev_bi (ld_bi (kd hK (by kernel_rfl)) (gm_len _) bb_len) (evs_cons ev_n evs_nil) (bi_len_str (by (first | lia | omega))) (Nat.le_refl _)) evs_nil)) bi_range2 (Nat.le_refl _)) (itr_range (a := 1) (b := (R.length : Int)) (by (first | lia | omega)) (by (first | lia | omega)) (by (first | lia | omega))) (by rw [show ((R.length : Int) - 1).toNat = R.length - 1 by (first | lia | omega)]) (by simp; (first | lia | omega)) (fun S' cenv hc j hj => ?_) (by kernel_rfl) (by kernel_rfl) rfl (kd hK (by kernel_rfl)) (swaps_local hfun hK (by kernel_rfl)) ?_
  · exact ev_bin (ev_bin (ev_bin ev_n ev_int (bn_div_int (by decide) (by decide))) ev_n bn_add_int) ev_int (bn_mod_int (by decide))
  show Ex w 4 s [] S env (("kinds", .list _) :: _) _ Q
  rw [ekinds]
  generalize hKi : lKinds cs = Ki at *
  refine ex_local (kd hK (by kernel_rfl)) (ev_fn def_l_page (ld_glob (kd hK (by kernel_rfl)) (gm_l_page _)) (evs_cons (ev_as (d := .list ((lEnds0 cs).map PA.str)) (ev_bin (ev_list (l := [PA.str []]) (evs_cons (ev_s (l := []) (by kernel_rfl)) evs_nil) (by decide))
    (ev_compA outA Ki (fun p => PV.at (.int (p : Nat))) (fun kind => PA.str (endsT.getD kind [])) hK ev_n (itr_ints Ki) rfl (by (first | lia | omega)) (fun S' cenv hc kind hkd => ?_) (by kernel_rfl) (by kernel_rfl) rfl) (bn_add_list (by simp; (first | lia | omega)))) ?_) (evs_cons (ev_n (d := .list (intsL (lAhead cs)))) (evs_cons (ev_n (d := .list (Na.map PA.str))) evs_nil))) (fn_page (E := lEnds0 cs) (D := lAhead cs) (N := Na) (by (first | lia | omega)) (by (first | lia | omega)) (by (first | lia | omega)) hE0 hn4 ?_ (by (first | lia | omega)) (by (first | lia | omega))) (by decide)) rfl ?_
  · have h5 := hk5 kind hkd
    have hx : (endsT.map PA.str)[((kind : Nat) : Int).toNat]? = some (.str (endsT.getD kind [])) := by
      have h : kind = 0 ∨ kind = 1 ∨ kind = 2 ∨ kind = 3 ∨ kind = 4 := by (first | lia | omega)
      rcases h with rfl | rfl | rfl | rfl | rfl <;> rfl
    exact ev_sub (ev_list (l := endsT.map PA.str) (evs_cons (ev_s (l := [10]) (by kernel_rfl)) (evs_cons (ev_s (l := [13]) (by kernel_rfl)) (evs_cons (ev_s (l := [13, 10]) (by kernel_rfl)) (evs_cons (ev_s (l := [10, 13]) (by kernel_rfl)) (evs_cons (ev_s (l := [13, 13, 10]) (by kernel_rfl)) evs_nil))))) (by decide)) ev_n (it_list (by (first | lia | omega)) hx (by decide))
  · exact congrArg PV.list eE0
  · exact fun a ha => Nat.le_trans (F.alen a ha) (by decide)
  refine ex_local (kd hK (by kernel_rfl)) (ev_as (d := .list ((lEnds cs).map PA.str)) (ev_bin (ev_list (l := [PA.str []]) (evs_cons (ev_s (l := []) (by kernel_rfl)) evs_nil) (by decide))
    (ev_compA outA Ki (fun p => PV.at (.int (p : Nat))) (fun kind => PA.str (if kind < 3 then [13, 10] else [13, 10, 13, 10])) hK ev_n (itr_ints Ki) rfl (by (first | lia | omega)) (fun S' cenv hc kind hkd => ?_) (by kernel_rfl) (by kernel_rfl) rfl) (bn_add_list (by simp; (first | lia | omega)))) (congrArg PV.list eE)) rfl ?_
  · show Ev w 4 S' cenv _ _ (.at (.str (if kind < 3 then [13, 10] else [13, 10, 13, 10])))
    by_cases h3 : kind < 3
    · rw [if_pos h3]
      exact ev_if_true (tr_cmp ev_n ev_int (cm_as cm_lt_int (by simp; (first | lia | omega)))) (ev_s (l := [13, 10]) (by kernel_rfl))
    · rw [if_neg h3]
      exact ev_if_false (tr_cmp ev_n ev_int (cm_as cm_lt_int (by simp; (first | lia | omega)))) (ev_s (l := [13, 10, 13, 10]) (by kernel_rfl))
  exact ex_fewer (by unfold fB; exact rfl) next (sub_cons (sub_cons (sub_cons (sub_cons (sub_cons (sub_cons (sub_cons (sub_cons (sub_cons sub_nil)))))))))
end Mine
end

section
set_option maxRecDepth 100000
set_option linter.unusedVariables false
set_option linter.unusedSimpArgs false
namespace Mine
open PySem PySem.W PySem.Calls PyProof.Rows

noncomputable def GD0 (cs : List Int) : Gam := [("ends", .list ((lEnds cs).map PA.str)), ("names", .list ((lNames cs).map PA.str)), ("folded", .list ((lFolded cs).map PA.str)), ("rows", .at (.str (lRows cs))), ("ahead", .list (intsL (lAhead cs))), ("order", .list (intsL (lOrder cs))), ("times", .at (.int (lTimes cs : Nat))), ("drawn", .at (.str (lDrawn cs)))]
noncomputable def GDj (cs : List Int) : Nat → Gam
  | 0 => ("mail", .at (.str (lMail cs 0))) :: GD0 cs
  | j + 1 => ("mail", .at (.str (lMail cs (j + 1)))) :: ("more", .list (intsL (moreOf (lAhead cs) (j + 1)))) :: GD0 cs
theorem law_D {w : World} {s : Shared} {S : List Addr} {env : Env} {Q : Flow → Shared → Prop} (bd : Bd s 26 S env) {cs : List Int} (F : LF cs) (next : Ex w 4 s [] S env (GDj cs (lTimes cs)) ((fB 26).drop 16) Q) :
    Ex w 4 s [] S env (GC cs) ((fB 26).drop 15) Q := by
  have hK := ns_of bd
  have hfun : env.scope.kind = .function := by rw [bd.scope]; kernel_rfl
  have hdl := F.dlen
  have ht3 := times_le cs
  have hlr := rows_len F
  have hal : (lAhead cs).length = (lRows cs).length := by unfold lAhead lRows; simp
  have hkl : (lKinds cs).length = (lRows cs).length - 1 := by unfold lKinds; simp
  have hnl : (lNames cs).length = (lRows cs).length := by unfold lNames; simp
  have hel : (lEnds cs).length = (lRows cs).length := by unfold lEnds; simp; (first | lia | omega)
  have hn4 : ∀ x ∈ lNames cs, x.length ≤ 1000 := fun x hx => by
    unfold lNames at hx
    obtain ⟨k, _, rfl⟩ := List.mem_map.mp hx
    simp
  have hE : ∀ x ∈ lEnds cs, x.length ≤ 1000 := fun x hx => by
    unfold lEnds at hx
    rcases List.mem_cons.mp hx with rfl | hx
    · simp
    · obtain ⟨k, hk, rfl⟩ := List.mem_map.mp hx
      split <;> decide
  have hml : ∀ j, (moreOf (lAhead cs) j).length = (lRows cs).length := fun j => by unfold moreOf; rw [List.length_map, hal]
  have hmb : ∀ j, j ≤ 3 → ∀ a ∈ moreOf (lAhead cs) j, a ≤ 1000 := fun j hj a ha => by
    unfold moreOf at ha
    obtain ⟨c, hc, rfl⟩ := List.mem_map.mp ha
    have := F.alen c hc
    split <;> (first | lia | omega)
  unfold GC
  refine ex_at (by unfold fB; exact rfl) ?_
  refine ex_for (m := 0) (xs := (List.range ((lTimes cs : Int) + 1 - 1).toNat).map fun i => PV.at (.int (1 + (i : Nat)))) (Γ := GDj cs) (Γa := fun j => ("sending", .at (.int (1 + (j : Nat)))) :: GDj cs j) (fun _ h => nomatch h) bd.cellMem
    (ev_ty (ld_bi (kd hK (by kernel_rfl)) (gm_range _) bb_range) (evs_cons ev_int (evs_cons (ev_bin ev_n ev_int bn_add_int) evs_nil)) bi_range2 (Nat.le_refl _)) (itr_range (a := 1) (b := (lTimes cs : Int) + 1) (by (first | lia | omega)) (by (first | lia | omega)) (by (first | lia | omega))) ?_ ?_ ?_ ?_
  · refine Sub.all (Γ := GDj cs 0) ?_
    unfold GDj GD0
    exact sub_cons (sub_cons (sub_cons (sub_cons (sub_cons (sub_cons (sub_cons (sub_cons (sub_cons sub_nil))))))))
  · intro i x hx S''
    have hi : i < lTimes cs := by
      have := (List.getElem?_eq_some_iff.mp hx).1
      simpa using this
    obtain rfl : x = .at (.int (1 + (i : Nat))) := by
      simp [hi] at hx
      rw [← hx]
    exact asg_cell (own_cell bd (kd hK (by kernel_rfl)) (by kernel_rfl))
  · intro i x hx S'' hS''
    have hi : i < lTimes cs := by
      have := (List.getElem?_eq_some_iff.mp hx).1
      simpa using this
    have hq := F.quote i hi
    have hl := F.qlen i (by (first | lia | omega))
    have hl2 := F.qlen (i + 1) (by (first | lia | omega))
    have hpage : lMail cs (i + 1) = pageOf (lEnds cs) (moreOf (lAhead cs) (i + 1)) (lNames cs) := rfl
    have emo : (lAhead cs).map (fun a => PA.int ((if 0 < a then a + (i + 1) else 0 : Nat) : Int)) = intsL (moreOf (lAhead cs) (i + 1)) := by unfold moreOf intsL; rw [List.map_map]; rfl
    -- the names that the turn leans on
    have go : ∀ G : Gam, Sub (("sending", .at (.int (1 + (i : Nat)))) :: ("mail", .at (.str (lMail cs i))) :: GD0 cs) G → Ex w 4 s [] S'' env G
        (match (fB 26).getD 15 (.Pass default) with | .For _ _ b _ _ => b | _ => []) (fun f s' => match f with | .next | .cont => Fm w s S'' env (GDj cs (i + 1)) s' | .ret v => Q (.ret v) s' | .brk => False) := by
      intro G hG
      refine ex_fewer rfl ?_ hG
      unfold GD0
      refine ex_at (by unfold fB; exact rfl) ?_
      refine ex_local (kd hK (by kernel_rfl)) (ev_as (d := .at (.str (lMail cs (i + 1)))) (ev_fn def_quotedata (ld_glob (kd hK (by kernel_rfl)) (gm_quotedata _)) (evs_cons ev_n evs_nil) (fn_quotedata (l := lMail cs i) (by (first | lia | omega)) (by (first | lia | omega)) (by rw [hq]; (first | lia | omega))) (by decide)) (by rw [hq])) rfl ?_
      refine ex_compA outA (lAhead cs) (fun p => PV.at (.int (p : Nat))) (fun a => PA.int ((if 0 < a then a + (i + 1) else 0 : Nat) : Int)) hK ev_n (itr_ints _) rfl (by (first | lia | omega)) (fun S' cenv hc a ha => ?_) (by kernel_rfl) (by kernel_rfl) rfl (kd hK (by kernel_rfl)) (swaps_local hfun hK (by kernel_rfl)) ?_
      · show Ev w 4 S' cenv _ _ (.at (.int ((if 0 < a then a + (i + 1) else 0 : Nat) : Int)))
        by_cases h0 : 0 < a
        · rw [if_pos h0]
          exact ev_if_true (tr_cmp ev_n ev_int (cm_as cm_gt_int (by simp; (first | lia | omega)))) (ev_as (ev_bin ev_n ev_n bn_add_int) (congrArg (fun z : Int => PV.at (PA.int z)) (show (a : Int) + (1 + (i : Nat)) = ((a + (i + 1) : Nat) : Int) by (first | lia | omega))))
        · rw [if_neg h0]
          exact ev_if_false (tr_cmp ev_n ev_int (cm_as cm_gt_int (by simp; (first | lia | omega)))) ev_int
      show Ex w 4 s [] S'' env (("more", .list _) :: _) _ _
      rw [emo]
      refine ex_if_not (tr_cmp ev_n (ev_fn def_l_page (ld_glob (kd hK (by kernel_rfl)) (gm_l_page _)) (evs_cons (ev_n (d := .list ((lEnds cs).map PA.str))) (evs_cons (ev_n (d := .list (intsL (moreOf (lAhead cs) (i + 1))))) (evs_cons (ev_n (d := .list ((lNames cs).map PA.str))) evs_nil)))
        (fn_page (E := lEnds cs) (D := moreOf (lAhead cs) (i + 1)) (N := lNames cs) (by (first | lia | omega)) (by rw [hml]; (first | lia | omega)) (by (first | lia | omega)) hE hn4 (hmb _ (by (first | lia | omega))) (by (first | lia | omega)) (by rw [hml]; (first | lia | omega))) (by decide)) (cm_as cm_ne_str (by rw [hpage]; exact bne_self_eq_false _))) ?_
      refine ex_nil fun s' f => f.fewer (Sub.all (Γ := GDj cs (i + 1)) ?_)
      unfold GDj GD0
      exact sub_cons (sub_cons (sub_cons (sub_cons (sub_cons (sub_cons (sub_cons (sub_cons (sub_cons (sub_cons sub_nil)))))))))
    have go2 : Ex w 4 s [] S'' env (("sending", .at (.int (1 + (i : Nat)))) :: GDj cs i) (match (fB 26).getD 15 (.Pass default) with | .For _ _ b _ _ => b | _ => []) (fun f s' => match f with | .next | .cont => Fm w s S'' env (GDj cs (i + 1)) s' | .ret v => Q (.ret v) s' | .brk => False) := by
      refine go _ ?_
      cases i with
      | zero => unfold GDj; exact ⟨fun _ _ h => h⟩
      | succ i =>
        unfold GDj GD0
        exact sub_cons (sub_cons (sub_cons (sub_cons (sub_cons (sub_cons (sub_cons (sub_cons (sub_cons (sub_cons sub_nil)))))))))
    exact ex_fewer (by unfold fB; exact rfl) go2 ⟨fun _ _ h => h⟩
  · have el : ((List.range ((lTimes cs : Int) + 1 - 1).toNat).map fun i => PV.at (.int (1 + (i : Nat)))).length = lTimes cs := by simp
    rw [el]
    exact ex_fewer (by unfold fB; exact rfl) next ⟨fun _ _ h => h⟩
end Mine
end

section
set_option maxRecDepth 100000
set_option linter.unusedVariables false
set_option linter.unusedSimpArgs false
namespace Mine
open PySem PySem.W PySem.Calls PyProof.Rows

theorem idx_at : ∀ (l : List Nat) (p : Nat), p ∈ l → l[l.idxOf p]? = some p ∧ ∀ m, m < l.idxOf p → l[m]? ≠ some p
  | x :: l, p, h => by
    rw [List.idxOf_cons]
    by_cases q : x = p
    · rw [show (x == p) = true by simpa using q]
      exact ⟨by simp [q], fun m hm => absurd hm (Nat.not_lt_zero _)⟩
    · rw [show (x == p) = false by simpa using q]
      have hp : p ∈ l := by
        rcases List.mem_cons.mp h with e | h
        · exact absurd e.symm q
        · exact h
      obtain ⟨h1, h2⟩ := idx_at l p hp
      refine ⟨by simpa using h1, fun m hm => ?_⟩
      cases m with
      | zero => simpa using q
      | succ m =>
        have : m < l.idxOf p := by simpa using hm
        simpa using h2 m this
theorem due_ints (o : List Nat) (a n : Nat) : (List.range a).map (fun p => PA.int ((o.idxOf p : Nat) : Int)) ++ (List.range n).map (fun i => PA.int ((a : Int) + ((i : Nat) : Int) * 1)) = intsL ((List.range a).map (fun p => o.idxOf p) ++ (List.range n).map fun j => a + j) := by
  have h2 : (List.range n).map (fun i => PA.int ((a : Int) + ((i : Nat) : Int) * 1)) = intsL ((List.range n).map fun j => a + j) := by
    unfold intsL
    rw [List.map_map]
    refine List.map_congr_left fun i _ => ?_
    exact congrArg PA.int (show (a : Int) + ((i : Nat) : Int) * 1 = ((a + i : Nat) : Int) by (first | lia | omega))
  have h1 : (List.range a).map (fun p => PA.int ((o.idxOf p : Nat) : Int)) = intsL ((List.range a).map (fun p => o.idxOf p)) := by
    unfold intsL
    rw [List.map_map]
    rfl
  rw [intsL_append, h1, h2]
noncomputable def GE (cs : List Int) : Gam := [("due", .list (intsL (lDue cs))), ("dots", .list (intsL (lDots cs))), ("rows", .at (.str (lRows cs))), ("times", .at (.int (lTimes cs : Nat)))]
theorem law_E {w : World} {s : Shared} {S : List Addr} {env : Env} {Q : Flow → Shared → Prop} (bd : Bd s 26 S env) {cs : List Int} (F : LF cs) (next : Ex w 4 s [] S env (GE cs) ((fB 26).drop 22) Q) :
    Ex w 4 s [] S env (GDj cs (lTimes cs)) ((fB 26).drop 16) Q := by
  have hK := ns_of bd
  have hfun : env.scope.kind = .function := by rw [bd.scope]; kernel_rfl
  have hdl := F.dlen
  have ht3 := times_le cs
  have hlr := rows_len F
  have hol := F.olen
  have hal : (lAhead cs).length = (lRows cs).length := by unfold lAhead lRows; simp
  have hkl : (lKinds cs).length = (lRows cs).length - 1 := by unfold lKinds; simp
  have hfl : (lFolded cs).length = (lRows cs).length := by unfold lFolded; simp
  have hel : (lEnds cs).length = (lRows cs).length := by unfold lEnds; simp; (first | lia | omega)
  have hf4 : ∀ x ∈ lFolded cs, x.length ≤ 1000 := fun x hx => by
    unfold lFolded at hx
    obtain ⟨k, _, rfl⟩ := List.mem_map.mp hx
    simp
  have hE : ∀ x ∈ lEnds cs, x.length ≤ 1000 := fun x hx => by
    unfold lEnds at hx
    rcases List.mem_cons.mp hx with rfl | hx
    · simp
    · obtain ⟨k, hk, rfl⟩ := List.mem_map.mp hx
      split <;> decide
  have hdotl : (lDots cs).length = (lRows cs).length := by unfold lDots moreOf; rw [List.length_map, hal]
  have hdotb : ∀ a ∈ lDots cs, a ≤ 1000 := fun a ha => by
    unfold lDots moreOf at ha
    obtain ⟨c, hc, rfl⟩ := List.mem_map.mp ha
    have := F.alen c hc
    split <;> (first | lia | omega)
  obtain ⟨n, hn⟩ : ∃ n, lTimes cs = n + 1 := ⟨lTimes cs - 1, by (first | lia | omega)⟩
  have eGD : GDj cs (lTimes cs) = (((("mail" : Str), PV.at (PA.str (lMail cs (lTimes cs)))) :: (("more" : Str), PV.list (intsL (lDots cs))) :: GD0 cs) : Gam) := by
    have : lDots cs = moreOf (lAhead cs) (lTimes cs) := rfl
    rw [this, hn]; rfl
  have hml := F.qlen (lTimes cs) (Nat.le_refl _)
  have hpl := F.plen
  obtain ⟨parts, hparts, hpn, hpx, hcount⟩ := F.split
  have epage : pageOf (lEnds cs) (lDots cs) (lFolded cs) = lPage cs := rfl
  have ecount : (parts.filter fun r => r != []).map (fun r => PA.int ((countL r 46 : Nat) : Int)) = intsL ((lDots cs).map (· + 1)) := by
    rw [← hcount]; unfold intsL; rw [List.map_map]; rfl
  have emore : (lDots cs).map (fun c : Nat => PA.int ((c : Int) + 1)) = intsL ((lDots cs).map (· + 1)) := by
    unfold intsL; rw [List.map_map]; rfl
  have edots : ((lDots cs).map (· + 1)).map (fun c : Nat => PA.int (((c : Nat) : Int) - 1)) = intsL (lDots cs) := by
    unfold intsL; rw [List.map_map]
    refine List.map_congr_left fun c _ => ?_
    exact congrArg PA.int (show (((c + 1 : Nat) : Int) - 1) = ((c : Nat) : Int) by (first | lia | omega))
  rw [eGD]
  unfold GD0
  refine ex_at (by unfold fB; exact rfl) ?_
  refine ex_local (kd hK (by kernel_rfl)) (ev_as (d := .at (.str (lPage cs))) (ev_fn def_l_prepared (ld_glob (kd hK (by kernel_rfl)) (gm_l_prepared _)) (evs_cons ev_n evs_nil) (fn_prepared (l := lMail cs (lTimes cs)) (by (first | lia | omega)) F.mfold) (by decide)) (by rw [F.fold])) rfl ?_
  refine ex_if_not (tr_cmp ev_n (ev_fn def_l_page (ld_glob (kd hK (by kernel_rfl)) (gm_l_page _)) (evs_cons (ev_n (d := .list ((lEnds cs).map PA.str))) (evs_cons (ev_n (d := .list (intsL (lDots cs)))) (evs_cons (ev_n (d := .list ((lFolded cs).map PA.str))) evs_nil)))
    (fn_page (E := lEnds cs) (D := lDots cs) (N := lFolded cs) (by (first | lia | omega)) (by (first | lia | omega)) (by (first | lia | omega)) hE hf4 hdotb (by (first | lia | omega)) (by (first | lia | omega))) (by decide)) (cm_as cm_ne_str (by rw [epage]; exact bne_self_eq_false _))) ?_
  refine ex_comp1 outA parts (fun r => PV.at (.str r)) (fun r => r != []) (fun r => PA.int ((countL r 46 : Nat) : Int)) hK (ev_split ev_n (ev_s (l := [13, 10]) (by kernel_rfl)) F.sepk (by kernel_rfl) F.sepf hparts (by (first | lia | omega)) (by (first | lia | omega)) rfl rfl) itr_list (by rw [List.map_map]; rfl) (by (first | lia | omega))
    (fun S' cenv hc r hr => ts_one (tr_cmp ev_n (ev_s (l := []) (by kernel_rfl)) cm_ne_str)) (fun S' cenv hc r hr _ => ev_count (ld_glob (kd hc (by kernel_rfl)) (gm_countOf _)) ev_n (by kernel_rfl) (by decide)) (by kernel_rfl) (by kernel_rfl) rfl (kd hK (by kernel_rfl)) (swaps_local hfun hK (by kernel_rfl)) ?_
  show Ex w 4 s [] S env (("counts", .list _) :: _) _ _
  rw [ecount]
  refine ex_if_not (tr_bool (als_or (tr_cmp ev_n (ev_as (d := .list (intsL ((lDots cs).map (· + 1)))) (ev_compA outA (lDots cs) (fun p => PV.at (.int (p : Nat))) (fun c => PA.int ((c : Int) + 1)) hK ev_n (itr_ints _) rfl (by (first | lia | omega)) (fun S' cenv hc c hc2 => ev_bin ev_n ev_int bn_add_int) (by kernel_rfl) (by kernel_rfl) rfl) (congrArg PV.list emore)) cm_ne_ints)
    (fun _ => als_or (tr_cmp (ev_as (d := .list (intsL [])) (ev_comp1 outA ((lDots cs).map (· + 1)) (fun p => PV.at (.int (p : Nat))) (fun _ => false) (fun c => PA.int (c : Nat)) hK ev_n (itr_ints _) rfl (by simp; (first | lia | omega))
      (fun S' cenv hc c hc2 => ts_one (tr_type_int (ld_bi (kd hc (by kernel_rfl)) (gm_type _) bb_type) ev_n (ld_bi (kd hc (by kernel_rfl)) (gm_int _) bb_int))) (fun S' cenv hc c hc2 q => nomatch q) (by kernel_rfl) (by kernel_rfl) rfl) (by rw [List.filter_eq_nil_iff.mpr (fun _ _ => Bool.false_ne_true)]; rfl)) (ev_list (l := []) evs_nil (by decide)) (cm_ne_ints (l := []))) (fun _ => als_nil)))) ?_
  refine ex_compA outA ((lDots cs).map (· + 1)) (fun p => PV.at (.int (p : Nat))) (fun c => PA.int (((c : Nat) : Int) - 1)) hK ev_n (itr_ints _) rfl (by simp; (first | lia | omega)) (fun S' cenv hc c hc2 => ev_bin ev_n ev_int bn_sub_int) (by kernel_rfl) (by kernel_rfl) rfl (kd hK (by kernel_rfl)) (swaps_local hfun hK (by kernel_rfl)) ?_
  show Ex w 4 s [] S env (("dots", .list _) :: _) _ _
  rw [edots]
  have hle : (lDrawn cs).length ≤ (lRows cs).length := by (first | lia | omega)
  have ers : Builtin.Range.rangeSize ((lDrawn cs).length : Int) ((lRows cs).length : Int) 1 = ((lRows cs).length : Int) - ((lDrawn cs).length : Int) := rangeSize_1 (by (first | lia | omega))
  have edue : (List.range (lDrawn cs).length).map (fun p => PA.int (((lOrder cs).idxOf p : Nat) : Int)) ++ (List.range (Builtin.Range.rangeSize ((lDrawn cs).length : Int) ((lRows cs).length : Int) 1).toNat).map (fun i => PA.int (((lDrawn cs).length : Int) + (i : Nat) * 1)) = intsL (lDue cs) := by
    rw [ers, show (((lRows cs).length : Int) - ((lDrawn cs).length : Int)).toNat = (lRows cs).length - (lDrawn cs).length by (first | lia | omega)]
    exact due_ints _ _ _
  refine ex_local (kd hK (by kernel_rfl)) (ev_as (d := .list (intsL (lDue cs))) (ev_bin (ev_compA outA (List.range (lDrawn cs).length) (fun i => PV.at (.int (i : Nat))) (fun p => PA.int (((lOrder cs).idxOf p : Nat) : Int)) hK
    (ev_ty (ld_bi (kd hK (by kernel_rfl)) (gm_range _) bb_range) (evs_cons (ev_bi (ld_bi (kd hK (by kernel_rfl)) (gm_len _) bb_len) (evs_cons ev_n evs_nil) (bi_len_str (by (first | lia | omega))) (Nat.le_refl _)) evs_nil) bi_range1 (Nat.le_refl _)) (itr_range0 (by (first | lia | omega))) rfl (by simp; (first | lia | omega)) (fun S' cenv hc p hp => ?_) (by kernel_rfl) (by kernel_rfl) rfl)
    (ev_ty (ld_bi (kd hK (by kernel_rfl)) (gm_list _) bb_list) (evs_cons (ev_ty (ld_bi (kd hK (by kernel_rfl)) (gm_range _) bb_range) (evs_cons (ev_bi (ld_bi (kd hK (by kernel_rfl)) (gm_len _) bb_len) (evs_cons ev_n evs_nil) (bi_len_str (by (first | lia | omega))) (Nat.le_refl _)) (evs_cons (ev_bi (ld_bi (kd hK (by kernel_rfl)) (gm_len _) bb_len) (evs_cons ev_n evs_nil) (bi_len_str (by (first | lia | omega))) (Nat.le_refl _)) evs_nil)) bi_range2 (Nat.le_refl _)) evs_nil)
      (bi_list_range (small_one (by (first | lia | omega)) (by (first | lia | omega)) (by (first | lia | omega)) (by (first | lia | omega))) (by rw [ers]; (first | lia | omega)) (by rw [ers]; (first | lia | omega))) (Nat.le_refl _)) (bn_add_list (by rw [ers]; simp; (first | lia | omega)))) (congrArg PV.list edue)) rfl ?_
  · have hp := F.idx p (List.mem_range.mp hp)
    obtain ⟨h1, h2⟩ := idx_at _ _ hp
    exact ev_index ev_n ev_n h1 h2 (by (first | lia | omega)) rfl rfl
  exact ex_fewer (body' := (fB 26).drop 22) (by unfold fB; exact rfl) next (by unfold GE; exact sub_cons (sub_cons (sub_cons (sub_cons sub_nil))))
end Mine
end

section
set_option maxRecDepth 100000
set_option linter.unusedVariables false
set_option linter.unusedSimpArgs false
namespace Mine
open PySem PySem.W PySem.Calls PyProof.Rows

section
variable {w : World} {k : Nat} {s₀ : Shared} {X S : List Addr} {env : Env} {G : Gam} {Q : Flow → Shared → Prop}
/-- the address of a list that a name bears is told -/
theorem ex_open {n : Str} {l : List PA} {body : List Stmt} (hn : G.lookup n = some (.list l)) (h : ∀ D, Ex w k s₀ X S env ((n, .la D l) :: G) body Q) : Ex w k s₀ X S env G body Q := ⟨fun A E s a f => by
  obtain ⟨v, hv, r⟩ := f.has n _ hn
  cases r using Rep.cList with | list hs hl hp =>
    rename_i D vs
    refine (h D).run A E s a { f with has := fun m d e => ?_ }
    rw [List.lookup_cons] at e
    cases q : m == n with
    | true =>
      rw [q] at e; cases e
      obtain rfl : m = n := by simpa using q
      exact ⟨_, hv, .la hs hl hp⟩
    | false => rw [q] at e; exact f.has m d e⟩
theorem trw_pass {fe er r : Expr} {n : Str} {p q' pos : Pos} {W : Addr} {l rows : List Nat} (hl : Ld w k S env G fe (.ref 201)) (hn : G.lookup n = some (.la W (intsL l))) (hnd : (n == ("__debug__" : Str)) = false) (her : Ev w k S env G er (.at (.str rows)))
    (hr : Ev w k S env ((n, .la W (intsL (bword l (l.length - 1)))) :: G) r (.at (.int ((bst l (l.length - 1)).2.2 : Nat)))) (hl1 : 1 ≤ l.length) (hl2 : l.length ≤ 1000) (hrl : rows.length ≤ 1000) (ok : PassOk rows l)
    (hW0 : s₀.heap.get? W = none) (hoff : Offs W n G) (hk : 3 ≤ k) (hm : behindInMarks .NotEq r = false := by with_unfolding_all rfl)
    (he : starEach [.Name n p, er] env = (false, eval (.Name n p) env) :: starEach [er] env := by rfl) (he2 : starEach [er] env = (false, eval er env) :: starEach [] env := by rfl)
    (hc : eval (.Call fe [.Name n p, er] [] pos) env = (do callWith pos (← eval fe env) [] (backTo pos (starEach [.Name n p, er] env)) (backToKw pos (keywordEach [] env))) := by rfl) :
    TrW w k s₀ W S env G ((n, .la W (intsL (bword l (l.length - 1)))) :: G) (.Compare (.Call fe [.Name n p, er] [] pos) [.NotEq] [r] q') false := ⟨fun A E s ha f => by
  have evs : Evs w k S env G [.Name n p, er] [.la W (intsL l), .at (.str rows)] := evs_cons (ev_name hn hnd) (evs_cons her evs_nil he2) he
  refine wpAny_isTrue_Compare1 (Call_ (wpAny_mono (hl.run s₀ A E s ha f) (fun v s₁ x₁ => ?_) fun _ _ x => x) hc) hm
  obtain ⟨rfl, k1⟩ := x₁
  refine callWith_def (o := fnObj (sx [95, 108, 97, 119, 95, 112, 97, 115, 115]) 25 mdLw 200) (fd := fdOf (sx [95, 108, 97, 119, 95, 112, 97, 115, 115]) 25 mdLw 200) rfl (wpAny_mono (evs.run s₀ A E s₁ pos ha (f.keeps k1)) (fun vs s₂ y => ?_) fun _ _ x => x) he
  have f2 := (f.keeps k1).keeps y.1
  refine ⟨f2.st.obj (def_l_pass.obj _) def_l_pass.lt rfl, wpAny_mono (call_pass (S := S) (l := l) (rows := rows) (ha.mono hk) f2.keep f.stays f.gens f.tok hW0 f2.low y.2 hl1 hl2 hrl ok) (fun v s₃ z => ?_) fun _ _ x => x⟩
  obtain ⟨rv, hsh, ht, kx, hrep⟩ := z
  have f3 := f2.write hn hW0 hsh ht kx hrep hoff
  have k03 := (kp_x (kp_trans k1 y.1) [W]).trans kx
  refine wpAny_mono (hr.run s₀ A E s₃ ha f3) (fun v₂ s₄ z₂ => ?_) fun _ _ x => x
  cases rv using Rep.cAt with | «at» rv =>
    (first | cases rv using Atom.cInt | cases rv using Atom.cStr | cases rv using Atom.cBool | cases rv using Atom.cNone | cases rv)
    cases z₂.2 using Rep.cAt with | «at» r₂ =>
      (first | cases r₂ using Atom.cInt | cases r₂ using Atom.cStr | cases r₂ using Atom.cBool | cases r₂ using Atom.cNone | cases r₂)
      have f4 := f3.keeps z₂.1
      refine ne_int (wpAny_truthy_bool ⟨by simp, f4, k03.trans (kp_x z₂.1 _)⟩)⟩
end
theorem list_max : ∀ (l : List Nat) (t : Nat), ∃ M, (M ∈ l ∨ M = t) ∧ (∀ x ∈ l, x ≤ M) ∧ t ≤ M
  | [], t => ⟨t, .inr rfl, (fun _ h => nomatch h), Nat.le_refl _⟩
  | x :: l, t => by
    obtain ⟨M, h1, h2, h3⟩ := list_max l t
    by_cases h : x ≤ M
    · refine ⟨M, ?_, ?_, h3⟩
      · rcases h1 with h1 | h1
        · exact .inl (List.mem_cons_of_mem _ h1)
        · exact .inr h1
      · intro y hy
        rcases List.mem_cons.mp hy with rfl | hy
        · exact h
        · exact h2 y hy
    · refine ⟨x, .inl List.mem_cons_self, ?_, by (first | lia | omega)⟩
      intro y hy
      rcases List.mem_cons.mp hy with rfl | hy
      · exact Nat.le_refl _
      · exact Nat.le_trans (h2 y hy) (by (first | lia | omega))
theorem count_ge (D : List Nat) (i : Nat) : (((D.filter fun c : Nat => decide (((c : Nat) : Int) ≥ 1 + (i : Nat))).map fun c => PA.int (c : Nat)).length : Int) = ((D.filter fun c => decide (i + 1 ≤ c)).length : Nat) := by
  have : (fun c : Nat => decide (((c : Nat) : Int) ≥ 1 + (i : Nat))) = fun c => decide (i + 1 ≤ c) := by
    funext c; rw [decide_eq_decide]; (first | lia | omega)
  rw [this, List.length_map]
theorem less_ints (D : List Nat) (i : Nat) : D.map (fun c : Nat => PA.int (if (0 : Int) > ((c : Nat) : Int) - (1 + (i : Nat)) then 0 else ((c : Nat) : Int) - (1 + (i : Nat)))) = intsL (D.map (· - (i + 1))) := by
  unfold intsL
  rw [List.map_map]
  refine List.map_congr_left fun c _ => ?_
  refine congrArg PA.int (show _ = ((c - (i + 1) : Nat) : Int) from ?_)
  split <;> (first | lia | omega)
theorem word_len (cs : List Int) (t : Nat) : (lWord cs t).length = (lDots cs).length := by unfold lWord; rw [readFrom_length, List.length_map]
noncomputable def RetTrue (s : Shared) : Flow → Shared → Prop := fun f s' => match f with | .ret v => v = .bool true ∧ Kp s s' | _ => False
theorem law_F {w : World} {s : Shared} {S : List Addr} {env : Env} (bd : Bd s 26 S env) {cs : List Int} (F : LF cs) : Ex w 4 s [] S env (GE cs) ((fB 26).drop 22) (RetTrue s) := by
  have hK := ns_of bd
  have hfun : env.scope.kind = .function := by rw [bd.scope]; kernel_rfl
  have hdl := F.dlen
  have ht3 := times_le cs
  have hlr := rows_len F
  have hal : (lAhead cs).length = (lRows cs).length := by unfold lAhead lRows; simp [F.olen]
  have hdotl : (lDots cs).length = (lRows cs).length := by unfold lDots moreOf; rw [List.length_map, hal]
  have hdotb : ∀ a ∈ lDots cs, a ≤ 1000 := fun a ha => by
    unfold lDots moreOf at ha
    obtain ⟨c, hc, rfl⟩ := List.mem_map.mp ha
    have := F.alen c hc
    split <;> (first | lia | omega)
  have hw0 : readFrom 0 (lDots cs) = lWord cs 0 := by unfold lWord; simp
  unfold GE
  refine ex_open (n := "dots") (l := intsL (lDots cs)) (by repeat (first | with_reducible exact lk_here | (apply lk_there; decide +kernel))) fun Dd => ?_
  refine ex_open (n := "due") (l := intsL (lDue cs)) (by repeat (first | with_reducible exact lk_here | (apply lk_there; decide +kernel))) fun De => ?_
  refine ex_at (by unfold fB; exact rfl) ?_
  refine ex_localA (kd hK (by kernel_rfl)) (evn_fn def_l_read (ld_glob (kd hK (by kernel_rfl)) (gm_l_read _)) (evs_cons (ev_la (W := Dd) (l := intsL (lDots cs)) ev_n) evs_nil) (fnn_read (D := lDots cs) (by (first | lia | omega))) (by decide)) rfl fun W hW0 hoff => ?_
  have hDd : Dd ≠ W := hoff "dots" Dd (intsL (lDots cs)) (by repeat (first | with_reducible exact lk_here | (apply lk_there; decide +kernel)))
  have hDe : De ≠ W := hoff "due" De (intsL (lDue cs)) (by repeat (first | with_reducible exact lk_here | (apply lk_there; decide +kernel)))
  rw [hw0]
  clear hoff
  obtain ⟨M, hM1, hM2, hM3⟩ := list_max (lDots cs) (lTimes cs)
  have hM : M ≤ 1000 := by
    rcases hM1 with h | h
    · exact hdotb M h
    · (first | lia | omega)
  have emax : (intsL (lDots cs) ++ [PA.int (lTimes cs : Nat)]) = ((lDots cs).map (fun n : Nat => ((n : Nat) : Int)) ++ [((lTimes cs : Nat) : Int)]).map PA.int := by
    unfold intsL; rw [List.map_append, List.map_map]; rfl
  have bm : Bi w 4 (.builtin "max") [.list (intsL (lDots cs) ++ [PA.int (lTimes cs : Nat)])] (.at (.int (M : Nat))) := by
    rw [emax]
    refine bi_max ?_ fun x hx => ?_
    · rcases hM1 with h | h
      · exact List.mem_append_left _ (List.mem_map.mpr ⟨M, h, rfl⟩)
      · rw [h]; exact List.mem_append_right _ (by simp)
    · rcases List.mem_append.mp hx with hx | hx
      · obtain ⟨y, hy, rfl⟩ := List.mem_map.mp hx
        have := hM2 y hy
        (first | lia | omega)
      · simp at hx; (first | lia | omega)
  have hWlen : ∀ t, (lWord cs t).length = (lRows cs).length := fun t => by rw [word_len, hdotl]
  refine ex_forX (m := 0) (xs := (List.range ((M : Int) + 2 - 1).toNat).map fun i => PV.at (.int (1 + (i : Nat)))) (di := .rng 1 ((M : Int) + 2) 1) (Γ := fun j => [("word", .la W (intsL (lWord cs j))), ("due", .la De (intsL (lDue cs))), ("dots", .la Dd (intsL (lDots cs))), ("rows", .at (.str (lRows cs))), ("times", .at (.int (lTimes cs : Nat)))])
    (Γa := fun j => [("turn", .at (.int (1 + (j : Nat)))), ("word", .la W (intsL (lWord cs j))), ("due", .la De (intsL (lDue cs))), ("dots", .la Dd (intsL (lDots cs))), ("rows", .at (.str (lRows cs))), ("times", .at (.int (lTimes cs : Nat)))])
    (W :: S) (fun a ha => List.mem_cons_of_mem _ ha) (fun a ha => by simp at ha; subst ha; exact List.mem_cons_self) bd.cellMem ?_
    (ev_ty (ld_bi (kd hK (by kernel_rfl)) (gm_range _) bb_range) (evs_cons ev_int (evs_cons (ev_bin (ev_bi (ld_bi (kd hK (by kernel_rfl)) (gm_max _) bb_max) (evs_cons (ev_bin (ev_la (W := Dd) (l := intsL (lDots cs)) ev_n) (ev_list (l := [PA.int (lTimes cs : Nat)]) (evs_cons ev_n evs_nil) (by simp)) (bn_add_list (by rw [intsL_len]; simp; (first | lia | omega)))) evs_nil) bm (Nat.le_refl _)) ev_int bn_add_int) evs_nil)) bi_range2 (Nat.le_refl _))
    (itr_range (a := 1) (b := (M : Int) + 2) (by (first | lia | omega)) (by (first | lia | omega)) (by (first | lia | omega))) ?_ ?_ ?_ ?_
  · intro s' f
    obtain ⟨v, _, r⟩ := f.has "word" (.la W (intsL (lWord cs 0))) (by repeat (first | with_reducible exact lk_here | (apply lk_there; decide +kernel)))
    cases r using Rep.cLa with | la hWS hl hp =>
      obtain ⟨n, e⟩ := hl
      refine ⟨fun a ha => ?_, fun x r => ?_⟩
      · rcases List.mem_cons.mp ha with rfl | ha
        · exact ⟨_, e⟩
        · exact f.low a ha
      · cases r with
        | rng hr0 er =>
          refine .rng ?_ er
          intro q
          rcases List.mem_cons.mp q with rfl | q
          · rw [IsRange, e] at er
            have e1 : Value.type "list" = Value.type "range" := congrArg Obj.cls (Option.some.inj er)
            exact absurd e1 (by decide)
          · exact hr0 q
  · exact (sub_cons (sub_cons (sub_cons (sub_cons (sub_cons sub_nil))))).all
  · intro i x hx S''
    have hi : i < M + 1 := by
      have := (List.getElem?_eq_some_iff.mp hx).1
      simp at this; (first | lia | omega)
    obtain rfl : x = .at (.int (1 + (i : Nat))) := by
      have hi2 : i < ((M : Int) + 2 - 1).toNat := by (first | lia | omega)
      rw [List.getElem?_map, List.getElem?_range hi2] at hx
      exact (Option.some.inj hx).symm
    exact asg_cell (own_cell bd (kd hK (by kernel_rfl)) (by kernel_rfl))
  · intro i x hx S'' hS''
    have hl := hWlen i
    have hpass := F.pass i
    have hexch := F.exch i
    have hok := F.passok i
    rw [← hl] at hpass hexch
    have ecnt := count_ge (lDots cs) i
    have eread := less_ints (lDots cs) i
    have hword : lWord cs (i + 1) = readFrom 0 ((lDots cs).map (· - (i + 1))) := rfl
    refine ex_at rfl ?_
    refine ex_ifW_not (W := W) List.mem_cons_self (trw_pass (ld_glob (kd hK (by kernel_rfl)) (gm_l_pass _)) (by repeat (first | with_reducible exact lk_here | (apply lk_there; decide +kernel))) (by decide +kernel) ev_n (ev_as (ev_bi (ld_bi (kd hK (by kernel_rfl)) (gm_len _) bb_len) (evs_cons (ev_comp1 outA (lDots cs) (fun p => PV.at (.int (p : Nat))) (fun c => decide (((c : Nat) : Int) ≥ 1 + (i : Nat))) (fun c => PA.int (c : Nat)) hK (ev_la (W := Dd) (l := intsL (lDots cs)) ev_n) (itr_ints _) rfl (by (first | lia | omega))
        (fun S' cenv hc c hc2 => ts_one (tr_cmp ev_n ev_n cm_ge_int)) (fun S' cenv hc c hc2 _ => ev_n (d := .at (.int (c : Nat)))) (by kernel_rfl) (by kernel_rfl) rfl) evs_nil) (bi_len_list ?_) (Nat.le_refl _)) ?_) (by (first | lia | omega)) (by (first | lia | omega)) (by (first | lia | omega)) hok hW0 ?_ (by decide)) ?_
    · rw [List.length_map]
      refine Nat.lt_of_le_of_lt (List.length_filter_le _ _) (by (first | lia | omega))
    · exact congrArg (fun z : Int => PV.at (PA.int z)) (ecnt.trans (congrArg (fun n : Nat => (n : Int)) hexch.symm))
    · exact offs_at (offs_self (offs_la hDe (offs_la hDd (offs_at (offs_at offs_nil)))))
    rw [hpass]
    refine ex_if_not (tr_cmp (ev_la (W := W) (l := intsL (lWord cs (i + 1))) ev_n) (ev_as (d := .list (intsL (lWord cs (i + 1)))) (ev_fn def_l_read (ld_glob (kd hK (by kernel_rfl)) (gm_l_read _)) (evs_cons (ev_as (d := .list (intsL ((lDots cs).map (· - (i + 1))))) (ev_compA outA (lDots cs) (fun p => PV.at (.int (p : Nat))) (fun c : Nat => PA.int (if (0 : Int) > ((c : Nat) : Int) - (1 + (i : Nat)) then 0 else ((c : Nat) : Int) - (1 + (i : Nat)))) hK (ev_la (W := Dd) (l := intsL (lDots cs)) ev_n) (itr_ints _) rfl (by (first | lia | omega))
      (fun S' cenv hc c hc2 => ev_bi (ld_bi (kd hc (by kernel_rfl)) (gm_max _) bb_max) (evs_cons (ev_bin ev_n ev_n bn_sub_int) (evs_cons ev_int evs_nil)) bi_max2 (Nat.le_refl _)) (by kernel_rfl) (by kernel_rfl) rfl) (congrArg PV.list eread)) evs_nil) (fnn_read (D := (lDots cs).map (· - (i + 1))) (by rw [List.length_map]; (first | lia | omega))).fn (by decide)) rfl) cm_ne_ints) ?_
    refine ex_if_not (tr_as (tr_bool (als_and (c := false) (tr_cmp ev_n ev_n cm_eq_int) (fun heq => als_and (c := true) (b := false) (tr_cmp (ev_la (W := W) (l := intsL (lWord cs (i + 1))) ev_n) (ev_as (d := .list (intsL (lWord cs (i + 1)))) (ev_la (W := De) (l := intsL (lDue cs)) ev_n) ?_) cm_ne_ints) (fun q => nomatch q)))) (Bool.and_false _)) ?_
    · have : i + 1 = lTimes cs := by
        have h2 : (1 + (i : Nat) : Int) = (lTimes cs : Nat) := by simpa using heq
        (first | lia | omega)
      rw [this, F.due]
    · exact ex_nil fun s' f => f.fewer (sub_cons (sub_cons (sub_cons (sub_cons (sub_cons sub_nil))))).all
  · refine ex_fewer (G' := []) (body' := (fB 26).drop 24) (by unfold fB; exact rfl) ?_ sub_nil
    refine ex_at (by unfold fB; exact rfl) ?_
    refine ex_ret ev_bool fun v s' hk r => ?_
    cases r using Rep.cAt with | «at» r => (first | cases r using Atom.cInt | cases r using Atom.cStr | cases r using Atom.cBool | cases r using Atom.cNone | cases r); exact ⟨rfl, hk⟩
end Mine
end

section
set_option maxRecDepth 100000
set_option linter.unusedVariables false
set_option linter.unusedSimpArgs false
namespace Mine
open PySem PySem.W PySem.Calls PyProof.Rows

theorem paired_ints : ∀ {vs : List Value} {ns : List Int}, IntsAre vs ns → Paired Atom vs (ns.map PA.int)
  | _, _, .nil => .nil
  | _, _, .cons n t r => .cons (.int n t) (paired_ints r)
theorem kp_shape {s s' : Shared} (k : Kp s s') : s'.os = s.os ∧ s'.gens = s.gens := by
  obtain ⟨⟨h, t, rfl, _⟩, _⟩ := k
  exact ⟨rfl, rfl⟩
theorem holds_of (all : ∀ ns : List Int, ns.length ≤ 63 → LF (lCells ns)) : PySem.Challenge.rw_ti0028_01.Holds := by
  refine law_of_call fun w s₁ L xs ns st hg ht hl hi hn => ?_
  have hA : AOk 5 callerA := ⟨rfl, by decide, by decide⟩
  have h := fn_run (k := 4) (R := fun v s' => v = .bool true ∧ Kp s₁ s') (E := fun _ _ => False) (S := []) def_law (by decide +kernel) rfl hA st hg ht (fun _ h => nomatch h) (vs := [.ref L]) (ds := [.isl (ns.map PA.int)]) (.cons (.isl (fun h => nomatch h) hl (paired_ints hi)) .nil) fun S' env bd hS => ?_
  · refine wpAny_mono h (fun v s' x => ⟨x.1, kp_get x.2, (kp_shape x.2).1, (kp_shape x.2).2.trans hg⟩) fun _ _ x => x
  · have F := all ns hn
    have hh := law_A (w := w) bd hn F (law_B bd F (law_C bd F (law_D bd F (law_E bd F (law_F bd F)))))
    exact ⟨fun A' E' s₂ a' f => wpAny_mono (hh.run A' E' s₂ a' f) (fun fl s' x => ⟨by
      have x1 := x.1
      cases fl with
      | ret v => exact x1
      | _ => exact x1.elim, x.2⟩) fun _ _ x => x⟩
end Mine
end

section
set_option maxRecDepth 100000
set_option linter.unusedVariables false
set_option linter.unusedSimpArgs false
namespace Mine
open PySem PySem.W PySem.Calls PyProof.Rows

/-! tables of inversions -/
noncomputable def bub : Nat → List Nat → List Nat × Nat
  | c, [] => ([c], 0)
  | c, a :: t => if a < c then (a :: (bub c t).1, (bub c t).2 + 1) else (c :: (bub a t).1, (bub a t).2)
noncomputable def bubL : List Nat → List Nat × Nat
  | [] => ([], 0)
  | c :: t => bub c t
noncomputable def insAt (d i : Nat) (l : List Nat) : List Nat := l.take d ++ i :: l.drop d
noncomputable def Val : List Nat → Prop
  | [] => True
  | d :: ds => d ≤ ds.length ∧ Val ds
theorem readFrom_ins (i d : Nat) (ds : List Nat) : readFrom i (d :: ds) = insAt d i (readFrom (i + 1) ds) := rfl
theorem ins_bub (i : Nat) : ∀ (W : List Nat) (c d : Nat), i < c → (∀ x ∈ W, i < x) → d ≤ W.length → bub c (insAt d i W) = (insAt d i (bub c W).1, (bub c W).2 + 1)
  | W, c, 0, hc, hW, hd => by
    show bub c (i :: W) = (i :: (bub c W).1, _)
    rw [bub, if_pos hc]
  | [], c, d + 1, hc, hW, hd => by simp at hd
  | a :: t, c, d + 1, hc, hW, hd => by
    have ha := hW a List.mem_cons_self
    have ht : ∀ x ∈ t, i < x := fun x hx => hW x (List.mem_cons_of_mem _ hx)
    have hd' : d ≤ t.length := by simpa using hd
    show bub c (a :: insAt d i t) = _
    rw [bub, bub]
    by_cases h : a < c
    · rw [if_pos h, if_pos h, ins_bub i t c d hc ht hd']; rfl
    · rw [if_neg h, if_neg h, ins_bub i t a d ha ht hd']; rfl
theorem read_ge : ∀ (ds : List Nat) (i : Nat), ∀ x ∈ readFrom i ds, i ≤ x ∧ x < i + ds.length
  | [], i, x, h => by simp [readFrom] at h
  | d :: ds, i, x, h => by
    rw [readFrom_ins] at h
    unfold insAt at h
    have : x = i ∨ x ∈ readFrom (i + 1) ds := by
      rcases List.mem_append.mp h with h | h
      · exact .inr (List.mem_of_mem_take h)
      · rcases List.mem_cons.mp h with h | h
        · exact .inl h
        · exact .inr (List.mem_of_mem_drop h)
    rcases this with rfl | h
    · simp
    · have := read_ge ds (i + 1) x h
      simp; (first | lia | omega)
theorem pass_read : ∀ (ds : List Nat) (i : Nat), Val ds → bubL (readFrom i ds) = (readFrom i (ds.map (· - 1)), (ds.filter fun c => decide (1 ≤ c)).length)
  | [], i, _ => rfl
  | d :: ds, i, hv => by
    have ih := pass_read ds (i + 1) hv.2
    have hl := readFrom_length ds (i + 1)
    have hg := read_ge ds (i + 1)
    rw [readFrom_ins, List.map_cons, readFrom_ins]
    generalize hW : readFrom (i + 1) ds = W at *
    have e1 : readFrom (i + 1) (ds.map (· - 1)) = (bubL W).1 := by rw [ih]
    have e2 : (ds.filter fun c => decide (1 ≤ c)).length = (bubL W).2 := by rw [ih]
    rw [e1]
    cases d with
    | zero =>
      rw [List.filter_cons, if_neg (by simp), e2]
      show bub i W = (i :: (bubL W).1, (bubL W).2)
      cases W with
      | nil => rfl
      | cons a t =>
        have := (hg a List.mem_cons_self).1
        rw [bub, if_neg (by (first | lia | omega))]; rfl
    | succ d =>
      rw [List.filter_cons, if_pos (by simp), List.length_cons, e2]
      cases W with
      | nil => have := hv.1; simp at hl; (first | lia | omega)
      | cons c W' =>
        have hc := (hg c List.mem_cons_self).1
        show bub c (insAt d i W') = _
        rw [ins_bub i W' c d (by (first | lia | omega)) (fun x hx => by have := (hg x (List.mem_cons_of_mem _ hx)).1; (first | lia | omega)) (by have := hv.1; simp at hl; (first | lia | omega))]
        rfl
theorem bst_bub (l : List Nat) : ∀ i, i < l.length → (bst l i).1 ++ (bub (bst l i).2.1 (l.drop (i + 1))).1 = (bubL l).1 ∧ (bst l i).2.2 + (bub (bst l i).2.1 (l.drop (i + 1))).2 = (bubL l).2
  | 0, h => by
    cases l with
    | nil => simp at h
    | cons c t => simp [bst, bubL]
  | i + 1, h => by
    obtain ⟨h1, h2⟩ := bst_bub l i (by (first | lia | omega))
    have e : l.drop (i + 1) = l.getD (i + 1) 0 :: l.drop (i + 2) := by
      rw [List.drop_eq_getElem_cons h]
      simp [h]
    rw [e, bub] at h1 h2
    rw [bst]
    split
    · rename_i hlt
      rw [if_pos hlt] at h1 h2
      refine ⟨?_, ?_⟩
      · rw [← h1]; simp
      · show (bst l i).2.2 + 1 + (bub (bst l i).2.1 (l.drop (i + 2))).2 = _
        rw [← h2]
        show _ = (bst l i).2.2 + ((bub (bst l i).2.1 (l.drop (i + 2))).2 + 1)
        (first | lia | omega)
    · rename_i hlt
      rw [if_neg hlt] at h1 h2
      refine ⟨?_, ?_⟩
      · rw [← h1]; simp
      · rw [← h2]
theorem bst_end (l : List Nat) (h : 1 ≤ l.length) : bword l (l.length - 1) = (bubL l).1 ∧ (bst l (l.length - 1)).2.2 = (bubL l).2 := by
  obtain ⟨h1, h2⟩ := bst_bub l (l.length - 1) (by (first | lia | omega))
  have e : l.drop (l.length - 1 + 1) = [] := by simp; (first | lia | omega)
  rw [e] at h1 h2
  refine ⟨?_, by simpa [bub] using h2⟩
  unfold bword
  rw [e]
  simpa [bub] using h1
theorem val_sub : ∀ (ds : List Nat) (t : Nat), Val ds → Val (ds.map (· - t))
  | [], _, _ => trivial
  | d :: ds, t, h => ⟨by have := h.1; rw [List.length_map]; show d - t ≤ _; (first | lia | omega), val_sub ds t h.2⟩
theorem take_ins {e d i x : Nat} {W : List Nat} (h : x ∈ (insAt d i W).take e) : x = i ∨ x ∈ W.take e := by
  unfold insAt at h
  rw [List.take_append] at h
  rcases List.mem_append.mp h with h | h
  · rw [List.take_take] at h
    exact .inr (List.mem_take_iff_getElem.mpr (by
      obtain ⟨j, hj, e⟩ := List.mem_take_iff_getElem.mp h
      exact ⟨j, by (first | lia | omega), e⟩))
  · rcases hn : e - (W.take d).length with _ | n
    · rw [hn] at h; simp at h
    · rw [hn, List.take_succ_cons] at h
      rcases List.mem_cons.mp h with h | h
      · exact .inl h
      · right
        obtain ⟨j, hj, e'⟩ := List.mem_take_iff_getElem.mp h
        rw [List.length_drop] at hj
        rw [List.getElem_drop] at e'
        have hlt : (W.take d).length = min d W.length := by simp
        exact List.mem_take_iff_getElem.mpr ⟨d + j, by (first | lia | omega), e'⟩
theorem notin_take : ∀ (ds : List Nat) (i : Nat), Val ds → ∀ k (hk : k < ds.length), (i + k) ∉ (readFrom i ds).take (ds[k])
  | [], i, _, k, hk => by simp at hk
  | d :: ds, i, hv, 0, hk => fun h => by
    rw [readFrom_ins] at h
    have hl := readFrom_length ds (i + 1)
    have e : (insAt d i (readFrom (i + 1) ds)).take d = (readFrom (i + 1) ds).take d := by
      unfold insAt
      rw [List.take_append_of_le_length (by have := hv.1; simp; (first | lia | omega)), List.take_take, Nat.min_self]
    have h2 : i ∈ (insAt d i (readFrom (i + 1) ds)).take d := by simpa using h
    rw [e] at h2
    have := (read_ge ds (i + 1) i (List.mem_of_mem_take h2)).1
    (first | lia | omega)
  | d :: ds, i, hv, k + 1, hk => fun h => by
    have hk' : k < ds.length := by simpa using hk
    rw [readFrom_ins] at h
    rcases take_ins h with h | h
    · (first | lia | omega)
    · refine notin_take ds (i + 1) hv.2 k hk' ?_
      rw [show i + 1 + k = i + (k + 1) by (first | lia | omega)]
      simpa using h
theorem read_pair (r : Nat → Nat) : ∀ (ds : List Nat) (i : Nat), Val ds → (∀ a b, i ≤ a → a ≤ b → b < i + ds.length → r a ≤ r b) → (∀ a b (ha : a < b) (hb : b < ds.length), r (i + a) = r (i + b) → ds[a]'(by (first | lia | omega)) ≤ ds[b]) →
    (readFrom i ds).Pairwise fun x y => y < x → r y < r x
  | [], _, _, _, _ => .nil
  | d :: ds, i, hv, hm, hl => by
    have hm' : ∀ a b, i + 1 ≤ a → a ≤ b → b < i + 1 + ds.length → r a ≤ r b := fun a b h1 h2 h3 => hm a b (by (first | lia | omega)) h2 (by simp; (first | lia | omega))
    have ih := read_pair r ds (i + 1) hv.2 hm' fun a b ha hb e => by
      have := hl (a + 1) (b + 1) (by (first | lia | omega)) (by simpa using hb) (by rw [show i + (a + 1) = i + 1 + a by (first | lia | omega), show i + (b + 1) = i + 1 + b by (first | lia | omega)]; exact e)
      simpa using this
    have hg := read_ge ds (i + 1)
    have hni := notin_take ds (i + 1) hv.2
    rw [readFrom_ins]
    generalize readFrom (i + 1) ds = W at *
    have hsplit : W = W.take d ++ W.drop d := (List.take_append_drop d W).symm
    rw [hsplit, List.pairwise_append] at ih
    obtain ⟨p1, p2, p3⟩ := ih
    unfold insAt
    rw [List.pairwise_append]
    refine ⟨p1, List.pairwise_cons.mpr ⟨fun y hy q => ?_, p2⟩, fun x hx y hy q => ?_⟩
    · have := (hg y (List.mem_of_mem_drop hy)).1; (first | lia | omega)
    · rcases List.mem_cons.mp hy with rfl | hy
      · have hxg := hg x (List.mem_of_mem_take hx)
        have hle : r y ≤ r x := hm y x (Nat.le_refl _) (by (first | lia | omega)) (by simp; (first | lia | omega))
        by_cases heq : r y = r x
        · exfalso
          have hk : x - (y + 1) < ds.length := by (first | lia | omega)
          have := hl 0 (x - (y + 1) + 1) (by (first | lia | omega)) (by simp; (first | lia | omega)) (by rw [show y + 0 = y by (first | lia | omega), show y + (x - (y + 1) + 1) = x by (first | lia | omega)]; exact heq)
          have hle2 : d ≤ ds[x - (y + 1)] := by simpa using this
          refine hni (x - (y + 1)) hk ?_
          rw [show y + 1 + (x - (y + 1)) = x by (first | lia | omega)]
          obtain ⟨j, hj, e⟩ := List.mem_take_iff_getElem.mp hx
          exact List.mem_take_iff_getElem.mpr ⟨j, by (first | lia | omega), e⟩
        · (first | lia | omega)
      · exact p3 x hx y hy q
theorem bst_mem (l : List Nat) : ∀ i, i < l.length → (bst l i).2.1 ∈ l.take (i + 1)
  | 0, h => by
    cases l with
    | nil => simp at h
    | cons c t => simp [bst]
  | i + 1, h => by
    have ih := bst_mem l i (by (first | lia | omega))
    rw [bst]
    split
    · obtain ⟨j, hj, e⟩ := List.mem_take_iff_getElem.mp ih
      exact List.mem_take_iff_getElem.mpr ⟨j, by (first | lia | omega), e⟩
    · exact List.mem_take_iff_getElem.mpr ⟨i + 1, by (first | lia | omega), by simp [h]⟩
theorem passok_of {rows l : List Nat} (hlt : ∀ x ∈ l, x < rows.length) (hm : ∀ a b, a ≤ b → b < rows.length → rows.getD a 0 ≤ rows.getD b 0) (hp : l.Pairwise fun x y => y < x → rows.getD y 0 < rows.getD x 0) : PassOk rows l := fun i hi => by
  have hc := bst_mem l i (by (first | lia | omega))
  obtain ⟨j, hj, ej⟩ := List.mem_take_iff_getElem.mp hc
  have hb : l.getD (i + 1) 0 = l[i + 1] := by simp [hi]
  rw [hb]
  have hjl : j < l.length := by (first | lia | omega)
  have h1 := hlt _ (List.getElem_mem hjl)
  have h2 := hlt _ (List.getElem_mem hi)
  have h3 := List.pairwise_iff_getElem.mp hp j (i + 1) hjl hi (by (first | lia | omega))
  rw [ej] at h1 h3
  refine ⟨h1, h2, fun q => ?_, h3⟩
  by_cases h : l[i + 1] < (bst l i).2.1
  · exact h
  · have := hm (bst l i).2.1 l[i + 1] (by (first | lia | omega)) h2
    (first | lia | omega)
end Mine
end

section
set_option maxRecDepth 100000
set_option linter.unusedVariables false
set_option linter.unusedSimpArgs false
namespace Mine
open PySem PySem.W PySem.Calls PyProof.Rows

/-! the order of the rows -/
noncomputable def lt2 (d : List Nat) (a b : Nat) : Bool := if d.getD a 0 = d.getD b 0 then decide (a < b) else decide (d.getD a 0 < d.getD b 0)
theorem lt2_iff (d : List Nat) (a b : Nat) : lt2 d a b = true ↔ (d.getD a 0 < d.getD b 0 ∨ (d.getD a 0 = d.getD b 0 ∧ a < b)) := by
  unfold lt2
  split
  · rename_i h; rw [decide_eq_true_eq]; constructor
    · exact fun q => .inr ⟨h, q⟩
    · rintro (q | q)
      · (first | lia | omega)
      · exact q.2
  · rename_i h; rw [decide_eq_true_eq]; constructor
    · exact fun q => .inl q
    · rintro (q | q)
      · exact q
      · exact absurd q.1 h
theorem lt2_ord (d : List Nat) : Ord (lt2 d) where
  trans := fun a b c h1 h2 => by rw [lt2_iff] at *; (first | lia | omega)
  tot := fun a b hne h => by
    have h1 : ¬ (lt2 d a b = true) := by rw [h]; exact Bool.false_ne_true
    rw [lt2_iff] at *; (first | lia | omega)
theorem kev_congr {α : Type} {n : Nat} {P : α → Prop} {lt lt' : Nat → Nat → Bool} (h : ∀ i j, i < n → j < n → lt i j = lt' i j) : ∀ t : KasT α, AskB n P t → kev lt t = kev lt' t
  | .ret _, _ => rfl
  | .ask i j k, a => by
    show kev lt (k (lt i j)) = kev lt' (k (lt' i j))
    rw [h i j a.1 a.2.1]
    exact kev_congr h _ (a.2.2 _)
structure OrdOk (d order : List Nat) : Prop where
  perm : order.Perm (List.range d.length)
  pw : order.Pairwise fun a b => lt2 d a b = true
theorem order_ok {cs : List Int} (h1 : 1 ≤ (lDrawn cs).length) : OrdOk (lDrawn cs) (lOrder cs) ∧ ∀ i ∈ (kev (tupLt (lPairs cs)) (kas_sort (lPairs cs).length)).toList, i < (lPairs cs).length := by
  have hpl : (lPairs cs).length = (lDrawn cs).length := by unfold lPairs; simp
  have hat : ∀ i, i < (lDrawn cs).length → (lPairs cs).getD i (0, 0) = ((lDrawn cs).getD i 0, (i : Int)) := fun i hi => by unfold lPairs; simp [hi]
  have hlt : ∀ i j, i < (lDrawn cs).length → j < (lDrawn cs).length → tupLt (lPairs cs) i j = lt2 (lDrawn cs) i j := fun i j hi hj => by
    unfold tupLt lt2
    rw [hat i hi, hat j hj]
    dsimp only
    split
    · rw [decide_eq_decide]; (first | lia | omega)
    · rfl
  have hk : kev (tupLt (lPairs cs)) (kas_sort (lPairs cs).length) = kev (lt2 (lDrawn cs)) (kas_sort (lDrawn cs).length) := by
    rw [hpl]
    exact kev_congr hlt _ (b_sort h1)
  obtain ⟨s1, s2⟩ := sort_ok (lt2_ord (lDrawn cs)) h1
  refine ⟨?_, fun i hi => ?_⟩
  · have ho : lOrder cs = if (lDrawn cs).length < 2 then [0] else (kev (lt2 (lDrawn cs)) (kas_sort (lDrawn cs).length)).toList := by
      unfold lOrder srt
      rw [hpl]
      split
      · have hn : (lDrawn cs).length = 1 := by (first | lia | omega)
        unfold lPairs
        rw [hn]; rfl
      · rw [← hpl, hk, List.map_map, hpl]
        have key : ∀ l : List Nat, (∀ i ∈ l, i < (lDrawn cs).length) → l.map ((fun p : Nat × Int => p.2.toNat) ∘ fun i => (lPairs cs).getD i (0, 0)) = l := by
          intro l hl
          refine (List.map_congr_left (g := id) fun i hi => ?_).trans (List.map_id l)
          show ((lPairs cs).getD i (0, 0)).2.toNat = i
          rw [hat i (hl i hi)]; rfl
        exact key _ fun i hi => by simpa using s1.mem_iff.mp hi
    rw [ho]
    split
    · have hn : (lDrawn cs).length = 1 := by (first | lia | omega)
      exact ⟨by rw [hn]; exact .refl _, by simp⟩
    · exact ⟨s1, s2⟩
  · rw [hk] at hi
    rw [hpl]
    simpa using s1.mem_iff.mp hi
section
variable {d order : List Nat} (O : OrdOk d order)
include O
theorem oo_len : order.length = d.length := by rw [O.perm.length_eq, List.length_range]
theorem oo_mem (p : Nat) : p ∈ order ↔ p < d.length := by rw [O.perm.mem_iff, List.mem_range]
theorem oo_nodup : order.Nodup := O.perm.nodup_iff.mpr List.nodup_range
theorem oo_lt (a b : Nat) (ha : a < b) (hb : b < order.length) : lt2 d order[a] order[b] = true := List.pairwise_iff_getElem.mp O.pw a b (by (first | lia | omega)) hb ha
theorem oo_mono (a b : Nat) (hab : a ≤ b) (hb : b < order.length) : d.getD (order[a]'(by (first | lia | omega))) 0 ≤ d.getD order[b] 0 := by
  rcases Nat.lt_or_eq_of_le hab with h | rfl
  · have := (lt2_iff d _ _).mp (oo_lt O a b h hb)
    (first | lia | omega)
  · exact Nat.le_refl _
omit O in
theorem filter_range_le (f : Nat → Bool) {p q : Nat} (h : p ≤ q) : ((List.range p).filter f).length ≤ ((List.range q).filter f).length := by
  obtain ⟨k, rfl⟩ := Nat.exists_eq_add_of_le h
  rw [List.range_add, List.filter_append, List.length_append]
  exact Nat.le_add_right _ _
theorem oo_ahead (r : Nat) (hr : r < order.length) : aheadAt d order[r] + r + 1 ≤ d.length := by
  have hp : order[r] < d.length := (oo_mem O _).mp (List.getElem_mem hr)
  have hlen := oo_len O
  have h1 : aheadAt d order[r] ≤ ((List.range d.length).filter fun k => decide (d.getD order[r] 0 < d.getD k 0)).length := filter_range_le _ (Nat.le_of_lt hp)
  have h2 : ((List.range d.length).filter fun k => decide (d.getD order[r] 0 < d.getD k 0)).length = (order.filter fun k => decide (d.getD order[r] 0 < d.getD k 0)).length := (O.perm.filter _).length_eq.symm
  have h3 : order = order.take r ++ order.drop r := (List.take_append_drop r order).symm
  have h4 : order.drop r = order[r] :: order.drop (r + 1) := List.drop_eq_getElem_cons hr
  have h5 : ((order.take r).filter fun k => decide (d.getD order[r] 0 < d.getD k 0)) = [] := by
    rw [List.filter_eq_nil_iff]
    intro x hx
    obtain ⟨j, hj, e⟩ := List.mem_take_iff_getElem.mp hx
    have := (lt2_iff d _ _).mp (oo_lt O j r (by (first | lia | omega)) hr)
    rw [e] at this
    simp only [decide_eq_true_eq]; (first | lia | omega)
  have h6 : (order.filter fun k => decide (d.getD order[r] 0 < d.getD k 0)).length ≤ order.length - (r + 1) := by
    have : order.filter (fun k => decide (d.getD order[r] 0 < d.getD k 0)) = (order.drop (r + 1)).filter fun k => decide (d.getD order[r] 0 < d.getD k 0) := by
      generalize hpp : order[r] = p at *
      have e : order = order.take r ++ p :: order.drop (r + 1) := by rw [← h4, List.take_append_drop]
      have e2 := congrArg (List.filter fun k => decide (d.getD p 0 < d.getD k 0)) e
      rw [List.filter_append, h5, List.filter_cons, if_neg (by simp), List.nil_append] at e2
      exact e2
    rw [this]
    exact Nat.le_trans (List.length_filter_le _ _) (by rw [List.length_drop]; exact Nat.le_refl _)
  (first | lia | omega)
theorem oo_like (a b : Nat) (ha : a < b) (hb : b < order.length) (he : d.getD (order[a]'(by (first | lia | omega))) 0 = d.getD order[b] 0) : aheadAt d (order[a]'(by (first | lia | omega))) ≤ aheadAt d order[b] := by
  have := (lt2_iff d _ _).mp (oo_lt O a b ha hb)
  unfold aheadAt
  rw [he]
  exact filter_range_le _ (by (first | lia | omega))
end
theorem tw_mid (x : Nat) : ∀ (A B : List Nat), x ∉ A → (A ++ x :: B).takeWhile (· != x) = A
  | [], B, _ => by simp
  | a :: A, B, h => by
    have h1 : a ≠ x := fun e => h (e ▸ List.mem_cons_self)
    have h2 : x ∉ A := fun e => h (List.mem_cons_of_mem _ e)
    rw [List.cons_append, List.takeWhile_cons, if_pos (by simpa using h1), tw_mid x A B h2]
theorem tw_drop (i x : Nat) (hx : i < x) : ∀ (A B : List Nat), ((A ++ i :: B).takeWhile (· != x)).filter (fun y => decide (x < y)) = ((A ++ B).takeWhile (· != x)).filter fun y => decide (x < y)
  | [], B => by
    rw [List.nil_append, List.nil_append, List.takeWhile_cons, if_pos (by simp; (first | lia | omega)), List.filter_cons, if_neg (by simp; (first | lia | omega))]
  | a :: A, B => by
    rw [List.cons_append, List.cons_append, List.takeWhile_cons, List.takeWhile_cons]
    split
    · rw [List.filter_cons, List.filter_cons, tw_drop i x hx A B]
    · rfl
theorem read_table : ∀ (m i : Nat) (L ds : List Nat), L.Perm (List.range' i m) → ds.length = m → (∀ k (h : k < ds.length), ds[k] = ((L.takeWhile (· != i + k)).filter fun y => decide (i + k < y)).length) → readFrom i ds = L
  | 0, i, L, ds, hp, hl, _ => by
    have : ds = [] := List.eq_nil_of_length_eq_zero hl
    subst this
    have := hp.length_eq
    simp at this
    subst this; rfl
  | m + 1, i, L, ds, hp, hl, hc => by
    match ds, hl with
    | d :: ds, hl =>
      have hl' : ds.length = m := by simpa using hl
      have hp' : L.Perm (i :: List.range' (i + 1) m) := by rw [List.range'_succ] at hp; exact hp
      have hnd : L.Nodup := hp.nodup_iff.mpr List.nodup_range'
      have hi : i ∈ L := hp'.mem_iff.mpr List.mem_cons_self
      obtain ⟨A, B, rfl⟩ := List.append_of_mem hi
      have hAB : (A ++ B).Perm (List.range' (i + 1) m) := (List.perm_middle.symm.trans hp').cons_inv
      have hiA : i ∉ A := fun h => by
        rw [List.nodup_append] at hnd
        exact hnd.2.2 i h i List.mem_cons_self rfl
      have hge : ∀ y ∈ A ++ B, i < y := fun y hy => by
        have := hAB.mem_iff.mp hy
        rw [List.mem_range'_1] at this; (first | lia | omega)
      have hd : d = A.length := by
        have := hc 0 (by simp)
        simp only [List.getElem_cons_zero, Nat.add_zero] at this
        rw [this, tw_mid i A B hiA, List.filter_eq_self.mpr]
        intro y hy
        simpa using hge y (List.mem_append_left _ hy)
      have ih := read_table m (i + 1) (A ++ B) ds hAB hl' fun k hk => by
        have := hc (k + 1) (by simpa using hk)
        simp only [List.getElem_cons_succ] at this
        rw [this, show i + (k + 1) = i + 1 + k by (first | lia | omega), tw_drop i (i + 1 + k) (by (first | lia | omega))]
      show (readFrom (i + 1) ds).take d ++ i :: (readFrom (i + 1) ds).drop d = _
      rw [ih, hd]
      simp
end Mine
end

section
set_option maxRecDepth 100000
set_option linter.unusedVariables false
set_option linter.unusedSimpArgs false
namespace Mine
open PySem PySem.W PySem.Calls PyProof.Rows

theorem val_of : ∀ (ds : List Nat), (∀ r, r < ds.length → ds.getD r 0 + r + 1 ≤ ds.length) → Val ds
  | [], _ => trivial
  | d :: ds, h => ⟨by have := h 0 (by simp); simp at this; (first | lia | omega), val_of ds fun r hr => by
      have := h (r + 1) (by simpa using hr)
      simp at this
      simp; (first | lia | omega)⟩
theorem idx_first : ∀ (l : List Nat) (p : Nat), p ∈ l → ∃ h : l.idxOf p < l.length, l[l.idxOf p] = p := fun l p h => by
  have h1 : l.idxOf p < l.length := List.idxOf_lt_length_iff.mpr h
  exact ⟨h1, List.getElem_idxOf h1⟩
section
variable {cs : List Int} (O : OrdOk (lDrawn cs) (lOrder cs)) (hlet : ∀ c ∈ lDrawn cs, c ≤ 119)
include O
theorem f_rlen : (lRows cs).length = (lDrawn cs).length + lTimes cs := by unfold lRows; rw [List.length_append, List.length_map, List.length_replicate, oo_len O]
theorem f_rows (a : Nat) (ha : a < (lDrawn cs).length) : (lRows cs).getD a 0 = (lDrawn cs).getD ((lOrder cs)[a]'(by rw [oo_len O]; exact ha)) 0 := by
  have hl := oo_len O
  unfold lRows
  rw [List.getD_eq_getElem?_getD, List.getElem?_append_left (by rw [List.length_map]; (first | lia | omega)), List.getElem?_map, List.getElem?_eq_getElem (by (first | lia | omega))]
  rfl
theorem f_rows_z (a : Nat) (ha : (lDrawn cs).length ≤ a) (hb : a < (lRows cs).length) : (lRows cs).getD a 0 = 122 := by
  have hl := oo_len O
  have hr := f_rlen O
  unfold lRows
  rw [List.getD_eq_getElem?_getD, List.getElem?_append_right (by rw [List.length_map]; (first | lia | omega)), List.length_map, List.getElem?_replicate, if_pos (by (first | lia | omega))]
  rfl
theorem f_alen : (lAhead cs).length = (lRows cs).length := by unfold lAhead lRows; simp
theorem f_ahead (a : Nat) (ha : a < (lDrawn cs).length) : (lAhead cs).getD a 0 = aheadAt (lDrawn cs) ((lOrder cs)[a]'(by rw [oo_len O]; exact ha)) := by
  have hl := oo_len O
  unfold lAhead
  rw [List.getD_eq_getElem?_getD, List.getElem?_append_left (by rw [List.length_map]; (first | lia | omega)), List.getElem?_map, List.getElem?_eq_getElem (by (first | lia | omega))]
  rfl
theorem f_ahead_z (a : Nat) (ha : (lDrawn cs).length ≤ a) : (lAhead cs).getD a 0 = 0 := by
  have hl := oo_len O
  unfold lAhead
  rw [List.getD_eq_getElem?_getD, List.getElem?_append_right (by rw [List.length_map]; (first | lia | omega)), List.getElem?_replicate]
  split <;> rfl
theorem f_dots (j a : Nat) : (moreOf (lAhead cs) j).getD a 0 = if 0 < (lAhead cs).getD a 0 then (lAhead cs).getD a 0 + j else 0 := by
  unfold moreOf
  rw [List.getD_eq_getElem?_getD, List.getD_eq_getElem?_getD, List.getElem?_map]
  cases (lAhead cs)[a]? with
  | none => rfl
  | some x => rfl
theorem f_dlen : (lDots cs).length = (lRows cs).length := by unfold lDots moreOf; rw [List.length_map, f_alen O]
theorem f_val : Val (lDots cs) := by
  refine val_of _ fun r hr => ?_
  rw [f_dlen O] at hr
  have hrl := f_rlen O
  rw [f_dlen O]
  unfold lDots
  rw [f_dots O]
  by_cases h : r < (lDrawn cs).length
  · have := oo_ahead O r (by rw [oo_len O]; exact h)
    rw [f_ahead O r h]
    split <;> (first | lia | omega)
  · rw [f_ahead_z O r (by (first | lia | omega))]
    simp; (first | lia | omega)
theorem f_ale : ∀ a ∈ lAhead cs, a ≤ (lDrawn cs).length := fun a ha => by
  unfold lAhead at ha
  rcases List.mem_append.mp ha with h | h
  · obtain ⟨p, hp, rfl⟩ := List.mem_map.mp h
    obtain ⟨j, hj, rfl⟩ := List.getElem_of_mem hp
    have := oo_ahead O j hj
    (first | lia | omega)
  · obtain ⟨_, rfl⟩ := List.mem_replicate.mp h
    exact Nat.zero_le _
theorem f_word_len (t : Nat) : (lWord cs t).length = (lRows cs).length := by unfold lWord; rw [readFrom_length, List.length_map, f_dlen O]
theorem f_pass (t : Nat) (h1 : 1 ≤ (lRows cs).length) : bword (lWord cs t) ((lRows cs).length - 1) = lWord cs (t + 1) ∧ (bst (lWord cs t) ((lRows cs).length - 1)).2.2 = ((lDots cs).filter fun c => decide (t + 1 ≤ c)).length := by
  have hl := f_word_len O t
  obtain ⟨e1, e2⟩ := bst_end (lWord cs t) (by (first | lia | omega))
  rw [hl] at e1 e2
  have hp := pass_read ((lDots cs).map (· - t)) 0 (val_sub _ t (f_val O))
  have e3 : bubL (lWord cs t) = _ := hp
  rw [e1, e2, e3]
  refine ⟨?_, ?_⟩
  · unfold lWord
    rw [List.map_map]
    exact congrArg (readFrom 0) (List.map_congr_left fun c _ => show c - t - 1 = c - (t + 1) by (first | lia | omega))
  · dsimp only
    rw [List.filter_map, List.length_map]
    refine congrArg List.length (List.filter_congr fun c _ => ?_)
    show decide (1 ≤ c - t) = decide (t + 1 ≤ c)
    rw [decide_eq_decide]; (first | lia | omega)
include hlet
theorem f_mono (a b : Nat) (hab : a ≤ b) (hb : b < (lRows cs).length) : (lRows cs).getD a 0 ≤ (lRows cs).getD b 0 := by
  have hl := oo_len O
  by_cases h1 : b < (lDrawn cs).length
  · rw [f_rows O a (by (first | lia | omega)), f_rows O b h1]
    exact oo_mono O a b hab (by (first | lia | omega))
  · rw [f_rows_z O b (by (first | lia | omega)) hb]
    by_cases h2 : a < (lDrawn cs).length
    · rw [f_rows O a h2]
      have hm : (lOrder cs)[a]'(by (first | lia | omega)) < (lDrawn cs).length := (oo_mem O _).mp (List.getElem_mem _)
      have := hlet ((lDrawn cs).getD ((lOrder cs)[a]'(by (first | lia | omega))) 0) (by simp [hm])
      (first | lia | omega)
    · rw [f_rows_z O a (by (first | lia | omega)) (by (first | lia | omega))]
      exact Nat.le_refl _
theorem f_like (a b : Nat) (hab : a < b) (hb : b < (lRows cs).length) (he : (lRows cs).getD a 0 = (lRows cs).getD b 0) : (lDots cs).getD a 0 ≤ (lDots cs).getD b 0 := by
  have hl := oo_len O
  unfold lDots
  rw [f_dots O, f_dots O]
  by_cases h1 : b < (lDrawn cs).length
  · rw [f_rows O a (by (first | lia | omega)), f_rows O b h1] at he
    have := oo_like O a b hab (by (first | lia | omega)) he
    rw [f_ahead O a (by (first | lia | omega)), f_ahead O b h1]
    split <;> split <;> (first | lia | omega)
  · by_cases h2 : a < (lDrawn cs).length
    · rw [f_rows O a h2, f_rows_z O b (by (first | lia | omega)) hb] at he
      have hm : (lOrder cs)[a]'(by (first | lia | omega)) < (lDrawn cs).length := (oo_mem O _).mp (List.getElem_mem _)
      have := hlet ((lDrawn cs).getD ((lOrder cs)[a]'(by (first | lia | omega))) 0) (by simp [hm])
      (first | lia | omega)
    · rw [f_ahead_z O a (by (first | lia | omega))]
      simp
theorem f_passok (t : Nat) : PassOk (lRows cs) (lWord cs t) := by
  have hdl := f_dlen O
  refine passok_of (fun x hx => ?_) (f_mono O hlet) ?_
  · have := (read_ge _ _ x hx).2
    rw [List.length_map, hdl] at this
    (first | lia | omega)
  · unfold lWord
    refine read_pair (fun a => (lRows cs).getD a 0) _ 0 (val_sub _ t (f_val O)) (fun a b _ hab hb => ?_) (fun a b ha hb he => ?_)
    · rw [List.length_map, hdl] at hb
      exact f_mono O hlet a b hab (by (first | lia | omega))
    · rw [List.length_map, hdl] at hb
      rw [Nat.zero_add, Nat.zero_add] at he
      have := f_like O hlet a b ha hb he
      rw [List.getElem_map, List.getElem_map]
      have e1 : (lDots cs).getD a 0 = (lDots cs)[a]'(by (first | lia | omega)) := by simp [show a < (lDots cs).length by (first | lia | omega)]
      have e2 : (lDots cs).getD b 0 = (lDots cs)[b]'(by (first | lia | omega)) := by simp [show b < (lDots cs).length by (first | lia | omega)]
      rw [e1, e2] at this
      show _ - t ≤ _ - t
      (first | lia | omega)
omit hlet
theorem f_due : lWord cs (lTimes cs) = lDue cs := by
  have hl := oo_len O
  have hrl := f_rlen O
  have hdl := f_dlen O
  have hnd := oo_nodup O
  have e0 : (lDots cs).map (· - lTimes cs) = lAhead cs := by
    unfold lDots moreOf
    rw [List.map_map]
    refine (List.map_congr_left (g := id) fun c _ => ?_).trans (List.map_id _)
    show (if 0 < c then c + lTimes cs else 0) - lTimes cs = c
    split <;> (first | lia | omega)
  have eN : (lRows cs).length - (lDrawn cs).length = lTimes cs := by (first | lia | omega)
  have rk : ∀ q, q < (lDrawn cs).length → ∃ h : (lOrder cs).idxOf q < (lOrder cs).length, (lOrder cs)[(lOrder cs).idxOf q] = q := fun q hq => idx_first _ q ((oo_mem O q).mpr hq)
  have rki : ∀ r (h : r < (lOrder cs).length), (lOrder cs).idxOf (lOrder cs)[r] = r := fun r h => by
    obtain ⟨h1, h2⟩ := idx_first (lOrder cs) (lOrder cs)[r] (List.getElem_mem h)
    exact (List.getElem_inj hnd).mp h2
  have same : ∀ q p, q < (lDrawn cs).length → p < (lDrawn cs).length → (lOrder cs).idxOf q = (lOrder cs).idxOf p → q = p := fun q p hq hp e => by
    obtain ⟨q1, q2⟩ := rk q hq
    obtain ⟨p1, p2⟩ := rk p hp
    have a1 := List.getElem?_eq_getElem q1
    have a2 := List.getElem?_eq_getElem p1
    rw [q2] at a1
    rw [p2] at a2
    rw [e, a2] at a1
    exact (Option.some.inj a1).symm
  unfold lWord
  rw [e0]
  refine read_table (lRows cs).length 0 (lDue cs) (lAhead cs) ?_ (f_alen O) fun k hk => ?_
  · unfold lDue
    rw [eN, ← List.range_eq_range', hrl, List.range_add]
    refine List.Perm.append ?_ (.refl _)
    have h1 : ((List.range (lDrawn cs).length).map fun p => (lOrder cs).idxOf p).Perm ((lOrder cs).map fun p => (lOrder cs).idxOf p) := (O.perm.symm).map _
    have h2 : (lOrder cs).map (fun p => (lOrder cs).idxOf p) = List.range (lOrder cs).length := by
      refine List.ext_getElem (by simp) fun i h1 h2 => ?_
      rw [List.getElem_map, List.getElem_range]
      exact rki i (by simpa using h1)
    rw [h2, hl] at h1
    exact h1
  · rw [f_alen O] at hk
    have eg : (lAhead cs)[k]'(by rw [f_alen O]; exact hk) = (lAhead cs).getD k 0 := by simp [show k < (lAhead cs).length by rw [f_alen O]; exact hk]
    rw [eg, Nat.zero_add]
    unfold lDue
    rw [eN]
    by_cases h : k < (lDrawn cs).length
    · rw [f_ahead O k h]
      have hko : k < (lOrder cs).length := by (first | lia | omega)
      generalize hp : (lOrder cs)[k] = p
      have hpn : p < (lDrawn cs).length := by rw [← hp]; exact (oo_mem O _).mp (List.getElem_mem hko)
      have hpk : (lOrder cs).idxOf p = k := by rw [← hp]; exact rki k hko
      obtain ⟨m, hm⟩ : ∃ m, (lDrawn cs).length = p + (m + 1) := ⟨(lDrawn cs).length - p - 1, by (first | lia | omega)⟩
      have hr : List.range (lDrawn cs).length = List.range p ++ p :: ((List.range m).map fun x => p + (x + 1)) := by
        rw [hm, List.range_add, List.range_succ_eq_map, List.map_cons, List.map_map]; rfl
      rw [hr, List.map_append, List.map_cons, hpk, List.append_assoc, List.cons_append, tw_mid k _ _ ?_]
      · rw [List.filter_map, List.length_map]
        unfold aheadAt
        refine congrArg List.length (List.filter_congr fun q hq => ?_)
        have hq := List.mem_range.mp hq
        obtain ⟨q1, q2⟩ := rk q (by (first | lia | omega))
        show decide _ = decide (k < (lOrder cs).idxOf q)
        rw [decide_eq_decide]
        constructor
        · intro hd
          rcases Nat.lt_trichotomy k ((lOrder cs).idxOf q) with h1 | h1 | h1
          · exact h1
          · have := same q p (by (first | lia | omega)) hpn (by (first | lia | omega))
            (first | lia | omega)
          · have := (lt2_iff (lDrawn cs) _ _).mp (oo_lt O _ k h1 hko)
            rw [q2, hp] at this
            (first | lia | omega)
        · intro hd
          have := (lt2_iff (lDrawn cs) _ _).mp (oo_lt O k _ hd q1)
          rw [q2, hp] at this
          (first | lia | omega)
      · intro hmem
        obtain ⟨q, hq, e⟩ := List.mem_map.mp hmem
        have hq := List.mem_range.mp hq
        obtain ⟨q1, q2⟩ := rk q (by (first | lia | omega))
        have := same q p (by (first | lia | omega)) hpn (by rw [hpk]; exact e)
        (first | lia | omega)
    · rw [f_ahead_z O k (by (first | lia | omega))]
      obtain ⟨j, rfl⟩ := Nat.exists_eq_add_of_le (Nat.le_of_not_lt h)
      obtain ⟨m, hm⟩ : ∃ m, lTimes cs = j + (m + 1) := ⟨lTimes cs - j - 1, by (first | lia | omega)⟩
      have hr : (List.range (lTimes cs)).map (fun x => (lDrawn cs).length + x) = (List.range j).map (fun x => (lDrawn cs).length + x) ++ ((lDrawn cs).length + j) :: ((List.range m).map fun x => (lDrawn cs).length + (j + (x + 1))) := by
        rw [hm, List.range_add, List.range_succ_eq_map, List.map_append, List.map_cons, List.map_cons, List.map_map, List.map_map]; rfl
      have hlt : ∀ y ∈ (List.range (lDrawn cs).length).map (fun p => (lOrder cs).idxOf p) ++ (List.range j).map (fun x => (lDrawn cs).length + x), y < (lDrawn cs).length + j := by
        intro y hy
        rcases List.mem_append.mp hy with hy | hy
        · obtain ⟨q, hq, rfl⟩ := List.mem_map.mp hy
          obtain ⟨q1, _⟩ := rk q (List.mem_range.mp hq)
          (first | lia | omega)
        · obtain ⟨q, hq, rfl⟩ := List.mem_map.mp hy
          have := List.mem_range.mp hq
          (first | lia | omega)
      rw [hr, ← List.append_assoc, tw_mid _ _ _ (fun q => Nat.lt_irrefl _ (hlt _ q)), List.filter_eq_nil_iff.mpr]
      · rfl
      · intro y hy
        have := hlt y hy
        simp; (first | lia | omega)
end
end Mine
end

section
set_option maxRecDepth 100000
set_option linter.unusedVariables false
set_option linter.unusedSimpArgs false
namespace Mine
open PySem PySem.W PySem.Calls PyProof.Rows

/-! pages as texts of rows: what a row begins behind, its dots, its name -/
noncomputable abbrev Row := List Nat × Nat × List Nat
noncomputable def cont (r : Row) : List Nat := List.replicate r.2.1 46 ++ r.2.2
noncomputable def txt (rs : List Row) : List Nat := (rs.map fun r => r.1 ++ cont r).flatten
noncomputable def rowsOf (E : List (List Nat)) (D : List Nat) (N : List (List Nat)) : List Row := (List.range N.length).map fun k => (E.getD k [], D.getD k 0, N.getD k [])
theorem page_txt (E : List (List Nat)) (D : List Nat) (N : List (List Nat)) : pageOf E D N = txt (rowsOf E D N) := by
  unfold pageOf txt rowsOf cont
  rw [List.map_map]
  refine congrArg List.flatten (List.map_congr_left fun k _ => ?_)
  show E.getD k [] ++ List.replicate (D.getD k 0) 46 ++ N.getD k [] = E.getD k [] ++ (List.replicate (D.getD k 0) 46 ++ N.getD k [])
  rw [List.append_assoc]
noncomputable def Clean (l : List Nat) : Prop := ∀ c ∈ l, c ≠ 10 ∧ c ≠ 13
noncomputable def normE (e : List Nat) : List Nat := q2 false e
structure GoodN (r : Row) : Prop where
  clean : Clean r.2.2
  head : ∃ c t, r.2.2 = c :: t ∧ c ≠ 46
theorem cont_clean {r : Row} (g : GoodN r) : Clean (cont r) := fun c hc => by
  unfold cont at hc
  rcases List.mem_append.mp hc with h | h
  · obtain ⟨_, rfl⟩ := List.mem_replicate.mp h; decide
  · exact g.clean c h
theorem cont_ne {r : Row} (g : GoodN r) : ∃ c t, cont r = c :: t := by
  obtain ⟨c, t, e, _⟩ := g.head
  unfold cont
  rw [e]
  cases r.2.1 with
  | zero => exact ⟨c, t, rfl⟩
  | succ n => exact ⟨46, _, rfl⟩
theorem q2_clean : ∀ (X Y : List Nat) (b : Bool), Clean X → X ≠ [] → q2 b (X ++ Y) = X ++ q2 false Y
  | [], _, _, _, h => absurd rfl h
  | [c], Y, b, h, _ => by
    have := h c List.mem_cons_self
    show q2 b (c :: Y) = c :: q2 false Y
    rw [q2, if_neg this.2, if_neg this.1]
  | c :: d :: X, Y, b, h, _ => by
    have := h c List.mem_cons_self
    show q2 b (c :: ((d :: X) ++ Y)) = c :: ((d :: X) ++ q2 false Y)
    rw [q2, if_neg this.2, if_neg this.1, q2_clean (d :: X) Y false (fun x hx => h x (List.mem_cons_of_mem _ hx)) (List.cons_ne_nil _ _)]
noncomputable def okE (e : List Nat) : Prop := e = [] ∨ e = [10] ∨ e = [13] ∨ e = [13, 10] ∨ e = [10, 13] ∨ e = [13, 13, 10] ∨ e = [13, 10, 13, 10]
theorem q2_end {e : List Nat} (he : okE e) {Y : List Nat} (hY : q2 true Y = q2 false Y) : q2 false (e ++ Y) = normE e ++ q2 false Y := by
  unfold normE
  rcases he with rfl | rfl | rfl | rfl | rfl | rfl | rfl <;> simp [q2, hY]
theorem q2_txt : ∀ rs : List Row, (∀ r ∈ rs, GoodN r ∧ okE r.1) → q2 false (txt rs) = txt (rs.map fun r => (normE r.1, r.2.1, r.2.2))
  | [], _ => rfl
  | r :: rs, h => by
    obtain ⟨g, he⟩ := h r List.mem_cons_self
    have ih := q2_txt rs fun x hx => h x (List.mem_cons_of_mem _ hx)
    obtain ⟨c, t, ec⟩ := cont_ne g
    have hc := cont_clean g
    have e1 : txt (r :: rs) = r.1 ++ (cont r ++ txt rs) := by unfold txt; simp
    have e2 : txt ((r :: rs).map fun r => (normE r.1, r.2.1, r.2.2)) = normE r.1 ++ (cont r ++ txt (rs.map fun r => (normE r.1, r.2.1, r.2.2))) := by unfold txt cont; simp
    have hne : cont r ≠ [] := by rw [ec]; exact List.cons_ne_nil _ _
    rw [e1, e2, q2_end he (by rw [q2_clean _ _ true hc hne, q2_clean _ _ false hc hne]), q2_clean _ _ false hc hne, ih]
theorem q1_no10 : ∀ (X Y : List Nat), (∀ c ∈ X, c ≠ 10) → q1 false (X ++ Y) = X ++ q1 false Y
  | [], _, _ => rfl
  | c :: X, Y, h => by
    have hc := h c List.mem_cons_self
    show q1 false (c :: (X ++ Y)) = c :: (X ++ q1 false Y)
    rw [q1, Bool.false_and, if_neg Bool.false_ne_true, beq_eq_false_iff_ne.mpr hc, q1_no10 X Y fun x hx => h x (List.mem_cons_of_mem _ hx)]
    rfl
noncomputable def dot1 (a : Nat) : Nat := if 0 < a then a + 1 else 0
theorem q1_cont {r : Row} (g : GoodN r) (Y : List Nat) : q1 true (cont r ++ Y) = cont (r.1, dot1 r.2.1, r.2.2) ++ q1 false Y := by
  obtain ⟨c, t, ec, h46⟩ := g.head
  have hcl := g.clean
  unfold cont dot1
  dsimp only
  cases hn : r.2.1 with
  | zero =>
    rw [ec] at hcl
    have hc := hcl c List.mem_cons_self
    rw [ec, if_neg (by (first | lia | omega))]
    show q1 true (c :: (t ++ Y)) = c :: (t ++ q1 false Y)
    rw [q1, Bool.true_and, if_neg (by simpa using h46), beq_eq_false_iff_ne.mpr hc.1, q1_no10 t Y fun x hx => (hcl x (List.mem_cons_of_mem _ hx)).1]
    rfl
  | succ n =>
    rw [if_pos (by (first | lia | omega))]
    have hX : ∀ x ∈ List.replicate n 46 ++ r.2.2, x ≠ 10 := fun x hx => by
      rcases List.mem_append.mp hx with h | h
      · obtain ⟨_, rfl⟩ := List.mem_replicate.mp h; decide
      · exact (hcl x h).1
    show q1 true (46 :: ((List.replicate n 46 ++ r.2.2) ++ Y)) = 46 :: 46 :: ((List.replicate n 46 ++ r.2.2) ++ q1 false Y)
    rw [q1, Bool.true_and, if_pos (by decide), show ((46 : Nat) == 10) = false from rfl, q1_no10 _ Y hX]
    rfl
noncomputable def okN (e : List Nat) : Prop := e = [13, 10] ∨ e = [13, 10, 13, 10]
theorem q1_end {e : List Nat} (he : okN e) (Y : List Nat) : q1 false (e ++ Y) = e ++ q1 true Y := by
  rcases he with rfl | rfl <;> rfl
theorem q1_rest : ∀ rs : List Row, (∀ r ∈ rs, GoodN r ∧ okN r.1) → q1 false (txt rs) = txt (rs.map fun r => (r.1, dot1 r.2.1, r.2.2))
  | [], _ => rfl
  | r :: rs, h => by
    obtain ⟨g, he⟩ := h r List.mem_cons_self
    have ih := q1_rest rs fun x hx => h x (List.mem_cons_of_mem _ hx)
    have e1 : txt (r :: rs) = r.1 ++ (cont r ++ txt rs) := by unfold txt; simp
    have e2 : txt ((r :: rs).map fun r => (r.1, dot1 r.2.1, r.2.2)) = r.1 ++ (cont (r.1, dot1 r.2.1, r.2.2) ++ txt (rs.map fun r => (r.1, dot1 r.2.1, r.2.2))) := by unfold txt; simp
    rw [e1, e2, q1_end he, q1_cont g, ih]
theorem q1_txt {r : Row} {rs : List Row} (h0 : r.1 = []) (g0 : GoodN r) (h : ∀ r ∈ rs, GoodN r ∧ okN r.1) : q1 true (txt (r :: rs)) = txt ((r :: rs).map fun r => (r.1, dot1 r.2.1, r.2.2)) := by
  have e1 : txt (r :: rs) = r.1 ++ (cont r ++ txt rs) := by unfold txt; simp
  have e2 : txt ((r :: rs).map fun r => (r.1, dot1 r.2.1, r.2.2)) = r.1 ++ (cont (r.1, dot1 r.2.1, r.2.2) ++ txt (rs.map fun r => (r.1, dot1 r.2.1, r.2.2))) := by unfold txt; simp
  rw [e1, e2, h0, List.nil_append, List.nil_append, q1_cont g0, q1_rest rs h, h0]
end Mine
end

section
set_option maxRecDepth 100000
set_option linter.unusedVariables false
set_option linter.unusedSimpArgs false
namespace Mine
open PySem PySem.W PySem.Calls PyProof.Rows

/-! how the signs are folded -/
noncomputable def okFold (c : Nat) (l : List Nat) : Bool := foldOf c == l && !decide ((c : Int) ∈ b1L)
noncomputable def rowLetters : List Nat := [102, 107, 109, 110, 112, 118, 119, 122]
theorem k_form0 : rowLetters.all (fun c => okFold (formOf c 0) [c]) = true := by decide +kernel
theorem k_form1 : rowLetters.all (fun c => okFold (formOf c 1) [c]) = true := by decide +kernel
theorem k_form2 : rowLetters.all (fun c => okFold (formOf c 2) [c]) = true := by decide +kernel
theorem k_form3 : rowLetters.all (fun c => okFold (formOf c 3) [c]) = true := by decide +kernel
theorem k_form4 : rowLetters.all (fun c => okFold (formOf c 4) [c]) = true := by decide +kernel
theorem k_form5 : rowLetters.all (fun c => okFold (formOf c 5) [c]) = true := by decide +kernel
theorem k_form6 : rowLetters.all (fun c => okFold (formOf c 6) [c]) = true := by decide +kernel
theorem k_form7 : rowLetters.all (fun c => okFold (formOf c 7) [c]) = true := by decide +kernel
theorem k_form8 : rowLetters.all (fun c => okFold (formOf c 8) [c]) = true := by decide +kernel
theorem k_form9 : rowLetters.all (fun c => okFold (formOf c 9) [c]) = true := by decide +kernel
theorem k_form10 : rowLetters.all (fun c => okFold (formOf c 10) [c]) = true := by decide +kernel
theorem k_form11 : rowLetters.all (fun c => okFold (formOf c 11) [c]) = true := by decide +kernel
theorem k_bes0 : (List.range 8).all (fun m => okFold ((besideL[m + 0]?).getD 0).toNat [((besideL[m + 0]?).getD 0).toNat]) = true := by decide +kernel
theorem k_bes8 : (List.range 8).all (fun m => okFold ((besideL[m + 8]?).getD 0).toNat [((besideL[m + 8]?).getD 0).toNat]) = true := by decide +kernel
theorem k_bes16 : (List.range 8).all (fun m => okFold ((besideL[m + 16]?).getD 0).toNat [((besideL[m + 16]?).getD 0).toNat]) = true := by decide +kernel
theorem k_ten : okFold 10 [10] = true := by decide +kernel
theorem k_thirteen : okFold 13 [13] = true := by decide +kernel
theorem k_dot : okFold 46 [46] = true := by decide +kernel
theorem k_F : okFold 70 [102] = true := by decide +kernel
noncomputable def okSev : List Nat → Bool
  | c :: t => okFold c t
  | [] => false
theorem k_sev : severalL.all okSev = true := by decide +kernel
theorem k_unseen : (List.range 27).all (fun m => decide ((unseenL[m]?).getD 0 ∈ b1L) && decide (200 ≤ (unseenL[m]?).getD 0 ∨ (unseenL[m]?).getD 0 = 173)) = true := by decide +kernel
theorem k_beside : (List.range 24).all (fun m => ((besideL[m]?).getD 0) != 10 && ((besideL[m]?).getD 0) != 13 && ((besideL[m]?).getD 0) != 46 && decide (0 ≤ (besideL[m]?).getD 0)) = true := by decide +kernel
theorem k_sevl : severalL.all (fun l => l.tail.all fun c => lettersL.contains c) = true := by decide +kernel
theorem fold_form (c : Nat) (hc : c ∈ rowLetters) (n : Int) (h0 : 0 ≤ n) (h12 : n < 12) : okFold (formOf c n) [c] = true := by
  have h : n = 0 ∨ n = 1 ∨ n = 2 ∨ n = 3 ∨ n = 4 ∨ n = 5 ∨ n = 6 ∨ n = 7 ∨ n = 8 ∨ n = 9 ∨ n = 10 ∨ n = 11 := by (first | lia | omega)
  rcases h with rfl | rfl | rfl | rfl | rfl | rfl | rfl | rfl | rfl | rfl | rfl | rfl
  · exact List.all_eq_true.mp k_form0 c hc
  · exact List.all_eq_true.mp k_form1 c hc
  · exact List.all_eq_true.mp k_form2 c hc
  · exact List.all_eq_true.mp k_form3 c hc
  · exact List.all_eq_true.mp k_form4 c hc
  · exact List.all_eq_true.mp k_form5 c hc
  · exact List.all_eq_true.mp k_form6 c hc
  · exact List.all_eq_true.mp k_form7 c hc
  · exact List.all_eq_true.mp k_form8 c hc
  · exact List.all_eq_true.mp k_form9 c hc
  · exact List.all_eq_true.mp k_form10 c hc
  · exact List.all_eq_true.mp k_form11 c hc
theorem fold_beside (n : Int) : okFold (besideOf n) [besideOf n] = true := by
  have h0 : 0 ≤ n % 24 := Int.emod_nonneg _ (by decide)
  have h1 : n % 24 < 24 := Int.emod_lt_of_pos _ (by decide)
  unfold besideOf
  generalize hm : (n % 24).toNat = m
  have hm24 : m < 24 := by (first | lia | omega)
  by_cases a : m < 8
  · have := List.all_eq_true.mp k_bes0 m (List.mem_range.mpr a)
    simpa using this
  · by_cases b : m < 16
    · have := List.all_eq_true.mp k_bes8 (m - 8) (List.mem_range.mpr (by (first | lia | omega)))
      rw [show m - 8 + 8 = m by (first | lia | omega)] at this
      exact this
    · have := List.all_eq_true.mp k_bes16 (m - 16) (List.mem_range.mpr (by (first | lia | omega)))
      rw [show m - 16 + 16 = m by (first | lia | omega)] at this
      exact this
theorem beside_is (n : Int) : besideOf n ≠ 10 ∧ besideOf n ≠ 13 ∧ besideOf n ≠ 46 := by
  have h0 : 0 ≤ n % 24 := Int.emod_nonneg _ (by decide)
  have h1 : n % 24 < 24 := Int.emod_lt_of_pos _ (by decide)
  have := List.all_eq_true.mp k_beside (n % 24).toNat (List.mem_range.mpr (by (first | lia | omega)))
  unfold besideOf
  simp only [Bool.and_eq_true, bne_iff_ne, ne_eq, decide_eq_true_eq] at this
  (first | lia | omega)
theorem unseen_is (n : Int) : ((unseenOf n : Nat) : Int) ∈ b1L ∧ unseenOf n ≠ 10 ∧ unseenOf n ≠ 13 ∧ unseenOf n ≠ 46 := by
  have h0 : 0 ≤ n % 27 := Int.emod_nonneg _ (by decide)
  have h1 : n % 27 < 27 := Int.emod_lt_of_pos _ (by decide)
  have := List.all_eq_true.mp k_unseen (n % 27).toNat (List.mem_range.mpr (by (first | lia | omega)))
  unfold unseenOf
  simp only [Bool.and_eq_true, decide_eq_true_eq] at this
  obtain ⟨h2, h3⟩ := this
  generalize (unseenL[(n % 27).toNat]?).getD 0 = x at *
  rw [Int.toNat_of_nonneg (by (first | lia | omega))]
  refine ⟨h2, ?_, ?_, ?_⟩ <;> (first | lia | omega)
theorem form_is (c : Nat) (h : 97 ≤ c) (n : Int) : formOf c n ≠ 10 ∧ formOf c n ≠ 13 ∧ formOf c n ≠ 46 := by
  unfold formOf
  split
  · (first | lia | omega)
  · split <;> (first | lia | omega)
theorem keptL_append (a b : List Nat) : keptL (a ++ b) = keptL a ++ keptL b := by unfold keptL; rw [List.filter_append, List.map_append]
theorem keptL_cons (c : Nat) (b : List Nat) : keptL (c :: b) = (if decide ((c : Int) ∈ b1L) = true then [] else [foldOf c]) ++ keptL b := by
  rw [show c :: b = [c] ++ b from rfl, keptL_append]
  congr 1
  unfold keptL
  cases h : decide ((c : Int) ∈ b1L) with
  | true => simp [h]
  | false => simp [h]
theorem okFold_kept {c : Nat} {l : List Nat} (h : okFold c l = true) : keptL [c] = [l] ∧ foldOf c = l := by
  unfold okFold at h
  rw [Bool.and_eq_true] at h
  have h1 : foldOf c = l := by simpa using h.1
  have h2 : decide ((c : Int) ∈ b1L) = false := by simpa using h.2
  refine ⟨?_, h1⟩
  rw [keptL_cons, h2, if_neg Bool.false_ne_true, h1]; rfl
theorem unseen_kept (n : Int) : keptL [unseenOf n] = [] := by
  rw [keptL_cons, if_pos (by simpa using (unseen_is n).1)]; rfl
end Mine
end

section
set_option maxRecDepth 100000
set_option linter.unusedVariables false
set_option linter.unusedSimpArgs false
namespace Mine
open PySem PySem.W PySem.Calls PyProof.Rows

theorem txt_len (B : Nat) : ∀ rs : List Row, (∀ r ∈ rs, (r.1 ++ cont r).length ≤ B) → (txt rs).length ≤ B * rs.length
  | [], _ => Nat.zero_le _
  | r :: rs, h => by
    have h1 := h r List.mem_cons_self
    have h2 := txt_len B rs fun x hx => h x (List.mem_cons_of_mem _ hx)
    have e1 : txt (r :: rs) = (r.1 ++ cont r) ++ txt rs := by unfold txt; simp
    rw [e1, List.length_append, List.length_cons, Nat.mul_succ]
    (first | lia | omega)
noncomputable def KF (l : List Nat) : List Nat := (keptL l).flatten
theorem kf_append (a b : List Nat) : KF (a ++ b) = KF a ++ KF b := by unfold KF; rw [keptL_append, List.flatten_append]
theorem kf_fix {c : Nat} {l : List Nat} (h : okFold c l = true) : KF [c] = l := by
  unfold KF
  rw [(okFold_kept h).1]; simp
theorem kf_all (l : List Nat) (h : ∀ c ∈ l, KF [c] = [c]) : KF l = l := by
  induction l with
  | nil => rfl
  | cons c l ih =>
    rw [show c :: l = [c] ++ l from rfl, kf_append, h c List.mem_cons_self, ih fun x hx => h x (List.mem_cons_of_mem _ hx)]
theorem kf_txt (f : Row → List Nat) : ∀ rs : List Row, (∀ r ∈ rs, KF r.1 = r.1 ∧ KF r.2.2 = f r) → KF (txt rs) = txt (rs.map fun r => (r.1, r.2.1, f r))
  | [], _ => rfl
  | r :: rs, h => by
    have ih := kf_txt f rs fun x hx => h x (List.mem_cons_of_mem _ hx)
    obtain ⟨h1, h2⟩ := h r List.mem_cons_self
    have e1 : txt (r :: rs) = r.1 ++ (cont r ++ txt rs) := by unfold txt; simp
    have e2 : txt ((r :: rs).map fun r => (r.1, r.2.1, f r)) = r.1 ++ (cont (r.1, r.2.1, f r) ++ txt (rs.map fun r => (r.1, r.2.1, f r))) := by unfold txt; simp
    rw [e1, e2, kf_append, kf_append, ih, h1]
    unfold cont
    rw [kf_append, h2, kf_all (List.replicate r.2.1 46) fun c hc => by
      obtain ⟨_, rfl⟩ := List.mem_replicate.mp hc
      exact kf_fix k_dot]
/-- a sign that is left out, or is folded to few -/
noncomputable def OkC (c : Nat) : Prop := decide ((c : Int) ∈ b1L) = false → (foldOf c).length ≤ 1000
theorem okC_of {c : Nat} {l : List Nat} (h : okFold c l = true) (hl : l.length ≤ 1000) : OkC c := fun _ => by rw [(okFold_kept h).2]; exact hl
theorem okC_unseen (n : Int) : OkC (unseenOf n) := fun h => by
  rw [decide_eq_true (unseen_is n).1] at h; cases h

section
variable {cs : List Int} (O : OrdOk (lDrawn cs) (lOrder cs)) (hlet : ∀ c ∈ lRows cs, c ∈ rowLetters)
noncomputable def nmK (cs : List Int) (k : Nat) : List Nat := [unseenOf (lTotal cs / 3 + 5 * (k : Nat)), formOf ((lRows cs).getD k 0) ((lTotal cs / 3 + (k : Nat)) % 12), besideOf (lTotal cs + 5 * (k : Nat)), 46]
noncomputable def foK (cs : List Int) (k : Nat) : List Nat := [(lRows cs).getD k 0, besideOf (lTotal cs + 5 * (k : Nat)), 46]
noncomputable def enK (cs : List Int) (k : Nat) : List Nat := (lEnds cs).getD k []
theorem getD_map_range {α : Type} (f : Nat → α) (n k : Nat) (x : α) (h : k < n) : ((List.range n).map f).getD k x = f k := by simp [h]
theorem rowsOf_eq (E : List (List Nat)) (D : List Nat) (f : Nat → List Nat) (n : Nat) : rowsOf E D ((List.range n).map f) = (List.range n).map fun k => (E.getD k [], D.getD k 0, f k) := by
  unfold rowsOf
  rw [List.length_map, List.length_range]
  refine List.map_congr_left fun k hk => ?_
  rw [getD_map_range f n k [] (List.mem_range.mp hk)]
include hlet
theorem row_letter (k : Nat) (h : k < (lRows cs).length) : (lRows cs).getD k 0 ∈ rowLetters := hlet _ (by simp [h])
theorem nm_good (k : Nat) (h : k < (lRows cs).length) (e : List Nat) (a : Nat) : GoodN (e, a, nmK cs k) := by
  have hu := unseen_is (lTotal cs / 3 + 5 * (k : Nat))
  have hb := beside_is (lTotal cs + 5 * (k : Nat))
  have hl := row_letter hlet k h
  have h97 : 97 ≤ (lRows cs).getD k 0 := by
    have : ∀ c ∈ rowLetters, 97 ≤ c := by decide
    exact this _ hl
  have hf := form_is ((lRows cs).getD k 0) h97 ((lTotal cs / 3 + (k : Nat)) % 12)
  refine ⟨fun c hc => ?_, ⟨_, _, rfl, hu.2.2.2⟩⟩
  unfold nmK at hc
  simp only [List.mem_cons, List.not_mem_nil, or_false] at hc
  rcases hc with rfl | rfl | rfl | rfl
  · exact ⟨hu.2.1, hu.2.2.1⟩
  · exact ⟨hf.1, hf.2.1⟩
  · exact ⟨hb.1, hb.2.1⟩
  · decide
theorem nm_fold (k : Nat) (h : k < (lRows cs).length) : KF (nmK cs k) = foK cs k := by
  have hl := row_letter hlet k h
  have m0 := Int.emod_nonneg (lTotal cs / 3 + (k : Nat)) (b := 12) (by decide)
  have m1 := Int.emod_lt_of_pos (lTotal cs / 3 + (k : Nat)) (b := 12) (by decide)
  have e : nmK cs k = [unseenOf (lTotal cs / 3 + 5 * (k : Nat))] ++ ([formOf ((lRows cs).getD k 0) ((lTotal cs / 3 + (k : Nat)) % 12)] ++ ([besideOf (lTotal cs + 5 * (k : Nat))] ++ [46])) := rfl
  rw [e, kf_append, kf_append, kf_append, kf_fix (fold_form _ hl _ m0 m1), kf_fix (fold_beside _), kf_fix k_dot]
  have hu : KF [unseenOf (lTotal cs / 3 + 5 * (k : Nat))] = [] := by unfold KF; rw [unseen_kept]; rfl
  rw [hu]; rfl
theorem nm_okC (k : Nat) (h : k < (lRows cs).length) : ∀ c ∈ nmK cs k, OkC c := fun c hc => by
  have hl := row_letter hlet k h
  have m0 := Int.emod_nonneg (lTotal cs / 3 + (k : Nat)) (b := 12) (by decide)
  have m1 := Int.emod_lt_of_pos (lTotal cs / 3 + (k : Nat)) (b := 12) (by decide)
  unfold nmK at hc
  simp only [List.mem_cons, List.not_mem_nil, or_false] at hc
  rcases hc with rfl | rfl | rfl | rfl
  · exact okC_unseen _
  · exact okC_of (fold_form _ hl _ m0 m1) (by simp)
  · exact okC_of (fold_beside _) (by simp)
  · exact okC_of k_dot (by simp)
omit hlet
theorem kinds5 : ∀ x ∈ lKinds cs, x < 5 := fun x hx => by
  unfold lKinds at hx
  obtain ⟨j, _, rfl⟩ := List.mem_map.mp hx
  have h1 := Int.emod_nonneg (lTotal cs / 9 + (1 + (j : Nat))) (b := 5) (by decide)
  have h2 := Int.emod_lt_of_pos (lTotal cs / 9 + (1 + (j : Nat))) (b := 5) (by decide)
  (first | lia | omega)
theorem ends_zero : enK cs 0 = [] := rfl
theorem ends_at (k : Nat) (h : k + 1 < (lRows cs).length) : ∃ kind, kind < 5 ∧ enK cs (k + 1) = (if kind < 3 then [13, 10] else [13, 10, 13, 10]) ∧ (lEnds0 cs).getD (k + 1) [] = endsT.getD kind [] := by
  have hl : (lKinds cs).length = (lRows cs).length - 1 := by unfold lKinds; simp
  have hk : k < (lKinds cs).length := by (first | lia | omega)
  refine ⟨(lKinds cs)[k], kinds5 _ (List.getElem_mem hk), ?_, ?_⟩
  · unfold enK lEnds
    simp [hk]
  · unfold lEnds0
    simp [hk]
theorem ends_okN (k : Nat) (h : k + 1 < (lRows cs).length) : okN (enK cs (k + 1)) := by
  obtain ⟨kind, _, e, _⟩ := ends_at k h
  rw [e]
  split
  · exact .inl rfl
  · exact .inr rfl
theorem ends_ok (k : Nat) (h : k < (lRows cs).length) : okE (enK cs k) ∧ normE (enK cs k) = enK cs k ∧ (enK cs k).length ≤ 4 ∧ (∀ c ∈ enK cs k, c = 13 ∨ c = 10) := by
  cases k with
  | zero => rw [ends_zero]; exact ⟨.inl rfl, rfl, by decide, by decide⟩
  | succ k =>
    rcases ends_okN k h with e | e <;> rw [e]
    · exact ⟨.inr (.inr (.inr (.inl rfl))), rfl, by decide, by decide⟩
    · exact ⟨.inr (.inr (.inr (.inr (.inr (.inr rfl))))), rfl, by decide, by decide⟩
theorem ends0_ok (k : Nat) (h : k < (lRows cs).length) : okE ((lEnds0 cs).getD k []) ∧ normE ((lEnds0 cs).getD k []) = enK cs k ∧ ((lEnds0 cs).getD k []).length ≤ 4 := by
  cases k with
  | zero => exact ⟨.inl rfl, rfl, Nat.zero_le _⟩
  | succ k =>
    obtain ⟨kind, h5, e1, e2⟩ := ends_at k h
    rw [e1, e2]
    have h : kind = 0 ∨ kind = 1 ∨ kind = 2 ∨ kind = 3 ∨ kind = 4 := by (first | lia | omega)
    rcases h with rfl | rfl | rfl | rfl | rfl
    · exact ⟨.inr (.inl rfl), rfl, by decide⟩
    · exact ⟨.inr (.inr (.inl rfl)), rfl, by decide⟩
    · exact ⟨.inr (.inr (.inr (.inl rfl))), rfl, by decide⟩
    · exact ⟨.inr (.inr (.inr (.inr (.inl rfl)))), rfl, by decide⟩
    · exact ⟨.inr (.inr (.inr (.inr (.inr (.inl rfl))))), rfl, by decide⟩
noncomputable def pageR (cs : List Int) (D : List Nat) : List Row := (List.range (lRows cs).length).map fun k => (enK cs k, D.getD k 0, nmK cs k)
noncomputable def pageR0 (cs : List Int) (D : List Nat) : List Row := (List.range (lRows cs).length).map fun k => ((lEnds0 cs).getD k [], D.getD k 0, nmK cs k)
theorem mail_zero : lMail cs 0 = txt (pageR0 cs (lAhead cs)) := by
  show pageOf (lEnds0 cs) (lAhead cs) (lNames cs) = _
  rw [page_txt]
  exact congrArg txt (rowsOf_eq _ _ (nmK cs) _)
theorem mail_succ (j : Nat) : lMail cs (j + 1) = txt (pageR cs (moreOf (lAhead cs) (j + 1))) := by
  show pageOf (lEnds cs) (moreOf (lAhead cs) (j + 1)) (lNames cs) = _
  rw [page_txt]
  exact congrArg txt (rowsOf_eq _ _ (nmK cs) _)
theorem page_is : lPage cs = txt ((List.range (lRows cs).length).map fun k => (enK cs k, (lDots cs).getD k 0, foK cs k)) := by
  show pageOf (lEnds cs) (lDots cs) (lFolded cs) = _
  rw [page_txt]
  exact congrArg txt (rowsOf_eq _ _ (foK cs) _)
include hlet
theorem q2_mail (D : List Nat) : q2 false (txt (pageR cs D)) = txt (pageR cs D) := by
  rw [q2_txt]
  · unfold pageR
    rw [List.map_map]
    refine congrArg txt (List.map_congr_left fun k hk => ?_)
    show (normE (enK cs k), _, _) = _
    rw [(ends_ok k (List.mem_range.mp hk)).2.1]
  · intro r hr
    obtain ⟨k, hk, rfl⟩ := List.mem_map.mp hr
    have hk := List.mem_range.mp hk
    exact ⟨nm_good hlet k hk _ _, (ends_ok k hk).1⟩
theorem q2_mail0 (D : List Nat) : q2 false (txt (pageR0 cs D)) = txt (pageR cs D) := by
  rw [q2_txt]
  · unfold pageR0 pageR
    rw [List.map_map]
    refine congrArg txt (List.map_congr_left fun k hk => ?_)
    show (normE _, _, _) = _
    rw [(ends0_ok k (List.mem_range.mp hk)).2.1]
  · intro r hr
    obtain ⟨k, hk, rfl⟩ := List.mem_map.mp hr
    have hk := List.mem_range.mp hk
    exact ⟨nm_good hlet k hk _ _, (ends0_ok k hk).1⟩
theorem q1_mail (D D' : List Nat) (h1 : 1 ≤ (lRows cs).length) (hD : ∀ k, k < (lRows cs).length → D'.getD k 0 = dot1 (D.getD k 0)) : q1 true (txt (pageR cs D)) = txt (pageR cs D') := by
  obtain ⟨m, hm⟩ : ∃ m, (lRows cs).length = m + 1 := ⟨(lRows cs).length - 1, by (first | lia | omega)⟩
  have e : ∀ D, pageR cs D = (enK cs 0, D.getD 0 0, nmK cs 0) :: (List.range m).map fun k => (enK cs (k + 1), D.getD (k + 1) 0, nmK cs (k + 1)) := fun D => by
    unfold pageR
    rw [hm, List.range_succ_eq_map, List.map_cons, List.map_map]; rfl
  have e' : (pageR cs D).map (fun r => (r.1, dot1 r.2.1, r.2.2)) = pageR cs D' := by
    unfold pageR
    rw [List.map_map]
    refine List.map_congr_left fun k hk => ?_
    show (_, dot1 _, _) = _
    rw [hD k (List.mem_range.mp hk)]
  have hs : ∀ k, k < m → k + 1 < (lRows cs).length := fun k hk => by rw [hm]; exact Nat.succ_lt_succ hk
  have good : ∀ r ∈ (List.range m).map (fun k => (enK cs (k + 1), D.getD (k + 1) 0, nmK cs (k + 1))), GoodN r ∧ okN r.1 := by
    intro r hr
    obtain ⟨k, hk, e⟩ := List.mem_map.mp hr
    have hk2 := hs k (List.mem_range.mp hk)
    have a1 := nm_good hlet (k + 1) hk2 (enK cs (k + 1)) (D.getD (k + 1) 0)
    have a2 := ends_okN (cs := cs) k hk2
    generalize enK cs (k + 1) = x at *
    generalize nmK cs (k + 1) = y at *
    generalize D.getD (k + 1) 0 = z at *
    have e' : (x, z, y) = r := e
    subst e'
    exact ⟨a1, a2⟩
  have g0 : GoodN (enK cs 0, D.getD 0 0, nmK cs 0) := nm_good hlet 0 h1 (enK cs 0) (D.getD 0 0)
  have e2 := q1_txt (r := (enK cs 0, D.getD 0 0, nmK cs 0)) (rs := (List.range m).map fun k => (enK cs (k + 1), D.getD (k + 1) 0, nmK cs (k + 1))) (ends_zero (cs := cs)) g0 good
  rw [← e D, e'] at e2
  exact e2
end
end Mine
end

section
set_option maxRecDepth 100000
set_option linter.unusedVariables false
set_option linter.unusedSimpArgs false
namespace Mine
open PySem PySem.W PySem.Calls PyProof.Rows

/-! a page is split at both signs together -/
noncomputable def Fo : List Nat → Prop
  | [] => True
  | c :: t => (c = 13 → t.head? = some 10) ∧ Fo t
noncomputable def posR : Nat → List Nat → List Nat
  | _, [] => []
  | i, c :: t => if c = 13 then i :: posR (i + 1) t else posR (i + 1) t
noncomputable def sp : Bool → List Nat → List Nat → List (List Nat)
  | _, acc, [] => [acc]
  | true, _, _ :: t => sp false [] t
  | false, acc, c :: t => if c = 13 then acc :: sp true [] t else sp false (acc ++ [c]) t
theorem sub_at {pre rest : List Nat} (h : Fo rest) : Builtin.Str.subAt (T_ (pre ++ rest)) (T_ [13, 10]) pre.length = (rest.head? == some 13) := by
  have e : Builtin.Str.subAt (T_ (pre ++ rest)) (T_ [13, 10]) pre.length = ((rest.take 2) == [13, 10]) := by
    show ((pre ++ rest).toArray.extract pre.length (pre.length + 2) == #[13, 10]) = _
    have : (pre ++ rest).toArray.extract pre.length (pre.length + 2) = (rest.take 2).toArray := by
      apply Array.ext'
      simp [List.extract_eq_take_drop]
    rw [this]
    rw [Bool.eq_iff_iff, beq_iff_eq, beq_iff_eq]
    constructor
    · intro q; exact congrArg Array.toList q
    · intro q; rw [q]
  rw [e]
  cases rest with
  | nil => rfl
  | cons c t =>
    by_cases hc : c = 13
    · subst hc
      have := h.1 rfl
      cases t with
      | nil => simp at this
      | cons d t =>
        simp at this
        subst this; rfl
    · have : ((c :: t).head? == some 13) = false := by simpa using hc
      rw [this]
      cases t with
      | nil => simp
      | cons d t => simp [hc]
theorem occ_scan (n : Nat) : ∀ (rest pre : List Nat) (found : Array Nat) (free : Nat), pre.length + rest.length = n → Fo rest → (free ≤ pre.length ∨ (rest.head? ≠ some 13 ∧ free ≤ pre.length + 1)) → found.size ≤ pre.length →
    (forIn (List.range' pre.length (rest.length + 1)) (found, free) (StrLaws.occBody (T_ (pre ++ rest)) (T_ [13, 10]) n (n + 1))).run.fst.toList = found.toList ++ posR pre.length rest
  | [], pre, found, free, hn, hf, hfr, hsz => by
    rw [List.length_nil, List.range'_succ, List.forIn_cons]
    have hs := sub_at (pre := pre) (rest := []) trivial
    unfold StrLaws.occBody
    rw [hs, if_neg (by simp)]
    simp [posR]
  | c :: t, pre, found, free, hn, hf, hfr, hsz => by
    have hs := sub_at (pre := pre) hf
    have e1 : pre ++ c :: t = (pre ++ [c]) ++ t := by simp
    have el : (pre ++ [c]).length = pre.length + 1 := by simp
    rw [List.length_cons, List.range'_succ, List.forIn_cons]
    by_cases hc : c = 13
    · have hh : ((c :: t).head? == some 13) = true := by rw [hc]; rfl
      rw [hh] at hs
      have hfree : free ≤ pre.length := by
        rcases hfr with h | h
        · exact h
        · exact absurd (by rw [hc]; rfl) h.1
      have ht := hf.1 hc
      have htl : 1 ≤ t.length := by
        cases t with
        | nil => simp at ht
        | cons d t => simp
      have hn2 : pre.length + (T_ [13, 10]).length ≤ n := by
        show pre.length + 2 ≤ n
        rw [← hn, List.length_cons]; (first | lia | omega)
      have ih := occ_scan n t (pre ++ [c]) (found.push pre.length) (pre.length + 2) (by rw [el]; rw [List.length_cons] at hn; (first | lia | omega)) hf.2 (.inr ⟨by rw [ht]; decide, by rw [el]; exact Nat.le_refl _⟩) (by rw [el, Array.size_push]; (first | lia | omega))
      rw [el, ← e1] at ih
      have step : StrLaws.occBody (T_ (pre ++ c :: t)) (T_ [13, 10]) n (n + 1) pre.length (found, free) = pure (ForInStep.yield (found.push pre.length, pre.length + 2)) := by
        unfold StrLaws.occBody
        rw [if_pos ⟨⟨⟨by show found.size < n + 1; (first | lia | omega), hfree⟩, hn2⟩, hs⟩]
        rfl
      rw [step]
      refine Eq.trans ih ?_
      rw [Array.toList_push, posR, if_pos hc]
      simp
    · have hh : ((c :: t).head? == some 13) = false := by simpa using hc
      rw [hh] at hs
      have ih := occ_scan n t (pre ++ [c]) found free (by rw [el]; rw [List.length_cons] at hn; (first | lia | omega)) hf.2 (.inl (by rw [el]; rcases hfr with h | h <;> (first | lia | omega))) (by rw [el]; (first | lia | omega))
      rw [el, ← e1] at ih
      have step : StrLaws.occBody (T_ (pre ++ c :: t)) (T_ [13, 10]) n (n + 1) pre.length (found, free) = pure (ForInStep.yield (found, free)) := by
        unfold StrLaws.occBody
        rw [if_neg (fun q => by rw [hs] at q; exact absurd q.2 Bool.false_ne_true)]
      rw [step]
      refine Eq.trans ih ?_
      rw [posR, if_neg hc]
theorem occ_is {l : List Nat} (h : Fo l) : Builtin.Str.occurrences (T_ l) (T_ [13, 10]) 0 (T_ l).length ((T_ l).length + 1) = posR 0 l := by
  rw [StrLaws.occ_eq, T_length, Nat.sub_zero]
  have := occ_scan l.length l [] #[] 0 (by simp) h (.inl (Nat.le_refl _)) (Nat.le_refl _)
  simpa using this
theorem sub_str (l : List Nat) (a b : Nat) : Builtin.Str.strSub (T_ l) a b = T_ ((l.take b).drop a) := by
  unfold Builtin.Str.strSub T_
  congr 1
  apply Array.ext'
  simp [Array.toList_extract, List.extract_eq_take_drop]
  rw [List.drop_take]
theorem parts_scan : ∀ (rest pre : List Nat), (∀ a, a ≤ pre.length → Fo rest → StrLaws.partsFrom (T_ (pre ++ rest)) 2 a (posR pre.length rest) = (sp false (pre.drop a) rest).map T_) ∧
    (Fo rest → rest.head? = some 10 → StrLaws.partsFrom (T_ (pre ++ rest)) 2 (pre.length + 1) (posR pre.length rest) = (sp true [] rest).map T_)
  | [], pre => by
    refine ⟨fun a ha _ => ?_, fun _ h => by simp at h⟩
    show [Builtin.Str.strSub (T_ (pre ++ [])) a (T_ (pre ++ [])).length] = [T_ (pre.drop a)]
    rw [sub_str, T_length, List.append_nil, List.take_length]
  | c :: t, pre => by
    have e1 : pre ++ c :: t = (pre ++ [c]) ++ t := by simp
    have el : (pre ++ [c]).length = pre.length + 1 := by simp
    obtain ⟨ih1, ih2⟩ := parts_scan t (pre ++ [c])
    rw [el] at ih1 ih2
    refine ⟨fun a ha hf => ?_, fun hf h10 => ?_⟩
    · rw [posR, sp]
      by_cases hc : c = 13
      · rw [if_pos hc, if_pos hc]
        show Builtin.Str.strSub (T_ (pre ++ c :: t)) a pre.length :: StrLaws.partsFrom (T_ (pre ++ c :: t)) 2 (pre.length + 2) (posR (pre.length + 1) t) = T_ (pre.drop a) :: (sp true [] t).map T_
        have := ih2 hf.2 (hf.1 hc)
        rw [← e1] at this
        rw [this, sub_str]
        congr 2
        rw [List.take_append_of_le_length (Nat.le_refl _), List.take_length]
      · rw [if_neg hc, if_neg hc]
        have := ih1 a (by (first | lia | omega)) hf.2
        rw [← e1] at this
        rw [this, List.drop_append_of_le_length ha]
    · have hc : c = 10 := by simpa using h10
      rw [posR, if_neg (by (first | lia | omega)), sp]
      have := ih1 (pre.length + 1) (Nat.le_refl _) hf.2
      rw [← e1] at this
      rw [this]
      congr 2
      rw [List.drop_eq_nil_iff]; simp
theorem split_is {l : List Nat} (h : Fo l) : Builtin.Str.partsBetween (T_ l) (Builtin.Str.occurrences (T_ l) (T_ [13, 10]) 0 (T_ l).length ((T_ l).length + 1)) (T_ [13, 10]).length = (sp false [] l).map T_ := by
  rw [occ_is h, StrLaws.partsBetween_eq]
  exact (parts_scan l []).1 0 (Nat.le_refl _) h
theorem posR_ne : ∀ (l : List Nat) (i : Nat), 13 ∈ l → posR i l ≠ []
  | c :: t, i, h => by
    rw [posR]
    split
    · exact List.cons_ne_nil _ _
    · rename_i hc
      rcases List.mem_cons.mp h with e | h
      · exact absurd e.symm hc
      · exact posR_ne t (i + 1) h
theorem sp_len : ∀ (l : List Nat) (b : Bool) (acc : List Nat), (sp b acc l).length ≤ l.length + 1 ∧ ∀ x ∈ sp b acc l, x.length ≤ acc.length + l.length
  | [], b, acc => by
    rw [sp]
    exact ⟨by simp, fun x hx => by simp at hx; rw [hx]; simp⟩
  | c :: t, true, acc => by
    obtain ⟨h1, h2⟩ := sp_len t false []
    rw [sp]
    refine ⟨by simp; (first | lia | omega), fun x hx => ?_⟩
    have := h2 x hx
    simp at this ⊢; (first | lia | omega)
  | c :: t, false, acc => by
    rw [sp]
    split
    · obtain ⟨h1, h2⟩ := sp_len t true []
      refine ⟨by simp; (first | lia | omega), fun x hx => ?_⟩
      rcases List.mem_cons.mp hx with rfl | hx
      · simp
      · have := h2 x hx
        simp at this ⊢; (first | lia | omega)
    · obtain ⟨h1, h2⟩ := sp_len t false (acc ++ [c])
      refine ⟨by simp; (first | lia | omega), fun x hx => ?_⟩
      have := h2 x hx
      simp at this ⊢; (first | lia | omega)
theorem sp_clean : ∀ (X Y acc : List Nat), Clean X → sp false acc (X ++ Y) = sp false (acc ++ X) Y
  | [], Y, acc, _ => by simp
  | c :: X, Y, acc, h => by
    have hc := h c List.mem_cons_self
    show sp false acc (c :: (X ++ Y)) = _
    rw [sp, if_neg hc.2, sp_clean X Y (acc ++ [c]) fun x hx => h x (List.mem_cons_of_mem _ hx)]
    simp
theorem sp_txt : ∀ (rs : List Row) (acc : List Nat), acc ≠ [] → (∀ r ∈ rs, Clean (cont r) ∧ cont r ≠ [] ∧ okN r.1) → (sp false acc (txt rs)).filter (fun r => r != []) = acc :: rs.map cont
  | [], acc, ha, _ => by
    show (sp false acc []).filter _ = _
    rw [sp, List.filter_cons, if_pos (by simpa using ha)]; rfl
  | r :: rs, acc, ha, h => by
    obtain ⟨h1, h2, h3⟩ := h r List.mem_cons_self
    have ih := sp_txt rs (cont r) h2 fun x hx => h x (List.mem_cons_of_mem _ hx)
    have e1 : txt (r :: rs) = r.1 ++ (cont r ++ txt rs) := by unfold txt; simp
    rw [e1]
    rcases h3 with e | e <;> rw [e]
    · show (sp false acc (13 :: 10 :: (cont r ++ txt rs))).filter _ = _
      rw [sp, if_pos rfl, sp, sp_clean _ _ _ h1, List.filter_cons, if_pos (by simpa using ha), List.nil_append, ih]; rfl
    · show (sp false acc (13 :: 10 :: 13 :: 10 :: (cont r ++ txt rs))).filter _ = _
      rw [sp, if_pos rfl, sp, sp, if_pos rfl, sp, sp_clean _ _ _ h1, List.filter_cons, if_pos (by simpa using ha), List.filter_cons, if_neg (by simp), List.nil_append, ih]; rfl
theorem fo_clean : ∀ (X Y : List Nat), Clean X → Fo Y → Fo (X ++ Y)
  | [], _, _, h => h
  | c :: X, Y, hX, h => ⟨fun e => absurd e (hX c List.mem_cons_self).2, fo_clean X Y (fun x hx => hX x (List.mem_cons_of_mem _ hx)) h⟩
theorem fo_txt : ∀ (rs : List Row), (∀ r ∈ rs, Clean (cont r) ∧ (okN r.1 ∨ r.1 = [])) → Fo (txt rs)
  | [], _ => trivial
  | r :: rs, h => by
    obtain ⟨h1, h2⟩ := h r List.mem_cons_self
    have ih := fo_clean (cont r) (txt rs) h1 (fo_txt rs fun x hx => h x (List.mem_cons_of_mem _ hx))
    have e1 : txt (r :: rs) = r.1 ++ (cont r ++ txt rs) := by unfold txt; simp
    rw [e1]
    rcases h2 with (e | e) | e <;> rw [e]
    · exact ⟨fun _ => rfl, fun q => by simp at q, ih⟩
    · exact ⟨fun _ => rfl, fun q => by simp at q, fun _ => rfl, fun q => by simp at q, ih⟩
    · exact ih
end Mine
end

section
set_option maxRecDepth 100000
set_option linter.unusedVariables false
set_option linter.unusedSimpArgs false
namespace Mine
open PySem PySem.W PySem.Calls PyProof.Rows

/-! the plain facts, all together -/
structure TyOk (p : List Nat × List Nat) : Prop where
  fold : KF p.1 = p.2
  letters : ∀ c ∈ p.2, c ∈ lettersL
  len1 : p.1.length ≤ 1
  len2 : p.2.length ≤ 3
  okc : ∀ c ∈ p.1, OkC c
theorem let_row : ∀ c ∈ lettersL, c ∈ rowLetters ∧ 97 ≤ c ∧ c ≤ 119 := by decide
theorem typed_ok (c : Int) : TyOk (typedOf c) := by
  unfold typedOf
  split
  · have h0 : 0 ≤ c / 4 % 13 := Int.emod_nonneg _ (by decide)
    have h1 : c / 4 % 13 < 13 := Int.emod_lt_of_pos _ (by decide)
    obtain ⟨x, t, e, t1, t2⟩ := several_at (c / 4 % 13).toNat (by (first | lia | omega))
    have em : severalAt (c / 4) = x :: t := by unfold severalAt; rw [e]; rfl
    have hm : (x :: t) ∈ severalL := List.mem_of_getElem? e
    have k1 : okFold x t = true := List.all_eq_true.mp k_sev _ hm
    have k2 := List.all_eq_true.mp k_sevl _ hm
    rw [em]
    refine ⟨kf_fix k1, fun y hy => ?_, by simp, t2, fun y hy => ?_⟩
    · have := List.all_eq_true.mp k2 y hy
      simpa using this
    · have : y = x := by simpa using hy
      subst this
      exact okC_of k1 (by (first | lia | omega))
  · split
    · refine ⟨by unfold KF; rw [unseen_kept]; rfl, fun y hy => by simp at hy, by simp, by simp, fun y hy => ?_⟩
      have : y = unseenOf (c / 4) := by simpa using hy
      subst this
      exact okC_unseen _
    · have h0 : 0 ≤ c / 4 % 7 := Int.emod_nonneg _ (by decide)
      have h1 : c / 4 % 7 < 7 := Int.emod_lt_of_pos _ (by decide)
      have hL : letterAt (c / 4) ∈ lettersL := by
        unfold letterAt
        have : (c / 4 % 7).toNat < lettersL.length := by show (c / 4 % 7).toNat < 7; (first | lia | omega)
        rw [List.getElem?_eq_getElem this]
        exact List.getElem_mem this
      have m0 := Int.emod_nonneg (c / 4 / 7) (b := 12) (by decide)
      have m1 := Int.emod_lt_of_pos (c / 4 / 7) (b := 12) (by decide)
      have k1 := fold_form _ (let_row _ hL).1 _ m0 m1
      refine ⟨kf_fix k1, fun y hy => ?_, by simp, by simp, fun y hy => ?_⟩
      · have : y = letterAt (c / 4) := by simpa using hy
        rw [this]; exact hL
      · have : y = formOf (letterAt (c / 4)) (c / 4 / 7 % 12) := by simpa using hy
        rw [this]; exact okC_of k1 (by simp)
theorem typed_all (cs : List Int) : ∀ p ∈ lTyped cs, TyOk p := fun p hp => by
  unfold lTyped at hp
  rcases List.mem_append.mp hp with h | h
  · obtain ⟨c, _, rfl⟩ := List.mem_map.mp h
    exact typed_ok c
  · have : p = ([70], [102]) := by simpa using h
    subst this
    refine ⟨kf_fix k_F, by decide, by decide, by decide, fun c hc => ?_⟩
    have : c = 70 := by simpa using hc
    subst this
    exact okC_of k_F (by decide)
theorem flat_fold : ∀ ps : List (List Nat × List Nat), (∀ p ∈ ps, TyOk p) → KF (ps.map (·.1)).flatten = (ps.map (·.2)).flatten ∧ (ps.map (·.1)).flatten.length ≤ ps.length ∧ (ps.map (·.2)).flatten.length ≤ 3 * ps.length
  | [], _ => ⟨rfl, Nat.le_refl _, Nat.le_refl _⟩
  | p :: ps, h => by
    obtain ⟨h1, h2, h3⟩ := flat_fold ps fun x hx => h x (List.mem_cons_of_mem _ hx)
    have hp := h p List.mem_cons_self
    have l1 := hp.len1
    have l2 := hp.len2
    simp only [List.map_cons, List.flatten_cons, List.length_append, List.length_cons]
    refine ⟨by rw [kf_append, hp.fold, h1], ?_, ?_⟩ <;> (first | lia | omega)
theorem drawn_letters (cs : List Int) : ∀ c ∈ lDrawn cs, c ∈ lettersL := fun c hc => by
  unfold lDrawn at hc
  obtain ⟨l, hl, hc⟩ := List.mem_flatten.mp hc
  obtain ⟨p, hp, rfl⟩ := List.mem_map.mp hl
  exact (typed_all cs p hp).letters c hc
theorem signs_ok (cs : List Int) : ∀ c ∈ lSigns cs, OkC c := fun c hc => by
  unfold lSigns at hc
  obtain ⟨l, hl, hc⟩ := List.mem_flatten.mp hc
  obtain ⟨p, hp, rfl⟩ := List.mem_map.mp hl
  exact (typed_all cs p hp).okc c hc
theorem drawn_pos (cs : List Int) : 1 ≤ (lDrawn cs).length := by
  have : 102 ∈ lDrawn cs := by
    unfold lDrawn lTyped
    rw [List.map_append, List.flatten_append]
    exact List.mem_append_right _ (by simp)
  exact List.length_pos_of_mem this
theorem cells_five (ns : List Int) : (lCells ns).length = 5 := by unfold lCells; simp
theorem sum_bound : ∀ l : List Int, (∀ x ∈ l, 0 ≤ x ∧ x < 1000000) → 0 ≤ l.sum ∧ l.sum ≤ 1000000 * (l.length : Int)
  | [], _ => by simp
  | x :: l, h => by
    obtain ⟨h1, h2⟩ := sum_bound l fun y hy => h y (List.mem_cons_of_mem _ hy)
    have hx := h x List.mem_cons_self
    rw [List.sum_cons, List.length_cons]
    (first | lia | omega)
theorem cells_bound {ns : List Int} (hn : ns.length ≤ 63) : ∀ c ∈ lCells ns, 0 ≤ c ∧ c < 2 ^ 40 := fun c hc => by
  unfold lCells at hc
  obtain ⟨k, hk, rfl⟩ := List.mem_map.mp hc
  have hk := List.mem_range.mp hk
  have hb : 0 ≤ lBase.getD k 0 ∧ lBase.getD k 0 ≤ 200 := by
    have h : k = 0 ∨ k = 1 ∨ k = 2 ∨ k = 3 ∨ k = 4 := by (first | lia | omega)
    rcases h with rfl | rfl | rfl | rfl | rfl <;> decide
  have hs := sum_bound ((pickL ns (some (k : Nat)) none (some 5)).map (· % 1000000)) fun x hx => by
    obtain ⟨y, _, rfl⟩ := List.mem_map.mp hx
    have h1 := Int.emod_nonneg y (b := 1000000) (by decide)
    have h2 := Int.emod_lt_of_pos y (b := 1000000) (by decide)
    exact ⟨h1, h2⟩
  have hl := pickL_len ns (some (k : Nat)) none (some 5)
  rw [List.length_map] at hs
  (first | lia | omega)
section
variable {cs : List Int} (O : OrdOk (lDrawn cs) (lOrder cs))
include O
theorem rows_row : ∀ c ∈ lRows cs, c ∈ rowLetters := fun c hc => by
  unfold lRows at hc
  rcases List.mem_append.mp hc with h | h
  · obtain ⟨p, hp, rfl⟩ := List.mem_map.mp h
    have := (oo_mem O p).mp hp
    exact (let_row _ (drawn_letters cs _ (by simp [this]))).1
  · obtain ⟨_, rfl⟩ := List.mem_replicate.mp h
    decide
theorem more_dot (j k : Nat) : (moreOf (lAhead cs) (j + 1)).getD k 0 = dot1 ((moreOf (lAhead cs) j).getD k 0) := by
  rw [f_dots O, f_dots O]
  unfold dot1
  generalize (lAhead cs).getD k 0 = a
  split <;> split <;> (first | lia | omega)
theorem ahead_dot (k : Nat) : (moreOf (lAhead cs) 1).getD k 0 = dot1 ((lAhead cs).getD k 0) := by
  rw [f_dots O]; rfl
theorem quote_ok (h1 : 1 ≤ (lRows cs).length) : ∀ j, q2 false (lMail cs j) = txt (pageR cs (if j = 0 then lAhead cs else moreOf (lAhead cs) j)) ∧ q1 true (q2 false (lMail cs j)) = lMail cs (j + 1)
  | 0 => by
    have e := q2_mail0 (rows_row O) (lAhead cs)
    rw [mail_zero, e, mail_succ]
    exact ⟨rfl, q1_mail (rows_row O) _ _ h1 fun k _ => ahead_dot O k⟩
  | j + 1 => by
    have e := q2_mail (rows_row O) (moreOf (lAhead cs) (j + 1))
    rw [mail_succ, e, mail_succ]
    exact ⟨rfl, q1_mail (rows_row O) _ _ h1 fun k _ => more_dot O (j + 1) k⟩
theorem ahead_le (h16 : (lDrawn cs).length ≤ 16) (k : Nat) : (lAhead cs).getD k 0 ≤ 16 := by
  by_cases h : k < (lAhead cs).length
  · have := f_ale O ((lAhead cs).getD k 0) (by simp [h])
    (first | lia | omega)
  · simp [Nat.le_of_not_lt h]
theorem more_le (h16 : (lDrawn cs).length ≤ 16) (j k : Nat) (hj : j ≤ 3) : (moreOf (lAhead cs) j).getD k 0 ≤ 19 := by
  rw [f_dots O]
  have := ahead_le O h16 k
  split <;> (first | lia | omega)
theorem pageR_len (D : List Nat) (hD : ∀ k, D.getD k 0 ≤ 19) (h19 : (lRows cs).length ≤ 19) : (txt (pageR cs D)).length ≤ 1900 := by
  have hl : (pageR cs D).length = (lRows cs).length := by unfold pageR; simp
  refine Nat.le_trans (txt_len 100 _ fun r hr => ?_) (by rw [hl]; (first | lia | omega))
  obtain ⟨k, hk, rfl⟩ := List.mem_map.mp hr
  have h4 := (ends_ok k (List.mem_range.mp hk)).2.2.1
  have hd := hD k
  have hn : (nmK cs k).length = 4 := rfl
  unfold cont
  dsimp only
  rw [List.length_append, List.length_append, List.length_replicate, hn]
  (first | lia | omega)
theorem pageR0_len (D : List Nat) (hD : ∀ k, D.getD k 0 ≤ 19) (h19 : (lRows cs).length ≤ 19) : (txt (pageR0 cs D)).length ≤ 1900 := by
  have hl : (pageR0 cs D).length = (lRows cs).length := by unfold pageR0; simp
  refine Nat.le_trans (txt_len 100 _ fun r hr => ?_) (by rw [hl]; (first | lia | omega))
  obtain ⟨k, hk, rfl⟩ := List.mem_map.mp hr
  have h4 := (ends0_ok k (List.mem_range.mp hk)).2.2
  have hd := hD k
  have hn : (nmK cs k).length = 4 := rfl
  unfold cont
  dsimp only
  rw [List.length_append, List.length_append, List.length_replicate, hn]
  (first | lia | omega)
theorem mail_okC (D : List Nat) : ∀ c ∈ txt (pageR cs D), OkC c := fun c hc => by
  unfold txt at hc
  obtain ⟨l, hl, hc⟩ := List.mem_flatten.mp hc
  obtain ⟨r, hr, rfl⟩ := List.mem_map.mp hl
  obtain ⟨k, hk, rfl⟩ := List.mem_map.mp hr
  have hk := List.mem_range.mp hk
  rcases List.mem_append.mp hc with h | h
  · rcases (ends_ok k hk).2.2.2 c h with rfl | rfl
    · exact okC_of k_thirteen (by decide)
    · exact okC_of k_ten (by decide)
  · unfold cont at h
    rcases List.mem_append.mp h with h | h
    · obtain ⟨_, rfl⟩ := List.mem_replicate.mp h
      exact okC_of k_dot (by decide)
    · exact nm_okC (rows_row O) k hk c h
noncomputable def pageF (cs : List Int) : List Row := (List.range (lRows cs).length).map fun k => (enK cs k, (lDots cs).getD k 0, foK cs k)
theorem fold_page : KF (txt (pageR cs (lDots cs))) = lPage cs := by
  rw [kf_txt (fun r => KF r.2.2)]
  · rw [page_is]
    unfold pageR
    rw [List.map_map]
    refine congrArg txt (List.map_congr_left fun k hk => ?_)
    show (enK cs k, (lDots cs).getD k 0, KF (nmK cs k)) = _
    rw [nm_fold (rows_row O) k (List.mem_range.mp hk)]
  · intro r hr
    obtain ⟨k, hk, rfl⟩ := List.mem_map.mp hr
    refine ⟨kf_all _ fun c hc => ?_, rfl⟩
    rcases (ends_ok k (List.mem_range.mp hk)).2.2.2 c hc with rfl | rfl
    · exact kf_fix k_thirteen
    · exact kf_fix k_ten
theorem fo_cont (k : Nat) (h : k < (lRows cs).length) (e : List Nat) (a : Nat) : Clean (cont (e, a, foK cs k)) ∧ cont (e, a, foK cs k) ≠ [] ∧ countL (cont (e, a, foK cs k)) 46 = a + 1 := by
  have hl := row_letter (rows_row O) k h
  have h97 : 97 ≤ (lRows cs).getD k 0 := by
    have : ∀ c ∈ rowLetters, 97 ≤ c := by decide
    exact this _ hl
  have hb := beside_is (lTotal cs + 5 * (k : Nat))
  unfold cont foK
  dsimp only
  generalize (lRows cs).getD k 0 = x at *
  generalize besideOf (lTotal cs + 5 * (k : Nat)) = y at *
  refine ⟨fun c hc => ?_, by simp, ?_⟩
  · rcases List.mem_append.mp hc with hc | hc
    · obtain ⟨_, rfl⟩ := List.mem_replicate.mp hc; decide
    · simp only [List.mem_cons, List.not_mem_nil, or_false] at hc
      rcases hc with rfl | rfl | rfl
      · constructor <;> (first | lia | omega)
      · exact ⟨hb.1, hb.2.1⟩
      · decide
  · unfold countL
    rw [List.filter_append, List.length_append, List.filter_cons, if_neg (by simp; (first | lia | omega)), List.filter_cons, if_neg (by simp; (first | lia | omega))]
    have : (List.replicate a 46).filter (· == 46) = List.replicate a 46 := List.filter_eq_self.mpr fun c hc => by
      obtain ⟨_, rfl⟩ := List.mem_replicate.mp hc; rfl
    rw [this]; simp
omit O in
theorem map_getD {N : Nat} (D : List Nat) (f : Nat → Nat) (hD : D.length = N) (h : ∀ k, k < N → f k = D.getD k 0 + 1) : (List.range N).map f = D.map (· + 1) := by
  subst hD
  refine List.ext_getElem (by simp) fun k h1 h2 => ?_
  have hk : k < D.length := by simpa using h1
  rw [List.getElem_map, List.getElem_map, List.getElem_range, h k hk]
  simp [hk]
omit O in
theorem split_gen (e g : Nat → List Nat) (d : Nat → Nat) (m : Nat) (h0 : e 0 = []) (h : ∀ k, k + 1 < m + 2 → okN (e (k + 1))) : ∃ r0 rs, (List.range (m + 2)).map (fun k => ((e k, d k, g k) : Row)) = r0 :: rs ∧ r0.1 = [] ∧ (∀ r ∈ rs, okN r.1) ∧ rs ≠ [] := by
  refine ⟨(e 0, d 0, g 0), (List.range (m + 1)).map fun k => (e (k + 1), d (k + 1), g (k + 1)), ?_, h0, fun r hr => ?_, by simp⟩
  · rw [List.range_succ_eq_map, List.map_cons, List.map_map]; rfl
  · obtain ⟨k, hk, rfl⟩ := List.mem_map.mp hr
    exact h k (Nat.succ_lt_succ (List.mem_range.mp hk))
omit O in
theorem count_gen {N : Nat} (en fo : Nat → List Nat) (dd : List Nat) (hdl : dd.length = N) (hq : ∀ k, k < N → countL (cont (en k, dd.getD k 0, fo k)) 46 = dd.getD k 0 + 1) : ((List.range N).map fun k => ((en k, dd.getD k 0, fo k) : Row)).map (fun r => countL (cont r) 46) = dd.map (· + 1) := by
  rw [List.map_map]
  exact map_getD _ _ hdl hq
structure PageOk (l D : List Nat) : Prop where
  len : l.length ≤ 1900
  two : 2 ≤ l.length
  fo : Fo l
  mem : 13 ∈ l
  parts : ((sp false [] l).filter fun r => r != []).map (fun r => countL r 46) = D
omit O in
theorem page_gen (P : List Row) (D : List Nat) (hlen : (txt P).length ≤ 1900) (hrow : ∀ r ∈ P, Clean (cont r) ∧ cont r ≠ [] ∧ (okN r.1 ∨ r.1 = []))
    (hsplit : ∃ r0 rs, P = r0 :: rs ∧ r0.1 = [] ∧ (∀ r ∈ rs, okN r.1) ∧ rs ≠ []) (hcnt : P.map (fun r => countL (cont r) 46) = D) :
    PageOk (txt P) D := by
  obtain ⟨r0, rs, e, e0, hrs, hne⟩ := hsplit
  have hr0 := hrow r0 (by rw [e]; exact List.mem_cons_self)
  have hrr : ∀ r ∈ rs, Clean (cont r) ∧ cont r ≠ [] ∧ okN r.1 := fun r hr => by
    have := hrow r (by rw [e]; exact List.mem_cons_of_mem _ hr)
    exact ⟨this.1, this.2.1, hrs r hr⟩
  have et : txt (r0 :: rs) = cont r0 ++ txt rs := by unfold txt; rw [List.map_cons, List.flatten_cons, e0, List.nil_append]
  have h13 : 13 ∈ txt rs ∧ 2 ≤ (txt rs).length := by
    cases rs with
    | nil => exact absurd rfl hne
    | cons r rs =>
      have er : txt (r :: rs) = r.1 ++ (cont r ++ txt rs) := by unfold txt; simp
      rw [er]
      rcases hrs r List.mem_cons_self with q | q <;> rw [q]
      · exact ⟨by simp, by simp⟩
      · exact ⟨by simp, by simp⟩
  refine ⟨hlen, ?_, fo_txt _ fun r hr => ⟨(hrow r hr).1, (hrow r hr).2.2⟩, ?_, ?_⟩
  · rw [e, et, List.length_append]; (first | lia | omega)
  · rw [e, et]; exact List.mem_append_right _ h13.1
  · rw [← hcnt, e, et, sp_clean _ _ _ hr0.1, List.nil_append, sp_txt rs _ hr0.2.1 hrr, List.map_cons, List.map_cons, List.map_map]
    rfl
theorem page_facts (h2 : 2 ≤ (lRows cs).length) (h19 : (lRows cs).length ≤ 19) (hD : ∀ k, (lDots cs).getD k 0 ≤ 19) : PageOk (lPage cs) ((lDots cs).map (· + 1)) := by
  obtain ⟨m, hm⟩ : ∃ m, (lRows cs).length = m + 2 := ⟨(lRows cs).length - 2, by (first | lia | omega)⟩
  have hp : lPage cs = txt (pageF cs) := page_is
  have hrow : ∀ r ∈ pageF cs, Clean (cont r) ∧ cont r ≠ [] ∧ (okN r.1 ∨ r.1 = []) := by
    intro r hr
    obtain ⟨k, hk, e⟩ := List.mem_map.mp hr
    have hk := List.mem_range.mp hk
    obtain ⟨a1, a2, _⟩ := fo_cont O k hk (enK cs k) ((lDots cs).getD k 0)
    have a3 : okN (enK cs k) ∨ enK cs k = [] := by
      cases k with
      | zero => exact .inr ends_zero
      | succ k => exact .inl (ends_okN k hk)
    rw [← e]
    exact ⟨a1, a2, a3⟩
  have hl : (pageF cs).length = (lRows cs).length := by unfold pageF; simp
  have hsplit : ∃ r0 rs, pageF cs = r0 :: rs ∧ r0.1 = [] ∧ (∀ r ∈ rs, okN r.1) ∧ rs ≠ [] := by
    have hz : enK cs 0 = [] := ends_zero (cs := cs)
    have hs : ∀ k, k + 1 < m + 2 → okN (enK cs (k + 1)) := by rw [← hm]; exact ends_okN (cs := cs)
    unfold pageF
    rw [hm]
    generalize enK cs = en at hz hs ⊢
    generalize foK cs = fo
    generalize lDots cs = dd
    exact split_gen en fo (fun k => dd.getD k 0) m hz hs
  have hcnt : (pageF cs).map (fun r => countL (cont r) 46) = (lDots cs).map (· + 1) := by
    have hdl : (lDots cs).length = (lRows cs).length := f_dlen O
    have hq := fun k hk => (fo_cont O k hk (enK cs k) ((lDots cs).getD k 0)).2.2
    unfold pageF
    generalize enK cs = en at hq ⊢
    generalize foK cs = fo at hq ⊢
    generalize lDots cs = dd at hdl hq ⊢
    generalize (lRows cs).length = N at hdl hq ⊢
    exact count_gen en fo dd hdl hq
  have hlen : (txt (pageF cs)).length ≤ 1900 := by
    refine Nat.le_trans (txt_len 100 _ fun r hr => ?_) (by rw [hl]; (first | lia | omega))
    obtain ⟨k, hk, e⟩ := List.mem_map.mp hr
    have h4 := (ends_ok k (List.mem_range.mp hk)).2.2.1
    have hd := hD k
    have hn : (foK cs k).length = 3 := rfl
    rw [← e]
    unfold cont
    dsimp only
    rw [List.length_append, List.length_append, List.length_replicate, hn]
    (first | lia | omega)
  rw [hp]
  generalize pageF cs = P at hlen hrow hsplit hcnt ⊢
  exact page_gen P _ hlen hrow hsplit hcnt
end
theorem sepk_gen {l D : List Nat} (P : PageOk l D) : (decide ((T_ l).length < (T_ [13, 10]).length) || decide (Builtin.Str.strKind (T_ l) < Builtin.Str.strKind (T_ [13, 10]))) = false := by
  have h := P.two
  refine Bool.or_eq_false_iff.mpr ⟨decide_eq_false ?_, decide_eq_false ?_⟩
  · rw [T_length, T_length]
    have e : ([13, 10] : List Nat).length = 2 := rfl
    rw [e]; (first | lia | omega)
  · have e : Builtin.Str.strKind (T_ [13, 10]) = 1 := by decide +kernel
    rw [e]
    generalize T_ l = t
    unfold Builtin.Str.strKind
    split
    · decide
    · split <;> decide
theorem sepf_gen {l D : List Nat} (P : PageOk l D) : (Builtin.Str.occurrences (T_ l) (T_ [13, 10]) 0 (T_ l).length ((T_ l).length + 1)).isEmpty = false := by
  rw [occ_is P.fo]
  have := posR_ne l 0 P.mem
  cases h : posR 0 l with
  | nil => exact absurd h this
  | cons _ _ => rfl
theorem split_gen2 {l D : List Nat} (P : PageOk l D) :
    ∃ parts : List (List Nat), Builtin.Str.partsBetween (T_ l) (Builtin.Str.occurrences (T_ l) (T_ [13, 10]) 0 (T_ l).length ((T_ l).length + 1)) (T_ [13, 10]).length = parts.map T_ ∧ parts.length ≤ 10000 ∧ (∀ x ∈ parts, x.length ≤ 10000) ∧
      (parts.filter fun r => r != []).map (fun r => countL r 46) = D := by
  have hsp := sp_len l false []
  have h1 := P.len
  have h0 : ([] : List Nat).length = 0 := rfl
  refine ⟨sp false [] l, split_is P.fo, ?_, fun x hx => ?_, P.parts⟩
  · have := hsp.1; (first | lia | omega)
  · have := hsp.2 x hx; (first | lia | omega)
section
variable {cs : List Int} (O : OrdOk (lDrawn cs) (lOrder cs))
include O
theorem mt_eq (h1 : 1 ≤ lTimes cs) : lMail cs (lTimes cs) = txt (pageR cs (lDots cs)) := by
  have h := fun j => mail_succ (cs := cs) j
  obtain ⟨n, hn⟩ : ∃ n, lTimes cs = n + 1 := ⟨lTimes cs - 1, by (first | lia | omega)⟩
  have e : lDots cs = moreOf (lAhead cs) (lTimes cs) := rfl
  rw [e]
  generalize lTimes cs = t at *
  subst hn
  exact h n
theorem qlen_ok (hd16 : (lDrawn cs).length ≤ 16) (h19 : (lRows cs).length ≤ 19) (h1 : 1 ≤ (lRows cs).length) (j : Nat) (hj3 : j ≤ 3) : (lMail cs j).length ≤ 5000 ∧ (q2 false (lMail cs j)).length ≤ 10000 := by
  have hq := (quote_ok O h1 j).1
  have hk : ∀ k, (if j = 0 then lAhead cs else moreOf (lAhead cs) j).getD k 0 ≤ 19 := fun k => by
    split
    · exact Nat.le_trans (ahead_le O hd16 k) (by decide)
    · exact more_le O hd16 j k hj3
  have hl := pageR_len O _ hk h19
  rw [← hq] at hl
  have hm : (lMail cs j).length ≤ 1900 := by
    cases j with
    | zero =>
      rw [mail_zero]
      exact pageR0_len O _ (fun k => Nat.le_trans (ahead_le O hd16 k) (by decide)) h19
    | succ j =>
      rw [mail_succ]
      exact pageR_len O _ (fun k => more_le O hd16 _ k hj3) h19
  exact ⟨Nat.le_trans hm (by decide), Nat.le_trans hl (by decide)⟩
end
end Mine
end

section
set_option maxRecDepth 100000
set_option linter.unusedVariables false
set_option linter.unusedSimpArgs false
set_option linter.constructorNameAsVariable false
namespace Mine
open PySem PySem.W PySem.Calls PyProof.Rows
theorem lf_all (ns : List Int) (hn : ns.length ≤ 63) : LF (lCells ns) := by
  have hb := cells_bound hn
  have h5 := cells_five ns
  generalize lCells ns = cs at *
  have hp := drawn_pos cs
  obtain ⟨O, hoin⟩ := order_ok (cs := cs) hp
  obtain ⟨e1, e2, e3⟩ := flat_fold (lTyped cs) (typed_all cs)
  have htl : (lTyped cs).length = 6 := by unfold lTyped; simp [h5]
  have hd16 : (lDrawn cs).length ≤ 16 := by
    obtain ⟨_, _, e3'⟩ := flat_fold (cs.map typedOf) fun p hp => by
      obtain ⟨c, _, rfl⟩ := List.mem_map.mp hp
      exact typed_ok c
    unfold lDrawn lTyped
    rw [List.map_append, List.flatten_append, List.length_append]
    rw [List.length_map, h5] at e3'
    simp only [List.map_cons, List.map_nil, List.flatten_cons, List.flatten_nil, List.length_append, List.length_cons, List.length_nil]
    (first | lia | omega)
  have ht := times_le cs
  have hrl := f_rlen O
  have h2 : 2 ≤ (lRows cs).length := by (first | lia | omega)
  have h19 : (lRows cs).length ≤ 19 := by (first | lia | omega)
  have hdl := fun c hc => (let_row c (drawn_letters cs c hc)).2
  have hD : ∀ k, (lDots cs).getD k 0 ≤ 19 := fun k => more_le O hd16 _ k ht.2
  have hpg := page_facts O h2 h19 hD
  have h1 : 1 ≤ (lRows cs).length := by (first | lia | omega)
  have hmt := mt_eq O ht.1
  have hq : ∀ j, j < lTimes cs → q1 true (q2 false (lMail cs j)) = lMail cs (j + 1) := fun j _ => (quote_ok O h1 j).2
  have hql : ∀ j, j ≤ lTimes cs → (lMail cs j).length ≤ 5000 ∧ (q2 false (lMail cs j)).length ≤ 10000 := fun j hj => qlen_ok O hd16 h19 h1 j (by (first | lia | omega))
  have hmf : ∀ c ∈ lMail cs (lTimes cs), OkC c := by rw [hmt]; exact mail_okC O _
  have hfo := fold_page O
  rw [← hmt] at hfo
  have hsl : (lSigns cs).length ≤ 100 := by unfold lSigns; (first | lia | omega)
  have halen : ∀ a ∈ lAhead cs, a ≤ 16 := fun a ha => Nat.le_trans (f_ale O a ha) hd16
  have hlet : ∀ c ∈ lDrawn cs, 97 ≤ c ∧ c ≤ 122 := fun c hc => ⟨(hdl c hc).1, Nat.le_trans (hdl c hc).2 (by decide)⟩
  have hlet2 : ∀ c ∈ lDrawn cs, c ≤ 119 := fun c hc => (hdl c hc).2
  exact ⟨hb, h5, hlet, ⟨hp, hd16⟩, hsl, signs_ok cs, e1, hoin, oo_len O, fun p hp => (oo_mem O p).mp hp, halen, hq, hql, hmf, hfo,
    Nat.le_trans hpg.len (by decide), sepk_gen hpg, sepf_gen hpg, split_gen2 hpg, fun p hp => (oo_mem O p).mpr hp,
    f_passok O hlet2, fun t => (f_pass O t h1).1, fun t => (f_pass O t h1).2, f_due O⟩
theorem all_holds : PySem.Challenge.rw_ti0028_01.Holds := holds_of lf_all
end Mine
end

theorem PySem.Challenge.cw_ti0028_01_holds : PySem.Challenge.rw_ti0028_01.Holds := by
  exact Mine.all_holds
