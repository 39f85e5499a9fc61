import PyProof.Rows.All
import Wide.All
import OpenK.AllK
import Wide.FinOn
import PySem.Challenge.RW_wo0064_01
set_option Elab.async false
set_option autoImplicit false
set_option linter.unusedVariables false
set_option bootstrap.genMatcherCode false
set_option compiler.extract_closed false
section
open PySem PySem.Calls PyProof.Rows
set_option Elab.async false
set_option autoImplicit false
set_option linter.unusedVariables false
namespace Mine

/-- what an object is -/
noncomputable abbrev Rs := Obj → Prop
noncomputable abbrev Ms := List (Addr × Rs)

noncomputable def At (h : Heap) (a : Addr) (r : Rs) : Prop := ∃ o, h.get? a = some o ∧ r o
noncomputable def Le (g g' : Heap) : Prop := ∀ b o, g.get? b = some o → g'.get? b = some o
theorem Le.refl (g : Heap) : Le g g := fun _ _ e => e
theorem Le.trans {g g' g'' : Heap} (x : Le g g') (y : Le g' g'') : Le g g'' := fun b o e => y b o (x b o e)
theorem At.le {g g' : Heap} {a : Addr} {r : Rs} (x : At g a r) (l : Le g g') : At g' a r := let ⟨o, e, q⟩ := x; ⟨o, l a o e, q⟩

/-- the fixed part of a proof: the program, the world, the two name tables, the program's own objects -/
structure Setup where
  prog : Program
  w : World
  mg : Str → Option Value
  mb : Str → Option Value
  K : PySem.W.Frag

structure Base (P : Setup) (g : Heap) : Prop where
  gl : g.Ns mainGlobals P.mg
  bl : g.Ns builtinsNs P.mb
  nolimit : g.NoLimit
  own : P.K.In g

theorem Base.le {P : Setup} {g g' : Heap} (x : Base P g) (l : Le g g') : Base P g' := ⟨x.gl.keeps l, x.bl.keeps l, x.nolimit.keeps l, x.own.keeps l⟩

/-- frozen part g, own part ms, in the heap h -/
structure St (P : Setup) (g : Heap) (ms : Ms) (h : Heap) : Prop where
  base : Base P g
  keep : Le g h
  has : ∀ p ∈ ms, At h p.1 p.2 ∧ g.get? p.1 = none
  nodup : (ms.map (·.1)).Nodup

noncomputable def Room (n : Nat) (A : Around) : Prop := A.depth + n < recursionLimit ∧ A.units + 10 * n < cLine ∧ A.handled = none

noncomputable def Back (P : Setup) {α : Type} (g : Heap) (s : Shared) (R : Ms) (Q : α → Heap → Ms → Prop) (a : α) (s' : Shared) : Prop :=
  ∃ g' ms' h' tk, s' = { s with heap := h', toks := tk } ∧ Le g g' ∧ St P g' (ms' ++ R) h' ∧ Q a g' ms'

structure W (P : Setup) (n : Nat) (g : Heap) (ms : Ms) {α : Type} (t : Sem α) (Q : α → Heap → Ms → Prop) : Prop where
  run : ∀ (A : Around) (s : Shared) (R : Ms), Room n A → St P g (ms ++ R) s.heap → wpAny (model P.prog P.w) A t (Back P g s R Q) (fun _ _ => False) s

structure WC (P : Setup) (n : Nat) (g : Heap) (ms : Ms) (c : Code) (Q : Flow → Heap → Ms → Prop) : Prop where
  run : ∀ (A : Around) (s : Shared) (R : Ms), Room n A → St P g (ms ++ R) s.heap → codeAny (model P.prog P.w) A c (fun r s' => match r with | .ok f => Back P g s R Q f s' | .error _ => False) s

section
variable {P : Setup} {n : Nat} {g : Heap} {ms : Ms} {α β : Type}

theorem Room.depth {n : Nat} {A : Around} (h : Room n A) : A.depth < recursionLimit := by have := h.1; (first | lia | omega)
theorem Room.deeper {n : Nat} {A : Around} (h : Room (n + 1) A) (env : Env) : Room n (A.deeper env) := ⟨by have := h.1; show A.depth + 1 + n < _; (first | lia | omega), by have := h.2.1; show A.units + 3 + 10 * n < _; (first | lia | omega), h.2.2⟩

theorem Back.same {g₁ : Heap} {s : Shared} {h : Heap} {t : Nat} {R : Ms} {Q : α → Heap → Ms → Prop} {a : α} {s' : Shared} (x : Back P g₁ { s with heap := h, toks := t } R Q a s') (l₁ : Le g g₁) : Back P g s R Q a s' :=
  let ⟨g', ms', h', tk, e, l, S, q⟩ := x; ⟨g', ms', h', tk, e, l₁.trans l, S, q⟩

theorem W.pure {a : α} {Q : α → Heap → Ms → Prop} (h : Q a g ms) : W P n g ms (pure a : Sem α) Q :=
  ⟨fun _ s _ _ S => wpAny_pure ⟨g, ms, s.heap, s.toks, rfl, .refl _, S, h⟩⟩
theorem Back.go {A : Around} {s s₁ : Shared} {R : Ms} {f : α → Sem β} {Q : β → Heap → Ms → Prop} {a : α} (x : Back P g s R (fun a g' ms' => W P n g' ms' (f a) Q) a s₁) (hA : Room n A) :
    wpAny (model P.prog P.w) A (f a) (Back P g s R Q) (fun _ _ => False) s₁ := by
  obtain ⟨g', ms', h', tk, rfl, l, S', q⟩ := x
  exact wpAny_mono (q.run A _ R hA S') (fun _ _ x => x.same l) fun _ _ x => x
theorem Back.goC {A : Around} {s s₁ : Shared} {R : Ms} {f : α → Code} {Q : Flow → Heap → Ms → Prop} {a : α} (x : Back P g s R (fun a g' ms' => WC P n g' ms' (f a) Q) a s₁) (hA : Room n A) :
    codeAny (model P.prog P.w) A (f a) (fun r s' => match r with | .ok f => Back P g s R Q f s' | .error _ => False) s₁ := by
  obtain ⟨g', ms', h', tk, rfl, l, S', q⟩ := x
  refine codeAny_mono (q.run A _ R hA S') fun r s' x => ?_
  cases r with
  | error e => exact x
  | ok f => exact Back.same x l
theorem W.thn {A : Around} {s : Shared} {R : Ms} {t : Sem α} {f : α → Sem β} {Q : β → Heap → Ms → Prop} (h : W P n g ms t (fun a g' ms' => W P n g' ms' (f a) Q)) (hA : Room n A) (S : St P g (ms ++ R) s.heap) :
    wpAny (model P.prog P.w) A t (fun a s₁ => wpAny (model P.prog P.w) A (f a) (Back P g s R Q) (fun _ _ => False) s₁) (fun _ _ => False) s :=
  wpAny_mono (h.run A s R hA S) (fun _ _ b => b.go hA) fun _ _ x => x
/-- one step further within -/
theorem thn {γ : Type} {A : Around} {s s₁ : Shared} {R : Ms} {t : Sem β} {f : β → Sem γ} {Q : γ → Heap → Ms → Prop}
    (h : wpAny (model P.prog P.w) A t (Back P g s R (fun a g' ms' => W P n g' ms' (f a) Q)) (fun _ _ => False) s₁) (hA : Room n A) :
    wpAny (model P.prog P.w) A t (fun a s₂ => wpAny (model P.prog P.w) A (f a) (Back P g s R Q) (fun _ _ => False) s₂) (fun _ _ => False) s₁ :=
  wpAny_mono h (fun _ _ b => b.go hA) fun _ _ x => x
theorem W.bind {m : Sem α} {f : α → Sem β} {Q : β → Heap → Ms → Prop} (h : W P n g ms m (fun a g' ms' => W P n g' ms' (f a) Q)) : W P n g ms (m >>= f) Q :=
  ⟨fun A s R hA S => wpAny_bind (h.thn hA S)⟩
theorem W.mono {t : Sem α} {Q Q' : α → Heap → Ms → Prop} (h : W P n g ms t Q) (k : ∀ a g' ms', Q a g' ms' → Q' a g' ms') : W P n g ms t Q' :=
  ⟨fun A s R hA S => wpAny_mono (h.run A s R hA S) (fun _ _ x => let ⟨g', ms', h', tk, e, l, S', q⟩ := x; ⟨g', ms', h', tk, e, l, S', k _ _ _ q⟩) fun _ _ x => x⟩
theorem W.holding {vs : List Value} {t : Sem α} {Q : α → Heap → Ms → Prop} (h : W P n g ms t Q) : W P n g ms (holding vs t) Q :=
  ⟨fun A s R hA S => wpAny_holding (h.run A s R hA S)⟩
theorem W.mkInt {i : Int} {Q : Value → Heap → Ms → Prop} (h : ∀ t, Q (.int i t) g ms) : W P n g ms (mkInt i) Q :=
  ⟨fun _ s _ _ S => wpAny_mkInt ⟨g, ms, s.heap, s.toks + 1, rfl, .refl _, S, h _⟩⟩
theorem W.mkText {x : Str} {Q : Value → Heap → Ms → Prop} (h : ∀ t, Q (.str x t) g ms) : W P n g ms (mkText x) Q :=
  ⟨fun _ s _ _ S => wpAny_mkText ⟨g, ms, s.heap, s.toks + 1, rfl, .refl _, S, h _⟩⟩

/-- a rule of the library that leaves the heap as it is -/
theorem W.leaf {t : Sem α} {Q : α → Heap → Ms → Prop}
    (h : ∀ (A : Around) (s : Shared) (R : Ms), Room n A → St P g (ms ++ R) s.heap → ∀ Q' : α → Shared → Prop, (∀ a tk, Q a g ms → Q' a { s with toks := tk }) → wpAny (model P.prog P.w) A t Q' (fun _ _ => False) s) : W P n g ms t Q :=
  ⟨fun A s R hA S => h A s R hA S _ fun a tk q => ⟨g, ms, s.heap, tk, rfl, .refl _, S, q⟩⟩

/-- the call of a code -/
theorem W.ofCall {f : Value} {pos : List Value} {kw : List (Str × Value)} {Q : Value → Heap → Ms → Prop}
    (h : WC P n g ms (.call f ⟨pos, kw⟩) (fun fl g' ms' => ∃ v, fl = .ret v ∧ Q v g' ms')) : W P n g ms (PySem.call f pos kw) Q :=
  ⟨fun A s R hA S => wpAny_call (codeAny_mono (h.run A s R hA S) fun r s' x => by
    cases r with
    | error e => exact x
    | ok f =>
      obtain ⟨g', ms', h', tk, e, l, S', v, rfl, q⟩ := x
      exact ⟨g', ms', h', tk, e, l, S', q⟩)⟩

/-! the own part: one of it is changed, a new one comes, one is let go, one is frozen -/
inductive Upd (a : Addr) (r r' : Rs) : Ms → Ms → Prop
  | head {l} : Upd a r r' ((a, r) :: l) ((a, r') :: l)
  | tail {p l l'} : Upd a r r' l l' → Upd a r r' (p :: l) (p :: l')
theorem Upd.mem {a : Addr} {r r' : Rs} {l l' : Ms} (u : Upd a r r' l l') : (a, r) ∈ l := by
  induction u with
  | head => exact .head _
  | tail _ ih => exact .tail _ ih
theorem Upd.fst {a : Addr} {r r' : Rs} {l l' : Ms} (u : Upd a r r' l l') : l'.map (·.1) = l.map (·.1) := by
  induction u with
  | head => rfl
  | tail _ ih => simp only [List.map_cons, ih]
theorem Upd.app {a : Addr} {r r' : Rs} {l l' : Ms} (u : Upd a r r' l l') (R : Ms) : Upd a r r' (l ++ R) (l' ++ R) := by
  induction u with
  | head => exact .head
  | tail _ ih => exact .tail ih
theorem Upd.mem' {a : Addr} {r r' : Rs} {l l' : Ms} (u : Upd a r r' l l') (nd : (l.map (·.1)).Nodup) : ∀ p ∈ l', p = (a, r') ∨ (p ∈ l ∧ p.1 ≠ a) := by
  induction u with
  | @head l =>
    intro p hp
    rcases List.mem_cons.mp hp with rfl | hp
    · exact .inl rfl
    · refine .inr ⟨.tail _ hp, fun e => ?_⟩
      have := (List.nodup_cons.mp nd).1
      exact this (by rw [← e]; exact List.mem_map_of_mem (f := (·.1)) hp)
  | @tail p0 l l' u ih =>
    have nd' := List.nodup_cons.mp nd
    intro p hp
    rcases List.mem_cons.mp hp with rfl | hp
    · refine .inr ⟨.head _, fun e => nd'.1 (by show p.1 ∈ _; rw [e]; exact List.mem_map_of_mem (f := (·.1)) u.mem)⟩
    · rcases ih nd'.2 p hp with e | ⟨m, ne⟩
      · exact .inl e
      · exact .inr ⟨.tail _ m, ne⟩

theorem St.get {h : Heap} {a : Addr} {r : Rs} (S : St P g ms h) (m : (a, r) ∈ ms) : At h a r := (S.has _ m).1
theorem St.upd {h h' : Heap} {a : Addr} {r r' : Rs} {ms' : Ms} (S : St P g ms h) (u : Upd a r r' ms ms') (hs : Heap.SameBut a h h') (hr : At h' a r') : St P g ms' h' := by
  have ga := (S.has _ u.mem).2
  refine ⟨S.base, fun b o e => ?_, fun p hp => ?_, by rw [u.fst]; exact S.nodup⟩
  · have : b ≠ a := fun q => by rw [q, ga] at e; cases e
    exact (hs.2 b this).trans (S.keep b o e)
  · rcases u.mem' S.nodup p hp with rfl | ⟨m, ne⟩
    · exact ⟨hr, ga⟩
    · obtain ⟨⟨o, e, q⟩, n⟩ := S.has p m
      exact ⟨⟨o, (hs.2 _ ne).trans e, q⟩, n⟩
theorem St.ext {h h' : Heap} (S : St P g ms h) (l : Le h h') : St P g ms h' :=
  ⟨S.base, S.keep.trans l, fun p hp => ⟨(S.has p hp).1.le l, (S.has p hp).2⟩, S.nodup⟩
theorem Le.push (h : Heap) (o : Obj) : Le h (h.push o) := fun _ _ e => Heap.get?_push_of_some o e
theorem St.fresh {h : Heap} (S : St P g ms h) : g.get? h.objs.size = none ∧ h.objs.size ∉ ms.map (·.1) := by
  constructor
  · cases e : g.get? h.objs.size with
    | none => rfl
    | some o => exact absurd (Heap.lt_size (S.keep _ _ e)) (Nat.lt_irrefl _)
  · intro m
    obtain ⟨p, hp, e⟩ := List.mem_map.mp m
    obtain ⟨⟨o, q, _⟩, _⟩ := S.has p hp
    have := Heap.lt_size q
    rw [e] at this
    exact Nat.lt_irrefl _ this
/-- a new object, known by r, behind anything else that was made -/
theorem St.new {h h' : Heap} {a : Addr} {r : Rs} (S : St P g ms h) (l : Le h h') (ha : h.get? a = none) (hr : At h' a r) : St P g ((a, r) :: ms) h' := by
  refine ⟨S.base, S.keep.trans l, fun p hp => ?_, ?_⟩
  · rcases List.mem_cons.mp hp with rfl | hp
    · refine ⟨hr, ?_⟩
      cases e : g.get? a with
      | none => rfl
      | some o => rw [S.keep _ _ e] at ha; cases ha
    · exact ⟨(S.has p hp).1.le l, (S.has p hp).2⟩
  · refine List.nodup_cons.mpr ⟨fun m => ?_, S.nodup⟩
    obtain ⟨p, hp, e⟩ := List.mem_map.mp m
    obtain ⟨⟨o, q, _⟩, _⟩ := S.has p hp
    simp only at e
    rw [e, ha] at q; cases q
theorem St.push {h : Heap} {o : Obj} {r : Rs} (S : St P g ms h) (hf : o.isFreed = false) (hr : r o) : St P g ((h.objs.size, r) :: ms) (h.push o) :=
  S.new (Le.push h o) (by
    cases e : h.get? h.objs.size with
    | none => rfl
    | some o' => exact absurd (Heap.lt_size e) (Nat.lt_irrefl _)) ⟨o, Heap.get?_push_size h hf, hr⟩
theorem St.perm {h : Heap} {ms' : Ms} (S : St P g ms h) (p : ms.Perm ms') : St P g ms' h :=
  ⟨S.base, S.keep, fun q hq => S.has q (p.mem_iff.mpr hq), (p.map _).nodup_iff.mp S.nodup⟩
theorem St.drop {h : Heap} {ms' : Ms} (S : St P g ms h) (p : ms'.Sublist ms) : St P g ms' h :=
  ⟨S.base, S.keep, fun q hq => S.has q (p.subset hq), (p.map _).nodup S.nodup⟩

/-- a heap with one object put at a free place -/
noncomputable def put (g : Heap) (a : Addr) (o : Obj) : Heap := ⟨(Array.range (max g.objs.size (a + 1))).map fun b => if b = a then o else (g.objs[b]?).getD { cls := .none, data := .freed }, g.life⟩
theorem put_get (g : Heap) (a : Addr) (o : Obj) (b : Addr) : (put g a o).get? b = if b = a then (if o.isFreed then none else some o) else g.get? b := by
  unfold put Heap.get?
  dsimp only
  by_cases hb : b < max g.objs.size (a + 1)
  · rw [Array.getElem?_map, Array.getElem?_eq_getElem (by simpa using hb)]
    simp only [Array.getElem_range, Option.map_some]
    by_cases hba : b = a
    · rw [if_pos hba, if_pos hba]
      obtain ⟨c, d, dt, sl⟩ := o
      cases dt <;> rfl
    · rw [if_neg hba, if_neg hba]
      cases hg : g.objs[b]? with
      | none => rfl
      | some x => rfl
  · rw [Array.getElem?_eq_none (by simpa using Nat.le_of_not_lt hb)]
    have h1 : g.objs.size ≤ b := Nat.le_trans (Nat.le_max_left _ _) (Nat.le_of_not_lt hb)
    have h2 : a + 1 ≤ b := Nat.le_trans (Nat.le_max_right _ _) (Nat.le_of_not_lt hb)
    have : b ≠ a := fun e => Nat.not_succ_le_self a (e ▸ h2)
    rw [if_neg this, Array.getElem?_eq_none h1]
theorem St.freeze {h : Heap} {a : Addr} {r : Rs} (S : St P g ((a, r) :: ms) h) : ∃ g', Le g g' ∧ At g' a r ∧ St P g' ms h := by
  obtain ⟨⟨⟨o, ho, hr⟩, hn⟩, nd⟩ := And.intro (S.has (a, r) (.head _)) (List.nodup_cons.mp S.nodup)
  have hf : o.isFreed = false := (Heap.get?_some_iff.mp ho).2
  have l : Le g (put g a o) := fun b x e => by
    rw [put_get]
    by_cases hb : b = a
    · rw [hb, hn] at e; cases e
    · rw [if_neg hb]; exact e
  have ga : (put g a o).get? a = some o := by rw [put_get, if_pos rfl, hf]; rfl
  refine ⟨_, l, ⟨o, ga, hr⟩, S.base.le l, fun b x e => ?_, fun p hp => ⟨(S.has p (.tail _ hp)).1, ?_⟩, nd.2⟩
  · rw [put_get] at e
    by_cases hb : b = a
    · rw [if_pos hb, hf] at e; cases e; rw [hb]; exact ho
    · rw [if_neg hb] at e; exact S.keep b x e
  · rw [put_get, if_neg fun (e : p.1 = a) => nd.1 (by rw [← e]; exact List.mem_map_of_mem (f := (·.1)) hp)]
    exact (S.has p (.tail _ hp)).2

theorem W.perm {ms' : Ms} {t : Sem α} {Q : α → Heap → Ms → Prop} (p : ms.Perm ms') (h : W P n g ms' t Q) : W P n g ms t Q :=
  ⟨fun A s R hA S => h.run A s R hA (S.perm (p.append_right R))⟩
theorem W.drop {ms' : Ms} {t : Sem α} {Q : α → Heap → Ms → Prop} (p : ms'.Sublist ms) (h : W P n g ms' t Q) : W P n g ms t Q :=
  ⟨fun A s R hA S => h.run A s R hA (S.drop (p.append_right R))⟩
theorem W.freeze {a : Addr} {r : Rs} {t : Sem α} {Q : α → Heap → Ms → Prop} (h : ∀ g', Le g g' → At g' a r → W P n g' ms t Q) : W P n g ((a, r) :: ms) t Q :=
  ⟨fun A s R hA S => let ⟨g', l, x, S'⟩ := S.freeze; wpAny_mono ((h g' l x).run A s R hA S') (fun _ _ y => y.same (s := s) (h := s.heap) (t := s.toks) l) fun _ _ y => y⟩
theorem WC.mono {c : Code} {Q Q' : Flow → Heap → Ms → Prop} (h : WC P n g ms c Q) (k : ∀ a g' ms', Q a g' ms' → Q' a g' ms') : WC P n g ms c Q' :=
  ⟨fun A s R hA S => codeAny_mono (h.run A s R hA S) fun r s' x => by
    cases r with
    | error e => exact x
    | ok f => obtain ⟨g', ms', h', tk, e, l, S', q⟩ := x; exact ⟨g', ms', h', tk, e, l, S', k _ _ _ q⟩⟩
end
end Mine
end
section
open PySem PySem.Calls PyProof.Rows
set_option Elab.async false
set_option autoImplicit false
set_option linter.unusedVariables false
namespace Mine

/-- a value without its token -/
noncomputable def er : Value → Value
  | .int i _ => .int i 0
  | .float b _ => .float b 0
  | .str s _ => .str s 0
  | .bytes b _ => .bytes b 0
  | .none => .none
  | .ellipsis => .ellipsis
  | .notImplemented => .notImplemented
  | .bool b => .bool b
  | .type n => .type n
  | .builtin i => .builtin i
  | .ref a => .ref a
theorem er_ref {v : Value} {a : Addr} (h : er v = .ref a) : v = .ref a := by cases v <;> simp_all [er]
theorem er_int {v : Value} {i : Int} {u : Tok} (h : er v = .int i u) : ∃ t, v = .int i t := by cases v <;> simp_all [er]
theorem er_str {v : Value} {x : Str} {u : Tok} (h : er v = .str x u) : ∃ t, v = .str x t := by cases v <;> simp_all [er]
theorem er_bytes {v : Value} {x : Array UInt8} {u : Tok} (h : er v = .bytes x u) : ∃ t, v = .bytes x t := by cases v <;> simp_all [er]
theorem er_bool {v : Value} {b : Bool} (h : er v = .bool b) : v = .bool b := by cases v <;> simp_all [er]
theorem er_type {v : Value} {b : String} (h : er v = .type b) : v = .type b := by cases v <;> simp_all [er]
theorem er_builtin {v : Value} {b : String} (h : er v = .builtin b) : v = .builtin b := by cases v <;> simp_all [er]
theorem er_none {v : Value} (h : er v = .none) : v = .none := by cases v <;> simp_all [er]

/-- what holds of a value whatever its token -/
noncomputable def Tk (v : Value) (Q : Value → Prop) : Prop := ∀ v', er v' = v → Q v'
theorem Tk.int {i : Int} {Q : Value → Prop} (h : ∀ t, Q (.int i t)) : Tk (.int i 0) Q := fun v e => by obtain ⟨t, rfl⟩ := er_int e; exact h t
theorem Tk.str {x : Str} {Q : Value → Prop} (h : ∀ t, Q (.str x t)) : Tk (.str x 0) Q := fun v e => by obtain ⟨t, rfl⟩ := er_str e; exact h t
theorem Tk.bytes {x : Array UInt8} {Q : Value → Prop} (h : ∀ t, Q (.bytes x t)) : Tk (.bytes x 0) Q := fun v e => by obtain ⟨t, rfl⟩ := er_bytes e; exact h t
theorem Tk.ref {a : Addr} {Q : Value → Prop} (h : Q (.ref a)) : Tk (.ref a) Q := fun v e => by rw [er_ref e]; exact h
noncomputable def lstR (xs : List Value) : Rs := fun o => ∃ ys n, o = { cls := .type "list", data := .seq ys n } ∧ ys.toList.map er = xs
noncomputable def tupR (xs : List Value) : Rs := fun o => o.cls = .type "tuple" ∧ ∃ ys n, o.data = .seq ys n ∧ ys.toList.map er = xs
noncomputable def celR (v : Option Value) : Rs := fun o => ∃ v', o.data = .cell v' ∧ v'.map er = v

/-- the place of a name in a scope's table -/
noncomputable def placeOf (sc : Scope) (x : Str) : Option Nat := sc.names.findIdx? (fun p => p.1 == x)
/-- the names of a frame, told by their places -/
noncomputable def frM (sc : Scope) (vs : List (Option Value)) : Str → Option Value := fun x => match placeOf sc x with
  | some i => (vs[i]?).join
  | none => none
noncomputable def frR (sc : Scope) (vs : List (Option Value)) : Rs := fun o => ∃ es ep, o.data = .dict es ep ∧ StrKeys es ∧ ∀ x, (nsFind es x).map er = frM sc vs x

/-- a local's place, or another kind's -/
noncomputable def locAt (sc : Scope) (x : Str) (i : Nat) : Bool := sc.names.lookup x == some .local && placeOf sc x == some i
noncomputable def kindIs (sc : Scope) (x : Str) (k : NameKind) : Bool := sc.names.lookup x == some k

theorem placeOf_name {sc : Scope} {x y : Str} {i : Nat} (h : placeOf sc x = some i) (h' : placeOf sc y = some i) : x = y := by
  unfold placeOf at h h'
  rw [List.findIdx?_eq_some_iff_getElem] at h h'
  obtain ⟨l, p, _⟩ := h
  obtain ⟨l', p', _⟩ := h'
  exact (beq_iff_eq.mp p).symm.trans (beq_iff_eq.mp p')
theorem frM_set {sc : Scope} {vs : List (Option Value)} {x : Str} {i : Nat} {v : Value} (h : placeOf sc x = some i) (hi : i < vs.length) :
    frM sc (vs.set i (some v)) = fun y => if y = x then some v else frM sc vs y := by
  funext y
  unfold frM
  by_cases hy : y = x
  · subst hy
    rw [if_pos rfl, h]
    show ((vs.set i (some v))[i]?).join = _
    rw [List.getElem?_set_self hi]; rfl
  · rw [if_neg hy]
    cases hp : placeOf sc y with
    | none => rfl
    | some j =>
      show ((vs.set i (some v))[j]?).join = (vs[j]?).join
      rw [List.getElem?_set_ne]
      intro e; subst e
      exact hy (placeOf_name hp h)

/-- what is known of an environment: its scope, its names' place, its cells -/
structure Ev (env : Env) (sc : Scope) (L : Addr) (cells : List (Str × Addr)) : Prop where
  scope : env.scope = sc
  locals : env.locals = L
  globals : env.globals = mainGlobals
  builtins : env.builtins = builtinsNs
  cells : env.cells = cells
  kind : sc.kind = .function
noncomputable def relabS (scope outer : Scope) : Scope :=
  { scope with names := scope.names.map fun (n, k) => if (k == .free && outer.kind == .function && outer.names.lookup n == some .cell) then (n, .cell) else (n, k) }

section
variable {P : Setup} {n : Nat} {g : Heap} {ms : Ms} {α β : Type} {env : Env}

theorem At.plain {h : Heap} {a : Addr} {xs : List Value} (x : At h a (lstR xs)) : ∃ ys, h.PlainList a ys ∧ ys.toList.map er = xs := by
  obtain ⟨o, e, ys, n, rfl, q⟩ := x; exact ⟨ys, ⟨n, e⟩, q⟩
theorem At.list {h : Heap} {a : Addr} {xs : List Value} (x : At h a (lstR xs)) : ∃ ys, h.IsList a ys ∧ ys.toList.map er = xs := by
  obtain ⟨ys, p, q⟩ := x.plain; exact ⟨ys, p.isList, q⟩
theorem At.ofPlain {h : Heap} {a : Addr} {ys : Array Value} {xs : List Value} (x : h.PlainList a ys) (q : ys.toList.map er = xs) : At h a (lstR xs) := by
  obtain ⟨n, e⟩ := x; exact ⟨_, e, ys, n, rfl, q⟩
theorem At.tup {h : Heap} {a : Addr} {xs : List Value} (x : At h a (tupR xs)) : ∃ ys, IsTup h a ys ∧ ys.toList.map er = xs := by
  obtain ⟨o, e, c, ys, n, d, q⟩ := x; exact ⟨ys, ⟨o, e, c, n, d⟩, q⟩
theorem At.frame {h : Heap} {a : Addr} {sc : Scope} {vs : List (Option Value)} (x : At h a (frR sc vs)) : ∃ m, h.Ns a m ∧ ∀ y, (m y).map er = frM sc vs y := by
  obtain ⟨o, e, es, ep, d, k, q⟩ := x; exact ⟨nsFind es, ⟨o, es, ep, e, d, k, fun _ => rfl⟩, q⟩
theorem At.ofFrame {h : Heap} {a : Addr} {sc : Scope} {vs : List (Option Value)} {m : Str → Option Value} (x : h.Ns a m) (q : ∀ y, (m y).map er = frM sc vs y) : At h a (frR sc vs) := by
  obtain ⟨o, es, ep, e, d, k, f⟩ := x; exact ⟨o, e, es, ep, d, k, fun y => by rw [f]; exact q y⟩

/-- a thing that is known: of the own part or of the frozen part -/
noncomputable def Has (g : Heap) (ms : Ms) (a : Addr) (r : Rs) : Prop := (a, r) ∈ ms ∨ At g a r
theorem Has.at {h : Heap} {R : Ms} {a : Addr} {r : Rs} (x : Has g ms a r) (S : St P g (ms ++ R) h) : At h a r :=
  x.elim (fun m => S.get (List.mem_append_left _ m)) fun m => m.le S.keep

/-! statements -/
theorem w_nil {Q : Flow → Heap → Ms → Prop} (h : Q .next g ms) : W P n g ms (execs [] env) Q :=
  ⟨fun _ s _ _ S => wpAny_execs_nil ⟨g, ms, s.heap, s.toks, rfl, .refl _, S, h⟩⟩
theorem w_cons {st : Stmt} {rest : List Stmt} {Q : Flow → Heap → Ms → Prop}
    (h : W P n g ms (exec st env) (fun f g' ms' => match f with | .next => W P n g' ms' (execs rest env) Q | f => Q f g' ms')) : W P n g ms (execs (st :: rest) env) Q :=
  ⟨fun A s R hA S => wpAny_execs_cons (wpAny_mono (h.run A s R hA S) (fun f s' b => by
    obtain ⟨g', ms', h', tk, rfl, l, S', q⟩ := b
    cases f with
    | next => exact wpAny_mono (W.run q A _ R hA S') (fun _ _ x => x.same l) fun _ _ x => x
    | _ => exact ⟨g', ms', h', tk, rfl, l, S', q⟩) fun _ _ x => x)⟩
theorem w_If {test : Expr} {body orelse : List Stmt} {pos : Pos} {Q : Flow → Heap → Ms → Prop}
    (h : W P n g ms (isTrue test env (eval test env)) (fun b g' ms' => if b then W P n g' ms' (execs body env) Q else W P n g' ms' (execs orelse env) Q)) :
    W P n g ms (exec (.If test body orelse pos) env) Q :=
  ⟨fun A s R hA S => wpAny_If (wpAny_mono (h.run A s R hA S) (fun b s' x => by
    obtain ⟨g', ms', h', tk, rfl, l, S', q⟩ := x
    cases b with
    | true => exact wpAny_mono (W.run q A _ R hA S') (fun _ _ x => x.same l) fun _ _ x => x
    | false => exact wpAny_mono (W.run q A _ R hA S') (fun _ _ x => x.same l) fun _ _ x => x) fun _ _ x => x)⟩
theorem w_Return {e : Expr} {pos : Pos} {Q : Flow → Heap → Ms → Prop} (h : W P n g ms (eval e env) (fun v => Q (.ret v))) : W P n g ms (exec (.Return (some e) pos) env) Q :=
  ⟨fun A s R hA S => wpAny_Return_some (h.run A s R hA S)⟩
theorem w_Break {pos : Pos} {Q : Flow → Heap → Ms → Prop} (h : Q .brk g ms) : W P n g ms (exec (.Break pos) env) Q :=
  ⟨fun _ s _ _ S => wpAny_Break ⟨g, ms, s.heap, s.toks, rfl, .refl _, S, h⟩⟩
theorem w_Expr {e : Expr} {pos : Pos} {sc : Scope} {L : Addr} {cs : List (Str × Addr)} {Q : Flow → Heap → Ms → Prop} (hE : Ev env sc L cs) (h : W P n g ms (eval e env) (fun _ => Q .next))
    (hs : swapsWith e none pos.line env = pure false := by rfl) : W P n g ms (exec (.Expr e pos) env) Q :=
  ⟨fun A s R hA S => wpAny_Expr_any (h.run A s R hA S) (by unfold interactive; rw [hE.scope, hE.kind]; rfl) hs⟩
theorem w_Assign {x : Str} {pos' pos : Pos} {value : Expr} {Q : Flow → Heap → Ms → Prop}
    (h : W P n g ms (eval value env) (fun v g' ms' => W P n g' ms' (storeName env x v) (fun _ => Q .next)))
    (hs : swapsWith value (some (.Name x pos')) pos.line env = pure false := by rfl) : W P n g ms (exec (.Assign [.Name x pos'] value pos) env) Q :=
  ⟨fun A s R hA S => wpAny_Assign_Name (wpAny_mono (h.run A s R hA S) (fun _ _ b => by
    obtain ⟨g', ms', h', tk, rfl, l, S', q⟩ := b
    exact wpAny_mono (q.run A _ R hA S') (fun _ _ x => x.same l) fun _ _ x => x) fun _ _ x => x) hs⟩
theorem w_AssignAttr {o value : Expr} {attr : Str} {pos' pos : Pos} {Q : Flow → Heap → Ms → Prop}
    (h : W P n g ms (eval value env) (fun v g' ms' => W P n g' ms' (eval o env) (fun ov g' ms' => W P n g' ms' (setAttr ov attr v) (fun _ => Q .next))))
    (hs : swapsWith value (some (.Attribute o attr pos')) pos.line env = pure false := by rfl) : W P n g ms (exec (.Assign [.Attribute o attr pos'] value pos) env) Q :=
  ⟨fun A s R hA S => plainObj_wpAny_Assign_Attribute (wpAny_mono (h.run A s R hA S) (fun _ _ b => thn (b.go hA) hA) fun _ _ x => x) hs⟩
theorem w_AssignSub {o i value : Expr} {pos' pos : Pos} {Q : Flow → Heap → Ms → Prop}
    (h : W P n g ms (eval value env) (fun v g' ms' => W P n g' ms' (eval o env) (fun ov g' ms' => W P n g' ms' (eval i env) (fun iv g' ms' => W P n g' ms' (setItem ov iv v) (fun _ => Q .next)))))
    (hs : swapsWith value (some (.Subscript o i pos')) pos.line env = pure false := by rfl) : W P n g ms (exec (.Assign [.Subscript o i pos'] value pos) env) Q :=
  ⟨fun A s R hA S => wpAny_Assign_Subscript (wpAny_mono (h.run A s R hA S) (fun _ _ b => wpAny_mono (b.go hA) (fun _ _ b => thn (b.go hA) hA) fun _ _ x => x) fun _ _ x => x) hs⟩
theorem w_AugName {x : Str} {pos' pos : Pos} {op : Operator} {value : Expr} {Q : Flow → Heap → Ms → Prop}
    (h : W P n g ms (loadName env x) (fun old g' ms' => W P n g' ms' (eval value env) (fun v g' ms' => W P n g' ms' (inplaceOp op old v) (fun r g' ms' => W P n g' ms' (storeName env x r) (fun _ => Q .next))))) :
    W P n g ms (exec (.AugAssign (.Name x pos') op value pos) env) Q :=
  ⟨fun A s R hA S => wpAny_AugAssign_Name (wpAny_mono (h.run A s R hA S) (fun _ _ b => wpAny_mono (b.go hA) (fun _ _ b => thn (b.go hA) hA) fun _ _ x => x) fun _ _ x => x)⟩
theorem w_AugSub {o i : Expr} {pos' pos : Pos} {op : Operator} {value : Expr} {Q : Flow → Heap → Ms → Prop}
    (h : W P n g ms (eval o env) (fun ov g' ms' => W P n g' ms' (eval i env) (fun iv g' ms' => W P n g' ms' (getItem ov iv) (fun old g' ms' =>
      W P n g' ms' (eval value env) (fun v g' ms' => W P n g' ms' (inplaceOp op old v) (fun new g' ms' => W P n g' ms' (setItem ov iv new) (fun _ => Q .next)))))))
    (ha : ∀ ov iv new, augStore i ov iv new = (do holding [new, ov, iv] (setItem ov iv new); release [new, ov, iv] []; pure .next) := by intro _ _ _; rfl) :
    W P n g ms (exec (.AugAssign (.Subscript o i pos') op value pos) env) Q :=
  ⟨fun A s R hA S => wpAny_AugAssign_Subscript_any (wpAny_mono (h.run A s R hA S) (fun _ _ b => wpAny_mono (b.go hA) (fun _ _ b => wpAny_mono (b.go hA) (fun _ _ b => wpAny_mono (b.go hA) (fun _ _ b => thn (b.go hA) hA) fun _ _ x => x) fun _ _ x => x) fun _ _ x => x) fun _ _ x => x) ha⟩
theorem w_Assign3 {t₁ t₂ t₃ value : Expr} {pos : Pos} {Q : Flow → Heap → Ms → Prop}
    (h : W P n g ms (eval value env) (fun v g' ms' => W P n g' ms' (assign t₁ env v) (fun _ g' ms' => W P n g' ms' (assign t₂ env v) (fun _ g' ms' => W P n g' ms' (assign t₃ env v) (fun _ => Q .next)))))
    (he : (assignEach [t₁, t₂, t₃] env).map (·.2) = [assign t₁ env, assign t₂ env, assign t₃ env] := by rfl)
    (hw : swappedStores [t₁, t₂, t₃] value env = pure none := by rfl) :
    W P n g ms (exec (.Assign [t₁, t₂, t₃] value pos) env) Q :=
  ⟨fun A s R hA S => wpAny_Assign_three (wpAny_mono (h.run A s R hA S) (fun _ _ b => wpAny_mono (b.go hA) (fun _ _ b => thn (b.go hA) hA) fun _ _ x => x) fun _ _ x => x) he hw⟩
theorem w_assignName {x : Str} {pos : Pos} {v : Value} {Q : Unit → Heap → Ms → Prop} (h : W P n g ms (storeName env x v) Q) : W P n g ms (assign (.Name x pos) env v) Q :=
  ⟨fun A s R hA S => wpAny_assign_Name (h.run A s R hA S)⟩
theorem w_AssignOne {t value : Expr} {pos : Pos} {Q : Flow → Heap → Ms → Prop}
    (h : W P n g ms (eval value env) (fun v g' ms' => W P n g' ms' (assign t env v) (fun _ => Q .next)))
    (hs : swapsWithSole [t] value pos.line env = pure false) (hw : swappedStores [t] value env = pure none)
    (he : (assignEach [t] env).map (·.2) = [assign t env] := by rfl) : W P n g ms (exec (.Assign [t] value pos) env) Q :=
  ⟨fun A s R hA S => wpAny_Assign_stores (by rw [he]; exact h.thn hA S) hs hw⟩

/-! expressions -/
theorem w_Name {x : Str} {pos : Pos} {Q : Value → Heap → Ms → Prop} (h : W P n g ms (loadName env x) Q) (hd : (x == ("__debug__" : Str)) = false := by decide +kernel) : W P n g ms (eval (.Name x pos) env) Q :=
  ⟨fun A s R hA S => wpAny_Name (h.run A s R hA S) hd⟩
theorem w_int {i : Int} {k : Nat} {pos : Pos} {Q : Value → Heap → Ms → Prop} (h : ∀ t, Q (.int i t) g ms) : W P n g ms (eval (.Constant (.int i) k pos) env) Q := W.mkInt h
theorem w_str {x : Str} {k : Nat} {pos : Pos} {Q : Value → Heap → Ms → Prop} (h : ∀ t, Q (.str x t) g ms) : W P n g ms (eval (.Constant (.str x) k pos) env) Q := W.mkText h
theorem w_bytes {x : List UInt8} {k : Nat} {pos : Pos} {Q : Value → Heap → Ms → Prop} (h : ∀ t, Q (.bytes x.toArray t) g ms) : W P n g ms (eval (.Constant (.bytes x) k pos) env) Q :=
  W.leaf fun _ _ _ _ _ Q' k => wpAny_mkTextBytes (k _ _ (h _))
theorem w_bool {b : Bool} {k : Nat} {pos : Pos} {Q : Value → Heap → Ms → Prop} (h : Q (.bool b) g ms) : W P n g ms (eval (.Constant (.bool b) k pos) env) Q := W.pure h
theorem w_BinOp {l r : Expr} {op : Operator} {pos : Pos} {Q : Value → Heap → Ms → Prop}
    (h : W P n g ms (eval l env) (fun a g' ms' => W P n g' ms' (eval r env) (fun b g' ms' => W P n g' ms' (binaryOp op a b) Q))) : W P n g ms (eval (.BinOp l op r pos) env) Q :=
  ⟨fun A s R hA S => wpAny_BinOp (wpAny_mono (h.run A s R hA S) (fun _ _ b => thn (b.go hA) hA) fun _ _ x => x)⟩
theorem w_Compare {l r : Expr} {op : CmpOp} {pos : Pos} {Q : Value → Heap → Ms → Prop}
    (h : W P n g ms (eval l env) (fun a g' ms' => W P n g' ms' (eval r env) (fun b g' ms' => W P n g' ms' (compareOp op a b) Q)))
    (hm : behindInMarks op r = false := by with_unfolding_all rfl) : W P n g ms (eval (.Compare l [op] [r] pos) env) Q :=
  ⟨fun A s R hA S => wpAny_Compare1 (wpAny_mono (h.run A s R hA S) (fun _ _ b => thn (b.go hA) hA) fun _ _ x => x) hm⟩
theorem w_tCompare {l r : Expr} {op : CmpOp} {pos : Pos} {whole : Sem Value} {Q : Bool → Heap → Ms → Prop}
    (h : W P n g ms (eval l env) (fun a g' ms' => W P n g' ms' (eval r env) (fun b g' ms' => W P n g' ms' (compareOp op a b) (fun c g' ms' => W P n g' ms' (truthy c) Q))))
    (hm : behindInMarks op r = false := by with_unfolding_all rfl) : W P n g ms (isTrue (.Compare l [op] [r] pos) env whole) Q :=
  ⟨fun A s R hA S => wpAny_isTrue_Compare1 (wpAny_mono (h.run A s R hA S) (fun _ _ b => wpAny_mono (b.go hA) (fun _ _ b => thn (b.go hA) hA) fun _ _ x => x) fun _ _ x => x) hm⟩
theorem w_tNot {x : Expr} {pos : Pos} {whole : Sem Value} {Q : Bool → Heap → Ms → Prop} (h : W P n g ms (isTrue x env (eval x env)) (fun b => Q (!b))) : W P n g ms (isTrue (.UnaryOp .Not x pos) env whole) Q :=
  ⟨fun A s R hA S => wpAny_isTrue_Not (h.run A s R hA S)⟩
theorem w_tBool {op : BoolOp} {values : List Expr} {pos : Pos} {whole : Sem Value} {Q : Bool → Heap → Ms → Prop} (h : W P n g ms (allTrue op values env) Q) : W P n g ms (isTrue (.BoolOp op values pos) env whole) Q :=
  ⟨fun A s R hA S => wpAny_isTrue_BoolOp (h.run A s R hA S)⟩
theorem w_tAnd {x : Expr} {rest : List Expr} {Q : Bool → Heap → Ms → Prop}
    (h : W P n g ms (isTrue x env (eval x env)) (fun b g' ms' => if b then W P n g' ms' (allTrue .And rest env) Q else Q false g' ms')) : W P n g ms (allTrue .And (x :: rest) env) Q :=
  ⟨fun A s R hA S => wpAny_allTrue_And_cons (wpAny_mono (h.run A s R hA S) (fun b s' x => by
    obtain ⟨g', ms', h', tk, rfl, l, S', q⟩ := x
    cases b with
    | true => exact wpAny_mono (W.run q A _ R hA S') (fun _ _ x => x.same l) fun _ _ x => x
    | false => exact ⟨g', ms', h', tk, rfl, l, S', q⟩) fun _ _ x => x)⟩
theorem w_tOr {x : Expr} {rest : List Expr} {Q : Bool → Heap → Ms → Prop}
    (h : W P n g ms (isTrue x env (eval x env)) (fun b g' ms' => if b then Q true g' ms' else W P n g' ms' (allTrue .Or rest env) Q)) : W P n g ms (allTrue .Or (x :: rest) env) Q :=
  ⟨fun A s R hA S => wpAny_allTrue_Or_cons (wpAny_mono (h.run A s R hA S) (fun b s' x => by
    obtain ⟨g', ms', h', tk, rfl, l, S', q⟩ := x
    cases b with
    | false => exact wpAny_mono (W.run q A _ R hA S') (fun _ _ x => x.same l) fun _ _ x => x
    | true => exact ⟨g', ms', h', tk, rfl, l, S', q⟩) fun _ _ x => x)⟩
theorem w_tAndNil {Q : Bool → Heap → Ms → Prop} (h : Q true g ms) : W P n g ms (allTrue .And [] env) Q := W.pure h
theorem w_tOrNil {Q : Bool → Heap → Ms → Prop} (h : Q false g ms) : W P n g ms (allTrue .Or [] env) Q := W.pure h
theorem w_tValue {e : Expr} {whole : Sem Value} {Q : Bool → Heap → Ms → Prop} (h : W P n g ms whole (fun v g' ms' => W P n g' ms' (truthy v) Q))
    (he : isTrue e env whole = (do let v ← whole; standAt e.pos; holding [v] (truthy v)) := by rfl) : W P n g ms (isTrue e env whole) Q :=
  ⟨fun A s R hA S => wpAny_isTrue_value (h.thn hA S) he⟩
theorem w_truthyBool {b : Bool} {Q : Bool → Heap → Ms → Prop} (h : Q b g ms) : W P n g ms (truthy (.bool b)) Q :=
  ⟨fun _ s _ _ S => wpAny_truthy_bool ⟨g, ms, s.heap, s.toks, rfl, .refl _, S, h⟩⟩
theorem w_Attribute {value : Expr} {attr : Str} {pos : Pos} {Q : Value → Heap → Ms → Prop}
    (h : W P n g ms (eval value env) (fun o g' ms' => W P n g' ms' (getAttr o attr true) Q))
    (he : eval (.Attribute value attr pos) env = (do
      let o ← eval value env
      standAt pos.atName
      let r ← holding [o] (getAttr o attr true)
      letTemporaryGo value o r
      pure r) := by with_unfolding_all rfl) : W P n g ms (eval (.Attribute value attr pos) env) Q :=
  ⟨fun A s R hA S => Attribute_any_ (h.thn hA S) he⟩
theorem w_Subscript {value slice : Expr} {pos : Pos} {Q : Value → Heap → Ms → Prop}
    (h : W P n g ms (eval value env) (fun o g' ms' => W P n g' ms' (eval slice env) (fun i g' ms' => W P n g' ms' (getitemInPython o) (fun b g' ms' => W P n g' ms' (subscripted slice b o i) Q)))) :
    W P n g ms (eval (.Subscript value slice pos) env) Q := by
  refine ⟨fun A s R hA S => ?_⟩
  show wpAny _ _ (do
    let o ← eval value env
    let i ← holding [o] (eval slice env)
    standAt pos
    let r ← subscripted slice (← getitemInPython o) o i
    letTemporaryGo value o r
    pure r) _ _ _
  refine wpAny_bind (wpAny_mono (h.run A s R hA S) (fun o s₁ b => ?_) fun _ _ x => x)
  refine wpAny_bind (wpAny_holding (wpAny_mono (b.go hA) (fun i s₂ b => ?_) fun _ _ x => x))
  refine wpAny_bind (wpAny_standAt (wpAny_bind (wpAny_mono (b.go hA) (fun p s₃ b => ?_) fun _ _ x => x)))
  refine wpAny_bind (wpAny_mono (b.go hA) (fun r s₄ b => ?_) fun _ _ x => x)
  exact wpAny_bind (wpAny_letTemporaryGo (wpAny_pure b))
theorem w_Slice {lower upper : Option Expr} {pos : Pos} {Q : Value → Heap → Ms → Prop}
    (h : W P n g ms (evalPart lower env) (fun l g' ms' => W P n g' ms' (evalPart upper env) (fun u g' ms' => ∀ a, Q (.ref a) g' ((a, fun o => o = { cls := .type "slice", data := .fields #[l, u, .none] }) :: ms')))) :
    W P n g ms (eval (.Slice lower upper none pos) env) Q :=
  ⟨fun A s R hA S => wpAny_Slice (wpAny_mono (h.run A s R hA S) (fun l s₁ b => wpAny_mono (b.go hA) (fun u s₂ b => by
    obtain ⟨g', ms', h', tk, rfl, le, S', q⟩ := b
    exact wpAny_pure ⟨g', _, _, _, rfl, le, S'.push (r := fun o => o = { cls := .type "slice", data := .fields #[l, u, .none] }) rfl rfl, q _⟩) fun _ _ x => x) fun _ _ x => x)⟩
theorem w_Slice3 {lower upper step : Option Expr} {pos : Pos} {Q : Value → Heap → Ms → Prop}
    (h : W P n g ms (evalPart lower env) (fun l g' ms' => W P n g' ms' (evalPart upper env) (fun u g' ms' => W P n g' ms' (evalPart step env) (fun st g' ms' => ∀ a, Q (.ref a) g' ((a, fun o => o = { cls := .type "slice", data := .fields #[l, u, st] }) :: ms'))))) :
    W P n g ms (eval (.Slice lower upper step pos) env) Q :=
  ⟨fun A s R hA S => wpAny_Slice (wpAny_mono (h.run A s R hA S) (fun l s₁ b => wpAny_mono (b.go hA) (fun u s₂ b => wpAny_mono (b.go hA) (fun st s₃ b => by
    obtain ⟨g', ms', h', tk, rfl, le, S', q⟩ := b
    exact ⟨g', _, _, _, rfl, le, S'.push (r := fun o => o = { cls := .type "slice", data := .fields #[l, u, st] }) rfl rfl, q _⟩) fun _ _ x => x) fun _ _ x => x) fun _ _ x => x)⟩
theorem w_partNone {Q : Value → Heap → Ms → Prop} (h : Q .none g ms) : W P n g ms (evalPart none env) Q := W.pure h
theorem w_partSome {e : Expr} {Q : Value → Heap → Ms → Prop} (h : W P n g ms (eval e env) Q) : W P n g ms (evalPart (some e) env) Q := h
theorem w_argsNil {pos : Pos} {Q : List Value → Heap → Ms → Prop} (h : Q [] g ms) : W P n g ms (spliced (backTo pos (starEach [] env))) Q :=
  ⟨fun _ s _ _ S => args_nil ⟨g, ms, s.heap, s.toks, rfl, .refl _, S, h⟩⟩
theorem w_args {e : Expr} {rest : List Expr} {pos : Pos} {Q : List Value → Heap → Ms → Prop}
    (h : W P n g ms (eval e env) (fun v g' ms' => W P n g' ms' (spliced (backTo pos (starEach rest env))) (fun vs => Q (v :: vs))))
    (he : starEach (e :: rest) env = (false, eval e env) :: starEach rest env := by rfl) : W P n g ms (spliced (backTo pos (starEach (e :: rest) env))) Q :=
  ⟨fun A s R hA S => args_cons (wpAny_mono (h.run A s R hA S) (fun v s₁ b => by
    obtain ⟨g', ms', h', tk, rfl, l, S', q⟩ := b
    exact wpAny_mono (q.run A _ R hA S') (fun vs s₂ x => (Back.same x l : Back P g s R _ vs s₂)) fun _ _ x => x) fun _ _ x => x) he⟩
theorem w_List {elts : List Expr} {pos : Pos} {Q : Value → Heap → Ms → Prop}
    (h : W P n g ms (spliced (backTo pos (starEach elts env))) (fun vs g' ms' => vs.length ≤ sizeLine ∧ ∀ a, Q (.ref a) g' ((a, lstR (vs.map er)) :: ms'))) : W P n g ms (eval (.List elts pos) env) Q :=
  ⟨fun A s R hA S => wpAny_List (wpAny_mono (h.run A s R hA S) (fun vs s₁ b => by
    obtain ⟨g', ms', h', tk, rfl, l, S', q⟩ := b
    exact ⟨q.1, ⟨g', _, _, _, rfl, l, S'.push rfl ⟨_, _, rfl, by simp⟩, q.2 _⟩⟩) fun _ _ x => x)⟩
theorem w_Tuple {elts : List Expr} {k : Nat} {pos : Pos} {Q : Value → Heap → Ms → Prop}
    (h : W P n g ms (spliced (backTo pos (starEach elts env))) (fun vs g' ms' => vs.length ≤ sizeLine ∧ ∀ a, Q (.ref a) g' ((a, tupR (vs.map er)) :: ms'))) : W P n g ms (eval (.Tuple elts k pos) env) Q :=
  ⟨fun A s R hA S => wpAny_Tuple (wpAny_mono (h.run A s R hA S) (fun vs s₁ b => by
    obtain ⟨g', ms', h', tk, rfl, l, S', q⟩ := b
    exact ⟨q.1, ⟨g', _, _, _, rfl, l, S'.push rfl ⟨rfl, _, _, rfl, by simp⟩, q.2 _⟩⟩) fun _ _ x => x)⟩
/-- a call by a name -/
theorem w_CallName {x : Str} {np pos : Pos} {args : List Expr} {Q : Value → Heap → Ms → Prop}
    (h : W P n g ms (eval (.Name x np) env) (fun f g' ms' => W P n g' ms' (callWith pos f [] (backTo pos (starEach args env)) []) Q)) :
    W P n g ms (eval (.Call (.Name x np) args [] pos) env) Q :=
  ⟨fun A s R hA S => wpAny_Call_ofName (h.thn hA S)⟩
theorem w_evalArgs {f : Value} {pos : Pos} {e : Expr} {rest : List Expr} {Q : Args → Heap → Ms → Prop}
    (h : W P n g ms (spliced (backTo pos (starEach (e :: rest) env))) (fun vs => Q ⟨vs, []⟩))
    (he : starEach (e :: rest) env = (false, eval e env) :: starEach rest env := by rfl) : W P n g ms (evalArgs f true (backTo pos (starEach (e :: rest) env)) []) Q := by
  rw [he] at h ⊢
  exact ⟨fun A s R hA S => evalArgs_plain (h.run A s R hA S)⟩
theorem w_callBuiltin {id : String} {pos : Pos} {first : List Value} {e : Expr} {rest : List Expr} {Q : Value → Heap → Ms → Prop}
    (h : W P n g ms (spliced (backTo pos (starEach (e :: rest) env))) (fun vs g' ms' => W P n g' ms' (call (.builtin id) (first ++ vs)) Q))
    (he : starEach (e :: rest) env = (false, eval e env) :: starEach rest env := by rfl)
    (hplain : (backTo pos (starEach (e :: rest) env)).any (·.1) = false := by rfl) : W P n g ms (callWith pos (.builtin id) first (backTo pos (starEach (e :: rest) env)) []) Q :=
  ⟨fun A s R hA S => callWith_builtin hplain ((w_evalArgs (Q := fun a g' ms' => W P n g' ms' (call (.builtin id) (first ++ a.pos) a.kw) Q) h he).thn hA S)⟩
theorem w_callType {T : String} {pos : Pos} {first : List Value} {e : Expr} {rest : List Expr} {Q : Value → Heap → Ms → Prop}
    (h : W P n g ms (spliced (backTo pos (starEach (e :: rest) env))) (fun vs g' ms' => W P n g' ms' (call (.type T) (first ++ vs)) Q))
    (he : starEach (e :: rest) env = (false, eval e env) :: starEach rest env := by rfl)
    (hplain : (backTo pos (starEach (e :: rest) env)).any (·.1) = false := by rfl) : W P n g ms (callWith pos (.type T) first (backTo pos (starEach (e :: rest) env)) []) Q :=
  ⟨fun A s R hA S => PySem.callWith_type hplain ((w_evalArgs (Q := fun a g' ms' => W P n g' ms' (call (.type T) (first ++ a.pos) a.kw) Q) h he).thn hA S)⟩
/-- a callee of the program's own: its keeper is seen -/
noncomputable def Kept (P : Setup) (f : Value) : Prop := ∀ M h, P.K.In h → ∃ k, (k = Keeper.frame ∨ k = Keeper.machine ∨ k = Keeper.boundFrame) ∧ PySem.W.Looks M h (keeperOf f) k
theorem w_callOwn {f : Value} {pos : Pos} {first : List Value} {e : Expr} {rest : List Expr} {Q : Value → Heap → Ms → Prop}
    (hk : Kept P f)
    (h : W P n g ms (spliced (backTo pos (starEach (e :: rest) env))) (fun vs g' ms' => W P n g' ms' (call f (first ++ vs)) Q))
    (he : starEach (e :: rest) env = (false, eval e env) :: starEach rest env := by rfl)
    (hplain : (backTo pos (starEach (e :: rest) env)).any (·.1) = false := by rfl) : W P n g ms (callWith pos f first (backTo pos (starEach (e :: rest) env)) []) Q := by
  refine ⟨fun A s R hA S => PySem.W.callWith_of (P := fun h => P.K.In h) (by rw [hplain]; rfl) (fun h l => hk _ h l) ?_⟩
  refine wpAny_mono ((w_evalArgs (Q := fun a g' ms' => W P n g' ms' (call f (first ++ a.pos) a.kw) Q) h he).run A s R hA S) (fun a s' x => ?_) fun _ _ x => x
  obtain ⟨g', ms', h', tk, rfl, l, S', q⟩ := x
  exact ⟨S'.base.own.keeps S'.keep, wpAny_mono (q.run A _ R hA S') (fun _ _ x => x.same l) fun _ _ x => x⟩
theorem Kept.fn {a : Addr} {o : Obj} {fd : FuncData} (h : P.K.lookup a = some o) (hd : o.data = .func fd) : Kept P (.ref a) := by
  obtain ⟨c, d, dt, sl⟩ := o
  cases hd
  exact fun M hp l => ⟨.frame, .inl rfl, (PySem.W.Looks.ld (part := none) (l _ _ h)).andThen .now⟩

/-! names -/
section
variable {sc : Scope} {L : Addr} {cs : List (Str × Addr)} {x : Str}
theorem w_ld {i : Nat} {vs : List (Option Value)} {v : Value} {Q : Value → Heap → Ms → Prop} (hE : Ev env sc L cs)
    (hl : locAt sc x i = true) (hm : (L, frR sc vs) ∈ ms) (hv : vs[i]? = some (some v)) (h : Tk v fun v' => Q v' g ms) : W P n g ms (loadName env x) Q := by
  simp only [locAt, Bool.and_eq_true, beq_iff_eq] at hl
  refine ⟨fun A s R hA S => ?_⟩
  obtain ⟨m, hn, hq⟩ := (S.get (List.mem_append_left _ hm)).frame
  have hx := hq x
  rw [show frM sc vs x = some v by unfold frM; rw [hl.2]; show (vs[i]?).join = _; rw [hv]; rfl] at hx
  obtain ⟨v', e, e'⟩ := Option.map_eq_some_iff.mp hx
  exact wpAny_loadName_local (by rw [hE.scope]; exact hE.kind) (by unfold Env.kindOf; rw [hE.scope]; exact hl.1) (by rw [hE.locals]; exact hn) e ⟨g, ms, s.heap, s.toks, rfl, .refl _, S, h v' e'⟩
theorem w_st {i : Nat} {vs vs' : List (Option Value)} {ms' : Ms} {v : Value} {Q : Unit → Heap → Ms → Prop} (hE : Ev env sc L cs)
    (hl : locAt sc x i = true) (hm : Upd L (frR sc vs) (frR sc vs') ms ms') (hi : i < vs.length) (hv : vs.set i (some (er v)) = vs') (h : Q () g ms') : W P n g ms (storeName env x v) Q := by
  subst hv
  simp only [locAt, Bool.and_eq_true, beq_iff_eq] at hl
  refine ⟨fun A s R hA S => ?_⟩
  obtain ⟨m, hn, hq⟩ := (S.get (List.mem_append_left _ hm.mem)).frame
  have hL := hE.locals
  subst hL
  refine wpAny_storeName_local (by unfold Env.kindOf; rw [hE.scope]; exact hl.1) hn (fun h' hn' hs => ⟨g, ms', h', _, rfl, .refl _, S.upd (hm.app R) hs (At.ofFrame hn' fun y => ?_), h⟩) (by rw [hE.scope, hE.kind]; rfl)
  rw [frM_set hl.2 hi]
  dsimp only
  split
  · rfl
  · exact hq y
theorem At.cell {h : Heap} {a : Addr} {v : Option Value} (x : At h a (celR v)) : ∃ v', h.IsCell a v' ∧ v'.map er = v := by
  obtain ⟨o, e, v', d, q⟩ := x; exact ⟨v', ⟨o, e, d⟩, q⟩
theorem w_ldCell {c : Addr} {v : Value} {Q : Value → Heap → Ms → Prop} (hE : Ev env sc L cs)
    (hl : kindIs sc x .cell = true) (hc : cs.lookup x = some c) (hm : (c, celR (some v)) ∈ ms) (h : Tk v fun v' => Q v' g ms) : W P n g ms (loadName env x) Q := by
  simp only [kindIs, beq_iff_eq] at hl
  refine ⟨fun A s R hA S => ?_⟩
  obtain ⟨v', hn, hq⟩ := (S.get (List.mem_append_left _ hm)).cell
  obtain ⟨v'', e, e'⟩ := Option.map_eq_some_iff.mp hq
  subst e
  exact wpAny_loadName_cell (by rw [hE.scope]; exact hE.kind) (by unfold Env.kindOf; rw [hE.scope]; exact hl) (by rw [hE.cells]; exact hc) hn ⟨g, ms, s.heap, s.toks, rfl, .refl _, S, h v'' e'⟩
theorem w_stCell {c : Addr} {v₀ : Option Value} {ms' : Ms} {v : Value} {Q : Unit → Heap → Ms → Prop} (hE : Ev env sc L cs)
    (hl : kindIs sc x .cell = true) (hc : cs.lookup x = some c) (hm : Upd c (celR v₀) (celR (some (er v))) ms ms') (h : Q () g ms') : W P n g ms (storeName env x v) Q := by
  simp only [kindIs, beq_iff_eq] at hl
  refine ⟨fun A s R hA S => ?_⟩
  obtain ⟨v', hn, hq⟩ := (S.get (List.mem_append_left _ hm.mem)).cell
  refine wpAny_storeName_cell (by rw [hE.scope]; exact hE.kind) (by unfold Env.kindOf; rw [hE.scope]; exact hl) (by rw [hE.cells]; exact hc) hn fun h' hc' hs => ⟨g, ms', h', s.toks, rfl, .refl _, S.upd (hm.app R) hs ?_, h⟩
  obtain ⟨o, e, d⟩ := hc'
  exact ⟨o, e, some v, d, rfl⟩
/-- a global name that the program or the builtins bear -/
noncomputable def GlobIs (P : Setup) (x : Str) (v : Value) : Prop := P.mg x = some v ∨ (P.mg x = none ∧ P.mb x = some v)
theorem w_ldGlob {v : Value} {Q : Value → Heap → Ms → Prop} (hE : Ev env sc L cs)
    (hl : kindIs sc x .globalImplicit = true) (hv : GlobIs P x v) (h : Q v g ms) : W P n g ms (loadName env x) Q := by
  simp only [kindIs, beq_iff_eq] at hl
  refine ⟨fun A s R hA S => ?_⟩
  have b := S.base.le S.keep
  have hl' : env.kindOf x = some .globalImplicit := by unfold Env.kindOf; rw [hE.scope]; exact hl
  have hk' : env.scope.kind = .function := by rw [hE.scope]; exact hE.kind
  unfold loadName
  simp only [Env.blockKind, hk', hl', ScopeKind.isAnnotationScope, Bool.false_and, Bool.false_eq_true, if_false]
  rcases hv with hv | ⟨h1, h2⟩
  · exact loadGlobal_global (by rw [hE.globals]; exact b.gl) hv ⟨g, ms, s.heap, s.toks, rfl, .refl _, S, h⟩
  · exact loadGlobal_builtin (by rw [hE.globals]; exact b.gl) h1 (by rw [hE.builtins]; exact b.bl) h2 ⟨g, ms, s.heap, s.toks, rfl, .refl _, S, h⟩
end
end
end Mine
end
section
open PySem PySem.Calls PyProof.Rows
set_option Elab.async false
set_option autoImplicit false
set_option linter.unusedVariables false
namespace Mine

section
variable {P : Setup} {n : Nat} {g : Heap} {ms : Ms} {α β : Type} {env : Env}

theorem St.lose {h h' : Heap} {a : Addr} {r : Rs} (S : St P g ((a, r) :: ms) h) (hs : Heap.ExtBut a h h') : St P g ms h' := by
  have ga := (S.has (a, r) (.head _)).2
  have nd := List.nodup_cons.mp S.nodup
  refine ⟨S.base, fun b o e => ?_, fun p hp => ?_, nd.2⟩
  · have : b ≠ a := fun q => by rw [q] at e; rw [show g.get? a = none from ga] at e; cases e
    exact hs b o this (S.keep b o e)
  · obtain ⟨⟨o, e, q⟩, n⟩ := S.has p (.tail _ hp)
    exact ⟨⟨o, hs _ o (fun x => nd.1 (by show a ∈ _; rw [← x]; exact List.mem_map_of_mem (f := (·.1)) hp)) e, q⟩, n⟩

/-- an iterator of ours: what it gives, told by its turn -/
structure IterOk (P : Setup) (g0 : Heap) (I : Addr) (r : Nat → Rs) (N : Nat) (item : Nat → Value) : Prop where
  next : ∀ (n i : Nat) (g : Heap) (ms : Ms) (Q : Option Value → Heap → Ms → Prop), Le g0 g → i < N → (∀ v, er v = item i → Q (some v) g ((I, r (i + 1)) :: ms)) → W P n g ((I, r i) :: ms) (pyNext (.ref I)) Q
  stop : ∀ (n : Nat) (g : Heap) (ms : Ms) (Q : Option Value → Heap → Ms → Prop), Le g0 g → Q none g ms → W P n g ((I, r N) :: ms) (pyNext (.ref I)) Q
  self : ∀ (A : Around) (h : Heap) (s : Shared) (Q : Value → Shared → Prop), s.heap = h → At h I (r 0) → Q (.ref I) s → wpAny (model P.prog P.w) A (pyIter (.ref I)) Q (fun _ _ => False) s

/-- where the turns stand -/
noncomputable def TurnAt (P : Setup) (g : Heap) (s : Shared) (R : Ms) (I : Addr) (r : Nat → Rs) (N : Nat) (J : Nat → Heap → Ms → Prop) (k : Nat) (s' : Shared) : Prop :=
  ∃ i g' ms' h' tk, i + k = N ∧ s' = { s with heap := h', toks := tk } ∧ Le g g' ∧ St P g' (((I, r i) :: ms') ++ R) h' ∧ J i g' ms'

theorem forLoop_ {target : Expr} {body : List Stmt} {I : Addr} {r : Nat → Rs} {N : Nat} {item : Nat → Value} {J : Nat → Heap → Ms → Prop} {Q : Flow → Heap → Ms → Prop} (It : IterOk P g I r N item)
    (turn : ∀ i v g₁ ms₁, i < N → Le g g₁ → er v = item i → J i g₁ ms₁ → W P n g₁ ms₁ (assign target env v) (fun _ g₂ ms₂ => W P n g₂ ms₂ (execs body env) (fun f g₃ ms₃ => match f with
      | .next | .cont => J (i + 1) g₃ ms₃
      | .brk => Q .next g₃ ms₃
      | .ret v => Q (.ret v) g₃ ms₃)))
    (fin : ∀ g₁ ms₁, Le g g₁ → J N g₁ ms₁ → Q .next g₁ ms₁) (h0 : J 0 g ms)
    (ht : ∀ v, letOwnedTupleGo target (.ref I) v = pure () := by intro _; rfl) :
    WC P n g ((I, r 0) :: ms) (.forLoop target (.ref I) body [] env) Q := by
  refine ⟨fun A s R hA S => ?_⟩
  refine codeAny_forLoop (TurnAt P g s R I r N J) (fun k s' hI => ?_) N ⟨0, g, ms, s.heap, s.toks, Nat.zero_add _, rfl, .refl _, S, h0⟩ ht
  obtain ⟨i, g₁, ms₁, h', tk, hk, rfl, l, S₁, j⟩ := hI
  cases k with
  | zero =>
    have hi : i = N := hk
    subst hi
    refine wpAny_mono ((It.stop n g₁ ms₁ (fun v g' ms' => v = none ∧ g' = g₁ ∧ ms' = ms₁) l ⟨rfl, rfl, rfl⟩).run A _ R hA S₁) (fun v s₂ x => ?_) fun _ _ x => x.elim
    obtain ⟨g₂, ms₂, h₂, tk₂, rfl, l₂, S₂, rfl, rfl, rfl⟩ := x
    exact wpAny_execs_nil ⟨_, _, h₂, tk₂, rfl, l, S₂, fin _ _ l j⟩
  | succ k =>
    have hi : i < N := by (first | lia | omega)
    refine wpAny_mono ((It.next n i g₁ ms₁ (fun v g' ms' => ∃ x, v = some x ∧ er x = item i ∧ g' = g₁ ∧ ms' = (I, r (i + 1)) :: ms₁) l hi fun v e => ⟨v, rfl, e, rfl, rfl⟩).run A _ R hA S₁) (fun v s₂ x => ?_) fun _ _ x => x.elim
    obtain ⟨g₂, ms₂, h₂, tk₂, rfl, l₂, S₂, x, rfl, e, rfl, rfl⟩ := x
    have S₂' : St P g₂ (ms₁ ++ ((I, r (i + 1)) :: R)) h₂ := S₂.perm (by simpa using (List.perm_middle (l₁ := ms₁) (l₂ := R) (a := (I, r (i + 1)))).symm)
    dsimp only
    refine wpAny_mono ((turn i x g₂ ms₁ hi l e j).run A _ ((I, r (i + 1)) :: R) hA S₂') (fun _ s₃ x => ?_) fun _ _ x => x.elim
    obtain ⟨g₃, ms₃, h₃, tk₃, rfl, l₃, S₃, q⟩ := x
    refine wpAny_mono (q.run A _ ((I, r (i + 1)) :: R) hA S₃) (fun f s₄ x => ?_) fun _ _ x => x.elim
    obtain ⟨g₄, ms₄, h₄, tk₄, rfl, l₄, S₄, q⟩ := x
    have S₄' : St P g₄ (((I, r (i + 1)) :: ms₄) ++ R) h₄ := S₄.perm (by simpa using List.perm_middle (l₁ := ms₄) (l₂ := R) (a := (I, r (i + 1))))
    have S₄'' : St P g₄ (ms₄ ++ R) h₄ := S₄.drop ((List.append_sublist_append_left ms₄).mpr (List.sublist_cons_self _ _))
    have L : Le g g₄ := ((l.trans l₃).trans l₄)
    cases f with
    | next => exact ⟨k, Nat.lt_succ_self _, i + 1, g₄, ms₄, h₄, tk₄, by (first | lia | omega), rfl, L, S₄', q⟩
    | cont => exact ⟨k, Nat.lt_succ_self _, i + 1, g₄, ms₄, h₄, tk₄, by (first | lia | omega), rfl, L, S₄', q⟩
    | brk => exact ⟨g₄, ms₄, h₄, tk₄, rfl, L, S₄'', q⟩
    | ret v => exact ⟨g₄, ms₄, h₄, tk₄, rfl, L, S₄'', q⟩

theorem w_For {target iter : Expr} {body : List Stmt} {pos : Pos} {Q : Flow → Heap → Ms → Prop}
    (h : W P n g ms (eval iter env) (fun x g₁ ms₁ => W P n g₁ ms₁ (pyIter x) (fun it g₂ ms₂ => WC P n g₂ ms₂ (.forLoop target it body [] env) Q)))
    (hs : ∀ x, foldedSetIterable iter env x = pure x := by intro _; rfl) : W P n g ms (exec (.For target iter body [] pos) env) Q :=
  ⟨fun A s R hA S => wpAny_For (wpAny_mono (h.run A s R hA S) (fun _ _ b => wpAny_mono (b.go hA) (fun _ _ b => codeAny_mono (b.goC hA) fun r s' x => by
    cases r with
    | ok f => exact x
    | error e => exact x.elim) fun _ _ x => x) fun _ _ x => x) hs⟩

theorem w_While {test : Expr} {body : List Stmt} {pos : Pos} {J : Nat → Heap → Ms → Prop} {Q : Flow → Heap → Ms → Prop} (k : Nat) (h0 : J k g ms)
    (turn : ∀ k g₁ ms₁, Le g g₁ → J k g₁ ms₁ → W P n g₁ ms₁ (isTrue test env (eval test env)) (fun b g₂ ms₂ =>
      if b then W P n g₂ ms₂ (execs body env) (fun f g₃ ms₃ => match f with
        | .next | .cont => ∃ m, m < k ∧ J m g₃ ms₃
        | .brk => Q .next g₃ ms₃
        | .ret v => Q (.ret v) g₃ ms₃)
      else Q .next g₂ ms₂)) : W P n g ms (exec (.While test body [] pos) env) Q := by
  refine ⟨fun A s R hA S => wpAny_While ?_⟩
  refine codeAny_whileLoop (fun k s' => Back P g s R (fun (_ : Unit) => J k) () s') (fun k s' hI => ?_) k ⟨g, ms, s.heap, s.toks, rfl, .refl _, S, h0⟩
  obtain ⟨g₁, ms₁, h₁, tk₁, rfl, l₁, S₁, j⟩ := hI
  refine wpAny_mono ((turn k g₁ ms₁ l₁ j).run A _ R hA S₁) (fun b s₂ x => ?_) fun _ _ x => x.elim
  obtain ⟨g₂, ms₂, h₂, tk₂, rfl, l₂, S₂, q⟩ := x
  cases b with
  | false => exact wpAny_execs_nil ⟨g₂, ms₂, h₂, tk₂, rfl, l₁.trans l₂, S₂, q⟩
  | true =>
    refine wpAny_mono (W.run q A _ R hA S₂) (fun f s₃ x => ?_) fun _ _ x => x.elim
    obtain ⟨g₃, ms₃, h₃, tk₃, rfl, l₃, S₃, q⟩ := x
    have L : Le g g₃ := (l₁.trans l₂).trans l₃
    cases f with
    | next => obtain ⟨m, hm, j⟩ := q; exact ⟨m, hm, g₃, ms₃, h₃, tk₃, rfl, L, S₃, j⟩
    | cont => obtain ⟨m, hm, j⟩ := q; exact ⟨m, hm, g₃, ms₃, h₃, tk₃, rfl, L, S₃, j⟩
    | brk => exact ⟨g₃, ms₃, h₃, tk₃, rfl, L, S₃, q⟩
    | ret v => exact ⟨g₃, ms₃, h₃, tk₃, rfl, L, S₃, q⟩

/-! the iterators -/
noncomputable def litR (l : Addr) (i : Nat) : Rs := fun o => o.cls = .type "list_iterator" ∧ o.data = .fields #[.ref l, .int i 0]
theorem iter_list {l : Addr} {xs : List Value} (hl : At g l (lstR xs)) (I : Addr) : IterOk P g I (litR l) xs.length (fun i => xs.getD i .none) := by
  constructor
  · intro n i g₁ ms Q le hi h
    refine ⟨fun A s R hA S => ?_⟩
    obtain ⟨o, e, c, d⟩ := S.get (List.mem_append_left _ (.head _))
    obtain ⟨ys, hL, hq⟩ := (hl.le (le.trans S.keep)).list
    have hlen : ys.size = xs.length := by rw [← hq]; simp
    have hx : ys[i]? = some (ys[i]'(by (first | lia | omega))) := Array.getElem?_eq_getElem _
    refine wpAny_pyNext_list_item ⟨o, e, c, d⟩ hL hx fun h' hI hs => ⟨g₁, _, h', s.toks, rfl, .refl _, S.upd ((Upd.head (l := ms)).app R) hs ?_, h _ ?_⟩
    · obtain ⟨o', e', c', d'⟩ := hI; exact ⟨o', e', c', d'⟩
    · subst hq
      rw [List.getD_eq_getElem?_getD, List.getElem?_map, Array.getElem?_toList, hx]; rfl
  · intro n g₁ ms Q le h
    refine ⟨fun A s R hA S => ?_⟩
    obtain ⟨o, e, c, d⟩ := S.get (List.mem_append_left _ (.head _))
    obtain ⟨ys, hL, hq⟩ := (hl.le (le.trans S.keep)).list
    have hlen : ys.size = xs.length := by rw [← hq]; simp
    refine wpAny_pyNext_list_end hA.2.2 ⟨o, e, c, d⟩ hL (by rw [Array.getElem?_eq_none]; (first | lia | omega)) fun h' hs => ⟨g₁, ms, h', s.toks, rfl, .refl _, ?_, h⟩
    exact St.lose (ms := ms ++ R) S hs
  · rintro A h s Q rfl ⟨o, e, c, d⟩ q
    exact wpAny_pyIter_listiter ⟨o, e, c, d⟩ q
theorem w_iterList {l : Addr} {xs : List Value} {Q : Value → Heap → Ms → Prop} (hl : At g l (lstR xs)) (h : ∀ I, IterOk P g I (litR l) xs.length (fun i => xs.getD i .none) → Q (.ref I) g ((I, litR l 0) :: ms)) :
    W P n g ms (pyIter (.ref l)) Q := by
  refine ⟨fun A s R hA S => ?_⟩
  obtain ⟨ys, hL, hq⟩ := (hl.le S.keep).list
  exact wpAny_pyIter_list hL ⟨g, _, _, s.toks, rfl, .refl _, S.push rfl ⟨rfl, rfl⟩, h _ (iter_list hl _)⟩

noncomputable def titR (l : Addr) (i : Nat) : Rs := fun o => o.cls = .type "tuple_iterator" ∧ o.data = .fields #[.ref l, .int i 0]
theorem iter_tuple {l : Addr} {xs : List Value} (hl : At g l (tupR xs)) (I : Addr) : IterOk P g I (titR l) xs.length (fun i => xs.getD i .none) := by
  constructor
  · intro n i g₁ ms Q le hi h
    refine ⟨fun A s R hA S => ?_⟩
    obtain ⟨o, e, c, d⟩ := S.get (List.mem_append_left _ (.head _))
    obtain ⟨ys, hL, hq⟩ := (hl.le (le.trans S.keep)).tup
    have hlen : ys.size = xs.length := by rw [← hq]; simp
    have hx : ys[i]? = some (ys[i]'(by (first | lia | omega))) := Array.getElem?_eq_getElem _
    refine wpAny_pyNext_tuple_item ⟨o, e, c, d⟩ hL hx fun h' hI hs => ⟨g₁, _, h', s.toks, rfl, .refl _, S.upd ((Upd.head (l := ms)).app R) hs ?_, h _ ?_⟩
    · obtain ⟨o', e', c', d'⟩ := hI; exact ⟨o', e', c', d'⟩
    · subst hq
      rw [List.getD_eq_getElem?_getD, List.getElem?_map, Array.getElem?_toList, hx]; rfl
  · intro n g₁ ms Q le h
    refine ⟨fun A s R hA S => ?_⟩
    obtain ⟨o, e, c, d⟩ := S.get (List.mem_append_left _ (.head _))
    obtain ⟨ys, hL, hq⟩ := (hl.le (le.trans S.keep)).tup
    have hlen : ys.size = xs.length := by rw [← hq]; simp
    refine wpAny_pyNext_tuple_end hA.2.2 ⟨o, e, c, d⟩ hL (by rw [Array.getElem?_eq_none]; (first | lia | omega)) fun h' hs => ⟨g₁, ms, h', s.toks, rfl, .refl _, ?_, h⟩
    exact St.lose (ms := ms ++ R) S hs
  · rintro A h s Q rfl ⟨o, e, c, d⟩ q
    exact wpAny_pyIter_tupleiter ⟨o, e, c, d⟩ q
theorem w_iterTuple {l : Addr} {xs : List Value} {Q : Value → Heap → Ms → Prop} (hl : At g l (tupR xs)) (h : ∀ I, IterOk P g I (titR l) xs.length (fun i => xs.getD i .none) → Q (.ref I) g ((I, titR l 0) :: ms)) :
    W P n g ms (pyIter (.ref l)) Q := by
  refine ⟨fun A s R hA S => ?_⟩
  obtain ⟨ys, hL, hq⟩ := (hl.le S.keep).tup
  exact wpAny_pyIter_tuple hL ⟨g, _, _, s.toks, rfl, .refl _, S.push rfl ⟨rfl, rfl⟩, h _ (iter_tuple hl _)⟩

/-- a range by ones -/
noncomputable def rngR (a b : Int) : Rs := fun o => ∃ t u v, o = { cls := .type "range", dict := none, data := .fields #[.int a t, .int b u, .int 1 v], slots := #[] }
noncomputable def ritR (a b : Int) (i : Nat) : Rs := fun o => o = { cls := .type "range_iterator", dict := none, data := .fields #[rawInt (a + i), rawInt (b - a - i), rawInt 1], slots := #[] }
theorem iter_range (a b : Int) (N : Nat) (hN : (N : Int) = if a < b then b - a else 0) (I : Addr) : IterOk P g I (fun i o => o = { cls := .type "range_iterator", dict := none, data := .fields #[rawInt (a + i), rawInt (N - i), rawInt 1], slots := #[] }) N (fun i => .int (a + i) 0) := by
  constructor
  · intro n i g₁ ms Q le hi h
    refine ⟨fun A s R hA S => ?_⟩
    obtain ⟨o, e, rfl⟩ := S.get (List.mem_append_left _ (.head _))
    refine wpAny_pyNext_range_item e (by (first | lia | omega)) fun h' hI hs => ⟨g₁, _, h', s.toks + 1, rfl, .refl _, S.upd ((Upd.head (l := ms)).app R) hs ⟨_, hI, ?_⟩, h _ rfl⟩
    rw [show a + (i : Int) + 1 = a + ((i + 1 : Nat) : Int) by (first | lia | omega), show (N : Int) - (i : Int) - 1 = N - ((i + 1 : Nat) : Int) by (first | lia | omega)]
  · intro n g₁ ms Q le h
    refine ⟨fun A s R hA S => ?_⟩
    obtain ⟨o, e, rfl⟩ := S.get (List.mem_append_left _ (.head _))
    refine wpAny_pyNext_range_end hA.2.2 e (by (first | lia | omega)) fun h' hs => ⟨g₁, ms, h', s.toks, rfl, .refl _, ?_, h⟩
    exact St.lose (ms := ms ++ R) S hs
  · rintro A h s Q rfl ⟨o, e, rfl⟩ q
    exact wpAny_pyIter_rangeiter e q
/-- range(b), range(a, b): made and walked, the range itself forgotten -/
theorem w_callRange1 {b : Int} {t : Tok} {Q : Value → Heap → Ms → Prop} (h : ∀ a, Q (.ref a) g ((a, rngR 0 b) :: ms)) : W P n g ms (call (.type "range") [.int b t]) Q :=
  ⟨fun A s R hA S => call_range_1 ⟨g, _, _, _, rfl, .refl _, S.push rfl ⟨_, _, _, rfl⟩, h _⟩⟩
theorem w_callRange2 {a b : Int} {t u : Tok} {Q : Value → Heap → Ms → Prop} (h : ∀ r, Q (.ref r) g ((r, rngR a b) :: ms)) : W P n g ms (call (.type "range") [.int a t, .int b u]) Q :=
  ⟨fun A s R hA S => call_range_2 ⟨g, _, _, _, rfl, .refl _, S.push rfl ⟨_, _, _, rfl⟩, h _⟩⟩
theorem w_iterRange {r : Addr} {a b : Int} {N : Nat} {Q : Value → Heap → Ms → Prop} (hN : (N : Int) = if a < b then b - a else 0) (ha : -(2 ^ 62) ≤ a) (ha' : a < 2 ^ 62) (hb : -(2 ^ 62) ≤ b) (hb' : b < 2 ^ 62)
    (h : ∀ I r, IterOk P g I r N (fun i => .int (a + i) 0) → Q (.ref I) g ((I, r 0) :: ms)) : W P n g ((r, rngR a b) :: ms) (pyIter (.ref r)) Q := by
  refine ⟨fun A s R hA S => ?_⟩
  obtain ⟨o, e, t, u, v, rfl⟩ := S.get (List.mem_append_left _ (.head _))
  refine wpAny_pyIter_range e (small_one ha ha' hb hb') ⟨g, _, _, s.toks, rfl, .refl _, St.push (ms := ms ++ R) (S.drop (List.sublist_cons_self _ _)) rfl ?_, h _ _ (iter_range a b N hN _)⟩
  rw [rangeSize_one, ← hN]
  simp

/-- the signs of a text below 128 -/
noncomputable def sitR (x : Str) (i : Nat) : Rs := fun o => o.cls = .type "str_ascii_iterator" ∧ ∃ t, o.data = .fields #[.str x t, .int i 0]
theorem iter_str (x : Str) (I : Addr) : IterOk P g I (sitR x) x.cps.size (fun i => .str ⟨#[x.cps.getD i 0]⟩ 0) := by
  constructor
  · intro n i g₁ ms Q le hi h
    refine ⟨fun A s R hA S => ?_⟩
    obtain ⟨o, e, c, t, d⟩ := S.get (List.mem_append_left _ (.head _))
    have hx : x.cps[i]? = some (x.cps.getD i 0) := by rw [Array.getD_eq_getD_getElem?, Array.getElem?_eq_getElem hi]; rfl
    refine wpAny_pyNext_ascii_item ⟨o, e, c, d⟩ hx fun h' hI hs => ⟨g₁, _, h', s.toks + 1, rfl, .refl _, S.upd ((Upd.head (l := ms)).app R) hs ?_, h _ rfl⟩
    obtain ⟨o', e', c', d'⟩ := hI; exact ⟨o', e', c', t, d'⟩
  · intro n g₁ ms Q le h
    refine ⟨fun A s R hA S => ?_⟩
    obtain ⟨o, e, c, t, d⟩ := S.get (List.mem_append_left _ (.head _))
    refine wpAny_pyNext_ascii_end hA.2.2 ⟨o, e, c, d⟩ (Array.getElem?_eq_none (Nat.le_refl _)) fun h' hs => ⟨g₁, ms, h', s.toks, rfl, .refl _, ?_, h⟩
    exact St.lose (ms := ms ++ R) S hs
  · rintro A h s Q rfl ⟨o, e, c, t, d⟩ q
    exact wpAny_pyIter_striter_ascii ⟨o, e, c, d⟩ q
theorem w_iterStr {x : Str} {t : Tok} {Q : Value → Heap → Ms → Prop} (ha : x.cps.all (· < 128) = true) (h : ∀ I, IterOk P g I (sitR x) x.cps.size (fun i => .str ⟨#[x.cps.getD i 0]⟩ 0) → Q (.ref I) g ((I, sitR x 0) :: ms)) :
    W P n g ms (pyIter (.str x t)) Q :=
  ⟨fun A s R hA S => wpAny_pyIter_ascii ha ⟨g, _, _, s.toks, rfl, .refl _, S.push rfl ⟨rfl, t, rfl⟩, h _ (iter_str x _)⟩⟩

noncomputable def bitR (b : Array UInt8) (i : Nat) : Rs := fun o => o.cls = .type "bytes_iterator" ∧ ∃ t, o.data = .fields #[.bytes b t, .int i 0]
theorem iter_bytes (b : Array UInt8) (I : Addr) : IterOk P g I (bitR b) b.size (fun i => .int ((b.getD i 0).toNat : Int) 0) := by
  constructor
  · intro n i g₁ ms Q le hi h
    refine ⟨fun A s R hA S => ?_⟩
    obtain ⟨o, e, c, t, d⟩ := S.get (List.mem_append_left _ (.head _))
    have hx : b[i]? = some (b.getD i 0) := by rw [Array.getD_eq_getD_getElem?, Array.getElem?_eq_getElem hi]; rfl
    refine PySem.W.KBw.next_item ⟨o, e, c, d⟩ hx fun h' hI hs => ⟨g₁, _, h', s.toks + 1, rfl, .refl _, S.upd ((Upd.head (l := ms)).app R) hs ?_, h _ rfl⟩
    obtain ⟨o', e', c', d'⟩ := hI; exact ⟨o', e', c', t, d'⟩
  · intro n g₁ ms Q le h
    refine ⟨fun A s R hA S => ?_⟩
    obtain ⟨o, e, c, t, d⟩ := S.get (List.mem_append_left _ (.head _))
    refine PySem.W.KBw.next_end hA.2.2 ⟨o, e, c, d⟩ (Array.getElem?_eq_none (Nat.le_refl _)) fun h' hs => ⟨g₁, ms, h', s.toks, rfl, .refl _, ?_, h⟩
    exact St.lose (ms := ms ++ R) S hs
  · rintro A h s Q rfl ⟨o, e, c, t, d⟩ q
    exact PySem.W.KBw.pyIter_self ⟨o, e, c, d⟩ q
theorem w_iterBytes {b : Array UInt8} {t : Tok} {Q : Value → Heap → Ms → Prop} (h : ∀ I, IterOk P g I (bitR b) b.size (fun i => .int ((b.getD i 0).toNat : Int) 0) → Q (.ref I) g ((I, bitR b 0) :: ms)) :
    W P n g ms (pyIter (.bytes b t)) Q :=
  ⟨fun A s R hA S => PySem.W.KBw.pyIter_bytes ⟨g, _, _, s.toks, rfl, .refl _, S.push rfl ⟨rfl, t, rfl⟩, h _ (iter_bytes b _)⟩⟩
end
end Mine
end
section
open PySem PySem.Calls PyProof.Rows
set_option Elab.async false
set_option autoImplicit false
set_option linter.unusedVariables false
namespace Mine

section
variable {P : Setup} {n : Nat} {g : Heap} {ms : Ms} {α β : Type} {env : Env}

/-! calls of the program's own functions -/
/-- a def of the program: its parts -/
structure Df where
  name : Str
  qual : Str
  params : Arguments
  body : List Stmt
  scope : Scope
/-- the function stands at f -/
structure FnIs (P : Setup) (f : Addr) (d : Df) : Prop where
  look : ∃ pm cd ann doc nm, P.K.lookup f = some ⟨.type "function", none, .func { name := nm, qualname := d.qual, params := d.params, body := .stmts d.body, scope := d.scope, globals := mainGlobals, closure := [], defaults := .none, kwdefaults := .none, doc := doc, pyModule := pm, annotations := ann, code := cd, closureTuple := .none, builtins := builtinsNs }, #[]⟩ ∧ PySem.W.codeIn P.K cd d.qual = true

theorem FnIs.kept {f : Addr} {d : Df} (x : FnIs P f d) : Kept P (.ref f) := by
  obtain ⟨pm, cd, ann, doc, nm, h, _⟩ := x.look
  exact Kept.fn h rfl

/-- the frame that the arguments fill -/
noncomputable def startVs (sc : Scope) (binds : List (Str × Value)) : List (Option Value) := sc.names.map fun p => if p.2 == .local then ((binds.lookup p.1).map er) else none
noncomputable def cellsOf (sc : Scope) (L : Addr) : List (Str × Addr) := cellsFrom (L + 1) sc.names []
noncomputable def cellMs (binds : List (Str × Value)) (cs : List (Str × Addr)) : Ms := cs.map fun p => (p.2, celR ((binds.lookup p.1).map er))

/-- the body has come back: what the call gives -/
noncomputable def RetQ (Q : Value → Heap → Ms → Prop) : Flow → Heap → Ms → Prop
  | .ret v => Q v
  | .next => Q .none
  | .brk => Q .none
  | .cont => Q .none

theorem lookup_rev_of_nodup {binds : List (Str × Value)} (hd : (binds.map (·.1)).Nodup) (x : Str) : binds.reverse.lookup x = binds.lookup x := by
  induction binds with
  | nil => rfl
  | cons p r ih =>
    obtain ⟨k, v⟩ := p
    have nd := List.nodup_cons.mp hd
    rw [List.reverse_cons, List.lookup_append, ih nd.2, List.lookup_cons, List.lookup_cons, List.lookup_nil]
    cases hx : x == k with
    | false => simp
    | true =>
      have : x = k := beq_iff_eq.mp hx
      subst this
      have : r.lookup x = none := by
        cases e : r.lookup x with
        | none => rfl
        | some v' => exact absurd (List.mem_map_of_mem (f := (·.1)) (mem_of_lookup e)) nd.1
      rw [this]; simp

theorem lookup_getElem {α : Type} {l : List (Str × α)} (hnd : (l.map (·.1)).Nodup) {i : Nat} (h : i < l.length) : l.lookup l[i].1 = some l[i].2 := by
  induction l generalizing i with
  | nil => cases h
  | cons p r ih =>
    obtain ⟨k, v⟩ := p
    have nd := List.nodup_cons.mp hnd
    cases i with
    | zero => simp
    | succ i =>
      have h' : i < r.length := by simpa using h
      have : (r[i].1 == k) = false := by
        rw [beq_eq_false_iff_ne]
        intro e
        exact nd.1 (by rw [← e]; exact List.mem_map_of_mem (f := (·.1)) (List.getElem_mem h'))
      simp only [List.getElem_cons_succ, List.lookup_cons, this]
      exact ih nd.2 h'
theorem frM_start {sc : Scope} {binds : List (Str × Value)} (hnd : (sc.names.map (·.1)).Nodup) (x : Str) :
    frM sc (startVs sc binds) x = if sc.names.lookup x = some .local then (binds.lookup x).map er else none := by
  unfold frM startVs placeOf
  cases hp : sc.names.findIdx? (fun p => p.1 == x) with
  | none =>
    dsimp only
    have : sc.names.lookup x = none := by
      cases e : sc.names.lookup x with
      | none => rfl
      | some k =>
        have m := mem_of_lookup e
        rw [List.findIdx?_eq_none_iff] at hp
        have := hp _ m
        simp at this
    rw [this]; rfl
  | some i =>
    dsimp only
    rw [List.findIdx?_eq_some_iff_getElem] at hp
    obtain ⟨l, q, _⟩ := hp
    rw [List.getElem?_map, List.getElem?_eq_getElem l]
    simp only [Option.map_some, Option.join_some]
    have hx : sc.names[i].1 = x := beq_iff_eq.mp q
    have hl := lookup_getElem hnd l
    rw [hx] at hl
    rw [hl, hx]
    by_cases hk : sc.names[i].2 = .local
    · rw [if_pos (by rw [hk]; rfl), if_pos (by rw [hk])]
    · rw [if_neg (by simpa using hk), if_neg (by simpa using hk)]
theorem bindL_eq (k : Str → Option NameKind) (y : Str) : ∀ (binds : List (Str × Value)) (m : Str → Option Value), bindL k binds m y = if k y = some .local then (binds.reverse.lookup y).or (m y) else m y
  | [], m => by simp [bindL]
  | (a, v) :: r, m => by
    rw [bindL, bindL_eq k y r]
    by_cases hy : k y = some .local
    · rw [if_pos hy, if_pos hy, List.reverse_cons, List.lookup_append, Option.or_assoc]
      congr 1
      by_cases ha : y = a
      · subst ha; rw [if_pos hy]; simp [List.lookup_cons]
      · have : (y == a) = false := beq_eq_false_iff_ne.mpr ha
        simp only [List.lookup_cons, this, List.lookup_nil, Option.none_or]
        split
        · exact if_neg ha
        · rfl
    · rw [if_neg hy, if_neg hy]
      split
      · rename_i ha
        exact if_neg fun (e : y = a) => hy (by rw [e]; exact ha)
      · rfl
theorem bindC_eq (k : Str → Option NameKind) (y : Str) : ∀ (binds : List (Str × Value)) (m : Str → Option Value), bindC k binds m y = if k y = some .local then m y else (binds.reverse.lookup y).or (m y)
  | [], m => by simp [bindC]
  | (a, v) :: r, m => by
    rw [bindC, bindC_eq k y r]
    by_cases hy : k y = some .local
    · rw [if_pos hy, if_pos hy]
      split
      · rfl
      · rename_i ha
        exact if_neg fun (e : y = a) => ha (by rw [← e]; exact hy)
    · rw [if_neg hy, if_neg hy, List.reverse_cons, List.lookup_append, Option.or_assoc]
      congr 1
      by_cases ha : y = a
      · subst ha; rw [if_neg hy]; simp [List.lookup_cons]
      · have : (y == a) = false := beq_eq_false_iff_ne.mpr ha
        simp only [List.lookup_cons, this, List.lookup_nil, Option.none_or]
        split
        · rfl
        · exact if_neg ha
theorem cellsFrom_fst : ∀ (names : List (Str × NameKind)) (n : Nat) (acc : List (Str × Addr)), (cellsFrom n names acc).map (·.1) = ((names.filter (·.2 == .cell)).map (·.1)).reverse ++ acc.map (·.1)
  | [], n, acc => by simp [cellsFrom]
  | (a, k) :: r, n, acc => by
    unfold cellsFrom
    by_cases hk : (k == .cell) = true
    · rw [if_pos hk, cellsFrom_fst r]
      simp [List.filter_cons, hk]
    · rw [if_neg hk, cellsFrom_fst r]
      simp [List.filter_cons, hk]
theorem cellsOf_nodup {sc : Scope} (hnd : (sc.names.map (·.1)).Nodup) (L : Addr) : ((cellsOf sc L).map (·.1)).Nodup := by
  unfold cellsOf
  rw [cellsFrom_fst]
  simp only [List.map_nil, List.append_nil]
  exact (List.reverse_perm _).nodup_iff.mpr ((List.Sublist.map _ List.filter_sublist).nodup hnd)
theorem lookup_of_mem_nodup {α : Type} {l : List (Str × α)} (hnd : (l.map (·.1)).Nodup) {p : Str × α} (h : p ∈ l) : l.lookup p.1 = some p.2 := by
  obtain ⟨i, hi, rfl⟩ := List.getElem_of_mem h
  exact lookup_getElem hnd hi

theorem wc_callFn {f : Addr} {d : Df} {args : List Value} {binds : List (Str × Value)} {Q : Value → Heap → Ms → Prop} (hf : FnIs P f d)
    (hbind : ∀ fd : FuncData, fd.params = d.params → fd.defaults = .none → fd.kwdefaults = .none → bindArgs fd ⟨args, []⟩ = pure binds)
    (hloc : ∀ p ∈ binds, d.scope.names.lookup p.1 = some .local) (hcell : ∀ p ∈ d.scope.names, p.2 ≠ .cell) (hnd : (d.scope.names.map (·.1)).Nodup) (hbd : (binds.map (·.1)).Nodup)
    (hsc : d.scope.kind = .function ∧ d.scope.isCoroutine = false ∧ d.scope.isGenerator = false)
    (h : ∀ env L, Ev env d.scope L [] → W P n g ((L, frR d.scope (startVs d.scope binds)) :: ms) (execs d.body env) (RetQ Q)) : WC P (n + 1) g ms (.call (.ref f) ⟨args, []⟩) (fun fl g' ms' => ∃ v, fl = .ret v ∧ Q v g' ms') := by
  obtain ⟨pm, cd, ann, doc, nm, hl, hcd⟩ := hf.look
  refine ⟨fun A s R hA S => ?_⟩
  have X : P.K.In s.heap := S.base.own.keeps S.keep
  have hbd' := hbind { name := nm, qualname := d.qual, params := d.params, body := .stmts d.body, scope := d.scope, globals := mainGlobals, closure := [], defaults := .none, kwdefaults := .none, doc := doc, pyModule := pm, annotations := ann, code := cd, closureTuple := .none, builtins := builtinsNs } rfl rfl rfl
  refine codeAny_call_def (fd := _) (body := d.body) (binds := binds) hA.depth (X _ _ hl) rfl (S.base.nolimit.keeps S.keep) (PySem.W.codeRec_of X hcd) rfl
    (fun M A E Q' hq => by rw [hbd']; exact wpAny_pure hq) hcell hloc (fun h₀ hns hk => ?_) hsc.2.1 hsc.2.2 hsc.1
  have hg : s.heap.get? s.heap.objs.size = none := by
    cases e : s.heap.get? s.heap.objs.size with
    | none => rfl
    | some o' => exact absurd (Heap.lt_size e) (Nat.lt_irrefl _)
  have S₁ : St P g ((s.heap.objs.size, frR d.scope (startVs d.scope binds)) :: (ms ++ R)) h₀ :=
    S.new hk hg (At.ofFrame hns fun y => by
      rw [lookup_rev_of_nodup hbd, frM_start hnd]
      cases e : binds.lookup y with
      | none => simp
      | some v => rw [if_pos (hloc _ (mem_of_lookup e))])
  refine wpAny_mono ((h (callEnv _ s.heap.objs.size f) s.heap.objs.size ⟨rfl, rfl, rfl, rfl, rfl, hsc.1⟩).run _ _ R (hA.deeper _) S₁) (fun fl s' x => ?_) fun _ _ x => x.elim
  obtain ⟨g', ms', h', tk, rfl, l, S', q⟩ := x
  refine ⟨g', ms', h', tk, rfl, l, S', ?_⟩
  cases fl <;> exact ⟨_, rfl, q⟩

/-- a function whose comprehensions read its names -/
theorem w_callFnC {f : Addr} {d : Df} {args : List Value} {binds : List (Str × Value)} {Q : Value → Heap → Ms → Prop} (hf : FnIs P f d)
    (hbind : ∀ fd : FuncData, fd.params = d.params → fd.defaults = .none → fd.kwdefaults = .none → bindArgs fd ⟨args, []⟩ = pure binds)
    (hloc : ∀ p ∈ binds, d.scope.names.lookup p.1 = some .local ∨ d.scope.names.lookup p.1 = some .cell) (hnd : (d.scope.names.map (·.1)).Nodup) (hbd : (binds.map (·.1)).Nodup)
    (hsc : d.scope.kind = .function ∧ d.scope.isCoroutine = false ∧ d.scope.isGenerator = false)
    (h : ∀ env L, Ev env d.scope L (cellsOf d.scope L) → W P n g (((L, frR d.scope (startVs d.scope binds)) :: cellMs binds (cellsOf d.scope L)) ++ ms) (execs d.body env) (RetQ Q)) : W P (n + 1) g ms (call (.ref f) args) Q := by
  obtain ⟨pm, cd, ann, doc, nm, hl, hcd⟩ := hf.look
  refine ⟨fun A s R hA S => ?_⟩
  have X : P.K.In s.heap := S.base.own.keeps S.keep
  have hbd' := hbind { name := nm, qualname := d.qual, params := d.params, body := .stmts d.body, scope := d.scope, globals := mainGlobals, closure := [], defaults := .none, kwdefaults := .none, doc := doc, pyModule := pm, annotations := ann, code := cd, closureTuple := .none, builtins := builtinsNs } rfl rfl rfl
  refine wpAny_call (codeAny_call_function (body := d.body) hA.depth (X _ _ hl) rfl hsc.2.1 hsc.2.2 rfl (PySem.W.codeRec_of X hcd) ?_)
  rw [hbd']
  have hnd' : ∀ L, ((cellsOf d.scope L).map (·.1)).Nodup := cellsOf_nodup hnd
  refine wpAny_pure (wpAny_newFunctionEnv_cells hsc.1 (fun p hp => ?_) fun env he s' x => ?_)
  · rcases hloc p hp with e | e
    · exact .inl e
    · refine .inr ⟨e, ?_⟩
      have m : p.1 ∈ (cellsOf d.scope s.heap.objs.size).map (·.1) := by
        unfold cellsOf
        rw [cellsFrom_fst]
        simp only [List.map_nil, List.append_nil, List.mem_reverse]
        exact List.mem_map.mpr ⟨(p.1, .cell), List.mem_filter.mpr ⟨mem_of_lookup e, rfl⟩, rfl⟩
      obtain ⟨q, hq, e'⟩ := List.mem_map.mp m
      have := lookup_of_mem_nodup (hnd' _) hq
      rw [e'] at this
      show ((cellsOf d.scope s.heap.objs.size).lookup p.1).isSome = true
      rw [this]; rfl
  · subst he
    obtain ⟨h₁, tk₁, rfl⟩ := x.toInCall.same
    have hs0 : ∀ a, s.heap.objs.size ≤ a → s.heap.get? a = none := fun a ha => by
      cases e : s.heap.get? a with
      | none => rfl
      | some o' => exact absurd (Heap.lt_size e) (Nat.not_lt.mpr ha)
    have hgN : ∀ a, s.heap.get? a = none → g.get? a = none := fun a ha => by
      cases e : g.get? a with
      | none => rfl
      | some o => rw [S.keep _ _ e] at ha; cases ha
    have hmN : ∀ a, s.heap.get? a = none → a ∉ (ms ++ R).map (·.1) := fun a ha m => by
      obtain ⟨p, hp, e⟩ := List.mem_map.mp m
      obtain ⟨⟨o, q, _⟩, _⟩ := S.has p hp
      rw [e, ha] at q; cases q
    have S₁ : St P g (((s.heap.objs.size, frR d.scope (startVs d.scope binds)) :: cellMs binds (cellsOf d.scope s.heap.objs.size)) ++ (ms ++ R)) h₁ := by
      have hL := hs0 _ (Nat.le_refl _)
      have hcell : ∀ p ∈ cellsOf d.scope s.heap.objs.size, s.heap.objs.size < p.2 := fun p hp => x.above p.1 p.2 hp
      refine ⟨S.base, S.keep.trans x.toInCall.keep, fun p hp => ?_, ?_⟩
      · rcases List.mem_append.mp hp with hp | hp
        · rcases List.mem_cons.mp hp with rfl | hp
          · refine ⟨At.ofFrame x.toInCall.ns fun y => ?_, hgN _ hL⟩
            rw [frM_start hnd, bindL_eq, lookup_rev_of_nodup hbd, Option.or_none]
            show Option.map er (if d.scope.names.lookup y = some .local then _ else _) = _
            split <;> rfl
          · obtain ⟨q, hq, rfl⟩ := List.mem_map.mp hp
            refine ⟨?_, hgN _ (hs0 _ (Nat.le_of_lt (hcell q hq)))⟩
            obtain ⟨o, e, dd⟩ := x.cell q.1 q.2 (lookup_of_mem_nodup (hnd' _) hq)
            refine ⟨o, e, _, dd, ?_⟩
            rw [bindC_eq, lookup_rev_of_nodup hbd, Option.or_none]
            show Option.map er (if d.scope.names.lookup q.1 = some .local then _ else _) = _
            rw [if_neg]
            intro e'
            have m : q.1 ∈ (cellsOf d.scope s.heap.objs.size).map (·.1) := List.mem_map_of_mem hq
            unfold cellsOf at m
            rw [cellsFrom_fst] at m
            simp only [List.map_nil, List.append_nil, List.mem_reverse] at m
            obtain ⟨z, hz, ez⟩ := List.mem_map.mp m
            obtain ⟨hz, hc⟩ := List.mem_filter.mp hz
            have := lookup_of_mem_nodup hnd hz
            rw [ez, e'] at this
            rw [← Option.some.inj this] at hc
            cases hc
        · exact ⟨(S.has p hp).1.le x.toInCall.keep, (S.has p hp).2⟩
      · rw [List.map_append, List.map_cons, List.nodup_append]
        refine ⟨List.nodup_cons.mpr ⟨fun m => ?_, ?_⟩, S.nodup, fun a ha b hb e => ?_⟩
        · obtain ⟨p, hp, e⟩ := List.mem_map.mp m
          obtain ⟨q, hq, rfl⟩ := List.mem_map.mp hp
          have := hcell q hq
          simp only at e
          rw [e] at this
          exact Nat.lt_irrefl _ this
        · unfold cellMs
          rw [List.map_map]
          exact List.pairwise_map.mpr x.apart
        · subst e
          rcases List.mem_cons.mp ha with rfl | ha
          · exact hmN _ hL hb
          · obtain ⟨p, hp, rfl⟩ := List.mem_map.mp ha
            obtain ⟨q, hq, rfl⟩ := List.mem_map.mp hp
            exact hmN _ (hs0 _ (Nat.le_of_lt (hcell q hq))) hb
    refine ⟨(S.base.nolimit.keeps S.keep).keeps x.toInCall.keep, codeAny_func ?_⟩
    have S₂ : St P g ((((s.heap.objs.size, frR d.scope (startVs d.scope binds)) :: cellMs binds (cellsOf d.scope s.heap.objs.size)) ++ ms) ++ R) h₁ := by rw [List.append_assoc]; exact S₁
    refine wpAny_mono ((h (newEnv d.scope s.heap.objs.size mainGlobals (cellsFrom (s.heap.objs.size + 1) d.scope.names []) (d.qual ++ ".<locals>.") (some f) cd none builtinsNs) s.heap.objs.size ⟨rfl, rfl, rfl, rfl, rfl, hsc.1⟩).run _ _ R (hA.deeper _) S₂) (fun fl s' x => ?_) fun _ _ x => x.elim
    obtain ⟨g', ms', h', tk, rfl, l, S', q⟩ := x
    refine ⟨g', ms', h', tk, rfl, l, S', ?_⟩
    cases fl <;> exact q

/-! comprehensions -/
noncomputable def clOf (cs : List (Str × Addr)) : List (Str × NameKind) → List (Str × Addr) → Option (List (Str × Addr))
  | [], acc => some acc
  | (a, k) :: r, acc => if k == .free then (match cs.lookup a with | some c => clOf cs r ((a, c) :: acc) | none => none) else clOf cs r acc
theorem closure_ev {scope sc : Scope} {L : Addr} {cs cl : List (Str × Addr)} (hE : Ev env sc L cs) (h : clOf cs scope.names [] = some cl) : closureFor scope env = pure cl := by
  have key : ∀ (names : List (Str × NameKind)) (acc : List (Str × Addr)), clOf cs names acc = some cl →
      (forIn names acc fun (x : Str × NameKind) (r : List (Str × Addr)) => (if (x.2 == NameKind.free) = true then do let c ← cellOf env x.1; pure (ForInStep.yield ((x.1, c) :: r)) else pure (ForInStep.yield r) : Sem (ForInStep (List (Str × Addr))))) = pure cl := by
    intro names
    induction names with
    | nil => intro acc h; simp only [clOf] at h; rw [List.forIn_nil, Option.some.inj h]
    | cons p r ih =>
      intro acc h
      obtain ⟨a, k⟩ := p
      rw [List.forIn_cons]
      unfold clOf at h
      by_cases hk : (k == .free) = true
      · rw [if_pos hk] at h
        simp only [hk, if_true]
        cases e : cs.lookup a with
        | none => rw [e] at h; cases h
        | some c =>
          rw [e] at h
          have : cellOf env a = pure c := by unfold cellOf; rw [hE.cells, e]
          rw [this]
          simp only [pure_bind]
          exact ih _ h
      · rw [if_neg hk] at h
        simp only [hk, if_false, Bool.false_eq_true]
        simp only [pure_bind]
        exact ih _ h
  unfold closureFor
  have := key scope.names [] h
  first
    | exact this
    | (simp only [bind_pure]; exact this)
    | (show (forIn scope.names [] _ >>= fun r => pure r) = _; rw [bind_pure]; exact this)

noncomputable def cTests (ifs : List Expr) (env : Env) : Sem Bool := forIn ifs true fun c r => if r = true then do let ok ← isTrue c env (eval c env); pure (ForInStep.yield ok) else pure (ForInStep.yield r)
theorem w_testsNil {Q : Bool → Heap → Ms → Prop} (h : Q true g ms) : W P n g ms (cTests [] env) Q := W.pure h
theorem w_testsOne {c : Expr} {Q : Bool → Heap → Ms → Prop} (h : W P n g ms (isTrue c env (eval c env)) Q) : W P n g ms (cTests [c] env) Q :=
  ⟨fun A s R hA S => wpAny_tests_one (h.run A s R hA S)⟩

/-- the frame of a comprehension whose name stands at ix -/
noncomputable def compVs (scope : Scope) (ix : Nat) (v : Value) : List (Option Value) := (List.replicate scope.names.length none).set ix (some v)

theorem relabel_ev {scope sc : Scope} {L : Addr} {cs : List (Str × Addr)} (hE : Ev env sc L cs) : relabel scope env = relabS scope sc := by
  unfold relabel relabS Env.kindOf
  rw [hE.scope]

theorem comp_core {elt iter : Expr} {x : Str} {px pos : Pos} {ifs : List Expr} {scope sc : Scope} {L : Addr} {cs cl : List (Str × Addr)} {I : Addr} {r : Nat → Rs} {N ix : Nat} {item : Nat → Value} {use : Option (Value → Sem Unit)}
    {Q : Value → Heap → Ms → Prop} (hE : Ev env sc L cs) (hcl : clOf cs scope.names [] = some cl) (hcell : ∀ y ∈ scope.names, y.2 ≠ .cell) (hkind : scope.kind = .function)
    (It : IterOk P g I r N item) (J : Nat → List Value → Heap → Ms → Prop) (h0 : J 0 [] g ms) (hx : locAt (relabS scope sc) x ix = true) (hix : ix < scope.names.length) (hN : N ≤ sizeLine) (hlen : ∀ i accs g ms, J i accs g ms → accs.length ≤ i)
    (turn : ∀ i v accs cenv C g₁ ms₁, Ev cenv (relabS scope sc) C cl → i < N → Le g g₁ → er v = item i → J i accs g₁ ms₁ →
      W P n g₁ ((C, frR (relabS scope sc) (compVs scope ix (item i))) :: ms₁) (cTests ifs cenv) (fun ok g₂ ms₂ =>
        if ok then W P n g₂ ms₂ (eval elt cenv) (fun y g₃ ms₃ => ∃ ms₄, ms₃.Perm ((C, frR (relabS scope sc) (compVs scope ix (item i))) :: ms₄) ∧ J (i + 1) (accs ++ [er y]) g₃ ms₄)
        else ∃ ms₄, ms₂.Perm ((C, frR (relabS scope sc) (compVs scope ix (item i))) :: ms₄) ∧ J (i + 1) accs g₂ ms₄))
    (fin : ∀ accs D g₁ ms₁, Le g g₁ → J N accs g₁ ms₁ → match use with
      | none => Q (.ref D) g₁ ((D, lstR accs) :: ms₁)
      | some u => W P n g₁ ((D, lstR accs) :: ms₁) (u (.ref D)) (fun _ => Q .none))
    {A : Around} {s : Shared} {R : Ms} (hA : Room n A) (S : St P g (((I, r 0) :: ms) ++ R) s.heap) :
    wpAny (model P.prog P.w) A (newList []) (fun acc s₃ => wpAny (model P.prog P.w) A (newFunctionEnv scope env.globals cl [] env.qual none .none (some env)) (fun cenv s₄ =>
      codeAny (model P.prog P.w) A (.compStart (.ListComp elt [⟨.Name x px, iter, ifs, 0⟩] scope pos) 0 (.ref I) acc { cenv with scope := relabel scope env })
        (compPost (model P.prog P.w) A (fun _ _ => False) use (Back P g s R Q) acc cenv.locals) s₄) (fun _ _ => False) s₃) (fun _ _ => False) s := by
  refine wpAny_newObj_type (wpAny_newFunctionEnv hcell (by intro y hy; simp at hy) (fun h₁ hns₁ hsb₁ => ?_) hkind)
  dsimp only at hns₁ hsb₁ ⊢
  rw [relabel_ev hE]
  generalize hD : s.heap.objs.size = D at hsb₁ hns₁ ⊢
  generalize hH2 : s.heap.push { cls := .type "list", dict := none, data := .seq ([] : List Value).toArray } = H2 at hns₁ hsb₁ ⊢
  generalize hC : H2.objs.size = C at hns₁ hsb₁ ⊢
  have S₁ : St P g ((D, lstR []) :: (((I, r 0) :: ms) ++ R)) H2 := by rw [← hH2, ← hD]; exact S.push rfl ⟨_, _, rfl, rfl⟩
  have S₂ : St P g ((C, frR (relabS scope sc) (List.replicate scope.names.length none)) :: ((D, lstR []) :: (((I, r 0) :: ms) ++ R))) h₁ := by
    have hCn : H2.get? C = none := by
      cases e : H2.get? C with
      | none => rfl
      | some o' => exact absurd (hC ▸ Heap.lt_size e) (Nat.lt_irrefl _)
    refine S₁.new (fun b o e => hsb₁.extBut b o (by rintro rfl; rw [hCn] at e; cases e) (Heap.get?_push_of_some _ e)) hCn (At.ofFrame hns₁ fun y => ?_)
    simp only [List.reverse_nil, List.lookup_nil, Option.map_none]
    unfold frM
    cases placeOf (relabS scope sc) y with
    | none => rfl
    | some i =>
      show none = Option.join _
      by_cases hi : i < scope.names.length
      · rw [List.getElem?_replicate, if_pos hi]; rfl
      · rw [List.getElem?_replicate, if_neg hi]; rfl
  have ev : Ev { scope := relabS scope sc, locals := C, globals := env.globals, cells := cl, qual := env.qual, func := none, code := env.code, frame := env.frame, builtins := env.builtins } (relabS scope sc) C cl :=
    ⟨rfl, rfl, hE.globals, hE.builtins, rfl, hkind⟩
  show codeAny _ _ (.compStart _ 0 (.ref I) (.ref D) { scope := relabS scope sc, locals := C, globals := env.globals, cells := cl, qual := env.qual, func := none, code := env.code, frame := env.frame, builtins := env.builtins }) (compPost _ A _ use _ (.ref D) C) _
  generalize ({ scope := relabS scope sc, locals := C, globals := env.globals, cells := cl, qual := env.qual, func := none, code := env.code, frame := env.frame, builtins := env.builtins } : Env) = cenv at ev ⊢
  have S₃ : St P g (ms ++ ((D, lstR []) :: (I, r 0) :: (C, frR (relabS scope sc) (List.replicate scope.names.length none)) :: R)) h₁ := by
    refine S₂.perm ?_
    have p1 : (((C, frR (relabS scope sc) (List.replicate scope.names.length none)) :: (D, lstR []) :: (((I, r 0) :: ms) ++ R)) : Ms).Perm ((D, lstR []) :: (I, r 0) :: (C, frR (relabS scope sc) (List.replicate scope.names.length none)) :: (ms ++ R)) :=
      (List.Perm.swap _ _ _).trans (List.Perm.cons _ (List.Perm.swap _ _ _))
    refine p1.trans ?_
    have : (((D, lstR []) :: (I, r 0) :: (C, frR (relabS scope sc) (List.replicate scope.names.length none)) :: (ms ++ R)) : Ms) = ([(D, lstR []), (I, r 0), (C, frR (relabS scope sc) (List.replicate scope.names.length none))] ++ ms) ++ R := by simp
    rw [this]
    have : (ms ++ ((D, lstR []) :: (I, r 0) :: (C, frR (relabS scope sc) (List.replicate scope.names.length none)) :: R) : Ms) = (ms ++ [(D, lstR []), (I, r 0), (C, frR (relabS scope sc) (List.replicate scope.names.length none))]) ++ R := by simp
    rw [this]
    exact List.perm_append_comm.append_right R
  have loop : codeAny (model P.prog P.w) A (.compLoop (.ListComp elt [⟨.Name x px, iter, ifs, 0⟩] scope pos) 0 (.ref I) (.ref D) cenv)
      (compPost (model P.prog P.w) A (fun _ _ => False) use (Back P g s R Q) (.ref D) C) { s with heap := h₁, toks := s.toks + ([] : List (Str × Value)).length } := by
    refine codeAny_compLoop_tests (fun k s' => ∃ i g' ms' accs o h' tk, i + k = N ∧ s' = { s with heap := h', toks := tk } ∧ Le g g' ∧
      St P g' (ms' ++ ((D, lstR accs) :: (I, r i) :: (C, frR (relabS scope sc) ((List.replicate scope.names.length none).set ix o)) :: R)) h' ∧ J i accs g' ms') (fun k s' hI => ?_) N
      ⟨0, g, ms, [], none, h₁, _, Nat.zero_add _, rfl, .refl _, by
        have : (List.replicate scope.names.length (none : Option Value)).set ix none = List.replicate scope.names.length none := by
          apply List.ext_getElem?
          intro j
          rw [List.getElem?_set]
          split
          · rename_i e; subst e; simp only [List.length_replicate, hix, if_true]; rw [List.getElem?_replicate, if_pos hix]
          · rfl
        rw [this]; exact S₃, h0⟩
    obtain ⟨i, g₁, ms₁, accs, o, h', tk, hk, rfl, l, S₄, j⟩ := hI
    have pI : ∀ {X : Rs} (Y : Addr × Rs) (Z : Addr × Rs) (ms' : Ms), (ms' ++ (Y :: (I, X) :: Z :: R) : Ms).Perm ((I, X) :: (ms' ++ (Y :: Z :: R))) := fun Y Z ms' => by
      refine (List.Perm.append_left ms' (List.Perm.swap _ _ _)).trans List.perm_middle
    cases k with
    | zero =>
      have hi : i = N := hk
      subst hi
      refine wpAny_mono ((It.stop n g₁ (ms₁ ++ ((D, lstR accs) :: (C, frR (relabS scope sc) ((List.replicate scope.names.length none).set ix o)) :: R)) (fun v g' ms' => v = none ∧ g' = g₁ ∧ ms' = ms₁ ++ ((D, lstR accs) :: (C, frR (relabS scope sc) ((List.replicate scope.names.length none).set ix o)) :: R)) l ⟨rfl, rfl, rfl⟩).run A _ [] hA (by rw [List.append_nil]; exact S₄.perm (pI _ _ _))) (fun v s₂ x => ?_) fun _ _ x => x.elim
      obtain ⟨g₂, ms₂, h₂, tk₂, rfl, l₂, S₅, rfl, rfl, rfl⟩ := x
      rw [List.append_nil] at S₅
      have S₆ : St P g₂ ((C, frR (relabS scope sc) ((List.replicate scope.names.length none).set ix o)) :: (((D, lstR accs) :: ms₁) ++ R)) h₂ := by
        refine S₅.perm ?_
        have : (ms₁ ++ ((D, lstR accs) :: (C, frR (relabS scope sc) ((List.replicate scope.names.length none).set ix o)) :: R) : Ms).Perm ((D, lstR accs) :: (C, frR (relabS scope sc) ((List.replicate scope.names.length none).set ix o)) :: (ms₁ ++ R)) :=
          List.perm_middle.trans (List.Perm.cons _ List.perm_middle)
        exact this.trans (List.Perm.swap _ _ _)
      have f := fin accs D g₂ ms₁ l j
      obtain ⟨m, hn, _⟩ := (S₆.get (.head _)).frame
      dsimp only
      cases use with
      | none =>
        refine ⟨m, hn, fun h₃ hs₃ => ⟨g₂, _, h₃, tk₂, rfl, l, S₆.lose hs₃.extBut, f⟩⟩
      | some u =>
        show wpAny _ A (u (.ref D)) _ _ _
        refine wpAny_mono ((show W P n g₂ ((D, lstR accs) :: ms₁) (u (.ref D)) (fun _ => Q .none) from f).run A _ ((C, frR (relabS scope sc) ((List.replicate scope.names.length none).set ix o)) :: R) hA (S₆.perm List.perm_middle.symm)) (fun _ s₃ y => ?_) fun _ _ y => y
        obtain ⟨g₃, ms₃, h₃, tk₃, rfl, l₃, S₇, q⟩ := y
        have S₈ := S₇.perm List.perm_middle
        obtain ⟨m, hn, _⟩ := (S₈.get (.head _)).frame
        exact ⟨m, hn, fun h₄ hs₄ => ⟨g₃, ms₃, h₄, tk₃, rfl, l.trans l₃, S₈.lose hs₄.extBut, q⟩⟩
    | succ k =>
      have hi : i < N := by (first | lia | omega)
      refine wpAny_mono ((It.next n i g₁ (ms₁ ++ ((D, lstR accs) :: (C, frR (relabS scope sc) ((List.replicate scope.names.length none).set ix o)) :: R)) (fun v g' ms' => ∃ z, v = some z ∧ er z = item i ∧ g' = g₁ ∧ ms' = (I, r (i + 1)) :: (ms₁ ++ ((D, lstR accs) :: (C, frR (relabS scope sc) ((List.replicate scope.names.length none).set ix o)) :: R))) l hi fun v e => ⟨v, rfl, e, rfl, rfl⟩).run A _ [] hA (by rw [List.append_nil]; exact S₄.perm (pI _ _ _))) (fun v s₂ z => ?_) fun _ _ z => z.elim
      obtain ⟨g₂, ms₂, h₂, tk₂, rfl, l₂, S₅, z, rfl, ez, rfl, rfl⟩ := z
      rw [List.append_nil] at S₅
      have S₆ : St P g₂ (((C, frR (relabS scope sc) ((List.replicate scope.names.length none).set ix o)) :: ms₁) ++ ((D, lstR accs) :: (I, r (i + 1)) :: R)) h₂ := by
        refine S₅.perm ?_
        refine (pI (D, lstR accs) (C, frR (relabS scope sc) ((List.replicate scope.names.length none).set ix o)) ms₁).symm.trans ?_
        refine (List.Perm.append_left ms₁ (show ((D, lstR accs) :: (I, r (i + 1)) :: (C, frR (relabS scope sc) ((List.replicate scope.names.length none).set ix o)) :: R : Ms).Perm ((C, frR (relabS scope sc) ((List.replicate scope.names.length none).set ix o)) :: (D, lstR accs) :: (I, r (i + 1)) :: R) from ?_)).trans List.perm_middle
        exact (List.Perm.cons _ (List.Perm.swap _ _ _)).trans (List.Perm.swap _ _ _)
      dsimp only
      refine wpAny_mono ((w_assignName (w_st (ms' := (C, frR (relabS scope sc) (compVs scope ix (item i))) :: ms₁) (Q := fun _ g' ms' => g' = g₂ ∧ ms' = (C, frR (relabS scope sc) (compVs scope ix (item i))) :: ms₁) ev hx Upd.head (by simpa using hix) (by rw [ez, List.set_set]; rfl) ⟨rfl, rfl⟩)).run A _ _ hA S₆) (fun _ s₃ y => ?_) fun _ _ y => y.elim
      obtain ⟨g₃, ms₃, h₃, tk₃, rfl, l₃, S₇, rfl, rfl⟩ := y
      refine wpAny_mono ((turn i z accs cenv C g₃ ms₁ ev hi l ez j).run A _ _ hA S₇) (fun ok s₄ y => ?_) fun _ _ y => y.elim
      obtain ⟨g₄, ms₄, h₄, tk₄, rfl, l₄, S₈, q⟩ := y
      cases ok with
      | false =>
        obtain ⟨ms₅, pm, j'⟩ := (show ∃ ms₅, ms₄.Perm _ ∧ _ from q)
        rw [if_neg Bool.false_ne_true]
        refine ⟨k, Nat.lt_succ_self _, i + 1, g₄, ms₅, accs, some (item i), h₄, tk₄, by (first | lia | omega), rfl, l.trans l₄, S₈.perm ((pm.append_right _).trans ?_), j'⟩
        refine (List.perm_middle (a := (C, frR (relabS scope sc) (compVs scope ix (item i)))) (l₁ := ms₅)).symm.trans (List.Perm.append_left ms₅ ?_)
        exact (List.Perm.swap _ _ _).trans (List.Perm.cons _ (List.Perm.swap _ _ _))
      | true =>
        rw [if_pos rfl]
        refine wpAny_mono ((show W P n g₄ ms₄ (eval elt cenv) _ from q).run A _ _ hA S₈) (fun y s₅ z => ?_) fun _ _ z => z.elim
        obtain ⟨g₅, ms₅, h₅, tk₅, rfl, l₅, S₉, ms₆, pm, j'⟩ := z
        have S₁₀ : St P g₅ ((D, lstR accs) :: (ms₆ ++ ((I, r (i + 1)) :: (C, frR (relabS scope sc) (compVs scope ix (item i))) :: R))) h₅ := by
          refine S₉.perm ((pm.append_right _).trans ?_)
          refine (List.perm_middle (a := (C, frR (relabS scope sc) (compVs scope ix (item i)))) (l₁ := ms₆)).symm.trans ?_
          refine (List.Perm.append_left ms₆ ((List.Perm.swap _ _ _).trans (List.Perm.cons _ (List.Perm.swap _ _ _)))).trans List.perm_middle
        obtain ⟨ys, hL, hq⟩ := (S₁₀.get (.head _)).plain
        have hsz : ys.size ≤ sizeLine := by
          have := hlen _ _ _ _ j
          rw [← hq] at this
          simp at this
          (first | lia | omega)
        refine wpAny_list_append_plain (hsz := hsz) hL fun h₆ hL₆ hs₆ => ⟨k, Nat.lt_succ_self _, i + 1, g₅, ms₆, accs ++ [er y], some (item i), h₆, tk₅, by (first | lia | omega), rfl, (l.trans l₄).trans l₅, ?_, j'⟩
        have S₁₁ := S₁₀.upd (r' := lstR (accs ++ [er y])) Upd.head hs₆ (At.ofPlain hL₆ (by rw [Array.toList_push, List.map_append, hq]; rfl))
        exact S₁₁.perm List.perm_middle.symm
  exact codeAny_compStart_list loop (wpAny_mono (It.self A h₁ _ (fun v s' => v = .ref I ∧ s' = { s with heap := h₁, toks := s.toks + ([] : List (Str × Value)).length }) rfl (S₃.get (List.mem_append_right _ (.tail _ (.head _)))) ⟨rfl, rfl⟩) (fun v s' y => by obtain ⟨rfl, rfl⟩ := y; exact loop) fun _ _ y => y.elim)

/-- what is to be shown of a comprehension where its iterator stands -/
noncomputable def CompAt (P : Setup) (n : Nat) (scope sc : Scope) (cl : List (Str × Addr)) (ix : Nat) (ifs : List Expr) (elt : Expr) (K : Heap → Ms → Addr → List Value → Prop) (it : Value) (g : Heap) (ms' : Ms) : Prop :=
  ∃ (I : Addr) (r : Nat → Rs) (N : Nat) (item : Nat → Value) (ms : Ms) (J : Nat → List Value → Heap → Ms → Prop), it = .ref I ∧ ms' = (I, r 0) :: ms ∧ IterOk P g I r N item ∧ N ≤ sizeLine ∧ J 0 [] g ms ∧
    (∀ i v accs cenv C g₁ ms₁, Ev cenv (relabS scope sc) C cl → i < N → Le g g₁ → er v = item i → J i accs g₁ ms₁ →
      W P n g₁ ((C, frR (relabS scope sc) (compVs scope ix (item i))) :: ms₁) (cTests ifs cenv) (fun ok g₂ ms₂ =>
        if ok then W P n g₂ ms₂ (eval elt cenv) (fun y g₃ ms₃ => ∃ ms₄, ms₃.Perm ((C, frR (relabS scope sc) (compVs scope ix (item i))) :: ms₄) ∧ J (i + 1) (accs ++ [er y]) g₃ ms₄)
        else ∃ ms₄, ms₂.Perm ((C, frR (relabS scope sc) (compVs scope ix (item i))) :: ms₄) ∧ J (i + 1) accs g₂ ms₄)) ∧
    (∀ accs D g₁ ms₁, Le g g₁ → accs.length ≤ N → J N accs g₁ ms₁ → K g₁ ms₁ D accs)

noncomputable def compOk (scope sc : Scope) (x : Str) (ix : Nat) : Bool :=
  (scope.names.all fun p => p.2 != .cell && (p.2 != .local || scope.names.lookup p.1 == some .local)) && scope.kind == .function && locAt (relabS scope sc) x ix && decide (ix < scope.names.length)

theorem comp_core' {elt iter : Expr} {x : Str} {px pos : Pos} {ifs : List Expr} {scope sc : Scope} {L : Addr} {cs cl : List (Str × Addr)} {ix : Nat} {use : Option (Value → Sem Unit)} {Q : Value → Heap → Ms → Prop} {it : Value}
    (hE : Ev env sc L cs) (hcl : clOf cs scope.names [] = some cl) (hok : compOk scope sc x ix = true)
    (h : CompAt P n scope sc cl ix ifs elt (fun g₁ ms₁ D accs => match use with
      | none => Q (.ref D) g₁ ((D, lstR accs) :: ms₁)
      | some u => W P n g₁ ((D, lstR accs) :: ms₁) (u (.ref D)) (fun _ => Q .none)) it g ms)
    {A : Around} {s : Shared} {R : Ms} (hA : Room n A) (S : St P g (ms ++ R) s.heap) :
    wpAny (model P.prog P.w) A (newList []) (fun acc s₃ => wpAny (model P.prog P.w) A (newFunctionEnv scope env.globals cl [] env.qual none .none (some env)) (fun cenv s₄ =>
      codeAny (model P.prog P.w) A (.compStart (.ListComp elt [⟨.Name x px, iter, ifs, 0⟩] scope pos) 0 it acc { cenv with scope := relabel scope env })
        (compPost (model P.prog P.w) A (fun _ _ => False) use (Back P g s R Q) acc cenv.locals) s₄) (fun _ _ => False) s₃) (fun _ _ => False) s := by
  obtain ⟨I, r, N, item, ms₁, J, rfl, rfl, It, hN, h0, turn, fin⟩ := h
  simp only [compOk, Bool.and_eq_true, List.all_eq_true, bne_iff_ne, Bool.or_eq_true, beq_iff_eq, decide_eq_true_eq] at hok
  obtain ⟨⟨⟨hn, hk⟩, hx⟩, hix⟩ := hok
  refine comp_core hE hcl (fun y hy => (hn y hy).1) hk It (fun i accs g ms => accs.length ≤ i ∧ J i accs g ms) ⟨Nat.le_refl _, h0⟩ hx hix hN (fun _ _ _ _ j => j.1) (fun i v accs cenv C g₁ ms₁ ev hi l e j => ?_) (by
    intro accs D g₁ ms₁ l j
    have := fin accs D g₁ ms₁ l j.1 j.2
    cases use <;> exact this) hA S
  refine (turn i v accs cenv C g₁ ms₁ ev hi l e j.2).mono fun ok g₂ ms₂ q => ?_
  cases ok with
  | false =>
    obtain ⟨ms₄, pm, j'⟩ := (show ∃ ms₅, ms₂.Perm _ ∧ _ from q)
    rw [if_neg Bool.false_ne_true]
    exact ⟨ms₄, pm, Nat.le_succ_of_le j.1, j'⟩
  | true =>
    rw [if_pos rfl]
    refine W.mono (show W P n g₂ ms₂ (eval elt cenv) _ from q) fun y g₃ ms₃ z => ?_
    obtain ⟨ms₄, pm, j'⟩ := z
    exact ⟨ms₄, pm, by rw [List.length_append]; exact Nat.succ_le_succ j.1, j'⟩

theorem compOk_kind {scope sc : Scope} {x : Str} {ix : Nat} (hok : compOk scope sc x ix = true) : scope.kind = .function ∧ ∀ y ∈ scope.names, y.2 = .local → scope.names.lookup y.1 = some .local := by
  simp only [compOk, Bool.and_eq_true, List.all_eq_true, bne_iff_ne, Bool.or_eq_true, beq_iff_eq, decide_eq_true_eq] at hok
  exact ⟨hok.1.1.2, fun y hy e => ((hok.1.1.1 y hy).2).elim (fun q => absurd e q) id⟩

theorem w_ListComp {elt iter : Expr} {x : Str} {px pos : Pos} {ifs : List Expr} {scope sc : Scope} {L : Addr} {cs cl : List (Str × Addr)} {ix : Nat} {Q : Value → Heap → Ms → Prop}
    (hE : Ev env sc L cs) (hcl : clOf cs scope.names [] = some cl) (hok : compOk scope sc x ix = true)
    (h : W P n g ms (eval iter env) (fun xv g₁ ms₁ => W P n g₁ ms₁ (pyIter xv) (CompAt P n scope sc cl ix ifs elt (fun g₂ ms₂ D accs => Q (.ref D) g₂ ((D, lstR accs) :: ms₂)))))
    (hs : ∀ x, foldedSetIterable iter env x = pure x := by intro _; rfl) : W P n g ms (eval (.ListComp elt [⟨.Name x px, iter, ifs, 0⟩] scope pos) env) Q := by
  refine ⟨fun A s R hA S => ?_⟩
  rw [eval_ListComp]
  refine wpAny_comprehension_free (use := none) rfl hs (closure_ev hE hcl) (compOk_kind hok).1 (compOk_kind hok).2 (wpAny_mono (h.run A s R hA S) (fun xv s₁ b => wpAny_mono (b.go hA) (fun it s₂ b => ?_) fun _ _ x => x) fun _ _ x => x)
  obtain ⟨g', ms', h', tk, rfl, l, S', q⟩ := b
  refine wpAny_mono (comp_core' (use := none) hE hcl hok q hA S') (fun acc s₃ y => wpAny_mono y (fun cenv s₄ y => codeAny_mono y fun r s₅ z => ?_) fun _ _ x => x) fun _ _ x => x
  cases r with
  | error e => exact let ⟨m, hn, k⟩ := z; ⟨m, hn, fun h' hs c hc => wpAny_mono (k h' hs c hc) (fun _ _ x => x) fun _ _ x => x.elim⟩
  | ok f => exact let ⟨m, hn, k⟩ := z; ⟨m, hn, fun h' hs => (k h' hs).same l⟩

theorem w_AssignComp {elt iter : Expr} {x y : Str} {px py pos spos : Pos} {ifs : List Expr} {scope sc : Scope} {L : Addr} {cs cl : List (Str × Addr)} {ix : Nat} {Q : Flow → Heap → Ms → Prop}
    (hE : Ev env sc L cs) (hcl : clOf cs scope.names [] = some cl) (hok : compOk scope sc x ix = true)
    (hsw : (sc.names.lookup y == some .local && py.line == pos.line && !(scope.names.any fun (n, k) => n == y && (k == .local || k == .cell))) = true)
    (h : W P n g ms (eval iter env) (fun xv g₁ ms₁ => W P n g₁ ms₁ (pyIter xv) (CompAt P n scope sc cl ix ifs elt (fun g₂ ms₂ D accs => W P n g₂ ((D, lstR accs) :: ms₂) (storeName env y (.ref D)) (fun _ => Q .next)))))
    (hs : ∀ x, foldedSetIterable iter env x = pure x := by intro _; rfl) : W P n g ms (exec (.Assign [.Name y py] (.ListComp elt [⟨.Name x px, iter, ifs, 0⟩] scope pos) spos) env) Q := by
  refine ⟨fun A s R hA S => ?_⟩
  have hsw' : swapsWith (.ListComp elt [⟨.Name x px, iter, ifs, 0⟩] scope pos) (some (.Name y py)) spos.line env = pure true := by
    unfold swapsWith
    dsimp only
    have hb : (env.blockKind == .function) = true := by unfold Env.blockKind; rw [hE.scope, hE.kind]; rfl
    have hk : env.kindOf y = sc.names.lookup y := by unfold Env.kindOf; rw [hE.scope]
    rw [hb, hk, Bool.true_and]
    exact congrArg _ hsw
  rw [exec_Assign_Name_used _ _ _ _ hsw']
  refine wpAny_bind (wpAny_standAt (wpAny_bind ?_))
  show wpAny _ A (do let _ ← comprehension (.ListComp elt [⟨.Name x px, iter, ifs, 0⟩] scope pos) scope env _ (newList []) false (eval iter env) (some (assign (.Name y py) env))) _ _ s
  refine wpAny_bind (wpAny_mono (wpAny_comprehension_free (use := some (assign (.Name y py) env)) (Q := Back P g s R fun _ => Q .next) rfl hs (closure_ev hE hcl) (compOk_kind hok).1 (compOk_kind hok).2
    (wpAny_mono (h.run A s R hA S) (fun xv s₁ b => wpAny_mono (b.go hA) (fun it s₂ b => ?_) fun _ _ x => x) fun _ _ x => x)) (fun _ s' hq => wpAny_pure (wpAny_pure hq)) fun _ _ e => e)
  obtain ⟨g', ms', h', tk, rfl, l, S', q⟩ := b
  have q' : CompAt P n scope sc cl ix ifs elt (fun g₂ ms₂ D accs => W P n g₂ ((D, lstR accs) :: ms₂) (assign (.Name y py) env (.ref D)) (fun _ => Q .next)) it g' ms' := by
    obtain ⟨I, r, N, item, ms₁, J, e1, e2, It, hN, h0, turn, fin⟩ := q
    exact ⟨I, r, N, item, ms₁, J, e1, e2, It, hN, h0, turn, fun accs D g₁ ms₁ l hl j => w_assignName (fin accs D g₁ ms₁ l hl j)⟩
  refine wpAny_mono (comp_core' (use := some (assign (.Name y py) env)) (Q := fun _ => Q .next) hE hcl hok q' hA S') (fun acc s₃ y => wpAny_mono y (fun cenv s₄ y => codeAny_mono y fun r s₅ z => ?_) fun _ _ x => x) fun _ _ x => x
  cases r with
  | error e => exact let ⟨m, hn, k⟩ := z; ⟨m, hn, fun h' hs c hc => wpAny_mono (k h' hs c hc) (fun _ _ x => x) fun _ _ x => x.elim⟩
  | ok f => exact wpAny_mono z (fun _ s₆ z => let ⟨m, hn, k⟩ := z; ⟨m, hn, fun h' hs => (k h' hs).same l⟩) fun _ _ x => x
end
end Mine
end
section
open PySem PySem.Calls PyProof.Rows
set_option Elab.async false
set_option autoImplicit false
set_option linter.unusedVariables false
namespace Mine

noncomputable def iVs (ns : List Int) : List Value := ns.map fun i => .int i 0
noncomputable def sVs (xs : List Str) : List Value := xs.map fun x => .str x 0
theorem intsAre : ∀ {vs : List Value} {ns : List Int}, vs.map er = iVs ns → IntsAre vs ns
  | [], [], _ => .nil
  | [], _ :: _, h => by cases h
  | _ :: _, [], h => by cases h
  | v :: vs, n :: ns, h => by
    have h1 := (List.cons.inj h).1
    have h2 := (List.cons.inj h).2
    obtain ⟨t, rfl⟩ := er_int h1
    exact .cons n t (intsAre h2)
theorem strsAre : ∀ {vs : List Value} {ns : List Str}, vs.map er = sVs ns → StrsAre vs ns
  | [], [], _ => .nil
  | [], _ :: _, h => by cases h
  | _ :: _, [], h => by cases h
  | v :: vs, n :: ns, h => by
    have h1 := (List.cons.inj h).1
    have h2 := (List.cons.inj h).2
    obtain ⟨t, rfl⟩ := er_str h1
    exact .cons n t (strsAre h2)
theorem of_strsAre : ∀ {vs : List Value} {ns : List Str}, StrsAre vs ns → vs.map er = sVs ns
  | [], [], _ => rfl
  | _ :: _, _ :: _, .cons y t h => by show er _ :: _ = _ :: _; rw [of_strsAre h]; rfl

theorem seqIndex_nn {i : Int} {m : Nat} (h0 : 0 ≤ i) (h1 : i < (m : Int)) : seqIndex? i m = some i.toNat := by
  unfold seqIndex?
  dsimp only
  rw [if_neg (by (first | lia | omega) : ¬ i < 0), if_pos (by simp [h0, h1])]

section
variable {P : Setup} {n : Nat} {g : Heap} {ms : Ms} {env : Env} {a b : Int} {t u : Tok} {x y : Str} {Q : Value → Heap → Ms → Prop}

/-! iVs -/
theorem w_addI (h : ∀ t, Q (.int (a + b) t) g ms) : W P n g ms (binaryOp .Add (.int a t) (.int b u)) Q := W.leaf fun A s R hA S Q' k => PyProof.Rows.add_int (k _ _ (h _))
theorem w_subI (h : ∀ t, Q (.int (a - b) t) g ms) : W P n g ms (binaryOp .Sub (.int a t) (.int b u)) Q := W.leaf fun A s R hA S Q' k => PyProof.Rows.sub_int (k _ _ (h _))
theorem w_mulI (hm : IntMulOk a b) (h : ∀ t, Q (.int (a * b) t) g ms) : W P n g ms (binaryOp .Mult (.int a t) (.int b u)) Q := W.leaf fun A s R hA S Q' k => PyProof.Rows.mul_int (k _ _ (h _)) hm
theorem w_modI (hb : b ≠ 0) (h : ∀ t, Q (.int (a.fmod b) t) g ms) : W P n g ms (binaryOp .Mod (.int a t) (.int b u)) Q := W.leaf fun A s R hA S Q' k => PyProof.Rows.mod_int' hb (k _ _ (h _))
theorem w_divI (hb : b ≠ 0) (hp : Builtin.divisionGoesByPylong a b = false) (h : ∀ t, Q (.int (a.fdiv b) t) g ms) : W P n g ms (binaryOp .FloorDiv (.int a t) (.int b u)) Q :=
  W.leaf fun A s R hA S Q' k => PyProof.Rows.floordiv_int_or hA.2.2 (fun e => absurd e hb) (fun _ => k _ _ (h _)) (fun _ => .inl hp)
theorem w_powI (hn : 0 ≤ b) (hn2 : b ≤ 1000000) (ha : a.natAbs < 2 ^ 64) (hsz : (Builtin.Int.intBits a : Int) * b ≤ 2 ^ 27) (h : ∀ t, Q (.int (a ^ b.toNat) t) g ms) : W P n g ms (binaryOp .Pow (.int a t) (.int b u)) Q :=
  W.leaf fun A s R hA S Q' k => PyProof.Rows.pow_int hn hsz (k _ _ (h _))
theorem w_eqI (h : Q (.bool (a == b)) g ms) : W P n g ms (compareOp .Eq (.int a t) (.int b u)) Q := W.leaf fun A s R hA S Q' k => PyProof.Rows.eq_int (k _ s.toks h)
theorem w_neI (h : Q (.bool (a != b)) g ms) : W P n g ms (compareOp .NotEq (.int a t) (.int b u)) Q := W.leaf fun A s R hA S Q' k => PyProof.Rows.ne_int (k _ s.toks h)
theorem w_ltI (h : Q (.bool (decide (a < b))) g ms) : W P n g ms (compareOp .Lt (.int a t) (.int b u)) Q := W.leaf fun A s R hA S Q' k => PyProof.Rows.lt_int (k _ s.toks h)
theorem w_geI (h : Q (.bool (decide (b ≤ a))) g ms) : W P n g ms (compareOp .GtE (.int a t) (.int b u)) Q := W.leaf fun A s R hA S Q' k => PyProof.Rows.ge_int (k _ s.toks h)
theorem w_leI (h : Q (.bool (decide (a ≤ b))) g ms) : W P n g ms (compareOp .LtE (.int a t) (.int b u)) Q := W.leaf fun A s R hA S Q' k => PyProof.Rows.le_int (k _ s.toks h)
theorem w_iaddI (h : ∀ t, Q (.int (a + b) t) g ms) : W P n g ms (inplaceOp .Add (.int a t) (.int b u)) Q := W.leaf fun A s R hA S Q' k => wpAny_iadd_int (k _ _ (h _))
theorem w_imulI (hm : IntMulOk a b) (h : ∀ t, Q (.int (a * b) t) g ms) : W P n g ms (inplaceOp .Mult (.int a t) (.int b u)) Q := W.leaf fun A s R hA S Q' k => PyProof.Rows.imul_int (k _ _ (h _)) hm
theorem w_eqS (h : Q (.bool (x == y)) g ms) : W P n g ms (compareOp .Eq (.str x t) (.str y u)) Q := W.leaf fun A s R hA S Q' k => PyProof.Rows.eq_str (k _ s.toks h)
theorem w_neS (h : Q (.bool (x != y)) g ms) : W P n g ms (compareOp .NotEq (.str x t) (.str y u)) Q := W.leaf fun A s R hA S Q' k => PyProof.Rows.ne_str (k _ s.toks h)
theorem w_addS (hsz : x.length + y.length ≤ sizeLine) (h : ∀ t, Q (.str (x ++ y) t) g ms) : W P n g ms (binaryOp .Add (.str x t) (.str y u)) Q :=
  W.leaf fun A s R hA S Q' k => PyProof.Rows.add_str (fun t' tk => k _ _ (h _)) hsz
theorem w_mulS (hok : MulOk x a) (h : ∀ t, Q (.str (Txt.mul x a) t) g ms) : W P n g ms (binaryOp .Mult (.str x t) (.int a u)) Q :=
  W.leaf fun A s R hA S Q' k => SB.mul hok (fun t' tk => k _ _ (h _))
theorem w_lenS (hfit : x.length ≤ 2 ^ 24) (h : ∀ t, Q (.int x.length t) g ms) : W P n g ms (call (.builtin "len") [.str x t]) Q :=
  W.leaf fun A s R hA S Q' k => PyProof.Rows.len_str (by (first | lia | omega)) (k _ _ (h _))
theorem w_itemS {c : Nat} (h0 : 0 ≤ a) (hc : x.cps[a.toNat]? = some c) (hfit : x.length ≤ 2 ^ 24) (h : ∀ t, Q (.str ⟨#[c]⟩ t) g ms) : W P n g ms (getItem (.str x t) (.int a u)) Q :=
  W.leaf fun A s R hA S Q' k => by
    have hl : a.toNat < x.cps.size := by
      rw [Array.getElem?_eq_some_iff] at hc
      exact hc.1
    have hl' : a < x.length := by show a < (x.cps.size : Int); (first | lia | omega)
    refine PyProof.Rows.getItem_str (c := c) (by simp only [Bool.or_eq_false_iff, decide_eq_false_iff_not]; (first | lia | omega)) ?_ (k _ _ (h _))
    rw [seqIndex_nn h0 hl']
    exact hc
theorem w_notPyStr {Q : Bool → Heap → Ms → Prop} (h : Q false g ms) : W P n g ms (getitemInPython (.str x t)) Q := by
  refine W.leaf fun A s R hA S Q' k => ?_
  rw [getitemInPython_of_ne (by simp)]
  exact wpAny_bind (wpAny_specialOf (typeIs_str s x t) PySem.F.slot_str_getitem.lookup (wpAny_pure (k _ s.toks h)))

/-! lists -/
theorem w_notPyList {l : Addr} {xs : List Value} {Q : Bool → Heap → Ms → Prop} (hl : Has g ms l (lstR xs)) (h : Q false g ms) : W P n g ms (getitemInPython (.ref l)) Q := by
  refine W.leaf fun A s R hA S Q' k => ?_
  obtain ⟨ys, hL, hq⟩ := (hl.at S).list
  rw [getitemInPython_of_ne (by simp)]
  exact wpAny_bind (wpAny_specialOf hL.typeIs slot_list_getitem.lookup (wpAny_pure (k _ s.toks h)))
theorem w_notPyTup {l : Addr} {xs : List Value} {Q : Bool → Heap → Ms → Prop} (hl : Has g ms l (tupR xs)) (h : Q false g ms) : W P n g ms (getitemInPython (.ref l)) Q := by
  refine W.leaf fun A s R hA S Q' k => ?_
  obtain ⟨ys, hL, hq⟩ := (hl.at S).tup
  rw [getitemInPython_of_ne (by simp)]
  exact wpAny_bind (wpAny_specialOf hL.typeIs PySem.F.slot_tuple_getitem.lookup (wpAny_pure (k _ s.toks h)))
theorem getElem_er {ys : Array Value} {xs : List Value} (hq : ys.toList.map er = xs) {i : Nat} {v : Value} (hv : xs[i]? = some v) : ∃ v', ys[i]? = some v' ∧ er v' = v := by
  rw [← hq, List.getElem?_map, Array.getElem?_toList] at hv
  exact Option.map_eq_some_iff.mp hv
theorem size_er {ys : Array Value} {xs : List Value} (hq : ys.toList.map er = xs) : ys.size = xs.length := by rw [← hq]; simp
theorem w_itemL {l : Addr} {xs : List Value} {v : Value} (hl : Has g ms l (lstR xs)) (h0 : 0 ≤ a) (hfit : a < 2 ^ 63) (hv : xs[a.toNat]? = some v) (h : Tk v fun v' => Q v' g ms) : W P n g ms (getItem (.ref l) (.int a u)) Q := by
  refine W.leaf fun A s R hA S Q' k => ?_
  obtain ⟨ys, hL, hq⟩ := (hl.at S).list
  obtain ⟨v', e, e'⟩ := getElem_er hq hv
  exact wpAny_getItem_list hL h0 hfit e (k _ s.toks (h v' e'))
/-- the last item -/
theorem w_lastL {l : Addr} {xs : List Value} {v : Value} (hl : Has g ms l (lstR (xs ++ [v]))) (hfit : xs.length < 2 ^ 24) (h : Tk v fun v' => Q v' g ms) : W P n g ms (getItem (.ref l) (.int (-1) u)) Q := by
  refine W.leaf fun A s R hA S Q' k => ?_
  obtain ⟨ys, hL, hq⟩ := (hl.at S).list
  have hs := size_er hq
  obtain ⟨v', e, e'⟩ := getElem_er hq (i := xs.length) (v := v) (by simp)
  have hs' : ys.size = xs.length + 1 := by rw [hs]; simp
  have hi : ((-1 : Int) + (ys.size : Int)).toNat = xs.length := by (first | lia | omega)
  exact wpAny_getItem_list_neg hL (by decide) (by (first | lia | omega)) (by decide) (by rw [hi]; exact e) (k _ s.toks (h v' e'))
theorem w_itemT {l : Addr} {xs : List Value} {v : Value} (hl : Has g ms l (tupR xs)) (h0 : 0 ≤ a) (hfit : a < 2 ^ 63) (hv : xs[a.toNat]? = some v) (h : Tk v fun v' => Q v' g ms) : W P n g ms (getItem (.ref l) (.int a u)) Q := by
  refine W.leaf fun A s R hA S Q' k => ?_
  obtain ⟨ys, hL, hq⟩ := (hl.at S).tup
  obtain ⟨v', e, e'⟩ := getElem_er hq hv
  have hlt : a.toNat < ys.size := (Array.getElem?_eq_some_iff.mp e).1
  exact PyProof.Rows.getItem_tuple hL (by (first | lia | omega)) hfit (j := a.toNat) (by
    exact seqIndex_nn h0 (by (first | lia | omega))) e (k _ s.toks (h v' e'))
theorem w_lenL {l : Addr} {xs : List Value} (hl : Has g ms l (lstR xs)) (hfit : xs.length ≤ 2 ^ 24) (h : ∀ t, Q (.int xs.length t) g ms) : W P n g ms (call (.builtin "len") [.ref l]) Q := by
  refine W.leaf fun A s R hA S Q' k => ?_
  obtain ⟨ys, hL, hq⟩ := (hl.at S).list
  have hs := size_er hq
  exact call_len_list hL (by (first | lia | omega)) (by rw [hs]; exact k _ _ (h _))
theorem w_append {l : Addr} {xs xs' : List Value} {v : Value} {ms' : Ms} (hl : Upd l (lstR xs) (lstR xs') ms ms') (hx : xs ++ [er v] = xs') (hsz : xs.length ≤ sizeLine) (h : Q .none g ms') : W P n g ms (call (.builtin "list.append") [.ref l, v]) Q := by
  subst hx
  refine ⟨fun A s R hA S => ?_⟩
  obtain ⟨ys, hL, hq⟩ := (S.get (List.mem_append_left _ hl.mem)).plain
  have hs := size_er hq
  exact wpAny_list_append_plain (hsz := by rw [hs]; exact hsz) hL fun h' hL' hs' => ⟨g, ms', h', s.toks, rfl, .refl _, S.upd (hl.app R) hs' (At.ofPlain hL' (by rw [Array.toList_push, List.map_append, hq]; rfl)), h⟩
theorem w_getAppend {l : Addr} {xs : List Value} {pl : Sem Bool} {Q : Value × List Value → Heap → Ms → Prop} (hl : Has g ms l (lstR xs)) (h : Q (.builtin "list.append", [.ref l]) g ms) : W P n g ms (getMethod (.ref l) "append" pl) Q := by
  refine W.leaf fun A s R hA S Q' k => ?_
  obtain ⟨ys, ⟨m, hL⟩, hq⟩ := (hl.at S).plain
  exact getMethod_list_append hL rfl rfl (k _ s.toks h)
theorem w_getIndex {l : Addr} {xs : List Value} {pl : Sem Bool} {Q : Value × List Value → Heap → Ms → Prop} (hl : Has g ms l (lstR xs)) (h : Q (.builtin "list.index", [.ref l]) g ms) : W P n g ms (getMethod (.ref l) "index" pl) Q := by
  refine W.leaf fun A s R hA S Q' k => ?_
  obtain ⟨ys, ⟨m, hL⟩, hq⟩ := (hl.at S).plain
  exact getMethod_list_of PySem.F.slot_list_index PySem.F.type_list_index ⟨_, hL, rfl, _, rfl⟩ ⟨_, hL, rfl⟩ (k _ s.toks h)
theorem w_addL {l m : Addr} {xs ys : List Value} (hl : Has g ms l (lstR xs)) (hm : Has g ms m (lstR ys)) (hsz : xs.length + ys.length ≤ sizeLine) (h : ∀ a, Q (.ref a) g ((a, lstR (xs ++ ys)) :: ms)) : W P n g ms (binaryOp .Add (.ref l) (.ref m)) Q := by
  refine ⟨fun A s R hA S => ?_⟩
  obtain ⟨vs, ⟨k1, hL⟩, hq⟩ := (hl.at S).plain
  obtain ⟨ws, ⟨k2, hM⟩, hq'⟩ := (hm.at S).plain
  have h1 := size_er hq
  have h2 := size_er hq'
  refine concat_meets ⟨_, hL, rfl⟩ ⟨_, hM, rfl⟩ noFill_list_add seq_list_add PySem.F.slot_list_add PySem.F.entry_list_add (PySem.F.args_list_add_2 _ _) (list_addW l m vs ws k1 k2 none none #[] #[] (by (first | lia | omega))) ⟨hL, hM, ?_⟩
  exact ⟨g, _, _, s.toks, rfl, .refl _, S.push rfl ⟨_, _, rfl, by rw [Array.toList_append, List.map_append, hq, hq']⟩, h _⟩
end
end Mine
end
section
open PySem PySem.Calls PyProof.Rows PySem.Builtin PySem.Builtin.Str
set_option Elab.async false
set_option autoImplicit false
set_option linter.unusedVariables false
set_option maxRecDepth 100000
namespace Mine

/-- a text by its signs -/
noncomputable def tx (l : List Nat) : Str := ⟨l.toArray⟩
theorem tx_list (l : List Nat) : (tx l).cps.toList = l := rfl
theorem tx_of (x : Str) : x = tx x.cps.toList := by cases x; rfl
theorem tx_len (l : List Nat) : (tx l).length = l.length := by simp [tx, Str.length]
theorem tx_append (l m : List Nat) : tx l ++ tx m = tx (l ++ m) := by
  show Str.append (tx l) (tx m) = _
  simp [Str.append, tx]
theorem tx_inj {l m : List Nat} (h : tx l = tx m) : l = m := by
  have := congrArg (fun s : Str => s.cps.toList) h
  exact this
theorem tx_beq (l m : List Nat) : (tx l == tx m) = decide (l = m) := by
  by_cases h : l = m
  · subst h; simp
  · have : tx l ≠ tx m := fun e => h (tx_inj e)
    rw [beq_eq_false_iff_ne.mpr this]; simp [h]

theorem strIdx (lo hi : Option Int) (n : Nat) : strSliceIndices lo hi 1 n = (List.range (hi.elim n (clipAt n) - lo.elim 0 (clipAt n))).map (lo.elim 0 (clipAt n) + ·) := by
  rw [← sliceRange_one]
  unfold strSliceIndices
  cases lo <;> cases hi <;> simp [clipAt_cast]
theorem strCut (l : List Nat) (lo hi : Option Int) : (strSliceIndices lo hi 1 l.length).filterMap (l.toArray[·]?) = (l.drop (lo.elim 0 (clipAt l.length))).take (hi.elim l.length (clipAt l.length) - lo.elim 0 (clipAt l.length)) := by
  rw [strIdx, pick_run]
theorem clip_le (n : Nat) (i : Int) : clipAt n i ≤ n := by
  have := clipAt_cast n i
  (first | lia | omega)
theorem take_all_of {l : List Nat} {a b : Nat} (hb : b ≤ l.length) (h : b - a = l.length) : (l.drop a).take (b - a) = l := by
  rcases Nat.eq_zero_or_pos l.length with h0 | h0
  · have : l = [] := List.eq_nil_of_length_eq_zero h0
    subst this; simp
  · have ha : a = 0 := by (first | lia | omega)
    subst ha
    rw [List.drop_zero, List.take_of_length_le (by (first | lia | omega))]

section
variable {P : Setup} {n : Nat} {g : Heap} {ms : Ms} {env : Env} {a b : Int} {t u : Tok} {Q : Value → Heap → Ms → Prop} {l : List Nat}

noncomputable def sliR (x y z : Value) : Rs := fun o => o = { cls := .type "slice", data := .fields #[x, y, z] }
theorem sliceMade_post {lo hi : Option (Int × Tok)} {s : Shared} {Q' : Value → Shared → Prop} (hz : l.length ≤ sizeLine)
    (h : ∀ t' tk, Q' (.str (tx ((l.drop ((lo.map (·.1)).elim 0 (clipAt l.length))).take ((hi.map (·.1)).elim l.length (clipAt l.length) - (lo.map (·.1)).elim 0 (clipAt l.length)))) t') { s with toks := tk }) :
    (sliceMade (tx l) t lo hi none).post Q' s := by
  have hl : (tx l).length = l.length := tx_len l
  unfold sliceMade slicePicked
  simp only [Option.map_none, Option.getD_none, hl, beq_self_eq_true, Bool.true_and]
  split
  · rename_i e
    rw [strIdx, List.length_map, List.length_range, beq_iff_eq] at e
    have := h t s.toks
    rw [take_all_of (by cases hi with | none => exact Nat.le_refl _ | some p => exact clip_le _ _) e] at this
    exact this
  · refine ⟨?_, ?_⟩
    · rw [show (tx l).cps = l.toArray from rfl, strCut]
      show (tx _).length ≤ _
      rw [tx_len]
      exact Nat.le_trans (Nat.le_trans (List.length_take_le _ _) (Nat.sub_le _ _)) (by cases hi with | none => exact hz | some p => exact Nat.le_trans (clip_le _ _) hz)
    · rw [show (tx l).cps = l.toArray from rfl, strCut]
      exact h s.toks (s.toks + 1)
/-- x[i:j], the places not negative -/
theorem w_cutS {sl : Addr} {i j : Nat} {ti tj : Tok} (hs : (sl, sliR (.int i ti) (.int j tj) .none) ∈ ms) (hz : l.length ≤ sizeLine) (h : ∀ t, Q (.str (tx ((l.drop i).take (j - i))) t) g ms) : W P n g ms (getItem (.str (tx l) t) (.ref sl)) Q := by
  refine W.leaf fun A s R hA S Q' k => ?_
  obtain ⟨o, e, rfl⟩ := S.get (List.mem_append_left _ hs)
  refine wpAny_getItem_str_slice (l := some (i, ti)) (u := some (j, tj)) (st := none) ⟨_, e, rfl, rfl⟩ rfl (sliceMade_post hz fun t' tk => k _ _ ?_)
  simp only [Option.map_some, Option.elim, clipAt_nat]
  have : (l.drop (min i l.length)).take (min j l.length - min i l.length) = (l.drop i).take (j - i) := by
    rcases Nat.le_total i l.length with h1 | h1
    · rw [Nat.min_eq_left h1]
      rcases Nat.le_total j l.length with h2 | h2
      · rw [Nat.min_eq_left h2]
      · rw [Nat.min_eq_right h2, List.take_of_length_le (by simp), List.take_of_length_le (by simp; (first | lia | omega))]
    · rw [Nat.min_eq_right h1, List.drop_of_length_le (Nat.le_refl _), List.drop_of_length_le h1]; simp
  rw [this]
  exact h t'
theorem w_cutToS {sl : Addr} {j : Nat} {tj : Tok} (hs : (sl, sliR .none (.int j tj) .none) ∈ ms) (hz : l.length ≤ sizeLine) (h : ∀ t, Q (.str (tx (l.take j)) t) g ms) : W P n g ms (getItem (.str (tx l) t) (.ref sl)) Q := by
  refine W.leaf fun A s R hA S Q' k => ?_
  obtain ⟨o, e, rfl⟩ := S.get (List.mem_append_left _ hs)
  refine wpAny_getItem_str_slice (l := none) (u := some (j, tj)) (st := none) ⟨_, e, rfl, rfl⟩ rfl (sliceMade_post hz fun t' tk => k _ _ ?_)
  simp only [Option.map_some, Option.map_none, Option.elim, clipAt_nat, List.drop_zero, Nat.sub_zero]
  have : l.take (min j l.length) = l.take j := by
    rcases Nat.le_total j l.length with h2 | h2
    · rw [Nat.min_eq_left h2]
    · rw [Nat.min_eq_right h2, List.take_of_length_le (Nat.le_refl _), List.take_of_length_le h2]
  rw [this]
  exact h t'
theorem w_cutFromS {sl : Addr} {i : Nat} {ti : Tok} (hs : (sl, sliR (.int i ti) .none .none) ∈ ms) (hz : l.length ≤ sizeLine) (h : ∀ t, Q (.str (tx (l.drop i)) t) g ms) : W P n g ms (getItem (.str (tx l) t) (.ref sl)) Q := by
  refine W.leaf fun A s R hA S Q' k => ?_
  obtain ⟨o, e, rfl⟩ := S.get (List.mem_append_left _ hs)
  refine wpAny_getItem_str_slice (l := some (i, ti)) (u := none) (st := none) ⟨_, e, rfl, rfl⟩ rfl (sliceMade_post hz fun t' tk => k _ _ ?_)
  simp only [Option.map_some, Option.map_none, Option.elim, clipAt_nat]
  have : (l.drop (min i l.length)).take (l.length - min i l.length) = l.drop i := by
    rcases Nat.le_total i l.length with h1 | h1
    · rw [Nat.min_eq_left h1, List.take_of_length_le (by simp)]
    · rw [Nat.min_eq_right h1, List.drop_of_length_le (Nat.le_refl _), List.drop_of_length_le h1]; simp
  rw [this]
  exact h t'

/-! slices of lists -/
theorem w_pickL {lst sl : Addr} {xs : List Value} {vl vu vs : Value} {lo hi st : Option Int} (hs : (sl, sliR vl vu vs) ∈ ms) (hl : Has g ms lst (lstR xs)) (pl : IsPart vl lo) (pu : IsPart vu hi) (ps : IsPart vs st) (h0 : st ≠ some 0) (hz : xs.length ≤ sizeLine)
    (h : ∀ ys : Array Value, ys.toList.map er = xs → ∀ r, Q (.ref r) g ((r, lstR ((slicePick ys lo hi st).toList.map er)) :: ms)) : W P n g ms (getItem (.ref lst) (.ref sl)) Q := by
  refine ⟨fun A s R hA S => ?_⟩
  obtain ⟨o, e, rfl⟩ := S.get (List.mem_append_left _ hs)
  obtain ⟨ys, hL, hq⟩ := (hl.at S).list
  exact wpAny_getItem_list_slice (hsz := by rw [size_er hq]; exact hz) hL ⟨_, e, rfl, rfl⟩ pl pu ps h0 ⟨g, _, _, s.toks, rfl, .refl _, S.push rfl ⟨_, _, rfl, rfl⟩, h ys hq _⟩
theorem w_cutToL {lst sl : Addr} {xs : List Value} {j : Nat} {tj : Tok} (hs : (sl, sliR .none (.int j tj) .none) ∈ ms) (hl : Has g ms lst (lstR xs)) (hz : xs.length ≤ sizeLine)
    (h : ∀ r, Q (.ref r) g ((r, lstR (xs.take j)) :: ms)) : W P n g ms (getItem (.ref lst) (.ref sl)) Q :=
  w_pickL hs hl .none (.int _ _) .none (by simp) hz fun ys hq r => by rw [slicePick_upto', List.map_take, hq]; exact h r
theorem w_cutFromL {lst sl : Addr} {xs : List Value} {j : Nat} {tj : Tok} (hs : (sl, sliR (.int j tj) .none .none) ∈ ms) (hl : Has g ms lst (lstR xs)) (hz : xs.length ≤ sizeLine)
    (h : ∀ r, Q (.ref r) g ((r, lstR (xs.drop j)) :: ms)) : W P n g ms (getItem (.ref lst) (.ref sl)) Q :=
  w_pickL hs hl (.int _ _) .none .none (by simp) hz fun ys hq r => by rw [slicePick_from', List.map_drop, hq]; exact h r
theorem revIdx (m : Nat) : sliceRange ((m : Int) - 1) (-1) (-1) = (List.range m).map fun k => m - 1 - k := by
  unfold sliceRange
  have : ¬ ((-1 : Int) > 0) := by decide
  simp only [this, if_false]
  have hc : (if (m : Int) - 1 > -1 then ((m : Int) - 1 - -1 - -1 - 1) / (- -1) else 0) = m := by
    split
    · rw [show ((m : Int) - 1 - -1 - -1 - 1) = m by (first | lia | omega)]; simp
    · (first | lia | omega)
  rw [hc, Int.toNat_natCast]
  refine List.map_congr_left fun k hk => ?_
  have := List.mem_range.mp hk
  (first | lia | omega)
theorem revPick' {α : Type} (l : List α) : ∀ k, k ≤ l.length → ((List.range k).map fun i => k - 1 - i).filterMap (l.toArray[·]?) = (l.take k).reverse
  | 0, _ => by simp
  | k + 1, h => by
    rw [List.range_succ_eq_map, List.map_cons, List.map_map]
    have hk : k < l.length := h
    have e : ((fun i => k + 1 - 1 - i) ∘ Nat.succ) = fun i => k - 1 - i := by
      funext i; simp only [Function.comp]; (first | lia | omega)
    rw [e, List.filterMap_cons]
    have : l.toArray[k + 1 - 1 - 0]? = some l[k] := by simp [hk]
    rw [this]
    simp only
    rw [revPick' l k (Nat.le_of_lt hk), List.take_succ_eq_append_getElem hk, List.reverse_append]
    rfl
theorem w_revL {lst sl : Addr} {xs : List Value} {t : Tok} (hs : (sl, sliR .none .none (.int (-1) t)) ∈ ms) (hl : Has g ms lst (lstR xs)) (hz : xs.length ≤ sizeLine)
    (h : ∀ r, Q (.ref r) g ((r, lstR xs.reverse) :: ms)) : W P n g ms (getItem (.ref lst) (.ref sl)) Q :=
  w_pickL hs hl .none .none (.int _ _) (by simp) hz fun ys hq r => by
    have e : slicePick ys none none (some (-1)) = ys.toList.reverse.toArray := by
      unfold slicePick
      have : sliceBounds none none (some (-1)) ys.size = ((ys.size : Int) - 1, -1, -1) := by simp [sliceBounds]
      rw [this]
      simp only
      rw [revIdx]
      have := revPick' ys.toList ys.size (by simp)
      rw [Array.toArray_toList] at this
      rw [this, List.take_of_length_le (by simp)]
    rw [e]
    simp only [List.map_reverse, hq]
    exact h r

/-! more of texts -/
theorem w_getJoin {x : Str} {pl : Sem Bool} {Q : Value × List Value → Heap → Ms → Prop} (h : Q (.builtin "str.join", [.str x t]) g ms) : W P n g ms (getMethod (.str x t) "join" pl) Q := W.leaf fun A s R hA S Q' k => GM.join (k _ s.toks h)
theorem w_getCount {x : Str} {pl : Sem Bool} {Q : Value × List Value → Heap → Ms → Prop} (h : Q (.builtin "str.count", [.str x t]) g ms) : W P n g ms (getMethod (.str x t) "count" pl) Q := W.leaf fun A s R hA S Q' k => GM.count (k _ s.toks h)
theorem w_join {x : Str} {lst : Addr} {ys : List Str} (hl : Has g ms lst (lstR (sVs ys))) (hok : (ys.map (·.length)).sum + ys.length * x.length ≤ 16777216) (h : ∀ t, Q (.str (Txt.join x ys) t) g ms) :
    W P n g ms (call (.builtin "str.join") [.str x t, .ref lst]) Q := by
  refine W.leaf fun A s R hA S Q' k => ?_
  obtain ⟨zs, hL, hq⟩ := (hl.at S).list
  exact PyProof.Rows.join_list hL (strsAre hq) hok fun t' tk => k _ _ (h t')
theorem w_count {x y : Str} (h : ∀ t, Q (.int (Txt.count x y) t) g ms) : W P n g ms (call (.builtin "str.count") [.str x t, .str y u]) Q := W.leaf fun A s R hA S Q' k => SC.count (k _ _ (h _))
/-- the evaluation of x.replace(lit, lit) from a state that has drawn a token -/
structure W1 (P : Setup) (n : Nat) (g : Heap) (ms : Ms) {α : Type} (t : Sem α) (Q : α → Heap → Ms → Prop) : Prop where
  run : ∀ (A : Around) (s : Shared) (R : Ms), Room n A → 1 ≤ s.toks → St P g (ms ++ R) s.heap → wpAny (model P.prog P.w) A t (Back P g s R Q) (fun _ _ => False) s
theorem w_CallMethod {o : Expr} {name : Str} {apos pos : Pos} {args : List Expr} {Q : Value → Heap → Ms → Prop}
    (hbase : attributeBase o name env (eval o env) = eval o env)
    (hfew : ((backTo pos (starEach args env)).all (fun x => !x.1) && (backToKw pos (keywordEach [] env)).all (fun x => x.1.isSome)
      && decide (args.length + ([] : List Keyword).length + (if ([] : List Keyword).isEmpty then 0 else 1) < 30)) = true)
    (hline : (apos.endLine == pos.line) = true)
    (h : W P n g ms (eval o env) (fun ov g₁ ms₁ => W P n g₁ ms₁ (getMethod ov name (do return (← importBound o env).getD true)) (fun fp g₂ ms₂ => W P n g₂ ms₂ (callWith pos fp.1 fp.2 (backTo pos (starEach args env)) []) Q))) :
    W P n g ms (eval (.Call (.Attribute o name apos) args [] pos) env) Q := by
  refine ⟨fun A s R hA S => ?_⟩
  rw [arm_eval_Call, hbase]
  refine wpAny_bind (wpAny_mono (h.run A s R hA S) (fun ov s₁ b => ?_) fun _ _ e => e)
  refine wpAny_bind (wpAny_standAt ?_)
  have hform : methodCallForm (args.length + ([] : List Keyword).length) (backTo pos (starEach args env)) (backToKw pos (keywordEach [] env)) = true := hfew
  have hpos : methodCallPos true o env apos pos = pure pos := by unfold methodCallPos; simp [hline]
  unfold methodCall
  rw [hform]
  refine wpAny_bind (wpAny_holding ?_)
  unfold calleeOf
  rw [if_pos rfl]
  refine wpAny_mono (b.go hA) (fun fp s₂ b => ?_) fun _ _ e => e
  exact wpAny_bind (wpAny_of_eq hpos (b.go hA))
theorem w1_replace {o : Expr} {apos pos pc pd : Pos} {x y z : Str} {k1 k2 : Nat} {Q : Value → Heap → Ms → Prop}
    (hbase : attributeBase o "replace" env (eval o env) = eval o env) (hline : (apos.endLine == pos.line) = true)
    (h : W P n g ms (eval o env) (fun v g' ms' => ∃ t, v = .str x t ∧ x.length + (x.length + 1) * z.length ≤ 16777216 ∧ ∀ t, Q (.str (Txt.replace x y z) t) g' ms')) (hyz : (y == z) = false) :
    W1 P n g ms (eval (.Call (.Attribute o "replace" apos) [.Constant (.str y) k1 pc, .Constant (.str z) k2 pd] [] pos) env) Q := by
  refine ⟨fun A s R hA h1 S => ?_⟩
  rw [arm_eval_Call, hbase]
  refine wpAny_bind (wpAny_mono (wpAny_toks_of h1 (h.run A s R hA S)) (fun ov s₁ b => ?_) fun _ _ e => e.2)
  obtain ⟨h1', g', ms', h', tk, rfl, l, S', t, rfl, hb, q⟩ := b
  refine wpAny_bind (wpAny_standAt ?_)
  have hform : methodCallForm ([Expr.Constant (.str y) k1 pc, Expr.Constant (.str z) k2 pd].length + ([] : List Keyword).length) (backTo pos (starEach [.Constant (.str y) k1 pc, .Constant (.str z) k2 pd] env)) (backToKw pos (keywordEach [] env)) = true := rfl
  have hpos : methodCallPos true o env apos pos = pure pos := by unfold methodCallPos; simp [hline]
  unfold methodCall
  rw [hform]
  refine wpAny_bind (wpAny_holding ?_)
  unfold calleeOf
  rw [if_pos rfl]
  refine GM.replace ?_
  refine wpAny_bind (wpAny_of_eq hpos ?_)
  refine callWith_builtin rfl (evalArgs_plain ?_)
  show wpAny _ _ (spliced (backTo pos (starEach [Expr.Constant (.str y) k1 pc, Expr.Constant (.str z) k2 pd] env))) _ _ _
  refine args_cons (wpAny_Constant_str (args_cons (wpAny_Constant_str (args_nil ?_))))
  have h1'' : 1 ≤ tk := h1'
  exact SC.replace (by show tk ≠ 0; (first | lia | omega)) (by show tk + 1 ≠ 0; (first | lia | omega)) (by show tk ≠ tk + 1; (first | lia | omega)) hyz hb fun t' k => ⟨g', ms', h', k, rfl, l, S', q _⟩
/-- l + lit + r: a token is drawn ahead of r -/
theorem w_BinOp_lit {e r : Expr} {op op2 : Operator} {x : Str} {k : Nat} {pc p1 p2 : Pos} {Q : Value → Heap → Ms → Prop}
    (h : W P n g ms (eval e env) (fun a g₁ ms₁ => ∀ t, W P n g₁ ms₁ (binaryOp op a (.str x t)) (fun c g₂ ms₂ => W1 P n g₂ ms₂ (eval r env) (fun d g₃ ms₃ => W P n g₃ ms₃ (binaryOp op2 c d) Q)))) :
    W P n g ms (eval (.BinOp (.BinOp e op (.Constant (.str x) k pc) p1) op2 r p2) env) Q := by
  refine ⟨fun A s R hA S => wpAny_BinOp (wpAny_BinOp (wpAny_mono (h.run A s R hA S) (fun a s₁ b => ?_) fun _ _ x => x))⟩
  obtain ⟨g₁, ms₁, h₁, tk₁, rfl, l₁, S₁, q⟩ := b
  refine wpAny_mkText ?_
  refine wpAny_mono (wpAny_toks_of (n := 1) (Nat.succ_le_succ (Nat.zero_le _)) ((q tk₁).run A { s with heap := h₁, toks := tk₁ + 1 } R hA S₁)) (fun c s₂ b => ?_) fun _ _ x => x.2
  obtain ⟨h2, g₂, ms₂, h₂, tk₂, rfl, l₂, S₂, q⟩ := b
  refine wpAny_mono (q.run A _ R hA h2 S₂) (fun d s₃ b => ?_) fun _ _ x => x
  obtain ⟨g₃, ms₃, h₃, tk₃, rfl, l₃, S₃, q⟩ := b
  refine wpAny_mono (q.run A _ R hA S₃) (fun d s₃ b => ?_) fun _ _ x => x
  exact (b.same (l₂.trans l₃)).same l₁
end
end Mine
end
section
open PySem PySem.Calls PyProof.Rows PySem.Builtin
set_option Elab.async false
set_option autoImplicit false
set_option linter.unusedVariables false
set_option maxRecDepth 100000
namespace Mine

section
variable {P : Setup} {n : Nat} {g : Heap} {ms : Ms} {env : Env} {a b : Int} {t u : Tok} {Q : Value → Heap → Ms → Prop} {l : List Nat}

theorem w_negI (h : ∀ t, Q (.int (-a) t) g ms) : W P n g ms (unaryOp .USub (.int a t)) Q := W.leaf fun A s R hA S Q' k => PyProof.Rows.neg_int (k _ _ (h _))
theorem w_UnaryOp {op : UnaryOp} {x : Expr} {pos : Pos} (h : W P n g ms (eval x env) (fun v g' ms' => W P n g' ms' (unaryOp op v) Q)) : W P n g ms (eval (.UnaryOp op x pos) env) Q :=
  ⟨fun A s R hA S => wpAny_UnaryOp (h.thn hA S)⟩

/-! bytes -/
theorem w_notPyBytes {x : Array UInt8} {Q : Bool → Heap → Ms → Prop} (h : Q false g ms) : W P n g ms (getitemInPython (.bytes x t)) Q := by
  refine W.leaf fun A s R hA S Q' k => ?_
  rw [getitemInPython_of_ne (by simp)]
  exact wpAny_bind (wpAny_specialOf (PySem.W.typeIs_bytes s x t) PySem.W.FB.slot_bytes_getitem.lookup (wpAny_pure (k _ s.toks h)))
theorem w_addB {x y : Array UInt8} (hsz : x.size + y.size ≤ 16777216) (h : ∀ t, Q (.bytes (x ++ y) t) g ms) : W P n g ms (binaryOp .Add (.bytes x t) (.bytes y u)) Q :=
  W.leaf fun A s R hA S Q' k => PySem.W.KBy.add_bytes hsz fun t' tk => k _ _ (h t')
theorem w_cutB {x : Array UInt8} {sl : Addr} {i j : Nat} {ti tj : Tok} (hs : (sl, sliR (.int i ti) (.int j tj) .none) ∈ ms) (hne : ¬ (i = 0 ∧ x.size ≤ j)) (hz : x.size ≤ 1048576) (hij : i ≤ j) (hj : j ≤ x.size)
    (h : ∀ t, Q (.bytes ((x.toList.drop i).take (j - i)).toArray t) g ms) : W P n g ms (getItem (.bytes x t) (.ref sl)) Q := by
  refine W.leaf fun A s R hA S Q' k => ?_
  obtain ⟨o, e, rfl⟩ := S.get (List.mem_append_left _ hs)
  have hb : sliceBounds (some (i : Int)) (some (j : Int)) none x.size = ((i : Int), (j : Int), 1) := by
    rw [sliceBounds_plain]
    simp only [Option.elim, clipAt_nat]
    rw [Nat.min_eq_left (Nat.le_trans hij hj), Nat.min_eq_left hj]
  have hp : PySem.W.KBy.picked x (some (i : Int)) (some (j : Int)) = ((x.toList.drop i).take (j - i)).toArray := by
    unfold PySem.W.KBy.picked Bytes.sliced
    rw [hb]
    simp only [sliceRange_one, pick_run]
  refine getItem_meets (PySem.W.typeIs_bytes _ _ _) (by decide) PySem.W.FB.slot_bytes_getitem PySem.W.FB.entry_bytes_getitem (PySem.W.FB.args_bytes_getitem_2 _ _) (PySem.W.KBy.meets_slice x t sl (.int _ _) (.int _ _) ?_) ⟨⟨_, e, rfl, rfl⟩, ?_, ?_⟩
  · unfold PySem.W.KBy.whole
    rw [hb]
    simp only
    cases hc : ((i : Int) == 0 && (1 : Int) == 1 && (j : Int) == (x.size : Int) && !x.isEmpty) with
    | false => rfl
    | true =>
      simp only [Bool.and_eq_true, beq_iff_eq] at hc
      exact absurd ⟨by (first | lia | omega), by (first | lia | omega)⟩ hne
  · rw [hp, sizeLine_eq]; simp; (first | lia | omega)
  · rw [hp]; exact k _ _ (h _)
theorem meets_rev (x : Array UInt8) (t ti : Tok) (a : Addr) : Meets («bytes.__getitem__» ⟨[.bytes x t, .ref a], []⟩) (fun _ R s => s.heap.IsSliceOf a .none .none (.int (-1) ti) ∧ x.size ≤ sizeLine ∧ R (.ok (.ret (.bytes x.toList.reverse.toArray s.toks))) { s with toks := s.toks + 1 }) := by
  refine .of_wp fun prog w A R s hS => ?_
  obtain ⟨⟨o, ho, hc, hd⟩, hsz, h⟩ := hS
  have hT : s.TypeIs (.ref a) "slice" := ⟨o, ho, hc⟩
  show wpAny _ _ (Bytes.payload (.bytes x t) >>= fun r => _) _ _ s
  refine wpAny_bind (wpAny_of_eq (a := x) rfl ?_)
  show wpAny _ _ (Bytes.subscript? (.ref a) >>= fun r => _) _ _ s
  refine wpAny_bind ?_
  unfold Bytes.subscript?
  refine wpAny_bind (wpAny_specialOf hT slice_no_index (wpAny_pure ?_))
  refine wpAny_bind (wpAny_typeOf hT ?_)
  show wpAny _ _ (Bytes.sliceParts (.ref a) >>= fun r => _) _ _ s
  refine wpAny_bind ?_
  unfold Bytes.sliceParts
  refine wpAny_bind (wpAny_field (x := .int (-1) ti) ho hd rfl ?_)
  refine wpAny_bind (wpAny_ite (PySem.W.KBy.ite_no (show ¬ ((Value.int (-1) ti == Value.none) = true) from Bool.false_ne_true) ?_))
  refine wpAny_bind (wpAny_specialOf (T := "int") (typeIs_int _ _ _) PySem.F.slot_int_index.lookup ?_)
  refine wpAny_ite (PySem.W.KBy.ite_no (show ¬ (Option.isNone (some _) = true) from Bool.false_ne_true) ?_)
  refine wpAny_bind (wpAny_of_eq rfl (wpAny_pure ?_))
  refine wpAny_ite (PySem.W.KBy.ite_no (show ¬ ((rawInt (-1) == rawInt 0) = true) by decide) ?_)
  refine wpAny_bind (wpAny_field (x := .none) ho hd rfl ?_)
  refine wpAny_bind (wpAny_of_eq (a := Value.none) rfl ?_)
  refine wpAny_bind (wpAny_field (x := .none) ho hd rfl ?_)
  refine wpAny_bind (wpAny_of_eq (a := Value.none) rfl ?_)
  refine wpAny_pure ?_
  have hb : sliceBounds none none (some (-1)) x.size = ((x.size : Int) - 1, -1, -1) := by simp [sliceBounds]
  refine wpAny_bind (wpAny_of_eq (a := ((x.size : Int) - 1, -1, -1)) ?_ ?_)
  · show sliceIndices (rawPart none) (rawPart none) (rawPart (some (-1))) x.size = _
    rw [sliceIndices_raw none none (some (-1)) x.size (by simp), hb]
  · refine wpAny_ite (PySem.W.KBy.ite_no (by simp) ?_)
    have hr : Bytes.sliced x ((x.size : Int) - 1) (-1) (-1) = x.toList.reverse.toArray := by
      unfold Bytes.sliced
      rw [revIdx]
      have := revPick' x.toList x.size (by simp)
      rw [Array.toArray_toList] at this
      rw [this, List.take_of_length_le (by simp)]
    rw [hr]
    exact wpAny_bind (wpAny_mkBytes (wpAny_pure ⟨_, rfl, h⟩) (by simpa using hsz))
theorem w_revB {x : Array UInt8} {sl : Addr} {ti : Tok} (hs : (sl, sliR .none .none (.int (-1) ti)) ∈ ms) (hz : x.size ≤ 1048576)
    (h : ∀ t, Q (.bytes x.toList.reverse.toArray t) g ms) : W P n g ms (getItem (.bytes x t) (.ref sl)) Q := by
  refine W.leaf fun A s R hA S Q' k => ?_
  obtain ⟨o, e, rfl⟩ := S.get (List.mem_append_left _ hs)
  exact getItem_meets (PySem.W.typeIs_bytes _ _ _) (by decide) PySem.W.FB.slot_bytes_getitem PySem.W.FB.entry_bytes_getitem (PySem.W.FB.args_bytes_getitem_2 _ _) (meets_rev x t ti sl) ⟨⟨_, e, rfl, rfl⟩, by rw [sizeLine_eq]; (first | lia | omega), k _ _ (h _)⟩

/-! subscripts: the two shapes -/
theorem w_subPlain {slice : Expr} {o i : Value} (hs : subscripted slice false o i = operate [o, i] (getItem o i) := by with_unfolding_all rfl) (h : W P n g ms (getItem o i) Q) : W P n g ms (subscripted slice false o i) Q := by
  rw [hs]
  exact ⟨fun A s R hA S => wpAny_operating (h.run A s R hA S)⟩
theorem w_subCut {lo hi : Option Expr} {p : Pos} {o i : Value} (h : W P n g ms (getItem o i) Q) : W P n g ms (subscripted (.Slice lo hi none p) false o i) Q := by
  show W P n g ms (operate [i, o] (getItem o i)) Q
  exact ⟨fun A s R hA S => wpAny_operating (h.run A s R hA S)⟩
theorem w_subCut3 {lo hi st : Option Expr} {p : Pos} {o i : Value} (hst : st.isSome = true) (h : W P n g ms (getItem o i) Q) : W P n g ms (subscripted (.Slice lo hi st p) false o i) Q := by
  obtain ⟨e, rfl⟩ := Option.isSome_iff_exists.mp hst
  show W P n g ms (operate [o, i] (getItem o i)) Q
  exact ⟨fun A s R hA S => wpAny_operating (h.run A s R hA S)⟩

/-! builtins of ints -/
theorem w_abs (h : ∀ t, Q (.int (if a < 0 then -a else a) t) g ms) : W P n g ms (call (.builtin "abs") [.int a t]) Q := W.leaf fun A s R hA S Q' k => call_abs_int fun u tk => k _ _ (h _)
theorem w_toInt (h : Q (.int a t) g ms) : W P n g ms (call (.type "int") [.int a t]) Q := W.leaf fun A s R hA S Q' k => call_int_int (k _ s.toks h)
theorem w_min (h : ∀ t, Q (.int (if b < a then b else a) t) g ms) : W P n g ms (call (.builtin "min") [.int a t, .int b u]) Q :=
  ⟨fun A s R hA S => min_two_ints hA.2.2 fun h' tk hk => ⟨g, ms, h', tk, rfl, .refl _, S.ext hk, by split <;> (rename_i hc; have := h; simp only [hc, if_true, if_false] at this; exact this _)⟩⟩
theorem w_divmod (hb : b ≠ 0) (hp : Builtin.divisionGoesByPylong a b = false) (h : ∀ r, Q (.ref r) g ((r, tupR [.int (a.fdiv b) 0, .int (a.fmod b) 0]) :: ms)) : W P n g ms (call (.builtin "divmod") [.int a t, .int b u]) Q :=
  ⟨fun A s R hA S => PyProof.Rows.divmod_int hb ⟨g, _, _, _, rfl, .refl _, S.push rfl ⟨rfl, _, _, rfl, rfl⟩, h _⟩ (.inl hp)⟩
theorem intItems_of : ∀ {vs : List Value} {ns : List Int}, IntsAre vs ns → ∃ xs : List (Int × Tok), vs = xs.map (fun p => .int p.1 p.2) ∧ xs.map (·.1) = ns
  | _, _, .nil => ⟨[], rfl, rfl⟩
  | _, _, .cons i t h => let ⟨xs, e1, e2⟩ := intItems_of h; ⟨(i, t) :: xs, by rw [e1]; rfl, by rw [← e2]; rfl⟩
theorem preSum_take (xs : Array (Int × Tok)) : ∀ j, j ≤ xs.size → preSum (numAt xs) j = ((xs.toList.map (·.1)).take j).sum
  | 0, _ => rfl
  | j + 1, h => by
    rw [preSum, preSum_take xs j (Nat.le_of_succ_le h)]
    have hj : j < (xs.toList.map (·.1)).length := by simp; (first | lia | omega)
    rw [List.take_succ_eq_append_getElem hj, List.sum_append]
    have : numAt xs j = (xs.toList.map (·.1))[j] := by
      unfold numAt
      rw [Array.getElem?_eq_getElem (by (first | lia | omega))]
      simp
    rw [this]; simp
theorem w_sum {lst : Addr} {ns : List Int} (hl : Has g ms lst (lstR (iVs ns))) (hfit : ∀ j, j ≤ ns.length → InLong ((ns.take j).sum)) (hfit' : ∀ i ∈ ns, InLong i) (h : ∀ t, Q (.int ns.sum t) g ms) : W P n g ms (call (.builtin "sum") [.ref lst]) Q := by
  refine ⟨fun A s R hA S => ?_⟩
  obtain ⟨ys, hL, hq⟩ := (hl.at S).list
  obtain ⟨xs, e1, e2⟩ := intItems_of (intsAre hq)
  have e : ys = intItems xs.toArray := by
    apply Array.toList_inj.mp
    rw [e1]; simp [intItems]
  rw [e] at hL
  have hlen : xs.length = ns.length := by rw [← e2]; simp
  refine sum_intList hA.2.2 hL (fun j hj => ⟨?_, ?_⟩) fun h' tk t' hk => ⟨g, ms, h', tk, rfl, .refl _, S.ext hk, ?_⟩
  · have hj' : j < xs.length := by simpa using hj
    apply hfit'
    unfold numAt
    rw [← e2]
    simp [hj']
    exact ⟨_, List.getElem_mem hj'⟩
  · rw [preSum_take _ _ (by simp at hj ⊢; (first | lia | omega))]
    simp only [e2]
    exact hfit _ (by simp at hj; (first | lia | omega))
  · rw [preSum_take _ _ (Nat.le_refl _)]
    simp only [e2]
    rw [List.take_of_length_le (by simp [hlen])]
    exact h _

/-! sequences made of others -/
theorem w_tupleL {lst : Addr} {xs : List Value} (hl : Has g ms lst (lstR xs)) (hz : xs.length ≤ sizeLine) (h : ∀ r, Q (.ref r) g ((r, tupR xs) :: ms)) : W P n g ms (call (.type "tuple") [.ref lst]) Q := by
  refine ⟨fun A s R hA S => ?_⟩
  obtain ⟨ys, hL, hq⟩ := (hl.at S).list
  exact call_tuple_list (hsz := by rw [size_er hq]; exact hz) hL fun h' hk => ⟨g, _, _, s.toks, rfl, .refl _, (S.ext hk).push rfl ⟨rfl, _, _, rfl, hq⟩, h _⟩
theorem w_listT {tp : Addr} {xs : List Value} (hl : Has g ms tp (tupR xs)) (hz : xs.length ≤ sizeLine) (h : ∀ r, Q (.ref r) g ((r, lstR xs) :: ms)) : W P n g ms (call (.type "list") [.ref tp]) Q := by
  refine ⟨fun A s R hA S => ?_⟩
  obtain ⟨o, ho, hc, ys, k, hd, hq⟩ := hl.at S
  refine call_list_seq tp (T := "tuple") (hsz := by rw [size_er hq]; exact hz) (.inr rfl) ho hc hd fun h' c' hk hn => ⟨g, _, _, s.toks, rfl, .refl _, S.new hk ?_ ⟨_, hn, ys, c', rfl, hq⟩, h _⟩
  cases e : s.heap.get? s.heap.objs.size with
  | none => rfl
  | some o' => exact absurd (Heap.lt_size e) (Nat.lt_irrefl _)

/-! two lists of ints compared; a text in a list of texts; its place -/
theorem Room.up {k : Nat} {A : Around} (h : Room (k + 7) A) : A.units + 64 < cLine := by have := h.2.1; (first | lia | omega)
theorem w_eqLL {l1 l2 : Addr} {xs ys : List Int} (h1 : Has g ms l1 (lstR (iVs xs))) (h2 : Has g ms l2 (lstR (iVs ys))) (h : Q (.bool (decide (xs = ys))) g ms) : W P (n + 7) g ms (compareOp .Eq (.ref l1) (.ref l2)) Q := by
  refine W.leaf fun A s R hA S Q' k => ?_
  obtain ⟨vs, hL, hq⟩ := (h1.at S).list
  obtain ⟨ws, hM, hq'⟩ := (h2.at S).list
  exact PySem.W.ke_eq_ints (xs := vs.toList) (ys := ws.toList) (by simpa using hL) (by simpa using hM) (intsAre hq) (intsAre hq') hA.up (k _ s.toks h)
theorem w_neLL {l1 l2 : Addr} {xs ys : List Int} (h1 : Has g ms l1 (lstR (iVs xs))) (h2 : Has g ms l2 (lstR (iVs ys))) (h : Q (.bool (!decide (xs = ys))) g ms) : W P (n + 7) g ms (compareOp .NotEq (.ref l1) (.ref l2)) Q := by
  refine W.leaf fun A s R hA S Q' k => ?_
  obtain ⟨vs, hL, hq⟩ := (h1.at S).list
  obtain ⟨ws, hM, hq'⟩ := (h2.at S).list
  exact PySem.W.ke_ne_ints (xs := vs.toList) (ys := ws.toList) (by simpa using hL) (by simpa using hM) (intsAre hq) (intsAre hq') hA.up (k _ s.toks h)
end
end Mine
end
section
open PySem PySem.Calls PyProof.Rows PySem.Builtin PySem.MeetsSeq
set_option Elab.async false
set_option autoImplicit false
set_option linter.unusedVariables false
set_option maxRecDepth 100000
namespace Mine

section
variable {P : Setup} {n : Nat} {g : Heap} {ms : Ms} {env : Env} {a b : Int} {t u : Tok} {Q : Value → Heap → Ms → Prop} {l : List Nat}

theorem numAt_eq (xs : List (Int × Tok)) (i : Nat) : numAt xs.toArray i = (xs.map (·.1)).getD i 0 := by
  unfold numAt
  simp [List.getD_eq_getElem?_getD]
/-- max of a list whose ints are written -/
theorem w_max {lst : Addr} {ns : List Int} {m : Int} (hl : Has g ms lst (lstR (iVs ns))) (hne : 0 < ns.length) (hm : ns[argBest (fun i j => decide (ns.getD i 0 > ns.getD j 0)) (ns.length - 1)]? = some m) (h : ∀ t, Q (.int m t) g ms) :
    W P n g ms (call (.builtin "max") [.ref lst]) Q := by
  refine ⟨fun A s R hA S => ?_⟩
  obtain ⟨ys, hL, hq⟩ := (hl.at S).list
  obtain ⟨xs, e1, e2⟩ := intItems_of (intsAre hq)
  have e : ys = intItems xs.toArray := by
    apply Array.toList_inj.mp
    rw [e1]; simp [intItems]
  rw [e] at hL
  have hlen : xs.length = ns.length := by rw [← e2]; simp
  refine max_intList hA.2.2 hL (by simp; (first | lia | omega)) fun v h' tk hv hk => ?_
  have hbt : (fun i j => decide (numAt xs.toArray i > numAt xs.toArray j)) = fun i j => decide (ns.getD i 0 > ns.getD j 0) := by
    funext i j; rw [numAt_eq, numAt_eq, e2]
  rw [hbt] at hv
  simp only [List.size_toArray, hlen] at hv
  have : ∃ t, v = .int m t := by
    unfold intItems at hv
    rw [Array.getElem?_map, Option.map_eq_some_iff] at hv
    obtain ⟨p, hp, rfl⟩ := hv
    rw [← e2, List.getElem?_map, Option.map_eq_some_iff] at hm
    obtain ⟨p', hp', rfl⟩ := hm
    rw [List.getElem?_toArray] at hp
    rw [e2] at hp'
    rw [hp] at hp'
    cases hp'
    exact ⟨_, rfl⟩
  obtain ⟨t', rfl⟩ := this
  exact ⟨g, ms, h', tk, rfl, .refl _, S.ext hk, h t'⟩

/-! a text among texts -/
noncomputable def isText (x : Str) : Value → Bool
  | .str y _ => y == x
  | _ => false
theorem eqGives_text {x : Str} {t : Tok} : ∀ {vs : List Value} {ss : List Str}, StrsAre vs ss → ∀ y ∈ vs, EqGives y (.str x t) (isText x y)
  | _, _, .nil, y, h => by cases h
  | _, _, .cons z t' r, y, h => by
    rcases List.mem_cons.mp h with rfl | h
    · have := PySem.SeqRoads2.EqGives.str z x t' t
      have e : (z.cps.toList == x.cps.toList) = (z == x) := by
        rw [tx_of z, tx_of x, tx_beq]
        simp only [tx_list]
        by_cases hh : z.cps.toList = x.cps.toList
        · simp only [hh, decide_true, beq_self_eq_true]
        · rw [beq_eq_false_iff_ne.mpr hh, decide_eq_false hh]
      rw [e] at this
      exact this
    · exact eqGives_text r y h
theorem any_text {x : Str} : ∀ {vs : List Value} {ss : List Str}, StrsAre vs ss → vs.any (isText x) = ss.any (· == x)
  | _, _, .nil => rfl
  | _, _, .cons z t' r => by rw [List.any_cons, List.any_cons, any_text r]; rfl
theorem w_notInL {lst : Addr} {ss : List Str} {x : Str} (hl : Has g ms lst (lstR (sVs ss))) (h : Q (.bool (!ss.any (· == x))) g ms) : W P n g ms (compareOp .NotIn (.str x t) (.ref lst)) Q := by
  refine W.leaf fun A s R hA S Q' k => ?_
  obtain ⟨ys, hL, hq⟩ := (hl.at S).list
  refine PySem.SeqInW.notIn_listW (isText x) (fun y hy => eqGives_text (strsAre hq) y (Array.mem_toList_iff.mpr hy)) hL ?_
  rw [← Array.any_toList, any_text (strsAre hq)]
  exact k _ s.toks h
theorem get_text {x : Str} : ∀ {vs : List Value} {ss : List Str}, StrsAre vs ss → ∀ {j : Nat} {v : Value} {y : Str}, vs[j]? = some v → ss[j]? = some y → isText x v = (y == x)
  | _, _, .nil, _, _, _, h, _ => by simp at h
  | _, _, .cons z t' r, j, v, y, h, h' => by
    cases j with
    | zero => simp at h h'; subst h; subst h'; rfl
    | succ j => exact get_text (j := j) r h h'
theorem w_index {lst : Addr} {ss : List Str} {x : Str} {j : Nat} (hl : Has g ms lst (lstR (sVs ss))) (hj : ss[j]? = some x) (hno : ∀ m, m < j → ss[m]? ≠ some x) (hz : ss.length ≤ 2 ^ 24) (h : ∀ t, Q (.int j t) g ms) :
    W P n g ms (call (.builtin "list.index") [.ref lst, .str x t]) Q := by
  refine W.leaf fun A s R hA S Q' k => ?_
  obtain ⟨ys, ⟨c, hL⟩, hq⟩ := (hl.at S).plain
  have hS := strsAre hq
  have hlen : ys.size = ss.length := by have := size_er hq; simpa [sVs] using this
  have hjs : j < ss.length := (List.getElem?_eq_some_iff.mp hj).1
  have at_ : ∀ m (hm : m < ys.size), isText x ys[m] = (ss[m]'(by (first | lia | omega)) == x) := fun m hm =>
    get_text hS (j := m) (by rw [Array.getElem?_toList, Array.getElem?_eq_getElem hm]) (List.getElem?_eq_getElem (by (first | lia | omega)))
  refine call_meets PySem.F.slot_list_index ⟨_, hL, rfl⟩ PySem.F.entry_list_index (PySem.F.args_list_index_2 _ _) (list_index lst ys c (.str x t) (isText x) (fun y hy => eqGives_text hS y (Array.mem_toList_iff.mpr hy)) j (by (first | lia | omega)) (by (first | lia | omega)) ?_ ?_) ⟨hL, k _ _ (h _)⟩
  · rw [at_ j (by (first | lia | omega))]
    have := (List.getElem?_eq_some_iff.mp hj).2
    simp [this]
  · intro m hm hlt
    rw [at_ m hm, beq_eq_false_iff_ne]
    intro e
    exact hno m hlt (by rw [List.getElem?_eq_getElem (by (first | lia | omega)), e])

/-! unpacking -/
theorem w_inOrder {t₁ : Value → Sem Unit} {ts : List (Value → Sem Unit)} {x : Value} {xs : List Value} {Q : Unit → Heap → Ms → Prop} (h : W P n g ms (t₁ x) (fun _ g' ms' => W P n g' ms' (assignInOrder ts xs) Q)) : W P n g ms (assignInOrder (t₁ :: ts) (x :: xs)) Q :=
  W.bind (W.holding h)
theorem w_inOrderNil {Q : Unit → Heap → Ms → Prop} (h : Q () g ms) : W P n g ms (assignInOrder [] []) Q := W.pure h
/-- what holds of values whatever their tokens -/
noncomputable def TkAll : List Value → (List Value → Prop) → Prop
  | [], C => C []
  | x :: r, C => Tk x fun v => TkAll r fun vs => C (v :: vs)
theorem TkAll.use : ∀ {xs : List Value} {C : List Value → Prop}, TkAll xs C → ∀ vs : List Value, vs.map er = xs → C vs
  | [], C, h, [], _ => h
  | [], _, _, _ :: _, e => by cases e
  | _ :: _, _, _, [], e => by cases e
  | x :: r, C, h, v :: vs, e => by
    have e1 := (List.cons.inj e).1
    have e2 := (List.cons.inj e).2
    exact TkAll.use (h v e1) vs e2
theorem w_unpack {elts : List Expr} {k : Nat} {pos : Pos} {tp : Addr} {xs : List Value} {Q : Unit → Heap → Ms → Prop} (ht : Has g ms tp (tupR xs)) (hn : (assignEach elts env).length = xs.length) (hstar : (assignEach elts env).findIdx? (·.1) = none)
    (h : TkAll xs fun vs => W P n g ms (assignInOrder ((assignEach elts env).map (·.2)) vs) Q) : W P n g ms (assign (.Tuple elts k pos) env (.ref tp)) Q := by
  refine ⟨fun A s R hA S => ?_⟩
  obtain ⟨o, ho, hc, ys, c, hd, hq⟩ := ht.at S
  refine wpAny_assign_Tuple hA.2.2 ⟨o, ho, hc, c, hd⟩ (by rw [size_er hq]; exact hn) hstar fun h' hs => ?_
  have le : Le s.heap h' := fun b o e => hs b o (Nat.ne_of_lt (Heap.lt_size e)) e
  exact wpAny_mono ((h.use ys.toList hq).run A { s with heap := h' } R hA (S.ext le)) (fun _ _ x => x.same (.refl _) (t := s.toks)) fun _ _ x => x
/-- a, b = x, y upon two locals: the stores in the other order -/
theorem w_swap {names : List Str} {targets : List Expr} {value : Expr} {pos : Pos} {Q : Flow → Heap → Ms → Prop} (hs : swapsWithSole targets value pos.line env = pure false) (hw : swappedStores targets value env = pure (some names))
    (h : W P n g ms (eval value env) (fun v g' ms' => ∃ tp xs, v = .ref tp ∧ Has g' ms' tp (tupR xs) ∧ xs.length = names.length ∧ TkAll xs fun vs => W P n g' ms' (assignInOrder (names.reverse.map fun n => bindName env n) vs.reverse) (fun _ => Q .next))) :
    W P n g ms (exec (.Assign targets value pos) env) Q := by
  refine ⟨fun A s R hA S => ?_⟩
  show wpAny _ _ (do
    standAt pos
    if ← swapsWithSole targets value pos.line env then do
      evalThenUse value env fun v => assignAll v ((assignEach targets env).map (·.2))
      pure .next
    else do
      let v ← eval value env
      assignStores env v (← swappedStores targets value env) ((assignEach targets env).map (·.2))) _ _ _
  refine wpAny_bind (wpAny_standAt (wpAny_bind ?_))
  rw [hs]
  refine wpAny_pure ?_
  simp only [Bool.false_eq_true, if_false]
  refine wpAny_bind (wpAny_mono (h.run A s R hA S) (fun v s₁ b => ?_) fun _ _ x => x)
  obtain ⟨g', ms', h', tk, rfl, l, S', tp, xs, rfl, ht, hlen, q⟩ := b
  rw [hw]
  refine wpAny_bind (wpAny_pure ?_)
  unfold assignStores
  dsimp only
  obtain ⟨o, ho, hc, ys, c, hd, hq⟩ := ht.at S'
  refine wpAny_bind (wpAny_rule (wpAny_bind ?_))
  have e : names.length = ys.size := by rw [size_er hq, hlen]
  rw [e]
  refine wpAny_unpackItems_tuple hA.2.2 ⟨o, ho, hc, c, hd⟩ fun h'' hs => ?_
  have le : Le h' h'' := fun b o e => hs b o (Nat.ne_of_lt (Heap.lt_size e)) e
  refine wpAny_bind ?_
  refine wpAny_mono ((q.use ys.toList hq).run A { s with heap := h'', toks := tk } R hA (S'.ext le)) (fun _ _ x => wpAny_pure (x.same l)) fun _ _ x => x
theorem w_bindName {x : Str} {v : Value} {Q : Unit → Heap → Ms → Prop} (h : W P n g ms (storeName env x v) Q) : W P n g ms (bindName env x v) Q :=
  ⟨fun A s R hA S => wpAny_bindName (h.run A s R hA S)⟩
end
end Mine
end
section
open PySem PySem.Calls PyProof.Rows PySem.Builtin PySem.MeetsSeq
set_option Elab.async false
set_option autoImplicit false
set_option linter.unusedVariables false
set_option maxRecDepth 100000
namespace Mine

/-- a dict by texts, in the order of its keys -/
noncomputable def dicR (P : Setup) (kvs : List (Str × Value)) : Rs := fun o => ∃ es ep zs, o.ExactDict ∧ o.data = .dict es ep ∧ PySem.KeysOf (PySem.strKind P.prog P.w) es ∧ Pairs (PySem.strKind P.prog P.w) es.toList zs ∧ (zs.map (·.1)).Nodup ∧ zs.map (fun p => (p.1, er p.2)) = kvs
/-- what a store makes of it -/
noncomputable def dput (kvs : List (Str × Value)) (k : Str) (v : Value) : List (Str × Value) := if kvs.any (fun kv => kv.1 = k) then kvs.map (fun kv => if kv.1 = k then (kv.1, v) else kv) else kvs ++ [(k, v)]

section
variable {P : Setup} {n : Nat} {g : Heap} {ms : Ms} {env : Env} {a b : Int} {t u : Tok} {Q : Value → Heap → Ms → Prop} {l : List Nat} {d : Addr} {kvs : List (Str × Value)} {x : Str}

theorem At.dict {h : Heap} (y : At h d (dicR P kvs)) : ∃ zs, h.DictOf (PySem.strKind P.prog P.w) d zs ∧ zs.map (fun p => (p.1, er p.2)) = kvs := by
  obtain ⟨o, e, es, ep, zs, h1, h2, h3, h4, h5, h6⟩ := y
  exact ⟨zs, ⟨o, es, ep, e, h1, h2, h3, h4, h5⟩, h6⟩
theorem At.ofDict {h : Heap} {zs : List (Str × Value)} (y : h.DictOf (PySem.strKind P.prog P.w) d zs) (e : zs.map (fun p => (p.1, er p.2)) = kvs) : At h d (dicR P kvs) := by
  obtain ⟨o, es, ep, e0, h1, h2, h3, h4, h5⟩ := y
  exact ⟨o, e0, es, ep, zs, h1, h2, h3, h4, h5, e⟩
theorem strIs (x : Str) (t : Tok) : (PySem.strKind P.prog P.w).is x (.str x t) = true := by show (x == x) = true; simp
theorem dput_er (zs : List (Str × Value)) (k : Str) (v : Value) : (stored zs k v).map (fun p => (p.1, er p.2)) = dput (zs.map fun p => (p.1, er p.2)) k (er v) := by
  unfold stored dput
  have : (zs.map fun p => (p.1, er p.2)).any (fun kv => kv.1 = k) = zs.any (fun kv => kv.1 = k) := by rw [List.any_map]; rfl
  rw [this]
  split
  · rw [List.map_map, List.map_map]
    refine List.map_congr_left fun p hp => ?_
    simp only [Function.comp]
    split <;> rfl
  · rw [List.map_append]; rfl
theorem w_dictSet {kvs' : List (Str × Value)} {ms' : Ms} {v : Value} {Q : Unit → Heap → Ms → Prop} (hm : Upd d (dicR P kvs) (dicR P kvs') ms ms') (hv : dput kvs x (er v) = kvs') (hz : kvs.length ≤ sizeLine) (h : Q () g ms') : W P n g ms (setItem (.ref d) (.str x t) v) Q := by
  subst hv
  refine ⟨fun A s R hA S => ?_⟩
  obtain ⟨zs, hd, e⟩ := (S.get (List.mem_append_left _ hm.mem)).dict
  have hlen : zs.length = kvs.length := by rw [← e]; simp
  exact wpAny_setItem_pairs (hsz := by rw [hlen]; exact hz) (strIs x t) hd fun h' hd' hs => ⟨g, ms', h', _, rfl, .refl _, S.upd (hm.app R) hs (At.ofDict hd' (by rw [dput_er, e])), h⟩
theorem valueAt_er (zs : List (Str × Value)) (k : Str) : (valueAt zs k).map er = ((zs.map fun p => (p.1, er p.2)).find? fun kv => kv.1 = k).map (·.2) := by
  unfold valueAt
  rw [List.find?_map]
  have : ((fun kv : Str × Value => decide (kv.1 = k)) ∘ fun p : Str × Value => (p.1, er p.2)) = fun kv => decide (kv.1 = k) := rfl
  rw [this]
  cases zs.find? fun kv => decide (kv.1 = k) with
  | none => rfl
  | some p => rfl
theorem w_dictGet {v : Value} (hm : Has g ms d (dicR P kvs)) (hv : (kvs.find? fun kv => kv.1 = x).map (·.2) = some v) (h : Tk v fun v' => Q v' g ms) : W P n g ms (getItem (.ref d) (.str x t)) Q := by
  refine W.leaf fun A s R hA S Q' k => ?_
  obtain ⟨zs, hd, e⟩ := (hm.at S).dict
  have := valueAt_er zs x
  rw [e, hv] at this
  obtain ⟨v', e1, e2⟩ := Option.map_eq_some_iff.mp this
  exact wpAny_getItem_of (strIs x t) hd.mapOf e1 (k _ _ (h v' e2))
theorem w_notPyDict {Q : Bool → Heap → Ms → Prop} (hm : Has g ms d (dicR P kvs)) (h : Q false g ms) : W P n g ms (getitemInPython (.ref d)) Q := by
  refine W.leaf fun A s R hA S Q' k => ?_
  obtain ⟨zs, hd, e⟩ := (hm.at S).dict
  rw [getitemInPython_of_ne (by simp)]
  exact wpAny_bind (wpAny_specialOf hd.mapOf.typeIs slot_dict_getitem.lookup (wpAny_pure (k _ s.toks h)))

/-- a table of the program's own: what stands under a text -/
noncomputable def TabIs (P : Setup) (d : Addr) (f : Str → Option Value) : Prop := (d == sysModules) = false ∧ ∀ h, P.K.In h → ∃ f', h.MapOf (PySem.strKind P.prog P.w) d f' ∧ ∀ x, (f' x).map er = f x
variable {f : Str → Option Value}
theorem w_inTab (ht : TabIs P d f) (h : Q (.bool (f x).isSome) g ms) : W P n g ms (compareOp .In (.str x t) (.ref d)) Q := by
  refine W.leaf fun A s R hA S Q' k => ?_
  obtain ⟨f', hm, he⟩ := ht.2 _ (S.base.own.keeps S.keep)
  refine wpAny_in_of (strIs x t) ht.1 hm ?_
  have : (f' x).isSome = (f x).isSome := by rw [← he]; cases f' x <;> rfl
  rw [this]; exact k _ _ h
theorem w_getGet {pl : Sem Bool} {Q : Value × List Value → Heap → Ms → Prop} (ht : TabIs P d f) (h : Q (.builtin "dict.get", [.ref d]) g ms) : W P n g ms (getMethod (.ref d) "get" pl) Q := by
  refine W.leaf fun A s R hA S Q' k => ?_
  obtain ⟨f', hm, he⟩ := ht.2 _ (S.base.own.keeps S.keep)
  have hT := hm.typeIs
  obtain ⟨o, es, ep, ho, hx, _⟩ := hm
  exact PySem.getMethod_builtin hT PySem.F.plainAttrs_dict PySem.F.slot_dict_get PySem.F.type_dict_get (fun a e => by cases e; exact ⟨o, ho, hx.2.1⟩) (k _ s.toks h)
theorem w_tabGet {v dv : Value} (ht : TabIs P d f) (hv : (f x).getD (er dv) = v) (h : Tk v fun v' => Q v' g ms) : W P n g ms (call (.builtin "dict.get") [.ref d, .str x t, dv]) Q := by
  refine W.leaf fun A s R hA S Q' k => ?_
  obtain ⟨f', hm, he⟩ := ht.2 _ (S.base.own.keeps S.keep)
  refine call_meetsIn PySem.F.slot_dict_get hm.typeIs PySem.F.entry_dict_get (PySem.F.args_dict_get_3 _ _ _) (meets_dict_get_default (PySem.strKind P.prog P.w) d (strIs x t) ht.1 dv) ⟨f', hm, k _ _ (h _ ?_)⟩
  rw [← hv, ← he x]
  cases f' x <;> rfl

/-- sorted(d): its keys in order -/
theorem w_sorted {ks : List Str} (hm : Has g ms d (dicR P kvs)) (hks : kvs.map (·.1) = ks) (hd : (d == sysModules) = false) (h64 : ks.length < 64)
    (h : ∀ ss r, ss.Perm ks → sortedS ss = true → Q (.ref r) g ((r, lstR (sVs ss)) :: ms)) : W P n g ms (call (.builtin "sorted") [.ref d]) Q := by
  refine ⟨fun A s R hA S => ?_⟩
  obtain ⟨zs, hdo, e⟩ := (hm.at S).dict
  obtain ⟨ep, hat⟩ := hdo.dictAt
  have hk : zs.map (·.1) = ks := by rw [← hks, ← e, List.map_map]; rfl
  have hlen : zs.length = ks.length := by rw [← hk]; simp
  refine call_function_entry kind_sorted plain_sorted entry_sorted (args_sorted1 _) ?_
  unfold Builtin.«sorted»
  refine wpAny_bind (m := checkCount "sorted" 1 1 _) (wpAny_pure ?_)
  refine wpAny_bind (PySem.W.kdu_collect (A := A.in1) (PySem.W.kdl_dict (knd := PySem.strKind P.prog P.w) (kvs := zs) (ep := ep) hd) hA.2.2 hat (by rw [sizeLine_eq]; (first | lia | omega)) fun h' tk acc hk' hacc => ?_)
  have hal : acc.toList.length = ks.length := by rw [Array.length_toList, hacc.1, hlen]
  have hS : StrsAre acc.toList ks := by
    have key : ∀ (vs : List Value) (zs : List (Str × Value)), vs.length = zs.length → (∀ (j : Nat) (v : Value), vs[j]? = some v → ∃ k y, zs[j]? = some (k, y) ∧ (PySem.strKind P.prog P.w).is k v = true) → StrsAre vs (zs.map (·.1)) := by
      intro vs
      induction vs with
      | nil => intro zs hl _; cases zs with
        | nil => exact .nil
        | cons z r => cases hl
      | cons v vs ih =>
        intro zs hl hv
        cases zs with
        | nil => cases hl
        | cons z r =>
          obtain ⟨k, y, e1, e2⟩ := hv 0 v rfl
          cases e1
          obtain ⟨t, rfl⟩ := Value.isStrOf_shape e2
          exact .cons k t (ih r (Nat.succ.inj hl) fun j v' hj => hv (j + 1) v' hj)
    rw [← hk]
    exact key acc.toList zs (by rw [hal, hlen]) fun (j : Nat) (v : Value) hj => hacc.2 j v (by rw [← Array.getElem?_toList]; exact hj)
  refine wpAny_bind (wpAny_newList ?_ (by rw [hal, sizeLine_eq]; (first | lia | omega)))
  have S₁ : St P g (ms ++ R) h' := S.ext hk'
  have hg : (h'.push { cls := .type "list", data := .seq acc.toList.toArray }).get? h'.objs.size = some (seqObj "list" acc.toList.toArray 0) := Heap.get?_push_size _ rfl
  refine wpAny_bind (wpAny_holding (wpAny_call_entry PyProof.Rows.slot_list_sort ⟨_, hg, rfl⟩ PyProof.Rows.entry_list_sort
    (list_sort_treeK strKind_oneLt hg hS.keysOf (fun v₁ v₂ rest e => keyKind_strs (by rw [← e]; exact hS)) (by rw [hal]; exact h64) fun st' hp hs => ⟨_, rfl, ?_⟩) (PyProof.Rows.args_list_sort _)))
  obtain ⟨ss, h1, h2, h3⟩ := sorted_out_str hS hp hs
  refine wpAny_pure ⟨_, rfl, ?_⟩
  obtain ⟨e', he'⟩ := sortedHeap_at (out := (arrOf st').map (·.2)) hg
  refine ⟨g, _, _, tk, rfl, .refl _, S₁.new (fun b o eb => ?_) ?_ ⟨_, he', _, _, rfl, of_strsAre h1⟩, h ss _ h2 h3⟩
  · have hlt := Heap.lt_size eb
    rw [sortedHeap_old (Nat.ne_of_lt hlt) (by rw [Heap.size_push]; exact Nat.lt_succ_of_lt hlt)]
    exact Heap.get?_push_of_some _ eb
  · cases eq : h'.get? h'.objs.size with
    | none => rfl
    | some o' => exact absurd (Heap.lt_size eq) (Nat.lt_irrefl _)

theorem w_truthyInt {Q : Bool → Heap → Ms → Prop} (h : Q (a != 0) g ms) : W P n g ms (truthy (.int a t)) Q := W.leaf fun A s R hA S Q' k => PyProof.Rows.truthy_int (k _ s.toks h)
end
end Mine
end
section
open PySem PySem.Calls PyProof.Rows PySem.Builtin PySem.MeetsSeq
set_option Elab.async false
set_option autoImplicit false
set_option linter.unusedVariables false
set_option maxRecDepth 100000
namespace Mine

/-- C holds here, or once some of the own part is let go, frozen or put in another order -/
noncomputable def Ease (P : Setup) (g : Heap) (ms : Ms) (C : Heap → Ms → Prop) : Prop := ∀ R h, St P g (ms ++ R) h → ∃ g' ms', Le g g' ∧ St P g' (ms' ++ R) h ∧ C g' ms'
section
variable {P : Setup} {n : Nat} {g : Heap} {ms : Ms} {α β : Type} {C : Heap → Ms → Prop}
theorem Ease.here (h : C g ms) : Ease P g ms C := fun R hp S => ⟨g, ms, .refl _, S, h⟩
theorem Ease.drop {ms' : Ms} (p : ms'.Sublist ms) (h : Ease P g ms' C) : Ease P g ms C := fun R hp S => h R hp (S.drop (p.append_right R))
theorem Ease.perm {ms' : Ms} (p : ms.Perm ms') (h : Ease P g ms' C) : Ease P g ms C := fun R hp S => h R hp (S.perm (p.append_right R))
theorem Ease.freeze {a : Addr} {r : Rs} (h : ∀ g', Le g g' → At g' a r → Ease P g' ms C) : Ease P g ((a, r) :: ms) C := fun R hp S => by
  obtain ⟨g', l, x, S'⟩ := S.freeze
  obtain ⟨g₂, ms₂, l₂, S₂, c⟩ := h g' l x R hp S'
  exact ⟨g₂, ms₂, l.trans l₂, S₂, c⟩
theorem W.ease {t : Sem α} {Q : α → Heap → Ms → Prop} (h : W P n g ms t (fun a g' ms' => Ease P g' ms' (Q a))) : W P n g ms t Q :=
  ⟨fun A s R hA S => wpAny_mono (h.run A s R hA S) (fun a s' x => by
    obtain ⟨g', ms', h', tk, e, l, S', q⟩ := x
    obtain ⟨g₂, ms₂, l₂, S₂, c⟩ := q R h' S'
    exact ⟨g₂, ms₂, h', tk, e, l.trans l₂, S₂, c⟩) fun _ _ x => x⟩
end

/-- a def's parts, out of its statement -/
noncomputable def dfOf (qual : Str) : Stmt → Df
  | .FunctionDef name args body _ _ _ scope _ _ _ => ⟨name, qual, args, body, scope⟩
  | _ => ⟨qual, qual, ⟨[], [], none, [], [], none, []⟩, [], { kind := .module, names := [], isGenerator := false, isCoroutine := false, more := [] }⟩

/-- where the frame's names get their first values -/
noncomputable def startIx (sc : Scope) (xs : List Str) : List (Option Nat) := sc.names.map fun p => if p.2 == .local then xs.findIdx? (· == p.1) else none
noncomputable def pick (args : List Value) (i : Option Nat) : Option Value := i.bind fun i => (args[i]?).map er
/-- a def that can be called plainly: its parameters' names -/
noncomputable def fnOk (d : Df) (xs : List Str) : Bool :=
  decide (d.params.args.map (·.arg) = xs) && d.params.posonlyargs.isEmpty && d.params.vararg.isNone && d.params.kwonlyargs.isEmpty && d.params.kw_defaults.isEmpty && d.params.kwarg.isNone && d.params.defaults.isEmpty &&
  decide xs.Nodup && decide (d.scope.names.map (·.1)).Nodup && d.scope.kind == .function && !d.scope.isCoroutine && !d.scope.isGenerator
theorem lookup_zip {xs : List Str} {args : List Value} (hn : xs.Nodup) (hl : args.length = xs.length) (x : Str) : (xs.zip args).lookup x = (xs.findIdx? (· == x)).bind fun i => args[i]? := by
  induction xs generalizing args with
  | nil => rfl
  | cons y r ih =>
    cases args with
    | nil => cases hl
    | cons v vs =>
      rw [List.zip_cons_cons, List.lookup_cons, List.findIdx?_cons]
      by_cases h : x = y
      · subst h; simp
      · have h1 : (x == y) = false := beq_eq_false_iff_ne.mpr h
        have h2 : (y == x) = false := beq_eq_false_iff_ne.mpr (Ne.symm h)
        rw [h1, h2, ih (List.nodup_cons.mp hn).2 (Nat.succ.inj hl)]
        cases r.findIdx? (· == x) <;> simp
theorem startVs_ix {sc : Scope} {xs : List Str} {args : List Value} (hn : xs.Nodup) (hl : args.length = xs.length) : startVs sc (xs.zip args) = (startIx sc xs).map (pick args) := by
  unfold startVs startIx
  rw [List.map_map]
  refine List.map_congr_left fun p hp => ?_
  simp only [Function.comp]
  by_cases h : (p.2 == NameKind.local) = true
  · rw [if_pos h, if_pos h, lookup_zip hn hl]
    unfold pick
    cases xs.findIdx? (· == p.1) <;> rfl
  · rw [if_neg h, if_neg h]; rfl
theorem bindArgs_plain {fd : FuncData} {xs : List Str} {args : List Value} (hx : fd.params.args.map (·.arg) = xs) (h1 : fd.params.posonlyargs = []) (h2 : fd.params.vararg = none) (h3 : fd.params.kwonlyargs = []) (h5 : fd.params.kwarg = none)
    (e2 : fd.defaults = .none) (e3 : fd.kwdefaults = .none) (hl : args.length = xs.length) (hn : xs.Nodup) : bindArgs fd ⟨args, []⟩ = pure (xs.zip args) := by
  unfold bindArgs
  have hm : (xs.filter fun n => ((xs.zip args).lookup n).isNone) = [] := by
    rw [List.filter_eq_nil_iff]
    intro x hx
    rw [lookup_zip hn hl]
    cases e : xs.findIdx? (· == x) with
    | none =>
      rw [List.findIdx?_eq_none_iff] at e
      have := e x hx
      simp at this
    | some i =>
      rw [List.findIdx?_eq_some_iff_getElem] at e
      obtain ⟨hi, _⟩ := e
      simp [hl, hi]
  have hz : xs.filterMap (fun n => ((xs.zip args).lookup n).map fun x => (n, x)) = xs.zip args := by
    have hk : (xs.zip args).map (·.1) = xs := by rw [List.map_fst_zip]; (first | lia | omega)
    have hnd : ((xs.zip args).map (·.1)).Nodup := by rw [hk]; exact hn
    have key : ∀ zs : List (Str × Value), (∀ p ∈ zs, p ∈ xs.zip args) → (zs.map (·.1)).filterMap (fun n => ((xs.zip args).lookup n).map fun x => (n, x)) = zs := by
      intro zs
      induction zs with
      | nil => intro _; rfl
      | cons p r ih =>
        intro h
        rw [List.map_cons, List.filterMap_cons, lookup_of_mem_nodup hnd (h p (.head _)), ih fun q hq => h q (.tail _ hq)]
        rfl
    have := key _ fun _ h => h
    rw [hk] at this
    exact this
  simp [h1, h2, h3, h5, hx, e2, e3, seqItems?, hl, hm, hz, notAStandIn]

section
variable {P : Setup} {n : Nat} {g : Heap} {ms : Ms} {f : Addr} {d : Df} {args : List Value} {xs : List Str} {Q : Value → Heap → Ms → Prop}
theorem fnOk_all (ok : fnOk d xs = true) : d.params.args.map (·.arg) = xs ∧ d.params.posonlyargs = [] ∧ d.params.vararg = none ∧ d.params.kwonlyargs = [] ∧ d.params.kwarg = none ∧ xs.Nodup ∧ (d.scope.names.map (·.1)).Nodup ∧ d.scope.kind = .function ∧ d.scope.isCoroutine = false ∧ d.scope.isGenerator = false := by
  simp only [fnOk, Bool.and_eq_true, decide_eq_true_eq, List.isEmpty_iff, Option.isNone_iff_eq_none, beq_iff_eq, Bool.not_eq_true'] at ok
  obtain ⟨⟨⟨⟨⟨⟨⟨⟨⟨⟨⟨a, b⟩, c⟩, d⟩, e⟩, f⟩, g⟩, h⟩, i⟩, j⟩, k⟩, l⟩ := ok
  exact ⟨a, b, c, d, f, h, i, j, k, l⟩
/-- a def of the program, all names local -/
noncomputable def fnOkL (d : Df) (xs : List Str) : Bool := fnOk d xs && xs.all (fun x => d.scope.names.lookup x == some .local) && d.scope.names.all (fun p => p.2 != .cell)
noncomputable def fnOkC (d : Df) (xs : List Str) : Bool := fnOk d xs && xs.all (fun x => d.scope.names.lookup x == some .local || d.scope.names.lookup x == some .cell)
theorem wc_fn {vs : List (Option Value)} (hf : FnIs P f d) (ok : fnOkL d xs = true) (hl : args.length = xs.length) (hv : (startIx d.scope xs).map (pick args) = vs)
    (h : ∀ env L, Ev env d.scope L [] → W P n g ((L, frR d.scope vs) :: ms) (execs d.body env) (RetQ Q)) : WC P (n + 1) g ms (.call (.ref f) ⟨args, []⟩) (fun fl g' ms' => ∃ v, fl = .ret v ∧ Q v g' ms') := by
  simp only [fnOkL, Bool.and_eq_true, List.all_eq_true, beq_iff_eq, bne_iff_ne] at ok
  obtain ⟨⟨o, hloc⟩, hcell⟩ := ok
  obtain ⟨h0, h1, h2, h3, h5, hn, hnd, k1, k2, k3⟩ := fnOk_all o
  have hk : (xs.zip args).map (·.1) = xs := by rw [List.map_fst_zip]; (first | lia | omega)
  refine wc_callFn hf (binds := xs.zip args) (fun fd e1 e2 e3 => bindArgs_plain (by rw [e1]; exact h0) (by rw [e1]; exact h1) (by rw [e1]; exact h2) (by rw [e1]; exact h3) (by rw [e1]; exact h5) e2 e3 hl hn) (fun p hp => hloc _ (by rw [← hk]; exact List.mem_map_of_mem hp)) hcell hnd (by rw [hk]; exact hn) ⟨k1, k2, k3⟩ fun env L hE => ?_
  rw [startVs_ix hn hl, hv]
  exact h env L hE
theorem w_fn {vs : List (Option Value)} (hf : FnIs P f d) (ok : fnOkL d xs = true) (hl : args.length = xs.length) (hv : (startIx d.scope xs).map (pick args) = vs)
    (h : ∀ env L, Ev env d.scope L [] → W P n g ((L, frR d.scope vs) :: ms) (execs d.body env) (RetQ Q)) : W P (n + 1) g ms (call (.ref f) args) Q := W.ofCall (wc_fn hf ok hl hv h)
theorem w_fnC {vs : List (Option Value)} {cs : Addr → List (Str × Addr)} {mcs : Addr → Ms} (hf : FnIs P f d) (ok : fnOkC d xs = true) (hl : args.length = xs.length) (hv : (startIx d.scope xs).map (pick args) = vs)
    (hcs : ∀ L, cellsOf d.scope L = cs L) (hmc : ∀ L, (cs L).map (fun p => (p.2, celR (pick args (xs.findIdx? (· == p.1))))) = mcs L)
    (h : ∀ env L, Ev env d.scope L (cs L) → W P n g ((L, frR d.scope vs) :: (mcs L ++ ms)) (execs d.body env) (RetQ Q)) : W P (n + 1) g ms (call (.ref f) args) Q := by
  simp only [fnOkC, Bool.and_eq_true, List.all_eq_true, beq_iff_eq, Bool.or_eq_true] at ok
  obtain ⟨o, hloc⟩ := ok
  obtain ⟨h0, h1, h2, h3, h5, hn, hnd, k1, k2, k3⟩ := fnOk_all o
  have hk : (xs.zip args).map (·.1) = xs := by rw [List.map_fst_zip]; (first | lia | omega)
  refine w_callFnC hf (binds := xs.zip args) (fun fd e1 e2 e3 => bindArgs_plain (by rw [e1]; exact h0) (by rw [e1]; exact h1) (by rw [e1]; exact h2) (by rw [e1]; exact h3) (by rw [e1]; exact h5) e2 e3 hl hn) (fun p hp => hloc _ (by rw [← hk]; exact List.mem_map_of_mem hp)) hnd (by rw [hk]; exact hn) ⟨k1, k2, k3⟩ fun env L hE => ?_
  rw [startVs_ix hn hl, hv]
  have : cellMs (xs.zip args) (cellsOf d.scope L) = mcs L := by
    rw [hcs, ← hmc]
    unfold cellMs
    refine List.map_congr_left fun p hp => ?_
    rw [lookup_zip hn hl]
    unfold pick
    cases xs.findIdx? (· == p.1) <;> rfl
  rw [this]
  rw [hcs] at hE
  exact h env L hE
end

section
variable {P : Setup} {n : Nat} {g : Heap} {ms : Ms} {env : Env} {sc : Scope} {L : Addr} {cs : List (Str × Addr)} {x : Str} {i : Nat}
theorem w_ldL {vs : List (Option Value)} {v : Value} {Q : Value → Heap → Ms → Prop} (hE : Ev env sc L cs)
    (hk : sc.names.lookup x = some .local) (hp : placeOf sc x = some i) (hm : (L, frR sc vs) ∈ ms) (hv : vs[i]? = some (some v)) (h : Tk v fun v' => Q v' g ms) : W P n g ms (loadName env x) Q :=
  w_ld hE (by unfold locAt; rw [hk, hp]; simp) hm hv h
theorem w_stL {vs : List (Option Value)} {ms' : Ms} {v : Value} {Q : Unit → Heap → Ms → Prop} (hE : Ev env sc L cs)
    (hk : sc.names.lookup x = some .local) (hp : placeOf sc x = some i) (hm : Upd L (frR sc vs) (frR sc (vs.set i (some (er v)))) ms ms') (hi : i < vs.length) (h : Q () g ms') : W P n g ms (storeName env x v) Q :=
  w_st hE (by unfold locAt; rw [hk, hp]; simp) hm hi rfl h
theorem w_ldG {v : Value} {Q : Value → Heap → Ms → Prop} (hE : Ev env sc L cs)
    (hk : sc.names.lookup x = some .globalImplicit) (hv : GlobIs P x v) (h : Q v g ms) : W P n g ms (loadName env x) Q :=
  w_ldGlob hE (by unfold kindIs; rw [hk]; simp) hv h
theorem w_ldC {c : Addr} {v : Value} {Q : Value → Heap → Ms → Prop} (hE : Ev env sc L cs)
    (hk : sc.names.lookup x = some .cell) (hc : cs.lookup x = some c) (hm : (c, celR (some v)) ∈ ms) (h : Tk v fun v' => Q v' g ms) : W P n g ms (loadName env x) Q :=
  w_ldCell hE (by unfold kindIs; rw [hk]; simp) hc hm h
theorem w_stC {c : Addr} {v₀ : Option Value} {ms' : Ms} {v : Value} {Q : Unit → Heap → Ms → Prop} (hE : Ev env sc L cs)
    (hk : sc.names.lookup x = some .cell) (hc : cs.lookup x = some c) (hm : Upd c (celR v₀) (celR (some (er v))) ms ms') (h : Q () g ms') : W P n g ms (storeName env x v) Q :=
  w_stCell hE (by unfold kindIs; rw [hk]; simp) hc hm h
end

section
variable {P : Setup} {n : Nat} {g : Heap} {ms : Ms} {env : Env}
theorem w_SliceR {lower upper : Option Expr} {pos : Pos} {Q : Value → Heap → Ms → Prop}
    (h : W P n g ms (evalPart lower env) (fun l g' ms' => W P n g' ms' (evalPart upper env) (fun u g' ms' => ∀ a, Q (.ref a) g' ((a, sliR l u .none) :: ms')))) :
    W P n g ms (PySem.eval (.Slice lower upper none pos) env) Q := w_Slice h
theorem w_SliceR3 {lower upper step : Option Expr} {pos : Pos} {Q : Value → Heap → Ms → Prop}
    (h : W P n g ms (evalPart lower env) (fun l g' ms' => W P n g' ms' (evalPart upper env) (fun u g' ms' => W P n g' ms' (evalPart step env) (fun st g' ms' => ∀ a, Q (.ref a) g' ((a, sliR l u st) :: ms'))))) :
    W P n g ms (PySem.eval (.Slice lower upper step pos) env) Q := w_Slice3 h
end

section
variable {P : Setup} {n : Nat} {g : Heap} {ms : Ms} {env : Env} {t u : Tok} {Q : Value → Heap → Ms → Prop} {l m : List Nat}
theorem w_itemX {i c : Nat} (hc : l[i]? = some c) (hz : l.length ≤ 1000000) (h : ∀ t, Q (.str (tx [c]) t) g ms) : W P n g ms (getItem (.str (tx l) t) (.int i u)) Q :=
  w_itemS (c := c) (Int.natCast_nonneg i) (by rw [Int.toNat_natCast]; show l.toArray[i]? = _; rw [List.getElem?_toArray]; exact hc) (by rw [tx_len]; (first | lia | omega)) h
theorem w_addX (hz : l.length + m.length ≤ 1000000) (h : ∀ t, Q (.str (tx (l ++ m)) t) g ms) : W P n g ms (binaryOp .Add (.str (tx l) t) (.str (tx m) u)) Q :=
  w_addS (by rw [tx_len, tx_len, sizeLine_eq]; (first | lia | omega)) fun t => by rw [tx_append]; exact h t
theorem w_eqX (h : Q (.bool (decide (l = m))) g ms) : W P n g ms (compareOp .Eq (.str (tx l) t) (.str (tx m) u)) Q := w_eqS (by rw [tx_beq]; exact h)
theorem w_neX (h : Q (.bool (!decide (l = m))) g ms) : W P n g ms (compareOp .NotEq (.str (tx l) t) (.str (tx m) u)) Q := w_neS (by rw [bne, tx_beq]; exact h)
theorem w_lenX (hz : l.length ≤ 1000000) (h : ∀ t, Q (.int l.length t) g ms) : W P n g ms (call (.builtin "len") [.str (tx l) t]) Q := w_lenS (by rw [tx_len]; (first | lia | omega)) (by rw [tx_len]; exact h)
end

section
variable {P : Setup} {n : Nat} {g : Heap} {ms : Ms} {env : Env}
theorem w_unpack2 {x y : Str} {px py pos : Pos} {k : Nat} {tp : Addr} {a b : Value} {Q : Unit → Heap → Ms → Prop} (ht : Has g ms tp (tupR [a, b]))
    (h : Tk a fun va => Tk b fun vb => W P n g ms (storeName env x va) (fun _ g' ms' => W P n g' ms' (storeName env y vb) Q)) :
    W P n g ms (assign (.Tuple [.Name x px, .Name y py] k pos) env (.ref tp)) Q :=
  w_unpack ht rfl rfl fun va ea vb eb => w_inOrder (w_assignName (W.mono (h va ea vb eb) fun _ _ _ z => w_inOrder (w_assignName (W.mono z fun _ _ _ z => w_inOrderNil z))))
theorem w_unpack4 {x y z w : Str} {px py pz pw pos : Pos} {k : Nat} {tp : Addr} {a b c d : Value} {Q : Unit → Heap → Ms → Prop} (ht : Has g ms tp (tupR [a, b, c, d]))
    (h : Tk a fun va => Tk b fun vb => Tk c fun vc => Tk d fun vd => W P n g ms (storeName env x va) (fun _ g' ms' => W P n g' ms' (storeName env y vb) (fun _ g' ms' => W P n g' ms' (storeName env z vc) (fun _ g' ms' => W P n g' ms' (storeName env w vd) Q)))) :
    W P n g ms (assign (.Tuple [.Name x px, .Name y py, .Name z pz, .Name w pw] k pos) env (.ref tp)) Q :=
  w_unpack ht rfl rfl fun va ea vb eb vc ec vd ed => w_inOrder (w_assignName (W.mono (h va ea vb eb vc ec vd ed) fun _ _ _ q => w_inOrder (w_assignName (W.mono q fun _ _ _ q => w_inOrder (w_assignName (W.mono q fun _ _ _ q => w_inOrder (w_assignName (W.mono q fun _ _ _ q => w_inOrderNil q))))))))
end
end Mine
end
section
open PySem PySem.Calls PyProof.Rows PySem.Builtin PySem.MeetsSeq
set_option Elab.async false
set_option autoImplicit false
set_option linter.unusedVariables false
set_option maxRecDepth 100000
namespace Mine

/-- an object of a class of the program, and its own names -/
noncomputable def insR (C dx : Addr) : Rs := fun o => o = PySem.W.instObj C dx
noncomputable def attR (kvs : List (Str × Value)) : Rs := fun o => ∃ es n, o = PySem.W.dictOf es n ∧ es.map (fun e => (er e.key, er e.val)) = kvs.map (fun p => (Value.str p.1 0, p.2))
noncomputable def attPut (k : Str) (v : Value) : List (Str × Value) → List (Str × Value)
  | [] => [(k, v)]
  | p :: r => if p.1 == k then (p.1, v) :: r else p :: attPut k v r

theorem att_key {e : DictEntry} {p : Str × Value} (h : (er e.key, er e.val) = (Value.str p.1 0, p.2)) (k : Str) : e.key.isStr k = (p.1 == k) ∧ e.refKey = false := by
  obtain ⟨t, ht⟩ := er_str (Prod.mk.inj h).1
  obtain ⟨hs, key, val⟩ := e
  dsimp only at ht
  subst ht
  exact ⟨rfl, rfl⟩
theorem att_put (k : Str) (hsh : Int) (t : Tok) (v : Value) : ∀ {es : List DictEntry} {kvs : List (Str × Value)}, es.map (fun e => (er e.key, er e.val)) = kvs.map (fun p => (Value.str p.1 0, p.2)) →
    (PySem.W.putL k hsh (.str k t) v es).map (fun e => (er e.key, er e.val)) = (attPut k (er v) kvs).map (fun p => (Value.str p.1 0, p.2))
  | [], [], _ => rfl
  | [], _ :: _, h => by cases h
  | _ :: _, [], h => by cases h
  | e :: es, p :: kvs, h => by
    obtain ⟨h1, h2⟩ := List.cons.inj h
    unfold PySem.W.putL attPut
    rw [(att_key h1 k).1]
    split
    · rw [List.map_cons, List.map_cons, h2]
      congr 1
      exact Prod.ext (Prod.mk.inj h1).1 rfl
    · rw [List.map_cons, List.map_cons, att_put k hsh t v h2]
      exact congrArg (· :: _) h1
theorem att_find (k : Str) : ∀ {es : List DictEntry} {kvs : List (Str × Value)}, es.map (fun e => (er e.key, er e.val)) = kvs.map (fun p => (Value.str p.1 0, p.2)) →
    (es.find? (·.key.isStr k)).map (fun e => er e.val) = (kvs.find? (·.1 == k)).map (·.2)
  | [], [], _ => rfl
  | [], _ :: _, h => by cases h
  | _ :: _, [], h => by cases h
  | e :: es, p :: kvs, h => by
    obtain ⟨h1, h2⟩ := List.cons.inj h
    rw [List.find?_cons, List.find?_cons, (att_key h1 k).1]
    split
    · exact congrArg some (Prod.mk.inj h1).2
    · exact att_find k h2
theorem att_ref : ∀ {es : List DictEntry} {kvs : List (Str × Value)}, es.map (fun e => (er e.key, er e.val)) = kvs.map (fun p => (Value.str p.1 0, p.2)) → es.any (·.refKey) = false
  | [], [], _ => rfl
  | [], _ :: _, h => by cases h
  | _ :: _, [], h => by cases h
  | e :: es, p :: kvs, h => by
    obtain ⟨h1, h2⟩ := List.cons.inj h
    rw [List.any_cons, (att_key h1 "").2, att_ref h2]; rfl
theorem att_getL {es : List DictEntry} {kvs : List (Str × Value)} (h : es.map (fun e => (er e.key, er e.val)) = kvs.map (fun p => (Value.str p.1 0, p.2))) (k : Str) :
    ∃ r, PySem.W.getL k es = some r ∧ r.map er = (kvs.find? (·.1 == k)).map (·.2) := by
  have := att_find k h
  unfold PySem.W.getL
  cases e : es.find? (·.key.isStr k) with
  | none => rw [e] at this; exact ⟨none, by rw [att_ref h]; rfl, this⟩
  | some x => rw [e] at this; exact ⟨some x.val, rfl, this⟩
theorem att_len {es : List DictEntry} {kvs : List (Str × Value)} (h : es.map (fun e => (er e.key, er e.val)) = kvs.map (fun p => (Value.str p.1 0, p.2))) : es.length = kvs.length := by
  have := congrArg List.length h; simpa using this
theorem attPut_len (k : Str) (v : Value) : ∀ kvs : List (Str × Value), (attPut k v kvs).length ≤ kvs.length + 1
  | [] => Nat.le_refl _
  | p :: r => by
    unfold attPut
    split
    · simp
    · have := attPut_len k v r
      simp only [List.length_cons]; (first | lia | omega)

/-- a class of the program -/
structure ClsIs (P : Setup) (C fI : Addr) : Prop where
  makes : PySem.W.makesIn P.K C = true
  init : PySem.W.findIn P.K (.ref C) "__init__" = some (some (.ref fI))
  initFn : PySem.W.typeIn P.K (.ref fI) = some (.type "function")
  keep : PySem.W.keepIn P.K (.ref C) = true
  sets : PySem.W.findIn P.K (.ref C) "__setattr__" = some (some (.builtin "object.__setattr__"))
  plain : PySem.W.plainOver P.K C = true
  hasDict : PySem.W.hasDictIn P.K C = true
  get1 : PySem.W.findIn P.K (.ref C) "__getattribute__" = some (some (.builtin "object.__getattribute__"))
  get2 : PySem.W.findIn P.K (.ref C) "__getattr__" = some none
/-- a name that the class does not bear -/
noncomputable def NotIn (P : Setup) (C : Addr) (k : Str) : Prop := PySem.W.findIn P.K (.ref C) k = some none
theorem NotIn.taker {P : Setup} {C : Addr} {k : Str} (h : NotIn P C k) : PySem.W.takerIn P.K C k = some none := by unfold PySem.W.takerIn; rw [h]; rfl

section
variable {P : Setup} {n : Nat} {g : Heap} {ms : Ms} {env : Env} {a b : Int} {t u : Tok} {Q : Value → Heap → Ms → Prop} {C fI x dx : Addr} {kvs : List (Str × Value)} {k : Str}

theorem Room.under {k : Nat} {A : Around} (h : Room (k + 1) A) (C : Addr) (args : List Value) : Room k (A.under (.builtin "type.__call__" ⟨.ref C :: args, []⟩)) :=
  ⟨by have := h.1; rw [PyProof.Rows.depth_under_make]; (first | lia | omega), by
    have := h.2.1
    have e : (A.under (.builtin "type.__call__" ⟨.ref C :: args, []⟩)).units = A.units + 1 := rfl
    rw [e]; (first | lia | omega), h.2.2⟩
theorem w_makeInst {args : List Value} (hc : ClsIs P C fI) (h : ∀ x dx, WC P n g ((x, insR C dx) :: (dx, attR []) :: ms) (.call (.ref fI) ⟨.ref x :: args, []⟩) (fun fl g' ms' => ∃ v, fl = .ret v ∧ v = .none ∧ Q (.ref x) g' ms')) : W P (n + 1) g ms (call (.ref C) args) Q := by
  refine ⟨fun A s R hA S => wpAny_call ?_⟩
  have X : P.K.In s.heap := S.base.own.keeps S.keep
  obtain ⟨hh, gg, d, t, os⟩ := s
  refine PySem.W.make_core (PySem.W.makes_of X hc.makes) (PySem.W.looks_findIn X hc.init) (fun self => PySem.W.bind_fn X self hc.initFn) (.inl (by simp)) ?_
  have S₁ : St P g (((hh.objs.size + 1, insR C hh.objs.size) :: (hh.objs.size, attR []) :: ms) ++ R) ((hh.push PySem.W.emptyDict).push (PySem.W.instObj C hh.objs.size)) := by
    have S1 : St P g ((hh.objs.size, attR []) :: (ms ++ R)) (hh.push PySem.W.emptyDict) := S.push rfl ⟨[], _, rfl, rfl⟩
    have S2 := S1.push (o := PySem.W.instObj C hh.objs.size) (r := insR C hh.objs.size) rfl rfl
    rw [Heap.size_push] at S2
    exact S2
  have := (h (hh.objs.size + 1) hh.objs.size).run (A.under (.builtin "type.__call__" ⟨.ref C :: args, []⟩)) ⟨(hh.push PySem.W.emptyDict).push (PySem.W.instObj C hh.objs.size), gg, d, t, os⟩ R (hA.under _ _) S₁
  refine codeAny_mono this fun r s' z => ?_
  cases r with
  | error e => exact z.elim
  | ok f =>
    obtain ⟨g', ms', h', tk, rfl, l, S', v, rfl, rfl, q⟩ := z
    exact ⟨rfl, g', ms', h', tk, rfl, l, S', q⟩

/-- an object, as the library's layer sees it -/
theorem inst_at {h : Heap} {R : Ms} (S : St P g (ms ++ R) h) (hx : Has g ms x (insR C dx)) (hd : Has g ms dx (attR kvs)) :
    ∃ es n, PySem.W.InstAt h x (PySem.W.instObj C dx) C (some (PySem.W.dictOf es n)) ∧ es.map (fun e => (er e.key, er e.val)) = kvs.map (fun p => (Value.str p.1 0, p.2)) := by
  obtain ⟨o, e, rfl⟩ := hx.at S
  obtain ⟨o', e', es, n, rfl, q⟩ := hd.at S
  exact ⟨es, n, ⟨e, rfl, rfl, e'⟩, q⟩
theorem w_getAttr {v : Value} {expr : Bool} (hc : ClsIs P C fI) (hx : Has g ms x (insR C dx)) (hd : Has g ms dx (attR kvs)) (hn : NotIn P C k) (hv : (kvs.find? (·.1 == k)).map (·.2) = some v) (hh : ∀ v', er v' = v → PySem.W.handedIn v' = true)
    (h : Tk v fun v' => Q v' g ms) : W P n g ms (getAttr (.ref x) k expr) Q := by
  refine W.leaf fun A s R hA S Q' kk => ?_
  have X : P.K.In s.heap := S.base.own.keeps S.keep
  obtain ⟨es, m, I, q⟩ := inst_at S hx hd
  obtain ⟨r, e1, e2⟩ := att_getL q k
  rw [hv] at e2
  obtain ⟨v', rfl, e3⟩ := Option.map_eq_some_iff.mp e2
  refine PySem.W.get_value X I hc.get1 (PySem.W.findObj_own hc.hasDict hn rfl e1) (hh v' e3) (kk _ _ (h v' e3))
theorem w_getMeth {f : Addr} {pl : Sem Bool} {Q : Value × List Value → Heap → Ms → Prop} (hc : ClsIs P C fI) (hx : Has g ms x (insR C dx)) (hd : Has g ms dx (attR kvs)) (hf : PySem.W.findIn P.K (.ref C) k = some (some (.ref f))) (ht : PySem.W.typeIn P.K (.ref f) = some (.type "function"))
    (hv : kvs.find? (·.1 == k) = none) (h : Q (.ref f, [.ref x]) g ms) : W P n g ms (getMethod (.ref x) k pl) Q := by
  refine W.leaf fun A s R hA S Q' kk => ?_
  have X : P.K.In s.heap := S.base.own.keeps S.keep
  obtain ⟨es, m, I, q⟩ := inst_at S hx hd
  obtain ⟨r, e1, e2⟩ := att_getL q k
  rw [hv] at e2
  cases r with
  | some v => cases e2
  | none => exact PySem.W.method_fn X I hc.get1 hc.get2 hf ht (by show (PySem.W.lookIn k (PySem.W.dictOf es m)).map _ = _; rw [PySem.W.lookIn_dict, e1]; rfl) (kk _ s.toks h)
theorem w_clsVal {v : Value} {expr : Bool} (hr : PySem.W.readsIn P.K C (.type "type") = true) (hv : PySem.W.findCls P.K (.ref C) (.type "type") k = some (.val v)) (hh : PySem.W.handedIn v = true) (h : Q v g ms) : W P n g ms (getAttr (.ref C) k expr) Q :=
  W.leaf fun A s R hA S Q' kk => PySem.W.cls_value (S.base.own.keeps S.keep) hr hv hh (kk _ _ h)
theorem Kept.cls (hc : ClsIs P C fI) : Kept P (.ref C) := fun M h X => PySem.W.keeps_K (M := M) (K := P.K) hc.keep h X
theorem key_inj : ∀ {l : Ms}, (l.map (·.1)).Nodup → ∀ {p q : Addr × Rs}, p ∈ l → q ∈ l → p.1 = q.1 → p = q
  | [], _, _, _, h, _, _ => nomatch h
  | x :: l, nd, p, q, hp, hq, e => by
    obtain ⟨n1, n2⟩ := List.nodup_cons.mp nd
    rcases List.mem_cons.mp hp with e1 | hp'
    · rcases List.mem_cons.mp hq with e2 | hq'
      · rw [e1, e2]
      · exact absurd (show x.1 ∈ l.map (·.1) by rw [← e1, e]; exact List.mem_map_of_mem (f := (·.1)) hq') n1
    · rcases List.mem_cons.mp hq with e2 | hq'
      · exact absurd (show x.1 ∈ l.map (·.1) by rw [← e2, ← e]; exact List.mem_map_of_mem (f := (·.1)) hp') n1
      · exact key_inj n2 hp' hq' e

/-- all that stands in a heap, but two -/
noncomputable def others (h : Heap) (L d : Addr) : List (Addr × Obj) := (List.range h.objs.size).filterMap fun a => if a = d ∨ a = L then none else (h.get? a).map fun o => (a, o)
theorem others_mem {h : Heap} {L d a : Addr} {o : Obj} (e : h.get? a = some o) (h1 : a ≠ d) (h2 : a ≠ L) : (a, o) ∈ others h L d := by
  unfold others
  rw [List.mem_filterMap]
  refine ⟨a, List.mem_range.mpr (Heap.lt_size e), ?_⟩
  rw [if_neg (by rintro (e | e); exact h1 e; exact h2 e), e]; rfl
theorem others_ne {h : Heap} {L d : Addr} : ∀ p ∈ others h L d, h.get? p.1 = some p.2 ∧ p.1 ≠ d ∧ p.1 ≠ L := by
  intro p hp
  unfold others at hp
  rw [List.mem_filterMap] at hp
  obtain ⟨a, _, e⟩ := hp
  split at e
  · cases e
  · rename_i hne
    obtain ⟨o, e1, rfl⟩ := Option.map_eq_some_iff.mp e
    exact ⟨e1, fun q => hne (.inl q), fun q => hne (.inr q)⟩
theorem w_setAttr {v : Value} {L : Addr} {sc : Scope} {vs : List (Option Value)} {ms' : Ms} {Q : Unit → Heap → Ms → Prop} (hc : ClsIs P C fI) (hx : Has g ms x (insR C dx)) (hL : (L, frR sc vs) ∈ ms) (hne : L ≠ dx)
    (hd : Upd dx (attR kvs) (attR (attPut k (er v) kvs)) ms ms') (hn : NotIn P C k) (hz : kvs.length ≤ 900) (h : Q () g ms') : W P n g ms (setAttr (.ref x) k v) Q := by
  refine ⟨fun A s R hA S => ?_⟩
  have X : P.K.In s.heap := S.base.own.keeps S.keep
  obtain ⟨es, m, I, q⟩ := inst_at S hx (.inl hd.mem)
  have hDict : s.heap.get? dx = some (PySem.W.dictOf es m) := I.dict
  obtain ⟨mf, hns, hmf⟩ := (S.get (List.mem_append_left _ hL)).frame
  obtain ⟨r, e1, e2⟩ := att_getL q k
  have F : Fr ⟨#[], s.heap.life⟩ L s.heap mf := ⟨hns, (fun b o e => by simp [Heap.get?] at e), Nat.zero_le _⟩
  have N : News ⟨#[], s.heap.life⟩ L s.heap ([] ++ (dx, PySem.W.dictOf es m) :: others s.heap L dx) := by
    intro p hp
    rcases List.mem_cons.mp hp with rfl | hp
    · exact ⟨hDict, hne.symm, rfl⟩
    · obtain ⟨a, b, c⟩ := others_ne p hp
      exact ⟨a, c, rfl⟩
  refine PySem.W.set_plain X I hc.sets ?_
  refine PySem.W.osa_dict (s := { s with toks := s.toks + 1 }) (w := P.w) F N X I rfl hc.plain hn.taker hc.hasDict (by rw [PySem.W.lookIn_dict, e1]; rfl) (fun _ h => nomatch h) (fun p hp => (others_ne p hp).2.1) (PySem.W.putName_dict _ _ _ _ _ _) rfl ?_ fun h' F' N' => ?_
  · have := att_len (att_put k (PyData.keyHash P.w.params k) (s.toks + 1) v q)
    have h2 := attPut_len k (er v) kvs
    show (PySem.W.putL k (PyData.keyHash P.w.params k) (.str k (s.toks + 1)) v es).length ≤ 1000
    (first | lia | omega)
  · refine ⟨g, ms', h', _, rfl, .refl _, ?_, h⟩
    have old : ∀ a o, a ≠ dx → a ≠ L → s.heap.get? a = some o → h'.get? a = some o := fun a o h1 h2 e => (N' (a, o) (List.mem_cons_of_mem _ (others_mem e h1 h2))).1
    have u := hd.app R
    refine ⟨S.base, fun b o e => old b o (fun e' => ?_) (fun e' => ?_) (S.keep b o e), fun p hp => ?_, by rw [u.fst]; exact S.nodup⟩
    · have := (S.has _ u.mem).2
      rw [e', this] at e; cases e
    · have := (S.has _ (List.mem_append_left R hL)).2
      rw [e', this] at e; cases e
    · rcases u.mem' S.nodup p hp with rfl | ⟨hm, hne'⟩
      · exact ⟨⟨_, (N' _ (List.mem_cons_self)).1, _, _, rfl, att_put _ _ _ _ q⟩, (S.has _ u.mem).2⟩
      · refine ⟨?_, (S.has p hm).2⟩
        by_cases hpL : p.1 = L
        · have hpe : p = (L, frR sc vs) := key_inj S.nodup hm (List.mem_append_left R hL) hpL
          rw [hpe]
          exact At.ofFrame F'.ns hmf
        · obtain ⟨⟨o, e, qq⟩, _⟩ := S.has p hm
          exact ⟨o, old _ _ hne' hpL e, qq⟩
end
end Mine
end
section
open PySem PySem.Calls PyProof.Rows PySem.Builtin PySem.MeetsSeq
set_option Elab.async false
set_option autoImplicit false
set_option linter.unusedVariables false
set_option maxRecDepth 100000
namespace Mine

section
variable {P : Setup} {n : Nat} {g : Heap} {ms : Ms} {env : Env} {a b : Int} {t u : Tok} {Q : Value → Heap → Ms → Prop}

/-- one place of a list gets another value -/
theorem w_setL {l : Addr} {xs : List Value} {i : Nat} {v : Value} {ms' : Ms} {Q : Unit → Heap → Ms → Prop} (hl : Upd l (lstR xs) (lstR (xs.set i (er v))) ms ms') (hi : i < xs.length) (hz : xs.length ≤ 2 ^ 60) (h : Q () g ms') : W P n g ms (setItem (.ref l) (.int i t) v) Q := by
  refine ⟨fun A s R hA S => ?_⟩
  obtain ⟨ys, hp, hq⟩ := (S.get (List.mem_append_left _ hl.mem)).plain
  have hL := hp.isList
  obtain ⟨c, ho⟩ := hp
  have hs : ys.size = xs.length := size_er hq
  have hj : i < ys.size := by (first | lia | omega)
  have hfit : Builtin.List.listFitsIndex (i : Int) = true := by
    have h1 : (i : Int) < 2 ^ 63 := by
      have : xs.length ≤ 1152921504606846976 := hz
      (first | lia | omega)
    exact fitsIndex_of (Int.natCast_nonneg i) h1
  have fin : St P g (ms' ++ R) (s.heap.update l (Obj.mapSeq (·.setIfInBounds i v))) := by
    refine S.upd (hl.app R) (Heap.SameBut.update ..) ⟨_, Heap.get?_update_self _ ho rfl, ys.setIfInBounds i v, _, rfl, ?_⟩
    rw [Array.toList_setIfInBounds, List.map_set, hq]
  obtain ⟨z, hzk⟩ : ∃ z : Int, z = (i : Int) := ⟨_, rfl⟩
  rw [← hzk] at hfit ⊢
  unfold setItem
  refine wpAny_holding ?_
  refine wpAny_bind (wpAny_sequenceKey hL.typeIs (by decide) ?_)
  refine wpAny_bind (wpAny_callSpecial?_slot (name := Str.ofString "__setitem__") hL.typeIs slot_list_setitem
    (wpAny_call_entry slot_list_setitem hL.typeIs entry_list_setitem ?_ (args_list_setitem _ _ _)))
  show wpAny _ _ (Builtin.List.listSubscript? (.int z t) >>= _) _ _ s
  refine wpAny_bind (wpAny_listSubscript_int hfit ?_)
  subst hzk
  show wpAny _ _ ((seqItemAt l i >>= fun r => pure (r.map (i, ·))) >>= _) _ _ s
  refine wpAny_bind (wpAny_bind (wpAny_seqItemAt ho rfl (wpAny_pure ?_)))
  rw [show ys[i]? = some ys[i] from Array.getElem?_eq_getElem hj]
  show wpAny _ _ (setSeqItemAt l i v >>= _) _ _ s
  refine wpAny_bind (wpAny_setSeqItemAt ho rfl ?_)
  have done : Back P g s R Q () { s with heap := s.heap.update l (Obj.mapSeq (·.setIfInBounds i v)) } := ⟨g, ms', _, s.toks, rfl, .refl _, fin, h⟩
  first
    | exact wpAny_bind (wpAny_pure (wpAny_pure ⟨.none, rfl, wpAny_pure done⟩))
    | exact wpAny_pure ⟨.none, rfl, wpAny_pure done⟩

/-- [x] * k -/
theorem foldl_app (ys : Array Value) : ∀ (k : Nat) (acc : Array Value), (List.foldl (fun x1 x2 => x1 ++ x2) acc (List.replicate k ys)).toList = acc.toList ++ (List.replicate k ys.toList).flatten
  | 0, acc => by simp
  | k + 1, acc => by rw [List.replicate_succ, List.foldl_cons, foldl_app ys k]; simp [List.replicate_succ]
theorem w_repL {l : Addr} {x : Value} {k : Nat} (hl : Has g ms l (lstR [x])) (hz : k ≤ 1000000) (h : ∀ r, Q (.ref r) g ((r, lstR (List.replicate k x)) :: ms)) : W P n g ms (binaryOp .Mult (.ref l) (.int k u)) Q := by
  refine ⟨fun A s R hA S => ?_⟩
  obtain ⟨ys, ⟨c, ho⟩, hq⟩ := (hl.at S).plain
  have hs : ys.size = 1 := size_er hq
  obtain ⟨z, hzk⟩ : ∃ z : Int, z = (k : Int) := ⟨_, rfl⟩
  have hzn : z.toNat = k := by rw [hzk, Int.toNat_natCast]
  rw [← hzk]
  have c0 : ¬(!Builtin.List.listFitsIndex z) = true := by
    rw [fitsIndex_of (by (first | lia | omega)) (by (first | lia | omega))]; decide
  have c1 : ¬ys.size * z.toNat > (2 ^ 63 - 1) / 8 := by
    rw [hs, hzn]; (first | lia | omega)
  have c2 : ¬Builtin.List.listTooLong (ys.size * z.toNat) = true := by
    rw [hs, hzn]; simp [Builtin.List.listTooLong, sizeLine]; (first | lia | omega)
  refine wpAny_binaryOp_repeat_ref (T := "list") (U := "int") (by decide) ⟨_, ho, rfl⟩ (fun s' => typeIs_int s' _ u) noFill_list_mul F.fills_int_mul F.slot_int_rmul repeat_list F.slot_int_index.lookup
    (call_meets F.slot_int_rmul (typeIs_int s _ u) F.entry_int_rmul (F.args_int_rmul_2 _ _) (int___rmul___int_list _ u l ys c)
      ⟨ho, rfl, ⟨_, ho, rfl⟩, call_meets F.slot_list_mul ⟨_, ho, rfl⟩ F.entry_list_mul (F.args_list_mul_2 _ _)
        (AutoListH.list___mul___list_int_3 l ys c _ u c0 c1 c2)
        ⟨ho, g, _, _, s.toks, rfl, .refl _, S.push rfl ⟨_, _, rfl, ?_⟩, h _⟩⟩)
  have ne : ys.isEmpty = false := by simp [Array.isEmpty, hs]
  rw [ne, foldl_app, hzn]
  obtain ⟨y, hy⟩ : ∃ y, ys.toList = [y] := List.length_eq_one_iff.mp (by simpa using hs)
  rw [hy] at hq ⊢
  have : er y = x := by simpa using hq
  subst this
  simp

/-! for a, b in enumerate(list) -/
theorem St.add {h : Heap} {a : Addr} {r : Rs} (S : St P g ms h) (hr : At h a r) (hg : g.get? a = none) (hm : a ∉ ms.map (·.1)) : St P g ((a, r) :: ms) h :=
  ⟨S.base, S.keep, fun p hp => (List.mem_cons.mp hp).elim (fun e => by subst e; exact ⟨hr, hg⟩) fun hp => S.has p hp, List.nodup_cons.mpr ⟨hm, S.nodup⟩⟩
theorem St.upd2 {h h' : Heap} {a b : Addr} {r q r' q' : Rs} (S : St P g ((a, r) :: (b, q) :: ms) h) (hs : ∀ c o, c ≠ a → c ≠ b → h.get? c = some o → h'.get? c = some o) (hr : At h' a r') (hq : At h' b q') : St P g ((a, r') :: (b, q') :: ms) h' := by
  have ga := (S.has (a, r) (.head _)).2
  have gb := (S.has (b, q) (.tail _ (.head _))).2
  obtain ⟨n1, n2⟩ := List.nodup_cons.mp S.nodup
  obtain ⟨n2, n3⟩ := List.nodup_cons.mp n2
  refine ⟨S.base, fun c o e => hs c o (fun x => ?_) (fun x => ?_) (S.keep c o e), fun p hp => ?_, S.nodup⟩
  · rw [x] at e; rw [show g.get? a = none from ga] at e; cases e
  · rw [x] at e; rw [show g.get? b = none from gb] at e; cases e
  · rcases List.mem_cons.mp hp with rfl | hp
    · exact ⟨hr, ga⟩
    · rcases List.mem_cons.mp hp with rfl | hp
      · exact ⟨hq, gb⟩
      · obtain ⟨⟨o, e, c⟩, gn⟩ := S.has p (.tail _ (.tail _ hp))
        refine ⟨⟨o, hs _ o (fun x => n1 ?_) (fun x => n2 ?_) e, c⟩, gn⟩
        · show a ∈ _; rw [← x]; exact List.mem_cons_of_mem _ (List.mem_map_of_mem (f := (·.1)) hp)
        · show b ∈ _; rw [← x]; exact List.mem_map_of_mem (f := (·.1)) hp
noncomputable def enuR (it : Addr) (i : Nat) : Rs := fun o => ∃ old, o = { cls := .type "enumerate", dict := none, data := .fields #[.none, .bool false, .ref it, rawInt (i : Int), .none, old], slots := #[] }
theorem w_callEnum {l : Addr} {xs : List Value} (hl : Has g ms l (lstR xs)) (h : ∀ e it, Q (.ref e) g ((e, enuR it 0) :: (it, litR l 0) :: ms)) : W P n g ms (call (.type "enumerate") [.ref l]) Q := by
  refine ⟨fun A s R hA S => ?_⟩
  obtain ⟨ys, hL, hq⟩ := (hl.at S).list
  refine call_enumerate_list hL fun h' he hi hz hk => ⟨g, _, h', s.toks, rfl, .refl _, ?_, h _ s.heap.objs.size⟩
  have none_of : ∀ a, s.heap.objs.size ≤ a → s.heap.get? a = none := fun a ha => by
    cases e : s.heap.get? a with
    | none => rfl
    | some o => exact absurd (Heap.lt_size e) (Nat.not_lt.mpr ha)
  have S1 : St P g ((s.heap.objs.size, litR l 0) :: (ms ++ R)) h' := S.new hk (none_of _ (Nat.le_refl _)) (let ⟨o, a, b, c⟩ := hi; ⟨o, a, b, c⟩)
  refine S1.add ⟨_, he, .none, rfl⟩ ?_ fun m => ?_
  · cases e : g.get? (s.heap.objs.size + 1) with
    | none => rfl
    | some o => have := S.keep _ _ e; rw [none_of _ (Nat.le_succ _)] at this; cases this
  · rcases List.mem_cons.mp m with e | m
    · exact absurd e (Nat.succ_ne_self _)
    · obtain ⟨p, hp, e⟩ := List.mem_map.mp m
      obtain ⟨⟨o, q, _⟩, _⟩ := S.has p hp
      rw [e, none_of _ (Nat.le_succ _)] at q; cases q
theorem w_iterEnum {e it : Addr} {i : Nat} (h : Q (.ref e) g ms) (hm : (e, enuR it i) ∈ ms) : W P n g ms (pyIter (.ref e)) Q :=
  W.leaf fun A s R hA S Q' k => by
    obtain ⟨o, ho, old, rfl⟩ := S.get (List.mem_append_left _ hm)
    exact wpAny_pyIter_enum ho (k _ s.toks h)
theorem wc_forEnum {elts : List Expr} {x1 : Nat} {tpos : Pos} {body : List Stmt} {e it l : Addr} {xs : List Value} {J : Nat → Heap → Ms → Prop} {Q : Flow → Heap → Ms → Prop} (hl : At g l (lstR xs))
    (turn : ∀ i tp g₁ ms₁, i < xs.length → Le g g₁ → J i g₁ ms₁ → W P n g₁ ((tp, tupR [.int i 0, xs.getD i .none]) :: ms₁) (assign (.Tuple elts x1 tpos) env (.ref tp)) (fun _ g₂ ms₂ => W P n g₂ ms₂ (execs body env) (fun f g₃ ms₃ => match f with
      | .next | .cont => J (i + 1) g₃ ms₃
      | .brk => Q .next g₃ ms₃
      | .ret v => Q (.ret v) g₃ ms₃)))
    (fin : ∀ g₁ ms₁, Le g g₁ → J xs.length g₁ ms₁ → Q .next g₁ ms₁) (h0 : J 0 g ms) :
    WC P n g ((e, enuR it 0) :: (it, litR l 0) :: ms) (.forLoop (.Tuple elts x1 tpos) (.ref e) body [] env) Q := by
  refine ⟨fun A s R hA S => ?_⟩
  refine codeAny_forLoop_any (fun k s' => ∃ i g' ms' h' tk, i + k = xs.length ∧ s' = { s with heap := h', toks := tk } ∧ Le g g' ∧ St P g' ((e, enuR it i) :: (it, litR l i) :: (ms' ++ R)) h' ∧ J i g' ms') (fun k s' hI => ?_) xs.length ⟨0, g, ms, s.heap, s.toks, Nat.zero_add _, rfl, .refl _, S, h0⟩
  obtain ⟨i, g₁, ms₁, h', tk, hk, rfl, l1, S₁, j⟩ := hI
  obtain ⟨oe, hoe, old, rfl⟩ := S₁.get (.head _)
  obtain ⟨oi, hoi, hc, hd⟩ := S₁.get (.tail _ (.head _))
  obtain ⟨ys, hL, hq⟩ := (hl.le (l1.trans S₁.keep)).list
  have hlen : ys.size = xs.length := size_er hq
  obtain ⟨n1, n2⟩ := List.nodup_cons.mp S₁.nodup
  have hne : e ≠ it := fun q => n1 (by rw [q]; exact List.mem_cons_self)
  cases k with
  | zero =>
    have hi : i = xs.length := hk
    subst hi
    refine wpAny_pyNext_enum_end hA.2.2 hoe ⟨oi, hoi, hc, hd⟩ hL (by rw [Array.getElem?_eq_none]; (first | lia | omega)) fun h₁ hs => wpAny_execs_nil ?_
    have S₂ : St P g₁ ((e, enuR it xs.length) :: (ms₁ ++ R)) h₁ := St.lose (S₁.perm (.swap ..)) hs
    exact ⟨g₁, ms₁, h₁, tk, rfl, l1, S₂.drop (List.sublist_cons_self _ _), fin _ _ l1 j⟩
  | succ k =>
    have hi : i < xs.length := by (first | lia | omega)
    have hx : ys[i]? = some (ys[i]'(by (first | lia | omega))) := Array.getElem?_eq_getElem _
    have fr : h'.get? h'.objs.size = none := by
      cases q : h'.get? h'.objs.size with
      | none => rfl
      | some o => exact absurd (Heap.lt_size q) (Nat.lt_irrefl _)
    have fs := S₁.fresh
    refine wpAny_pyNext_enum_item hoe ⟨oi, hoi, hc, hd⟩ hL hx hne fun h₁ heo hit ht hz hkeep => ?_
    have S₂ : St P g₁ ((e, fun o => o = (h₁.get? e).getD { cls := .none, data := .freed }) :: (it, litR l (i + 1)) :: (ms₁ ++ R)) h₁ := S₁.upd2 hkeep ⟨_, heo, by rw [heo]; rfl⟩ (let ⟨o, a, b, c⟩ := hit; ⟨o, a, b, c⟩)
    have htup : At h₁ h'.objs.size (tupR [.int i 0, xs.getD i .none]) := by
      refine ⟨_, ht, rfl, _, _, rfl, ?_⟩
      subst hq
      rw [List.getD_eq_getElem?_getD, List.getElem?_map, Array.getElem?_toList, hx]; rfl
    have S₃ := S₂.add htup fs.1 fs.2
    have hte : h'.objs.size ≠ e := fun q => fs.2 (by rw [q]; exact List.mem_cons_self)
    dsimp only
    refine wpAny_letOwnedTupleGo_enum heo fun h₂ he₂ hs₂ => ?_
    have S₄ : St P g₁ ((h'.objs.size, tupR [.int i 0, xs.getD i .none]) :: (e, enuR it (i + 1)) :: (it, litR l (i + 1)) :: (ms₁ ++ R)) h₂ := by
      refine S₃.upd (.tail .head) hs₂ ⟨_, he₂, ys[i]'(by (first | lia | omega)), ?_⟩
      rw [show ((i + 1 : Nat) : Int) = (i : Int) + 1 by (first | lia | omega)]
    have S₅ : St P g₁ (((h'.objs.size, tupR [.int i 0, xs.getD i .none]) :: ms₁) ++ ((e, enuR it (i + 1)) :: (it, litR l (i + 1)) :: R)) h₂ := by
      refine S₄.perm ?_
      rw [List.cons_append]
      refine .cons _ ?_
      exact (List.perm_middle.trans (.cons _ List.perm_middle)).symm
    refine wpAny_mono ((turn i _ g₁ ms₁ hi l1 j).run A { s with heap := h₂, toks := tk + 1 } ((e, enuR it (i + 1)) :: (it, litR l (i + 1)) :: R) hA S₅) (fun _ s₃ x => ?_) fun _ _ x => x.elim
    obtain ⟨g₃, ms₃, h₃, tk₃, rfl, l₃, S₃, q⟩ := x
    refine wpAny_mono (q.run A _ ((e, enuR it (i + 1)) :: (it, litR l (i + 1)) :: R) hA S₃) (fun f s₄ x => ?_) fun _ _ x => x.elim
    obtain ⟨g₄, ms₄, h₄, tk₄, rfl, l₄, S₄, q⟩ := x
    have S₄' : St P g₄ ((e, enuR it (i + 1)) :: (it, litR l (i + 1)) :: (ms₄ ++ R)) h₄ := S₄.perm (List.perm_middle.trans (.cons _ List.perm_middle))
    have S₄'' : St P g₄ (ms₄ ++ R) h₄ := S₄'.drop ((List.sublist_cons_self _ _).trans (List.sublist_cons_self _ _))
    have LL : Le g g₄ := (l1.trans l₃).trans l₄
    cases f with
    | next => exact ⟨k, Nat.lt_succ_self _, i + 1, g₄, ms₄, h₄, tk₄, by (first | lia | omega), rfl, LL, S₄', q⟩
    | cont => exact ⟨k, Nat.lt_succ_self _, i + 1, g₄, ms₄, h₄, tk₄, by (first | lia | omega), rfl, LL, S₄', q⟩
    | brk => exact ⟨g₄, ms₄, h₄, tk₄, rfl, LL, S₄'', q⟩
    | ret v => exact ⟨g₄, ms₄, h₄, tk₄, rfl, LL, S₄'', q⟩

/-! (a tuple of ints, an int), compared with another -/
theorem norm_reads {h : Heap} {tp ct : Addr} {cs : List Int} {b : Int} (h1 : At h tp (tupR [.ref ct, .int b 0])) (h2 : At h ct (tupR (iVs cs))) : Reads h (.ref tp) (.tuple [.tuple (cs.map PyData.int), .int b]) [] := by
  obtain ⟨o, ho, hc, ys, k, hd, hq⟩ := h1
  obtain ⟨o2, ho2, hc2, ys2, k2, hd2, hq2⟩ := h2
  have r2 : Reads h (.ref ct) (.tuple (cs.map PyData.int)) [] := .tuple ho2 hc2 hd2 (PySem.W.readsAll_of_ints (intsAre hq2))
  match hy : ys.toList, hq with
  | [], e => exact absurd (congrArg List.length e) (by simp)
  | [_], e => exact absurd (congrArg List.length e) (by simp)
  | [x, y], e =>
    have e1 : er x = .ref ct := (List.cons.inj e).1
    have e2 : er y = .int b 0 := (List.cons.inj (List.cons.inj e).2).1
    obtain ⟨t, rfl⟩ := er_int e2
    rw [er_ref e1] at hy
    have ra : ReadsAll h ys.toList [.tuple (cs.map PyData.int), .int b] ([] ++ ([] ++ [])) := by
      rw [hy]; exact .cons r2 (.cons (.int b t) .nil)
    exact .tuple ho hc hd ra
  | _ :: _ :: _ :: _, e => exact absurd (congrArg List.length e) (by simp)
theorem norm_shaped (cs : List Int) (b : Int) : SeqAt.shaped (.tuple [.tuple (cs.map PyData.int), .int b]) = true := by
  simp [SeqAt.shaped, PyData.canLay0, PyData.canLayAll0, PyData.depth, PyData.depthAll, PySem.W.ke_canLayAll0, PySem.W.ke_depthAll]
theorem w_eqNorm {tp ct tp' ct' : Addr} {cs cs' : List Int} (h1 : Has g ms tp (tupR [.ref ct, .int a 0])) (h2 : Has g ms ct (tupR (iVs cs))) (h3 : Has g ms tp' (tupR [.ref ct', .int b 0])) (h4 : Has g ms ct' (tupR (iVs cs')))
    (h : Q (.bool (decide (cs = cs' ∧ a = b))) g ms) : W P (n + 7) g ms (compareOp .Eq (.ref tp) (.ref tp')) Q := by
  refine W.leaf fun A s R hA S Q' k => ?_
  refine eq_dataH (norm_reads (h1.at S) (h2.at S)) (norm_reads (h3.at S) (h4.at S)) (norm_shaped _ _) (norm_shaped _ _) hA.up ?_
  have e : PyData.eqv (.tuple [.tuple (cs.map PyData.int), .int a]) (.tuple [.tuple (cs'.map PyData.int), .int b]) = decide (cs = cs' ∧ a = b) := by
    simp only [PyData.eqv, PyData.eqvAll, PySem.W.ked_eqvAll]
    by_cases x : cs = cs' <;> by_cases y : a = b <;> simp [x, y]
  rw [e]
  exact k _ s.toks h

theorem W.nd {α : Type} {t : Sem α} {Q : α → Heap → Ms → Prop} (h : (ms.map (·.1)).Nodup → W P n g ms t Q) : W P n g ms t Q :=
  ⟨fun A s R hA S => (h (((List.sublist_append_left ms R).map _).nodup S.nodup)).run A s R hA S⟩
theorem ev_eta {sc : Scope} {L : Addr} {cs : List (Str × Addr)} (hE : Ev env sc L cs) : env = { env with scope := sc } := by
  obtain ⟨scope⟩ := env
  have := hE.scope
  simp only at this
  rw [this]
theorem w_swap2 {x y : Str} {targets : List Expr} {value : Expr} {pos : Pos} {Q : Flow → Heap → Ms → Prop} (hs : swapsWithSole targets value pos.line env = pure false) (hw : swappedStores targets value env = pure (some [x, y]))
    (h : W P n g ms (PySem.eval value env) (fun v g' ms' => ∃ tp a b, v = .ref tp ∧ Has g' ms' tp (tupR [a, b]) ∧ Tk a fun va => Tk b fun vb => W P n g' ms' (storeName env y vb) (fun _ g' ms' => W P n g' ms' (storeName env x va) (fun _ => Q .next)))) :
    W P n g ms (exec (.Assign targets value pos) env) Q :=
  w_swap hs hw (W.mono h fun v g' ms' z => by
    obtain ⟨tp, a, b, rfl, ht, k⟩ := z
    exact ⟨tp, [a, b], rfl, ht, rfl, fun va ea vb eb => w_inOrder (w_bindName (W.mono (k va ea vb eb) fun _ _ _ z => w_inOrder (w_bindName (W.mono z fun _ _ _ z => w_inOrderNil z))))⟩)
theorem WC.drop {ms' : Ms} {c : Code} {Q : Flow → Heap → Ms → Prop} (p : ms'.Sublist ms) (h : WC P n g ms' c Q) : WC P n g ms c Q :=
  ⟨fun A s R hA S => h.run A s R hA (S.drop (p.append_right R))⟩
theorem forLoopE {target : Expr} {body : List Stmt} {I : Addr} {r : Nat → Rs} {N : Nat} {item : Nat → Value} {J : Nat → Heap → Ms → Prop} {Q : Flow → Heap → Ms → Prop} (It : IterOk P g I r N item)
    (turn : ∀ i v g₁ ms₁, i < N → Le g g₁ → er v = item i → J i g₁ ms₁ → W P n g₁ ms₁ (assign target env v) (fun _ g₂ ms₂ => W P n g₂ ms₂ (execs body env) (fun f g₃ ms₃ => Ease P g₃ ms₃ (fun g₄ ms₄ => match f with
      | .next | .cont => J (i + 1) g₄ ms₄
      | .brk => Q .next g₄ ms₄
      | .ret v => Q (.ret v) g₄ ms₄))))
    (fin : ∀ g₁ ms₁, Le g g₁ → J N g₁ ms₁ → Q .next g₁ ms₁) (h0 : J 0 g ms)
    (ht : ∀ v, letOwnedTupleGo target (.ref I) v = pure () := by intro _; rfl) :
    WC P n g ((I, r 0) :: ms) (.forLoop target (.ref I) body [] env) Q :=
  forLoop_ It (fun i v g₁ ms₁ a b c d => W.mono (turn i v g₁ ms₁ a b c d) fun _ _ _ z => W.ease z) fin h0 ht
end
end Mine
end
section
open PySem PySem.Calls PyProof.Rows PySem.Builtin PySem.MeetsSeq
set_option Elab.async false
set_option autoImplicit false
set_option linter.unusedVariables false
set_option maxRecDepth 100000
namespace Mine

section
variable {P : Setup} {n : Nat} {g : Heap} {ms : Ms} {env : Env} {a b : Int} {t u : Tok} {Q : Value → Heap → Ms → Prop}
/-- a comprehension that leaves all as it is -/
theorem CompAt.pure {scope sc : Scope} {cl : List (Str × Addr)} {ix : Nat} {ifs : List Expr} {elt : Expr} {K : Heap → Ms → Addr → List Value → Prop} {I : Addr} {r : Nat → Rs} {N : Nat} {item : Nat → Value}
    (It : IterOk P g I r N item) (hN : N ≤ sizeLine) (A : Nat → List Value) (h0 : A 0 = [])
    (turn : ∀ i v cenv C, Ev cenv (relabS scope sc) C cl → i < N → er v = item i →
      W P n g ((C, frR (relabS scope sc) (compVs scope ix (item i))) :: ms) (cTests ifs cenv) (fun ok g₂ ms₂ =>
        if ok then W P n g₂ ms₂ (PySem.eval elt cenv) (fun y g₃ ms₃ => Ease P g₃ ms₃ fun g₄ ms₄ => g₄ = g ∧ ms₄ = (C, frR (relabS scope sc) (compVs scope ix (item i))) :: ms ∧ A i ++ [er y] = A (i + 1))
        else g₂ = g ∧ ms₂ = (C, frR (relabS scope sc) (compVs scope ix (item i))) :: ms ∧ A i = A (i + 1)))
    (fin : ∀ D, (A N).length ≤ N → K g ms D (A N)) : CompAt P n scope sc cl ix ifs elt K (.ref I) g ((I, r 0) :: ms) := by
  refine ⟨I, r, N, item, ms, fun i accs g' ms' => g' = g ∧ ms' = ms ∧ accs = A i, rfl, rfl, It, hN, ⟨rfl, rfl, h0.symm⟩, ?_, ?_⟩
  · rintro i v accs cenv C g₁ ms₁ hC hi le hv ⟨rfl, rfl, rfl⟩
    refine W.mono (turn i v cenv C hC hi hv) fun ok g₂ ms₂ z => ?_
    cases ok with
    | false =>
      rw [if_neg Bool.false_ne_true] at z ⊢
      obtain ⟨rfl, rfl, e⟩ := z
      exact ⟨ms₁, .refl _, rfl, rfl, e⟩
    | true =>
      rw [if_pos rfl] at z ⊢
      refine W.ease (W.mono z fun y g₃ ms₃ z => ?_)
      intro R hp S
      obtain ⟨g₄, ms₄, l, S', rfl, rfl, e⟩ := z R hp S
      exact ⟨g₄, _, l, S', ms₁, .refl _, rfl, rfl, e⟩
  · rintro accs D g₁ ms₁ le hl ⟨rfl, rfl, rfl⟩
    exact fin D hl
theorem w_dictNewM {pos : Pos} (h : ∀ d, (d == sysModules) = false → Q (.ref d) g ((d, dicR P []) :: ms)) : W P n g ms (PySem.eval (.Dict [] [] pos) env) Q :=
  ⟨fun A s R hA S => wpAny_Dict_empty ⟨g, _, _, _, rfl, .refl _, S.push rfl ⟨_, _, [], ⟨rfl, rfl, rfl⟩, rfl, (fun e he => by simp at he), .nil, .nil, rfl⟩, h _ (by
    obtain ⟨o, es, ep, ho, _⟩ := S.base.gl
    have h3 := Heap.lt_size (S.keep _ _ ho)
    have h3' : (3 : Nat) < s.heap.objs.size := h3
    have : s.heap.objs.size ≠ 1 := fun e => by rw [e] at h3'; exact absurd h3' (by decide)
    exact beq_eq_false_iff_ne.mpr this)⟩⟩
/-- a list of which only its items are known -/
noncomputable def lisR (xs : List Value) : Rs := fun o => o.cls = .type "list" ∧ ∃ ys n, o.data = .seq ys n ∧ ys.toList.map er = xs
theorem At.lis {h : Heap} {a : Addr} {xs : List Value} (x : At h a (lisR xs)) : ∃ ys, h.IsList a ys ∧ ys.toList.map er = xs := by
  obtain ⟨o, e, c, ys, n, d, q⟩ := x; exact ⟨ys, ⟨o, e, c, n, d⟩, q⟩
theorem w_notPyLis {l : Addr} {xs : List Value} {Q : Bool → Heap → Ms → Prop} (hl : At g l (lisR xs)) (h : Q false g ms) : W P n g ms (getitemInPython (.ref l)) Q := by
  refine W.leaf fun A s R hA S Q' k => ?_
  obtain ⟨ys, hL, hq⟩ := (hl.le S.keep).lis
  rw [getitemInPython_of_ne (by simp)]
  exact wpAny_bind (wpAny_specialOf hL.typeIs slot_list_getitem.lookup (wpAny_pure (k _ s.toks h)))
theorem w_cutToLis {lst sl : Addr} {xs : List Value} {j : Nat} {tj : Tok} (hs : (sl, sliR .none (.int j tj) .none) ∈ ms) (hl : At g lst (lisR xs)) (hz : xs.length ≤ sizeLine)
    (h : ∀ r, Q (.ref r) g ((r, lstR (xs.take j)) :: ms)) : W P n g ms (getItem (.ref lst) (.ref sl)) Q := by
  refine ⟨fun A s R hA S => ?_⟩
  obtain ⟨o, e, rfl⟩ := S.get (List.mem_append_left _ hs)
  obtain ⟨ys, hL, hq⟩ := (hl.le S.keep).lis
  have h' : ∀ r, Q (.ref r) g ((r, lstR ((slicePick ys none (some (j : Int)) none).toList.map er)) :: ms) := fun r => by
    rw [slicePick_upto', List.map_take, hq]; exact h r
  exact wpAny_getItem_list_slice (hsz := by rw [size_er hq]; exact hz) hL ⟨_, e, rfl, rfl⟩ .none (.int _ _) .none (by simp) ⟨g, _, _, s.toks, rfl, .refl _, S.push rfl ⟨_, _, rfl, rfl⟩, h' _⟩
/-- the same, the end hidden behind a name: the terms of a walk stay small -/
theorem W.gen {α : Type} {t : Sem α} {Q : α → Heap → Ms → Prop} (h : ∀ S : α → Heap → Ms → Prop, (∀ a g' ms', Q a g' ms' → S a g' ms') → W P n g ms t S) : W P n g ms t Q := h Q fun _ _ _ x => x
theorem forLoopS {target : Expr} {body : List Stmt} {I : Addr} {r : Nat → Rs} {N : Nat} {item : Nat → Value} {J : Nat → Heap → Ms → Prop} {Q : Flow → Heap → Ms → Prop} (It : IterOk P g I r N item)
    (turn : ∀ i v g₁ ms₁ (S : Flow → Heap → Ms → Prop), (∀ f g₄ ms₄, (match f with
      | .next | .cont => J (i + 1) g₄ ms₄
      | .brk => Q .next g₄ ms₄
      | .ret v => Q (.ret v) g₄ ms₄) → S f g₄ ms₄) → i < N → Le g g₁ → er v = item i → J i g₁ ms₁ → W P n g₁ ms₁ (assign target env v) (fun _ g₂ ms₂ => W P n g₂ ms₂ (execs body env) (fun f g₃ ms₃ => Ease P g₃ ms₃ (S f))))
    (fin : ∀ g₁ ms₁, Le g g₁ → J N g₁ ms₁ → Q .next g₁ ms₁) (h0 : J 0 g ms)
    (ht : ∀ v, letOwnedTupleGo target (.ref I) v = pure () := by intro _; rfl) :
    WC P n g ((I, r 0) :: ms) (.forLoop target (.ref I) body [] env) Q :=
  forLoopE It (fun i v g₁ ms₁ a b c d => turn i v g₁ ms₁ (fun f g₄ ms₄ => match f with
      | .next | .cont => J (i + 1) g₄ ms₄
      | .brk => Q .next g₄ ms₄
      | .ret v => Q (.ret v) g₄ ms₄) (fun _ _ _ x => x) a b c d) fin h0 ht
theorem w_WhileS {test : Expr} {body : List Stmt} {pos : Pos} {J : Nat → Heap → Ms → Prop} {Q : Flow → Heap → Ms → Prop} (k : Nat) (h0 : J k g ms)
    (turn : ∀ k g₁ ms₁ (S : Flow → Heap → Ms → Prop) (E : Heap → Ms → Prop), (∀ f g₃ ms₃, (match f with
        | .next | .cont => ∃ m, m < k ∧ J m g₃ ms₃
        | .brk => Q .next g₃ ms₃
        | .ret v => Q (.ret v) g₃ ms₃) → S f g₃ ms₃) → (∀ g₃ ms₃, Q .next g₃ ms₃ → E g₃ ms₃) → Le g g₁ → J k g₁ ms₁ → W P n g₁ ms₁ (isTrue test env (PySem.eval test env)) (fun b g₂ ms₂ =>
      if b then W P n g₂ ms₂ (execs body env) (fun f g₃ ms₃ => S f g₃ ms₃) else E g₂ ms₂)) : W P n g ms (exec (.While test body [] pos) env) Q :=
  w_While k h0 fun k g₁ ms₁ a b => turn k g₁ ms₁ (fun f g₃ ms₃ => match f with
        | .next | .cont => ∃ m, m < k ∧ J m g₃ ms₃
        | .brk => Q .next g₃ ms₃
        | .ret v => Q (.ret v) g₃ ms₃) (Q .next) (fun _ _ _ x => x) (fun _ _ x => x) a b
/-- what comes behind a statement, behind a name -/
noncomputable def Hid (R S : Flow → Heap → Ms → Prop) : Prop := ∀ f g ms, R f g ms → S f g ms
theorem Hid.go {R S : Flow → Heap → Ms → Prop} {f : Flow} {g : Heap} {ms : Ms} (k : Hid R S) (h : R f g ms) : S f g ms := k f g ms h
theorem w_consS {st : Stmt} {rest : List Stmt} {Q : Flow → Heap → Ms → Prop}
    (h : ∀ S, Hid (fun f g' ms' => match f with | .next => W P n g' ms' (execs rest env) Q | f => Q f g' ms') S → W P n g ms (exec st env) S) : W P n g ms (execs (st :: rest) env) Q :=
  w_cons (h _ fun _ _ _ x => x)
theorem if_T {A B : Prop} {d : Decidable (true = true)} (h : A) : @ite Prop (true = true) d A B := by rw [if_pos rfl]; exact h
theorem if_F {A B : Prop} {d : Decidable (false = true)} (h : B) : @ite Prop (false = true) d A B := by rw [if_neg Bool.false_ne_true]; exact h
/-- a test whose answer is known -/
theorem if_Y {A B : Prop} {b : Bool} {d : Decidable (b = true)} (e : b = true) (h : A) : @ite Prop (b = true) d A B := by rw [if_pos e]; exact h
theorem if_N {A B : Prop} {b : Bool} {d : Decidable (b = true)} (e : b = false) (h : B) : @ite Prop (b = true) d A B := by rw [if_neg (by rw [e]; exact Bool.false_ne_true)]; exact h
theorem W.nEq {m : Nat} {α : Type} {t : Sem α} {Q : α → Heap → Ms → Prop} (e : n = m) (h : W P m g ms t Q) : W P n g ms t Q := e ▸ h
end
end Mine
end
section
open PySem PySem.Calls PyProof.Rows PySem.Builtin PySem.MeetsSeq
set_option Elab.async false
set_option autoImplicit false
set_option linter.unusedVariables false
set_option maxRecDepth 100000
set_option maxHeartbeats 4000000
namespace Mine
noncomputable def pst (i : Nat) : Stmt := PySem.Challenge.pw_wo0064_01.main.body.getD i (.Pass ⟨0, 0, 0, 0⟩)
/-- a def of the row's text by its place -/
noncomputable def df (q : Str) (i : Nat) : Df := dfOf q (pst i)
/-- a method's parts, by its class's place and its own -/
noncomputable def dfm (q : Str) (i j : Nat) : Df := dfOf q (match pst i with
  | .ClassDef _ _ _ body _ _ _ _ _ _ _ => body.getD j (.Pass ⟨0, 0, 0, 0⟩)
  | s => s)
/-- the law's signs -/
noncomputable def signs : List (List Nat) := [[42], [42, 42], [46], [46, 46, 46], [61], [61, 61], [45], [45, 62], [60], [60, 60, 61], [33], [33, 61]]
/-- what a text in quotes says -/
noncomputable def unq : List Nat → List Nat
  | [] => []
  | c :: r => if c = 34 then (match r with
    | [] => []
    | c' :: r' => if c' = 34 then 34 :: unq r' else []) else c :: unq r

theorem unq_ne {c : Nat} {r : List Nat} (h : c ≠ 34) : unq (c :: r) = c :: unq r := by rw [unq.eq_def]; simp [h]
theorem unq_two (r : List Nat) : unq (34 :: 34 :: r) = 34 :: unq r := by rw [unq.eq_def]; simp
theorem unq_one {c : Nat} {r : List Nat} (h : c ≠ 34) : unq (34 :: c :: r) = [] := by rw [unq.eq_def]; simp [h]
theorem unq_end : unq [34] = [] := by rw [unq.eq_def]; simp
theorem unq_nil : unq [] = [] := by rw [unq.eq_def]
set_option genInjectivity false
set_option genSizeOf false
/-- what is known of the program's names -/
structure Facts (P : Setup) where
  tNT : Tok
  gNT : GlobIs P "NT_OFFSET" (.int 256 tNT)
  gLen : GlobIs P "len" (.builtin "len")
  gMax : GlobIs P "max" (.builtin "max")
  gMin : GlobIs P "min" (.builtin "min")
  gSum : GlobIs P "sum" (.builtin "sum")
  gAbs : GlobIs P "abs" (.builtin "abs")
  gDivmod : GlobIs P "divmod" (.builtin "divmod")
  gSorted : GlobIs P "sorted" (.builtin "sorted")
  gInt : GlobIs P "int" (.type "int")
  gList : GlobIs P "list" (.type "list")
  gTuple : GlobIs P "tuple" (.type "tuple")
  gRange : GlobIs P "range" (.type "range")
  gEnum : GlobIs P "enumerate" (.type "enumerate")
  aParse : Addr
  gParse : GlobIs P "parse257" (.ref aParse)
  fParse : FnIs P aParse (df "parse257" 6)
  aAP : Addr
  gAP : GlobIs P "Int2AP" (.ref aAP)
  fAP : FnIs P aAP (df "Int2AP" 8)
  aT : Addr
  gT : GlobIs P "ISTERMINAL" (.ref aT)
  fT : FnIs P aT (df "ISTERMINAL" 60)
  aN : Addr
  gN : GlobIs P "ISNONTERMINAL" (.ref aN)
  fN : FnIs P aN (df "ISNONTERMINAL" 61)
  aNum : Addr
  gNum : GlobIs P "_law_numbers" (.ref aNum)
  fNum : FnIs P aNum (df "_law_numbers" 63)
  aTree : Addr
  gTree : GlobIs P "_law_tree" (.ref aTree)
  fTree : FnIs P aTree (df "_law_tree" 64)
  aMir : Addr
  gMir : GlobIs P "_law_mirrored" (.ref aMir)
  fMir : FnIs P aMir (df "_law_mirrored" 65)
  aWr : Addr
  gWr : GlobIs P "_law_written" (.ref aWr)
  fWr : FnIs P aWr (df "_law_written" 66)
  aRead : Addr
  gRead : GlobIs P "_law_read" (.ref aRead)
  fRead : FnIs P aRead (df "_law_read" 67)
  aDraw : Addr
  gDraw : GlobIs P "_law_drawings" (.ref aDraw)
  fDraw : FnIs P aDraw (df "_law_drawings" 68)
  aTab : Addr
  gTab : GlobIs P "EXACT_TOKEN_TYPES" (.ref aTab)
  tab : Str → Option Value
  hTab : TabIs P aTab tab
  tabQ : ∀ x, (tab x).isSome = true → 34 ∉ x.cps.toList
  num : List Nat → Nat
  tabS : ∀ x ∈ signs, tab (tx x) = some (.int (num x) 0)
  numLt : ∀ x ∈ signs, num x < 256
  numInj : ∀ x ∈ signs, ∀ y ∈ signs, num x = num y → x = y
  aWs : Addr
  gWs : GlobIs P "Whitespace" (.ref aWs)
  aInit : Addr
  fInit : FnIs P aInit (dfm "Whitespace.__init__" 2 1)
  aEq : Addr
  fEq : FnIs P aEq (dfm "Whitespace.equal" 2 4)
  cWs : ClsIs P aWs aInit
  eqIn : PySem.W.findIn P.K (.ref aWs) "equal" = some (some (.ref aEq))
  eqFn : PySem.W.typeIn P.K (.ref aEq) = some (.type "function")
  nRaw : NotIn P aWs "raw"
  nN : NotIn P aWs "n"
  nNt : NotIn P aWs "nt"
  nNorm : NotIn P aWs "norm"
  nSimple : NotIn P aWs "is_simple"
  wsReads : PySem.W.readsIn P.K aWs (.type "type") = true
  tS : Tok
  wsS : PySem.W.findCls P.K (.ref aWs) (.type "type") "S" = some (.val (.str (tx [32]) tS))
  tT : Tok
  wsT : PySem.W.findCls P.K (.ref aWs) (.type "type") "T" = some (.val (.str (tx [9]) tT))

set_option genInjectivity true
set_option genSizeOf true
set_option bootstrap.genMatcherCode true
set_option hygiene false in
local macro_rules | `(tactic| walk_at "glob") => `(tactic| with_reducible first | assumption | exact Facts.gNT ‹_› | exact Facts.gLen ‹_› | exact Facts.gMax ‹_› | exact Facts.gMin ‹_› | exact Facts.gSum ‹_› | exact Facts.gAbs ‹_› | exact Facts.gDivmod ‹_› | exact Facts.gSorted ‹_› | exact Facts.gInt ‹_› | exact Facts.gList ‹_› | exact Facts.gTuple ‹_› | exact Facts.gRange ‹_› | exact Facts.gEnum ‹_› | exact Facts.gParse ‹_› | exact Facts.gAP ‹_› | exact Facts.gT ‹_› | exact Facts.gN ‹_› | exact Facts.gNum ‹_› | exact Facts.gTree ‹_› | exact Facts.gMir ‹_› | exact Facts.gWr ‹_› | exact Facts.gRead ‹_› | exact Facts.gDraw ‹_› | exact Facts.gTab ‹_› | exact Facts.gWs ‹_›)
set_option hygiene false in
local macro_rules | `(tactic| walk_at "mem") => `(tactic| first | exact List.mem_cons_self | (repeat (first | exact List.mem_cons_self | refine List.mem_cons_of_mem _ ?_)))
set_option hygiene false in
local macro_rules | `(tactic| walk_at "upd") => `(tactic| with_reducible first | exact Upd.head | (repeat (first | exact Upd.head | apply Upd.tail)))
set_option hygiene false in
local macro_rules | `(tactic| walk_at "tk") => `(tactic| with_reducible first | refine Tk.int ?_ | refine Tk.str ?_ | refine Tk.ref ?_ | refine Tk.bytes ?_ | refine Tk.bool ?_ | refine Tk.none ?_)
set_option hygiene false in
local macro_rules | `(tactic| walk_at "has") => `(tactic| first | exact Or.inr (by assumption) | exact Or.inl (by walk_at "mem"))
set_option hygiene false in
local macro_rules | `(tactic| walk_at "red") => `(tactic| (intros; try dsimp only [RetQ, er, Nat.reduceAdd, List.set_cons_succ, List.set_cons_zero, List.map, List.cons_append, List.nil_append, Bool.not_true, Bool.not_false]))
set_option hygiene false in
local macro_rules | `(tactic| walk_at "ldn") => `(tactic| ((with_reducible show W _ _ _ _ (loadName _ _) _); first
  | (refine w_ldL (by assumption) rfl rfl (by walk_at "mem") rfl ?_; walk_at "tk"; walk_at "red")
  | (refine w_ldG (by assumption) rfl (by walk_at "glob") ?_; walk_at "red")
  | (refine w_ldC (by assumption) rfl rfl (by walk_at "mem") ?_; walk_at "tk"; walk_at "red")))
set_option hygiene false in
local macro_rules | `(tactic| walk_at "ld") => `(tactic| ((with_reducible refine w_Name ?_); walk_at "ldn"))
set_option hygiene false in
local macro_rules | `(tactic| walk_at "st") => `(tactic| ((with_reducible show W _ _ _ _ (storeName _ _ _) _); first
  | (refine w_stL (by assumption) rfl rfl (by walk_at "upd") (by exact Nat.le_of_ble_eq_true rfl) ?_; walk_at "red")
  | (refine w_stC (by assumption) rfl rfl (by walk_at "upd") ?_; walk_at "red")))
set_option hygiene false in
local macro_rules | `(tactic| walk_at "hid") => `(tactic| repeat ((with_reducible refine Hid.go hSx ?_); (try clear hSx Sx); walk_at "red"))
set_option hygiene false in
local macro_rules | `(tactic| walk_at "m1") => `(tactic| with_reducible first
  | refine w_consS fun Sx hSx => ?_ | refine w_nil ?_ | refine w_Return ?_ | refine w_Break ?_ | refine w_AugName ?_
  | refine w_tNot ?_ | refine w_tBool ?_ | refine w_tAnd ?_ | refine w_tOr ?_ | refine w_tAndNil ?_ | refine w_tOrNil ?_ | refine w_truthyBool ?_
  | refine w_int ?_ | refine w_str ?_ | refine w_bytes ?_ | refine w_bool ?_ | refine w_none ?_ | refine w_BinOp ?_ | refine w_Subscript ?_ | refine w_SliceR ?_ | refine w_SliceR3 ?_ | refine w_partNone ?_ | refine w_partSome ?_
  | refine w_argsNil ?_ | refine w_List ?_ | refine w_Tuple ?_ | refine w_CallName ?_ | refine w_UnaryOp ?_ | refine w_negI ?_
  | refine w_addI ?_ | refine w_subI ?_ | refine w_eqI ?_ | refine w_neI ?_ | refine w_ltI ?_ | refine w_geI ?_ | refine w_leI ?_ | refine w_iaddI ?_ | refine w_eqX ?_ | refine w_neX ?_ | refine w_eqS ?_ | refine w_neS ?_
  | refine w_abs ?_ | refine w_toInt ?_ | refine w_min ?_ | refine w_notPyStr ?_ | refine w_notPyBytes ?_ | refine w_truthyInt ?_ | refine w_count ?_ | refine w_getCount ?_ | refine w_getJoin ?_ | refine w_bindName ?_ | refine w_assignName ?_
  | refine w_inOrder ?_ | refine w_inOrderNil ?_ | (refine Hid.go hSx ?_; try clear hSx Sx))
set_option hygiene false in
local macro_rules | `(tactic| walk_at "kept") => `(tactic| with_reducible first | exact FnIs.kept (by first | exact Facts.fParse _ | exact Facts.fAP _ | exact Facts.fT _ | exact Facts.fN _ | exact Facts.fNum _ | exact Facts.fTree _ | exact Facts.fMir _ | exact Facts.fWr _ | exact Facts.fRead _ | exact Facts.fDraw _ | exact Facts.fEq _) | exact Kept.cls (Facts.cWs _))
set_option hygiene false in
local macro_rules | `(tactic| walk_at "m2") => `(tactic| first
  | ((with_reducible show W _ _ _ _ (exec (.Assign [_, _, _] _ _) _) _); refine w_Assign3 ?_)
  | ((with_reducible show W _ _ _ _ (exec (.Assign [.Name _ _] _ _) _) _); refine w_Assign ?_)
  | ((with_reducible show W _ _ _ _ (exec (.Assign [.Attribute _ _ _] _ _) _) _); refine w_AssignAttr ?_)
  | ((with_reducible show W _ _ _ _ (exec (.Assign [.Subscript _ _ _] _ _) _) _); refine w_AssignSub ?_)
  | ((with_reducible show W _ _ _ _ (exec (.AugAssign (.Subscript _ _ _) _ _ _) _) _); refine w_AugSub ?_)
  | ((with_reducible show W _ _ _ _ (exec (.Expr _ _) _) _); refine w_Expr (by assumption) ?_)
  | ((with_reducible show W _ _ _ _ (isTrue (.Compare _ _ _ _) _ _) _); refine w_tCompare ?_)
  | ((with_reducible show W _ _ _ _ (PySem.eval (.Compare _ _ _ _) _) _); refine w_Compare ?_)
  | ((with_reducible show W _ _ _ _ (PySem.eval (.Attribute _ _ _) _) _); refine w_Attribute ?_)
  | ((with_reducible show W _ _ _ _ (spliced (backTo _ (starEach (_ :: _) _))) _); refine w_args ?_)
  | ((with_reducible show W _ _ _ _ (callWith _ (.builtin _) _ (backTo _ (starEach (_ :: _) _)) _) _); refine w_callBuiltin ?_)
  | ((with_reducible show W _ _ _ _ (callWith _ (.type _) _ (backTo _ (starEach (_ :: _) _)) _) _); refine w_callType ?_)
  | ((with_reducible show W _ _ _ _ (callWith _ (.ref _) _ (backTo _ (starEach (_ :: _) _)) _) _); refine w_callOwn (by walk_at "kept") ?_))
set_option hygiene false in
local macro_rules | `(tactic| walk_at "m") => `(tactic| first | (walk_at "m1"; walk_at "red") | walk_at "ld" | walk_at "ldn" | walk_at "st" | ((with_reducible show W _ _ _ _ (getitemInPython (.ref _)) _); first | (refine w_notPyList (by walk_at "has") ?_; walk_at "red") | (refine w_notPyTup (by walk_at "has") ?_; walk_at "red")) | (walk_at "m2"; walk_at "red") | ((with_reducible show List.length _ ≤ sizeLine ∧ _); refine ⟨by rw [sizeLine_eq]; exact Nat.le_of_ble_eq_true rfl, ?_⟩; walk_at "red"))
set_option hygiene false in
local macro_rules | `(tactic| walk_at "mm") => `(tactic| repeat (first | walk_at "m" | ((with_reducible refine w_If ?_); walk_at "red") | (with_reducible refine if_T ?_) | (with_reducible refine if_F ?_)))
set_option hygiene false in
local macro_rules | `(tactic| walk_at "br0") => `(tactic| first | (with_reducible refine if_T ?_) | (with_reducible refine if_F ?_) | simp only [Bool.false_eq_true, if_false, if_true, Bool.not_true, Bool.not_false])
set_option hygiene false in
local macro_rules | `(tactic| walk_at "br") => `(tactic| (try (walk_at "br0")))
set_option hygiene false in
local macro_rules | `(tactic| walk_at "sub") => `(tactic| repeat (first | exact List.Sublist.refl _ | (with_reducible apply List.Sublist.cons₂) | (with_reducible apply List.Sublist.cons)))
set_option hygiene false in
local macro_rules | `(tactic| walk_at "go") => `(tactic| (walk_at "red"; repeat (first | walk_at "m" | walk_at "br0" | ((with_reducible refine w_If ?_); walk_at "red"))))
set_option hygiene false in
local macro_rules | `(tactic| walk_at "gs") => `(tactic| (walk_at "red"; repeat (first | walk_at "m" | walk_at "br0")))
set_option bootstrap.genMatcherCode false
section
variable {P : Setup} {n : Nat} {g : Heap} {ms : Ms} {env : Env} {a b : Int} {t u : Tok} {Q : Value → Heap → Ms → Prop} {l : List Nat} {f : Addr} (F : Facts P)
include F
theorem c_nonterminal (h : Q (.bool (decide (256 ≤ a))) g ms) : W P (n + 1) g ms (call (.ref F.aN) [.int a t]) Q := by
  refine w_fn F.fN (xs := ["x"]) (vs := [some (.int a 0), none]) (by decide +kernel) rfl rfl fun env L hE => W.ease ?_
  conv in (df _ _).body => whnf
  walk_at "mm"
  walk_at "hid"
  exact .drop (.cons _ (.refl _)) (.here h)
theorem c_terminal (h : Q (.bool (decide (a < 256))) g ms) : W P (n + 1) g ms (call (.ref F.aT) [.int a t]) Q := by
  refine w_fn F.fT (xs := ["x"]) (vs := [some (.int a 0), none]) (by decide +kernel) rfl rfl fun env L hE => W.ease ?_
  conv in (df _ _).body => whnf
  walk_at "mm"
  walk_at "hid"
  exact .drop (.cons _ (.refl _)) (.here h)

theorem c_parse (h1 : tx (l.take 3) = "257") (h2 : tx ((l.drop 3).take 2) = " \"") (hn : l.length ≤ 1000000) (h : ∀ t, Q (.str (tx (unq (l.drop 5))) t) g ms) : W P (n + 1) g ms (call (.ref F.aParse) [.str (tx l) t]) Q := by
  refine w_fn F.fParse (xs := ["resp"]) (vs := [some (.str (tx l) 0), none, none, none, none, none, none]) (by decide +kernel) rfl rfl fun env L hE => W.ease ?_
  conv in (df _ _).body => whnf
  have e1 : (tx (l.take 3) != "257") = false := by rw [h1]; decide +kernel
  have e2 : (tx ((l.drop 3).take 2) != " \"") = false := by rw [h2]; decide +kernel
  have z : l.length ≤ sizeLine := by rw [sizeLine_eq]; (first | lia | omega)
  walk_at "mm"
  refine w_subCut (w_cutToS (j := 3) (by walk_at "mem") z ?_)
  walk_at "red"
  walk_at "mm"
  rw [e1]
  walk_at "br"
  walk_at "mm"
  refine w_subCut (w_cutS (i := 3) (j := 5) (by walk_at "mem") z ?_)
  walk_at "red"
  walk_at "mm"
  rw [e2]
  walk_at "br"
  walk_at "mm"
  refine w_lenS (by rw [tx_len]; (first | lia | omega)) ?_
  walk_at "red"
  rw [tx_len]
  walk_at "mm"
  have e0 : Str.ofString "" = tx [] := by decide +kernel
  rw [e0]
  refine W.drop (ms' := (L, frR (df "parse257" 6).scope [some (.str (tx l) 0), some (.str (tx []) 0), some (.int 5 0), some (.int l.length 0), none, none, none]) :: ms) (by walk_at "sub") ?_
  have h5 : 5 ≤ l.length := by
    have := congrArg Str.length h2
    rw [tx_len, List.length_take, List.length_drop] at this
    have e : Str.length " \"" = 2 := by decide +kernel
    (first | lia | omega)
  refine W.mono (Q := fun f g' ms' => f = .next ∧ g' = g ∧ ∃ i c, ms' = (L, frR (df "parse257" 6).scope [some (.str (tx l) 0), some (.str (tx (unq (l.drop 5))) 0), i, some (.int l.length 0), c, none, none]) :: ms) (w_While (J := fun k g' ms' => g' = g ∧ ∃ (i : Nat) (d : List Nat) (c : Option Value), ms' = (L, frR (df "parse257" 6).scope [some (.str (tx l) 0), some (.str (tx d) 0), some (.int i 0), some (.int l.length 0), c, none, none]) :: ms ∧ i ≤ l.length ∧ k = l.length - i ∧ d.length ≤ i ∧ d ++ unq (l.drop i) = unq (l.drop 5)) (l.length - 5) ?_ ?_) ?_
  · exact ⟨rfl, 5, [], none, rfl, h5, rfl, Nat.zero_le _, rfl⟩
  · intro k g₁ ms₁ le hJ
    obtain ⟨rfl, i, d, c, rfl, hi, hk, hd, he⟩ := hJ
    have eq : Str.ofString "\"" = tx [34] := by decide +kernel
    rw [eq]
    walk_at "mm"
    by_cases hlt : i < l.length
    · first | refine if_Y (show decide ((i : Int) < (l.length : Int)) = true by simpa using hlt) ?_ | rw [show decide ((i : Int) < (l.length : Int)) = true by simpa using hlt]
      walk_at "br"
      walk_at "mm"
      have hget : l[i]? = some l[i] := List.getElem?_eq_getElem hlt
      have hdrop : l.drop i = l[i] :: l.drop (i + 1) := List.drop_eq_getElem_cons hlt
      refine w_subPlain (by with_unfolding_all rfl) (w_itemX hget hn ?_)
      walk_at "red"
      walk_at "mm"
      rw [show ((i : Int) + 1) = ((i + 1 : Nat) : Int) by (first | lia | omega)]
      by_cases hq : l[i] = 34
      · first | refine if_Y (show decide ([l[i]] = [34]) = true by simpa using hq) ?_ | rw [show decide ([l[i]] = [34]) = true by simpa using hq]
        walk_at "br"
        walk_at "mm"
        by_cases hl2 : i + 1 < l.length
        · first | refine if_N (show decide ((l.length : Int) ≤ ((i + 1 : Nat) : Int)) = false from decide_eq_false (by (first | lia | omega))) ?_ | rw [show decide ((l.length : Int) ≤ ((i + 1 : Nat) : Int)) = false from decide_eq_false (by (first | lia | omega))]
          walk_at "br"
          walk_at "mm"
          have hget2 : l[i + 1]? = some l[i + 1] := List.getElem?_eq_getElem hl2
          have hdrop2 : l.drop (i + 1) = l[i + 1] :: l.drop (i + 2) := List.drop_eq_getElem_cons hl2
          refine w_subPlain (by with_unfolding_all rfl) (w_itemX hget2 hn ?_)
          walk_at "red"
          walk_at "mm"
          by_cases hq2 : l[i + 1] = 34
          · first | refine if_Y (show decide ([l[i + 1]] = [34]) = true by simpa using hq2) ?_ | rw [show decide ([l[i + 1]] = [34]) = true by simpa using hq2]
            walk_at "go"
            rw [show ((i + 1 : Nat) : Int) + 1 = ((i + 2 : Nat) : Int) by (first | lia | omega)]
            refine w_addX (by simp; (first | lia | omega)) ?_
            walk_at "red"
            walk_at "mm"
            refine ⟨l.length - (i + 2), by (first | lia | omega), rfl, i + 2, _, _, rfl, by (first | lia | omega), rfl, by simp; (first | lia | omega), ?_⟩
            rw [← he, hdrop, hdrop2, hq, hq2, unq_two]; simp
          · first | refine if_N (show decide ([l[i + 1]] = [34]) = false by simpa using hq2) ?_ | rw [show decide ([l[i + 1]] = [34]) = false by simpa using hq2]
            walk_at "br"
            walk_at "mm"
            have hU : unq (l.drop 5) = d := by rw [← he, hdrop, hdrop2, hq, unq_one hq2]; simp
            rw [hU]
            exact ⟨by trivial, by trivial, _, _, rfl⟩
        · first | refine if_Y (show decide ((l.length : Int) ≤ ((i + 1 : Nat) : Int)) = true from decide_eq_true (by (first | lia | omega))) ?_ | rw [show decide ((l.length : Int) ≤ ((i + 1 : Nat) : Int)) = true from decide_eq_true (by (first | lia | omega))]
          walk_at "br"
          walk_at "mm"
          have : l.drop (i + 1) = [] := List.drop_eq_nil_of_le (by (first | lia | omega))
          have hU : unq (l.drop 5) = d := by rw [← he, hdrop, hq, this, unq_end]; simp
          rw [hU]
          exact ⟨by trivial, by trivial, _, _, rfl⟩
      · first | refine if_N (show decide ([l[i]] = [34]) = false by simpa using hq) ?_ | rw [show decide ([l[i]] = [34]) = false by simpa using hq]
        walk_at "br"
        walk_at "mm"
        refine w_addX (by simp; (first | lia | omega)) ?_
        walk_at "red"
        walk_at "mm"
        refine ⟨l.length - (i + 1), by (first | lia | omega), rfl, i + 1, _, _, rfl, by (first | lia | omega), rfl, by simp; (first | lia | omega), ?_⟩
        rw [← he, hdrop, unq_ne hq]; simp
    · first | refine if_N (show decide ((i : Int) < (l.length : Int)) = false by simpa using hlt) ?_ | rw [show decide ((i : Int) < (l.length : Int)) = false by simpa using hlt]
      walk_at "br"
      have : l.drop i = [] := List.drop_eq_nil_of_le (by (first | lia | omega))
      have hU : unq (l.drop 5) = d := by rw [← he, this, unq_nil]; simp
      rw [hU]
      exact ⟨by trivial, by trivial, _, _, rfl⟩
  · intro f g' ms' x
    obtain ⟨rfl, rfl, i, c, rfl⟩ := x
    walk_at "hid"
    walk_at "red"
    walk_at "mm"
    walk_at "hid"
    exact .drop (.cons _ (.refl _)) (.here (h _))
end
/-- the figures to the base of sixteen, the lowest first -/
noncomputable def hexd (m : Nat) : List Nat := if h : m = 0 then [] else m % 16 :: hexd (m / 16)
termination_by m
decreasing_by exact Nat.div_lt_self (Nat.pos_of_ne_zero h) (by decide)
theorem hexd_zero : hexd 0 = [] := by rw [hexd]; rfl
theorem hexd_pos {m : Nat} (h : m ≠ 0) : hexd m = m % 16 :: hexd (m / 16) := by rw [hexd, dif_neg h]
noncomputable def apb (ds : List Nat) : Array UInt8 := (ds.reverse.map fun d => UInt8.ofNat (65 + d)).toArray
theorem pylong16 (a : Int) : divisionGoesByPylong a 16 = false := by
  unfold divisionGoesByPylong
  dsimp only
  rw [Bool.and_eq_false_iff]
  left
  decide +kernel

section
variable {P : Setup} {n : Nat} {g : Heap} {ms : Ms} {env : Env} {a b : Int} {t u : Tok} {Q : Value → Heap → Ms → Prop} {l : List Nat} {f : Addr} (F : Facts P)
include F
theorem c_AP {m : Nat} (hm : (hexd m).length ≤ 1000) (h : ∀ t, Q (.bytes (apb (hexd m)) t) g ms) : W P (n + 1) g ms (call (.ref F.aAP) [.int m t]) Q := by
  refine w_fn F.fAP (xs := ["num"]) (vs := [some (.int m 0), none, none, none, none, none, none]) (by decide +kernel) rfl rfl fun env L hE => W.ease ?_
  conv in (df _ _).body => whnf
  walk_at "go"
  rw [if_neg (by (first | lia | omega))]
  walk_at "go"
  refine W.mono (Q := fun f g' ms' => f = .next ∧ g' = g ∧ ∃ i c, ms' = (L, frR (df "Int2AP" 8).scope [i, some (.bytes (apb (hexd m)) 0), some (.bytes #[65, 66, 67, 68, 69, 70, 71, 72, 73, 74, 75, 76, 77, 78, 79, 80] 0), c, none, none, none]) :: ms) (w_While (J := fun k g' ms' => g' = g ∧ ∃ (d : List Nat) (c : Option Value), ms' = (L, frR (df "Int2AP" 8).scope [some (.int k 0), some (.bytes (apb d) 0), some (.bytes #[65, 66, 67, 68, 69, 70, 71, 72, 73, 74, 75, 76, 77, 78, 79, 80] 0), c, none, none, none]) :: ms ∧ d ++ hexd k = hexd m) m ?_ ?_) ?_
  · exact ⟨rfl, [], none, rfl, rfl⟩
  · intro k g₁ ms₁ le hJ
    obtain ⟨rfl, d, c, rfl, he⟩ := hJ
    refine w_tValue ?_
    walk_at "go"
    by_cases hk : k = 0
    · subst hk
      walk_at "go"
      have hU : hexd m = d := by rw [← he, hexd_zero, List.append_nil]
      rw [hU]
      exact ⟨trivial, trivial, _, _, rfl⟩
    · first | refine if_Y (show ((k : Int) != 0) = true by simpa using hk) ?_ | rw [show ((k : Int) != 0) = true by simpa using hk]
      walk_at "br"
      refine W.ease ?_
      walk_at "go"
      refine w_AssignOne ?_ (by rfl) (by rfl)
      walk_at "go"
      refine w_divmod (by decide) (pylong16 _) ?_
      walk_at "red"
      rw [show ((k : Int).fdiv 16) = ((k / 16 : Nat) : Int) by rw [Int.fdiv_eq_ediv_of_nonneg _ (by (first | lia | omega))]; (first | lia | omega), show ((k : Int).fmod 16) = ((k % 16 : Nat) : Int) by rw [Int.fmod_eq_emod_of_nonneg _ (by (first | lia | omega))]; (first | lia | omega)]
      refine w_unpack2 (.inl (by walk_at "mem")) (.int fun t => .int fun t => ?_)
      walk_at "go"
      have hlt : k % 16 < 16 := Nat.mod_lt _ (by decide)
      rw [show ((k % 16 : Nat) : Int) + 1 = ((k % 16 + 1 : Nat) : Int) by (first | lia | omega)]
      refine w_subCut (w_cutB (i := k % 16) (j := k % 16 + 1) (by walk_at "mem") (by simp; (first | lia | omega)) (by simp) (by (first | lia | omega)) (by simp; (first | lia | omega)) ?_)
      rw [show ∀ j < 16, (([65, 66, 67, 68, 69, 70, 71, 72, 73, 74, 75, 76, 77, 78, 79, 80].toArray.toList.drop j).take (j + 1 - j)).toArray = #[UInt8.ofNat (65 + j)] by decide +kernel] <;> try exact hlt
      intro t'
      walk_at "go"
      have hlen : d.length ≤ 1000 := by
        have := congrArg List.length he
        rw [List.length_append] at this
        (first | lia | omega)
      refine w_addB (by simp [apb]; (first | lia | omega)) ?_
      walk_at "go"
      rw [show #[UInt8.ofNat (65 + k % 16)] ++ apb d = apb (d ++ [k % 16]) by simp [apb]]
      walk_at "go"
      walk_at "hid"
      refine .drop (.cons _ (.cons _ (.refl _))) (.here ⟨k / 16, by (first | lia | omega), rfl, d ++ [k % 16], _, rfl, ?_⟩)
      rw [List.append_assoc, List.singleton_append, ← hexd_pos hk, he]
  · intro f g' ms' x
    obtain ⟨rfl, rfl, i, c, rfl⟩ := x
    walk_at "hid"
    walk_at "go"
    walk_at "hid"
    exact .drop (.cons _ (.refl _)) (.here (h _))
end

/-- a lead: what is kept of it -/
noncomputable def LeadAt {P : Setup} (F : Facts P) (g : Heap) (x : Addr) (cs : List Int) (b : Int) : Prop :=
  ∃ dx tp ct v1 v2 v3 v4, At g x (insR F.aWs dx) ∧ At g dx (attR [("raw", v1), ("n", v2), ("nt", v3), ("norm", .ref tp), ("is_simple", v4)]) ∧ At g tp (tupR [.ref ct, .int b 0]) ∧ At g ct (tupR (iVs cs))
theorem LeadAt.le {P : Setup} {F : Facts P} {g g' : Heap} {x : Addr} {cs : List Int} {b : Int} (h : LeadAt F g x cs b) (l : Le g g') : LeadAt F g' x cs b :=
  let ⟨dx, tp, ct, v1, v2, v3, v4, h1, h2, h3, h4⟩ := h; ⟨dx, tp, ct, v1, v2, v3, v4, h1.le l, h2.le l, h3.le l, h4.le l⟩

/-- blanks and tabs, read as the class reads them -/
noncomputable def padTo (c : List Int) (b : Nat) : List Int := if c.length ≤ b then c ++ List.replicate (b + 1 - c.length) 0 else c
noncomputable def wsRun : List Nat → List Int → Nat → List Int × Nat
  | [], c, b => (c, b)
  | ch :: r, c, b => if ch = 32 then wsRun r c (b + 1) else if ch = 9 then wsRun r ((padTo c b).set b ((padTo c b).getD b 0 + 1)) 0 else (c, b)

theorem padTo_len (c : List Int) (b : Nat) : b < (padTo c b).length := by
  by_cases h : c.length ≤ b
  · unfold padTo; rw [if_pos h]; simp; (first | lia | omega)
  · unfold padTo; rw [if_neg h]; (first | lia | omega)
theorem padTo_le (c : List Int) (b : Nat) : (padTo c b).length ≤ max c.length (b + 1) := by
  by_cases h : c.length ≤ b
  · unfold padTo; rw [if_pos h]; simp; (first | lia | omega)
  · unfold padTo; rw [if_neg h]; (first | lia | omega)
theorem iVs_get {c : List Int} {b : Nat} (h : b < c.length) : (iVs c)[(b : Int).toNat]? = some (.int (c.getD b 0) 0) := by
  rw [Int.toNat_natCast]
  simp [iVs, List.getD_eq_getElem?_getD, h]
section
variable {P : Setup} {n : Nat} {g : Heap} {ms : Ms} {env : Env} {a b : Int} {t u : Tok} {Q : Value → Heap → Ms → Prop} {l : List Nat} {f : Addr} (F : Facts P)
include F
theorem c_equal {x y : Addr} {cs cs' : List Int} (hx : LeadAt F g x cs a) (hy : LeadAt F g y cs' b) (h : Q (.bool (decide (cs = cs' ∧ a = b))) g ms) : W P (n + 8) g ms (call (.ref F.aEq) [.ref x, .ref y]) Q := by
  obtain ⟨dx, tp, ct, v1, v2, v3, v4, h1, h2, h3, h4⟩ := hx
  obtain ⟨dy, tq, cu, w1, w2, w3, w4, k1, k2, k3, k4⟩ := hy
  refine w_fn F.fEq (xs := ["self", "other"]) (vs := [some (.ref x), some (.ref y)]) (by decide +kernel) rfl rfl fun env L hE => W.ease ?_
  conv in (dfm _ _ _).body => whnf
  walk_at "go"
  refine w_getAttr F.cWs (.inr h1) (.inr h2) F.nNorm rfl (fun v' e => by rw [er_ref e]; rfl) (.ref ?_)
  walk_at "go"
  refine w_getAttr F.cWs (.inr k1) (.inr k2) F.nNorm rfl (fun v' e => by rw [er_ref e]; rfl) (.ref ?_)
  walk_at "go"
  refine w_eqNorm (.inr h3) (.inr h4) (.inr k3) (.inr k4) ?_
  walk_at "hid"
  exact .drop (.cons _ (.refl _)) (.here h)

theorem c_init (hl : l.all (· < 128) = true) (hz : l.length ≤ 100000) (h : ∀ x g', Le g g' → LeadAt F g' x (wsRun l [] 0).1 (wsRun l [] 0).2 → Q (.ref x) g' ms) : W P (n + 2) g ms (call (.ref F.aWs) [.str (tx l) t]) Q := by
  refine W.ease (w_makeInst F.cWs fun x dx => ?_)
  refine wc_fn F.fInit (xs := ["self", "ws"]) (vs := [some (.ref x), some (.str (tx l) 0), none, none, none, none, none, none, none, none, none, none]) (by decide +kernel) rfl rfl fun env L hE => ?_
  conv in (dfm _ _ _).body => whnf
  walk_at "go"
  refine W.nd fun nd => ?_
  have hne : L ≠ dx := by rintro rfl; simp at nd
  clear nd
  refine w_setAttr F.cWs (.inl (by walk_at "mem")) List.mem_cons_self hne (by walk_at "upd") F.nRaw (by decide) ?_
  walk_at "go"
  refine w_swap2 (x := "S") (y := "T") (by rfl) (by rw [ev_eta hE]; rfl) ?_
  walk_at "go"
  refine w_clsVal F.wsReads F.wsS rfl ?_
  walk_at "go"
  refine w_clsVal F.wsReads F.wsT rfl ?_
  walk_at "go"
  refine ⟨_, _, _, rfl, .inl (by walk_at "mem"), .str fun t1 => .str fun t2 => ?_⟩
  walk_at "go"
  have hraw : attPut (Str.ofString "raw") (Value.str (tx l) 0) [] = [((Str.ofString "raw"), Value.str (tx l) 0)] := rfl
  rw [hraw]
  refine W.drop (.cons₂ _ (.cons _ (.refl _))) ?_
  refine W.mono (Q := fun f g' ms' => f = .next ∧ g' = g ∧ ∃ (c : List Int) (b : Nat) (n nt : Int) (ch : Option Value) (cl : Addr), ms' = (cl, lstR (iVs c)) :: (L, frR (dfm "Whitespace.__init__" 2 1).scope [some (.ref x), some (.str (tx l) 0), some (.str (tx [32]) 0), some (.str (tx [9]) 0), some (.ref cl), some (.int b 0), some (.int n 0), some (.int nt 0), ch, none, none, none]) :: (x, insR F.aWs dx) :: (dx, attR [("raw", .str (tx l) 0)]) :: ms ∧ (c, b) = wsRun l [] 0 ∧ c.length ≤ l.length) (W.gen fun S0 hS0 => w_For ?_) ?_
  · walk_at "go"
    refine w_getAttr F.cWs (.inl (by walk_at "mem")) (.inl (by walk_at "mem")) F.nRaw rfl (fun v' e => by obtain ⟨t, rfl⟩ := er_str e; rfl) (.str fun t3 => ?_)
    walk_at "go"
    refine w_iterStr (by simpa [tx] using hl) fun I It => ?_
    refine forLoopS (J := fun i g' ms' => g' = g ∧ ∃ (c : List Int) (b : Nat) (n nt : Int) (ch : Option Value) (cl : Addr), ms' = (cl, lstR (iVs c)) :: (L, frR (dfm "Whitespace.__init__" 2 1).scope [some (.ref x), some (.str (tx l) 0), some (.str (tx [32]) 0), some (.str (tx [9]) 0), some (.ref cl), some (.int b 0), some (.int n 0), some (.int nt 0), ch, none, none, none]) :: (x, insR F.aWs dx) :: (dx, attR [("raw", .str (tx l) 0)]) :: ms ∧ wsRun (l.drop i) c b = wsRun l [] 0 ∧ c.length ≤ i ∧ b + 1 ≤ l.length + 1 ∧ b ≤ i) It ?_ ?_ ?_
    · intro i v g₁ ms₁ S hS hi le hv hJ
      obtain ⟨rfl, c, b, nn, nt, ch, cl, rfl, he, hcl, hb, hbi⟩ := hJ
      obtain ⟨t4, rfl⟩ := er_str hv
      have hi' : i < l.length := by simpa [tx] using hi
      have hch : (⟨#[(tx l).cps.getD i 0]⟩ : Str) = tx [l[i]] := by
        have : (tx l).cps.getD i 0 = l[i] := by simp [tx, Array.getD, hi']
        rw [this]; rfl
      rw [hch]
      have hdrop : l.drop i = l[i] :: l.drop (i + 1) := List.drop_eq_getElem_cons hi'
      rw [hdrop] at he
      walk_at "go"
      by_cases h32 : l[i] = 32
      · first | refine if_Y (show decide ([l[i]] = [32]) = true by simpa using h32) ?_ | rw [show decide ([l[i]] = [32]) = true by simpa using h32]
        walk_at "go"
        rw [wsRun, if_pos h32] at he
        rw [show (b : Int) + 1 = ((b + 1 : Nat) : Int) by (first | lia | omega)]
        walk_at "hid"
        exact .here (hS _ _ _ ⟨rfl, c, b + 1, nn + 1, nt, some (.str (tx [l[i]]) 0), cl, rfl, he, by (first | lia | omega), by (first | lia | omega), by (first | lia | omega)⟩)
      · first | refine if_N (show decide ([l[i]] = [32]) = false by simpa using h32) ?_ | rw [show decide ([l[i]] = [32]) = false by simpa using h32]
        walk_at "go"
        by_cases h9 : l[i] = 9
        · first | refine if_Y (show decide ([l[i]] = [9]) = true by simpa using h9) ?_ | rw [show decide ([l[i]] = [9]) = true by simpa using h9]
          rw [wsRun, if_neg h32, if_pos h9] at he
          walk_at "gs"
          refine W.mono (Q := fun f g' ms' => f = .next ∧ g' = g₁ ∧ ∃ (cl' : Addr), ms' = (cl', lstR (iVs (padTo c b))) :: (L, frR (dfm "Whitespace.__init__" 2 1).scope [some (.ref x), some (.str (tx l) 0), some (.str (tx [32]) 0), some (.str (tx [9]) 0), some (.ref cl'), some (.int b 0), some (.int (nn + 1) 0), some (.int (nt + 1) 0), some (.str (tx [l[i]]) 0), none, none, none]) :: (x, insR F.aWs dx) :: (dx, attR [("raw", .str (tx l) 0)]) :: ms) ?_ ?_
          · refine W.gen fun S1 hS1 => ?_
            refine W.ease ?_
            walk_at "go"
            refine w_lenL (.inl (by walk_at "mem")) (by simp [iVs]; (first | lia | omega)) ?_
            rw [show (iVs c).length = c.length by simp [iVs]]
            walk_at "go"
            by_cases hp : c.length ≤ b
            · first | refine if_Y (show decide ((c.length : Int) ≤ (b : Int)) = true from decide_eq_true (by (first | lia | omega))) ?_ | rw [show decide ((c.length : Int) ≤ (b : Int)) = true from decide_eq_true (by (first | lia | omega))]
              walk_at "go"
              refine w_lenL (.inl (by walk_at "mem")) (by simp [iVs]; (first | lia | omega)) ?_
              rw [show (iVs c).length = c.length by simp [iVs]]
              walk_at "go"
              rw [show (b : Int) - (c.length : Int) + 1 = ((b + 1 - c.length : Nat) : Int) by (first | lia | omega)]
              refine w_repL (.inl (by walk_at "mem")) (by (first | lia | omega)) ?_
              walk_at "go"
              refine w_addL (.inl (by walk_at "mem")) (.inl (by walk_at "mem")) (by simp [iVs, sizeLine_eq]; (first | lia | omega)) ?_
              rw [show iVs c ++ List.replicate (b + 1 - c.length) (Value.int 0 0) = iVs (padTo c b) by unfold padTo; rw [if_pos hp]; simp [iVs]]
              walk_at "go"
              walk_at "hid"
              exact Ease.drop (.cons₂ _ (.cons _ (.cons _ (.cons _ (.refl _))))) (.here (hS1 _ _ _ ⟨rfl, rfl, _, rfl⟩))
            · first | refine if_N (show decide ((c.length : Int) ≤ (b : Int)) = false from decide_eq_false (by (first | lia | omega))) ?_ | rw [show decide ((c.length : Int) ≤ (b : Int)) = false from decide_eq_false (by (first | lia | omega))]
              walk_at "go"
              rw [show padTo c b = c by unfold padTo; rw [if_neg hp]] at hS1
              walk_at "hid"
              exact .here (hS1 _ _ _ ⟨rfl, rfl, _, rfl⟩)
          · intro f g' ms' z
            obtain ⟨rfl, rfl, cl', rfl⟩ := z
            walk_at "hid"
            have hlen := padTo_len c b
            have hlen2 := padTo_le c b
            walk_at "go"
            refine w_subPlain (by with_unfolding_all rfl) (w_itemL (.inl (by walk_at "mem")) (Int.natCast_nonneg b) (by (first | lia | omega)) (iVs_get hlen) (.int fun t => ?_))
            walk_at "go"
            refine w_setL (xs := iVs (padTo c b)) (by walk_at "upd") (by simp [iVs]; (first | lia | omega)) (by simp [iVs]; (first | lia | omega)) ?_
            walk_at "go"
            rw [show (iVs (padTo c b)).set b (Value.int ((padTo c b).getD b 0 + 1) 0) = iVs ((padTo c b).set b ((padTo c b).getD b 0 + 1)) by simp [iVs, List.map_set]]
            walk_at "hid"
            exact .here (hS _ _ _ ⟨rfl, _, 0, _, _, _, _, rfl, he, by simp; (first | lia | omega), by (first | lia | omega), by (first | lia | omega)⟩)
        · first | refine if_N (show decide ([l[i]] = [9]) = false by simpa using h9) ?_ | rw [show decide ([l[i]] = [9]) = false by simpa using h9]
          rw [wsRun, if_neg h32, if_neg h9] at he
          walk_at "go"
          walk_at "hid"
          exact .here (hS _ _ _ (hS0 _ _ _ ⟨rfl, rfl, c, b, nn, nt, _, cl, rfl, he, by (first | lia | omega)⟩))
    · intro g₁ ms₁ le hJ
      obtain ⟨rfl, c, b, nn, nt, ch, cl, rfl, he, hcl, hb, hbi⟩ := hJ
      have : (tx l).cps.size = l.length := by simp [tx]
      rw [this, List.drop_length, wsRun] at he
      exact hS0 _ _ _ ⟨rfl, rfl, c, b, nn, nt, ch, cl, rfl, he, by (first | lia | omega)⟩
    · exact ⟨rfl, [], 0, 0, 0, none, _, rfl, rfl, by simp, by (first | lia | omega), Nat.zero_le _⟩
  · intro f g' ms' z
    obtain ⟨rfl, rfl, c, b, nn, nt, ch, cl, rfl, he, hcl⟩ := z
    walk_at "hid"
    walk_at "go"
    refine w_setAttr F.cWs (.inl (by walk_at "mem")) (by walk_at "mem") hne (by walk_at "upd") F.nN (Nat.le_of_ble_eq_true rfl) ?_
    walk_at "go"
    refine w_setAttr F.cWs (.inl (by walk_at "mem")) (by walk_at "mem") hne (by walk_at "upd") F.nNt (Nat.le_of_ble_eq_true rfl) ?_
    walk_at "go"
    refine w_tupleL (.inl (by walk_at "mem")) (by simp [iVs, sizeLine_eq]; (first | lia | omega)) ?_
    walk_at "go"
    refine w_setAttr F.cWs (.inl (by walk_at "mem")) (by walk_at "mem") hne (by walk_at "upd") F.nNorm (Nat.le_of_ble_eq_true rfl) ?_
    walk_at "go"
    refine w_lenL (.inl (by walk_at "mem")) (by simp [iVs]; (first | lia | omega)) ?_
    walk_at "go"
    refine w_setAttr F.cWs (.inl (by walk_at "mem")) (by walk_at "mem") hne (by walk_at "upd") F.nSimple (Nat.le_of_ble_eq_true rfl) ?_
    walk_at "go"
    refine ⟨trivial, .drop (.cons₂ _ (.cons₂ _ (.cons _ (.cons _ (.refl _))))) ?_⟩
    walk_at "hid"
    refine .freeze fun g1 l1 h1 => .freeze fun g2 l2 h2 => .freeze fun g3 l3 h3 => .freeze fun g4 l4 h4 => .here (h x g4 (((l1.trans l2).trans l3).trans l4) ?_)
    rw [← he]
    exact ⟨dx, _, _, _, _, _, _, h3.le l4, h4, h1.le ((l2.trans l3).trans l4), h2.le (l3.trans l4)⟩
end

/-- forests, by first child and next sibling -/
inductive Fo
  | nil
  | cons (s : List Nat) (kids rest : Fo)
namespace Fo
noncomputable def size : Fo → Nat
  | nil => 0
  | cons _ k r => 1 + k.size + r.size
noncomputable def high : Fo → Nat
  | nil => 0
  | cons _ k r => max (k.high + 1) r.high
noncomputable def all (p : List Nat → Prop) : Fo → Prop
  | nil => True
  | cons s k r => p s ∧ k.all p ∧ r.all p
noncomputable def toL : Fo → List (List Nat × Fo)
  | nil => []
  | cons s k r => (s, k) :: r.toL
noncomputable def ofL : List (List Nat × Fo) → Fo
  | [] => nil
  | (s, k) :: r => cons s k (ofL r)
noncomputable def snoc : Fo → List Nat → Fo → Fo
  | nil, s, k => cons s k nil
  | cons a b r, s, k => cons a b (r.snoc s k)
noncomputable def mir : Fo → Fo
  | nil => nil
  | cons s k r => r.mir.snoc s k.mir
theorem toL_snoc : ∀ (f : Fo) (s : List Nat) (k : Fo), (f.snoc s k).toL = f.toL ++ [(s, k)]
  | nil, _, _ => rfl
  | cons a b r, s, k => by simp only [snoc, toL, toL_snoc r, List.cons_append]
theorem size_snoc : ∀ (f : Fo) (s : List Nat) (k : Fo), (f.snoc s k).size = f.size + 1 + k.size
  | nil, _, _ => by simp only [snoc, size]; (first | lia | omega)
  | cons a b r, s, k => by simp only [snoc, size, size_snoc r]; (first | lia | omega)
theorem high_snoc : ∀ (f : Fo) (s : List Nat) (k : Fo), (f.snoc s k).high = max f.high (k.high + 1)
  | nil, _, _ => Nat.max_comm _ _
  | cons a b r, s, k => by simp only [snoc, high, high_snoc r, Nat.max_assoc]
theorem all_snoc (p : List Nat → Prop) : ∀ (f : Fo) (s : List Nat) (k : Fo), (f.snoc s k).all p ↔ f.all p ∧ p s ∧ k.all p
  | nil, _, _ => by simp [snoc, all]
  | cons a b r, s, k => by simp only [snoc, all, all_snoc p r, and_assoc]
theorem toL_mir : ∀ f : Fo, f.mir.toL = (f.toL.map fun p => (p.1, p.2.mir)).reverse
  | nil => rfl
  | cons s k r => by simp only [mir, toL_snoc, toL_mir r, toL, List.map_cons, List.reverse_cons]
theorem size_mir : ∀ f : Fo, f.mir.size = f.size
  | nil => rfl
  | cons s k r => by simp only [mir, size_snoc, size_mir r, size_mir k, size]; (first | lia | omega)
theorem high_mir : ∀ f : Fo, f.mir.high = f.high
  | nil => rfl
  | cons s k r => by simp only [mir, high_snoc, high_mir r, high_mir k, high]; exact Nat.max_comm _ _
theorem all_mir (p : List Nat → Prop) : ∀ f : Fo, f.mir.all p ↔ f.all p
  | nil => Iff.rfl
  | cons s k r => by simp only [mir, all_snoc, all_mir p r, all_mir p k, all]; exact ⟨fun ⟨a, b, c⟩ => ⟨b, c, a⟩, fun ⟨a, b, c⟩ => ⟨c, a, b⟩⟩
theorem toL_inj : ∀ {f f' : Fo}, f.toL = f'.toL → f = f'
  | nil, nil, _ => rfl
  | nil, cons _ _ _, h => by cases h
  | cons _ _ _, nil, h => by cases h
  | cons s k r, cons s' k' r', h => by
    obtain ⟨h1, h2⟩ := List.cons.inj h
    cases h1
    rw [toL_inj h2]
theorem size_mem : ∀ {f : Fo} {p : List Nat × Fo}, p ∈ f.toL → p.2.size < f.size
  | nil, _, h => nomatch h
  | cons s k r, p, h => by
    rcases List.mem_cons.mp h with rfl | h
    · simp only [size]; (first | lia | omega)
    · have := size_mem h
      simp only [size]; (first | lia | omega)
theorem all_mem {q : List Nat → Prop} : ∀ {f : Fo} {p : List Nat × Fo}, p ∈ f.toL → f.all q → q p.1 ∧ p.2.all q
  | nil, _, h, _ => nomatch h
  | cons s k r, p, h, ha => by
    rcases List.mem_cons.mp h with rfl | h
    · exact ⟨ha.1, ha.2.1⟩
    · exact all_mem h ha.2.2
theorem all_mono {q q' : List Nat → Prop} (h : ∀ s, q s → q' s) : ∀ {f : Fo}, f.all q → f.all q'
  | nil, _ => trivial
  | cons s k r, hz => by obtain ⟨a, b, c⟩ := hz; exact ⟨h s a, all_mono h b, all_mono h c⟩
theorem len_le : ∀ f : Fo, f.toL.length ≤ f.size
  | nil => Nat.le_refl _
  | cons s k r => by have := len_le r; simp only [toL, size, List.length_cons]; (first | lia | omega)
end Fo

/-- a forest in the heap -/
noncomputable def FoAt (g : Heap) : Fo → List Value → Prop
  | .nil, vs => vs = []
  | .cons s k r, vs => ∃ a l ks vs', vs = .ref a :: vs' ∧ At g a (lstR [.str (tx s) 0, .ref l]) ∧ At g l (lstR ks) ∧ FoAt g k ks ∧ FoAt g r vs'
noncomputable def TrAt (g : Heap) (a : Addr) (s : List Nat) (k : Fo) : Prop := ∃ l ks, At g a (lstR [.str (tx s) 0, .ref l]) ∧ At g l (lstR ks) ∧ FoAt g k ks
theorem FoAt.le {g g' : Heap} (le : Le g g') : ∀ {f : Fo} {vs : List Value}, FoAt g f vs → FoAt g' f vs
  | .nil, _, h => h
  | .cons _ _ _, _, hz => by obtain ⟨a, l, ks, vs', e, h1, h2, h3, h4⟩ := hz; exact ⟨a, l, ks, vs', e, h1.le le, h2.le le, h3.le le, h4.le le⟩
theorem TrAt.le {g g' : Heap} {a : Addr} {s : List Nat} {k : Fo} (le : Le g g') (h : TrAt g a s k) : TrAt g' a s k :=
  let ⟨l, ks, h1, h2, h3⟩ := h; ⟨l, ks, h1.le le, h2.le le, h3.le le⟩
theorem FoAt.length {g : Heap} : ∀ {f : Fo} {vs : List Value}, FoAt g f vs → vs.length = f.toL.length
  | .nil, _, h => by rw [show _ = [] from h]; rfl
  | .cons _ _ _, _, hz => by obtain ⟨a, l, ks, vs', e, h1, h2, h3, h4⟩ := hz; rw [e]; simp only [Fo.toL, List.length_cons, h4.length]
theorem FoAt.get {g : Heap} : ∀ {f : Fo} {vs : List Value}, FoAt g f vs → ∀ {i : Nat} {p : List Nat × Fo}, f.toL[i]? = some p → ∃ a, vs[i]? = some (.ref a) ∧ TrAt g a p.1 p.2
  | .nil, _, _, i, p, e => by simp [Fo.toL] at e
  | .cons _ _ _, _, hz, i, p, ep => by
    obtain ⟨a, l, ks, vs', e, h1, h2, h3, h4⟩ := hz
    subst e
    cases i with
    | zero => simp only [Fo.toL, List.getElem?_cons_zero] at ep; cases ep; exact ⟨a, rfl, l, ks, h1, h2, h3⟩
    | succ i => simp only [Fo.toL, List.getElem?_cons_succ] at ep ⊢; exact h4.get ep
theorem FoAt.snoc {g : Heap} : ∀ {f : Fo} {vs : List Value} {a : Addr} {s : List Nat} {k : Fo}, FoAt g f vs → TrAt g a s k → FoAt g (f.snoc s k) (vs ++ [.ref a])
  | .nil, _, a, s, k, h, hz => by obtain ⟨l, ks, h1, h2, h3⟩ := hz; rw [show _ = [] from h]; exact ⟨a, l, ks, [], rfl, h1, h2, h3, rfl⟩
  | .cons _ _ _, _, a, s, k, hz, t => by obtain ⟨b, l, ks, vs', e, h1, h2, h3, h4⟩ := hz; rw [e]; exact ⟨b, l, ks, _, rfl, h1, h2, h3, h4.snoc t⟩

theorem sum_le {B : Int} : ∀ {l : List Int}, (∀ i ∈ l, 0 ≤ i ∧ i ≤ B) → 0 ≤ l.sum ∧ l.sum ≤ B * l.length
  | [], _ => by simp
  | i :: l, h => by
    have h1 := h i (.head _)
    have h2 := sum_le fun j hj => h j (.tail _ hj)
    rw [List.sum_cons, List.length_cons]
    have : B * ((l.length + 1 : Nat) : Int) = B * l.length + B := by rw [Int.natCast_succ, Int.mul_add, Int.mul_one]
    (first | lia | omega)
/-- a forest as the law writes it -/
noncomputable abbrev dbl (l : List Nat) : List Nat := StrLaws.dbl 34 l
noncomputable def wrF : Fo → List Nat
  | .nil => []
  | .cons s k r => s ++ 34 :: (dbl (wrF k) ++ 34 :: wrF r)
theorem dbl_len : ∀ l : List Nat, (dbl l).length ≤ 2 * l.length
  | [] => Nat.le_refl _
  | c :: r => by
    have := dbl_len r
    unfold dbl StrLaws.dbl
    unfold dbl at this
    split <;> simp only [List.length_cons] <;> (first | lia | omega)
/-- how long a writing can be -/
theorem wrF_len : ∀ f : Fo, f.all (fun s => s.length ≤ 3) → (wrF f).length ≤ 5 * f.size * 2 ^ f.size
  | .nil, _ => by simp [wrF]
  | .cons s k r, h => by
    obtain ⟨h1, h2, h3⟩ := h
    have a := wrF_len k h2
    have b := wrF_len r h3
    have c := dbl_len (wrF k)
    simp only [wrF, Fo.size, List.length_append, List.length_cons]
    have e1 : 2 ^ (1 + k.size + r.size) = 2 * 2 ^ (k.size + r.size) := by rw [show 1 + k.size + r.size = (k.size + r.size) + 1 by (first | lia | omega), Nat.pow_succ]; (first | lia | omega)
    have e2 : 2 ^ k.size ≤ 2 ^ (k.size + r.size) := Nat.pow_le_pow_right (by decide) (by (first | lia | omega))
    have e3 : 2 ^ r.size ≤ 2 ^ (k.size + r.size) := Nat.pow_le_pow_right (by decide) (by (first | lia | omega))
    have e4 : 1 ≤ 2 ^ (k.size + r.size) := Nat.one_le_two_pow
    generalize 2 ^ (k.size + r.size) = X at *
    have f1 : 5 * k.size * 2 ^ k.size ≤ 5 * k.size * X := Nat.mul_le_mul_left _ e2
    have f2 : 5 * r.size * 2 ^ r.size ≤ 5 * r.size * X := Nat.mul_le_mul_left _ e3
    rw [e1]
    have : 5 * (1 + k.size + r.size) * (2 * X) = 10 * X + 2 * (5 * k.size * X) + 2 * (5 * r.size * X) := by
      rw [Nat.mul_add, Nat.mul_add, Nat.add_mul, Nat.add_mul, Nat.mul_left_comm (5 * k.size), Nat.mul_left_comm (5 * r.size)]; (first | lia | omega)
    (first | lia | omega)
theorem wrF_flat : ∀ f : Fo, wrF f = (f.toL.map fun p => wrF (.cons p.1 p.2 .nil)).flatten
  | .nil => rfl
  | .cons s k r => by
    rw [Fo.toL, List.map_cons, List.flatten_cons, ← wrF_flat r]
    simp [wrF]
theorem join_none (ls : List (List Nat)) : Txt.join (tx []) (ls.map tx) = tx ls.flatten := by
  show Str.glued (tx []) (ls.map tx) = _
  rw [StrLaws.glued_eq_join]
  induction ls with
  | nil => rfl
  | cons x r ih =>
    cases r with
    | nil => simp [Str.join]
    | cons y r' =>
      have e : Str.join (tx []) (List.map tx (x :: y :: r')) = tx x ++ tx [] ++ Str.join (tx []) (List.map tx (y :: r')) := rfl
      rw [e, ih, tx_append, tx_append]; simp
theorem repl_q (l : List Nat) : Txt.replace (tx l) (tx [34]) (tx [34, 34]) = tx (dbl l) := replace_dbl _ _ _ 34 rfl rfl

section
variable {P : Setup} {n : Nat} {g : Heap} {ms : Ms} {env : Env} {a b : Int} {t u : Tok} {Q : Value → Heap → Ms → Prop} {l : List Nat} {f : Addr} (F : Facts P)
include F
theorem c_numbers {sc : Addr} {xs : List Int} (hs : At g sc (lisR (iVs xs))) (hn : xs.length ≤ 100) (h : ∀ r g' (ns : List Int), Le g g' → At g' r (lstR (iVs ns)) → ns.length = 6 → (∀ i ∈ ns, 0 ≤ i ∧ i ≤ 100000000) → Q (.ref r) g' ms) : W P (n + 1) g ms (call (.ref F.aNum) [.ref sc]) Q := by
  refine w_fn F.fNum (xs := ["script"]) (vs := [some (.ref sc), none, none, none, none]) (by decide +kernel) rfl rfl fun env L hE => W.ease ?_
  conv in (df _ _).body => whnf
  walk_at "gs"
  rename_i nl
  refine W.mono (Q := fun f g' ms' => f = .next ∧ Le g g' ∧ ∃ (ns : List Int) (p x : Option Value), ms' = (nl, lstR (iVs ns)) :: (L, frR (df "_law_numbers" 63).scope [some (.ref sc), some (.ref nl), p, x, none]) :: ms ∧ ns.length = 6 ∧ ∀ i ∈ ns, 0 ≤ i ∧ i ≤ 100000000) (w_For ?_) ?_
  · walk_at "go"
    refine w_notPyLis hs ?_
    walk_at "go"
    refine w_subCut (w_cutToLis (j := 60) (by walk_at "mem") hs (by simp [iVs, sizeLine_eq]; (first | lia | omega)) ?_)
    intro cut
    refine W.freeze fun g1 l1 hcut => ?_
    rw [show (iVs xs).take 60 = iVs (xs.take 60) by simp [iVs, List.map_take]] at hcut
    walk_at "go"
    refine w_callEnum (.inr hcut) ?_
    intro e it
    refine w_iterEnum ?_ (by walk_at "mem")
    refine WC.mono (Q := fun f g' ms' => f = .next ∧ Le g1 g' ∧ ∃ (ns : List Int) (p x : Option Value), ms' = (nl, lstR (iVs ns)) :: (L, frR (df "_law_numbers" 63).scope [some (.ref sc), some (.ref nl), p, x, none]) :: ms ∧ ns.length = 6 ∧ ∀ i ∈ ns, 0 ≤ i ∧ i ≤ 100000000) ?_ (fun f g' ms' z => ⟨z.1, l1.trans z.2.1, z.2.2⟩)
    refine WC.drop (.cons₂ _ (.cons₂ _ (.cons _ (.refl _)))) ?_
    refine wc_forEnum (J := fun i g' ms' => Le g1 g' ∧ ∃ (ns : List Int) (p x : Option Value), ms' = (nl, lstR (iVs ns)) :: (L, frR (df "_law_numbers" 63).scope [some (.ref sc), some (.ref nl), p, x, none]) :: ms ∧ ns.length = 6 ∧ ∀ z ∈ ns, 0 ≤ z ∧ z ≤ 28 + 1000000 * (i : Int)) hcut ?_ ?_ ?_
    · intro i tp g₁ ms₁ hi le hJ
      obtain ⟨lj, ns, p, x, rfl, hlen, hns⟩ := hJ
      have hi' : i < xs.length := by simp [iVs] at hi; (first | lia | omega)
      have hi60 : i < 60 := by simp [iVs] at hi; (first | lia | omega)
      have hit : (iVs (xs.take 60)).getD i .none = .int (xs.getD i 0) 0 := by simp [iVs, List.getD_eq_getElem?_getD, hi', hi60]
      rw [hit]
      refine w_unpack2 (.inl (by walk_at "mem")) (.int fun t => .int fun t => ?_)
      walk_at "gs"
      refine W.drop (.cons _ (.refl _)) ?_
      walk_at "go"
      refine w_modI (by decide) ?_
      rw [show ((i : Int).fmod 6) = ((i % 6 : Nat) : Int) by rw [Int.fmod_eq_emod_of_nonneg _ (by (first | lia | omega))]; (first | lia | omega)]
      walk_at "go"
      have hmod : i % 6 < ns.length := by rw [hlen]; exact Nat.mod_lt _ (by decide)
      refine w_itemL (by walk_at "has") (Int.natCast_nonneg _) (by (first | lia | omega)) (iVs_get hmod) (.int fun t => ?_)
      walk_at "go"
      refine w_powI (by decide) (by decide) (by decide) (by decide) ?_
      walk_at "go"
      refine w_modI (by decide) ?_
      walk_at "go"
      refine w_setL (xs := iVs ns) (by walk_at "upd") (by simpa [iVs] using hmod) (by simp [iVs]; (first | lia | omega)) ?_
      walk_at "go"
      rw [show (iVs ns).set (i % 6) (Value.int (ns.getD (i % 6) 0 + (xs.getD i 0).fmod (10 ^ (6 : Int).toNat)) 0) = iVs (ns.set (i % 6) (ns.getD (i % 6) 0 + (xs.getD i 0).fmod 1000000)) by simp [iVs, List.map_set]]
      refine ⟨lj, _, _, _, rfl, by simpa using hlen, fun z hz => ?_⟩
      rcases List.mem_or_eq_of_mem_set hz with hz | rfl
      · have := hns z hz
        (first | lia | omega)
      · have h1 : ns.getD (i % 6) 0 ∈ ns := by
          rw [List.getD_eq_getElem?_getD, List.getElem?_eq_getElem hmod]; exact List.getElem_mem hmod
        have h2 := hns _ h1
        have h3 : (xs.getD i 0).fmod 1000000 = (xs.getD i 0) % 1000000 := Int.fmod_eq_emod_of_nonneg _ (by decide)
        rw [h3]
        have := Int.emod_nonneg (xs.getD i 0) (b := 1000000) (by decide)
        have := Int.emod_lt_of_pos (xs.getD i 0) (b := 1000000) (by decide)
        (first | lia | omega)
    · intro g₁ ms₁ le hJ
      obtain ⟨lj, ns, p, x, rfl, hlen, hns⟩ := hJ
      refine ⟨rfl, lj, ns, p, x, rfl, hlen, fun z hz => ?_⟩
      have h1 := hns z hz
      have h2 : (iVs (xs.take 60)).length ≤ 60 := by simp [iVs]; (first | lia | omega)
      (first | lia | omega)
    · exact ⟨.refl _, [28, 3, 7, 3, 9, 4], none, none, rfl, rfl, by decide⟩
  · intro f g' ms' z
    obtain ⟨rfl, le, ns, p, x, rfl, hlen, hns⟩ := z
    walk_at "hid"
    walk_at "go"
    walk_at "hid"
    exact .freeze fun g2 l2 h2 => .drop (.cons _ (.refl _)) (.here (h nl g2 ns (le.trans l2) h2 hlen hns))

theorem c_mirrored' : ∀ (m : Nat) (k : Fo), k.size < m → k.size ≤ 100 → ∀ {n : Nat} {g : Heap} {ms : Ms} {Q : Value → Heap → Ms → Prop} {s : List Nat} {a : Addr}, TrAt g a s k → (∀ b g', Le g g' → TrAt g' b s k.mir → Q (.ref b) g' ms) → W P (n + k.size + 1) g ms (call (.ref F.aMir) [.ref a]) Q := by
  intro m
  induction m with
  | zero => intro k hk; (first | lia | omega)
  | succ m ih =>
    intro k hk h100 n g ms Q s a ht h
    obtain ⟨kl, ks, h1, h2, h3⟩ := ht
    have hlen := h3.length
    have hz : ks.length ≤ sizeLine := by
      have := k.len_le
      rw [sizeLine_eq]; (first | lia | omega)
    refine w_fn F.fMir (xs := ["tree"]) (vs := [some (.ref a)]) (by decide +kernel) rfl rfl fun env L hE => W.ease ?_
    conv in (df _ _).body => whnf
    walk_at "go"
    refine w_subPlain (by with_unfolding_all rfl) (w_itemL (by walk_at "has") (by decide) (by decide) rfl (.str fun t => ?_))
    walk_at "go"
    refine w_ListComp (ix := 1) hE rfl (by decide +kernel) ?_
    walk_at "go"
    refine w_subPlain (by with_unfolding_all rfl) (w_itemL (by walk_at "has") (by decide) (by decide) rfl (.ref ?_))
    walk_at "go"
    refine w_subCut3 rfl (w_revL (by walk_at "mem") (by walk_at "has") hz ?_)
    intro rl
    refine W.freeze fun g1 l1 hr => ?_
    walk_at "go"
    refine W.drop (.cons _ (.refl _)) ?_
    refine w_iterList hr fun I It => ?_
    refine ⟨I, _, _, _, _, fun i accs g' ms' => Le g1 g' ∧ ms' = (L, frR (df "_law_mirrored" 65).scope [some (.ref a)]) :: ms ∧ ∃ f', FoAt g' f' accs ∧ f'.toL = (k.mir.toL.take i), rfl, rfl, It, by simpa using hz, ?_, ?_, ?_⟩
    · exact ⟨.refl _, rfl, .nil, rfl, by simp [Fo.toL]⟩
    · rintro i v accs cenv C g₁ ms₁ hC hi le hv ⟨le1, rfl, f', hf', hfe⟩
      have hi' : i < ks.length := by simpa using hi
      obtain ⟨p, hp⟩ : ∃ p, k.toL[ks.length - 1 - i]? = some p := ⟨_, List.getElem?_eq_getElem (by (first | lia | omega))⟩
      obtain ⟨b, hb, hbt⟩ := h3.get hp
      have hit : ks.reverse.getD i .none = .ref b := by
        rw [List.getD_eq_getElem?_getD, List.getElem?_reverse hi', hb]; rfl
      rw [hit] at hv ⊢
      have hv := er_ref hv
      subst hv
      refine w_testsNil ?_
      rw [if_pos rfl]
      refine W.ease ?_
      walk_at "go"
      have hps := Fo.size_mem (List.mem_of_getElem? hp)
      first | refine W.nEq (show n + k.size = (n + k.size - p.2.size - 1) + p.2.size + 1 by (first | lia | omega)) ?_ | rw [show n + k.size = (n + k.size - p.2.size - 1) + p.2.size + 1 by (first | lia | omega)]
      refine ih p.2 (by (first | lia | omega)) (by (first | lia | omega)) (hbt.le (l1.trans le)) fun c g' lc hc => ?_
      walk_at "hid"
      refine .here ⟨_, .refl _, le1.trans lc, rfl, f'.snoc p.1 p.2.mir, (hf'.le lc).snoc hc, ?_⟩
      rw [Fo.toL_snoc, hfe, List.take_add_one, Fo.toL_mir, List.getElem?_reverse (by simp; (first | lia | omega))]
      simp [hlen] at hp ⊢
      rw [hp]; rfl
    · rintro accs D g₁ ms₁ le hl ⟨le1, rfl, f', hf', hfe⟩
      have he : f' = k.mir := Fo.toL_inj (by rw [hfe, List.take_of_length_le]; simp [Fo.toL_mir, hlen])
      subst he
      walk_at "go"
      walk_at "hid"
      exact .drop (.cons₂ _ (.cons₂ _ (.cons _ (.refl _)))) (.freeze fun g2 l2 x2 => .freeze fun g3 l3 x3 => .here (h _ g3 (((l1.trans le).trans l2).trans l3) ⟨D, accs, x2.le l3, x3, hf'.le (l2.trans l3)⟩))
theorem c_mirrored {k : Fo} (hk : k.size ≤ 100) {n : Nat} {g : Heap} {ms : Ms} {Q : Value → Heap → Ms → Prop} {s : List Nat} {a : Addr} (ht : TrAt g a s k) (h : ∀ b g', Le g g' → TrAt g' b s k.mir → Q (.ref b) g' ms) : W P (n + k.size + 1) g ms (call (.ref F.aMir) [.ref a]) Q :=
  c_mirrored' F _ k (Nat.lt_succ_self _) hk ht h

theorem c_written' : ∀ (m : Nat) (k : Fo), k.size < m → k.size ≤ 7 → k.all (fun s => s.length ≤ 3) → ∀ {n : Nat} {g : Heap} {ms : Ms} {Q : Value → Heap → Ms → Prop} {s : List Nat} {a : Addr}, s.length ≤ 3 → TrAt g a s k → (∀ t, Q (.str (tx (wrF (.cons s k .nil))) t) g ms) → W P (n + k.size + 1) g ms (call (.ref F.aWr) [.ref a]) Q := by
  intro m
  induction m with
  | zero => intro k hk; (first | lia | omega)
  | succ m ih =>
    intro k hk h7 hall n g ms Q s a hs ht h
    obtain ⟨kl, ks, h1, h2, h3⟩ := ht
    have hlen := h3.length
    have hle := k.len_le
    have hz : ks.length ≤ sizeLine := by
      rw [sizeLine_eq]; (first | lia | omega)
    have hwl : (wrF k).length ≤ 4480 := by
      refine Nat.le_trans (wrF_len k hall) ?_
      calc 5 * k.size * 2 ^ k.size ≤ 5 * 7 * 2 ^ k.size := Nat.mul_le_mul_right _ (by (first | lia | omega))
        _ ≤ 5 * 7 * 2 ^ 7 := Nat.mul_le_mul_left _ (Nat.pow_le_pow_right (by decide) h7)
    refine w_fn F.fWr (xs := ["tree"]) (vs := [some (.ref a), none]) (by decide +kernel) rfl rfl fun env L hE => W.ease ?_
    conv in (df _ _).body => whnf
    have q1 : Str.ofString "\"" = tx [34] := by decide +kernel
    have q2 : Str.ofString "\"\"" = tx [34, 34] := by decide +kernel
    have q0 : Str.ofString "" = tx [] := by decide +kernel
    rw [q0, q1, q2]
    walk_at "go"
    refine w_CallMethod (by rfl) (by rfl) (by rfl) ?_
    walk_at "go"
    refine w_ListComp (ix := 1) hE rfl (by decide +kernel) ?_
    walk_at "go"
    refine w_subPlain (by with_unfolding_all rfl) (w_itemL (by walk_at "has") (by decide) (by decide) rfl (.ref ?_))
    refine w_iterList h2 fun I It => ?_
    refine ⟨I, _, _, _, _, fun i accs g' ms' => g' = g ∧ ms' = (L, frR (df "_law_written" 66).scope [some (.ref a), none]) :: ms ∧ accs = sVs ((k.toL.take i).map fun p => tx (wrF (.cons p.1 p.2 .nil))), rfl, rfl, It, by simpa using hz, ?_, ?_, ?_⟩
    · exact ⟨rfl, rfl, rfl⟩
    · rintro i v accs cenv C g₁ ms₁ hC hi le hv ⟨rfl, rfl, rfl⟩
      obtain ⟨p, hp⟩ : ∃ p, k.toL[i]? = some p := ⟨_, List.getElem?_eq_getElem (by (first | lia | omega))⟩
      obtain ⟨b, hb, hbt⟩ := h3.get hp
      have hit : ks.getD i .none = .ref b := by
        rw [List.getD_eq_getElem?_getD, hb]; rfl
      rw [hit] at hv ⊢
      have hv := er_ref hv
      subst hv
      refine w_testsNil ?_
      rw [if_pos rfl]
      refine W.ease ?_
      walk_at "go"
      have hps := Fo.size_mem (List.mem_of_getElem? hp)
      first | refine W.nEq (show n + k.size = (n + k.size - p.2.size - 1) + p.2.size + 1 by (first | lia | omega)) ?_ | rw [show n + k.size = (n + k.size - p.2.size - 1) + p.2.size + 1 by (first | lia | omega)]
      have hpa := Fo.all_mem (List.mem_of_getElem? hp) hall
      refine ih p.2 (by (first | lia | omega)) (by (first | lia | omega)) hpa.2 hpa.1 hbt fun t => ?_
      walk_at "hid"
      refine .here ⟨_, .refl _, rfl, rfl, ?_⟩
      rw [List.take_add_one, hp]
      simp [sVs, er]
    · rintro accs D g₁ ms₁ le hl ⟨rfl, rfl, rfl⟩
      have he : (k.toL.take ks.length).map (fun p => tx (wrF (.cons p.1 p.2 .nil))) = (k.toL.map fun p => wrF (.cons p.1 p.2 .nil)).map tx := by
        rw [List.take_of_length_le (by (first | lia | omega)), List.map_map]; rfl
      rw [he]
      walk_at "go"
      have hsum : ∀ ls : List (List Nat), ((ls.map tx).map (·.length)).sum = ls.flatten.length := by
        intro ls
        rw [List.length_flatten, List.map_map]
        exact congrArg List.sum (List.map_congr_left fun x _ => tx_len x)
      refine w_join (by walk_at "has") (by rw [hsum, ← wrF_flat, tx_len]; simp; (first | lia | omega)) ?_
      rw [join_none, ← wrF_flat]
      intro t
      walk_at "st"
      walk_at "hid"
      refine w_cons (w_Return (w_BinOp (w_BinOp_lit ?_)))
      walk_at "go"
      refine w_subPlain (by with_unfolding_all rfl) (w_itemL (by walk_at "has") (by decide) (by decide) rfl (.str fun t => ?_))
      intro t'
      refine w_addX (by simp; (first | lia | omega)) ?_
      intro t''
      refine w1_replace (x := tx (wrF k)) (by rfl) (by rfl) ?_ (by decide +kernel)
      walk_at "go"
      refine ⟨_, rfl, by simp only [tx_len]; simp; (first | lia | omega), ?_⟩
      rw [repl_q]
      have hdl := dbl_len (wrF k)
      walk_at "go"
      refine w_addX (by simp; (first | lia | omega)) ?_
      walk_at "go"
      refine w_addX (by simp; (first | lia | omega)) ?_
      rw [show s ++ [34] ++ dbl (wrF k) ++ [34] = wrF (.cons s k .nil) by simp [wrF]]
      intro t3
      walk_at "hid"
      exact .drop (.cons _ (.cons _ (.refl _))) (.here (h _))
theorem c_written {k : Fo} (hk : k.size ≤ 7) (hall : k.all (fun s => s.length ≤ 3)) {n : Nat} {g : Heap} {ms : Ms} {Q : Value → Heap → Ms → Prop} {s : List Nat} {a : Addr} (hs : s.length ≤ 3) (ht : TrAt g a s k) (h : ∀ t, Q (.str (tx (wrF (.cons s k .nil))) t) g ms) : W P (n + k.size + 1) g ms (call (.ref F.aWr) [.ref a]) Q :=
  c_written' F _ k (Nat.lt_succ_self _) hk hall hs ht h
end

/-- a node of the open path: itself, its list of children, its sign, the children that are closed -/
structure Lay where
  p : Addr
  l : Addr
  s : List Nat
  ks : List Value
  f : Fo
noncomputable def layMs : List Value → List Lay → Ms
  | _, [] => []
  | ch, y :: up => (y.l, lstR (y.ks ++ ch)) :: layMs [.ref y.p] up
noncomputable def layOk (g : Heap) (two : List (List Nat)) (y : Lay) : Prop := At g y.p (lstR [.str (tx y.s) 0, .ref y.l]) ∧ FoAt g y.f y.ks ∧ y.s ∈ two ∧ y.f.all (· ∈ two)
theorem layOk.le {g g' : Heap} {two : List (List Nat)} {y : Lay} (le : Le g g') (h : layOk g two y) : layOk g' two y := ⟨h.1.le le, h.2.1.le le, h.2.2⟩
noncomputable def hOk : List Lay → Prop
  | [] => True
  | y :: up => y.f.high + up.length ≤ 3 ∧ hOk up
noncomputable def laySize : List Lay → Nat
  | [] => 0
  | y :: up => y.f.size + 1 + laySize up
/-- the last node of the path is closed -/
noncomputable def shut (y z : Lay) : Lay := { z with ks := z.ks ++ [.ref y.p], f := z.f.snoc y.s y.f }
noncomputable def shutN : Nat → List Lay → List Lay
  | 0, l => l
  | n + 1, y :: z :: up => shutN n (shut y z :: up)
  | _ + 1, l => l
structure LaysOk (g : Heap) (two : List (List Nat)) (root : Addr) (m : Nat) (lays : List Lay) : Prop where
  ok : ∀ y ∈ lays, layOk g two y
  high : hOk lays
  size : laySize lays = m
  root : lays.getLast?.map (·.p) = some root
theorem LaysOk.le {g g' : Heap} {two : List (List Nat)} {root : Addr} {m : Nat} {lays : List Lay} (le : Le g g') (h : LaysOk g two root m lays) : LaysOk g' two root m lays :=
  ⟨fun y hy => (h.ok y hy).le le, h.high, h.size, h.root⟩
theorem LaysOk.shut {g : Heap} {two : List (List Nat)} {root : Addr} {m : Nat} {y z : Lay} {up : List Lay} (h : LaysOk g two root m (y :: z :: up)) (hl : At g y.l (lstR y.ks)) : LaysOk g two root m (shut y z :: up) := by
  have hy := h.ok y (.head _)
  have hz := h.ok z (.tail _ (.head _))
  refine ⟨fun x hx => ?_, ?_, ?_, ?_⟩
  · rcases List.mem_cons.mp hx with rfl | hx
    · exact ⟨hz.1, hz.2.1.snoc ⟨y.l, y.ks, hy.1, hl, hy.2.1⟩, hz.2.2.1, (Fo.all_snoc _ _ _ _).mpr ⟨hz.2.2.2, hy.2.2.1, hy.2.2.2⟩⟩
    · exact h.ok x (.tail _ (.tail _ hx))
  · obtain ⟨a, b, c⟩ := h.high
    refine ⟨?_, c⟩
    show (z.f.snoc y.s y.f).high + up.length ≤ 3
    rw [Fo.high_snoc]
    simp only [List.length_cons] at a
    (first | lia | omega)
  · have := h.size
    simp only [laySize] at this ⊢
    show (z.f.snoc y.s y.f).size + 1 + laySize up = m
    rw [Fo.size_snoc]; (first | lia | omega)
  · have := h.root
    cases up with
    | nil => exact this
    | cons w up => simpa using this
theorem shutN_ps : ∀ (k : Nat) (lays : List Lay), k < lays.length → (shutN k lays).map (·.p) = (lays.map (·.p)).drop k
  | 0, _, _ => rfl
  | k + 1, [], h => by cases h
  | k + 1, [_], h => by simp at h
  | k + 1, y :: z :: up, h => by
    show (shutN k (shut y z :: up)).map (·.p) = _
    rw [shutN_ps k _ (by simp at h ⊢; (first | lia | omega))]
    rfl

theorem shutN_one {lays : List Lay} (h : 0 < lays.length) : ∃ z, shutN (lays.length - 1) lays = [z] := by
  have := congrArg List.length (shutN_ps (lays.length - 1) lays (by (first | lia | omega)))
  rw [List.length_map, List.length_drop, List.length_map] at this
  exact List.length_eq_one_iff.mp (by (first | lia | omega))
section
variable {P : Setup} {n : Nat} {g : Heap} {ms : Ms} {env : Env} {a b : Int} {t u : Tok} {l : List Nat} {f : Addr}
theorem W.freezeMid {α : Type} {pre : Ms} {a : Addr} {r : Rs} {t : Sem α} {Q : α → Heap → Ms → Prop} (h : ∀ g', Le g g' → At g' a r → W P n g' (pre ++ ms) t Q) : W P n g (pre ++ (a, r) :: ms) t Q :=
  W.perm List.perm_middle (W.freeze h)
theorem Ease.freezeMid {pre : Ms} {a : Addr} {r : Rs} {C : Heap → Ms → Prop} (h : ∀ g', Le g g' → At g' a r → Ease P g' (pre ++ ms) C) : Ease P g (pre ++ (a, r) :: ms) C :=
  Ease.perm List.perm_middle (Ease.freeze h)
theorem W.shutN {α : Type} {two : List (List Nat)} {root : Addr} {m : Nat} {t : Sem α} {Q : α → Heap → Ms → Prop} {pre : Ms} : ∀ (k : Nat) {g : Heap} {lays : List Lay}, k < lays.length → LaysOk g two root m lays →
    (∀ g', Le g g' → LaysOk g' two root m (shutN k lays) → W P n g' (pre ++ (layMs [] (shutN k lays) ++ ms)) t Q) → W P n g (pre ++ (layMs [] lays ++ ms)) t Q
  | 0, g, lays, _, ok, h => h g (.refl _) ok
  | k + 1, g, [], hk, _, _ => by cases hk
  | k + 1, g, [_], hk, _, _ => by simp at hk
  | k + 1, g, y :: z :: up, hk, ok, h => by
    refine W.freezeMid (a := y.l) (r := lstR (y.ks ++ [])) fun g' le hl => ?_
    rw [List.append_nil] at hl
    have e : layMs [.ref y.p] (z :: up) = layMs [] (shut y z :: up) := by simp only [layMs, Mine.shut, List.append_nil]
    show W P n g' (pre ++ (layMs [.ref y.p] (z :: up) ++ ms)) t Q
    rw [e]
    exact W.shutN k (by simp at hk ⊢; (first | lia | omega)) ((ok.le le).shut hl) fun g'' le' ok' => h g'' (le.trans le') ok'
theorem Ease.shutN {two : List (List Nat)} {root : Addr} {m : Nat} {C : Heap → Ms → Prop} {pre : Ms} : ∀ (k : Nat) {g : Heap} {lays : List Lay}, k < lays.length → LaysOk g two root m lays →
    (∀ g', Le g g' → LaysOk g' two root m (shutN k lays) → Ease P g' (pre ++ (layMs [] (shutN k lays) ++ ms)) C) → Ease P g (pre ++ (layMs [] lays ++ ms)) C
  | 0, g, lays, _, ok, h => h g (.refl _) ok
  | k + 1, g, [], hk, _, _ => by cases hk
  | k + 1, g, [_], hk, _, _ => by simp at hk
  | k + 1, g, y :: z :: up, hk, ok, h => by
    walk_at "hid"
    refine Ease.freezeMid (a := y.l) (r := lstR (y.ks ++ [])) fun g' le hl => ?_
    rw [List.append_nil] at hl
    have e : layMs [.ref y.p] (z :: up) = layMs [] (shut y z :: up) := by simp only [layMs, Mine.shut, List.append_nil]
    show Ease P g' (pre ++ (layMs [.ref y.p] (z :: up) ++ ms)) C
    rw [e]
    walk_at "hid"
    exact Ease.shutN k (by simp at hk ⊢; (first | lia | omega)) ((ok.le le).shut hl) fun g'' le' ok' => h g'' (le.trans le') ok'
end
theorem pylong6 (a : Int) : divisionGoesByPylong a 6 = false := by
  unfold divisionGoesByPylong
  dsimp only
  rw [Bool.and_eq_false_iff]
  left
  decide +kernel
noncomputable def twoOf (k : Nat) : List (List Nat) := [signs.getD (2 * k) [], signs.getD (2 * k + 1) []]

theorem pick_pair {g : Heap} {a1 a2 a3 a4 a5 a6 : Addr} (z1 : At g a1 (lstR [.str (tx [42]) 0, .str (tx [42, 42]) 0])) (z2 : At g a2 (lstR [.str (tx [46]) 0, .str (tx [46, 46, 46]) 0])) (z3 : At g a3 (lstR [.str (tx [61]) 0, .str (tx [61, 61]) 0]))
    (z4 : At g a4 (lstR [.str (tx [45]) 0, .str (tx [45, 62]) 0])) (z5 : At g a5 (lstR [.str (tx [60]) 0, .str (tx [60, 60, 61]) 0])) (z6 : At g a6 (lstR [.str (tx [33]) 0, .str (tx [33, 61]) 0])) :
    ∀ k, k < 6 → ∃ pk s0 s1, [Value.ref a1, .ref a2, .ref a3, .ref a4, .ref a5, .ref a6][k]? = some (Value.ref pk) ∧ At g pk (lstR [.str (tx s0) 0, .str (tx s1) 0]) ∧ twoOf k = [s0, s1]
  | 0, _ => ⟨_, _, _, rfl, z1, rfl⟩
  | 1, _ => ⟨_, _, _, rfl, z2, rfl⟩
  | 2, _ => ⟨_, _, _, rfl, z3, rfl⟩
  | 3, _ => ⟨_, _, _, rfl, z4, rfl⟩
  | 4, _ => ⟨_, _, _, rfl, z5, rfl⟩
  | 5, _ => ⟨_, _, _, rfl, z6, rfl⟩
  | n + 6, h => absurd h (by (first | lia | omega))
section
variable {P : Setup} {n : Nat} {g : Heap} {ms : Ms} {env : Env} {a b : Int} {t u : Tok} {Q : Value → Heap → Ms → Prop} {l : List Nat} {f : Addr} (F : Facts P)
include F
theorem c_tree {num : Addr} {ns : List Int} {turn : Nat} (hs : At g num (lstR (iVs ns))) (hlen : ns.length = 6) (hns : ∀ i ∈ ns, 0 ≤ i ∧ i ≤ 100000000) (ht : turn ≤ 6)
    (h : ∀ r g' k s f, Le g g' → k < 6 → TrAt g' r s f → s ∈ twoOf k → f.all (· ∈ twoOf k) → f.size = 6 → f.high ≤ 3 → Q (.ref r) g' ms) : W P (n + 1) g ms (call (.ref F.aTree) [.ref num, .int turn t]) Q := by
  refine w_fnC F.fTree (xs := ["numbers", "turn"]) (vs := [some (.ref num), some (.int turn 0), none, none, none, none, none, none, none, none, none, none, none]) (cs := fun L => [("pair", L + 1)]) (mcs := fun L => [(L + 1, celR none)]) (by decide +kernel) rfl rfl (fun L => rfl) (fun L => rfl) fun env L hE => W.ease ?_
  conv in (df _ _).body => whnf
  have q1 : Str.ofString "*" = tx [42] := by decide +kernel
  have q2 : Str.ofString "**" = tx [42, 42] := by decide +kernel
  have q3 : Str.ofString "." = tx [46] := by decide +kernel
  have q4 : Str.ofString "..." = tx [46, 46, 46] := by decide +kernel
  have q5 : Str.ofString "=" = tx [61] := by decide +kernel
  have q6 : Str.ofString "==" = tx [61, 61] := by decide +kernel
  have q7 : Str.ofString "-" = tx [45] := by decide +kernel
  have q8 : Str.ofString "->" = tx [45, 62] := by decide +kernel
  have q9 : Str.ofString "<" = tx [60] := by decide +kernel
  have q10 : Str.ofString "<<=" = tx [60, 60, 61] := by decide +kernel
  have q11 : Str.ofString "!" = tx [33] := by decide +kernel
  have q12 : Str.ofString "!=" = tx [33, 61] := by decide +kernel
  rw [q1, q2, q3, q4, q5, q6, q7, q8, q9, q10, q11, q12]
  walk_at "go"
  refine W.freeze fun g1 l1 z0 => W.freeze fun g2 l2 z6 => W.freeze fun g3 l3 z5 => W.freeze fun g4 l4 z4 => W.freeze fun g5 l5 z3 => W.freeze fun g6 l6 z2 => W.freeze fun g7 l7 z1 => ?_
  have y0 := z0.le (l2.trans (l3.trans (l4.trans (l5.trans (l6.trans l7)))))
  have y6 := z6.le (l3.trans (l4.trans (l5.trans (l6.trans l7))))
  have y5 := z5.le (l4.trans (l5.trans (l6.trans l7)))
  have y4 := z4.le (l5.trans (l6.trans l7))
  have y3 := z3.le (l6.trans l7)
  have y2 := z2.le l7
  have L7 : Le g g7 := l1.trans (l2.trans (l3.trans (l4.trans (l5.trans (l6.trans l7)))))
  clear z0 z6 z5 z4 z3 z2 l1 l2 l3 l4 l5 l6 l7
  have hs7 := hs.le L7
  have hsum : ∀ j, 0 ≤ (ns.take j).sum ∧ (ns.take j).sum ≤ 600000000 := fun j => by
    have := sum_le (l := ns.take j) fun i hi => hns i (List.mem_of_mem_take hi)
    have h2 : ((ns.take j).length : Int) ≤ 6 := by rw [List.length_take]; (first | lia | omega)
    (first | lia | omega)
  refine w_sum (by walk_at "has") (fun j _ => by have := hsum j; unfold InLong; (first | lia | omega)) (fun i hi => by have := hns i hi; unfold InLong; (first | lia | omega)) ?_
  walk_at "go"
  refine w_modI (by decide) ?_
  have hsum0 : 0 ≤ ns.sum := by have := hsum 6; rw [List.take_of_length_le (by (first | lia | omega))] at this; exact this.1
  obtain ⟨k, hk6, hk⟩ : ∃ k : Nat, k < 6 ∧ ns.sum.fmod 6 = (k : Int) := ⟨(ns.sum % 6).toNat, by (first | lia | omega), by rw [Int.fmod_eq_emod_of_nonneg _ (by decide)]; (first | lia | omega)⟩
  rw [hk]
  obtain ⟨pk, s0, s1, hpk, hpa, h2⟩ := pick_pair z1 y2 y3 y4 y5 y6 k hk6
  walk_at "go"
  refine w_subPlain (by with_unfolding_all rfl) (w_itemL (.inr y0) (Int.natCast_nonneg k) (by (first | lia | omega)) (by rw [Int.toNat_natCast]; exact hpk) (.ref ?_))
  clear y0 z1 y2 y3 y4 y5 y6 hpk
  walk_at "go"
  refine w_AssignComp (ix := 1) hE rfl (by decide +kernel) (by decide +kernel) ?_
  walk_at "go"
  refine w_iterList hs7 fun I It => ?_
  refine ⟨I, _, _, _, _, fun i accs g' ms' => g' = g7 ∧ ms' = (L, frR (df "_law_tree" 64).scope [some (.ref num), some (.int turn 0), none, none, none, none, none, none, none, none, none, none, none]) :: (L + 1, celR (some (.ref pk))) :: ms ∧ ∃ ss : List (List Nat), accs = sVs (ss.map tx) ∧ ss.length = i ∧ ∀ s ∈ ss, s ∈ twoOf k, rfl, rfl, It, by simp [iVs, sizeLine_eq]; (first | lia | omega), ?_, ?_, ?_⟩
  · exact ⟨rfl, rfl, [], rfl, rfl, fun _ h => nomatch h⟩
  · rintro i v accs cenv C g₁ ms₁ hC hi le hv ⟨rfl, rfl, ss, rfl, hsl, hss⟩
    have hi' : i < ns.length := by simpa [iVs] using hi
    have hit : (iVs ns).getD i .none = .int ns[i] 0 := by simp [iVs, List.getD_eq_getElem?_getD, hi']
    rw [hit] at hv ⊢
    obtain ⟨t9, rfl⟩ := er_int hv
    have hx0 := (hns ns[i] (List.getElem_mem hi')).1
    refine w_testsNil ?_
    rw [if_pos rfl]
    refine W.ease ?_
    walk_at "go"
    refine w_divI (by decide) (pylong6 _) ?_
    walk_at "go"
    refine w_modI (by decide) ?_
    obtain ⟨j, hj2, hj⟩ : ∃ j : Nat, j < 2 ∧ (ns[i].fdiv 6).fmod 2 = (j : Int) := by
      rw [Int.fdiv_eq_ediv_of_nonneg _ (by decide), Int.fmod_eq_emod_of_nonneg _ (by decide)]
      exact ⟨(ns[i] / 6 % 2).toNat, by (first | lia | omega), by (first | lia | omega)⟩
    rw [hj]
    obtain ⟨s', hs', hs2⟩ : ∃ s', [Value.str (tx s0) 0, .str (tx s1) 0][j]? = some (.str (tx s') 0) ∧ s' ∈ twoOf k := by
      rw [h2]
      match j, hj2 with
      | 0, _ => exact ⟨s0, rfl, by simp⟩
      | 1, _ => exact ⟨s1, rfl, by simp⟩
    walk_at "go"
    refine w_subPlain (by with_unfolding_all rfl) (w_itemL (by walk_at "has") (Int.natCast_nonneg j) (by (first | lia | omega)) (by rw [Int.toNat_natCast]; exact hs') (.str fun t => ?_))
    walk_at "hid"
    refine .here ⟨_, .refl _, rfl, rfl, ss ++ [s'], by simp [sVs, er], by simp [hsl], fun s hs => ?_⟩
    rcases List.mem_append.mp hs with hs | hs
    · exact hss s hs
    · rw [List.mem_singleton.mp hs]; exact hs2
  · rintro accs D g₁ ms₁ le hl ⟨rfl, rfl, ss, rfl, hsl, hss⟩
    have hsl : ss.length = 6 := by rw [hsl]; simp [iVs, hlen]
    walk_at "go"
    have hz : (sVs (ss.map tx)).length ≤ sizeLine := by simp [sVs, sizeLine_eq]; (first | lia | omega)
    refine w_subCut (w_cutFromL (j := turn) (by walk_at "mem") (by walk_at "has") hz ?_)
    walk_at "go"
    refine w_subCut (w_cutToL (j := turn) (by walk_at "mem") (by walk_at "has") hz ?_)
    walk_at "go"
    refine w_addL (by walk_at "has") (by walk_at "has") (by simp [sVs, sizeLine_eq]; (first | lia | omega)) ?_
    intro sg
    rw [show (sVs (ss.map tx)).drop turn ++ (sVs (ss.map tx)).take turn = sVs ((ss.drop turn ++ ss.take turn).map tx) by simp [sVs, List.map_drop, List.map_take]]
    obtain ⟨ss', hss'⟩ : ∃ ss', ss' = ss.drop turn ++ ss.take turn := ⟨_, rfl⟩
    rw [← hss']
    have hsl' : ss'.length = 6 := by rw [hss', List.length_append, List.length_drop, List.length_take]; (first | lia | omega)
    have hsm' : ∀ s ∈ ss', s ∈ twoOf k := fun s hs => by
      rw [hss'] at hs
      rcases List.mem_append.mp hs with hs | hs
      · exact hss s (List.mem_of_mem_drop hs)
      · exact hss s (List.mem_of_mem_take hs)
    clear hss' hss hsl
    refine W.freeze fun g8 l8 hsg => ?_
    have hpa8 := hpa.le l8
    walk_at "go"
    refine w_subPlain (by with_unfolding_all rfl) (w_itemL (.inr hpa8) (by decide) (by decide) rfl (.str fun t => ?_))
    walk_at "gs"
    rename_i kl root pl
    refine W.drop (.cons₂ _ (.cons₂ _ (.cons₂ _ (.cons _ (.cons _ (.cons _ (.cons _ (.cons _ (.cons₂ _ (.cons _ (.refl _))))))))))) ?_
    refine W.freezeMid (pre := [(pl, lstR [.ref root])]) fun g9 l9 hroot => ?_
    refine W.perm (List.perm_middle (l₁ := [(pl, lstR [.ref root]), (kl, lstR [])])) ?_
    have hs9 := hs7.le (l8.trans l9)
    have hsg9 := hsg.le l9
    have L9 : Le g g9 := L7.trans (l8.trans l9)
    clear hsg hpa8 hpa hs7 l8 l9 L7
    refine W.mono (Q := fun f g' ms' => f = .next ∧ Le g9 g' ∧ ∃ (lays : List Lay) (pl : Addr) (v1 v2 v3 : Option Value), ms' = (L, frR (df "_law_tree" 64).scope [some (.ref num), some (.int turn 0), none, some (.ref sg), some (.ref root), some (.ref pl), v1, v2, v3, none, none, none, none]) :: (pl, lstR (lays.map fun y => Value.ref y.p).reverse) :: (layMs [] lays ++ ms) ∧ LaysOk g' (twoOf k) root 7 lays ∧ lays.length ≤ 4 ∧ 0 < lays.length) (W.gen fun S0 hS0 => w_For ?_) ?_
    · walk_at "go"
      refine w_callRange1 fun rg => ?_
      refine w_iterRange (N := 6) (by decide) (by decide) (by decide) (by decide) (by decide) fun I r It => ?_
      refine forLoopS (J := fun i g' ms' => Le g9 g' ∧ ∃ (lays : List Lay) (pl : Addr) (v1 v2 v3 : Option Value), ms' = (L, frR (df "_law_tree" 64).scope [some (.ref num), some (.int turn 0), none, some (.ref sg), some (.ref root), some (.ref pl), v1, v2, v3, none, none, none, none]) :: (pl, lstR (lays.map fun y => Value.ref y.p).reverse) :: (layMs [] lays ++ ms) ∧ LaysOk g' (twoOf k) root (i + 1) lays ∧ lays.length ≤ 4 ∧ 0 < lays.length) It ?_ ?_ ?_
      · rintro i v g₁ ms₁ S hS hi le hv ⟨le9, lays, pl, v1, v2, v3, rfl, ok, h4, hpos⟩
        rw [show ((0 : Int) + (i : Int)) = (i : Int) by (first | lia | omega)] at hv
        obtain ⟨t9, rfl⟩ := er_int hv
        have hs' := hs9.le le9
        have hsg' := hsg9.le le9
        walk_at "gs"
        have hi6 : i < 6 := hi
        have hni : i < ns.length := by (first | lia | omega)
        have hn0 := (hns ns[i] (List.getElem_mem hni)).1
        have hgetD : ns.getD i 0 = ns[i] := by simp [List.getD_eq_getElem?_getD, hni]
        refine w_subPlain (by with_unfolding_all rfl) (w_itemL (by walk_at "has") (Int.natCast_nonneg i) (by (first | lia | omega)) (iVs_get hni) (.int fun t => ?_))
        rw [hgetD]
        walk_at "gs"
        refine w_lenL (by walk_at "has") (by simp; (first | lia | omega)) ?_
        rw [show (List.map (fun y : Lay => Value.ref y.p) lays).reverse.length = lays.length by simp]
        walk_at "gs"
        obtain ⟨m, hm1, hm2, hm3, hm⟩ : ∃ m : Nat, 0 < m ∧ m ≤ 3 ∧ m ≤ lays.length ∧ (if (3 : Int) < (lays.length : Int) then (3 : Int) else (lays.length : Int)) = (m : Int) := by
          by_cases h3 : 3 < lays.length
          · exact ⟨3, by decide, by decide, by (first | lia | omega), by rw [if_pos (by (first | lia | omega))]; rfl⟩
          · exact ⟨lays.length, hpos, by (first | lia | omega), Nat.le_refl _, by rw [if_neg (by (first | lia | omega))]⟩
        rw [hm]
        refine w_modI (by (first | lia | omega)) ?_
        obtain ⟨j, hj1, hj⟩ : ∃ j : Nat, j < m ∧ ns[i].fmod (m : Int) = (j : Int) := by
          rw [Int.fmod_eq_emod_of_nonneg _ (by (first | lia | omega))]
          have h1 := Int.emod_nonneg ns[i] (b := (m : Int)) (by (first | lia | omega))
          have h2 := Int.emod_lt_of_pos ns[i] (b := (m : Int)) (by (first | lia | omega))
          exact ⟨(ns[i] % (m : Int)).toNat, by (first | lia | omega), by (first | lia | omega)⟩
        rw [hj]
        walk_at "gs"
        rw [show (1 : Int) + (j : Int) = ((j + 1 : Nat) : Int) by (first | lia | omega)]
        have hsi : i < ss'.length := by (first | lia | omega)
        have hsg0 : (sVs (ss'.map tx))[(i : Int).toNat]? = some (.str (tx ss'[i]) 0) := by rw [Int.toNat_natCast]; simp [sVs, hsi]
        have hstwo := hsm' ss'[i] (List.getElem_mem hsi)
        obtain ⟨s', hs'e⟩ : ∃ s', s' = ss'[i] := ⟨_, rfl⟩
        rw [← hs'e] at hsg0 hstwo
        refine w_subPlain (by with_unfolding_all rfl) (w_itemL (.inr hsg') (Int.natCast_nonneg i) (by (first | lia | omega)) hsg0 (.str fun t => ?_))
        walk_at "go"
        rename_i nl nd _ sl
        refine w_subCut (w_cutToL (j := j + 1) (by walk_at "mem") (by walk_at "has") (by simp [sizeLine_eq]; (first | lia | omega)) ?_)
        intro np
        have hk : lays.length - (j + 1) < lays.length := by (first | lia | omega)
        refine W.shutN (pre := [_, _, _, _, _, _]) (lays.length - (j + 1)) hk ok fun g2 l2 ok2 => ?_
        have hps := shutN_ps _ lays hk
        have hcut : ((lays.map fun y => Value.ref y.p).reverse.take (j + 1)) = ((shutN (lays.length - (j + 1)) lays).map fun y => Value.ref y.p).reverse := by
          have e1 : ∀ l : List Lay, l.map (fun y => Value.ref y.p) = (l.map (·.p)).map Value.ref := fun l => by rw [List.map_map]; rfl
          rw [e1, e1, hps, List.take_reverse, List.map_drop, List.length_map, List.length_map]
        rw [hcut]
        have hl2 : (shutN (lays.length - (j + 1)) lays).length = j + 1 := by
          have := congrArg List.length hps
          rw [List.length_map, List.length_drop, List.length_map] at this
          (first | lia | omega)
        revert ok2 hl2
        generalize shutN (lays.length - (j + 1)) lays = lays2
        intro ok2 hl2
        match lays2, hl2 with
        | [], hl2 => simp at hl2
        | y :: up, hl2 =>
          have hyo := ok2.ok y List.mem_cons_self
          have hpy := hyo.1
          have hup : up.length = j := by simpa using hl2
          have hkl : y.ks.length ≤ 8 := by
            have e1 := hyo.2.1.length
            have e2 := y.f.len_le
            have e3 := ok2.size
            simp only [laySize] at e3
            (first | lia | omega)
          rw [show (List.map (fun y : Lay => Value.ref y.p) (y :: up)).reverse = (up.map fun y => Value.ref y.p).reverse ++ [Value.ref y.p] by simp]
          simp only [layMs, List.cons_append, List.nil_append]
          walk_at "go"
          refine w_CallMethod (by rfl) (by rfl) (by rfl) ?_
          walk_at "go"
          refine w_subPlain (by with_unfolding_all rfl) (w_lastL (by walk_at "has") (by simp; (first | lia | omega)) (.ref ?_))
          walk_at "go"
          refine w_subPlain (by with_unfolding_all rfl) (w_itemL (.inr hpy) (by decide) (by decide) rfl (.ref ?_))
          walk_at "go"
          refine w_getAppend (by walk_at "has") ?_
          walk_at "go"
          refine w_append (by walk_at "upd") rfl (by simp [sizeLine_eq]; (first | lia | omega)) ?_
          walk_at "go"
          refine w_CallMethod (by rfl) (by rfl) (by rfl) ?_
          walk_at "go"
          refine w_getAppend (by walk_at "has") ?_
          walk_at "go"
          refine w_append (by walk_at "upd") rfl (by simp [sizeLine_eq]; (first | lia | omega)) ?_
          walk_at "go"
          walk_at "hid"
          refine .drop (.cons₂ _ (.cons _ (.cons₂ _ (.cons₂ _ (.cons₂ _ (.cons _ (.refl _))))))) ?_
          walk_at "hid"
          refine Ease.freezeMid (pre := [_]) fun g3 l3 hnd => ?_
          walk_at "hid"
          refine Ease.perm (List.perm_middle (l₁ := [_, _])) ?_
          rw [show (up.map fun y => Value.ref y.p).reverse ++ [Value.ref y.p] ++ [Value.ref nd] = ((⟨nd, nl, s', [], .nil⟩ :: y :: up : List Lay).map fun y => Value.ref y.p).reverse by simp, List.append_nil]
          walk_at "hid"
          refine .here (hS _ _ _ ⟨le9.trans (l2.trans l3), ⟨nd, nl, s', [], .nil⟩ :: y :: up, np, _, _, _, rfl, ⟨fun x hx => ?_, ⟨?_, ok2.high⟩, ?_, ?_⟩, ?_, Nat.succ_pos _⟩)
          · rcases List.mem_cons.mp hx with rfl | hx
            · exact ⟨hnd, rfl, hstwo, trivial⟩
            · exact (ok2.ok x hx).le l3
          · show 0 + (up.length + 1) ≤ 3
            (first | lia | omega)
          · have := ok2.size
            simp only [laySize, Fo.size] at this ⊢
            (first | lia | omega)
          · rw [← ok2.root]; simp
          · simp only [List.length_cons]; (first | lia | omega)
      · rintro g₁ ms₁ le ⟨le9, lays, pl, v1, v2, v3, rfl, ok, h4, hpos⟩
        exact hS0 _ _ _ ⟨rfl, le9, lays, pl, v1, v2, v3, rfl, ok, h4, hpos⟩
      · refine ⟨.refl _, [⟨root, kl, s0, [], .nil⟩], pl, none, none, none, rfl, ⟨fun y hy => ?_, ⟨Nat.zero_le _, trivial⟩, rfl, rfl⟩, Nat.le_of_ble_eq_true rfl, Nat.le_of_ble_eq_true rfl⟩
        rw [List.mem_singleton.mp hy]
        exact ⟨hroot, rfl, by rw [h2]; simp, trivial⟩
    · rintro f g' ms' ⟨rfl, le9, lays, pl, v1, v2, v3, rfl, ok, h4, hpos⟩
      walk_at "hid"
      walk_at "go"
      walk_at "hid"
      refine .drop (.cons _ (.cons _ (.refl _))) ?_
      walk_at "hid"
      refine Ease.shutN (pre := []) (lays.length - 1) (by (first | lia | omega)) ok fun g2 l2 ok2 => ?_
      obtain ⟨z, hz⟩ := shutN_one hpos
      rw [hz] at ok2 ⊢
      have hzr : z.p = root := by simpa using ok2.root
      have hzo := ok2.ok z List.mem_cons_self
      have hzs := ok2.size
      have hzh := ok2.high.1
      simp only [laySize, List.length_nil] at hzs hzh
      walk_at "hid"
      refine Ease.freeze fun g3 l3 h3 => .here (h root g3 k z.s z.f (L9.trans (le9.trans (l2.trans l3))) hk6 ?_ hzo.2.2.1 hzo.2.2.2 (by (first | lia | omega)) (by (first | lia | omega)))
      rw [List.append_nil] at h3
      rw [← hzr]
      exact ⟨z.l, z.ks, hzo.1.le l3, h3, hzo.2.1.le l3⟩
end

theorem unq_dbl : ∀ (x y : List Nat), y.head? ≠ some 34 → unq (dbl x ++ 34 :: y) = x
  | [], [], _ => unq_end
  | [], c :: y, h => unq_one fun e => h (by rw [e]; rfl)
  | c :: x, y, h => by
    have ih := unq_dbl x y h
    by_cases e : c = 34
    · subst e
      have : dbl (34 :: x) = 34 :: 34 :: dbl x := by simp [dbl, StrLaws.dbl]
      rw [this, List.cons_append, List.cons_append, unq_two, ih]
    · have : dbl (c :: x) = c :: dbl x := by simp [dbl, StrLaws.dbl, e]
      rw [this, List.cons_append, unq_ne e, ih]
theorem dbl_count : ∀ x : List Nat, (dbl x).length = x.length + x.count 34
  | [] => rfl
  | c :: x => by
    have ih := dbl_count x
    by_cases e : c = 34
    · subst e
      have : dbl (34 :: x) = 34 :: 34 :: dbl x := by simp [dbl, StrLaws.dbl]
      rw [this]; simp; (first | lia | omega)
    · have : dbl (c :: x) = c :: dbl x := by simp [dbl, StrLaws.dbl, e]
      rw [this, List.count_cons_of_ne e]; simp; (first | lia | omega)
theorem signs_ok : ∀ s ∈ signs, 1 ≤ s.length ∧ s.length ≤ 3 ∧ 34 ∉ s ∧ s.head? ≠ some 34 := by decide
theorem wrF_head {f : Fo} (h : f.all (· ∈ signs)) : (wrF f).head? ≠ some 34 := by
  cases f with
  | nil => simp [wrF]
  | cons s k r =>
    have := signs_ok s h.1
    cases s with
    | nil => simp at this
    | cons c s => simpa [wrF] using this.2.2.2

/-- what is kept of a kind: its sign's number, its children's counts, its factor -/
noncomputable abbrev Ent := Nat × List Int × Int
noncomputable abbrev Tol := Nat × Int × List Int × List Int
noncomputable def TabAt {P : Setup} (F : Facts P) (g : Heap) : List Ent → List Value → Prop
  | [], vs => vs = []
  | e :: r, vs => ∃ tp hl ld vs', vs = .ref tp :: vs' ∧ (At g tp (tupR [.ref hl, .ref ld, .int e.2.2 0]) ∧ At g hl (lstR (iVs [(e.1 : Int)])) ∧ LeadAt F g ld e.2.1 0) ∧ TabAt F g r vs'
noncomputable def TolAt (g : Heap) : List Tol → List Value → Prop
  | [], vs => vs = []
  | e :: r, vs => ∃ tp a b vs', vs = .ref tp :: vs' ∧ (At g tp (tupR [.int e.1 0, .int e.2.1 0, .ref a, .ref b]) ∧ At g a (lstR (iVs e.2.2.1)) ∧ At g b (lstR (iVs e.2.2.2))) ∧ TolAt g r vs'
theorem TabAt.le {P : Setup} {F : Facts P} {g g' : Heap} (le : Le g g') : ∀ {tb : List Ent} {vs : List Value}, TabAt F g tb vs → TabAt F g' tb vs
  | [], _, h => h
  | _ :: _, _, hz => by obtain ⟨tp, hl, ld, vs', e, h1, h2⟩ := hz; exact ⟨tp, hl, ld, vs', e, ⟨h1.1.le le, h1.2.1.le le, h1.2.2.le le⟩, h2.le le⟩
theorem TolAt.le {g g' : Heap} (le : Le g g') : ∀ {tb : List Tol} {vs : List Value}, TolAt g tb vs → TolAt g' tb vs
  | [], _, h => h
  | _ :: _, _, hz => by obtain ⟨tp, hl, ld, vs', e, h1, h2⟩ := hz; exact ⟨tp, hl, ld, vs', e, ⟨h1.1.le le, h1.2.1.le le, h1.2.2.le le⟩, h2.le le⟩
theorem TabAt.length {P : Setup} {F : Facts P} {g : Heap} : ∀ {tb : List Ent} {vs : List Value}, TabAt F g tb vs → vs.length = tb.length
  | [], _, h => by rw [show _ = [] from h]; rfl
  | _ :: _, _, hz => by obtain ⟨tp, hl, ld, vs', e, h1, h2⟩ := hz; rw [e, List.length_cons, List.length_cons, h2.length]
theorem TolAt.length {g : Heap} : ∀ {tb : List Tol} {vs : List Value}, TolAt g tb vs → vs.length = tb.length
  | [], _, h => by rw [show _ = [] from h]; rfl
  | _ :: _, _, hz => by obtain ⟨tp, hl, ld, vs', e, h1, h2⟩ := hz; rw [e, List.length_cons, List.length_cons, h2.length]
theorem TabAt.get {P : Setup} {F : Facts P} {g : Heap} : ∀ {tb : List Ent} {vs : List Value}, TabAt F g tb vs → ∀ {i : Nat} {e : Ent}, tb[i]? = some e → ∃ tp hl ld, vs[i]? = some (.ref tp) ∧ At g tp (tupR [.ref hl, .ref ld, .int e.2.2 0]) ∧ At g hl (lstR (iVs [(e.1 : Int)])) ∧ LeadAt F g ld e.2.1 0
  | [], _, _, i, e, h => by simp at h
  | _ :: _, _, hz, i, e, h => by
    obtain ⟨tp, hl, ld, vs', e0, h1, h2⟩ := hz
    subst e0
    cases i with
    | zero => simp at h; subst h; exact ⟨tp, hl, ld, rfl, h1⟩
    | succ i => simp only [List.getElem?_cons_succ] at h ⊢; exact h2.get h
theorem TolAt.get {g : Heap} : ∀ {tb : List Tol} {vs : List Value}, TolAt g tb vs → ∀ {i : Nat} {e : Tol}, tb[i]? = some e → ∃ tp a b, vs[i]? = some (.ref tp) ∧ At g tp (tupR [.int e.1 0, .int e.2.1 0, .ref a, .ref b]) ∧ At g a (lstR (iVs e.2.2.1)) ∧ At g b (lstR (iVs e.2.2.2))
  | [], _, _, i, e, h => by simp at h
  | _ :: _, _, hz, i, e, h => by
    obtain ⟨tp, hl, ld, vs', e0, h1, h2⟩ := hz
    subst e0
    cases i with
    | zero => simp at h; subst h; exact ⟨tp, hl, ld, rfl, h1⟩
    | succ i => simp only [List.getElem?_cons_succ] at h ⊢; exact h2.get h
theorem TabAt.snoc {P : Setup} {F : Facts P} {g : Heap} : ∀ {tb : List Ent} {vs : List Value} {e : Ent} {tp hl ld : Addr}, TabAt F g tb vs → At g tp (tupR [.ref hl, .ref ld, .int e.2.2 0]) → At g hl (lstR (iVs [(e.1 : Int)])) → LeadAt F g ld e.2.1 0 → TabAt F g (tb ++ [e]) (vs ++ [.ref tp])
  | [], _, e, tp, hl, ld, h, h1, h2, h3 => by rw [show _ = [] from h]; exact ⟨tp, hl, ld, [], rfl, ⟨h1, h2, h3⟩, rfl⟩
  | _ :: _, _, e, tp, hl, ld, hz, h1, h2, h3 => by obtain ⟨a, b, c, vs', e0, k1, k2⟩ := hz; rw [e0]; exact ⟨a, b, c, _, rfl, k1, k2.snoc h1 h2 h3⟩
theorem TolAt.snoc {g : Heap} : ∀ {tb : List Tol} {vs : List Value} {e : Tol} {tp a b : Addr}, TolAt g tb vs → At g tp (tupR [.int e.1 0, .int e.2.1 0, .ref a, .ref b]) → At g a (lstR (iVs e.2.2.1)) → At g b (lstR (iVs e.2.2.2)) → TolAt g (tb ++ [e]) (vs ++ [.ref tp])
  | [], _, e, tp, a, b, h, h1, h2, h3 => by rw [show _ = [] from h]; exact ⟨tp, a, b, [], rfl, ⟨h1, h2, h3⟩, rfl⟩
  | _ :: _, _, e, tp, x, y, hz, h1, h2, h3 => by obtain ⟨a, b, c, vs', e0, k1, k2⟩ := hz; rw [e0]; exact ⟨a, b, c, _, rfl, k1, k2.snoc h1 h2 h3⟩

/-- blanks and tabs for the children's kinds -/
noncomputable def leadText (ks : List Nat) : List Nat := (ks.map fun k => List.replicate k 32 ++ [9]).flatten ++ [120]
noncomputable def cntOf (ks : List Nat) : List Int := (wsRun (leadText ks) [] 0).1
noncomputable def sum16 (ks : List Nat) : Nat := (ks.map fun k => 16 ^ k).sum
noncomputable def fac : Nat → Nat
  | 0 => 1
  | n + 1 => (n + 1) * fac n
noncomputable def fixOf (tb : List Ent) (ks : List Nat) : Int := (((hexd (sum16 ks)).reverse.map fun d => (fac d : Int)) ++ ks.map fun k => (tb.getD k (0, [], 0)).2.2).foldl (· * ·) 1
noncomputable def places (tb : List Ent) (num : Nat) (cs : List Int) : List Nat := (List.range tb.length).filter fun i => decide ((tb.getD i (0, [], 0)).1 = num ∧ (tb.getD i (0, [], 0)).2.1 = cs)
/-- one node, behind its children -/
noncomputable def rdOne (num : Nat) (ks : List Nat) (tb : List Ent) (td : List Tol) : Nat × List Ent × List Tol :=
  let cs := cntOf ks
  let fx := fixOf tb ks
  match places tb num cs with
  | p :: _ => (p, tb, td ++ [(p, fx, (hexd (sum16 ks)).map (fun d : Nat => (d : Int)), cs)])
  | [] => (tb.length, tb ++ [(num, cs, fx)], td ++ [(tb.length, fx, (hexd (sum16 ks)).map (fun d : Nat => (d : Int)), cs)])
noncomputable def rd (num : List Nat → Nat) : Fo → List Ent → List Tol → List Nat × List Ent × List Tol
  | .nil, tb, td => ([], tb, td)
  | .cons s k r, tb, td =>
    let a := rd num k tb td
    let b := rdOne (num s) a.1 a.2.1 a.2.2
    let c := rd num r b.2.1 b.2.2
    (b.1 :: c.1, c.2)
theorem hexd_len : ∀ (j m : Nat), m < 16 ^ j → (hexd m).length ≤ j
  | 0, m, h => by
    have : m = 0 := by simpa using h
    rw [this, hexd_zero]; exact Nat.le_refl _
  | j + 1, m, h => by
    by_cases h0 : m = 0
    · rw [h0, hexd_zero]; exact Nat.zero_le _
    · rw [hexd_pos h0, List.length_cons]
      have := hexd_len j (m / 16) (Nat.div_lt_of_lt_mul (by rw [Nat.pow_succ] at h; (first | lia | omega)))
      (first | lia | omega)
theorem wsRun_end : ∀ (l : List Nat) (c : List Int), (∀ x ∈ l, x = 32 ∨ x = 9) → ∀ b, (l = [] → b = 0) → (∀ h : l ≠ [], l.getLast h = 9) → (wsRun (l ++ [120]) c b).2 = 0
  | [], c, _, b, h0, _ => by rw [h0 rfl]; rfl
  | x :: l, c, hx, b, h0, hl => by
    rcases hx x (.head _) with rfl | rfl
    · rw [List.cons_append, wsRun, if_pos rfl]
      cases l with
      | nil => have := hl (by simp); simp at this
      | cons y l => exact wsRun_end (y :: l) c (fun z hz => hx z (.tail _ hz)) _ (fun h => nomatch h) fun h => by have := hl (by simp); simpa using this
    · rw [List.cons_append, wsRun, if_neg (by decide), if_pos rfl]
      cases l with
      | nil => rfl
      | cons y l => exact wsRun_end (y :: l) _ (fun z hz => hx z (.tail _ hz)) _ (fun _ => rfl) fun h => by have := hl (by simp); simpa using this
theorem lead_end (ks : List Nat) : (wsRun (leadText ks) [] 0).2 = 0 := by
  refine wsRun_end _ _ (fun x hx => ?_) 0 (fun _ => rfl) fun h => ?_
  · obtain ⟨l, hl, hx⟩ := List.mem_flatten.mp hx
    obtain ⟨k, _, rfl⟩ := List.mem_map.mp hl
    rcases List.mem_append.mp hx with hx | hx
    · exact .inl (List.eq_of_mem_replicate hx)
    · exact .inr (List.mem_singleton.mp hx)
  · have key : ∀ (ks : List Nat) (h : (ks.map fun k => List.replicate k 32 ++ [9]).flatten ≠ []), (ks.map fun k => List.replicate k 32 ++ [9]).flatten.getLast h = 9 := by
      intro ks
      induction ks with
      | nil => intro h; exact absurd rfl h
      | cons k ks ih =>
        intro h
        by_cases e : (ks.map fun k => List.replicate k 32 ++ [9]).flatten = []
        · simp [e]
        · simp only [List.map_cons, List.flatten_cons]
          rw [List.getLast_append_of_ne_nil _ e]
          exact ih e
    exact key ks h
theorem foldl_mul : ∀ (l : List Int) (a : Int), l.foldl (· * ·) a = a * l.foldl (· * ·) 1
  | [], a => by simp
  | x :: l, a => by rw [List.foldl_cons, List.foldl_cons, foldl_mul l (a * x), foldl_mul l (1 * x), Int.one_mul, Int.mul_assoc]
theorem max_pure (p : Nat → Bool) : ∀ m, 1 ≤ m → m ≤ 3 → p (m - 1) = true → (∀ j, m ≤ j → j < 3 → p j = false) →
    ∃ ns : List Int, iVs (((List.range 3).filter p).map fun j => ((j + 1 : Nat) : Int)) ++ [Value.int 0 0] = iVs ns ∧ 0 < ns.length ∧ ns[argBest (fun i j => decide (ns.getD i 0 > ns.getD j 0)) (ns.length - 1)]? = some (m : Int) := by
  intro m h1 h3 hm hj
  have e : List.range 3 = [0, 1, 2] := rfl
  rw [e]
  match m, h1, h3 with
  | 1, _, _ =>
    have a := hj 1 (by decide) (by decide)
    have b := hj 2 (by decide) (by decide)
    have hm : p 0 = true := hm
    refine ⟨[1, 0], ?_, by decide, by decide⟩
    simp [hm, a, b, iVs]
  | 2, _, _ =>
    have b := hj 2 (by decide) (by decide)
    have hm : p 1 = true := hm
    cases h0 : p 0
    · refine ⟨[2, 0], ?_, by decide, by decide⟩
      simp [h0, hm, b, iVs]
    · refine ⟨[1, 2, 0], ?_, by decide, by decide⟩
      simp [h0, hm, b, iVs]
  | 3, _, _ =>
    have hm : p 2 = true := hm
    cases h0 : p 0 <;> cases h1 : p 1
    · refine ⟨[3, 0], ?_, by decide, by decide⟩
      simp [h0, h1, hm, iVs]
    · refine ⟨[2, 3, 0], ?_, by decide, by decide⟩
      simp [h0, h1, hm, iVs]
    · refine ⟨[1, 3, 0], ?_, by decide, by decide⟩
      simp [h0, h1, hm, iVs]
    · refine ⟨[1, 2, 3, 0], ?_, by decide, by decide⟩
      simp [h0, h1, hm, iVs]
theorem max_list {P : Setup} (F : Facts P) {s x l : List Nat} (hs : s ∈ signs) (hl : l = s ++ 34 :: x) :
    ∃ ns : List Int, iVs (((List.range 3).filter fun j => (F.tab (tx (l.take (j + 1)))).isSome).map fun j => ((j + 1 : Nat) : Int)) ++ [Value.int 0 0] = iVs ns ∧ 0 < ns.length ∧ ns[argBest (fun i j => decide (ns.getD i 0 > ns.getD j 0)) (ns.length - 1)]? = some (s.length : Int) := by
  obtain ⟨h1, h3, _, _⟩ := signs_ok s hs
  refine max_pure _ s.length h1 h3 ?_ fun j hj _ => ?_
  · rw [show s.length - 1 + 1 = s.length by (first | lia | omega), hl, List.take_left, F.tabS s hs]; rfl
  · cases e : (F.tab (tx (l.take (j + 1)))).isSome with
    | false => rfl
    | true =>
      refine absurd ?_ (F.tabQ _ e)
      rw [tx_list, hl, List.take_append, List.mem_append]
      right
      rw [show j + 1 - s.length = (j - s.length) + 1 by (first | lia | omega), List.take_succ_cons]
      exact List.mem_cons_self
theorem places_lt {tb : List Ent} {num : Nat} {cs : List Int} {p : Nat} (h : p ∈ places tb num cs) : p < tb.length := List.mem_range.mp (List.mem_filter.mp h).1
theorem rdOne_len (num : Nat) (ks : List Nat) (tb : List Ent) (td : List Tol) : tb.length ≤ (rdOne num ks tb td).2.1.length ∧ (rdOne num ks tb td).2.1.length ≤ tb.length + 1 ∧ (rdOne num ks tb td).1 < (rdOne num ks tb td).2.1.length ∧ (rdOne num ks tb td).2.2.length = td.length + 1 := by
  unfold rdOne
  dsimp only
  cases e : places tb num (cntOf ks) with
  | nil => simp
  | cons p r =>
    have := places_lt (p := p) (by rw [e]; exact List.mem_cons_self)
    simp; exact this
theorem rd_len (num : List Nat → Nat) : ∀ (f : Fo) (tb : List Ent) (td : List Tol), tb.length ≤ (rd num f tb td).2.1.length ∧ (rd num f tb td).2.1.length ≤ tb.length + f.size ∧ (∀ x ∈ (rd num f tb td).1, x < (rd num f tb td).2.1.length) ∧ (rd num f tb td).2.2.length = td.length + f.size ∧ (rd num f tb td).1.length = f.toL.length
  | .nil, tb, td => ⟨Nat.le_refl _, Nat.le_refl _, (fun _ h => nomatch h), rfl, rfl⟩
  | .cons s k r, tb, td => by
    obtain ⟨a0, a1, a2, a3, a4⟩ := rd_len num k tb td
    obtain ⟨b0, b1, b2, b3⟩ := rdOne_len (num s) (rd num k tb td).1 (rd num k tb td).2.1 (rd num k tb td).2.2
    obtain ⟨c0, c1, c2, c3, c4⟩ := rd_len num r (rdOne (num s) (rd num k tb td).1 (rd num k tb td).2.1 (rd num k tb td).2.2).2.1 (rdOne (num s) (rd num k tb td).1 (rd num k tb td).2.1 (rd num k tb td).2.2).2.2
    simp only [rd, Fo.size, Fo.toL, List.length_cons]
    refine ⟨by (first | lia | omega), by (first | lia | omega), fun x hx => ?_, by (first | lia | omega), by (first | lia | omega)⟩
    rcases List.mem_cons.mp hx with rfl | hx
    · (first | lia | omega)
    · exact c2 x hx
theorem iVs_snoc (xs : List Int) (z : Int) : iVs xs ++ [Value.int z 0] = iVs (xs ++ [z]) := by simp [iVs]
theorem mul_blank : ∀ k : Nat, k ≤ 13 → MulOk (tx [32]) (k : Int) ∧ Txt.mul (tx [32]) (k : Int) = tx (List.replicate k 32) := by
  unfold MulOk
  decide +kernel
theorem lead_len (ks : List Nat) (h : ∀ i (hi : i < ks.length), ks[i] ≤ 13) : (leadText ks).length ≤ 14 * ks.length + 1 := by
  have key : ∀ ks : List Nat, (∀ x ∈ ks, x ≤ 13) → ((ks.map fun k => List.replicate k 32 ++ [9]).flatten).length ≤ 14 * ks.length := by
    intro ks
    induction ks with
    | nil => intro _; simp
    | cons k ks ih =>
      intro h
      have a := h k (.head _)
      have b := ih fun x hx => h x (.tail _ hx)
      simp only [List.map_cons, List.flatten_cons, List.length_append, List.length_replicate, List.length_cons, List.length_nil]
      (first | lia | omega)
  have := key ks fun x hx => by obtain ⟨i, hi, rfl⟩ := List.getElem_of_mem hx; exact h i hi
  simp only [leadText, List.length_append, List.length_cons, List.length_nil]; (first | lia | omega)
theorem lead_ascii (ks : List Nat) : (leadText ks).all (· < 128) = true := by
  rw [List.all_eq_true]
  intro x hx
  rcases List.mem_append.mp hx with hx | hx
  · obtain ⟨l, hl, hx⟩ := List.mem_flatten.mp hx
    obtain ⟨k, _, rfl⟩ := List.mem_map.mp hl
    rcases List.mem_append.mp hx with hx | hx
    · rw [List.eq_of_mem_replicate hx]; decide
    · rw [List.mem_singleton.mp hx]; decide
  · rw [List.mem_singleton.mp hx]; decide
theorem sum_lens (ls : List (List Nat)) : ((ls.map tx).map (·.length)).sum = ls.flatten.length := by
  rw [List.length_flatten, List.map_map]
  exact congrArg List.sum (List.map_congr_left fun x _ => tx_len x)
theorem take_sVs (h : Nat → Str) {ks : List Nat} {i : Nat} (hi : i < ks.length) : sVs ((ks.take i).map h) ++ [Value.str (h ks[i]) 0] = sVs ((ks.take (i + 1)).map h) := by
  rw [List.take_add_one, List.getElem?_eq_getElem hi, Option.toList_some, List.map_append]
  unfold sVs
  rw [List.map_append]; rfl
theorem take_iVs {α : Type} (h : α → Int) {ks : List α} {i : Nat} (hi : i < ks.length) : iVs ((ks.take i).map h) ++ [Value.int (h ks[i]) 0] = iVs ((ks.take (i + 1)).map h) := by
  rw [List.take_add_one, List.getElem?_eq_getElem hi, Option.toList_some, List.map_append]
  unfold iVs
  rw [List.map_append]; rfl
theorem lead_flat (ks : List Nat) : ((ks.map fun k => List.replicate k 32 ++ [9]).flatten).length + 1 = (leadText ks).length := by
  unfold leadText
  rw [List.length_append]; rfl
theorem sum16_take (ks : List Nat) (h : ∀ i (hi : i < ks.length), ks[i] ≤ 13) (h8 : ks.length ≤ 8) : ∀ j, 0 ≤ (((ks.map fun k => ((16 ^ k : Nat) : Int)).take j).sum) ∧ (((ks.map fun k => ((16 ^ k : Nat) : Int)).take j).sum) ≤ 8 * 4503599627370496 := by
  intro j
  have := sum_le (B := 4503599627370496) (l := (ks.map fun k => ((16 ^ k : Nat) : Int)).take j) fun i hi => by
    obtain ⟨k, hk, rfl⟩ := List.mem_map.mp (List.mem_of_mem_take hi)
    obtain ⟨m, hm, rfl⟩ := List.getElem_of_mem hk
    have h1 := h m hm
    have h2 : 16 ^ ks[m] ≤ 16 ^ 13 := Nat.pow_le_pow_right (by decide) h1
    rw [show (16 : Nat) ^ 13 = 4503599627370496 by decide] at h2
    generalize 16 ^ ks[m] = z at h2 ⊢
    exact ⟨by (first | lia | omega), by (first | lia | omega)⟩
  have hl : (((ks.map fun k => ((16 ^ k : Nat) : Int)).take j).length : Int) ≤ 8 := by
    rw [List.length_take, List.length_map]; (first | lia | omega)
  (first | lia | omega)
theorem sum16_int (ks : List Nat) : (ks.map fun k => ((16 ^ k : Nat) : Int)).sum = ((sum16 ks : Nat) : Int) := by
  unfold sum16
  induction ks with
  | nil => rfl
  | cons k ks ih => rw [List.map_cons, List.sum_cons, ih, List.map_cons, List.sum_cons, Int.natCast_add]
noncomputable def fixOk (tb : List Ent) : Prop := ∀ e ∈ tb, Builtin.Int.intBits e.2.2 ≤ 64
/-- all factors that are met stay small -/
noncomputable def rdOk (num : List Nat → Nat) : Fo → List Ent → List Tol → Prop
  | .nil, _, _ => True
  | .cons s k r, tb, td => rdOk num k tb td ∧ fixOk (rd num k tb td).2.1 ∧ rdOk num r (rdOne (num s) (rd num k tb td).1 (rd num k tb td).2.1 (rd num k tb td).2.2).2.1 (rdOne (num s) (rd num k tb td).1 (rd num k tb td).2.1 (rd num k tb td).2.2).2.2
theorem bits_small : ∀ j : Nat, j ≤ 20 → Builtin.Int.intBits ((2 : Int) + (j : Int)) ≤ 64 := by decide +kernel
theorem hexd_lt : ∀ (m : Nat), ∀ d ∈ hexd m, d < 16 := by
  intro m
  induction m using Nat.strongRecOn with
  | ind m ih =>
    intro d hd
    by_cases h : m = 0
    · rw [h, hexd_zero] at hd; cases hd
    · rw [hexd_pos h] at hd
      rcases List.mem_cons.mp hd with rfl | hd
      · exact Nat.mod_lt _ (by decide)
      · exact ih (m / 16) (by (first | lia | omega)) d hd
theorem apb_get {ds : List Nat} (h : ∀ d ∈ ds, d < 16) {i : Nat} (hi : i < ds.length) : (apb ds).size = ds.length ∧ ((apb ds).getD i 0).toNat = 65 + ds.reverse[i]'(by simpa using hi) := by
  have h1 : ds.reverse[i]'(by simpa using hi) < 16 := h _ (List.mem_reverse.mp (List.getElem_mem _))
  refine ⟨by simp [apb], ?_⟩
  have : (apb ds).getD i 0 = UInt8.ofNat (65 + ds.reverse[i]'(by simpa using hi)) := by
    simp [apb, Array.getD, hi]
  rw [this, UInt8.toNat_ofNat']
  (first | lia | omega)
theorem take_foldl {α : Type} (h : α → Int) {ks : List α} {i : Nat} (hi : i < ks.length) (x : Int) : ((ks.take (i + 1)).map h).foldl (· * ·) x = ((ks.take i).map h).foldl (· * ·) x * h ks[i] := by
  rw [List.take_add_one, List.getElem?_eq_getElem hi, Option.toList_some, List.map_append, List.foldl_append]; rfl
theorem apb_rev (ds : List Nat) : (apb ds).toList.reverse.toArray = apb ds.reverse := by simp [apb]
theorem count_q (l : List Nat) : Txt.count (tx l) (tx [34]) = ((l.count 34 : Nat) : Int) := by
  have key : ∀ l : List Nat, cnt 34 l = ((l.count 34 : Nat) : Int) := by
    intro l
    induction l with
    | nil => rfl
    | cons c r ih =>
      rw [cnt_cons, ih, List.count_cons]
      by_cases h : c = 34
      · simp [h]; (first | lia | omega)
      · simp [h]
  exact (count_cnt (tx l) 34).trans (key l)
theorem wsRun_len : ∀ (l : List Nat) (c : List Int) (b : Nat), (wsRun l c b).1.length ≤ max c.length (b + l.length + 1)
  | [], c, b => by simp only [wsRun]; (first | lia | omega)
  | ch :: r, c, b => by
    unfold wsRun
    split
    · have := wsRun_len r c (b + 1)
      simp only [List.length_cons]; (first | lia | omega)
    · split
      · have := wsRun_len r ((padTo c b).set b ((padTo c b).getD b 0 + 1)) 0
        have h2 := padTo_le c b
        rw [List.length_set] at this
        simp only [List.length_cons]; (first | lia | omega)
      · simp only [List.length_cons]; (first | lia | omega)
theorem cntOf_len (ks : List Nat) : (cntOf ks).length ≤ (leadText ks).length + 1 := by
  have := wsRun_len (leadText ks) [] 0
  unfold cntOf
  simp only [List.length_nil] at this; (first | lia | omega)
theorem rdOne_td (num : Nat) (ks : List Nat) (tb : List Ent) (td : List Tol) : (rdOne num ks tb td).2.2 = td ++ [((rdOne num ks tb td).1, fixOf tb ks, (hexd (sum16 ks)).map (fun d : Nat => (d : Int)), cntOf ks)] := by
  unfold rdOne
  dsimp only
  cases places tb num (cntOf ks) <;> rfl

noncomputable def whB : Stmt → List Stmt
  | .While _ b _ _ => b
  | _ => []
/-- the body of the reader's loop, from a place on -/
noncomputable def rdB (i : Nat) : List Stmt := (whB ((df "_law_read" 67).body.getD 1 (.Pass ⟨0, 0, 0, 0⟩))).drop i
/-- the reader's frame -/
noncomputable def rdFr (told kl : Addr) (v4 v5 v6 v7 v8 v10 v12 v13 v14 v15 : Option Value) : Rs := frR (df "_law_read" 67).scope [none, none, some (.ref told), some (.ref kl), v4, v5, v6, v7, v8, none, v10, none, v12, v13, v14, v15, none, none, none, none, none, none, none, none, none, none, none]
noncomputable def rdCs (L : Addr) : List (Str × Addr) := [("heads", L + 4), ("lead", L + 3), ("table", L + 2), ("text", L + 1)]
section
variable {P : Setup} (F : Facts P)
include F
theorem c_tail {n : Nat} {g : Heap} {ms : Ms} {env : Env} {L kl tabl toldl hdl ld : Addr} {ks ks1 : List Nat} {s nm l tl : List Nat} {v6 v7 v8 v13 v14 v15 : Option Value} {tvs dvs : List Value} {tb : List Ent} {td : List Tol}
    (hE : Ev env (df "_law_read" 67).scope L (rdCs L)) (hT : TabAt F g tb tvs) (hD : TolAt g td dvs) (h14 : tb.length ≤ 13) (h14' : td.length ≤ 14) (hks8 : ks.length ≤ 100)
    (hh : At g hdl (lstR (iVs [(F.num s : Int)]))) (hld : LeadAt F g ld (cntOf ks1) 0) (hhx : (hexd (sum16 ks1)).length ≤ 15) (hlt : (leadText ks1).length ≤ 1000)
    (hl : l.length ≤ 20000) (hn : nm.length ≤ 20000) (htl : l.drop (s.length + 2 + nm.length + nm.count 34) = tl) :
    W P (n + 10) g ((kl, lstR (iVs (ks.map fun k : Nat => (k : Int)))) :: (L, rdFr toldl kl (some (.int s.length 0)) (some (.str (tx nm) 0)) v6 v7 v8 (some (.bytes (apb (hexd (sum16 ks1))) 0)) (some (.int (fixOf tb ks1) 0)) v13 v14 v15) :: (L + 4, celR (some (.ref hdl))) :: (L + 3, celR (some (.ref ld))) :: (L + 2, celR (some (.ref tabl))) :: (L + 1, celR (some (.str (tx l) 0))) :: (tabl, lstR tvs) :: (toldl, lstR dvs) :: ms)
      (execs (rdB 10) env) (fun fl g' ms' => fl = .next ∧ Le g g' ∧ ∃ (tvs' dvs' : List Value) (v4 v5 v6 v7 v8 v10 v12 v13 v14 v15 hv lv : Option Value), ms' = (kl, lstR (iVs ((ks ++ [(rdOne (F.num s) ks1 tb td).1]).map fun k : Nat => (k : Int)))) :: (L, rdFr toldl kl v4 v5 v6 v7 v8 v10 v12 v13 v14 v15) :: (L + 4, celR hv) :: (L + 3, celR lv) :: (L + 2, celR (some (.ref tabl))) :: (L + 1, celR (some (.str (tx tl) 0))) :: (tabl, lstR tvs') :: (toldl, lstR dvs') :: ms ∧ TabAt F g' (rdOne (F.num s) ks1 tb td).2.1 tvs' ∧ TolAt g' (rdOne (F.num s) ks1 tb td).2.2 dvs') := by
  conv in (rdB _) => whnf
  unfold rdFr
  have q5 : Str.ofString "\"" = tx [34] := by decide +kernel
  rw [q5]
  walk_at "hid"
  refine w_cons (w_AssignComp (ix := 1) hE rfl (by decide +kernel) (by decide +kernel) ?_)
  walk_at "gs"
  have htl0 := hT.length
  refine w_lenL (by walk_at "has") (by (first | lia | omega)) ?_
  rw [htl0]
  walk_at "gs"
  refine w_callRange1 fun rg => ?_
  refine w_iterRange (N := tb.length) (by split <;> (first | lia | omega)) (by decide) (by decide) (by (first | lia | omega)) (by (first | lia | omega)) fun I r It => ?_
  refine CompAt.pure It (by rw [sizeLine_eq]; (first | lia | omega)) (fun i => iVs (((List.range i).filter fun j => decide ((tb.getD j (0, [], 0)).1 = F.num s ∧ (tb.getD j (0, [], 0)).2.1 = cntOf ks1)).map fun j : Nat => (j : Int))) rfl ?_ ?_
  · intro i v cenv C hC hi hv
    rw [show ((0 : Int) + (i : Int)) = (i : Int) by (first | lia | omega)] at hv ⊢
    obtain ⟨t1, rfl⟩ := er_int hv
    obtain ⟨e, he⟩ : ∃ e, tb[i]? = some e := ⟨_, List.getElem?_eq_getElem hi⟩
    obtain ⟨tp, hp, lp, hv1, hv2, hv3, hv4⟩ := hT.get he
    have hed : tb.getD i (0, [], 0) = e := by rw [List.getD_eq_getElem?_getD, he]; rfl
    refine w_testsOne ?_
    walk_at "gs"
    refine w_subPlain (by with_unfolding_all rfl) (w_itemL (by walk_at "has") (Int.natCast_nonneg _) (by (first | lia | omega)) (by rw [Int.toNat_natCast]; exact hv1) (.ref ?_))
    walk_at "gs"
    refine w_subPlain (by with_unfolding_all rfl) (w_itemT (.inr hv2) (by decide) (by decide) rfl (.ref ?_))
    walk_at "gs"
    first | refine W.nEq (show n + 10 = (n + 3) + 7 by (first | lia | omega)) ?_ | rw [show n + 10 = (n + 3) + 7 by (first | lia | omega)]
    refine w_eqLL (.inr hv3) (.inr hh) ?_
    rw [show decide ([(e.1 : Int)] = [(F.num s : Int)]) = decide (e.1 = F.num s) by simp; (first | lia | omega)]
    walk_at "gs"
    have hstep : ∀ b, b = decide (e.1 = F.num s ∧ e.2.1 = cntOf ks1) → iVs (((List.range i).filter fun j => decide ((tb.getD j (0, [], 0)).1 = F.num s ∧ (tb.getD j (0, [], 0)).2.1 = cntOf ks1)).map fun j : Nat => (j : Int)) ++ (if b then [Value.int (i : Int) 0] else []) = iVs (((List.range (i + 1)).filter fun j => decide ((tb.getD j (0, [], 0)).1 = F.num s ∧ (tb.getD j (0, [], 0)).2.1 = cntOf ks1)).map fun j : Nat => (j : Int)) := by
      intro b hb
      rw [List.range_succ, List.filter_append, List.filter_cons, hed, ← hb]
      cases b <;> simp [iVs]
    by_cases h1 : e.1 = F.num s
    · rw [decide_eq_true h1]
      walk_at "gs"
      refine w_tValue ?_
      refine w_CallMethod (by rfl) (by rfl) (by rfl) ?_
      walk_at "gs"
      refine w_subPlain (by with_unfolding_all rfl) (w_itemL (by walk_at "has") (Int.natCast_nonneg _) (by (first | lia | omega)) (by rw [Int.toNat_natCast]; exact hv1) (.ref ?_))
      walk_at "gs"
      refine w_subPlain (by with_unfolding_all rfl) (w_itemT (.inr hv2) (by decide) (by decide) rfl (.ref ?_))
      obtain ⟨dx, tp1, ct1, w1, w2, w3, w4, k1, k2, k3, k4⟩ := id hv4
      refine w_getMeth F.cWs (.inr k1) (.inr k2) F.eqIn F.eqFn (by rfl) ?_
      walk_at "gs"
      first | refine W.nEq (show n + 3 + 7 = (n + 2) + 8 by (first | lia | omega)) ?_ | rw [show n + 3 + 7 = (n + 2) + 8 by (first | lia | omega)]
      refine c_equal F hv4 hld ?_
      walk_at "gs"
      by_cases h2 : e.2.1 = cntOf ks1
      · first | refine if_Y (show decide (e.2.1 = cntOf ks1 ∧ True) = true from decide_eq_true ⟨h2, trivial⟩) ?_ | rw [show decide (e.2.1 = cntOf ks1 ∧ True) = true from decide_eq_true ⟨h2, trivial⟩]
        walk_at "gs"
        walk_at "hid"
        exact .here ⟨rfl, rfl, hstep true (decide_eq_true ⟨h1, h2⟩).symm⟩
      · first | refine if_N (show decide (e.2.1 = cntOf ks1 ∧ True) = false from decide_eq_false fun x => h2 x.1) ?_ | rw [show decide (e.2.1 = cntOf ks1 ∧ True) = false from decide_eq_false fun x => h2 x.1]
        walk_at "gs"
        refine ⟨by trivial, by trivial, ?_⟩
        have := hstep false (decide_eq_false fun x => h2 x.2).symm
        simpa using this
    · rw [decide_eq_false h1]
      walk_at "gs"
      refine ⟨by trivial, by trivial, ?_⟩
      have := hstep false (decide_eq_false fun x => h1 x.1).symm
      simpa using this
  · intro D hDl
    walk_at "gs"
    rw [show (List.range tb.length).filter (fun j => decide ((tb.getD j (0, [], 0)).1 = F.num s ∧ (tb.getD j (0, [], 0)).2.1 = cntOf ks1)) = places tb (F.num s) (cntOf ks1) from rfl]
    have hplen : (places tb (F.num s) (cntOf ks1)).length ≤ tb.length := by
      have := List.length_filter_le (fun i => decide ((tb.getD i (0, [], 0)).1 = F.num s ∧ (tb.getD i (0, [], 0)).2.1 = cntOf ks1)) (List.range tb.length)
      rw [List.length_range] at this
      exact this
    refine W.mono (Q := fun fl g' ms' => fl = .next ∧ Le g g' ∧ ∃ (tvs' : List Value) (rest : List Nat), ms' = (D, lstR (iVs (((rdOne (F.num s) ks1 tb td).1 :: rest).map fun j : Nat => (j : Int)))) :: (kl, lstR (iVs (ks.map fun k : Nat => (k : Int)))) :: (L, frR (df "_law_read" 67).scope [none, none, some (.ref toldl), some (.ref kl), some (.int s.length 0), some (.str (tx nm) 0), v6, v7, v8, none, some (.bytes (apb (hexd (sum16 ks1))) 0), none, some (.int (fixOf tb ks1) 0), v13, v14, some (.ref D), none, none, none, none, none, none, none, none, none, none, none]) :: (L + 4, celR (some (.ref hdl))) :: (L + 3, celR (some (.ref ld))) :: (L + 2, celR (some (.ref tabl))) :: (L + 1, celR (some (.str (tx l) 0))) :: (tabl, lstR tvs') :: (toldl, lstR dvs) :: ms ∧ TabAt F g' (rdOne (F.num s) ks1 tb td).2.1 tvs') ?_ ?_
    · refine W.gen fun S1 hS1 => ?_
      refine W.ease ?_
      walk_at "go"
      refine w_lenL (by walk_at "has") (by simp [iVs]; (first | lia | omega)) ?_
      rw [show (iVs ((places tb (F.num s) (cntOf ks1)).map fun j : Nat => (j : Int))).length = (places tb (F.num s) (cntOf ks1)).length by simp [iVs]]
      walk_at "go"
      cases hp : places tb (F.num s) (cntOf ks1) with
      | nil =>
        have hr : rdOne (F.num s) ks1 tb td = (tb.length, tb ++ [(F.num s, cntOf ks1, fixOf tb ks1)], td ++ [(tb.length, fixOf tb ks1, (hexd (sum16 ks1)).map (fun d : Nat => (d : Int)), cntOf ks1)]) := by
          unfold rdOne; dsimp only; rw [hp]
        rw [hr] at hS1
        first | refine if_Y (show (((([] : List Nat).length : Nat) : Int) == 0) = true from rfl) ?_ | rw [show (((([] : List Nat).length : Nat) : Int) == 0) = true from rfl]
        walk_at "go"
        refine w_CallMethod (by rfl) (by rfl) (by rfl) ?_
        walk_at "go"
        refine w_getAppend (by walk_at "has") ?_
        walk_at "go"
        refine w_lenL (by walk_at "has") (by (first | lia | omega)) ?_
        rw [htl0]
        walk_at "go"
        refine w_append (by walk_at "upd") rfl (by simp [iVs, sizeLine_eq]) ?_
        walk_at "go"
        refine w_CallMethod (by rfl) (by rfl) (by rfl) ?_
        walk_at "go"
        refine w_getAppend (by walk_at "has") ?_
        walk_at "go"
        refine w_append (by walk_at "upd") rfl (by rw [sizeLine_eq]; (first | lia | omega)) ?_
        walk_at "go"
        walk_at "hid"
        refine .freeze fun g2 l2 htp => .here (hS1 _ _ _ ⟨rfl, l2, _, [], rfl, (hT.le l2).snoc htp (hh.le l2) (hld.le l2)⟩)
      | cons p r =>
        have hr : rdOne (F.num s) ks1 tb td = (p, tb, td ++ [(p, fixOf tb ks1, (hexd (sum16 ks1)).map (fun d : Nat => (d : Int)), cntOf ks1)]) := by
          unfold rdOne; dsimp only; rw [hp]
        rw [hr] at hS1
        first | refine if_N (show (((((p :: r) : List Nat).length : Nat) : Int) == 0) = false from by simp; (first | lia | omega)) ?_ | rw [show (((((p :: r) : List Nat).length : Nat) : Int) == 0) = false from by simp; (first | lia | omega)]
        walk_at "go"
        walk_at "hid"
        exact .here (hS1 _ _ _ ⟨rfl, .refl _, tvs, r, rfl, hT⟩)
    · rintro fl g2 ms' ⟨rfl, l2, tvs', rest, rfl, hT2⟩
      walk_at "hid"
      have hD2 := hD.le l2
      have hdn := hD.length
      refine W.ease ?_
      walk_at "gs"
      refine w_CallMethod (by rfl) (by rfl) (by rfl) ?_
      walk_at "gs"
      refine w_getAppend (by walk_at "has") ?_
      walk_at "gs"
      refine w_subPlain (by with_unfolding_all rfl) (w_itemL (by walk_at "has") (by decide) (by decide) rfl (.int fun t => ?_))
      walk_at "gs"
      refine w_append (by walk_at "upd") rfl (by simp [iVs, sizeLine_eq]; (first | lia | omega)) ?_
      walk_at "gs"
      refine w_CallMethod (by rfl) (by rfl) (by rfl) ?_
      walk_at "gs"
      refine w_getAppend (by walk_at "has") ?_
      walk_at "gs"
      refine w_subPlain (by with_unfolding_all rfl) (w_itemL (by walk_at "has") (by decide) (by decide) rfl (.int fun t => ?_))
      walk_at "gs"
      refine w_ListComp (ix := 1) hE rfl (by decide +kernel) ?_
      walk_at "gs"
      refine w_subCut3 rfl (w_revB (by walk_at "mem") (by simp [apb]; (first | lia | omega)) ?_)
      walk_at "gs"
      refine w_iterBytes fun I It => ?_
      obtain ⟨ds, hds⟩ : ∃ ds, ds = hexd (sum16 ks1) := ⟨_, rfl⟩
      have hd16 : ∀ d ∈ ds, d < 16 := by rw [hds]; exact hexd_lt _
      have hd16r : ∀ d ∈ ds.reverse, d < 16 := fun d hd => hd16 d (List.mem_reverse.mp hd)
      rw [← hds] at It hhx ⊢
      rw [apb_rev] at It ⊢
      have hsz : (apb ds.reverse).size = ds.length := by simp [apb]
      refine CompAt.pure It (by rw [hsz, sizeLine_eq]; (first | lia | omega)) (fun i => iVs ((ds.take i).map fun d : Nat => (d : Int))) rfl ?_ ?_
      · intro i v cenv C hC hi hv
        have hi' : i < ds.length := by rw [hsz] at hi; exact hi
        obtain ⟨_, hget⟩ := apb_get hd16r (i := i) (by simpa using hi')
        rw [hget, show ds.reverse.reverse[i]'(by simpa using hi') = ds[i] by simp] at hv ⊢
        obtain ⟨t1, rfl⟩ := er_int hv
        refine w_testsNil ?_
        rw [if_pos rfl]
        walk_at "gs"
        walk_at "hid"
        refine .here ⟨rfl, rfl, ?_⟩
        rw [show ((65 + ds[i] : Nat) : Int) - 65 = (ds[i] : Int) by (first | lia | omega)]
        exact take_iVs (fun d : Nat => (d : Int)) hi'
      · intro lt hDl
        rw [hsz, List.take_length]
        obtain ⟨dx, tp1, ct1, w1, w2, w3, w4, k1, k2, k3, k4⟩ := id (hld.le l2)
        walk_at "gs"
        refine w_getAttr F.cWs (.inr k1) (.inr k2) F.nNorm rfl (fun v' e => by rw [er_ref e]; rfl) (.ref ?_)
        walk_at "gs"
        refine w_subPlain (by with_unfolding_all rfl) (w_itemT (.inr k3) (by decide) (by decide) rfl (.ref ?_))
        walk_at "gs"
        refine w_listT (.inr k4) ?_ ?_
        · have := cntOf_len ks1
          simp [iVs, sizeLine_eq]; (first | lia | omega)
        walk_at "gs"
        refine w_append (by walk_at "upd") rfl (by rw [sizeLine_eq]; (first | lia | omega)) ?_
        walk_at "gs"
        refine w_lenX (by (first | lia | omega)) ?_
        walk_at "gs"
        refine w_CallMethod (by rfl) (by rfl) (by rfl) ?_
        walk_at "gs"
        rw [count_q]
        walk_at "gs"
        rw [show (s.length : Int) + 2 + (nm.length : Int) + ((nm.count 34 : Nat) : Int) = ((s.length + 2 + nm.length + nm.count 34 : Nat) : Int) by (first | lia | omega)]
        refine w_subCut (w_cutFromS (i := s.length + 2 + nm.length + nm.count 34) (by walk_at "mem") (by rw [sizeLine_eq]; (first | lia | omega)) ?_)
        rw [htl]
        walk_at "gs"
        rw [show iVs (ks.map fun d : Nat => (d : Int)) ++ [Value.int (((rdOne (F.num s) ks1 tb td).1 : Nat) : Int) 0] = iVs ((ks ++ [(rdOne (F.num s) ks1 tb td).1]).map fun d : Nat => (d : Int)) by rw [iVs_snoc, List.map_append]; rfl]
        walk_at "hid"
        refine .drop (.cons _ (.refl _)) (.freeze fun g3 l3 htp => .freeze fun g4 l4 hr4 => .freeze fun g5 l5 hlt5 => .drop (.cons _ (.cons _ (.refl _))) (.here ⟨trivial, l2.trans (l3.trans (l4.trans l5)), tvs', _, _, _, _, _, _, _, _, _, _, _, _, _, rfl, hT2.le (l3.trans (l4.trans l5)), ?_⟩))
        rw [rdOne_td]
        exact (hD2.le (l3.trans (l4.trans l5))).snoc (htp.le (l4.trans l5)) (by rw [← hds]; exact hlt5) (hr4.le l5)
end

section
variable {P : Setup} (F : Facts P)
include F
theorem c_node {n : Nat} {g : Heap} {ms : Ms} {env : Env} {L row kl tabl toldl : Addr} {ks ks1 : List Nat} {s nm l tl : List Nat} {v7 v8 v10 v12 v13 v14 v15 hv lv : Option Value} {tvs dvs : List Value} {tb : List Ent} {td : List Tol}
    (hE : Ev env (df "_law_read" 67).scope L (rdCs L)) (hs : s ∈ signs) (hT : TabAt F g tb tvs) (hD : TolAt g td dvs) (h14 : tb.length ≤ 13) (h14' : td.length ≤ 14) (hfx : fixOk tb) (hks : ∀ x ∈ ks1, x < tb.length) (hk8 : ks1.length ≤ 8) (hks8 : ks.length ≤ 100)
    (hl : l.length ≤ 20000) (hn : nm.length ≤ 20000) (htl : l.drop (s.length + 2 + nm.length + nm.count 34) = tl) :
    W P (n + 10) g ((row, lstR (iVs ((F.num s : Int) :: ks1.map fun x : Nat => 256 + (x : Int)))) :: (kl, lstR (iVs (ks.map fun k : Nat => (k : Int)))) :: (L, rdFr toldl kl (some (.int s.length 0)) (some (.str (tx nm) 0)) (some (.ref row)) v7 v8 v10 v12 v13 v14 v15) :: (L + 4, celR hv) :: (L + 3, celR lv) :: (L + 2, celR (some (.ref tabl))) :: (L + 1, celR (some (.str (tx l) 0))) :: (tabl, lstR tvs) :: (toldl, lstR dvs) :: ms)
      (execs (rdB 4) env) (fun fl g' ms' => fl = .next ∧ Le g g' ∧ ∃ (tvs' dvs' : List Value) (v4 v5 v6 v7 v8 v10 v12 v13 v14 v15 hv lv : Option Value), ms' = (kl, lstR (iVs ((ks ++ [(rdOne (F.num s) ks1 tb td).1]).map fun k : Nat => (k : Int)))) :: (L, rdFr toldl kl v4 v5 v6 v7 v8 v10 v12 v13 v14 v15) :: (L + 4, celR hv) :: (L + 3, celR lv) :: (L + 2, celR (some (.ref tabl))) :: (L + 1, celR (some (.str (tx tl) 0))) :: (tabl, lstR tvs') :: (toldl, lstR dvs') :: ms ∧ TabAt F g' (rdOne (F.num s) ks1 tb td).2.1 tvs' ∧ TolAt g' (rdOne (F.num s) ks1 tb td).2.2 dvs') := by
  conv in (rdB _) => whnf
  unfold rdFr
  have q0 : Str.ofString "" = tx [] := by decide +kernel
  have q2 : Str.ofString " " = tx [32] := by decide +kernel
  have q3 : Str.ofString "\t" = tx [9] := by decide +kernel
  have q4 : Str.ofString "x" = tx [120] := by decide +kernel
  have q5 : Str.ofString "\"" = tx [34] := by decide +kernel
  rw [q0, q2, q3, q4, q5]
  have hnum := F.numLt s hs
  have hkb : ∀ i (h : i < ks1.length), ks1[i] ≤ 13 := fun i h => by have := hks _ (List.getElem_mem h); (first | lia | omega)
  obtain ⟨rw_, hrw⟩ : ∃ x, x = (F.num s : Int) :: ks1.map fun x : Nat => 256 + (x : Int) := ⟨_, rfl⟩
  have hrl : rw_.length = ks1.length + 1 := by rw [hrw]; simp
  have hr0 : ∀ i (h : i < rw_.length), rw_[i] = if h0 : i = 0 then (F.num s : Int) else 256 + (ks1[i - 1]'(by (first | lia | omega)) : Int) := by
    intro i h
    subst hrw
    cases i with
    | zero => rfl
    | succ i => simp
  rw [← hrw]
  refine W.freeze fun g1 l1 hrow => ?_
  have hT1 := hT.le l1
  have hD1 := hD.le l1
  have hrz : (iVs rw_).length ≤ sizeLine := by simp [iVs, sizeLine_eq]; (first | lia | omega)
  walk_at "gs"
  refine w_CallMethod (by rfl) (by rfl) (by rfl) ?_
  walk_at "gs"
  refine w_ListComp (ix := 1) hE rfl (by decide +kernel) ?_
  walk_at "gs"
  refine w_iterList hrow fun I It => ?_
  refine CompAt.pure It hrz (fun i => sVs ((ks1.take (i - 1)).map fun k => tx (List.replicate k 32 ++ [9]))) rfl ?_ ?_
  · intro i v cenv C hC hi hv
    have hi' : i < rw_.length := by simpa [iVs] using hi
    have hit : (iVs rw_).getD i .none = .int rw_[i] 0 := by simp [iVs, List.getD_eq_getElem?_getD, hi']
    rw [hit] at hv ⊢
    obtain ⟨t1, rfl⟩ := er_int hv
    refine w_testsOne (w_tValue ?_)
    walk_at "go"
    first | refine W.nEq (show n + 10 = (n + 9) + 1 by (first | lia | omega)) ?_ | rw [show n + 10 = (n + 9) + 1 by (first | lia | omega)]
    refine c_nonterminal F ?_
    walk_at "go"
    have hri := hr0 i hi'
    by_cases h0 : i = 0
    · rw [dif_pos h0] at hri
      rw [hri, show decide ((256 : Int) ≤ (F.num s : Int)) = false from decide_eq_false (by (first | lia | omega))]
      walk_at "br"
      subst h0
      exact ⟨trivial, trivial, rfl⟩
    · rw [dif_neg h0] at hri
      rw [hri, show decide ((256 : Int) ≤ 256 + (ks1[i - 1] : Int)) = true from decide_eq_true (by (first | lia | omega))]
      walk_at "go"
      obtain ⟨hm1, hm2⟩ := mul_blank ks1[i - 1] (hkb (i - 1) (by (first | lia | omega)))
      rw [show (256 : Int) + (ks1[i - 1] : Int) - 256 = (ks1[i - 1] : Int) by (first | lia | omega)]
      refine w_mulS hm1 ?_
      rw [hm2]
      walk_at "go"
      refine w_addX (by have := hkb (i - 1) (by (first | lia | omega)); simp; (first | lia | omega)) ?_
      walk_at "go"
      walk_at "hid"
      refine .here ⟨rfl, rfl, ?_⟩
      rw [show i + 1 - 1 = (i - 1) + 1 by (first | lia | omega)]
      exact take_sVs (fun k => tx (List.replicate k 32 ++ [9])) (show i - 1 < ks1.length by (first | lia | omega))
  · intro D hDl
    walk_at "go"
    have hll := lead_len ks1 hkb
    have hlf := lead_flat ks1
    rw [show (iVs rw_).length - 1 = ks1.length by simp [iVs, hrl], List.take_length, show (ks1.map fun k => tx (List.replicate k 32 ++ [9])) = (ks1.map fun k => List.replicate k 32 ++ [9]).map tx by rw [List.map_map]; rfl]
    refine w_join (by walk_at "has") (by rw [sum_lens, tx_len, List.length_nil, Nat.mul_zero]; (first | lia | omega)) ?_
    rw [join_none]
    walk_at "go"
    refine w_addX (by rw [List.length_singleton]; (first | lia | omega)) ?_
    rw [show (ks1.map fun k => List.replicate k 32 ++ [9]).flatten ++ [120] = leadText ks1 from rfl]
    walk_at "go"
    first | refine W.nEq (show n + 10 = (n + 8) + 2 by (first | lia | omega)) ?_ | rw [show n + 10 = (n + 8) + 2 by (first | lia | omega)]
    refine c_init F (lead_ascii ks1) (by (first | lia | omega)) fun ld g2 l2 hld => ?_
    rw [lead_end, show (wsRun (leadText ks1) [] 0).1 = cntOf ks1 from rfl] at hld
    refine W.drop (.cons _ (.refl _)) ?_
    have hT2 := hT1.le l2
    have hD2 := hD1.le l2
    have hrow2 := hrow.le l2
    walk_at "gs"
    refine w_ListComp (ix := 1) hE rfl (by decide +kernel) ?_
    walk_at "gs"
    refine w_iterList hrow2 fun I It => ?_
    refine CompAt.pure It hrz (fun i => iVs ((ks1.take (i - 1)).map fun k => ((16 ^ k : Nat) : Int))) rfl ?_ ?_
    · intro i v cenv C hC hi hv
      have hi' : i < rw_.length := by simpa [iVs] using hi
      have hit : (iVs rw_).getD i .none = .int rw_[i] 0 := by simp [iVs, List.getD_eq_getElem?_getD, hi']
      rw [hit] at hv ⊢
      obtain ⟨t1, rfl⟩ := er_int hv
      refine w_testsOne (w_tNot (w_tValue ?_))
      walk_at "go"
      first | refine W.nEq (show n + 8 + 2 = (n + 9) + 1 by (first | lia | omega)) ?_ | rw [show n + 8 + 2 = (n + 9) + 1 by (first | lia | omega)]
      refine c_terminal F ?_
      walk_at "go"
      have hri := hr0 i hi'
      by_cases h0 : i = 0
      · rw [dif_pos h0] at hri
        rw [hri, show decide ((F.num s : Int) < 256) = true from decide_eq_true (by (first | lia | omega))]
        walk_at "br"
        subst h0
        exact ⟨trivial, trivial, rfl⟩
      · rw [dif_neg h0] at hri
        have hb := hkb (i - 1) (by (first | lia | omega))
        rw [hri, show decide (256 + (ks1[i - 1] : Int) < 256) = false from decide_eq_false (by (first | lia | omega))]
        walk_at "go"
        rw [show (256 : Int) + (ks1[i - 1] : Int) - 256 = (ks1[i - 1] : Int) by (first | lia | omega)]
        refine w_powI (Int.natCast_nonneg _) (by (first | lia | omega)) (by decide) ?_ ?_
        · have : (Builtin.Int.intBits 16 : Int) = 5 := by decide +kernel
          rw [this]; (first | lia | omega)
        · walk_at "go"
          walk_at "hid"
          refine .here ⟨rfl, rfl, ?_⟩
          rw [show i + 1 - 1 = (i - 1) + 1 by (first | lia | omega), Int.toNat_natCast, show (16 : Int) ^ ks1[i - 1] = ((16 ^ ks1[i - 1] : Nat) : Int) by simp]
          exact take_iVs (fun k => ((16 ^ k : Nat) : Int)) (show i - 1 < ks1.length by (first | lia | omega))
    · intro D hDl
      walk_at "go"
      rw [show (iVs rw_).length - 1 = ks1.length by simp [iVs, hrl], List.take_length]
      have hs16 := sum16_take ks1 hkb hk8
      refine w_sum (by walk_at "has") (fun j _ => by have := hs16 j; unfold InLong; (first | lia | omega)) (fun i hi => ?_) ?_
      · obtain ⟨k, hk, rfl⟩ := List.mem_map.mp hi
        obtain ⟨m, hm, rfl⟩ := List.getElem_of_mem hk
        have h1 := hkb m hm
        have h2 : 16 ^ ks1[m] ≤ 16 ^ 13 := Nat.pow_le_pow_right (by decide) h1
        rw [show (16 : Nat) ^ 13 = 4503599627370496 by decide] at h2
        generalize 16 ^ ks1[m] = z at h2 ⊢
        unfold InLong; (first | lia | omega)
      rw [sum16_int]
      have hsb : sum16 ks1 < 16 ^ 15 := by
        have := hs16 ks1.length
        rw [show (ks1.map fun k => ((16 ^ k : Nat) : Int)).take ks1.length = ks1.map fun k => ((16 ^ k : Nat) : Int) from List.take_of_length_le (by simp), sum16_int] at this
        have e : (16 : Nat) ^ 15 = 1152921504606846976 := by decide
        (first | lia | omega)
      have hhx := hexd_len 15 _ hsb
      walk_at "go"
      first | refine W.nEq (show n + 8 + 2 = (n + 9) + 1 by (first | lia | omega)) ?_ | rw [show n + 8 + 2 = (n + 9) + 1 by (first | lia | omega)]
      refine c_AP F (by (first | lia | omega)) ?_
      walk_at "gs"
      refine W.drop (.cons _ (.refl _)) ?_
      refine w_Assign (hs := by rw [ev_eta hE]; rfl) (w_ListComp (ix := 1) hE rfl (by decide +kernel) ?_)
      walk_at "gs"
      refine w_iterList hrow2 fun I It => ?_
      refine CompAt.pure It hrz (fun i => if i = 0 then [] else iVs [(F.num s : Int)]) rfl ?_ ?_
      · intro i v cenv C hC hi hv
        have hi' : i < rw_.length := by simpa [iVs] using hi
        have hit : (iVs rw_).getD i .none = .int rw_[i] 0 := by simp [iVs, List.getD_eq_getElem?_getD, hi']
        rw [hit] at hv ⊢
        obtain ⟨t1, rfl⟩ := er_int hv
        refine w_testsOne (w_tValue ?_)
        walk_at "go"
        refine c_terminal F ?_
        walk_at "go"
        have hri := hr0 i hi'
        by_cases h0 : i = 0
        · rw [dif_pos h0] at hri
          rw [hri, show decide ((F.num s : Int) < 256) = true from decide_eq_true (by (first | lia | omega))]
          walk_at "go"
          subst h0
          walk_at "hid"
          exact .here ⟨rfl, rfl, rfl⟩
        · rw [dif_neg h0] at hri
          have hb := hkb (i - 1) (by (first | lia | omega))
          rw [hri, show decide (256 + (ks1[i - 1] : Int) < 256) = false from decide_eq_false (by (first | lia | omega))]
          walk_at "br"
          refine ⟨trivial, trivial, ?_⟩
          rw [if_neg h0, if_neg (Nat.succ_ne_zero i)]
      · intro hdl hDl
        walk_at "red"
        rw [if_neg (by simp [iVs, hrl])]
        refine W.freeze fun g3 l3 hhd => ?_
        have hT3 := hT2.le l3
        have hD3 := hD2.le l3
        have hrow3 := hrow2.le l3
        have hld3 := hld.le l3
        walk_at "gs"
        obtain ⟨ds, hds⟩ : ∃ ds, ds = hexd (sum16 ks1) := ⟨_, rfl⟩
        have hd16 : ∀ d ∈ ds, d < 16 := by rw [hds]; exact hexd_lt _
        refine W.mono (Q := fun fl g' ms' => fl = .next ∧ g' = g3 ∧ ∃ v13 v14, ms' = (kl, lstR (iVs (ks.map fun k : Nat => (k : Int)))) :: (L, frR (df "_law_read" 67).scope [none, none, some (.ref toldl), some (.ref kl), some (.int s.length 0), some (.str (tx nm) 0), some (.ref row), v7, v8, none, some (.bytes (apb (hexd (sum16 ks1))) 0), none, some (.int (((hexd (sum16 ks1)).reverse.map fun d => (fac d : Int)).foldl (· * ·) 1) 0), v13, v14, v15, none, none, none, none, none, none, none, none, none, none, none]) :: (L + 4, celR (some (.ref hdl))) :: (L + 3, celR (some (.ref ld))) :: (L + 2, celR (some (.ref tabl))) :: (L + 1, celR (some (.str (tx l) 0))) :: (tabl, lstR tvs) :: (toldl, lstR dvs) :: ms) (W.gen fun S0 hS0 => w_For ?_) ?_
        · walk_at "gs"
          refine w_iterBytes fun I It => ?_
          rw [← hds] at It ⊢
          refine forLoopS (J := fun i g' ms' => g' = g3 ∧ ∃ v13 v14, ms' = (kl, lstR (iVs (ks.map fun k : Nat => (k : Int)))) :: (L, frR (df "_law_read" 67).scope [none, none, some (.ref toldl), some (.ref kl), some (.int s.length 0), some (.str (tx nm) 0), some (.ref row), v7, v8, none, some (.bytes (apb (ds)) 0), none, some (.int (((ds.reverse.take i).map fun d => (fac d : Int)).foldl (· * ·) 1) 0), v13, v14, v15, none, none, none, none, none, none, none, none, none, none, none]) :: (L + 4, celR (some (.ref hdl))) :: (L + 3, celR (some (.ref ld))) :: (L + 2, celR (some (.ref tabl))) :: (L + 1, celR (some (.str (tx l) 0))) :: (tabl, lstR tvs) :: (toldl, lstR dvs) :: ms) It ?_ ?_ ?_
          · rintro i v g₁ ms₁ S hS hi le hv ⟨rfl, w13, w14, rfl⟩
            have hsz : (apb ds).size = ds.length := by simp [apb]
            have hi' : i < ds.length := by rw [hsz] at hi; exact hi
            obtain ⟨_, hget⟩ := apb_get hd16 hi'
            rw [hget] at hv
            obtain ⟨t1, rfl⟩ := er_int hv
            have hir : i < ds.reverse.length := by simpa using hi'
            have hd := hd16 _ (List.mem_reverse.mp (List.getElem_mem hir))
            obtain ⟨d, hdd⟩ : ∃ d, d = ds.reverse[i] := ⟨_, rfl⟩
            obtain ⟨fx, hfxe⟩ : ∃ fx, fx = (((ds.reverse.take i).map fun d => (fac d : Int)).foldl (· * ·) 1) := ⟨_, rfl⟩
            have hstep := take_foldl (fun d => (fac d : Int)) hir 1
            rw [← hfxe, ← hdd] at hstep
            rw [hstep] at hS
            rw [← hfxe]
            rw [← hdd] at hd ⊢
            walk_at "gs"
            refine W.mono (Q := fun fl g' ms' => fl = .next ∧ g' = g₁ ∧ ∃ v13 v14, ms' = (kl, lstR (iVs (ks.map fun k : Nat => (k : Int)))) :: (L, frR (df "_law_read" 67).scope [none, none, some (.ref toldl), some (.ref kl), some (.int s.length 0), some (.str (tx nm) 0), some (.ref row), v7, v8, none, some (.bytes (apb (ds)) 0), none, some (.int (fx * (fac d : Int)) 0), v13, v14, v15, none, none, none, none, none, none, none, none, none, none, none]) :: (L + 4, celR (some (.ref hdl))) :: (L + 3, celR (some (.ref ld))) :: (L + 2, celR (some (.ref tabl))) :: (L + 1, celR (some (.str (tx l) 0))) :: (tabl, lstR tvs) :: (toldl, lstR dvs) :: ms) (W.gen fun S0 hS0 => w_For ?_) ?_
            · walk_at "gs"
              rw [show (((65 + d : Nat) : Int) - 64) = ((d + 1 : Nat) : Int) by (first | lia | omega)]
              refine w_callRange2 fun rg => ?_
              refine w_iterRange (N := d - 1) (by split <;> (first | lia | omega)) (by decide) (by decide) (by (first | lia | omega)) (by (first | lia | omega)) fun I r It => ?_
              refine forLoopS (J := fun j g' ms' => g' = g₁ ∧ ∃ v13 v14, ms' = (kl, lstR (iVs (ks.map fun k : Nat => (k : Int)))) :: (L, frR (df "_law_read" 67).scope [none, none, some (.ref toldl), some (.ref kl), some (.int s.length 0), some (.str (tx nm) 0), some (.ref row), v7, v8, none, some (.bytes (apb (ds)) 0), none, some (.int (fx * (fac (j + 1) : Int)) 0), v13, v14, v15, none, none, none, none, none, none, none, none, none, none, none]) :: (L + 4, celR (some (.ref hdl))) :: (L + 3, celR (some (.ref ld))) :: (L + 2, celR (some (.ref tabl))) :: (L + 1, celR (some (.str (tx l) 0))) :: (tabl, lstR tvs) :: (toldl, lstR dvs) :: ms) It ?_ ?_ ?_
              · rintro j v g₂ ms₂ S hS hj le hv ⟨rfl, u13, u14, rfl⟩
                obtain ⟨t1, rfl⟩ := er_int hv
                walk_at "gs"
                refine w_imulI (.of_right (bits_small j (by (first | lia | omega)))) ?_
                walk_at "gs"
                rw [show fx * (fac (j + 1) : Int) * (2 + (j : Int)) = fx * (fac (j + 1 + 1) : Int) by
                  rw [show fac (j + 1 + 1) = (j + 1 + 1) * fac (j + 1) from rfl, Int.natCast_mul, Int.mul_assoc, Int.mul_comm (fac (j + 1) : Int)]; congr 2; (first | lia | omega)]
                walk_at "hid"
                exact .here (hS _ _ _ ⟨rfl, _, _, rfl⟩)
              · rintro g₂ ms₂ le ⟨rfl, u13, u14, rfl⟩
                refine hS0 _ _ _ ⟨rfl, rfl, u13, u14, ?_⟩
                have : fac (d - 1 + 1) = fac d := by
                  cases d with
                  | zero => rfl
                  | succ d => rfl
                rw [this]
              · refine ⟨rfl, some (.int ((65 + d : Nat) : Int) 0), w14, ?_⟩
                rw [show ((fac (0 + 1) : Nat) : Int) = 1 from rfl, Int.mul_one]
            · rintro fl g' ms' ⟨rfl, rfl, v13', v14', rfl⟩
              walk_at "hid"
              walk_at "gs"
              walk_at "hid"
              exact .here (hS _ _ _ ⟨rfl, _, _, rfl⟩)
          · rintro g₁ ms₁ le ⟨rfl, w13, w14, rfl⟩
            refine hS0 _ _ _ ⟨rfl, rfl, w13, w14, ?_⟩
            rw [List.take_of_length_le (by simp [apb]), hds]
          · exact ⟨rfl, _, _, rfl⟩
        · rintro fl g3 ms' ⟨rfl, rfl, v13, v14, rfl⟩
          walk_at "hid"
          walk_at "gs"
          obtain ⟨f0, hf0⟩ : ∃ f0, f0 = ((hexd (sum16 ks1)).reverse.map fun d => (fac d : Int)).foldl (· * ·) 1 := ⟨_, rfl⟩
          rw [← hf0]
          refine W.mono (Q := fun fl g' ms' => fl = .next ∧ Le g3 g' ∧ ∃ v8, ms' = (kl, lstR (iVs (ks.map fun k : Nat => (k : Int)))) :: (L, frR (df "_law_read" 67).scope [none, none, some (.ref toldl), some (.ref kl), some (.int s.length 0), some (.str (tx nm) 0), some (.ref row), v7, v8, none, some (.bytes (apb (hexd (sum16 ks1))) 0), none, some (.int (fixOf tb ks1) 0), v13, v14, v15, none, none, none, none, none, none, none, none, none, none, none]) :: (L + 4, celR (some (.ref hdl))) :: (L + 3, celR (some (.ref ld))) :: (L + 2, celR (some (.ref tabl))) :: (L + 1, celR (some (.str (tx l) 0))) :: (tabl, lstR tvs) :: (toldl, lstR dvs) :: ms) (W.gen fun S0 hS0 => w_For ?_) ?_
          · walk_at "gs"
            refine w_subCut (w_cutFromL (j := 1) (by walk_at "mem") (by walk_at "has") hrz ?_)
            intro cut
            rw [show (iVs rw_).drop 1 = iVs (ks1.map fun x : Nat => 256 + (x : Int)) by rw [hrw]; simp [iVs]]
            refine W.freeze fun g4 l4 hcut => ?_
            refine W.drop (.cons _ (.refl _)) ?_
            refine w_iterList hcut fun I It => ?_
            refine forLoopS (J := fun i g' ms' => g' = g4 ∧ ∃ v8, ms' = (kl, lstR (iVs (ks.map fun k : Nat => (k : Int)))) :: (L, frR (df "_law_read" 67).scope [none, none, some (.ref toldl), some (.ref kl), some (.int s.length 0), some (.str (tx nm) 0), some (.ref row), v7, v8, none, some (.bytes (apb (hexd (sum16 ks1))) 0), none, some (.int (((ks1.take i).map fun k => (tb.getD k (0, [], 0)).2.2).foldl (· * ·) f0) 0), v13, v14, v15, none, none, none, none, none, none, none, none, none, none, none]) :: (L + 4, celR (some (.ref hdl))) :: (L + 3, celR (some (.ref ld))) :: (L + 2, celR (some (.ref tabl))) :: (L + 1, celR (some (.str (tx l) 0))) :: (tabl, lstR tvs) :: (toldl, lstR dvs) :: ms) It ?_ ?_ ?_
            · rintro i v g₁ ms₁ S hS hi le hv ⟨rfl, w8, rfl⟩
              have hi' : i < ks1.length := by simpa [iVs] using hi
              have hit : (iVs (ks1.map fun x : Nat => 256 + (x : Int))).getD i .none = .int (256 + (ks1[i] : Int)) 0 := by simp [iVs, List.getD_eq_getElem?_getD, hi']
              rw [hit] at hv
              obtain ⟨t1, rfl⟩ := er_int hv
              have hlt := hks _ (List.getElem_mem hi')
              obtain ⟨e, he⟩ : ∃ e, tb[ks1[i]]? = some e := ⟨_, List.getElem?_eq_getElem hlt⟩
              obtain ⟨tp, hp, lp, hv1, hv2, hv3, hv4⟩ := (hT3.le l4).get he
              have hed : (tb.getD ks1[i] (0, [], 0)).2.2 = e.2.2 := by rw [List.getD_eq_getElem?_getD, he]; rfl
              have hstep := take_foldl (fun k => (tb.getD k (0, [], 0)).2.2) hi' f0
              rw [hstep] at hS
              walk_at "gs"
              rw [show (256 : Int) + (ks1[i] : Int) - 256 = (ks1[i] : Int) by (first | lia | omega)]
              refine w_subPlain (by with_unfolding_all rfl) (w_itemL (by walk_at "has") (Int.natCast_nonneg _) (by (first | lia | omega)) (by rw [Int.toNat_natCast]; exact hv1) (.ref ?_))
              walk_at "gs"
              refine w_subPlain (by with_unfolding_all rfl) (w_itemT (.inr hv2) (by decide) (by decide) rfl (.int fun t => ?_))
              walk_at "gs"
              refine w_imulI (.of_right (hfx e (List.mem_of_getElem? he))) ?_
              rw [hed] at hS
              walk_at "gs"
              walk_at "hid"
              exact .here (hS _ _ _ ⟨rfl, _, rfl⟩)
            · rintro g₁ ms₁ le ⟨rfl, w8, rfl⟩
              refine hS0 _ _ _ ⟨rfl, l4, w8, ?_⟩
              rw [List.take_of_length_le (by simp [iVs]), hf0]
              unfold fixOf
              rw [List.foldl_append]
            · exact ⟨rfl, _, rfl⟩
          · rintro fl g4 ms' ⟨rfl, l4, v8, rfl⟩
            walk_at "hid"
            have hT4 := hT3.le l4
            have hD4 := hD3.le l4
            have hhd4 := hhd.le l4
            have hld4 := hld3.le l4
            first | refine W.nEq (show n + 9 + 1 = n + 10 by (first | lia | omega)) ?_ | rw [show n + 9 + 1 = n + 10 by (first | lia | omega)]
            exact W.mono (c_tail F hE hT4 hD4 h14 h14' hks8 hhd4 hld4 hhx (by (first | lia | omega)) hl hn htl) fun fl g5 ms5 z => ⟨z.1, l1.trans (l2.trans (l3.trans (l4.trans z.2.1))), z.2.2⟩
end

section
variable {P : Setup} (F : Facts P)
include F
theorem c_read' : ∀ (m : Nat) (f : Fo), f.size < m → f.size ≤ 8 → f.all (· ∈ signs) → ∀ {n : Nat} {g : Heap} {ms : Ms} {Q : Value → Heap → Ms → Prop} {t : Tok} {tabl toldl : Addr} {tb : List Ent} {td : List Tol} {tvs dvs : List Value},
    tb.length + f.size ≤ 14 → td.length + f.size ≤ 14 → rdOk F.num f tb td → TabAt F g tb tvs → TolAt g td dvs →
    (∀ kl g' tvs' dvs', Le g g' → At g' kl (lstR (iVs ((rd F.num f tb td).1.map fun k : Nat => (k : Int)))) → TabAt F g' (rd F.num f tb td).2.1 tvs' → TolAt g' (rd F.num f tb td).2.2 dvs' → Q (.ref kl) g' ((tabl, lstR tvs') :: (toldl, lstR dvs') :: ms)) →
    W P (n + f.size + 20) g ((tabl, lstR tvs) :: (toldl, lstR dvs) :: ms) (call (.ref F.aRead) [.str (tx (wrF f)) t, .ref tabl, .ref toldl]) Q := by
  intro m
  induction m with
  | zero => intro f hf; (first | lia | omega)
  | succ m ih =>
    intro f hf h8 hall n g ms Q t tabl toldl tb td tvs dvs htb htd hok hT hD h
    refine w_fnC F.fRead (xs := ["text", "table", "told"]) (vs := [none, none, some (.ref toldl), none, none, none, none, none, none, none, none, none, none, none, none, none, none, none, none, none, none, none, none, none, none, none, none]) (cs := fun L => [("heads", L + 4), ("lead", L + 3), ("table", L + 2), ("text", L + 1)]) (mcs := fun L => [(L + 4, celR none), (L + 3, celR none), (L + 2, celR (some (.ref tabl))), (L + 1, celR (some (.str (tx (wrF f)) 0)))]) (by decide +kernel) rfl rfl (fun L => rfl) (fun L => rfl) fun env L hE => W.ease ?_
    conv in (df _ _).body => whnf
    walk_at "gs"
    rename_i kl
    have q0 : Str.ofString "" = tx [] := by decide +kernel
    have q1 : Str.ofString "257 " = tx [50, 53, 55, 32] := by decide +kernel
    have q2 : Str.ofString " " = tx [32] := by decide +kernel
    have q3 : Str.ofString "\t" = tx [9] := by decide +kernel
    have q4 : Str.ofString "x" = tx [120] := by decide +kernel
    have q5 : Str.ofString "\"" = tx [34] := by decide +kernel
    refine W.mono (Q := fun fl g' ms' => fl = .next ∧ Le g g' ∧ ∃ (tvs' dvs' : List Value) (v4 v5 v6 v7 v8 v10 v12 v13 v14 v15 hv lv tv : Option Value), ms' = (kl, lstR (iVs ((rd F.num f tb td).1.map fun k : Nat => (k : Int)))) :: (L, frR (df "_law_read" 67).scope [none, none, some (.ref toldl), some (.ref kl), v4, v5, v6, v7, v8, none, v10, none, v12, v13, v14, v15, none, none, none, none, none, none, none, none, none, none, none]) :: (L + 4, celR hv) :: (L + 3, celR lv) :: (L + 2, celR (some (.ref tabl))) :: (L + 1, celR tv) :: (tabl, lstR tvs') :: (toldl, lstR dvs') :: ms ∧ TabAt F g' (rd F.num f tb td).2.1 tvs' ∧ TolAt g' (rd F.num f tb td).2.2 dvs') (w_WhileS (J := fun κ g' ms' => ∃ (r : Fo) (tb' : List Ent) (td' : List Tol) (ks : List Nat) (tvs' dvs' : List Value) (v4 v5 v6 v7 v8 v10 v12 v13 v14 v15 hv lv : Option Value), κ = r.size ∧ Le g g' ∧ ms' = (kl, lstR (iVs (ks.map fun k : Nat => (k : Int)))) :: (L, frR (df "_law_read" 67).scope [none, none, some (.ref toldl), some (.ref kl), v4, v5, v6, v7, v8, none, v10, none, v12, v13, v14, v15, none, none, none, none, none, none, none, none, none, none, none]) :: (L + 4, celR hv) :: (L + 3, celR lv) :: (L + 2, celR (some (.ref tabl))) :: (L + 1, celR (some (.str (tx (wrF r)) 0))) :: (tabl, lstR tvs') :: (toldl, lstR dvs') :: ms ∧ TabAt F g' tb' tvs' ∧ TolAt g' td' dvs' ∧ r.all (· ∈ signs) ∧ tb'.length + r.size ≤ 14 ∧ td'.length + r.size ≤ 14 ∧ r.size ≤ f.size ∧ ks.length + r.size ≤ f.size ∧ rdOk F.num r tb' td' ∧ rd F.num f tb td = (ks ++ (rd F.num r tb' td').1, (rd F.num r tb' td').2)) f.size ?_ ?_) ?_
    · exact ⟨f, tb, td, [], tvs, dvs, none, none, none, none, none, none, none, none, none, none, none, none, rfl, .refl _, rfl, hT, hD, hall, htb, htd, Nat.le_refl _, by simp, hok, rfl⟩
    · rintro κ g₁ ms₁ S E hS hN le ⟨r, tb', td', ks, tvs', dvs', v4, v5, v6, v7, v8, v10, v12, v13, v14, v15, hv, lv, rfl, leg, rfl, hT', hD', hra, htb', htd', hrf, hksl, hrok, hrd⟩
      rw [q0, q1, q2, q3, q4, q5]
      walk_at "gs"
      cases r with
      | nil =>
        first | refine if_Y (show decide (wrF .nil = []) = true from rfl) ?_ | rw [show decide (wrF .nil = []) = true from rfl]
        walk_at "gs"
        have e : rd F.num f tb td = (ks, tb', td') := by rw [hrd]; simp [rd]
        rw [e] at hN
        exact hN _ _ ⟨rfl, leg, tvs', dvs', _, _, _, _, _, _, _, _, _, _, _, _, _, rfl, hT', hD'⟩
      | cons s k r =>
        first | refine if_N (show decide (wrF (.cons s k r) = []) = false from decide_eq_false (by simp [wrF])) ?_ | rw [show decide (wrF (.cons s k r) = []) = false from decide_eq_false (by simp [wrF])]
        walk_at "br"
        refine W.ease ?_
        obtain ⟨hs1, hs3, hs34, hsh⟩ := signs_ok s hra.1
        have hrsz : (Fo.cons s k r).size = 1 + k.size + r.size := rfl
        have hwl : (wrF (.cons s k r)).length ≤ 20000 := by
          refine Nat.le_trans (wrF_len _ ?_) ?_
          · exact Fo.all_mono (fun x hx => (signs_ok x hx).2.1) hra
          · have : (Fo.cons s k r).size ≤ 8 := by (first | lia | omega)
            calc 5 * (Fo.cons s k r).size * 2 ^ (Fo.cons s k r).size ≤ 5 * 8 * 2 ^ (Fo.cons s k r).size := Nat.mul_le_mul_right _ (by (first | lia | omega))
              _ ≤ 5 * 8 * 2 ^ 8 := Nat.mul_le_mul_left _ (Nat.pow_le_pow_right (by decide) this)
              _ ≤ 20000 := by decide
        obtain ⟨l, hl⟩ : ∃ l, l = wrF (.cons s k r) := ⟨_, rfl⟩
        rw [← hl] at hwl ⊢
        walk_at "gs"
        refine w_ListComp (ix := 1) hE rfl (by decide +kernel) ?_
        walk_at "gs"
        refine W.freeze fun g2 l2 htu => ?_
        refine w_iterTuple htu fun I It => ?_
        refine CompAt.pure It (by simp [sizeLine_eq]) (fun i => iVs (((List.range i).filter fun j => (F.tab (tx (l.take (j + 1)))).isSome).map fun j => ((j + 1 : Nat) : Int))) rfl ?_ ?_
        · intro i v cenv C hC hi hv
          have hi3 : i < 3 := hi
          have hit : [Value.int 1 0, Value.int 2 0, Value.int 3 0].getD i .none = .int ((i + 1 : Nat) : Int) 0 := by
            match i, hi3 with
            | 0, _ => rfl
            | 1, _ => rfl
            | 2, _ => rfl
          rw [hit] at hv ⊢
          obtain ⟨t1, rfl⟩ := er_int hv
          refine w_testsOne (W.ease ?_)
          walk_at "go"
          refine w_subCut (w_cutToS (j := i + 1) (by walk_at "mem") (by rw [sizeLine_eq]; (first | lia | omega)) ?_)
          walk_at "go"
          refine w_inTab F.hTab ?_
          walk_at "go"
          walk_at "hid"
          refine .drop (.cons _ (.refl _)) (.here ?_)
          cases hb : (F.tab (tx (l.take (i + 1)))).isSome with
          | true =>
            rw [if_pos rfl]
            walk_at "go"
            walk_at "hid"
            refine .here ⟨rfl, rfl, ?_⟩
            rw [List.range_succ, List.filter_append, List.filter_cons, if_pos hb]
            simp [iVs]
          | false =>
            rw [if_neg Bool.false_ne_true]
            refine ⟨rfl, rfl, ?_⟩
            rw [List.range_succ, List.filter_append, List.filter_cons, hb]
            simp
        · intro D hDl
          walk_at "go"
          have hfl : ((List.range [Value.int 1 0, Value.int 2 0, Value.int 3 0].length).filter fun j => (F.tab (tx (l.take (j + 1)))).isSome).length ≤ 3 := List.length_filter_le _ _
          refine w_addL (by walk_at "has") (by walk_at "has") (by simp only [iVs, sizeLine_eq, List.length_map, List.length_cons, List.length_nil]; simp only [List.length_cons, List.length_nil] at hfl; (first | lia | omega)) ?_
          intro mx
          have hls : l = s ++ 34 :: (dbl (wrF k) ++ 34 :: wrF r) := by rw [hl]; rfl
          obtain ⟨ns, hns, hne, hmx⟩ := max_list F hra.1 hls
          rw [show [Value.int 1 0, Value.int 2 0, Value.int 3 0].length = 3 from rfl]
          rw [hns]
          walk_at "go"
          refine w_max (by walk_at "has") hne hmx ?_
          walk_at "gs"
          refine W.drop (.cons₂ _ (.cons _ (.cons _ (.cons _ (.refl _))))) ?_
          have hz : l.length ≤ sizeLine := by rw [sizeLine_eq]; (first | lia | omega)
          refine w_subCut (w_cutFromS (i := s.length) (by walk_at "mem") hz ?_)
          rw [show l.drop s.length = 34 :: (dbl (wrF k) ++ 34 :: wrF r) by rw [hls, List.drop_left]]
          have hln : (34 :: (dbl (wrF k) ++ 34 :: wrF r)).length ≤ 20000 := by
            have := congrArg List.length hls
            rw [List.length_append] at this
            (first | lia | omega)
          walk_at "gs"
          refine w_addX (by simp at hln ⊢; (first | lia | omega)) ?_
          walk_at "gs"
          first | refine W.nEq (show n + f.size + 19 = (n + f.size + 18) + 1 by (first | lia | omega)) ?_ | rw [show n + f.size + 19 = (n + f.size + 18) + 1 by (first | lia | omega)]
          refine c_parse F (by rfl) (by rfl) (by simp at hln ⊢; (first | lia | omega)) ?_
          rw [show unq (List.drop 5 (50 :: 53 :: 55 :: 32 :: 34 :: (dbl (wrF k) ++ 34 :: wrF r))) = wrF k from unq_dbl _ _ (wrF_head hra.2.2)]
          walk_at "gs"
          refine w_CallMethod (by rfl) (by rfl) (by rfl) ?_
          walk_at "gs"
          refine w_getGet F.hTab ?_
          walk_at "gs"
          refine w_subCut (w_cutToS (j := s.length) (by walk_at "mem") hz ?_)
          rw [show l.take s.length = s by rw [hls, List.take_left]]
          walk_at "gs"
          refine w_tabGet F.hTab (v := .int (F.num s) 0) (by rw [F.tabS s hra.1]; rfl) (.int fun t2 => ?_)
          walk_at "gs"
          rename_i row
          refine W.drop (.cons₂ _ (.cons _ (.cons _ (.refl _)))) ?_
          refine W.mono (Q := fun fl g' ms' => fl = .next ∧ Le g2 g' ∧ ∃ (tvs1 dvs1 : List Value) (v7 : Option Value), ms' = (row, lstR (iVs ((F.num s : Int) :: (rd F.num k tb' td').1.map fun x : Nat => 256 + (x : Int)))) :: (kl, lstR (iVs (ks.map fun k : Nat => (k : Int)))) :: (L, frR (df "_law_read" 67).scope [none, none, some (.ref toldl), some (.ref kl), some (.int s.length 0), some (.str (tx (wrF k)) 0), some (.ref row), v7, v8, none, v10, none, v12, v13, v14, v15, none, none, none, none, none, none, none, none, none, none, none]) :: (L + 4, celR hv) :: (L + 3, celR lv) :: (L + 2, celR (some (.ref tabl))) :: (L + 1, celR (some (.str (tx l) 0))) :: (tabl, lstR tvs1) :: (toldl, lstR dvs1) :: ms ∧ TabAt F g' (rd F.num k tb' td').2.1 tvs1 ∧ TolAt g' (rd F.num k tb' td').2.2 dvs1) (W.gen fun S0 hS0 => w_For ?_) ?_
          · walk_at "gs"
            refine W.perm (List.perm_append_comm_assoc [_, _, _, _, _, _, _] [_, _] _) ?_
            first | refine W.nEq (show n + f.size + 18 + 1 = (n + f.size - 1 - k.size) + k.size + 20 by (first | lia | omega)) ?_ | rw [show n + f.size + 18 + 1 = (n + f.size - 1 - k.size) + k.size + 20 by (first | lia | omega)]
            refine ih k (by (first | lia | omega)) (by (first | lia | omega)) hra.2.1 (by (first | lia | omega)) (by (first | lia | omega)) hrok.1 (hT'.le l2) (hD'.le l2) fun k2 g3 tvs1 dvs1 l3 hk2 hT1 hD1 => ?_
            refine W.perm (List.perm_append_comm_assoc [_, _] [_, _, _, _, _, _, _] _) ?_
            refine w_iterList hk2 fun I It => ?_
            obtain ⟨a0, a1, a2, a3, a4⟩ := rd_len F.num k tb' td'
            have hkl := k.len_le
            refine forLoopS (J := fun i g' ms' => Le g3 g' ∧ ∃ v7, ms' = (row, lstR (iVs ((F.num s : Int) :: ((rd F.num k tb' td').1.take i).map fun x : Nat => 256 + (x : Int)))) :: (kl, lstR (iVs (ks.map fun k : Nat => (k : Int)))) :: (L, frR (df "_law_read" 67).scope [none, none, some (.ref toldl), some (.ref kl), some (.int s.length 0), some (.str (tx (wrF k)) 0), some (.ref row), v7, v8, none, v10, none, v12, v13, v14, v15, none, none, none, none, none, none, none, none, none, none, none]) :: (L + 4, celR hv) :: (L + 3, celR lv) :: (L + 2, celR (some (.ref tabl))) :: (L + 1, celR (some (.str (tx l) 0))) :: (tabl, lstR tvs1) :: (toldl, lstR dvs1) :: ms) It ?_ ?_ ?_
            · rintro i v g₁ ms₁ S hS hi le hv ⟨l4, w7, rfl⟩
              have hi' : i < (rd F.num k tb' td').1.length := by simpa [iVs] using hi
              have hit : (iVs ((rd F.num k tb' td').1.map fun k : Nat => (k : Int))).getD i .none = .int (((rd F.num k tb' td').1[i] : Nat) : Int) 0 := by simp [iVs, List.getD_eq_getElem?_getD, hi']
              rw [hit] at hv
              obtain ⟨t4, rfl⟩ := er_int hv
              walk_at "gs"
              refine w_CallMethod (by rfl) (by rfl) (by rfl) ?_
              walk_at "gs"
              refine w_getAppend (by walk_at "has") ?_
              walk_at "gs"
              refine w_append (by walk_at "upd") rfl (by simp [iVs, sizeLine_eq]; (first | lia | omega)) ?_
              walk_at "gs"
              have hmap : ((rd F.num k tb' td').1.take (i + 1)).map (fun x : Nat => 256 + (x : Int)) = ((rd F.num k tb' td').1.take i).map (fun x : Nat => 256 + (x : Int)) ++ [256 + (((rd F.num k tb' td').1[i] : Nat) : Int)] := by
                rw [List.take_add_one, List.getElem?_eq_getElem hi', Option.toList_some, List.map_append]; rfl
              rw [iVs_snoc, List.cons_append, ← hmap]
              walk_at "hid"
              exact .here (hS _ _ _ ⟨l4, _, rfl⟩)
            · rintro g₁ ms₁ le ⟨l4, w7, rfl⟩
              refine hS0 _ _ _ ⟨rfl, l3.trans l4, tvs1, dvs1, w7, ?_, hT1.le l4, hD1.le l4⟩
              rw [List.take_of_length_le (by simp [iVs])]
            · exact ⟨.refl _, v7, rfl⟩
          · rintro fl g' ms' ⟨rfl, l3, tvs1, dvs1, v7, rfl, hT1, hD1⟩
            walk_at "hid"
            obtain ⟨a0, a1, a2, a3, a4⟩ := rd_len F.num k tb' td'
            have hkl := k.len_le
            first | refine W.nEq (show n + f.size + 18 + 1 = (n + f.size + 9) + 10 by (first | lia | omega)) ?_ | rw [show n + f.size + 18 + 1 = (n + f.size + 9) + 10 by (first | lia | omega)]
            refine W.mono (c_node F (tl := wrF r) hE hra.1 hT1 hD1 (by (first | lia | omega)) (by (first | lia | omega)) hrok.2.1 a2 (by (first | lia | omega)) (by (first | lia | omega)) hwl (by simp at hln; have := dbl_count (wrF k); (first | lia | omega)) ?_) ?_
            · have hd := dbl_count (wrF k)
              rw [hls, List.drop_append, List.drop_eq_nil_of_le (by (first | lia | omega)), List.nil_append]
              rw [show s.length + 2 + (wrF k).length + (wrF k).count 34 - s.length = ((dbl (wrF k)).length + 1) + 1 by (first | lia | omega), List.drop_succ_cons, List.drop_append, List.drop_eq_nil_of_le (by (first | lia | omega)), List.nil_append]
              rw [show (dbl (wrF k)).length + 1 - (dbl (wrF k)).length = 1 by (first | lia | omega)]
              rfl
            · rintro fl g4 ms4 ⟨rfl, l4, tvs2, dvs2, v4, v5, v6, v7, v8, v10, v12, v13, v14, v15, hv, lv, rfl, hT2, hD2⟩
              walk_at "hid"
              obtain ⟨b0, b1, b2, b3⟩ := rdOne_len (F.num s) (rd F.num k tb' td').1 (rd F.num k tb' td').2.1 (rd F.num k tb' td').2.2
              walk_at "hid"
              refine .here (hS _ _ _ ⟨r.size, by (first | lia | omega), r, _, _, _, tvs2, dvs2, _, _, _, _, _, _, _, _, _, _, _, _, rfl, leg.trans (l2.trans (l3.trans l4)), rfl, hT2, hD2, hra.2.2, by (first | lia | omega), by (first | lia | omega), by (first | lia | omega), by simp; (first | lia | omega), hrok.2.2, ?_⟩)
              rw [hrd]
              simp only [rd, List.append_assoc, List.singleton_append]
    · rintro fl g' ms' ⟨rfl, leg, tvs', dvs', v4, v5, v6, v7, v8, v10, v12, v13, v14, v15, hv, lv, tv, rfl, hT', hD'⟩
      walk_at "hid"
      walk_at "go"
      walk_at "hid"
      exact .freeze fun g2 l2 h2 => .drop (.cons _ (.cons _ (.cons _ (.cons _ (.cons _ (.refl _)))))) (.here (h kl g2 tvs' dvs' (leg.trans l2) h2 (hT'.le l2) (hD'.le l2)))
end

noncomputable abbrev Txs := List (List Nat)
/-- an order's name: its drawings with commas between -/
noncomputable def joinC : Txs → List Nat
  | [] => []
  | [x] => x
  | x :: y :: r => x ++ 44 :: joinC (y :: r)
theorem join_comma : ∀ o : Txs, Txt.join (tx [44]) (o.map tx) = tx (joinC o) := by
  intro o
  show Str.glued (tx [44]) (o.map tx) = _
  rw [StrLaws.glued_eq_join]
  induction o with
  | nil => rfl
  | cons x r ih =>
    cases r with
    | nil => rfl
    | cons y r' =>
      have e : Str.join (tx [44]) (List.map tx (x :: y :: r')) = tx x ++ tx [44] ++ Str.join (tx [44]) (List.map tx (y :: r')) := rfl
      rw [e, ih, tx_append, tx_append]
      simp [joinC]
/-- the ways to put a drawing into an order -/
noncomputable def ins1 (o : Txs) (x : List Nat) (k : Nat) : Txs := o.take k ++ [x] ++ o.drop k
noncomputable def inAll (orders : List Txs) (forms : Txs) : List Txs := orders.flatMap fun o => forms.flatMap fun fm => (List.range (o.length + 1)).map (ins1 o fm)
/-- a dict by names, filled in turn -/
noncomputable def gput (G : List (List Nat × Txs)) (o : Txs) : List (List Nat × Txs) := if G.any (fun p => p.1 = joinC o) then G.map (fun p => if p.1 = joinC o then (p.1, o) else p) else G ++ [(joinC o, o)]
noncomputable def grown (ls : List Txs) : List (List Nat × Txs) := ls.foldl gput []
noncomputable def gget (G : List (List Nat × Txs)) (key : List Nat) : Txs := ((G.find? fun p => p.1 = key).map (·.2)).getD []
noncomputable def srt (l : List (List Nat)) : List (List Nat) := l.mergeSort (fun a b => decide (a ≤ b))
noncomputable def ordStep (orders : List Txs) (forms : Txs) : List Txs := (srt ((grown (inAll orders forms)).map (·.1))).map (gget (grown (inAll orders forms)))
noncomputable def drw (s : List Nat) (os : List Txs) : Txs := os.map fun o => s ++ 40 :: (o.flatten ++ [41])
/-- orders of a forest's drawings, from given ones on -/
noncomputable def ordF : Fo → List Txs → List Txs
  | .nil, os => os
  | .cons s k r, os => ordF r (ordStep os (drw s (ordF k [[]])))
/-- all reorderings counted, and the children -/
noncomputable def wyF : Fo → Nat × Nat → Nat × Nat
  | .nil, p => p
  | .cons s k r, p => wyF r (p.1 * (wyF k (1, 0)).1 * (p.2 + 1), p.2 + 1)
noncomputable abbrev Own := Txs × Nat
noncomputable def ownF : Fo → List Own
  | .nil => []
  | .cons s k r => ownF k ++ (drw s (ordF k [[]]), (wyF k (1, 0)).1) :: ownF r
theorem tx_key (a b : List Nat) : (tx a = tx b) ↔ a = b := ⟨tx_inj, fun h => by rw [h]⟩
theorem risingS_le : ∀ (l : List (List Nat)) (p : List Nat), risingS (tx p) (l.map tx) = true → (p :: l).Pairwise (fun a b => a ≤ b)
  | [], p, _ => by simp
  | x :: r, p, h => by
    have h' : (!Spec.ltCps x p && risingS (tx x) (r.map tx)) = true := h
    rw [Bool.and_eq_true, Bool.not_eq_true', ltCps_eq, decide_eq_false_iff_not] at h'
    have ih := risingS_le r x h'.2
    refine List.pairwise_cons.mpr ⟨fun y hy => ?_, ih⟩
    have hpx : p ≤ x := List.not_lt.mp h'.1
    rcases List.mem_cons.mp hy with rfl | hy
    · exact hpx
    · exact List.le_trans hpx (List.rel_of_pairwise_cons ih hy)
theorem sortedS_le (l : List (List Nat)) (h : sortedS (l.map tx) = true) : l.Pairwise (fun a b => a ≤ b) := by
  cases l with
  | nil => exact .nil
  | cons p r => exact risingS_le r p h
theorem sorted_eq : ∀ (l l' : List (List Nat)), l.Perm l' → l.Pairwise (fun a b => a ≤ b) → l'.Pairwise (fun a b => a ≤ b) → l = l'
  | [], l', h, _, _ => (List.nil_perm.mp h).symm
  | a :: l, [], h, _, _ => by simp at h
  | a :: l, b :: l', h, h1, h2 => by
    have e : a = b := by
      have ha : a ∈ b :: l' := h.mem_iff.mp List.mem_cons_self
      have hb : b ∈ a :: l := h.mem_iff.mpr List.mem_cons_self
      rcases List.mem_cons.mp ha with e | ha
      · exact e
      · rcases List.mem_cons.mp hb with e | hb
        · exact e.symm
        · exact List.le_antisymm (List.rel_of_pairwise_cons h1 hb) (List.rel_of_pairwise_cons h2 ha)
    subst e
    rw [sorted_eq l l' (List.perm_cons a |>.mp h) (List.pairwise_cons.mp h1).2 (List.pairwise_cons.mp h2).2]
theorem srt_perm (ks : List (List Nat)) : (srt ks).Perm ks := List.mergeSort_perm _ _
theorem srt_sorted (ks : List (List Nat)) : (srt ks).Pairwise (fun a b => a ≤ b) := by
  have := List.pairwise_mergeSort (le := fun a b : List Nat => decide (a ≤ b)) (fun a b c h1 h2 => by simp only [decide_eq_true_eq] at *; exact List.le_trans h1 h2) (fun a b => by
    simp only [Bool.or_eq_true, decide_eq_true_eq]; exact List.le_total a b) ks
  exact this.imp fun h => by simpa using h
theorem srt_uniq {ss : List Str} {ks : List (List Nat)} (hp : ss.Perm (ks.map tx)) (hs : sortedS ss = true) : ss = (srt ks).map tx := by
  have e : ss = (ss.map fun x => x.cps.toList).map tx := by
    rw [List.map_map]
    have : tx ∘ (fun x : Str => x.cps.toList) = fun x => x := by funext x; exact (tx_of x).symm
    rw [this, List.map_id']
  have hp' : (ss.map fun x => x.cps.toList).Perm ks := by
    have := hp.map fun x => x.cps.toList
    rw [List.map_map] at this
    have e2 : (fun x : Str => x.cps.toList) ∘ tx = fun x => x := rfl
    rwa [e2, List.map_id'] at this
  generalize (ss.map fun x => x.cps.toList) = l at e hp'
  subst e
  rw [sorted_eq l (srt ks) (hp'.trans (srt_perm ks).symm) (sortedS_le l hs) (srt_sorted ks)]
theorem lens_sum (ls : Txs) : ((ls.map tx).map (·.length)).sum = ls.flatten.length := by
  rw [List.length_flatten, List.map_map]
  exact congrArg List.sum (List.map_congr_left fun x _ => tx_len x)
theorem ins1_len (o : Txs) (x : List Nat) (k : Nat) : (ins1 o x k).length = o.length + 1 := by
  have := congrArg List.length (List.take_append_drop k o)
  rw [List.length_append] at this
  unfold ins1
  simp only [List.length_append, List.length_cons, List.length_nil]; (first | lia | omega)
theorem ins1_flat (o : Txs) (x : List Nat) (k : Nat) : (ins1 o x k).flatten.length = o.flatten.length + x.length := by
  have := congrArg (fun l : Txs => l.flatten.length) (List.take_append_drop k o)
  simp only [List.flatten_append, List.length_append] at this
  unfold ins1
  simp only [List.flatten_append, List.flatten_cons, List.flatten_nil, List.append_nil, List.length_append]; (first | lia | omega)
theorem flat_len {α β : Type} (h : α → List β) (B : Nat) : ∀ {l : List α}, (∀ x ∈ l, (h x).length ≤ B) → (l.flatMap h).length ≤ l.length * B
  | [], _ => Nat.zero_le _
  | x :: l, hb => by
    have a := hb x (.head _)
    have b := flat_len h B fun y hy => hb y (.tail _ hy)
    rw [List.flatMap_cons, List.length_append, List.length_cons, Nat.succ_mul]; (first | lia | omega)
theorem ownF_len : ∀ f : Fo, (ownF f).length = f.size
  | .nil => rfl
  | .cons s k r => by simp only [ownF, List.length_append, List.length_cons, ownF_len k, ownF_len r, Fo.size]; (first | lia | omega)

/-- texts in the heap, lists of them, told drawings -/
noncomputable def txs (o : Txs) : List Value := sVs (o.map tx)
noncomputable def OrdsAt (g : Heap) : List Txs → List Value → Prop
  | [], vs => vs = []
  | o :: r, vs => ∃ a vs', vs = .ref a :: vs' ∧ At g a (lstR (txs o)) ∧ OrdsAt g r vs'
noncomputable def GrAt (g : Heap) : List (List Nat × Txs) → List (Str × Value) → Prop
  | [], kvs => kvs = []
  | p :: r, kvs => ∃ a kvs', kvs = (tx p.1, .ref a) :: kvs' ∧ At g a (lstR (txs p.2)) ∧ GrAt g r kvs'
noncomputable def OwnAt (g : Heap) : List Own → List Value → Prop
  | [], vs => vs = []
  | e :: r, vs => ∃ tp dl vs', vs = .ref tp :: vs' ∧ (At g tp (tupR [.ref dl, .int e.2 0]) ∧ At g dl (lstR (txs e.1))) ∧ OwnAt g r vs'
theorem OrdsAt.le {g g' : Heap} (le : Le g g') : ∀ {os : List Txs} {vs : List Value}, OrdsAt g os vs → OrdsAt g' os vs
  | [], _, h => h
  | _ :: _, _, hz => by obtain ⟨a, vs', e, h1, h2⟩ := hz; exact ⟨a, vs', e, h1.le le, h2.le le⟩
theorem GrAt.le {g g' : Heap} (le : Le g g') : ∀ {os : List (List Nat × Txs)} {vs : List (Str × Value)}, GrAt g os vs → GrAt g' os vs
  | [], _, h => h
  | _ :: _, _, hz => by obtain ⟨a, vs', e, h1, h2⟩ := hz; exact ⟨a, vs', e, h1.le le, h2.le le⟩
theorem OwnAt.le {g g' : Heap} (le : Le g g') : ∀ {os : List Own} {vs : List Value}, OwnAt g os vs → OwnAt g' os vs
  | [], _, h => h
  | _ :: _, _, hz => by obtain ⟨a, b, vs', e, h1, h2⟩ := hz; exact ⟨a, b, vs', e, ⟨h1.1.le le, h1.2.le le⟩, h2.le le⟩
theorem OrdsAt.length {g : Heap} : ∀ {os : List Txs} {vs : List Value}, OrdsAt g os vs → vs.length = os.length
  | [], _, h => by rw [show _ = [] from h]; rfl
  | _ :: _, _, hz => by obtain ⟨a, vs', e, h1, h2⟩ := hz; rw [e, List.length_cons, List.length_cons, h2.length]
theorem GrAt.length {g : Heap} : ∀ {os : List (List Nat × Txs)} {vs : List (Str × Value)}, GrAt g os vs → vs.length = os.length
  | [], _, h => by rw [show _ = [] from h]; rfl
  | _ :: _, _, hz => by obtain ⟨a, vs', e, h1, h2⟩ := hz; rw [e, List.length_cons, List.length_cons, h2.length]
theorem GrAt.keys {g : Heap} : ∀ {os : List (List Nat × Txs)} {vs : List (Str × Value)}, GrAt g os vs → vs.map (·.1) = (os.map (·.1)).map tx
  | [], _, h => by rw [show _ = [] from h]; rfl
  | _ :: _, _, hz => by obtain ⟨a, vs', e, h1, h2⟩ := hz; rw [e, List.map_cons, List.map_cons, List.map_cons, h2.keys]
theorem OwnAt.length {g : Heap} : ∀ {os : List Own} {vs : List Value}, OwnAt g os vs → vs.length = os.length
  | [], _, h => by rw [show _ = [] from h]; rfl
  | _ :: _, _, hz => by obtain ⟨a, b, vs', e, h1, h2⟩ := hz; rw [e, List.length_cons, List.length_cons, h2.length]
theorem OrdsAt.get {g : Heap} : ∀ {os : List Txs} {vs : List Value}, OrdsAt g os vs → ∀ {i : Nat} {o : Txs}, os[i]? = some o → ∃ a, vs[i]? = some (.ref a) ∧ At g a (lstR (txs o))
  | [], _, _, i, o, h => by simp at h
  | _ :: _, _, hz, i, o, h => by
    obtain ⟨a, vs', e, h1, h2⟩ := hz
    subst e
    cases i with
    | zero => simp at h; subst h; exact ⟨a, rfl, h1⟩
    | succ i => simp only [List.getElem?_cons_succ] at h ⊢; exact h2.get h
theorem OwnAt.get {g : Heap} : ∀ {os : List Own} {vs : List Value}, OwnAt g os vs → ∀ {i : Nat} {e : Own}, os[i]? = some e → ∃ tp dl, vs[i]? = some (.ref tp) ∧ At g tp (tupR [.ref dl, .int e.2 0]) ∧ At g dl (lstR (txs e.1))
  | [], _, _, i, o, h => by simp at h
  | _ :: _, _, hz, i, o, h => by
    obtain ⟨a, b, vs', e, h1, h2⟩ := hz
    subst e
    cases i with
    | zero => simp at h; subst h; exact ⟨a, b, rfl, h1⟩
    | succ i => simp only [List.getElem?_cons_succ] at h ⊢; exact h2.get h
theorem OwnAt.snoc {g : Heap} : ∀ {os : List Own} {vs : List Value} {e : Own} {tp dl : Addr}, OwnAt g os vs → At g tp (tupR [.ref dl, .int e.2 0]) → At g dl (lstR (txs e.1)) → OwnAt g (os ++ [e]) (vs ++ [.ref tp])
  | [], _, e, tp, dl, h, h1, h2 => by rw [show _ = [] from h]; exact ⟨tp, dl, [], rfl, ⟨h1, h2⟩, rfl⟩
  | _ :: _, _, e, tp, dl, hz, h1, h2 => by obtain ⟨b, c, vs', e0, k1, k2⟩ := hz; rw [e0]; exact ⟨b, c, _, rfl, k1, k2.snoc h1 h2⟩
theorem GrAt.any {g : Heap} (k : List Nat) : ∀ {G : List (List Nat × Txs)} {kvs : List (Str × Value)}, GrAt g G kvs → kvs.any (fun kv => kv.1 = tx k) = G.any (fun p => p.1 = k)
  | [], _, h => by rw [show _ = [] from h]; rfl
  | p :: _, _, hz => by
    obtain ⟨a, vs', e, h1, h2⟩ := hz
    rw [e, List.any_cons, List.any_cons, h2.any k]
    congr 1
    exact decide_eq_decide.mpr (tx_key p.1 k)
theorem GrAt.snoc {g : Heap} : ∀ {G : List (List Nat × Txs)} {kvs : List (Str × Value)} {k : List Nat} {o : Txs} {a : Addr}, GrAt g G kvs → At g a (lstR (txs o)) → GrAt g (G ++ [(k, o)]) (kvs ++ [(tx k, .ref a)])
  | [], _, k, o, a, h, h1 => by rw [show _ = [] from h]; exact ⟨a, [], rfl, h1, rfl⟩
  | _ :: _, _, k, o, a, hz, h1 => by obtain ⟨b, vs', e, k1, k2⟩ := hz; rw [e]; exact ⟨b, _, rfl, k1, k2.snoc h1⟩
theorem GrAt.upd {g : Heap} {k : List Nat} {o : Txs} {a : Addr} (ha : At g a (lstR (txs o))) : ∀ {G : List (List Nat × Txs)} {kvs : List (Str × Value)}, GrAt g G kvs →
    GrAt g (G.map fun p => if p.1 = k then (p.1, o) else p) (kvs.map fun kv => if kv.1 = tx k then (kv.1, .ref a) else kv)
  | [], _, h => by rw [show _ = [] from h]; rfl
  | p :: _, _, hz => by
    obtain ⟨b, vs', e, h1, h2⟩ := hz
    rw [e, List.map_cons, List.map_cons]
    by_cases hk : p.1 = k
    · rw [if_pos hk, if_pos (by rw [hk])]
      exact ⟨a, _, rfl, ha, GrAt.upd ha h2⟩
    · rw [if_neg hk, if_neg fun h => hk (tx_inj h)]
      exact ⟨b, _, rfl, h1, GrAt.upd ha h2⟩
theorem GrAt.put {g : Heap} {G : List (List Nat × Txs)} {kvs : List (Str × Value)} {o : Txs} {a : Addr} (h : GrAt g G kvs) (ha : At g a (lstR (txs o))) : GrAt g (gput G o) (dput kvs (tx (joinC o)) (.ref a)) := by
  unfold gput dput
  rw [h.any]
  split
  · exact GrAt.upd ha h
  · exact h.snoc ha
theorem GrAt.find {g : Heap} {k : List Nat} : ∀ {G : List (List Nat × Txs)} {kvs : List (Str × Value)}, GrAt g G kvs → k ∈ G.map (·.1) → ∃ a, (kvs.find? fun kv => kv.1 = tx k).map (·.2) = some (.ref a) ∧ At g a (lstR (txs (gget G k)))
  | [], _, _, hk => nomatch hk
  | p :: r, _, hz, hk => by
    obtain ⟨b, vs', e, h1, h2⟩ := hz
    subst e
    by_cases h : p.1 = k
    · refine ⟨b, ?_, ?_⟩
      · rw [List.find?_cons, show decide (tx p.1 = tx k) = true from decide_eq_true (by rw [h])]; rfl
      · unfold gget
        rw [List.find?_cons, show decide (p.1 = k) = true from decide_eq_true h]
        exact h1
    · rcases List.mem_cons.mp hk with hk | hk
      · exact absurd hk.symm h
      · obtain ⟨a, ha1, ha2⟩ := GrAt.find h2 hk
        refine ⟨a, ?_, ?_⟩
        · rw [List.find?_cons, show decide (tx p.1 = tx k) = false from decide_eq_false fun e => h (tx_inj e)]; exact ha1
        · unfold gget at ha2 ⊢
          rw [List.find?_cons, show decide (p.1 = k) = false from decide_eq_false h]
          exact ha2

noncomputable def sizesOk (os : List Txs) (forms : Txs) : Prop := os.length ≤ 100 ∧ (∀ o ∈ os, o.length ≤ 100 ∧ o.flatten.length ≤ 10000) ∧ forms.length ≤ 100 ∧ ∀ fm ∈ forms, fm.length ≤ 10000
/-- all that is met while a forest is drawn stays small -/
noncomputable def safeF : Fo → List Txs → Nat × Nat → Prop
  | .nil, os, p => (∀ o ∈ os, o.flatten.length ≤ 10000) ∧ os.length ≤ 1000
  | .cons s k r, os, p => safeF k [[]] (1, 0) ∧ sizesOk os (drw s (ordF k [[]])) ∧ (grown (inAll os (drw s (ordF k [[]])))).length < 64 ∧ Builtin.Int.intBits ((wyF k (1, 0)).1 : Int) ≤ 64 ∧ p.2 ≤ 10 ∧
    safeF r (ordStep os (drw s (ordF k [[]]))) (p.1 * (wyF k (1, 0)).1 * (p.2 + 1), p.2 + 1)
noncomputable def takeF : Nat → Fo → Fo
  | 0, _ => .nil
  | _ + 1, .nil => .nil
  | n + 1, .cons s k r => .cons s k (takeF n r)
noncomputable def dropF : Nat → Fo → Fo
  | 0, f => f
  | _ + 1, .nil => .nil
  | n + 1, .cons _ _ r => dropF n r
/-- the drawer's frame -/
noncomputable def drFr (a own ords : Addr) (w c : Int) (v5 v6 v7 v9 v10 v11 v12 v13 : Option Value) : Rs := frR (df "_law_drawings" 68).scope [none, some (.ref own), some (.ref ords), some (.int w 0), some (.int c 0), v5, v6, v7, none, v9, v10, v11, v12, v13, none, none, none, none]
noncomputable def drCs (L : Addr) : List (Str × Addr) := [("grown", L + 2), ("tree", L + 1)]
noncomputable def foB : Stmt → List Stmt
  | .For _ _ b _ _ => b
  | _ => []
/-- the body of the drawer's loop over the children, from a place on -/
noncomputable def drB (i : Nat) : List Stmt := (foB ((df "_law_drawings" 68).body.getD 3 (.Pass ⟨0, 0, 0, 0⟩))).drop i
theorem txs_len (o : Txs) : (txs o).length = o.length := by simp [txs, sVs]
theorem txs_get {o : Txs} {i : Nat} (h : i < o.length) : (txs o).getD i .none = .str (tx o[i]) 0 := by simp [txs, sVs, List.getD_eq_getElem?_getD, h]
theorem txs_in (o : Txs) (x : List Nat) (k : Nat) : (txs o).take k ++ [Value.str (tx x) 0] ++ (txs o).drop k = txs (ins1 o x k) := by simp [ins1, txs, sVs, List.map_take, List.map_drop]
theorem inAll_take {os : List Txs} {forms : Txs} {i : Nat} (h : i < os.length) : inAll (os.take (i + 1)) forms = inAll (os.take i) forms ++ forms.flatMap fun fm => (List.range (os[i].length + 1)).map (ins1 os[i] fm) := by
  unfold inAll
  rw [List.take_add_one, List.getElem?_eq_getElem h, Option.toList_some, List.flatMap_append]
  simp
theorem flat_take {α β : Type} (h : α → List β) {l : List α} {i : Nat} (hi : i < l.length) : (l.take (i + 1)).flatMap h = (l.take i).flatMap h ++ h l[i] := by
  rw [List.take_add_one, List.getElem?_eq_getElem hi, Option.toList_some, List.flatMap_append]; simp
theorem grown_snoc (L : List Txs) (o : Txs) : grown (L ++ [o]) = gput (grown L) o := by simp [grown]
theorem gput_len (G : List (List Nat × Txs)) (o : Txs) : (gput G o).length ≤ G.length + 1 := by
  unfold gput; split <;> simp
theorem grown_len : ∀ (L : List Txs) (G : List (List Nat × Txs)), (L.foldl gput G).length ≤ G.length + L.length
  | [], G => Nat.le_refl _
  | o :: L, G => by
    have a := grown_len L (gput G o)
    have b := gput_len G o
    simp only [List.foldl_cons, List.length_cons]; (first | lia | omega)
theorem ords_of {g : Heap} {G : List (List Nat × Txs)} {kvs : List (Str × Value)} (hG : GrAt g G kvs) : ∀ keys : List (List Nat), (∀ x ∈ keys, x ∈ G.map (·.1)) → OrdsAt g (keys.map (gget G)) (keys.map fun k => ((kvs.find? fun kv => kv.1 = tx k).map (·.2)).getD .none)
  | [], _ => rfl
  | k :: r, h => by
    obtain ⟨a, h1, h2⟩ := hG.find (h k (.head _))
    refine ⟨a, _, ?_, h2, ords_of hG r fun x hx => h x (.tail _ hx)⟩
    rw [List.map_cons, h1]; rfl
section
variable {P : Setup} (F : Facts P)
include F
theorem c_grow {n : Nat} {g : Heap} {ms : Ms} {env : Env} {L a own ords fl : Addr} {w c : Int} {os : List Txs} {forms : Txs} {osv : List Value} {v5 v7 v9 v10 v11 v12 v13 gv : Option Value}
    (hE : Ev env (df "_law_drawings" 68).scope L (drCs L)) (hos : At g ords (lstR osv)) (hO : OrdsAt g os osv) (hf : At g fl (lstR (txs forms))) (hz : sizesOk os forms) (h64 : (grown (inAll os forms)).length < 64) :
    W P n g ((L, drFr a own ords w c v5 (some (.ref fl)) v7 v9 v10 v11 v12 v13) :: (L + 2, celR gv) :: (L + 1, celR (some (.ref a))) :: ms)
      (execs (drB 3) env) (fun f g' ms' => f = .next ∧ Le g g' ∧ ∃ (ords' : Addr) (osv' : List Value) (v9 v10 v11 v12 gv : Option Value), ms' = (L, drFr a own ords' w c v5 (some (.ref fl)) v7 v9 v10 v11 v12 v13) :: (L + 2, celR gv) :: (L + 1, celR (some (.ref a))) :: ms ∧ At g' ords' (lstR osv') ∧ OrdsAt g' (ordStep os forms) osv') := by
  conv in (drB _) => whnf
  unfold drFr
  have q1 : Str.ofString "," = tx [44] := by decide +kernel
  rw [q1]
  obtain ⟨z1, z2, z3, z4⟩ := hz
  have hol := hO.length
  refine W.ease ?_
  walk_at "gs"
  refine w_dictNewM fun gd hgd => ?_
  walk_at "gs"
  refine W.perm (List.perm_append_comm_assoc [(gd, dicR P [])] [_, _, _] _) ?_
  refine W.mono (Q := fun f g' ms' => f = .next ∧ Le g g' ∧ ∃ (kvs : List (Str × Value)) (v9 v10 v11 v12 : Option Value), ms' = (L, frR (df "_law_drawings" 68).scope [none, some (.ref own), some (.ref ords), some (.int w 0), some (.int c 0), v5, some (.ref fl), v7, none, v9, v10, v11, v12, v13, none, none, none, none]) :: (L + 2, celR (some (.ref gd))) :: (L + 1, celR (some (.ref a))) :: (gd, dicR P kvs) :: ms ∧ GrAt g' (grown (inAll os forms)) kvs) (W.gen fun S0 hS0 => w_For ?_) ?_
  · walk_at "gs"
    refine w_iterList hos fun I It => ?_
    refine forLoopS (J := fun i g' ms' => Le g g' ∧ ∃ (kvs : List (Str × Value)) (v9 v10 v11 v12 : Option Value), ms' = (L, frR (df "_law_drawings" 68).scope [none, some (.ref own), some (.ref ords), some (.int w 0), some (.int c 0), v5, some (.ref fl), v7, none, v9, v10, v11, v12, v13, none, none, none, none]) :: (L + 2, celR (some (.ref gd))) :: (L + 1, celR (some (.ref a))) :: (gd, dicR P kvs) :: ms ∧ GrAt g' (grown (inAll (os.take i) forms)) kvs) It ?_ ?_ ?_
    · rintro i v g₁ ms₁ S hS hi le hv ⟨l1, kvs, v9, v10, v11, v12, rfl, hG⟩
      have hi' : i < os.length := by (first | lia | omega)
      obtain ⟨oa, hoa, hoat⟩ := hO.get (List.getElem?_eq_getElem hi')
      have hit : osv.getD i .none = .ref oa := by rw [List.getD_eq_getElem?_getD, hoa]; rfl
      rw [hit] at hv
      have hv := er_ref hv
      subst hv
      have ho := z2 _ (List.getElem_mem hi')
      have hoL : inAll (os.take i) forms = inAll (os.take i) forms ++ (forms.take 0).flatMap fun fm => (List.range (os[i].length + 1)).map (ins1 os[i] fm) := by simp
      rw [inAll_take hi'] at hS
      obtain ⟨o, hoe⟩ : ∃ o, o = os[i] := ⟨_, rfl⟩
      rw [← hoe] at hoat ho hoL hS
      have hf1 := hf.le l1
      walk_at "gs"
      refine W.mono (Q := fun f g' ms' => f = .next ∧ Le g₁ g' ∧ ∃ (kvs : List (Str × Value)) (v10 v11 v12 : Option Value), ms' = (L, frR (df "_law_drawings" 68).scope [none, some (.ref own), some (.ref ords), some (.int w 0), some (.int c 0), v5, some (.ref fl), v7, none, some (.ref oa), v10, v11, v12, v13, none, none, none, none]) :: (L + 2, celR (some (.ref gd))) :: (L + 1, celR (some (.ref a))) :: (gd, dicR P kvs) :: ms ∧ GrAt g' (grown (inAll (os.take i) forms ++ forms.flatMap fun fm => (List.range (o.length + 1)).map (ins1 o fm))) kvs) (W.gen fun S0 hS0 => w_For ?_) ?_
      · walk_at "gs"
        refine w_iterList hf1 fun I It => ?_
        refine forLoopS (J := fun j g' ms' => Le g₁ g' ∧ ∃ (kvs : List (Str × Value)) (v10 v11 v12 : Option Value), ms' = (L, frR (df "_law_drawings" 68).scope [none, some (.ref own), some (.ref ords), some (.int w 0), some (.int c 0), v5, some (.ref fl), v7, none, some (.ref oa), v10, v11, v12, v13, none, none, none, none]) :: (L + 2, celR (some (.ref gd))) :: (L + 1, celR (some (.ref a))) :: (gd, dicR P kvs) :: ms ∧ GrAt g' (grown (inAll (os.take i) forms ++ (forms.take j).flatMap fun fm => (List.range (o.length + 1)).map (ins1 o fm))) kvs) It ?_ ?_ ?_
        · rintro j v g₂ ms₂ S hS hj le hv ⟨l2, kvs, v10, v11, v12, rfl, hG⟩
          have hj' : j < forms.length := by rw [txs_len] at hj; exact hj
          rw [txs_get hj'] at hv
          obtain ⟨t1, rfl⟩ := er_str hv
          have hfm := z4 _ (List.getElem_mem hj')
          rw [flat_take _ hj', ← List.append_assoc] at hS
          obtain ⟨pre, hpre⟩ : ∃ pre, pre = inAll (os.take i) forms ++ (forms.take j).flatMap fun fm => (List.range (o.length + 1)).map (ins1 o fm) := ⟨_, rfl⟩
          have hB : ∀ (o : Txs), o.length ≤ 100 → ∀ fm ∈ forms, ((List.range (o.length + 1)).map (ins1 o fm)).length ≤ 101 := fun o h _ _ => by rw [List.length_map, List.length_range]; (first | lia | omega)
          have hpl : pre.length ≤ 1030000 := by
            rw [hpre, List.length_append]
            have b1 : ((forms.take j).flatMap fun fm => (List.range (o.length + 1)).map (ins1 o fm)).length ≤ (forms.take j).length * 101 := flat_len _ 101 fun x hx => hB o ho.1 x (List.mem_of_mem_take hx)
            have b2 : (inAll (os.take i) forms).length ≤ (os.take i).length * 10100 := flat_len _ 10100 fun x hx => by
              have := flat_len (fun fm => (List.range (x.length + 1)).map (ins1 x fm)) 101 fun y hy => hB x (z2 x (List.mem_of_mem_take hx)).1 y hy
              (first | lia | omega)
            have c1 : (forms.take j).length ≤ 100 := by rw [List.length_take]; (first | lia | omega)
            have c2 : (os.take i).length ≤ 100 := by rw [List.length_take]; (first | lia | omega)
            (first | lia | omega)
          rw [← hpre] at hG hS
          obtain ⟨fm, hfme⟩ : ∃ fm, fm = forms[j] := ⟨_, rfl⟩
          rw [← hfme] at hfm hS ⊢
          have hoa2 := hoat.le (l1.trans l2)
          walk_at "gs"
          refine W.mono (Q := fun f g' ms' => f = .next ∧ Le g₂ g' ∧ ∃ (kvs : List (Str × Value)) (v11 v12 : Option Value), ms' = (L, frR (df "_law_drawings" 68).scope [none, some (.ref own), some (.ref ords), some (.int w 0), some (.int c 0), v5, some (.ref fl), v7, none, some (.ref oa), some (.str (tx fm) 0), v11, v12, v13, none, none, none, none]) :: (L + 2, celR (some (.ref gd))) :: (L + 1, celR (some (.ref a))) :: (gd, dicR P kvs) :: ms ∧ GrAt g' (grown (pre ++ (List.range (o.length + 1)).map (ins1 o fm))) kvs) (W.gen fun S0 hS0 => w_For ?_) ?_
          · walk_at "gs"
            refine w_lenL (by walk_at "has") (by rw [txs_len]; (first | lia | omega)) ?_
            rw [txs_len]
            walk_at "gs"
            rw [show (o.length : Int) + 1 = ((o.length + 1 : Nat) : Int) by (first | lia | omega)]
            refine w_callRange1 fun rg => ?_
            refine w_iterRange (N := o.length + 1) (by split <;> (first | lia | omega)) (by decide) (by decide) (by (first | lia | omega)) (by (first | lia | omega)) fun I r It => ?_
            refine forLoopS (J := fun q g' ms' => Le g₂ g' ∧ ∃ (kvs : List (Str × Value)) (v11 v12 : Option Value), ms' = (L, frR (df "_law_drawings" 68).scope [none, some (.ref own), some (.ref ords), some (.int w 0), some (.int c 0), v5, some (.ref fl), v7, none, some (.ref oa), some (.str (tx fm) 0), v11, v12, v13, none, none, none, none]) :: (L + 2, celR (some (.ref gd))) :: (L + 1, celR (some (.ref a))) :: (gd, dicR P kvs) :: ms ∧ GrAt g' (grown (pre ++ (List.range q).map (ins1 o fm))) kvs) It ?_ ?_ ?_
            · rintro q v g₃ ms₃ S hS hq le hv ⟨l3, kvs, v11, v12, rfl, hG⟩
              rw [show ((0 : Int) + (q : Int)) = (q : Int) by (first | lia | omega)] at hv
              obtain ⟨t1, rfl⟩ := er_int hv
              have hoa3 := hoa2.le l3
              have hkz : kvs.length ≤ 16777216 := by
                rw [hG.length]
                have a1 := grown_len (pre ++ (List.range q).map (ins1 o fm)) []
                rw [List.length_append, List.length_map, List.length_range] at a1
                have a2 : (grown (pre ++ (List.range q).map (ins1 o fm))).length ≤ 0 + (pre.length + q) := a1
                (first | lia | omega)
              have hoz : (txs o).length ≤ sizeLine := by rw [txs_len, sizeLine_eq]; (first | lia | omega)
              walk_at "gs"
              refine w_subCut (w_cutToL (j := q) (by walk_at "mem") (by walk_at "has") hoz ?_)
              walk_at "gs"
              refine w_addL (by walk_at "has") (by walk_at "has") (by rw [sizeLine_eq]; simp [txs_len]; (first | lia | omega)) ?_
              walk_at "gs"
              refine w_subCut (w_cutFromL (j := q) (by walk_at "mem") (by walk_at "has") hoz ?_)
              walk_at "gs"
              refine w_addL (by walk_at "has") (by walk_at "has") (by rw [sizeLine_eq]; simp [txs_len]; (first | lia | omega)) ?_
              rw [txs_in]
              intro la
              refine W.freeze fun g4 l4 hla => ?_
              walk_at "gs"
              refine w_CallMethod (by rfl) (by rfl) (by rfl) ?_
              walk_at "gs"
              refine w_join (ys := (ins1 o fm q).map tx) (.inr hla) ?_ ?_
              · rw [lens_sum, ins1_flat, List.length_map, ins1_len, tx_len, List.length_singleton]; (first | lia | omega)
              rw [join_comma]
              walk_at "gs"
              refine w_dictSet (by walk_at "upd") rfl (by rw [sizeLine_eq]; exact hkz) ?_
              walk_at "gs"
              walk_at "hid"
              refine .drop (.cons _ (.cons _ (.cons _ (.cons _ (.cons _ (.cons _ (.refl _))))))) (.here (hS _ _ _ ⟨l3.trans l4, _, _, _, rfl, ?_⟩))
              · rw [List.range_succ, List.map_append, ← List.append_assoc, List.map_singleton, grown_snoc]
                exact (hG.le l4).put hla
            · rintro g₃ ms₃ le ⟨l3, kvs, v11, v12, rfl, hG⟩
              exact hS0 _ _ _ ⟨rfl, l3, kvs, v11, v12, rfl, hG⟩
            · exact ⟨.refl _, kvs, v11, v12, rfl, by simpa using hG⟩
          · rintro f' g₃ ms₃ ⟨rfl, l3, kvs, v11, v12, rfl, hG⟩
            walk_at "hid"
            walk_at "gs"
            walk_at "hid"
            exact .here (hS _ _ _ ⟨l2.trans l3, kvs, _, v11, v12, rfl, hG⟩)
        · rintro g₂ ms₂ le ⟨l2, kvs, v10, v11, v12, rfl, hG⟩
          refine hS0 _ _ _ ⟨rfl, l2, kvs, v10, v11, v12, rfl, ?_⟩
          rw [txs_len, List.take_length] at hG
          exact hG
        · refine ⟨.refl _, kvs, v10, v11, v12, rfl, ?_⟩
          rw [← hoL]; exact hG
      · rintro fl' g₂ ms₂ ⟨rfl, l2, kvs, v10, v11, v12, rfl, hG⟩
        walk_at "hid"
        walk_at "gs"
        walk_at "hid"
        exact .here (hS _ _ _ ⟨l1.trans l2, kvs, _, v10, v11, v12, rfl, hG⟩)
    · rintro g₁ ms₁ le ⟨l1, kvs, v9, v10, v11, v12, rfl, hG⟩
      refine hS0 _ _ _ ⟨rfl, l1, kvs, v9, v10, v11, v12, rfl, ?_⟩
      rw [List.take_of_length_le (by (first | lia | omega))] at hG
      exact hG
    · exact ⟨.refl _, [], v9, v10, v11, v12, rfl, rfl⟩
  · rintro f g1 ms1 ⟨rfl, l1, kvs, v9, v10, v11, v12, rfl, hG⟩
    walk_at "hid"
    obtain ⟨G, hGe⟩ : ∃ G, G = grown (inAll os forms) := ⟨_, rfl⟩
    have hst : ordStep os forms = (srt (G.map (·.1))).map (gget G) := by rw [hGe]; rfl
    rw [hst]
    rw [← hGe] at hG h64
    walk_at "gs"
    refine w_AssignComp (ix := 1) hE rfl (by decide +kernel) (by decide +kernel) ?_
    walk_at "gs"
    refine w_sorted (ks := (G.map (·.1)).map tx) (by walk_at "has") hG.keys hgd (by simpa using h64) fun ss sr hp hs => ?_
    rw [srt_uniq hp hs]
    refine W.freeze fun g2 l2 hsr => ?_
    have hsp := srt_perm (G.map (·.1))
    have hsl : (srt (G.map (·.1))).length < 64 := by rw [hsp.length_eq, List.length_map]; exact h64
    obtain ⟨keys, hkeys⟩ : ∃ keys, keys = srt (G.map (·.1)) := ⟨_, rfl⟩
    rw [← hkeys] at hsr hsl hsp hSx
    have hmem : ∀ x ∈ keys, x ∈ G.map (·.1) := fun x hx => hsp.mem_iff.mp hx
    refine w_iterList hsr fun I It => ?_
    refine CompAt.pure It (by rw [show (sVs (keys.map tx)).length = keys.length by simp [sVs], sizeLine_eq]; (first | lia | omega)) (fun i => (keys.take i).map fun k => ((kvs.find? fun kv => kv.1 = tx k).map (·.2)).getD .none) rfl ?_ ?_
    · intro i v cenv C hC hi hv
      have hi' : i < keys.length := by simpa [sVs] using hi
      have hit : (sVs (keys.map tx)).getD i .none = .str (tx keys[i]) 0 := by simp [sVs, List.getD_eq_getElem?_getD, hi']
      rw [hit] at hv ⊢
      obtain ⟨t1, rfl⟩ := er_str hv
      obtain ⟨oa, ho1, ho2⟩ := hG.find (hmem _ (List.getElem_mem hi'))
      refine w_testsNil ?_
      rw [if_pos rfl]
      walk_at "gs"
      refine w_notPyDict (by walk_at "has") ?_
      walk_at "gs"
      refine w_subPlain (by with_unfolding_all rfl) (w_dictGet (by walk_at "has") ho1 (.ref ?_))
      walk_at "hid"
      refine .here ⟨rfl, rfl, ?_⟩
      rw [List.take_add_one, List.getElem?_eq_getElem hi', Option.toList_some, List.map_append, List.map_singleton, ho1]; rfl
    · intro D hDl
      rw [show (sVs (keys.map tx)).length = keys.length by simp [sVs], List.take_length]
      walk_at "gs"
      walk_at "hid"
      refine .freeze fun g3 l3 hD => ?_
      walk_at "hid"
      exact .drop (.cons₂ _ (.cons₂ _ (.cons₂ _ (.cons _ (.refl _))))) (.here ⟨trivial, l1.trans (l2.trans l3), D, _, v9, v10, v11, v12, _, rfl, hD, (ords_of hG keys hmem).le (l2.trans l3)⟩)
end

theorem bits_small2 : ∀ j : Nat, j ≤ 20 → Builtin.Int.intBits (j : Int) ≤ 64 := by decide +kernel
section
variable {P : Setup} (F : Facts P)
include F
theorem c_draw' : ∀ (m : Nat) (k : Fo), k.size < m → k.size ≤ 20 → ∀ {n : Nat} {g : Heap} {ms : Ms} {Q : Value → Heap → Ms → Prop} {s : List Nat} {a ol : Addr} {own : List Own} {ovs : List Value}, s.length ≤ 10 → k.all (fun s => s.length ≤ 10) → safeF k [[]] (1, 0) → TrAt g a s k → OwnAt g own ovs → own.length + k.size + 1 ≤ 1000 →
    (∀ tp dl g' ovs', Le g g' → At g' tp (tupR [.ref dl, .int ((wyF k (1, 0)).1 : Nat) 0]) → At g' dl (lstR (txs (drw s (ordF k [[]])))) → OwnAt g' (own ++ ownF k ++ [(drw s (ordF k [[]]), (wyF k (1, 0)).1)]) ovs' → Q (.ref tp) g' ((ol, lstR ovs') :: ms)) →
    W P (n + k.size + 1) g ((ol, lstR ovs) :: ms) (call (.ref F.aDraw) [.ref a, .ref ol]) Q := by
  intro m
  induction m with
  | zero => intro f hf; (first | lia | omega)
  | succ m ih =>
    intro k hk h20 n g ms Q s a ol own ovs hs hall hsafe ht hO hol h
    obtain ⟨kl, kvs, h1, h2, h3⟩ := ht
    have hklen := h3.length
    have hkle := k.len_le
    refine w_fnC F.fDraw (xs := ["tree", "own"]) (vs := [none, some (.ref ol), none, none, none, none, none, none, none, none, none, none, none, none, none, none, none, none]) (cs := drCs) (mcs := fun L => [(L + 2, celR none), (L + 1, celR (some (.ref a)))]) (by decide +kernel) rfl rfl (fun L => rfl) (fun L => rfl) fun env L hE => W.ease ?_
    conv in (df _ _).body => whnf
    have q0 : Str.ofString "" = tx [] := by decide +kernel
    have q1 : Str.ofString "," = tx [44] := by decide +kernel
    have q2 : Str.ofString "(" = tx [40] := by decide +kernel
    have q3 : Str.ofString ")" = tx [41] := by decide +kernel
    rw [q0, q1, q2, q3]
    walk_at "gs"
    refine W.freeze fun g1 l1 y1 => W.freeze fun g2 l2 y2 => ?_
    rename_i e0 ords0 _ _
    have z1 := y1.le l2
    have h22 := h2.le (l1.trans l2)
    have h12 := h1.le (l1.trans l2)
    refine W.mono (Q := fun f g' ms' => f = .next ∧ ∃ (r : Fo) (os : List Txs) (p : Nat × Nat) (own' : List Own) (ords : Addr) (osv ovs' : List Value) (v5 v6 v7 v9 v10 v11 v12 gv : Option Value), Le g g' ∧ ms' = (L, drFr a ol ords (p.1 : Int) (p.2 : Int) v5 v6 v7 v9 v10 v11 v12 none) :: (L + 2, celR gv) :: (L + 1, celR (some (.ref a))) :: (ol, lstR ovs') :: ms ∧ r.toL = k.toL.drop k.toL.length ∧ ordF k [[]] = ordF r os ∧ wyF k (1, 0) = wyF r p ∧ own ++ ownF k = own' ++ ownF r ∧ safeF r os p ∧ At g' ords (lstR osv) ∧ OrdsAt g' os osv ∧ OwnAt g' own' ovs' ∧ r.size ≤ k.size ∧ r.all (fun s => s.length ≤ 10) ∧ own'.length + r.size ≤ own.length + k.size) (W.gen fun S0 hS0 => w_For ?_) ?_
    · walk_at "gs"
      refine w_subPlain (by with_unfolding_all rfl) (w_itemL (.inr (h1.le (l1.trans l2))) (by decide) (by decide) rfl (.ref ?_))
      refine w_iterList h22 fun I It => ?_
      refine forLoopS (J := fun i g' ms' => ∃ (r : Fo) (os : List Txs) (p : Nat × Nat) (own' : List Own) (ords : Addr) (osv ovs' : List Value) (v5 v6 v7 v9 v10 v11 v12 gv : Option Value), Le g g' ∧ ms' = (L, drFr a ol ords (p.1 : Int) (p.2 : Int) v5 v6 v7 v9 v10 v11 v12 none) :: (L + 2, celR gv) :: (L + 1, celR (some (.ref a))) :: (ol, lstR ovs') :: ms ∧ r.toL = k.toL.drop i ∧ ordF k [[]] = ordF r os ∧ wyF k (1, 0) = wyF r p ∧ own ++ ownF k = own' ++ ownF r ∧ safeF r os p ∧ At g' ords (lstR osv) ∧ OrdsAt g' os osv ∧ OwnAt g' own' ovs' ∧ r.size ≤ k.size ∧ r.all (fun s => s.length ≤ 10) ∧ own'.length + r.size ≤ own.length + k.size) It ?_ ?_ ?_
      · rintro i v g₁ ms₁ S hS hi le hv ⟨r, os, p, own', ords, osv, ovs', v5, v6, v7, v9, v10, v11, v12, gv, lg, rfl, hr, e1, e2, e3, sf, hat, hO2, hOw, hrs, hra, hol2⟩
        have hi' : i < k.toL.length := by (first | lia | omega)
        cases r with
        | nil =>
          have := congrArg List.length hr
          rw [List.length_drop] at this
          simp [Fo.toL] at this; (first | lia | omega)
        | cons s' k' r' =>
        have hrd := List.drop_eq_getElem_cons hi'
        rw [hrd] at hr
        obtain ⟨hr1, hr2⟩ := List.cons.inj hr
        obtain ⟨ka, hka, hkt⟩ := h3.get (List.getElem?_eq_getElem hi')
        rw [← hr1] at hkt
        have hit : kvs.getD i .none = .ref ka := by rw [List.getD_eq_getElem?_getD, hka]; rfl
        rw [hit] at hv
        have hv := er_ref hv
        subst hv
        obtain ⟨sf1, sf2, sf3, sf4, sf5, sf6⟩ := sf
        have hsz : (Fo.cons s' k' r').size = 1 + k'.size + r'.size := rfl
        unfold drFr
        walk_at "gs"
        refine w_AssignOne ?_ (by rfl) (by rfl)
        walk_at "gs"
        refine W.perm (List.perm_append_comm_assoc [_, _, _] [_] _) ?_
        first | refine W.nEq (show n + k.size = (n + k.size - 1 - k'.size) + k'.size + 1 by (first | lia | omega)) ?_ | rw [show n + k.size = (n + k.size - 1 - k'.size) + k'.size + 1 by (first | lia | omega)]
        refine ih k' (by (first | lia | omega)) (by (first | lia | omega)) hra.1 hra.2.1 sf1 (hkt.le lg) hOw (by (first | lia | omega)) fun tp dl g3 ovs3 l3 ht3 hd3 hO3 => ?_
        refine W.perm (List.perm_append_comm_assoc [_] [_, _, _] _) ?_
        refine w_unpack2 (.inr ht3) (.ref (.int fun t => ?_))
        walk_at "gs"
        rw [show (p.2 : Int) + 1 = ((p.2 + 1 : Nat) : Int) by (first | lia | omega)]
        refine w_mulI (.of_right sf4) ?_
        walk_at "gs"
        refine w_mulI (.of_right (bits_small2 (p.2 + 1) (by (first | lia | omega)))) ?_
        rw [show (p.1 : Int) * (((wyF k' (1, 0)).1 : Nat) : Int) * ((p.2 + 1 : Nat) : Int) = ((p.1 * (wyF k' (1, 0)).1 * (p.2 + 1) : Nat) : Int) by rw [Int.natCast_mul, Int.natCast_mul]]
        intro t5
        walk_at "st"
        walk_at "hid"
        refine W.mono (c_grow F (forms := drw s' (ordF k' [[]])) (os := os) hE (hat.le l3) (hO2.le l3) hd3 sf2 sf3) ?_
        rintro fl g4 ms4 ⟨rfl, l4, ords4, osv4, w9, w10, w11, w12, gv4, rfl, hat4, hO4⟩
        walk_at "hid"
        walk_at "hid"
        refine .here (hS _ _ _ ⟨r', _, (p.1 * (wyF k' (1, 0)).1 * (p.2 + 1), p.2 + 1), _, ords4, osv4, ovs3, _, _, _, _, _, _, _, _, lg.trans (l3.trans l4), rfl, hr2, e1, e2, ?_, sf6, hat4, hO4, hO3.le l4, by (first | lia | omega), hra.2.2, ?_⟩)
        · rw [e3]; simp [ownF]
        · have := ownF_len k'
          simp only [List.length_append, List.length_cons, List.length_nil]; (first | lia | omega)
      · rintro g₁ ms₁ le ⟨r, os, p, own', ords, osv, ovs', v5, v6, v7, v9, v10, v11, v12, gv, lg, rfl, hr, e1, e2, e3, sf, hat, hO2, hOw, hrs, hra, hol2⟩
        exact hS0 _ _ _ ⟨rfl, r, os, p, own', ords, osv, ovs', v5, v6, v7, v9, v10, v11, v12, gv, lg, rfl, by rw [hr, hklen], e1, e2, e3, sf, hat, hO2, hOw, hrs, hra, hol2⟩
      · exact ⟨k, [[]], (1, 0), own, ords0, _, ovs, none, none, none, none, none, none, none, none, l1.trans l2, rfl, rfl, rfl, rfl, rfl, hsafe, z1, ⟨_, [], rfl, y2, rfl⟩, hO.le (l1.trans l2), Nat.le_refl _, hall, Nat.le_refl _⟩
    · rintro f g3 ms3 ⟨rfl, r, os, p, own', ords, osv, ovs', v5, v6, v7, v9, v10, v11, v12, gv, lg, rfl, hr, e1, e2, e3, sf, hat, hO2, hOw, hrs, hra, hol2⟩
      walk_at "hid"
      have hrn : r = .nil := by
        rw [List.drop_length] at hr
        cases r with
        | nil => rfl
        | cons => cases hr
      subst hrn
      simp only [ordF] at e1
      simp only [wyF] at e2
      simp only [ownF, List.append_nil] at e3
      rw [e1, e2, e3] at h
      unfold drFr
      walk_at "gs"
      have hosl := hO2.length
      obtain ⟨sfz, sfl⟩ := sf
      have h1g := h1.le lg
      refine w_AssignComp (ix := 1) hE rfl (by decide +kernel) (by decide +kernel) ?_
      walk_at "gs"
      refine w_iterList hat fun I It => ?_
      refine CompAt.pure It (by rw [sizeLine_eq]; (first | lia | omega)) (fun i => txs ((os.take i).map fun o => s ++ 40 :: (o.flatten ++ [41]))) rfl ?_ ?_
      · intro i v cenv C hC hi hv
        have hi' : i < os.length := by (first | lia | omega)
        obtain ⟨oa, hoa, hoat⟩ := hO2.get (List.getElem?_eq_getElem hi')
        have hit : osv.getD i .none = .ref oa := by rw [List.getD_eq_getElem?_getD, hoa]; rfl
        rw [hit] at hv ⊢
        have hv := er_ref hv
        subst hv
        have hof := sfz _ (List.getElem_mem hi')
        refine w_testsNil ?_
        rw [if_pos rfl]
        walk_at "gs"
        refine w_subPlain (by with_unfolding_all rfl) (w_itemL (.inr h1g) (by decide) (by decide) rfl (.str fun t => ?_))
        walk_at "gs"
        refine w_addX (by simp; (first | lia | omega)) ?_
        walk_at "gs"
        refine w_CallMethod (by rfl) (by rfl) (by rfl) ?_
        walk_at "gs"
        refine w_join (ys := (os[i]).map tx) (.inr hoat) (by rw [lens_sum, tx_len, List.length_nil, Nat.mul_zero]; (first | lia | omega)) ?_
        rw [join_none]
        walk_at "gs"
        refine w_addX (by simp only [List.length_append, List.length_cons, List.length_nil]; (first | lia | omega)) ?_
        walk_at "gs"
        refine w_addX (by simp only [List.length_append, List.length_cons, List.length_nil]; (first | lia | omega)) ?_
        walk_at "gs"
        walk_at "hid"
        refine .here ⟨rfl, rfl, ?_⟩
        rw [List.take_add_one, List.getElem?_eq_getElem hi', Option.toList_some, List.map_append]
        simp [txs, sVs]
      · intro D hDl
        rw [hosl, List.take_length, show os.map (fun o => s ++ 40 :: (o.flatten ++ [41])) = drw s os from rfl]
        have hown := hOw.length
        walk_at "gs"
        refine w_CallMethod (by rfl) (by rfl) (by rfl) ?_
        walk_at "gs"
        refine w_getAppend (by walk_at "has") ?_
        walk_at "gs"
        refine w_append (by walk_at "upd") rfl (by rw [sizeLine_eq]; (first | lia | omega)) ?_
        walk_at "gs"
        walk_at "hid"
        exact .freeze fun g4 l4 ht1 => .freeze fun g5 l5 ht2 => .freeze fun g6 l6 hD6 => .drop (.cons _ (.cons _ (.cons _ (.refl _)))) (.here (h _ D g6 _ (lg.trans (l4.trans (l5.trans l6))) (ht1.le (l5.trans l6)) hD6 ((hOw.le (l4.trans (l5.trans l6))).snoc (e := (drw s os, p.1)) (ht2.le l6) hD6)))
theorem c_draw {k : Fo} (h20 : k.size ≤ 20) {n : Nat} {g : Heap} {ms : Ms} {Q : Value → Heap → Ms → Prop} {s : List Nat} {a ol : Addr} {own : List Own} {ovs : List Value} (hs : s.length ≤ 10) (hall : k.all (fun s => s.length ≤ 10)) (hsafe : safeF k [[]] (1, 0)) (ht : TrAt g a s k) (hO : OwnAt g own ovs) (hol : own.length + k.size + 1 ≤ 1000)
    (h : ∀ tp dl g' ovs', Le g g' → At g' tp (tupR [.ref dl, .int ((wyF k (1, 0)).1 : Nat) 0]) → At g' dl (lstR (txs (drw s (ordF k [[]])))) → OwnAt g' (own ++ ownF k ++ [(drw s (ordF k [[]]), (wyF k (1, 0)).1)]) ovs' → Q (.ref tp) g' ((ol, lstR ovs') :: ms)) :
    W P (n + k.size + 1) g ((ol, lstR ovs) :: ms) (call (.ref F.aDraw) [.ref a, .ref ol]) Q :=
  c_draw' F _ k (Nat.lt_succ_self _) h20 hs hall hsafe ht hO hol h
end

theorem bits_small3 : ∀ j : Nat, j ≤ 64 → Builtin.Int.intBits (j : Int) ≤ 64 := by decide +kernel
theorem seen_any (seen : Txs) (d : List Nat) : (seen.map tx).any (· == tx d) = decide (d ∈ seen) := by
  rw [List.any_map]
  induction seen with
  | nil => simp
  | cons x r ih =>
    rw [List.any_cons, ih]
    by_cases h : x = d
    · simp [h]
    · have : ((fun y => y == tx d) ∘ tx) x = false := by show (tx x == tx d) = false; rw [tx_beq]; simpa using h
      rw [this]
      simp [Ne.symm h]
/-- the last loop's questions -/
noncomputable def Chk : List Own → List Tol → Txs → Prop
  | [], [], _ => True
  | o :: os, t :: ts, seen => ∃ d0 ds, o.1 = d0 :: ds ∧
    (let seen' := if d0 ∈ seen then seen else seen ++ [d0]
     (∃ j : Nat, t.1 = j ∧ seen'[j]? = some d0 ∧ ∀ m, m < j → seen'[m]? ≠ some d0) ∧ t.2.2.1 = t.2.2.2 ∧ (o.1.length : Int) * t.2.1 = (o.2 : Int) ∧ o.1.length ≤ 64 ∧ seen'.length ≤ 100 ∧ Chk os ts seen')
  | _, _, _ => False
/-- what is asked of two trees -/
structure Good (num : List Nat → Nat) (s : List Nat) (f : Fo) (s' : List Nat) (f' : Fo) : Prop where
  ok1 : rdOk num (.cons s f .nil) [] []
  ok2 : rdOk num (.cons s' f' .nil) (rd num (.cons s f .nil) [] []).2.1 (rd num (.cons s f .nil) [] []).2.2
  safe1 : safeF f [[]] (1, 0)
  safe2 : safeF f' [[]] (1, 0)
  chk : Chk (ownF (.cons s f .nil) ++ ownF (.cons s' f' .nil)) (rd num (.cons s' f' .nil) (rd num (.cons s f .nil) [] []).2.1 (rd num (.cons s f .nil) [] []).2.2).2.2 []
noncomputable def shapeOk (k : Nat) (s : List Nat) (f : Fo) : Prop := k < 6 ∧ s ∈ twoOf k ∧ f.all (· ∈ twoOf k) ∧ f.size = 6 ∧ f.high ≤ 3
theorem two_signs {k : Nat} (hk : k < 6) {s : List Nat} (h : s ∈ twoOf k) : s ∈ signs := by
  unfold twoOf at h
  rcases List.mem_cons.mp h with rfl | h
  · rw [List.getD_eq_getElem?_getD, List.getElem?_eq_getElem (show 2 * k < signs.length by simp [signs]; (first | lia | omega))]; exact List.getElem_mem _
  · rw [List.mem_singleton.mp h, List.getD_eq_getElem?_getD, List.getElem?_eq_getElem (show 2 * k + 1 < signs.length by simp [signs]; (first | lia | omega))]; exact List.getElem_mem _
section
variable {P : Setup} (F : Facts P)
include F
theorem c_law {n : Nat} {g : Heap} {env : Env} {L sc : Addr} {xs : List Int} (hE : Ev env (df "law" 69).scope L []) (hs : At g sc (lisR (iVs xs))) (hx : xs.length ≤ 100)
    (hplain : ∀ k s f k' s' f', shapeOk k s f → shapeOk k' s' f' → Good F.num s f s' f') :
    W P (n + 60) g [(L, frR (df "law" 69).scope [some (.ref sc), none, none, none, none, none, none, none, none, none, none, none, none, none, none, none, none, none, none, none, none, none, none, none])] (execs (df "law" 69).body env) (fun f _ _ => f = .ret (.bool true)) := by
  conv in (df _ _).body => whnf
  walk_at "gs"
  first | refine W.nEq (show n + 60 = (n + 59) + 1 by (first | lia | omega)) ?_ | rw [show n + 60 = (n + 59) + 1 by (first | lia | omega)]
  refine c_numbers F hs hx fun num g1 ns l1 hnum hlen hns => ?_
  walk_at "gs"
  rw [show ((0 : Int)) = ((0 : Nat) : Int) from rfl]
  refine c_tree F hnum hlen hns (Nat.zero_le _) fun r1 g2 k1 s1 f1 l2 hk1 ht1 hs1 ha1 hz1 hh1 => ?_
  have hnum2 := hnum.le l2
  walk_at "gs"
  have hsum : ∀ j, 0 ≤ (ns.take j).sum ∧ (ns.take j).sum ≤ 600000000 := fun j => by
    have := sum_le (l := ns.take j) fun i hi => hns i (List.mem_of_mem_take hi)
    have h2 : ((ns.take j).length : Int) ≤ 6 := by rw [List.length_take]; (first | lia | omega)
    (first | lia | omega)
  refine w_sum (by walk_at "has") (fun j _ => by have := hsum j; unfold InLong; (first | lia | omega)) (fun i hi => by have := hns i hi; unfold InLong; (first | lia | omega)) ?_
  walk_at "gs"
  have hsum0 : 0 ≤ ns.sum := by have := hsum 6; rw [List.take_of_length_le (by (first | lia | omega))] at this; exact this.1
  refine w_divI (by decide) (pylong6 _) ?_
  walk_at "gs"
  refine w_modI (by decide) ?_
  obtain ⟨turn, hturn, htu⟩ : ∃ j : Nat, j < 6 ∧ (ns.sum.fdiv 6).fmod 6 = (j : Int) := by
    rw [Int.fdiv_eq_ediv_of_nonneg _ (by decide), Int.fmod_eq_emod_of_nonneg _ (by decide)]
    exact ⟨(ns.sum / 6 % 6).toNat, by (first | lia | omega), by (first | lia | omega)⟩
  rw [htu]
  walk_at "gs"
  refine c_tree F hnum2 hlen hns (by (first | lia | omega)) fun r2 g3 k2 s2 f2 l3 hk2 ht2 hs2 ha2 hz2 hh2 => ?_
  walk_at "gs"
  first | refine W.nEq (show n + 59 + 1 = (n + 53) + f2.size + 1 by (first | lia | omega)) ?_ | rw [show n + 59 + 1 = (n + 53) + f2.size + 1 by (first | lia | omega)]
  refine c_mirrored F (by (first | lia | omega)) ht2 fun r3 g4 l4 ht3 => ?_
  have ht1' := ht1.le (l3.trans l4)
  have hG := hplain k1 s1 f1 k2 s2 f2.mir ⟨hk1, hs1, ha1, hz1, hh1⟩ ⟨hk2, hs2, (Fo.all_mir _ _).mpr ha2, by rw [Fo.size_mir]; exact hz2, by rw [Fo.high_mir]; exact hh2⟩
  have hz3 : f2.mir.size = 6 := by rw [Fo.size_mir]; exact hz2
  have ha3 := (Fo.all_mir (· ∈ twoOf k2) f2).mpr ha2
  obtain ⟨f3, hf3⟩ : ∃ f3, f3 = f2.mir := ⟨_, rfl⟩
  rw [← hf3] at ht3 hG hz3 ha3
  first | refine W.nEq (show n + 53 + f2.size + 1 = n + 60 by (first | lia | omega)) ?_ | rw [show n + 53 + f2.size + 1 = n + 60 by (first | lia | omega)] | skip
  clear ht1 ht2 hnum hnum2 hsum hsum0 hns hf3 hz2 hh2 ha2 hh1 htu
  walk_at "gs"
  rename_i trl tabl toldl ownl
  refine W.perm (List.perm_append_comm_assoc [_, _, _] [_] _) ?_
  refine W.freeze fun g5 l5 htrl => ?_
  have t1 := ht1'.le l5
  refine W.perm ((List.reverse_perm [(ownl, lstR []), (toldl, lstR []), (tabl, lstR [])]).symm.append_right _) ?_
  have t3 := ht3.le l5
  obtain ⟨tbs, tds, ows, hsel⟩ : ∃ (tbs : Nat → List Ent) (tds : Nat → List Tol) (ows : Nat → List Own), tbs = (fun i => match i with | 0 => [] | 1 => (rd F.num (.cons s1 f1 .nil) [] []).2.1 | _ => (rd F.num (.cons s2 f3 .nil) (rd F.num (.cons s1 f1 .nil) [] []).2.1 (rd F.num (.cons s1 f1 .nil) [] []).2.2).2.1) ∧ tds = (fun i => match i with | 0 => [] | 1 => (rd F.num (.cons s1 f1 .nil) [] []).2.2 | _ => (rd F.num (.cons s2 f3 .nil) (rd F.num (.cons s1 f1 .nil) [] []).2.1 (rd F.num (.cons s1 f1 .nil) [] []).2.2).2.2) ∧ ows = (fun i => match i with | 0 => [] | 1 => ownF (.cons s1 f1 .nil) | _ => ownF (.cons s1 f1 .nil) ++ ownF (.cons s2 f3 .nil)) := ⟨_, _, _, rfl, rfl, rfl⟩
  have z1 : (Fo.cons s1 f1 .nil).size = 7 := by simp [Fo.size, hz1]
  have z2 : (Fo.cons s2 f3 .nil).size = 7 := by simp [Fo.size, hz3]
  obtain ⟨_, ra1, _, ra3, _⟩ := rd_len F.num (.cons s1 f1 .nil) [] []
  obtain ⟨_, rb1, _, rb3, _⟩ := rd_len F.num (.cons s2 f3 .nil) (rd F.num (.cons s1 f1 .nil) [] []).2.1 (rd F.num (.cons s1 f1 .nil) [] []).2.2
  have q1 : (rd F.num (.cons s1 f1 .nil) [] []).2.1.length ≤ 7 := by simpa [z1] using ra1
  have q3 : (rd F.num (.cons s1 f1 .nil) [] []).2.2.length = 7 := by simpa [z1] using ra3
  have q4 : (rd F.num (.cons s2 f3 .nil) (rd F.num (.cons s1 f1 .nil) [] []).2.1 (rd F.num (.cons s1 f1 .nil) [] []).2.2).2.2.length = 14 := by rw [rb3, q3, z2]
  have q5 : (ownF (.cons s1 f1 .nil)).length ≤ 7 := by rw [ownF_len]; (first | lia | omega)
  have q6 : (ownF (.cons s1 f1 .nil) ++ ownF (.cons s2 f3 .nil)).length = 14 := by rw [List.length_append, ownF_len, ownF_len]; (first | lia | omega)
  have turn : ∀ i, i < 2 → ∃ r s f, [Value.ref r1, Value.ref r3].getD i .none = .ref r ∧ TrAt g5 r s f ∧ s ∈ signs ∧ f.all (· ∈ signs) ∧ f.size = 6 ∧ rdOk F.num (.cons s f .nil) (tbs i) (tds i) ∧ safeF f [[]] (1, 0) ∧
      tbs (i + 1) = (rd F.num (.cons s f .nil) (tbs i) (tds i)).2.1 ∧ tds (i + 1) = (rd F.num (.cons s f .nil) (tbs i) (tds i)).2.2 ∧ ows (i + 1) = ows i ++ ownF (.cons s f .nil) ∧ (tbs i).length ≤ 7 ∧ (tds i).length ≤ 7 ∧ (ows i).length ≤ 7 := by
    intro i hi
    obtain ⟨e1, e2, e3⟩ := hsel
    subst e1 e2 e3
    match i, hi with
    | 0, _ => exact ⟨r1, s1, f1, rfl, t1, two_signs hk1 hs1, Fo.all_mono (fun x hx => two_signs hk1 hx) ha1, hz1, hG.ok1, hG.safe1, rfl, rfl, rfl, Nat.zero_le _, Nat.zero_le _, Nat.zero_le _⟩
    | 1, _ => exact ⟨r3, s2, f3, rfl, t3, two_signs hk2 hs2, Fo.all_mono (fun x hx => two_signs hk2 hx) ha3, hz3, hG.ok2, hG.safe2, rfl, rfl, rfl, q1, Nat.le_of_eq q3, q5⟩
  refine W.mono (Q := fun fl g' ms' => fl = .next ∧ Le g5 g' ∧ ∃ (tvs dvs ovs : List Value) (v6 : Option Value), ms' = (tabl, lstR tvs) :: (toldl, lstR dvs) :: (ownl, lstR ovs) :: [(L, frR (df "law" 69).scope [some (.ref sc), some (.ref num), some (.ref trl), some (.ref tabl), some (.ref toldl), some (.ref ownl), v6, none, none, none, none, none, none, none, none, none, none, none, none, none, none, none, none, none])] ∧ TabAt F g' (tbs 2) tvs ∧ TolAt g' (tds 2) dvs ∧ OwnAt g' (ows 2) ovs) (W.gen fun S0 hS0 => w_For ?_) ?_
  · walk_at "gs"
    refine w_iterList htrl fun I It => ?_
    refine forLoopS (J := fun i g' ms' => Le g5 g' ∧ ∃ (tvs dvs ovs : List Value) (v6 : Option Value), ms' = (tabl, lstR tvs) :: (toldl, lstR dvs) :: (ownl, lstR ovs) :: [(L, frR (df "law" 69).scope [some (.ref sc), some (.ref num), some (.ref trl), some (.ref tabl), some (.ref toldl), some (.ref ownl), v6, none, none, none, none, none, none, none, none, none, none, none, none, none, none, none, none, none])] ∧ TabAt F g' (tbs i) tvs ∧ TolAt g' (tds i) dvs ∧ OwnAt g' (ows i) ovs) It ?_ ?_ ?_
    · rintro i v g₁ ms₁ S hS hi le hv ⟨lg, tvs, dvs, ovs, v6, rfl, hT, hD, hO⟩
      obtain ⟨r, s, f, e1, htr, hsg, hfa, hfz, ok, sf, et, ed, eo, b1, b2, b3⟩ := turn i hi
      rw [e1] at hv
      have hv := er_ref hv
      subst hv
      have htr1 := htr.le lg
      have hsz : (Fo.cons s f .nil).size = 7 := by simp [Fo.size, hfz]
      have hs3 := signs_ok s hsg
      walk_at "gs"
      first | refine W.nEq (show n + 60 = (n + 53) + f.size + 1 by (first | lia | omega)) ?_ | rw [show n + 60 = (n + 53) + f.size + 1 by (first | lia | omega)]
      refine c_written F (by (first | lia | omega)) (Fo.all_mono (fun x hx => (signs_ok x hx).2.1) hfa) hs3.2.1 htr1 fun t => ?_
      walk_at "gs"
      refine W.nEq (show n + 60 = (n + 33) + (Fo.cons s f .nil).size + 20 by (first | lia | omega)) ?_
      refine c_read' F _ (Fo.cons s f .nil) (Nat.lt_succ_self _) (by (first | lia | omega)) ⟨hsg, hfa, trivial⟩ (by (first | lia | omega)) (by (first | lia | omega)) ok hT hD fun kl g6 tvs' dvs' l6 hkl hT' hD' => ?_
      walk_at "gs"
      refine W.perm (List.perm_append_comm_assoc [_, _] [_] _) ?_
      first | refine W.nEq (show n + 60 = (n + 53) + f.size + 1 by (first | lia | omega)) ?_ | rw [show n + 60 = (n + 53) + f.size + 1 by (first | lia | omega)]
      refine c_draw F (by (first | lia | omega)) (by (first | lia | omega)) (Fo.all_mono (fun x hx => by have := (signs_ok x hx).2.1; (first | lia | omega)) hfa) sf (htr1.le l6) (hO.le l6) (by (first | lia | omega)) fun tp dl g7 ovs' l7 _ _ hO' => ?_
      walk_at "gs"
      walk_at "hid"
      refine .perm (List.perm_append_comm_assoc [_] [_, _] _) (.here (hS _ _ _ ⟨lg.trans (l6.trans l7), tvs', dvs', ovs', _, rfl, ?_, ?_, ?_⟩))
      · rw [et]; exact hT'.le l7
      · rw [ed]; exact hD'.le l7
      · rw [eo]; simpa [ownF, List.append_assoc] using hO'
    · rintro g₁ ms₁ le ⟨lg, tvs, dvs, ovs, v6, rfl, hT, hD, hO⟩
      exact hS0 _ _ _ ⟨rfl, lg, tvs, dvs, ovs, v6, rfl, hT, hD, hO⟩
    · obtain ⟨e1, e2, e3⟩ := hsel
      subst e1 e2 e3
      exact ⟨.refl _, [], [], [], none, rfl, rfl, rfl, rfl⟩
  · rintro fl g6 ms6 ⟨rfl, l6, tvs, dvs, ovs, v6, rfl, hT, hD, hO⟩
    walk_at "hid"
    have hd14 : (tds 2).length = 14 := by rw [hsel.2.1]; exact q4
    have ho14 : (ows 2).length = 14 := by rw [hsel.2.2]; exact q6
    have hdl := hD.length
    have hol := hO.length
    have hck : Chk (ows 2) (tds 2) [] := by rw [hsel.2.1, hsel.2.2]; exact hG.chk
    refine W.drop (.cons _ (.refl _)) ?_
    refine W.freeze fun g7 l7 htold => W.freeze fun g8 l8 hown => ?_
    have htold8 := htold.le l8
    walk_at "go"
    refine w_lenL (by walk_at "has") (by (first | lia | omega)) ?_
    rw [hdl, hd14]
    walk_at "go"
    refine w_lenL (by walk_at "has") (by (first | lia | omega)) ?_
    rw [hol, ho14]
    walk_at "go"
    first | refine if_N (show (((14 : Nat) : Int) != ((14 : Nat) : Int)) = false from rfl) ?_ | rw [show (((14 : Nat) : Int) != ((14 : Nat) : Int)) = false from rfl]
    walk_at "br"
    walk_at "gs"
    rename_i sl
    refine W.mono (Q := fun fl g' ms' => fl = .next ∧ ∃ (x : Ms), ms' = x) (W.gen fun S0 hS0 => w_For ?_) ?_
    · walk_at "gs"
      refine w_lenL (by walk_at "has") (by (first | lia | omega)) ?_
      rw [hol, ho14]
      walk_at "gs"
      refine w_callRange1 fun rg => ?_
      refine w_iterRange (N := 14) (by decide) (by decide) (by decide) (by decide) (by decide) fun I r It => ?_
      refine forLoopS (J := fun i g' ms' => g' = g8 ∧ ∃ (seen : Txs) (v8 v9 v10 v11 v12 v13 v14 : Option Value), ms' = (sl, lstR (txs seen)) :: [(L, frR (df "law" 69).scope [some (.ref sc), some (.ref num), some (.ref trl), some (.ref tabl), some (.ref toldl), some (.ref ownl), v6, some (.ref sl), v8, v9, v10, v11, v12, v13, v14, none, none, none, none, none, none, none, none, none])] ∧ Chk ((ows 2).drop i) ((tds 2).drop i) seen) It ?_ ?_ ?_
      · rintro i v g₁ ms₁ S hS hi le hv ⟨rfl, seen, v8, v9, v10, v11, v12, v13, v14, rfl, hc⟩
        rw [show ((0 : Int) + (i : Int)) = (i : Int) by (first | lia | omega)] at hv
        obtain ⟨t0, rfl⟩ := er_int hv
        have hi1 : i < (ows 2).length := by (first | lia | omega)
        have hi2 : i < (tds 2).length := by (first | lia | omega)
        rw [List.drop_eq_getElem_cons hi1, List.drop_eq_getElem_cons hi2] at hc
        obtain ⟨tp, dl, y1, y2, y3⟩ := hO.get (List.getElem?_eq_getElem hi1)
        obtain ⟨tq, la, lb, x1, x2, x3, x4⟩ := hD.get (List.getElem?_eq_getElem hi2)
        have l68 := l7.trans l8
        replace y2 := y2.le l68
        replace y3 := y3.le l68
        replace x2 := x2.le l68
        replace x3 := x3.le l68
        replace x4 := x4.le l68
        revert hc y2 y3 x2 x3 x4
        generalize (ows 2)[i] = o
        generalize (tds 2)[i] = tt
        intro hc y2 y3 x2 x3 x4
        obtain ⟨d0, ds, ho, ⟨j, hj1, hj2, hj3⟩, hlc, hmul, hol64, hsl, hnext⟩ := hc
        obtain ⟨od, ow⟩ := o
        obtain ⟨tk, tf, tle, tco⟩ := tt
        simp only at ho hj1 hlc hmul hol64 y2 y3 x2 x3 x4
        subst ho hj1 hlc
        walk_at "gs"
        refine w_AssignOne ?_ (by rfl) (by rfl)
        walk_at "gs"
        refine w_subPlain (by with_unfolding_all rfl) (w_itemL (.inr hown) (Int.natCast_nonneg _) (by (first | lia | omega)) (by rw [Int.toNat_natCast]; exact y1) (.ref ?_))
        walk_at "gs"
        refine w_unpack2 (.inr y2) (.ref (.int fun t => ?_))
        walk_at "gs"
        refine w_AssignOne ?_ (by rfl) (by rfl)
        walk_at "gs"
        refine w_subPlain (by with_unfolding_all rfl) (w_itemL (.inr htold8) (Int.natCast_nonneg _) (by (first | lia | omega)) (by rw [Int.toNat_natCast]; exact x1) (.ref ?_))
        walk_at "gs"
        refine w_unpack4 (.inr x2) (.int fun t => .int fun t => .ref (.ref ?_))
        walk_at "gs"
        have hseen0 : seen.length ≤ 100 := by
          by_cases hd : d0 ∈ seen
          · simpa [hd] using hsl
          · rw [if_neg hd] at hsl; simp at hsl; (first | lia | omega)
        refine W.mono (Q := fun fl g' ms' => fl = .next ∧ g' = g₁ ∧ ms' = (sl, lstR (txs (if d0 ∈ seen then seen else seen ++ [d0]))) :: [(L, frR (df "law" 69).scope [some (.ref sc), some (.ref num), some (.ref trl), some (.ref tabl), some (.ref toldl), some (.ref ownl), v6, some (.ref sl), some (.int (i : Int) 0), some (.ref dl), some (.int (ow : Int) 0), some (.int (tk : Int) 0), some (.int tf 0), some (.ref la), some (.ref lb), none, none, none, none, none, none, none, none, none])]) ?_ ?_
        · refine W.gen fun S1 hS1 => ?_
          walk_at "go"
          refine w_subPlain (by with_unfolding_all rfl) (w_itemL (.inr y3) (by decide) (by decide) rfl (.str fun t => ?_))
          walk_at "go"
          refine w_notInL (ss := seen.map tx) (by walk_at "has") ?_
          rw [seen_any]
          walk_at "go"
          by_cases hd : d0 ∈ seen
          · rw [decide_eq_true hd]
            walk_at "go"
            exact hS1 _ _ _ ⟨rfl, rfl, by simp only [hd, if_true, if_false]⟩
          · rw [decide_eq_false hd]
            walk_at "go"
            refine w_CallMethod (by rfl) (by rfl) (by rfl) ?_
            walk_at "go"
            refine w_getAppend (by walk_at "has") ?_
            walk_at "go"
            refine w_subPlain (by with_unfolding_all rfl) (w_itemL (.inr y3) (by decide) (by decide) rfl (.str fun t => ?_))
            walk_at "go"
            refine w_append (by walk_at "upd") (show txs seen ++ [er (.str (tx d0) _)] = txs (seen ++ [d0]) by simp [txs, sVs, er]) (by rw [txs_len, sizeLine_eq]; (first | lia | omega)) ?_
            walk_at "go"
            exact hS1 _ _ _ ⟨rfl, rfl, by simp only [hd, if_true, if_false]⟩
        · rintro fl g' ms' ⟨rfl, rfl, rfl⟩
          walk_at "hid"
          obtain ⟨sn, hsn⟩ : ∃ sn, sn = if d0 ∈ seen then seen else seen ++ [d0] := ⟨_, rfl⟩
          rw [← hsn] at hj2 hj3 hsl hnext ⊢
          walk_at "go"
          refine w_CallMethod (by rfl) (by rfl) (by rfl) ?_
          walk_at "gs"
          refine w_getIndex (by walk_at "has") ?_
          walk_at "gs"
          refine w_subPlain (by with_unfolding_all rfl) (w_itemL (.inr y3) (by decide) (by decide) rfl (.str fun t => ?_))
          walk_at "gs"
          refine w_index (ss := sn.map tx) (j := tk) (by walk_at "has") (by rw [List.getElem?_map, hj2]; rfl) (fun m hm e => hj3 m hm ?_) (by rw [List.length_map]; (first | lia | omega)) ?_
          · rw [List.getElem?_map, Option.map_eq_some_iff] at e
            obtain ⟨y, e1, e2⟩ := e
            rw [e1, tx_inj e2]
          walk_at "go"
          first | refine if_N (show (((tk : Nat) : Int) != ((tk : Nat) : Int)) = false by simp) ?_ | rw [show (((tk : Nat) : Int) != ((tk : Nat) : Int)) = false by simp]
          walk_at "go"
          first | refine W.nEq (show n + 60 = (n + 53) + 7 by (first | lia | omega)) ?_ | rw [show n + 60 = (n + 53) + 7 by (first | lia | omega)]
          refine w_neLL (.inr x3) (.inr x4) ?_
          rw [decide_eq_true (show tle = tle from rfl)]
          walk_at "go"
          refine w_lenL (.inr y3) (by rw [txs_len]; (first | lia | omega)) ?_
          rw [txs_len]
          walk_at "go"
          refine w_mulI (.of_left (bits_small3 _ hol64)) ?_
          rw [hmul]
          walk_at "go"
          first | refine if_N (show (((ow : Nat) : Int) != ((ow : Nat) : Int)) = false by simp) ?_ | rw [show (((ow : Nat) : Int) != ((ow : Nat) : Int)) = false by simp]
          walk_at "go"
          walk_at "hid"
          exact .here (hS _ _ _ ⟨rfl, sn, _, _, _, _, _, _, _, rfl, hnext⟩)
      · rintro g₁ ms₁ le ⟨rfl, seen, v8, v9, v10, v11, v12, v13, v14, rfl, hc⟩
        exact hS0 _ _ _ ⟨rfl, _, rfl⟩
      · exact ⟨rfl, [], none, none, none, none, none, none, none, rfl, hck⟩
    · rintro fl g9 ms9 ⟨rfl, x, rfl⟩
      walk_at "hid"
      walk_at "gs"
end

end Mine
end
section
open PySem PyProof.Rows
set_option Elab.async false
set_option autoImplicit false
set_option linter.unusedVariables false
set_option maxRecDepth 100000
namespace Mine
/-- what figures to the base of sixteen are worth -/
noncomputable def val16 : List Nat → Nat
  | [] => 0
  | d :: r => d + 16 * val16 r
theorem val16_pos : ∀ (l : List Nat) (h : l ≠ []), l.getLast h ≠ 0 → val16 l ≠ 0
  | [], h, _ => absurd rfl h
  | [d], _, hl => by simpa [val16] using hl
  | d :: e :: r, _, hl => by
    have := val16_pos (e :: r) (by simp) (by simpa using hl)
    simp only [val16] at this ⊢
    (first | lia | omega)
theorem hexd_val : ∀ (l : List Nat), (∀ d ∈ l, d < 16) → (∀ h : l ≠ [], l.getLast h ≠ 0) → hexd (val16 l) = l
  | [], _, _ => hexd_zero
  | d :: r, hd, hl => by
    have h16 := hd d (.head _)
    have hne := val16_pos (d :: r) (by simp) (hl (by simp))
    rw [hexd_pos hne]
    have e1 : val16 (d :: r) % 16 = d := by simp only [val16]; (first | lia | omega)
    have e2 : val16 (d :: r) / 16 = val16 r := by simp only [val16]; (first | lia | omega)
    rw [e1, e2, hexd_val r (fun x hx => hd x (.tail _ hx)) fun h => by have := hl (by simp); rwa [List.getLast_cons h] at this]
/-- one more of kind k -/
noncomputable def inc (c : List Nat) (k : Nat) : List Nat := match c, k with
  | [], 0 => [1]
  | [], k + 1 => 0 :: inc [] k
  | d :: r, 0 => (d + 1) :: r
  | d :: r, k + 1 => d :: inc r k
theorem val_inc : ∀ (c : List Nat) (k : Nat), val16 (inc c k) = val16 c + 16 ^ k
  | [], 0 => rfl
  | [], k + 1 => by simp only [inc, val16, val_inc [] k, Nat.pow_succ]; (first | lia | omega)
  | d :: r, 0 => by simp only [inc, val16, Nat.pow_zero]; (first | lia | omega)
  | d :: r, k + 1 => by simp only [inc, val16, val_inc r k, Nat.pow_succ]; (first | lia | omega)
theorem inc_ne (c : List Nat) (k : Nat) : inc c k ≠ [] := by
  cases c <;> cases k <;> simp [inc]
theorem inc_last : ∀ (c : List Nat) (k : Nat), (∀ h : c ≠ [], c.getLast h ≠ 0) → ∀ h : inc c k ≠ [], (inc c k).getLast h ≠ 0
  | [], 0, _, h => by simp [inc]
  | [], k + 1, _, h => by
    have := inc_last [] k (fun h => absurd rfl h) (inc_ne [] k)
    simp only [inc]
    rwa [List.getLast_cons (inc_ne [] k)]
  | [d], 0, hc, h => by simp [inc]
  | d :: e :: r, 0, hc, h => by
    have := hc (by simp)
    simpa [inc] using this
  | d :: r, k + 1, hc, h => by
    have := inc_last r k (fun h => by have := hc (by simp); rwa [List.getLast_cons h] at this) (inc_ne r k)
    simp only [inc]
    rwa [List.getLast_cons (inc_ne r k)]
theorem inc_sum : ∀ (c : List Nat) (k : Nat), (inc c k).sum = c.sum + 1
  | [], 0 => rfl
  | [], k + 1 => by simp only [inc, List.sum_cons, inc_sum [] k, List.sum_nil]
  | d :: r, 0 => by simp only [inc, List.sum_cons]; (first | lia | omega)
  | d :: r, k + 1 => by simp only [inc, List.sum_cons, inc_sum r k]; (first | lia | omega)
theorem pad_inc : ∀ (c : List Nat) (k : Nat), (padTo (c.map fun d : Nat => (d : Int)) k).set k ((padTo (c.map fun d : Nat => (d : Int)) k).getD k 0 + 1) = (inc c k).map fun d : Nat => (d : Int)
  | [], 0 => rfl
  | [], k + 1 => by
    have ih := pad_inc [] k
    simp only [padTo, List.map_nil, List.length_nil, Nat.zero_le, if_true, List.nil_append, Nat.sub_zero] at ih ⊢
    rw [List.replicate_succ, List.set_cons_succ, List.getD_cons_succ, ih]
    simp [inc]
  | d :: r, 0 => by
    simp [padTo, inc]
  | d :: r, k + 1 => by
    have ih := pad_inc r k
    have e : padTo ((d :: r).map fun d : Nat => (d : Int)) (k + 1) = (d : Int) :: padTo (r.map fun d : Nat => (d : Int)) k := by
      unfold padTo
      simp only [List.map_cons, List.length_cons, List.length_map]
      by_cases h : r.length ≤ k
      · rw [if_pos (by (first | lia | omega)), if_pos h, List.cons_append]
        congr 3
        (first | lia | omega)
      · rw [if_neg (by (first | lia | omega)), if_neg h]
    rw [e, List.set_cons_succ, List.getD_cons_succ, ih]
    simp [inc]
noncomputable def cnts (ks : List Nat) : List Nat := ks.foldl inc []
theorem ws_blanks : ∀ (k : Nat) (l : List Nat) (c : List Int) (b : Nat), wsRun (List.replicate k 32 ++ l) c b = wsRun l c (b + k)
  | 0, _, _, _ => rfl
  | k + 1, l, c, b => by
    rw [List.replicate_succ, List.cons_append, wsRun, if_pos rfl, ws_blanks k l c (b + 1)]
    congr 1; (first | lia | omega)
theorem ws_lead : ∀ (ks : List Nat) (c : List Nat), (wsRun (leadText ks) (c.map fun d : Nat => (d : Int)) 0).1 = (ks.foldl inc c).map fun d : Nat => (d : Int)
  | [], c => by simp [leadText, wsRun]
  | k :: ks, c => by
    have e : leadText (k :: ks) = List.replicate k 32 ++ (9 :: leadText ks) := by simp [leadText]
    rw [e, ws_blanks, wsRun, if_neg (by decide), if_pos rfl, Nat.zero_add, pad_inc, ws_lead ks (inc c k)]
    rfl
theorem cntOf_eq (ks : List Nat) : cntOf ks = (cnts ks).map fun d : Nat => (d : Int) := ws_lead ks []
theorem fold_inc : ∀ (ks : List Nat) (c : List Nat), (∀ h : c ≠ [], c.getLast h ≠ 0) → (∀ h : ks.foldl inc c ≠ [], (ks.foldl inc c).getLast h ≠ 0) ∧ (ks.foldl inc c).sum = c.sum + ks.length ∧ val16 (ks.foldl inc c) = val16 c + sum16 ks
  | [], c, h => ⟨h, rfl, rfl⟩
  | k :: ks, c, h => by
    obtain ⟨a, b, d⟩ := fold_inc ks (inc c k) (inc_last c k h)
    refine ⟨a, ?_, ?_⟩
    · rw [List.foldl_cons, b, inc_sum, List.length_cons]; (first | lia | omega)
    · rw [List.foldl_cons, d, val_inc]
      unfold sum16
      rw [List.map_cons, List.sum_cons]; (first | lia | omega)
theorem le_sum : ∀ {l : List Nat} {d : Nat}, d ∈ l → d ≤ l.sum
  | x :: l, d, h => by
    rw [List.sum_cons]
    rcases List.mem_cons.mp h with rfl | h
    · (first | lia | omega)
    · have := le_sum h; (first | lia | omega)
theorem hexd_cnts {ks : List Nat} (h : ks.length ≤ 15) : hexd (sum16 ks) = cnts ks := by
  obtain ⟨a, b, c⟩ := fold_inc ks [] (fun h => absurd rfl h)
  have c' : val16 (cnts ks) = sum16 ks := by
    unfold cnts; rw [c]; simp [val16]
  rw [← c']
  refine hexd_val _ (fun d hd => ?_) a
  have h1 := le_sum hd
  have h2 : (cnts ks).sum = ks.length := by
    have : (cnts ks).sum = [].sum + ks.length := b
    simpa using this
  (first | lia | omega)
end Mine
end
section
open PySem PyProof.Rows
set_option Elab.async false
set_option autoImplicit false
set_option linter.unusedVariables false
set_option maxRecDepth 100000
namespace Mine
/-- the text of a forest, and of a tree -/
noncomputable def txF : Fo → List Nat
  | .nil => []
  | .cons s k r => s ++ 40 :: (txF k ++ 41 :: txF r)
noncomputable abbrev Tr := List Nat × Fo
noncomputable def tt (t : Tr) : List Nat := t.1 ++ 40 :: (txF t.2 ++ [41])
/-- a sign without the marks of the drawing -/
noncomputable def Sg (s : List Nat) : Prop := 40 ∉ s ∧ 41 ∉ s ∧ 44 ∉ s
noncomputable abbrev okF (f : Fo) : Prop := f.all Sg
noncomputable def okT (t : Tr) : Prop := Sg t.1 ∧ okF t.2
noncomputable def okL (l : List Tr) : Prop := ∀ t ∈ l, okT t
theorem okF_iff : ∀ f : Fo, okF f ↔ okL f.toL
  | .nil => by simp [okF, Fo.all, okL, Fo.toL]
  | .cons s k r => by
    have ih := okF_iff r
    simp only [okF, okL] at ih
    simp only [okF, Fo.all, okL, Fo.toL, List.mem_cons, forall_eq_or_imp, okT, ih, and_assoc]
theorem ofL_toL : ∀ f : Fo, Fo.ofL f.toL = f
  | .nil => rfl
  | .cons s k r => by simp only [Fo.toL, Fo.ofL, ofL_toL r]
theorem toL_ofL : ∀ l : List Tr, (Fo.ofL l).toL = l
  | [] => rfl
  | (s, k) :: r => by simp only [Fo.toL, Fo.ofL, toL_ofL r]
theorem txF_toL : ∀ f : Fo, txF f = (f.toL.map tt).flatten
  | .nil => rfl
  | .cons s k r => by simp only [txF, Fo.toL, List.map_cons, List.flatten_cons, tt, txF_toL r, List.append_assoc, List.cons_append, List.nil_append]
theorem split40 : ∀ {s s' X X' : List Nat}, 40 ∉ s → 40 ∉ s' → s ++ 40 :: X = s' ++ 40 :: X' → s = s' ∧ X = X'
  | [], [], _, _, _, _, h => ⟨rfl, by simpa using h⟩
  | [], c :: s', _, _, _, h2, h => by
    have : 40 = c := by simpa using congrArg List.head? h
    exact absurd (this ▸ List.mem_cons_self) h2
  | c :: s, [], _, _, h1, _, h => by
    have : c = 40 := by simpa using congrArg List.head? h
    exact absurd (this ▸ List.mem_cons_self) h1
  | c :: s, c' :: s', X, X', h1, h2, h => by
    rw [List.cons_append, List.cons_append, List.cons.injEq] at h
    obtain ⟨a, b⟩ := split40 (fun m => h1 (.tail _ m)) (fun m => h2 (.tail _ m)) h.2
    exact ⟨by rw [h.1, a], b⟩
noncomputable def Stop (t : List Nat) : Prop := t = [] ∨ ∃ r, t = 41 :: r
theorem stop_no {s X t : List Nat} (hs : 41 ∉ s) (h : Stop t) : t ≠ s ++ 40 :: X := by
  intro e
  rcases h with rfl | ⟨r, rfl⟩
  · cases s <;> simp at e
  · cases s with
    | nil => simp at e
    | cons c s =>
      have : 41 = c := by simpa using congrArg List.head? e
      exact hs (this ▸ List.mem_cons_self)
theorem txF_inj : ∀ (f f' : Fo) (t t' : List Nat), okF f → okF f' → Stop t → Stop t' → txF f ++ t = txF f' ++ t' → f = f' ∧ t = t'
  | .nil, .nil, t, t', _, _, _, _, h => ⟨rfl, h⟩
  | .nil, .cons s' k' r', t, t', _, h2, h3, _, h => by
    simp only [txF, List.nil_append, List.append_assoc, List.cons_append] at h
    exact absurd h (stop_no h2.1.2.1 h3)
  | .cons s k r, .nil, t, t', h1, _, _, h4, h => by
    simp only [txF, List.nil_append, List.append_assoc, List.cons_append] at h
    exact absurd h.symm (stop_no h1.1.2.1 h4)
  | .cons s k r, .cons s' k' r', t, t', h1, h2, h3, h4, h => by
    simp only [txF, List.append_assoc, List.cons_append] at h
    obtain ⟨e1, e2⟩ := split40 h1.1.1 h2.1.1 h
    obtain ⟨e3, e4⟩ := txF_inj k k' _ _ h1.2.1 h2.2.1 (Or.inr ⟨_, rfl⟩) (Or.inr ⟨_, rfl⟩) e2
    obtain ⟨e5, e6⟩ := txF_inj r r' _ _ h1.2.2 h2.2.2 h3 h4 (List.cons.inj e4).2
    exact ⟨by rw [e1, e3, e5], e6⟩
theorem frame_inj {s s' A A' : List Nat} (h : 40 ∉ s) (h' : 40 ∉ s') (e : s ++ 40 :: (A ++ [41]) = s' ++ 40 :: (A' ++ [41])) : s = s' ∧ A = A' := by
  obtain ⟨a, b⟩ := split40 h h' e
  exact ⟨a, List.append_cancel_right b⟩
theorem tt_inj {t t' : Tr} (h : okT t) (h' : okT t') (e : tt t = tt t') : t = t' := by
  obtain ⟨a, b⟩ := frame_inj h.1.1 h'.1.1 e
  have := txF_inj t.2 t'.2 [] [] h.2 h'.2 (Or.inl rfl) (Or.inl rfl) (by simpa using b)
  exact Prod.ext a this.1
theorem flat_inj {l l' : List Tr} (h : okL l) (h' : okL l') (e : (l.map tt).flatten = (l'.map tt).flatten) : l = l' := by
  have a := txF_inj (Fo.ofL l) (Fo.ofL l') [] [] ((okF_iff _).mpr (by rwa [toL_ofL])) ((okF_iff _).mpr (by rwa [toL_ofL])) (Or.inl rfl) (Or.inl rfl) (by
    rw [txF_toL, txF_toL, toL_ofL, toL_ofL, e])
  have := congrArg Fo.toL a.1
  rwa [toL_ofL, toL_ofL] at this
theorem txF_no : ∀ (f : Fo), okF f → 44 ∉ txF f
  | .nil, _ => by simp [txF]
  | .cons s k r, h => by
    have h1 := txF_no k h.2.1
    have h2 := txF_no r h.2.2
    have h3 := h.1.2.2
    simp only [txF, List.mem_append, List.mem_cons, not_or]
    exact ⟨h3, by decide, h1, by decide, h2⟩
theorem tt_no {t : Tr} (h : okT t) : 44 ∉ tt t := by
  simp only [tt, List.mem_append, List.mem_cons, not_or, List.not_mem_nil]
  exact ⟨h.1.2.2, by decide, txF_no _ h.2, by decide, not_false⟩
theorem filt_no {l : List Nat} (h : 44 ∉ l) : l.filter (fun c => !(c == 44)) = l := by
  rw [List.filter_eq_self]
  intro c hc
  have : c ≠ 44 := fun e => h (e ▸ hc)
  simp [this]
theorem joinC_flat : ∀ {o : Txs}, (∀ x ∈ o, 44 ∉ x) → (joinC o).filter (fun c => !(c == 44)) = o.flatten
  | [], _ => rfl
  | [x], h => by simp only [joinC, filt_no (h x (.head _)), List.flatten_cons, List.flatten_nil, List.append_nil]
  | x :: y :: r, h => by
    have ih := joinC_flat (o := y :: r) fun z hz => h z (.tail _ hz)
    simp only [joinC]
    rw [List.filter_append, filt_no (h x (.head _)), List.filter_cons_of_neg (by simp), ih]; rfl
theorem joinC_inj {l l' : List Tr} (h : okL l) (h' : okL l') (e : joinC (l.map tt) = joinC (l'.map tt)) : l.map tt = l'.map tt := by
  have no : ∀ {l : List Tr}, okL l → ∀ x ∈ l.map tt, 44 ∉ x := by
    intro l h x hx
    obtain ⟨t, ht, rfl⟩ := List.mem_map.mp hx
    exact tt_no (h t ht)
  have a := congrArg (fun z => z.filter (fun c => !(c == 44))) e
  simp only [joinC_flat (no h), joinC_flat (no h')] at a
  rw [flat_inj h h' a]
/-- the children's codes: what is the same for two trees that are alike but for the order of brothers -/
noncomputable def cn : Fo → Txs
  | .nil => []
  | .cons s k r => (s ++ 40 :: ((srt (cn k)).flatten ++ [41])) :: cn r
noncomputable def co (t : Tr) : List Nat := t.1 ++ 40 :: ((srt (cn t.2)).flatten ++ [41])
theorem cn_toL : ∀ f : Fo, cn f = f.toL.map co
  | .nil => rfl
  | .cons s k r => by simp only [cn, Fo.toL, List.map_cons, co, cn_toL r]
theorem choose_list : ∀ {l : Txs}, (∀ x ∈ l, ∃ t, okT t ∧ x = tt t) → ∃ L, okL L ∧ l = L.map tt
  | [], _ => ⟨[], (by intro t ht; simp at ht), rfl⟩
  | x :: r, h => by
    obtain ⟨t, ht, e⟩ := h x (.head _)
    obtain ⟨L, hL, e'⟩ := choose_list fun y hy => h y (.tail _ hy)
    refine ⟨t :: L, ?_, by rw [List.map_cons, e, e']⟩
    intro z hz
    rcases List.mem_cons.mp hz with rfl | hz
    · exact ht
    · exact hL z hz
theorem cn_tree : ∀ f : Fo, okF f → ∀ x ∈ cn f, ∃ t, okT t ∧ x = tt t
  | .nil, _, x, hx => by simp [cn] at hx
  | .cons s k r, h, x, hx => by
    rcases List.mem_cons.mp hx with rfl | hx
    · obtain ⟨L, hL, e⟩ := choose_list (l := srt (cn k)) fun y hy => cn_tree k h.2.1 y ((srt_perm _).mem_iff.mp hy)
      refine ⟨(s, Fo.ofL L), ⟨h.1, (okF_iff _).mpr (by rwa [toL_ofL])⟩, ?_⟩
      simp only [tt, txF_toL, toL_ofL, e]
    · exact cn_tree r h.2.2 x hx
theorem srt_eq {l l' : Txs} : srt l = srt l' ↔ l.Perm l' :=
  ⟨fun e => (srt_perm l).symm.trans (e ▸ srt_perm l'), fun h => sorted_eq _ _ ((srt_perm l).trans (h.trans (srt_perm l').symm)) (srt_sorted l) (srt_sorted l')⟩
theorem co_eq {t t' : Tr} (h : okT t) (h' : okT t') : co t = co t' ↔ t.1 = t'.1 ∧ (cn t.2).Perm (cn t'.2) := by
  constructor
  · intro e
    obtain ⟨a, b⟩ := frame_inj h.1.1 h'.1.1 e
    obtain ⟨L, hL, e1⟩ := choose_list (l := srt (cn t.2)) fun y hy => cn_tree _ h.2 y ((srt_perm _).mem_iff.mp hy)
    obtain ⟨L', hL', e2⟩ := choose_list (l := srt (cn t'.2)) fun y hy => cn_tree _ h'.2 y ((srt_perm _).mem_iff.mp hy)
    rw [e1, e2] at b
    have := flat_inj hL hL' b
    exact ⟨a, srt_eq.mp (by rw [e1, e2, this])⟩
  · rintro ⟨a, b⟩
    unfold co
    rw [a, srt_eq.mpr b]
end Mine
end
section
open PySem PyProof.Rows
set_option Elab.async false
set_option autoImplicit false
set_option linter.unusedVariables false
set_option maxRecDepth 100000
namespace Mine
theorem gput_keys (G : List (List Nat × Txs)) (o : Txs) : (gput G o).map (·.1) = if joinC o ∈ G.map (·.1) then G.map (·.1) else G.map (·.1) ++ [joinC o] := by
  have key : (G.any (fun p => p.1 = joinC o)) = decide (joinC o ∈ G.map (·.1)) := by
    rw [Bool.eq_iff_iff]
    simp only [List.any_eq_true, decide_eq_true_eq, List.mem_map]
  unfold gput
  rw [key]
  by_cases h : joinC o ∈ G.map (·.1)
  · simp only [h, decide_true, if_true, List.map_map]
    refine List.map_congr_left fun p _ => ?_
    show (if p.1 = joinC o then (p.1, o) else p).1 = p.1
    split <;> rfl
  · simp only [h, decide_false, if_false, List.map_append, List.map_cons, List.map_nil, Bool.false_eq_true]
theorem gput_mem {G : List (List Nat × Txs)} {o : Txs} {p : List Nat × Txs} (h : p ∈ gput G o) : p ∈ G ∨ p = (joinC o, o) := by
  unfold gput at h
  split at h
  · obtain ⟨q, hq, e⟩ := List.mem_map.mp h
    split at e
    · rename_i hk
      exact .inr (by rw [← e, hk])
    · exact .inl (e ▸ hq)
  · rcases List.mem_append.mp h with h | h
    · exact .inl h
    · exact .inr (List.mem_singleton.mp h)
theorem fold_keys : ∀ (L : List Txs) (G : List (List Nat × Txs)), (G.map (·.1)).Nodup → ((L.foldl gput G).map (·.1)).Nodup ∧ (∀ p ∈ L.foldl gput G, p ∈ G ∨ p.1 = joinC p.2 ∧ p.2 ∈ L) ∧ ∀ key, key ∈ (L.foldl gput G).map (·.1) ↔ key ∈ G.map (·.1) ∨ key ∈ L.map joinC
  | [], G, h => ⟨h, fun p hp => .inl hp, fun key => by simp⟩
  | o :: L, G, h => by
    have h1 : ((gput G o).map (·.1)).Nodup := by
      rw [gput_keys]
      split
      · exact h
      · rename_i hk
        rw [List.nodup_append]
        refine ⟨h, by simp, fun a ha b hb => ?_⟩
        rw [List.mem_singleton.mp hb]
        exact fun e => hk (e ▸ ha)
    obtain ⟨a, b, c⟩ := fold_keys L (gput G o) h1
    rw [List.foldl_cons]
    refine ⟨a, fun p hp => ?_, fun key => ?_⟩
    · rcases b p hp with x | ⟨x, y⟩
      · rcases gput_mem x with x | x
        · exact .inl x
        · exact .inr ⟨by rw [x], by rw [x]; exact .head _⟩
      · exact .inr ⟨x, .tail _ y⟩
    · rw [c key, gput_keys, List.map_cons, List.mem_cons]
      split
      · rename_i hk
        constructor
        · rintro (x | x)
          · exact .inl x
          · exact .inr (.inr x)
        · rintro (x | x | x)
          · exact .inl x
          · exact .inl (x ▸ hk)
          · exact .inr x
      · simp only [List.mem_append, List.mem_singleton, or_assoc]
theorem gget_ok {L : List Txs} {key : List Nat} (h : key ∈ (grown L).map (·.1)) : gget (grown L) key ∈ L ∧ joinC (gget (grown L) key) = key := by
  obtain ⟨a, b, c⟩ := fold_keys L [] .nil
  unfold gget
  cases e : (grown L).find? (fun p => decide (p.1 = key)) with
  | none =>
    obtain ⟨p, hp, e2⟩ := List.mem_map.mp h
    have := List.find?_eq_none.mp e p hp
    simp [e2] at this
  | some p =>
    have h1 := List.mem_of_find?_eq_some e
    have h2 := List.find?_some e
    simp only [decide_eq_true_eq] at h2
    rcases b p h1 with x | ⟨x, y⟩
    · simp at x
    · exact ⟨y, by show joinC p.2 = key; rw [← x, h2]⟩
/-- the step's list: its names are the sorted keys -/
theorem ordStep_join (os : List Txs) (D : Txs) : (ordStep os D).map joinC = srt ((grown (inAll os D)).map (·.1)) := by
  unfold ordStep
  rw [List.map_map]
  have : ∀ x ∈ srt ((grown (inAll os D)).map (·.1)), (joinC ∘ gget (grown (inAll os D))) x = x := fun x hx => (gget_ok ((srt_perm _).mem_iff.mp hx)).2
  rw [List.map_congr_left this, List.map_id']
theorem ordStep_len (os : List Txs) (D : Txs) : (ordStep os D).length = (grown (inAll os D)).length := by
  unfold ordStep
  rw [List.length_map, (srt_perm _).length_eq, List.length_map]
theorem ordStep_nodup (os : List Txs) (D : Txs) : (ordStep os D).Nodup := by
  have h : ((ordStep os D).map joinC).Nodup := by
    rw [ordStep_join]
    exact (srt_perm _).symm.nodup (fold_keys _ [] .nil).1
  exact List.Pairwise.of_map joinC (fun a b h e => h (by rw [e])) h
theorem ordStep_mem {os : List Txs} {D : Txs} (inj : ∀ a ∈ inAll os D, ∀ b ∈ inAll os D, joinC a = joinC b → a = b) (o : Txs) : o ∈ ordStep os D ↔ o ∈ inAll os D := by
  unfold ordStep
  rw [List.mem_map]
  constructor
  · rintro ⟨key, hk, rfl⟩
    exact (gget_ok ((srt_perm _).mem_iff.mp hk)).1
  · intro h
    have hk : joinC o ∈ (grown (inAll os D)).map (·.1) := ((fold_keys _ [] .nil).2.2 _).mpr (.inr (List.mem_map_of_mem h))
    have g := gget_ok hk
    exact ⟨joinC o, (srt_perm _).mem_iff.mpr hk, inj _ g.1 _ h g.2⟩
theorem inAll_mem {os : List Txs} {D : Txs} {o : Txs} : o ∈ inAll os D ↔ ∃ a ∈ os, ∃ fm ∈ D, ∃ i, i ≤ a.length ∧ o = ins1 a fm i := by
  unfold inAll
  simp only [List.mem_flatMap, List.mem_map, List.mem_range, Nat.lt_succ_iff]
  constructor
  · rintro ⟨a, ha, fm, hf, i, hi, rfl⟩
    exact ⟨a, ha, fm, hf, i, hi, rfl⟩
  · rintro ⟨a, ha, fm, hf, i, hi, rfl⟩
    exact ⟨a, ha, fm, hf, i, hi, rfl⟩
/-- a list of orders holds just the orders of kids with given codes -/
structure OS (os : List Txs) (c : Txs) : Prop where
  nodup : os.Nodup
  mem : ∀ o, o ∈ os ↔ ∃ L, okL L ∧ o = L.map tt ∧ (L.map co).Perm c
  sorted : (os.map joinC).Pairwise (fun a b => a ≤ b)
/-- a list of drawings holds just those of one code -/
structure DS (D : Txs) (d : List Nat) : Prop where
  nodup : D.Nodup
  mem : ∀ x, x ∈ D ↔ ∃ t, okT t ∧ x = tt t ∧ co t = d
theorem OS.perm {os : List Txs} {c c' : Txs} (h : OS os c) (p : c.Perm c') : OS os c' :=
  ⟨h.nodup, fun o => (h.mem o).trans ⟨fun ⟨L, a, b, x⟩ => ⟨L, a, b, x.trans p⟩, fun ⟨L, a, b, x⟩ => ⟨L, a, b, x.trans p.symm⟩⟩, h.sorted⟩
theorem OS.start : OS [[]] [] := by
  refine ⟨by simp, fun o => ?_, by simp⟩
  constructor
  · intro h
    exact ⟨[], (by intro t ht; simp at ht), List.mem_singleton.mp h, .nil⟩
  · rintro ⟨L, _, rfl, h⟩
    have : L = [] := by simpa using h.eq_nil
    rw [this]; exact .head _
theorem ins1_map (L : List Tr) (t : Tr) (i : Nat) : ins1 (L.map tt) (tt t) i = (L.take i ++ t :: L.drop i).map tt := by
  unfold ins1
  simp only [List.map_append, List.map_take, List.map_cons, List.map_drop, List.append_assoc, List.cons_append, List.nil_append]
theorem okL_ins {L : List Tr} {t : Tr} (i : Nat) (h : okL L) (ht : okT t) : okL (L.take i ++ t :: L.drop i) := by
  intro z hz
  rcases List.mem_append.mp hz with hz | hz
  · exact h z (List.mem_of_mem_take hz)
  · rcases List.mem_cons.mp hz with rfl | hz
    · exact ht
    · exact h z (List.mem_of_mem_drop hz)
theorem co_ins (L : List Tr) (t : Tr) (i : Nat) : ((L.take i ++ t :: L.drop i).map co).Perm (co t :: L.map co) := by
  rw [List.map_append, List.map_cons]
  refine List.perm_middle.trans ?_
  rw [← List.map_append, List.take_append_drop]
theorem inAll_tree {os : List Txs} {c : Txs} {D : Txs} {d : List Nat} (h : OS os c) (hD : DS D d) (o : Txs) : o ∈ inAll os D ↔ ∃ L, okL L ∧ o = L.map tt ∧ (L.map co).Perm (d :: c) := by
  rw [inAll_mem]
  constructor
  · rintro ⟨a, ha, fm, hf, i, hi, rfl⟩
    obtain ⟨L, hL, rfl, hp⟩ := (h.mem a).mp ha
    obtain ⟨t, ht, rfl, rfl⟩ := (hD.mem fm).mp hf
    exact ⟨_, okL_ins i hL ht, ins1_map L t i, (co_ins L t i).trans (hp.cons _)⟩
  · rintro ⟨L, hL, rfl, hp⟩
    have hd : d ∈ L.map co := hp.mem_iff.mpr (.head _)
    obtain ⟨t, ht, rfl⟩ := List.mem_map.mp hd
    obtain ⟨A, B, rfl⟩ := List.append_of_mem ht
    have hAB : okL (A ++ B) := fun z hz => hL z (by
      rcases List.mem_append.mp hz with hz | hz
      · exact List.mem_append_left _ hz
      · exact List.mem_append_right _ (.tail _ hz))
    have e1 : (A ++ B).take A.length = A := by simp
    have e2 : (A ++ B).drop A.length = B := by simp
    refine ⟨(A ++ B).map tt, (h.mem _).mpr ⟨A ++ B, hAB, rfl, ?_⟩, tt t, (hD.mem _).mpr ⟨t, hL t ht, rfl, rfl⟩, A.length, by simp, ?_⟩
    · rw [List.map_append, List.map_cons] at hp
      rw [List.map_append]
      exact (List.perm_middle.symm.trans hp).cons_inv
    · rw [ins1_map, e1, e2]
theorem step_OS {os : List Txs} {c : Txs} {D : Txs} {d : List Nat} (h : OS os c) (hD : DS D d) : OS (ordStep os D) (d :: c) := by
  refine ⟨ordStep_nodup os D, fun o => ?_, by rw [ordStep_join]; exact srt_sorted _⟩
  rw [ordStep_mem (fun a ha b hb e => ?_), inAll_tree h hD]
  obtain ⟨L, hL, rfl, _⟩ := (inAll_tree h hD a).mp ha
  obtain ⟨L', hL', rfl, _⟩ := (inAll_tree h hD b).mp hb
  exact joinC_inj hL hL' e
theorem drw_DS {s : List Nat} {k : Fo} {os : List Txs} (hs : Sg s) (hk : okF k) (h : OS os (cn k)) : DS (drw s os) (co (s, k)) := by
  have form : ∀ L : List Tr, s ++ 40 :: ((L.map tt).flatten ++ [41]) = tt (s, Fo.ofL L) := fun L => by
    simp only [tt, txF_toL, toL_ofL]
  constructor
  · unfold drw
    refine List.pairwise_map.mpr (h.nodup.imp_of_mem fun {a b} ha hb hab e => ?_)
    obtain ⟨L, hL, rfl, _⟩ := (h.mem a).mp ha
    obtain ⟨L', hL', rfl, _⟩ := (h.mem b).mp hb
    exact hab (by rw [flat_inj hL hL' (frame_inj hs.1 hs.1 e).2])
  · intro x
    unfold drw
    rw [List.mem_map]
    constructor
    · rintro ⟨o, ho, rfl⟩
      obtain ⟨L, hL, rfl, hp⟩ := (h.mem o).mp ho
      have ok : okT (s, Fo.ofL L) := ⟨hs, (okF_iff _).mpr (by rwa [toL_ofL])⟩
      refine ⟨(s, Fo.ofL L), ok, form L, (co_eq ok ⟨hs, hk⟩).mpr ⟨rfl, ?_⟩⟩
      show (cn (Fo.ofL L)).Perm (cn k)
      rw [cn_toL, toL_ofL]
      exact hp
    · rintro ⟨t, ht, rfl, e⟩
      obtain ⟨e1, e2⟩ := (co_eq ht ⟨hs, hk⟩).mp e
      refine ⟨t.2.toL.map tt, (h.mem _).mpr ⟨t.2.toL, (okF_iff _).mp ht.2, rfl, ?_⟩, ?_⟩
      · rw [← cn_toL]; exact e2
      · rw [form, ofL_toL]
        exact congrArg (fun z => tt (z, t.2)) e1.symm
theorem ord_OS : ∀ (f : Fo), okF f → ∀ {os : List Txs} {c : Txs}, OS os c → OS (ordF f os) (cn f ++ c)
  | .nil, _, os, c, h => h
  | .cons s k r, hf, os, c, h => by
    have h1 := ord_OS k hf.2.1 OS.start
    rw [List.append_nil] at h1
    have h2 := ord_OS r hf.2.2 (step_OS h (drw_DS hf.1 hf.2.1 h1))
    exact h2.perm List.perm_middle
theorem ord0 {k : Fo} (h : okF k) : OS (ordF k [[]]) (cn k) := by
  have := ord_OS k h OS.start
  rwa [List.append_nil] at this
theorem drw0 {s : List Nat} {k : Fo} (hs : Sg s) (hk : okF k) : DS (drw s (ordF k [[]])) (co (s, k)) := drw_DS hs hk (ord0 hk)
end Mine
end
section
open PySem PyProof.Rows
set_option Elab.async false
set_option autoImplicit false
set_option linter.unusedVariables false
set_option maxRecDepth 100000
namespace Mine
theorem flat_len_eq {α β : Type} (h : α → List β) (B : Nat) : ∀ {l : List α}, (∀ x ∈ l, (h x).length = B) → (l.flatMap h).length = l.length * B
  | [], _ => by simp
  | x :: l, hb => by
    have a := hb x (.head _)
    have b := flat_len_eq h B fun y hy => hb y (.tail _ hy)
    rw [List.flatMap_cons, List.length_append, List.length_cons, Nat.succ_mul]; (first | lia | omega)
/-- places at which a list has what is asked -/
theorem places_count {α : Type} (p : α → Bool) : ∀ l : List α, ((List.range l.length).filter fun i => (l[i]?).any p).length = l.countP p
  | [] => rfl
  | x :: l => by
    have ih := places_count p l
    rw [List.length_cons, List.range_succ_eq_map, List.filter_cons]
    have e : ((List.map Nat.succ (List.range l.length)).filter fun i => ((x :: l)[i]?).any p).length = l.countP p := by
      rw [List.filter_map, List.length_map, ← ih]
      rfl
    rw [List.countP_cons]
    by_cases hx : p x
    · rw [if_pos (by simpa using hx), List.length_cons, e, if_pos hx]
    · rw [if_neg (by simpa using hx), e, if_neg hx]; rfl
theorem ins1_at {o : Txs} {x : List Nat} {i : Nat} (h : i ≤ o.length) : (ins1 o x i)[i]? = some x := by
  unfold ins1
  rw [List.append_assoc, List.getElem?_append_right (by rw [List.length_take]; (first | lia | omega))]
  rw [List.length_take, Nat.min_eq_left h, Nat.sub_self]; rfl
theorem ins1_inj {o o' : Txs} {x x' : List Nat} {i : Nat} (h : i ≤ o.length) (h' : i ≤ o'.length) (e : ins1 o x i = ins1 o' x' i) : o = o' ∧ x = x' := by
  have hx : x = x' := by
    have a := ins1_at (x := x) h
    rw [e, ins1_at h'] at a
    exact (Option.some.inj a).symm
  refine ⟨?_, hx⟩
  unfold ins1 at e
  rw [List.append_assoc, List.append_assoc] at e
  have l : (o.take i).length = (o'.take i).length := by rw [List.length_take, List.length_take, Nat.min_eq_left h, Nat.min_eq_left h']
  obtain ⟨a, b⟩ := List.append_inj e l
  rw [← List.take_append_drop i o, ← List.take_append_drop i o', a]
  have : o.drop i = o'.drop i := by simpa [hx] using b
  rw [this]
theorem OS.len {os : List Txs} {c : Txs} (h : OS os c) {o : Txs} (ho : o ∈ os) : o.length = c.length := by
  obtain ⟨L, _, rfl, hp⟩ := (h.mem o).mp ho
  have := hp.length_eq
  rwa [List.length_map] at this ⊢
/-- the count: each new order comes by one more way than there were kids alike -/
theorem step_count {os : List Txs} {c : Txs} {D : Txs} {d : List Nat} (h : OS os c) (hD : DS D d) : (ordStep os D).length * (c.count d + 1) = os.length * D.length * (c.length + 1) := by
  have h' := step_OS h hD
  let A : List (Txs × Nat) := os.flatMap fun o => D.flatMap fun fm => (List.range (c.length + 1)).map fun i => (ins1 o fm i, i)
  let B : List (Txs × Nat) := (ordStep os D).flatMap fun o => ((List.range o.length).filter fun i => (o[i]?).any fun x => decide (x ∈ D)).map fun i => (o, i)
  have lA : A.length = os.length * (D.length * (c.length + 1)) :=
    flat_len_eq _ _ fun o _ => flat_len_eq _ _ fun fm _ => by rw [List.length_map, List.length_range]
  have lB : B.length = (ordStep os D).length * (c.count d + 1) := flat_len_eq _ _ fun o ho => by
    rw [List.length_map, places_count]
    obtain ⟨L, hL, rfl, hp⟩ := (h'.mem o).mp ho
    have e1 := hp.count_eq d
    rw [List.count_cons_self] at e1
    rw [← e1, List.count_eq_countP, List.countP_map, List.countP_map]
    refine List.countP_congr fun t ht => ?_
    show decide (tt t ∈ D) = true ↔ (co t == d) = true
    rw [decide_eq_true_eq, beq_iff_eq, hD.mem]
    constructor
    · rintro ⟨t', ht', e, e2⟩
      rw [tt_inj (hL t ht) ht' e]; exact e2
    · intro e
      exact ⟨t, hL t ht, rfl, e⟩
  have nA : A.Nodup := by
    show List.Pairwise _ _
    rw [List.pairwise_flatMap]
    have inner : ∀ o ∈ os, ∀ fm : List Nat, ∀ i, i ∈ List.range (c.length + 1) → i ≤ o.length := fun o ho fm i hi => by
      rw [h.len ho]; have := List.mem_range.mp hi; (first | lia | omega)
    constructor
    · intro o ho
      rw [List.pairwise_flatMap]
      constructor
      · intro fm hf
        refine List.pairwise_map.mpr (List.nodup_range.imp fun {i j} hij e => hij (congrArg Prod.snd e))
      · refine hD.nodup.imp fun {fm fm'} hne x hx y hy e => ?_
        obtain ⟨i, hi, rfl⟩ := List.mem_map.mp hx
        obtain ⟨j, hj, rfl⟩ := List.mem_map.mp hy
        have hij : i = j := congrArg Prod.snd e
        subst hij
        exact hne (ins1_inj (inner o ho fm i hi) (inner o ho fm' i hi) (congrArg Prod.fst e)).2
    · refine h.nodup.imp_of_mem fun {o o'} ho ho' hne x hx y hy e => ?_
      obtain ⟨fm, hf, hx⟩ := List.mem_flatMap.mp hx
      obtain ⟨fm', hf', hy⟩ := List.mem_flatMap.mp hy
      obtain ⟨i, hi, rfl⟩ := List.mem_map.mp hx
      obtain ⟨j, hj, rfl⟩ := List.mem_map.mp hy
      have hij : i = j := congrArg Prod.snd e
      subst hij
      exact hne (ins1_inj (inner o ho fm i hi) (inner o' ho' fm' i hi) (congrArg Prod.fst e)).1
  have nB : B.Nodup := by
    show List.Pairwise _ _
    rw [List.pairwise_flatMap]
    constructor
    · intro o ho
      refine List.pairwise_map.mpr ((List.nodup_range.filter _).imp fun {i j} hij e => hij (congrArg Prod.snd e))
    · refine h'.nodup.imp fun {o o'} hne x hx y hy e => ?_
      obtain ⟨i, hi, rfl⟩ := List.mem_map.mp hx
      obtain ⟨j, hj, rfl⟩ := List.mem_map.mp hy
      exact hne (congrArg Prod.fst e)
  have same : ∀ x, x ∈ A ↔ x ∈ B := by
    rintro ⟨o', i⟩
    constructor
    · intro hx
      obtain ⟨o, ho, hx⟩ := List.mem_flatMap.mp hx
      obtain ⟨fm, hf, hx⟩ := List.mem_flatMap.mp hx
      obtain ⟨j, hj, e⟩ := List.mem_map.mp hx
      have ej : j = i := congrArg Prod.snd e
      subst ej
      have eo : o' = ins1 o fm j := (congrArg Prod.fst e).symm
      subst eo
      have hi : j ≤ o.length := by rw [h.len ho]; have := List.mem_range.mp hj; (first | lia | omega)
      refine List.mem_flatMap.mpr ⟨ins1 o fm j, ?_, List.mem_map.mpr ⟨j, List.mem_filter.mpr ⟨?_, ?_⟩, rfl⟩⟩
      · rw [h'.mem, ← inAll_tree h hD, inAll_mem]
        exact ⟨o, ho, fm, hf, j, hi, rfl⟩
      · rw [ins1_len]; exact List.mem_range.mpr (by (first | lia | omega))
      · rw [ins1_at hi]; simpa using hf
    · intro hx
      obtain ⟨o, ho, hx⟩ := List.mem_flatMap.mp hx
      obtain ⟨j, hj, e⟩ := List.mem_map.mp hx
      have ej : j = i := congrArg Prod.snd e
      subst ej
      have eo : o = o' := congrArg Prod.fst e
      subst eo
      obtain ⟨hj1, hj2⟩ := List.mem_filter.mp hj
      have hlen := h'.len ho
      obtain ⟨L, hL, rfl, hp⟩ := (h'.mem o).mp ho
      have hj3 : j < L.length := by simpa using hj1
      have e1 : (L.map tt)[j]? = some (tt L[j]) := by simp [hj3]
      rw [e1] at hj2
      have hD1 : tt L[j] ∈ D := by simpa using hj2
      obtain ⟨t, ht, et, ec⟩ := (hD.mem _).mp hD1
      have e3 : L[j] = t := tt_inj (hL _ (List.getElem_mem _)) ht et
      have eL : L = L.take j ++ t :: L.drop (j + 1) := by
        rw [← e3]; simp
      have okAB : okL (L.take j ++ L.drop (j + 1)) := fun z hz => by
        rcases List.mem_append.mp hz with hz | hz
        · exact hL z (List.mem_of_mem_take hz)
        · exact hL z (List.mem_of_mem_drop hz)
      have len1 : (L.take j).length = j := by rw [List.length_take]; (first | lia | omega)
      have hp2 : ((L.take j ++ L.drop (j + 1)).map co).Perm c := by
        rw [eL, List.map_append, List.map_cons, ec] at hp
        rw [List.map_append]
        exact (List.perm_middle.symm.trans hp).cons_inv
      refine List.mem_flatMap.mpr ⟨(L.take j ++ L.drop (j + 1)).map tt, (h.mem _).mpr ⟨_, okAB, rfl, hp2⟩, List.mem_flatMap.mpr ⟨tt L[j], hD1, List.mem_map.mpr ⟨j, ?_, ?_⟩⟩⟩
      · rw [List.length_map] at hlen
        rw [List.mem_range]
        rw [List.length_cons] at hlen
        (first | lia | omega)
      · have e5 : ins1 ((L.take j ++ L.drop (j + 1)).map tt) (tt L[j]) j = L.map tt := by
          rw [ins1_map, e3]
          have q1 : (L.take j ++ L.drop (j + 1)).take j = L.take j := by
            rw [List.take_append_of_le_length (by (first | lia | omega)), List.take_of_length_le (by (first | lia | omega))]
          have q2 : (L.take j ++ L.drop (j + 1)).drop j = L.drop (j + 1) := by
            rw [List.drop_append_of_le_length (by (first | lia | omega)), List.drop_of_length_le (by (first | lia | omega)), List.nil_append]
          rw [q1, q2, ← eL]
        rw [e5]
  have := ((List.perm_ext_iff_of_nodup nA nB).mpr fun x => same x).length_eq
  rw [lA, lB] at this
  rw [← this, Nat.mul_assoc]
/-- what stays fixed, counted down the forest; c: the codes of the kids before -/
noncomputable def fxF : Fo → Txs → Nat
  | .nil, _ => 1
  | .cons s k r, c => fxF k [] * (c.count (co (s, k)) + 1) * fxF r (co (s, k) :: c)
/-- the ways, without what was before -/
noncomputable def wF : Fo → Nat → Nat
  | .nil, _ => 1
  | .cons s k r, n => wF k 0 * (n + 1) * wF r (n + 1)
theorem wyF_eq : ∀ (f : Fo) (p : Nat × Nat), (wyF f p).1 = p.1 * wF f p.2
  | .nil, p => by simp [wyF, wF]
  | .cons s k r, p => by
    rw [wyF, wyF_eq r, wyF_eq k]
    simp only [wF, Nat.one_mul]
    rw [Nat.mul_assoc, Nat.mul_assoc, Nat.mul_assoc]
theorem wy0 (k : Fo) : (wyF k (1, 0)).1 = wF k 0 := by rw [wyF_eq, Nat.one_mul]
theorem drw_len (s : List Nat) (os : List Txs) : (drw s os).length = os.length := by
  unfold drw; rw [List.length_map]
theorem count_ord : ∀ (f : Fo), okF f → ∀ {os : List Txs} {c : Txs}, OS os c → (ordF f os).length * fxF f c = os.length * wF f c.length
  | .nil, _, os, c, h => rfl
  | .cons s k r, hf, os, c, h => by
    have h1 := count_ord k hf.2.1 OS.start
    have hD := drw0 hf.1 hf.2.1
    have h2 := step_count h hD
    have h3 := count_ord r hf.2.2 (step_OS h hD)
    rw [drw_len] at h2
    simp only [ordF, fxF, wF]
    simp only [List.length_cons, List.length_nil, Nat.zero_add, Nat.one_mul] at h1 h3
    generalize hN : (ordF r (ordStep os (drw s (ordF k [[]])))).length = N at h3 ⊢
    generalize hN1 : (ordStep os (drw s (ordF k [[]]))).length = N1 at h2 h3
    generalize (ordF k [[]]).length = M at h1 h2
    generalize fxF k [] = x at h1 ⊢
    generalize fxF r _ = y at h3 ⊢
    generalize wF k 0 = w at h1 ⊢
    generalize wF r _ = v at h3 ⊢
    generalize List.count _ c = m at h2 ⊢
    calc N * (x * (m + 1) * y) = (N * y) * (m + 1) * x := by ac_rfl
      _ = (N1 * (m + 1)) * v * x := by rw [h3]; ac_rfl
      _ = os.length * (M * x) * (c.length + 1) * v := by rw [h2]; ac_rfl
      _ = os.length * (w * (c.length + 1) * v) := by rw [h1]; ac_rfl
theorem count0 {s : List Nat} {k : Fo} (h : okF k) : (drw s (ordF k [[]])).length * fxF k [] = (wyF k (1, 0)).1 := by
  have := count_ord k h OS.start
  rw [drw_len, wy0, this]
  simp
end Mine
end
section
open PySem PyProof.Rows
set_option Elab.async false
set_option autoImplicit false
set_option linter.unusedVariables false
set_option maxRecDepth 100000
namespace Mine
theorem map_inj_on {α β : Type} (g : α → β) : ∀ {l l' : List α}, (∀ a ∈ l, ∀ b ∈ l', g a = g b → a = b) → l.map g = l'.map g → l = l'
  | [], [], _, _ => rfl
  | [], b :: l', _, e => by simp at e
  | a :: l, [], _, e => by simp at e
  | a :: l, b :: l', h, e => by
    rw [List.map_cons, List.map_cons, List.cons.injEq] at e
    rw [h a (.head _) b (.head _) e.1, map_inj_on g (fun x hx y hy => h x (.tail _ hx) y (.tail _ hy)) e.2]
theorem OS.uniq {os os' : List Txs} {c c' : Txs} (h : OS os c) (h' : OS os' c') (p : c.Perm c') : os = os' := by
  have h'' := h'.perm p.symm
  have pe : os.Perm os' := (List.perm_ext_iff_of_nodup h.nodup h'.nodup).mpr fun o => (h.mem o).trans (h''.mem o).symm
  refine map_inj_on joinC (fun a ha b hb e => ?_) (sorted_eq _ _ (pe.map joinC) h.sorted h'.sorted)
  obtain ⟨L, hL, rfl, _⟩ := (h.mem a).mp ha
  obtain ⟨L', hL', rfl, _⟩ := (h'.mem b).mp hb
  exact joinC_inj hL hL' e
/-- all drawings of a tree -/
noncomputable def dr (t : Tr) : Txs := drw t.1 (ordF t.2 [[]])
theorem dr_DS {t : Tr} (h : okT t) : DS (dr t) (co t) := drw0 h.1 h.2
theorem dr_eq {t t' : Tr} (h : okT t) (h' : okT t') (e : co t = co t') : dr t = dr t' := by
  obtain ⟨a, b⟩ := (co_eq h h').mp e
  unfold dr
  rw [a, (ord0 h.2).uniq (ord0 h'.2) b]
theorem dr_ne {t : Tr} (h : okT t) : dr t ≠ [] := by
  intro e
  have : tt t ∈ dr t := ((dr_DS h).mem _).mpr ⟨t, h, rfl, rfl⟩
  rw [e] at this
  simp at this
noncomputable def d0 (t : Tr) : List Nat := (dr t).headD []
theorem dr_cons {t : Tr} (h : okT t) : ∃ ds, dr t = d0 t :: ds := by
  unfold d0
  cases e : dr t with
  | nil => exact absurd e (dr_ne h)
  | cons a l => exact ⟨l, rfl⟩
theorem d0_eq {t t' : Tr} (h : okT t) (h' : okT t') : d0 t = d0 t' ↔ co t = co t' := by
  constructor
  · intro e
    obtain ⟨ds, e1⟩ := dr_cons h
    obtain ⟨ds', e2⟩ := dr_cons h'
    obtain ⟨u, hu, a, b⟩ := ((dr_DS h).mem (d0 t)).mp (by rw [e1]; exact .head _)
    obtain ⟨u', hu', a', b'⟩ := ((dr_DS h').mem (d0 t')).mp (by rw [e2]; exact .head _)
    have : u = u' := tt_inj hu hu' (by rw [← a, ← a', e])
    rw [← b, ← b', this]
  · intro e
    unfold d0
    rw [dr_eq h h' e]
/-- the share of brothers alike -/
noncomputable def pf : Txs → Txs → Nat
  | [], _ => 1
  | d :: l, c => (c.count d + 1) * pf l (d :: c)
noncomputable def kf : Fo → Nat
  | .nil => 1
  | .cons s k r => fxF k [] * kf r
theorem fxF_split : ∀ (f : Fo) (c : Txs), fxF f c = pf (cn f) c * kf f
  | .nil, c => rfl
  | .cons s k r, c => by
    simp only [fxF, cn, pf, kf, fxF_split r, co]
    ac_rfl
theorem pf_c : ∀ (l : Txs) {c c' : Txs}, c.Perm c' → pf l c = pf l c'
  | [], _, _, _ => rfl
  | d :: l, c, c', h => by simp only [pf]; rw [h.count_eq d, pf_c l (h.cons d)]
theorem pf_perm {l l' : Txs} (h : l.Perm l') : ∀ c, pf l c = pf l' c := by
  induction h with
  | nil => intro c; rfl
  | cons x _ ih => intro c; simp only [pf, ih]
  | swap x y l =>
    intro c
    simp only [pf]
    rw [pf_c l (List.Perm.swap x y c)]
    by_cases e : x = y
    · subst e; rfl
    · rw [List.count_cons_of_ne (Ne.symm e), List.count_cons_of_ne e]
      ac_rfl
  | trans _ _ ih1 ih2 => intro c; rw [ih1, ih2]
theorem kf_prod : ∀ f : Fo, kf f = (f.toL.map fun t => fxF t.2 []).prod
  | .nil => rfl
  | .cons s k r => by simp only [kf, Fo.toL, List.map_cons, List.prod_cons, kf_prod r]
theorem match_map {α β γ : Type} (f : α → β) (g : α → γ) : ∀ {l l' : List α}, (∀ a ∈ l, ∀ b ∈ l', f a = f b → g a = g b) → (l.map f).Perm (l'.map f) → (l.map g).Perm (l'.map g)
  | [], l', _, h => by
    have : l' = [] := by simpa using h.symm.eq_nil
    subst this; exact .nil
  | a :: l, l', hh, h => by
    have ha : f a ∈ l'.map f := h.mem_iff.mp (.head _)
    obtain ⟨b, hb, e⟩ := List.mem_map.mp ha
    obtain ⟨A, B, rfl⟩ := List.append_of_mem hb
    have h2 : (l.map f).Perm ((A ++ B).map f) := by
      rw [List.map_append, List.map_cons, List.map_cons, e] at h
      rw [List.map_append]
      exact (h.trans List.perm_middle).cons_inv
    have ih := match_map f g (l := l) (l' := A ++ B) (fun x hx y hy e2 => hh x (.tail _ hx) y (by
      rcases List.mem_append.mp hy with hy | hy
      · exact List.mem_append_left _ hy
      · exact List.mem_append_right _ (.tail _ hy)) e2) h2
    rw [List.map_append, List.map_cons, List.map_cons]
    refine List.Perm.trans ?_ List.perm_middle.symm
    rw [hh a (.head _) b hb e.symm]
    refine List.Perm.cons _ ?_
    rw [← List.map_append]; exact ih
theorem kid_size : ∀ {f : Fo} {t : Tr}, t ∈ f.toL → t.2.size < f.size
  | .cons s k r, t, h => by
    simp only [Fo.toL] at h
    rcases List.mem_cons.mp h with rfl | h
    · simp only [Fo.size]; (first | lia | omega)
    · have := kid_size h; simp only [Fo.size]; (first | lia | omega)
theorem fx_class : ∀ (n : Nat) (f f' : Fo), f.size < n → okF f → okF f' → (cn f).Perm (cn f') → fxF f [] = fxF f' []
  | 0, _, _, h, _, _, _ => absurd h (Nat.not_lt_zero _)
  | n + 1, f, f', hn, hf, hf', hp => by
    rw [fxF_split, fxF_split, pf_perm hp, kf_prod, kf_prod]
    congr 1
    rw [cn_toL, cn_toL] at hp
    refine List.Perm.prod_nat (match_map co _ (fun a ha b hb e => ?_) hp)
    have oa := (okF_iff f).mp hf a ha
    have ob := (okF_iff f').mp hf' b hb
    exact fx_class n a.2 b.2 (by have := kid_size ha; (first | lia | omega)) oa.2 ob.2 ((co_eq oa ob).mp e).2
theorem fx_co {t t' : Tr} (h : okT t) (h' : okT t') (e : co t = co t') : fxF t.2 [] = fxF t'.2 [] := fx_class _ _ _ (Nat.lt_succ_self _) h.2 h'.2 ((co_eq h h').mp e).2
end Mine
end
section
open PySem PyProof.Rows
set_option Elab.async false
set_option autoImplicit false
set_option linter.unusedVariables false
set_option maxRecDepth 100000
namespace Mine
/-- the bound for a forest of so many trees -/
noncomputable def bnd (n : Nat) : Nat := [1, 1, 2, 3, 6, 12, 30].getD n 0
noncomputable abbrev Sta := Nat × Nat × Nat × Nat
noncomputable def stA (x : Sta) : Sta := (x.1 + 1, x.2.1, x.2.2.1 + 1, x.2.2.2)
noncomputable def stB (x : Sta) : Sta := (x.1, x.2.1 + 1, x.2.2.1 + 1, x.2.2.2)
noncomputable def stC (j : Nat) (x : Sta) : Sta := (x.1, x.2.1, x.2.2.1 + 1, x.2.2.2 * bnd j)
noncomputable def tabS : Nat → List (List Sta)
  | 0 => [[(0, 0, 0, 1)]]
  | m + 1 => tabS m ++ [(List.range (m + 1)).flatMap fun j => ((tabS m).getD (m - j) []).flatMap fun x => if j = 0 then [stA x, stB x] else [stC j x]]
noncomputable def tS (σ : Nat) : List Sta := (tabS 6).getD σ []
theorem tS_all : ((List.range 6).all fun σ => (List.range (6 - σ)).all fun j => (tS σ).all fun x => if j = 0 then decide (stA x ∈ tS (σ + 1)) && decide (stB x ∈ tS (σ + 1)) else decide (stC j x ∈ tS (σ + 1 + j))) = true := by decide +kernel
theorem tS_step (σ : Nat) (hσ : σ < 6) (j : Nat) (hj : j < 6 - σ) (x : Sta) (hx : x ∈ tS σ) : (j = 0 → stA x ∈ tS (σ + 1) ∧ stB x ∈ tS (σ + 1)) ∧ (j ≠ 0 → stC j x ∈ tS (σ + 1 + j)) := by
  have h := List.all_eq_true.mp (List.all_eq_true.mp (List.all_eq_true.mp tS_all σ (List.mem_range.mpr hσ)) j (List.mem_range.mpr hj)) x hx
  constructor
  · intro e
    rw [if_pos e, Bool.and_eq_true, decide_eq_true_eq, decide_eq_true_eq] at h
    exact h
  · intro e
    rw [if_neg e, decide_eq_true_eq] at h
    exact h
theorem tS_bnd : ∀ σ, σ < 7 → ∀ x ∈ tS σ, fac x.2.2.1 * x.2.2.2 ≤ bnd σ * (fac x.1 * fac x.2.1) := by decide +kernel
theorem bnd_le : ∀ σ, σ < 7 → bnd σ ≤ 30 := by decide
theorem fac_pos : ∀ n, 0 < fac n
  | 0 => Nat.one_pos
  | n + 1 => Nat.mul_pos (Nat.succ_pos n) (fac_pos n)
theorem fac_mul : ∀ a b, fac a * fac b ≤ fac (a + b)
  | a, 0 => by simp [fac]
  | a, b + 1 => by
    have ih := fac_mul a b
    show fac a * ((b + 1) * fac b) ≤ (a + b + 1) * fac (a + b)
    calc fac a * ((b + 1) * fac b) = (b + 1) * (fac a * fac b) := by ac_rfl
      _ ≤ (a + b + 1) * fac (a + b) := Nat.mul_le_mul (by (first | lia | omega)) ih
theorem wF_le : ∀ (f : Fo) (n : Nat), wF f n * fac n ≤ fac (f.size + n)
  | .nil, n => by simp [wF, Fo.size]
  | .cons s k r, n => by
    have h1 := wF_le k 0
    have h2 := wF_le r (n + 1)
    simp only [fac, Nat.mul_one, Nat.add_zero] at h1
    simp only [wF, Fo.size]
    calc wF k 0 * (n + 1) * wF r (n + 1) * fac n = wF k 0 * (wF r (n + 1) * ((n + 1) * fac n)) := by ac_rfl
      _ ≤ fac k.size * fac (r.size + (n + 1)) := Nat.mul_le_mul h1 h2
      _ ≤ fac (k.size + (r.size + (n + 1))) := fac_mul _ _
      _ = fac (1 + k.size + r.size + n) := by congr 1; (first | lia | omega)
theorem fac6 : ∀ n, n < 7 → fac n ≤ 720 := by decide
theorem wF720 {k : Fo} (h : k.size ≤ 6) : wF k 0 ≤ 720 := by
  have h1 := wF_le k 0
  simp only [fac, Nat.mul_one, Nat.add_zero] at h1
  exact Nat.le_trans h1 (fac6 _ (by (first | lia | omega)))
theorem bits720 : ∀ j : Nat, j < 721 → Builtin.Int.intBits (j : Int) ≤ 64 := by decide +kernel
theorem wy_bits {k : Fo} (h : k.size ≤ 6) : Builtin.Int.intBits ((wyF k (1, 0)).1 : Int) ≤ 64 := by
  rw [wy0]
  exact bits720 _ (by have := wF720 h; (first | lia | omega))
theorem flatten_perm_len {l l' : Txs} (h : l.Perm l') : l.flatten.length = l'.flatten.length := h.flatten.length_eq
theorem co_len (t : Tr) : (co t).length = t.1.length + 2 + (cn t.2).flatten.length := by
  unfold co
  simp only [List.length_append, List.length_cons, List.length_nil, flatten_perm_len (srt_perm (cn t.2))]
  (first | lia | omega)
theorem txF_len : ∀ f : Fo, (txF f).length = (cn f).flatten.length
  | .nil => rfl
  | .cons s k r => by
    have h1 := txF_len k
    have h2 := txF_len r
    have h3 := co_len (s, k)
    simp only [co] at h3
    simp only [txF, cn, List.flatten_cons, List.length_append (bs := List.flatten _), h3]
    simp only [List.length_append, List.length_cons]
    (first | lia | omega)
theorem tt_len (t : Tr) : (tt t).length = (co t).length := by
  rw [co_len, ← txF_len]
  unfold tt
  simp only [List.length_append, List.length_cons, List.length_nil]
  (first | lia | omega)
theorem cn_small : ∀ f : Fo, f.all (fun s => s.length ≤ 3) → (cn f).flatten.length ≤ 5 * f.size
  | .nil, _ => Nat.zero_le _
  | .cons s k r, h => by
    have h1 := cn_small k h.2.1
    have h2 := cn_small r h.2.2
    have h3 := co_len (s, k)
    have h4 : s.length ≤ 3 := h.1
    simp only [co] at h3
    simp only [cn, List.flatten_cons, List.length_append (bs := List.flatten _), h3, Fo.size]
    (first | lia | omega)
theorem OS.flat {os : List Txs} {c : Txs} (h : OS os c) {o : Txs} (ho : o ∈ os) : o.flatten.length = c.flatten.length := by
  obtain ⟨L, _, rfl, hp⟩ := (h.mem o).mp ho
  rw [← flatten_perm_len hp]
  rw [List.length_flatten, List.length_flatten, List.map_map, List.map_map]
  congr 1
  exact List.map_congr_left fun t _ => tt_len t
theorem DS.flat {D : Txs} {d : List Nat} (h : DS D d) {x : List Nat} (hx : x ∈ D) : x.length = d.length := by
  obtain ⟨t, _, rfl, rfl⟩ := (h.mem x).mp hx
  exact tt_len t
/-- two signs, not alike, none too long -/
structure Two (p : List Nat → Prop) (a b : List Nat) : Prop where
  sg : ∀ s, p s → Sg s ∧ s.length ≤ 3
  pa : p a
  pb : p b
  or : ∀ s, p s → s = a ∨ s = b
  ne : a ≠ b
theorem all_imp {p q : List Nat → Prop} (h : ∀ s, p s → q s) : ∀ {f : Fo}, f.all p → f.all q
  | .nil, _ => trivial
  | .cons s k r, x => ⟨h s x.1, all_imp h x.2.1, all_imp h x.2.2⟩
theorem Two.ok {p : List Nat → Prop} {a b : List Nat} (h : Two p a b) {f : Fo} (x : f.all p) : okF f := all_imp (fun s hs => (h.sg s hs).1) x
theorem leaf_ne {s s' : List Nat} {k : Fo} (hs : Sg s) (hk : okF k) (hs' : Sg s') (e : s ≠ s' ∨ k ≠ .nil) : co (s, k) ≠ co (s', .nil) := by
  intro h
  obtain ⟨x, y⟩ := (co_eq (t := (s, k)) (t' := (s', .nil)) ⟨hs, hk⟩ ⟨hs', trivial⟩).mp h
  rcases e with e | e
  · exact e x
  · cases k with
    | nil => exact e rfl
    | cons u v w =>
      have := y.length_eq
      simp [cn] at this
structure Scan (p : List Nat → Prop) (a b : List Nat) (σ : Nat) (x : Sta) (os : List Txs) (c : Txs) : Prop where
  hos : OS os c
  n : c.length = x.2.2.1
  na : c.count (co (a, .nil)) = x.1
  nb : c.count (co (b, .nil)) = x.2.1
  le : os.length * (fac x.1 * fac x.2.1) ≤ fac x.2.2.1 * x.2.2.2
  mem : x ∈ tS σ
  txt : c.flatten.length ≤ 5 * σ
  nσ : c.length ≤ σ
theorem Scan.bound {p : List Nat → Prop} {a b : List Nat} {σ : Nat} {x : Sta} {os : List Txs} {c : Txs} (h : Scan p a b σ x os c) (hσ : σ ≤ 6) : os.length ≤ bnd σ := by
  have h1 := tS_bnd σ (by (first | lia | omega)) x h.mem
  have h2 := Nat.le_trans h.le h1
  exact Nat.le_of_mul_le_mul_right h2 (Nat.mul_pos (fac_pos _) (fac_pos _))
theorem Scan.step {p : List Nat → Prop} {a b : List Nat} (T : Two p a b) {σ : Nat} {x : Sta} {os : List Txs} {c : Txs} (h : Scan p a b σ x os c) {s : List Nat} {k : Fo} (hs : p s) (hk : k.all p) (hσ : σ + 1 + k.size ≤ 6) (hb : (ordF k [[]]).length ≤ bnd k.size) :
    ∃ x', Scan p a b (σ + 1 + k.size) x' (ordStep os (drw s (ordF k [[]]))) (co (s, k) :: c) := by
  have okk := T.ok hk
  have sgs := T.sg s hs
  have hD := drw0 sgs.1 okk
  have cnt := step_count h.hos hD
  have hOS := step_OS h.hos hD
  rw [drw_len] at cnt
  have st := tS_step σ (by (first | lia | omega)) k.size (by (first | lia | omega)) x h.mem
  have txt : (co (s, k) :: c).flatten.length ≤ 5 * (σ + 1 + k.size) := by
    have h1 := h.txt
    have h2 := co_len (s, k)
    have h3 := cn_small k (all_imp (fun s hs => (T.sg s hs).2) hk)
    have h4 := sgs.2
    simp only at h2
    rw [List.flatten_cons, List.length_append, h2]
    (first | lia | omega)
  have nσ : (co (s, k) :: c).length ≤ σ + 1 + k.size := by
    have := h.nσ; rw [List.length_cons]; (first | lia | omega)
  generalize hN : (ordStep os (drw s (ordF k [[]]))).length = N at cnt
  cases k with
  | nil =>
    have one : (ordF .nil [[]]).length = 1 := rfl
    rw [one, Nat.mul_one, h.n] at cnt
    replace st := st.1 rfl
    have le := h.le
    rcases T.or s hs with rfl | rfl
    · refine ⟨stA x, hOS, ?_, ?_, ?_, ?_, st.1, txt, nσ⟩
      · simp only [List.length_cons, h.n, stA]
      · rw [List.count_cons_self, h.na]; rfl
      · rw [List.count_cons_of_ne (leaf_ne (k := .nil) (T.sg _ T.pa).1 trivial (T.sg _ T.pb).1 (.inl T.ne)), h.nb]; rfl
      · rw [h.na] at cnt
        rw [hN]
        show N * ((x.1 + 1) * fac x.1 * fac x.2.1) ≤ (x.2.2.1 + 1) * fac x.2.2.1 * x.2.2.2
        calc N * ((x.1 + 1) * fac x.1 * fac x.2.1) = (N * (x.1 + 1)) * (fac x.1 * fac x.2.1) := by ac_rfl
          _ = (x.2.2.1 + 1) * (os.length * (fac x.1 * fac x.2.1)) := by rw [cnt]; ac_rfl
          _ ≤ (x.2.2.1 + 1) * (fac x.2.2.1 * x.2.2.2) := Nat.mul_le_mul_left _ le
          _ = _ := by ac_rfl
    · refine ⟨stB x, hOS, ?_, ?_, ?_, ?_, st.2, txt, nσ⟩
      · simp only [List.length_cons, h.n, stB]
      · rw [List.count_cons_of_ne (leaf_ne (k := .nil) (T.sg _ T.pb).1 trivial (T.sg _ T.pa).1 (.inl (Ne.symm T.ne))), h.na]; rfl
      · rw [List.count_cons_self, h.nb]; rfl
      · rw [h.nb] at cnt
        rw [hN]
        show N * (fac x.1 * ((x.2.1 + 1) * fac x.2.1)) ≤ (x.2.2.1 + 1) * fac x.2.2.1 * x.2.2.2
        calc N * (fac x.1 * ((x.2.1 + 1) * fac x.2.1)) = (N * (x.2.1 + 1)) * (fac x.1 * fac x.2.1) := by ac_rfl
          _ = (x.2.2.1 + 1) * (os.length * (fac x.1 * fac x.2.1)) := by rw [cnt]; ac_rfl
          _ ≤ (x.2.2.1 + 1) * (fac x.2.2.1 * x.2.2.2) := Nat.mul_le_mul_left _ le
          _ = _ := by ac_rfl
  | cons u v w =>
    have ne0 : (Fo.cons u v w).size ≠ 0 := by simp only [Fo.size]; (first | lia | omega)
    replace st := st.2 ne0
    have le := h.le
    refine ⟨stC (Fo.cons u v w).size x, hOS, ?_, ?_, ?_, ?_, st, txt, nσ⟩
    · simp only [List.length_cons, h.n, stC]
    · rw [List.count_cons_of_ne (leaf_ne sgs.1 okk (T.sg _ T.pa).1 (.inr (by simp))), h.na]; rfl
    · rw [List.count_cons_of_ne (leaf_ne sgs.1 okk (T.sg _ T.pb).1 (.inr (by simp))), h.nb]; rfl
    · rw [hN]
      rw [h.n] at cnt
      show N * (fac x.1 * fac x.2.1) ≤ (x.2.2.1 + 1) * fac x.2.2.1 * (x.2.2.2 * bnd (Fo.cons u v w).size)
      generalize bnd (Fo.cons u v w).size = B at hb ⊢
      generalize (ordF (Fo.cons u v w) [[]]).length = M at hb cnt
      have c1 : N ≤ os.length * M * (x.2.2.1 + 1) := by rw [← cnt]; exact Nat.le_mul_of_pos_right _ (Nat.succ_pos _)
      calc N * (fac x.1 * fac x.2.1) ≤ (os.length * M * (x.2.2.1 + 1)) * (fac x.1 * fac x.2.1) := Nat.mul_le_mul_right _ c1
        _ = (os.length * (fac x.1 * fac x.2.1)) * (M * (x.2.2.1 + 1)) := by ac_rfl
        _ ≤ (fac x.2.2.1 * x.2.2.2) * (B * (x.2.2.1 + 1)) := Nat.mul_le_mul le (Nat.mul_le_mul_right _ hb)
        _ = _ := by ac_rfl
theorem Scan.start (p : List Nat → Prop) (a b : List Nat) : Scan p a b 0 (0, 0, 0, 1) [[]] [] :=
  ⟨OS.start, rfl, rfl, rfl, by decide, by decide, by decide, by decide⟩
theorem scan {p : List Nat → Prop} {a b : List Nat} (T : Two p a b) : ∀ (f : Fo), f.all p → ∀ {σ : Nat} {x : Sta} {os : List Txs} {c : Txs} {q : Nat × Nat}, Scan p a b σ x os c → σ + f.size ≤ 6 → q.2 = c.length →
    safeF f os q ∧ (ordF f os).length ≤ bnd (σ + f.size)
  | .nil, _, σ, x, os, c, q, h, hσ, hq => by
    have hb := h.bound (by simpa [Fo.size] using hσ)
    have h30 := bnd_le σ (by simp only [Fo.size] at hσ; (first | lia | omega))
    refine ⟨⟨fun o ho => ?_, by (first | lia | omega)⟩, by simpa [ordF, Fo.size] using hb⟩
    rw [h.hos.flat ho]
    have := h.txt
    simp only [Fo.size] at hσ
    (first | lia | omega)
  | .cons s k r, hf, σ, x, os, c, q, h, hσ, hq => by
    have hσ' : σ + (1 + k.size + r.size) ≤ 6 := hσ
    obtain ⟨s1, b1⟩ := scan T k hf.2.1 (q := (1, 0)) (Scan.start p a b) (by (first | lia | omega)) rfl
    rw [Nat.zero_add] at b1
    obtain ⟨x', h'⟩ := h.step T hf.1 hf.2.1 (by (first | lia | omega)) b1
    obtain ⟨s2, b2⟩ := scan T r hf.2.2 (q := (q.1 * (wyF k (1, 0)).1 * (q.2 + 1), q.2 + 1)) h' (by (first | lia | omega)) (by show q.2 + 1 = (co (s, k) :: c).length; rw [hq]; rfl)
    have hD := drw0 (T.sg s hf.1).1 (T.ok hf.2.1)
    have B0 := h.bound (by (first | lia | omega))
    have B0' := bnd_le σ (by (first | lia | omega))
    have B1 := h'.bound (by (first | lia | omega))
    have B1' := bnd_le (σ + 1 + k.size) (by (first | lia | omega))
    have B2' := bnd_le k.size (by (first | lia | omega))
    have txt := h.txt
    have nσ := h.nσ
    refine ⟨⟨s1, ⟨by (first | lia | omega), fun o ho => ⟨by rw [h.hos.len ho]; (first | lia | omega), by rw [h.hos.flat ho]; (first | lia | omega)⟩, by rw [drw_len]; (first | lia | omega), fun fm hfm => ?_⟩, ?_, wy_bits (by (first | lia | omega)), by (first | lia | omega), s2⟩, ?_⟩
    · rw [hD.flat hfm, co_len]
      have h3 := cn_small k (all_imp (fun s hs => (T.sg s hs).2) hf.2.1)
      have h4 := (T.sg s hf.1).2
      simp only
      (first | lia | omega)
    · rw [← ordStep_len]; (first | lia | omega)
    · show (ordF r _).length ≤ bnd (σ + (1 + k.size + r.size))
      rw [show σ + (1 + k.size + r.size) = σ + 1 + k.size + r.size by (first | lia | omega)]
      exact b2
end Mine
end
section
open PySem PyProof.Rows
set_option Elab.async false
set_option autoImplicit false
set_option linter.unusedVariables false
set_option maxRecDepth 100000
namespace Mine
theorem inc_comm : ∀ (c : List Nat) (a b : Nat), inc (inc c a) b = inc (inc c b) a
  | [], 0, 0 => rfl
  | [], 0, b + 1 => by simp [inc]
  | [], a + 1, 0 => by simp [inc]
  | [], a + 1, b + 1 => by simp only [inc, inc_comm [] a b]
  | d :: r, 0, 0 => rfl
  | d :: r, 0, b + 1 => by simp [inc]
  | d :: r, a + 1, 0 => by simp [inc]
  | d :: r, a + 1, b + 1 => by simp only [inc, inc_comm r a b]
theorem cnts_perm {ks ks' : List Nat} (h : ks.Perm ks') : cnts ks = cnts ks' := h.foldl_eq' (fun x _ y _ z => inc_comm z x y) []
theorem inc_get : ∀ (c : List Nat) (k j : Nat), (inc c k).getD j 0 = c.getD j 0 + if k = j then 1 else 0
  | [], 0, 0 => rfl
  | [], 0, j + 1 => by simp [inc]
  | [], k + 1, 0 => by simp [inc]
  | [], k + 1, j + 1 => by
    have ih := inc_get [] k j
    simp only [inc, List.getD_cons_succ, ih, Nat.succ_inj, List.getD_nil]
  | d :: r, 0, 0 => rfl
  | d :: r, 0, j + 1 => by simp [inc]
  | d :: r, k + 1, 0 => by simp [inc]
  | d :: r, k + 1, j + 1 => by
    have ih := inc_get r k j
    simp only [inc, List.getD_cons_succ, ih, Nat.succ_inj]
theorem fold_get : ∀ (ks : List Nat) (c : List Nat) (j : Nat), (ks.foldl inc c).getD j 0 = c.getD j 0 + ks.count j
  | [], c, j => rfl
  | k :: ks, c, j => by
    rw [List.foldl_cons, fold_get ks (inc c k) j, inc_get, List.count_cons]
    by_cases h : k = j
    · simp [h]; (first | lia | omega)
    · simp [h]
theorem cnts_inj {ks ks' : List Nat} (h : cnts ks = cnts ks') : ks.Perm ks' := by
  rw [List.perm_iff_count]
  intro j
  have a := fold_get ks [] j
  have b := fold_get ks' [] j
  have : (cnts ks).getD j 0 = (cnts ks').getD j 0 := by rw [h]
  unfold cnts at this
  rw [a, b] at this
  simpa using this
theorem cntOf_inj {ks ks' : List Nat} : cntOf ks = cntOf ks' ↔ ks.Perm ks' := by
  rw [cntOf_eq, cntOf_eq]
  constructor
  · intro h
    exact cnts_inj ((List.map_inj_right (fun a b e => by have e' : (a : Int) = (b : Int) := e; (first | lia | omega))).mp h)
  · intro h; rw [cnts_perm h]
/-- the product of the factorials of the counts -/
noncomputable def facs (c : List Nat) : Nat := (c.map fac).prod
theorem facs_inc : ∀ (c : List Nat) (k : Nat), facs (inc c k) = facs c * (c.getD k 0 + 1)
  | [], 0 => rfl
  | [], k + 1 => by
    have ih := facs_inc [] k
    simp only [facs, inc, List.map_cons, List.prod_cons, List.getD_nil, fac] at ih ⊢
    rw [ih]; simp
  | d :: r, 0 => by
    simp only [facs, inc, List.map_cons, List.prod_cons, List.getD_cons_zero, fac]
    ac_rfl
  | d :: r, k + 1 => by
    have ih := facs_inc r k
    simp only [facs] at ih
    simp only [facs, inc, List.map_cons, List.prod_cons, List.getD_cons_succ, ih]
    ac_rfl
/-- places in the list of codes seen -/
noncomputable def PAt (C : Txs) (ks : List Nat) (l : Txs) : Prop := ks.map (fun i => C[i]?) = l.map some
theorem pat_inj {C : Txs} (n : C.Nodup) {i j : Nat} {d : List Nat} (hi : C[i]? = some d) (hj : C[j]? = some d) : i = j :=
  (List.getElem?_inj (by have := List.getElem?_eq_some_iff.mp hi; exact this.1) n).mp (hi.trans hj.symm)
theorem PAt.len {C : Txs} {ks : List Nat} {l : Txs} (h : PAt C ks l) : ks.length = l.length := by
  have := congrArg List.length h
  simpa using this
theorem PAt.mem {C : Txs} {ks : List Nat} {l : Txs} (h : PAt C ks l) {k : Nat} (hk : k ∈ ks) : ∃ d, C[k]? = some d := by
  have : C[k]? ∈ l.map some := h ▸ List.mem_map_of_mem (f := fun i => C[i]?) hk
  obtain ⟨d, _, e⟩ := List.mem_map.mp this
  exact ⟨d, e.symm⟩
theorem PAt.ext {C E : Txs} {ks : List Nat} {l : Txs} (h : PAt C ks l) : PAt (C ++ E) ks l := by
  have h0 : ks.map (fun i => C[i]?) = l.map some := h
  show ks.map (fun i => (C ++ E)[i]?) = l.map some
  rw [← h0]
  refine List.map_congr_left fun k hk => ?_
  obtain ⟨d, e⟩ := h.mem hk
  exact List.getElem?_append_left (List.getElem?_eq_some_iff.mp e).1
theorem PAt.perm {C : Txs} (n : C.Nodup) {ks ks' : List Nat} {l l' : Txs} (h : PAt C ks l) (h' : PAt C ks' l') : ks.Perm ks' ↔ l.Perm l' := by
  unfold PAt at h h'
  constructor
  · intro p
    have q := p.map (fun i => C[i]?)
    rw [h, h'] at q
    have := match_map some id (l := l) (l' := l') (fun a _ b _ e => Option.some.inj e) q
    simpa using this
  · intro p
    have q := p.map some
    rw [← h, ← h'] at q
    have := match_map (fun i => C[i]?) id (l := ks) (l' := ks') (fun a ha b hb e => by
      obtain ⟨d, hd⟩ := PAt.mem h ha
      exact pat_inj n hd (e ▸ hd)) q
    simpa using this
theorem PAt.count {C : Txs} (n : C.Nodup) {k : Nat} {d : List Nat} (hk : C[k]? = some d) : ∀ {ks : List Nat} {l : Txs}, PAt C ks l → ks.count k = l.count d
  | [], l, h => by
    have : l = [] := by simpa using h.len.symm
    subst this; rfl
  | j :: ks, [], h => by have := h.len; simp at this
  | j :: ks, x :: l, h => by
    have h' : C[j]? = some x ∧ PAt C ks l := by
      unfold PAt at h ⊢
      rw [List.map_cons, List.map_cons, List.cons.injEq] at h
      exact h
    have ih := PAt.count n hk h'.2
    rw [List.count_cons, List.count_cons, ih]
    congr 1
    by_cases e : j = k
    · subst e
      have : x = d := Option.some.inj (h'.1.symm.trans hk)
      simp [this]
    · have : x ≠ d := fun e2 => e (pat_inj n (e2 ▸ h'.1) hk)
      simp [this, e]
theorem facs_pf {C : Txs} (n : C.Nodup) : ∀ {ks : List Nat} {l : Txs}, PAt C ks l → ∀ {c : List Nat} {ps : List Nat} {q : Txs}, PAt C ps q → (∀ j, c.getD j 0 = ps.count j) → facs (ks.foldl inc c) = facs c * pf l q
  | [], l, h, c, ps, q, _, _ => by
    have : l = [] := by simpa using h.len.symm
    subst this
    simp [pf]
  | k :: ks, [], h, _, _, _, _, _ => by have := h.len; simp at this
  | k :: ks, d :: l, h, c, ps, q, hp, hc => by
    have h' : C[k]? = some d ∧ PAt C ks l := by
      unfold PAt at h ⊢
      rw [List.map_cons, List.map_cons, List.cons.injEq] at h
      exact h
    have hp' : PAt C (k :: ps) (d :: q) := by
      unfold PAt at hp ⊢
      rw [List.map_cons, List.map_cons, hp, h'.1]
    rw [List.foldl_cons, facs_pf n h'.2 hp' (fun j => by rw [inc_get, hc, List.count_cons]; by_cases e : k = j <;> simp [e]), facs_inc, hc, PAt.count n h'.1 hp]
    simp only [pf]
    ac_rfl
theorem foldl_cast : ∀ (l : List Nat) (a : Nat), (l.map fun d : Nat => (d : Int)).foldl (· * ·) (a : Int) = ((a * l.prod : Nat) : Int)
  | [], a => by simp
  | x :: l, a => by
    rw [List.map_cons, List.foldl_cons, ← Int.natCast_mul, foldl_cast l (a * x), List.prod_cons, Nat.mul_assoc]
/-- the reader's table, and a tree for each of its entries -/
structure TbI (num : List Nat → Nat) (tb : List Ent) (sn : List Tr) : Prop where
  len : tb.length = sn.length
  ok : ∀ t : Tr, t ∈ sn → okT t ∧ t.1 ∈ signs ∧ t.2.size ≤ 6
  nd : (sn.map co).Nodup
  ent : ∀ (i : Nat) (t : Tr), sn[i]? = some t → ∃ ks, PAt (sn.map co) ks (cn t.2) ∧ tb[i]? = some (num t.1, cntOf ks, (fxF t.2 [] : Int))
theorem TbI.start (num : List Nat → Nat) : TbI num [] [] := ⟨rfl, fun _ h => by simp at h, by simp, fun _ _ h => by simp at h⟩
theorem fx_le {t : Tr} (h : okT t) : fxF t.2 [] ≤ wF t.2 0 := by
  have a := count0 (s := t.1) h.2
  rw [wy0] at a
  have : 0 < (drw t.1 (ordF t.2 [[]])).length := List.length_pos_iff.mpr (dr_ne h)
  rw [← a]
  exact Nat.le_mul_of_pos_left _ this
theorem TbI.fixOk {num : List Nat → Nat} {tb : List Ent} {sn : List Tr} (h : TbI num tb sn) : fixOk tb := by
  intro e he
  obtain ⟨i, hi, rfl⟩ := List.getElem_of_mem he
  have hi' : i < sn.length := h.len ▸ hi
  obtain ⟨ks, _, e2⟩ := h.ent i sn[i] (List.getElem?_eq_getElem hi')
  rw [List.getElem?_eq_getElem hi, Option.some.injEq] at e2
  rw [e2]
  have o := h.ok _ (List.getElem_mem hi')
  have := fx_le o.1
  have := wF720 o.2.2
  exact bits720 _ (by (first | lia | omega))
theorem kids_fx {num : List Nat → Nat} {tb : List Ent} {sn : List Tr} (h : TbI num tb sn) : ∀ {L : List Tr} {ks : List Nat}, okL L → PAt (sn.map co) ks (L.map co) → ks.map (fun k => (tb.getD k (0, [], 0)).2.2) = (L.map fun t => fxF t.2 []).map fun d : Nat => (d : Int)
  | [], ks, _, p => by
    have : ks = [] := by simpa using p.len
    subst this; rfl
  | t :: L, [], _, p => by have := p.len; simp at this
  | t :: L, k :: ks, hL, p => by
    have p' : (sn.map co)[k]? = some (co t) ∧ PAt (sn.map co) ks (L.map co) := by
      unfold PAt at p ⊢
      rw [List.map_cons, List.map_cons, List.map_cons, List.cons.injEq] at p
      exact p
    rw [List.map_cons, List.map_cons, List.map_cons, kids_fx h (fun z hz => hL z (.tail _ hz)) p'.2]
    congr 1
    have q := p'.1
    rw [List.getElem?_map, Option.map_eq_some_iff] at q
    obtain ⟨u, hu, eu⟩ := q
    obtain ⟨ku, _, e⟩ := h.ent k u hu
    rw [List.getD_eq_getElem?_getD, e]
    show ((fxF u.2 [] : Nat) : Int) = _
    rw [fx_co (h.ok u (List.mem_of_getElem? hu)).1 (hL t (.head _)) eu]
theorem size_cn : ∀ f : Fo, (cn f).length ≤ f.size
  | .nil => Nat.le_refl _
  | .cons s k r => by have := size_cn r; simp only [cn, List.length_cons, Fo.size]; (first | lia | omega)
theorem fix_eq {num : List Nat → Nat} {tb : List Ent} {sn : List Tr} (h : TbI num tb sn) {k : Fo} (hk : okF k) (h6 : k.size ≤ 6) {ks : List Nat} (p : PAt (sn.map co) ks (cn k)) : fixOf tb ks = ((fxF k [] : Nat) : Int) := by
  have hl : ks.length ≤ 15 := by rw [p.len]; have := size_cn k; (first | lia | omega)
  unfold fixOf
  rw [hexd_cnts hl]
  have e1 := kids_fx h ((okF_iff k).mp hk) (by rw [← cn_toL]; exact p)
  rw [e1]
  have e2 : (cnts ks).reverse.map (fun d => (fac d : Int)) = ((cnts ks).reverse.map fac).map fun d : Nat => (d : Int) := by rw [List.map_map]; rfl
  rw [e2, ← List.map_append]
  have e3 := foldl_cast ((cnts ks).reverse.map fac ++ k.toL.map fun t => fxF t.2 []) 1
  rw [show ((1 : Nat) : Int) = 1 from rfl] at e3
  rw [e3, Nat.one_mul, List.prod_append_nat, ← kf_prod]
  have e4 : ((cnts ks).reverse.map fac).prod = facs (cnts ks) := (((List.reverse_perm (cnts ks)).map fac).prod_nat)
  have e5 := facs_pf h.nd p (c := []) (ps := []) (q := []) rfl (fun j => by simp)
  have e6 : facs (cnts ks) = pf (cn k) [] := by
    unfold cnts; rw [e5]; simp [facs]
  rw [e4, e6, fxF_split]
end Mine
end
section
open PySem PyProof.Rows
set_option Elab.async false
set_option autoImplicit false
set_option linter.unusedVariables false
set_option maxRecDepth 100000
namespace Mine
theorem rdOne_hit {num q : Nat} {ks rest : List Nat} {tb : List Ent} {td : List Tol} (h : places tb num (cntOf ks) = q :: rest) : rdOne num ks tb td = (q, tb, td ++ [(q, fixOf tb ks, (hexd (sum16 ks)).map (fun d : Nat => (d : Int)), cntOf ks)]) := by
  unfold rdOne
  simp only [h]
theorem rdOne_new {num : Nat} {ks : List Nat} {tb : List Ent} {td : List Tol} (h : places tb num (cntOf ks) = []) : rdOne num ks tb td = (tb.length, tb ++ [(num, cntOf ks, fixOf tb ks)], td ++ [(tb.length, fixOf tb ks, (hexd (sum16 ks)).map (fun d : Nat => (d : Int)), cntOf ks)]) := by
  unfold rdOne
  simp only [h]
theorem Chk_old {o : Own} {os : List Own} {t : Tol} {ts : List Tol} {seen : Txs} {d : List Nat} {ds : Txs} (e : o.1 = d :: ds) (hm : d ∈ seen)
    (h1 : ∃ j : Nat, t.1 = j ∧ seen[j]? = some d ∧ ∀ m, m < j → seen[m]? ≠ some d) (h2 : t.2.2.1 = t.2.2.2) (h3 : (o.1.length : Int) * t.2.1 = (o.2 : Int)) (h4 : o.1.length ≤ 64) (h5 : seen.length ≤ 100) (h6 : Chk os ts seen) : Chk (o :: os) (t :: ts) seen := by
  refine ⟨d, ds, e, ?_⟩
  simp only [if_pos hm]
  exact ⟨h1, h2, h3, h4, h5, h6⟩
theorem Chk_new {o : Own} {os : List Own} {t : Tol} {ts : List Tol} {seen : Txs} {d : List Nat} {ds : Txs} (e : o.1 = d :: ds) (hm : d ∉ seen)
    (h1 : t.1 = seen.length) (h2 : t.2.2.1 = t.2.2.2) (h3 : (o.1.length : Int) * t.2.1 = (o.2 : Int)) (h4 : o.1.length ≤ 64) (h5 : seen.length ≤ 99) (h6 : Chk os ts (seen ++ [d])) : Chk (o :: os) (t :: ts) seen := by
  refine ⟨d, ds, e, ?_⟩
  simp only [if_neg hm]
  refine ⟨⟨seen.length, h1, by simp, fun m hm2 e2 => ?_⟩, h2, h3, h4, by simp; (first | lia | omega), h6⟩
  rw [List.getElem?_append_left hm2] at e2
  exact hm (List.mem_of_getElem? e2)
theorem one_step {num : List Nat → Nat} (hnum : ∀ s ∈ signs, ∀ s' ∈ signs, num s = num s' → s = s') {tb : List Ent} {td : List Tol} {sn : List Tr} (h : TbI num tb sn) {s : List Nat} {k : Fo} (hs : s ∈ signs) (ht : okT (s, k)) (h6 : k.size ≤ 6)
    {ks : List Nat} (p : PAt (sn.map co) ks (cn k)) (hD : (dr (s, k)).length ≤ 64) (h99 : sn.length ≤ 99) :
    ∃ E e, TbI num (rdOne (num s) ks tb td).2.1 (sn ++ E) ∧ E.length ≤ 1 ∧ ((sn ++ E).map co)[(rdOne (num s) ks tb td).1]? = some (co (s, k)) ∧ (rdOne (num s) ks tb td).2.2 = td ++ [e] ∧
      ∀ os ts, Chk os ts ((sn ++ E).map d0) → Chk ((dr (s, k), (wyF k (1, 0)).1) :: os) (e :: ts) (sn.map d0) := by
  have fx := fix_eq h ht.2 h6 p
  have dig : hexd (sum16 ks) = cnts ks := hexd_cnts (by rw [p.len]; have := size_cn k; (first | lia | omega))
  have let2 : (hexd (sum16 ks)).map (fun d : Nat => (d : Int)) = cntOf ks := by rw [dig, cntOf_eq]
  have prod : ((dr (s, k)).length : Int) * fixOf tb ks = ((wyF k (1, 0)).1 : Int) := by
    rw [fx, ← Int.natCast_mul]
    exact congrArg _ (count0 (s := s) ht.2)
  obtain ⟨ds, eds⟩ := dr_cons ht
  have kk : ∀ i u, sn[i]? = some u → ((tb.getD i (0, [], 0)).1 = num s ∧ (tb.getD i (0, [], 0)).2.1 = cntOf ks ↔ co u = co (s, k)) := by
    intro i u hu
    obtain ⟨ku, pu, e⟩ := h.ent i u hu
    have ou := h.ok u (List.mem_of_getElem? hu)
    rw [List.getD_eq_getElem?_getD, e]
    show num u.1 = num s ∧ cntOf ku = cntOf ks ↔ _
    rw [cntOf_inj, PAt.perm h.nd pu p, co_eq ou.1 ht]
    constructor
    · rintro ⟨a, b⟩
      exact ⟨hnum _ ou.2.1 _ hs a, b⟩
    · rintro ⟨a, b⟩
      exact ⟨by rw [a], b⟩
  have pm : ∀ i, i ∈ places tb (num s) (cntOf ks) ↔ ∃ u, sn[i]? = some u ∧ co u = co (s, k) := by
    intro i
    unfold places
    rw [List.mem_filter, List.mem_range, decide_eq_true_eq, h.len]
    constructor
    · rintro ⟨a, b⟩
      exact ⟨sn[i], List.getElem?_eq_getElem a, (kk i _ (List.getElem?_eq_getElem a)).mp b⟩
    · rintro ⟨u, hu, eu⟩
      exact ⟨(List.getElem?_eq_some_iff.mp hu).1, (kk i u hu).mpr eu⟩
  cases hpl : places tb (num s) (cntOf ks) with
  | cons q rest =>
    obtain ⟨u, hu, eu⟩ := (pm q).mp (by rw [hpl]; exact .head _)
    have ou := h.ok u (List.mem_of_getElem? hu)
    rw [rdOne_hit hpl]
    have ed : d0 u = d0 (s, k) := (d0_eq ou.1 ht).mpr eu
    have hq : (sn.map d0)[q]? = some (d0 (s, k)) := by rw [List.getElem?_map, hu, ← ed]; rfl
    refine ⟨[], _, by rw [List.append_nil]; exact h, by simp, ?_, rfl, fun os ts hc => ?_⟩
    · rw [List.append_nil, List.getElem?_map, hu, ← eu]; rfl
    · rw [List.append_nil] at hc
      refine Chk_old (d := d0 (s, k)) (ds := ds) eds (List.mem_of_getElem? hq) ⟨q, rfl, hq, fun m hm e => ?_⟩ let2 prod hD (by rw [List.length_map]; (first | lia | omega)) hc
      rw [List.getElem?_map, Option.map_eq_some_iff] at e
      obtain ⟨v, hv, ev⟩ := e
      have ov := h.ok v (List.mem_of_getElem? hv)
      have ec : co v = co u := (d0_eq ov.1 ou.1).mp (ev.trans ed.symm)
      have e1 : (sn.map co)[m]? = some (co u) := by rw [List.getElem?_map, hv, ← ec]; rfl
      have e2 : (sn.map co)[q]? = some (co u) := by rw [List.getElem?_map, hu]; rfl
      have := pat_inj h.nd e1 e2
      (first | lia | omega)
  | nil =>
    rw [rdOne_new hpl]
    have fresh : ∀ u ∈ sn, co u ≠ co (s, k) := by
      intro u hu e
      obtain ⟨i, hi, rfl⟩ := List.getElem_of_mem hu
      have := (pm i).mpr ⟨_, List.getElem?_eq_getElem hi, e⟩
      rw [hpl] at this
      simp at this
    refine ⟨[(s, k)], _, ⟨?_, ?_, ?_, ?_⟩, Nat.le_refl _, ?_, rfl, fun os ts hc => ?_⟩
    · rw [List.length_append, List.length_append, h.len]; rfl
    · intro t ht'
      rcases List.mem_append.mp ht' with ht' | ht'
      · exact h.ok t ht'
      · rw [List.mem_singleton.mp ht']; exact ⟨ht, hs, h6⟩
    · rw [List.map_append, List.nodup_append]
      refine ⟨h.nd, by simp, fun x hx y hy => ?_⟩
      obtain ⟨u, hu, rfl⟩ := List.mem_map.mp hx
      have : y = co (s, k) := by simpa using hy
      rw [this]; exact fresh u hu
    · intro i t hi
      by_cases hlt : i < sn.length
      · rw [List.getElem?_append_left hlt] at hi
        obtain ⟨kt, pt, e⟩ := h.ent i t hi
        refine ⟨kt, by rw [List.map_append]; exact pt.ext, ?_⟩
        rw [List.getElem?_append_left (by rw [h.len]; exact hlt)]; exact e
      · have hi2 : i = sn.length := by
          have := (List.getElem?_eq_some_iff.mp hi).1
          rw [List.length_append] at this
          simp at this
          (first | lia | omega)
        subst hi2
        rw [List.getElem?_append_right (Nat.le_refl _), Nat.sub_self] at hi
        have : t = (s, k) := by simpa using hi.symm
        subst this
        refine ⟨ks, by rw [List.map_append]; exact p.ext, ?_⟩
        rw [← h.len, List.getElem?_append_right (Nat.le_refl _), Nat.sub_self, fx]; rfl
    · show ((sn ++ [(s, k)]).map co)[tb.length]? = _
      rw [h.len, List.getElem?_map, List.getElem?_append_right (Nat.le_refl _), Nat.sub_self]; rfl
    · rw [List.map_append] at hc
      refine Chk_new (d := d0 (s, k)) (ds := ds) eds (fun hm => ?_) (by show tb.length = _; rw [h.len, List.length_map]) let2 prod hD (by rw [List.length_map]; exact h99) hc
      obtain ⟨u, hu, e⟩ := List.mem_map.mp hm
      exact fresh u hu ((d0_eq (h.ok u hu).1 ht).mp e)
theorem reader {num : List Nat → Nat} (hnum : ∀ s ∈ signs, ∀ s' ∈ signs, num s = num s' → s = s') {p : List Nat → Prop} {a b : List Nat} (T : Two p a b) (hp : ∀ s, p s → s ∈ signs) :
    ∀ (f : Fo), f.all p → f.size ≤ 7 → ∀ {tb : List Ent} {td : List Tol} {sn : List Tr}, TbI num tb sn → sn.length + f.size ≤ 90 →
      ∃ E new, TbI num (rd num f tb td).2.1 (sn ++ E) ∧ E.length ≤ f.size ∧ PAt ((sn ++ E).map co) (rd num f tb td).1 (cn f) ∧ (rd num f tb td).2.2 = td ++ new ∧ rdOk num f tb td ∧
        ∀ os ts, Chk os ts ((sn ++ E).map d0) → Chk (ownF f ++ os) (new ++ ts) (sn.map d0)
  | .nil, _, _, tb, td, sn, h, _ => ⟨[], [], by rw [List.append_nil]; exact h, Nat.le_refl _, rfl, (List.append_nil _).symm, trivial, fun os ts hc => by rw [List.append_nil] at hc; exact hc⟩
  | .cons s k r, hf, h7, tb, td, sn, h, hl => by
    have h7' : 1 + k.size + r.size ≤ 7 := h7
    have hl' : sn.length + (1 + k.size + r.size) ≤ 90 := hl
    obtain ⟨E1, n1, i1, l1, p1, t1, o1, c1⟩ := reader hnum T hp k hf.2.1 (by (first | lia | omega)) (td := td) h (by (first | lia | omega))
    have hD : (dr (s, k)).length ≤ 64 := by
      have := (scan T k hf.2.1 (q := (1, 0)) (Scan.start p a b) (by (first | lia | omega)) rfl).2
      rw [Nat.zero_add] at this
      have := bnd_le k.size (by (first | lia | omega))
      unfold dr
      rw [drw_len]
      show (ordF k [[]]).length ≤ 64
      (first | lia | omega)
    obtain ⟨E2, e, i2, l2, p2, t2, c2⟩ := one_step hnum (td := (rd num k tb td).2.2) i1 (hp s hf.1) (k := k) ⟨(T.sg s hf.1).1, T.ok hf.2.1⟩ (by (first | lia | omega)) p1 hD (by rw [List.length_append]; (first | lia | omega))
    obtain ⟨E3, n3, i3, l3, p3, t3, o3, c3⟩ := reader hnum T hp r hf.2.2 (by (first | lia | omega)) (td := (rdOne (num s) (rd num k tb td).1 (rd num k tb td).2.1 (rd num k tb td).2.2).2.2) i2 (by rw [List.length_append, List.length_append]; (first | lia | omega))
    refine ⟨E1 ++ E2 ++ E3, n1 ++ e :: n3, ?_, ?_, ?_, ?_, ⟨o1, i1.fixOk, o3⟩, fun os ts hc => ?_⟩
    · rw [← List.append_assoc, ← List.append_assoc]; exact i3
    · rw [List.length_append, List.length_append]; show _ ≤ 1 + k.size + r.size; (first | lia | omega)
    · rw [← List.append_assoc, ← List.append_assoc]
      have q2 := (List.getElem?_append_left (l₂ := E3.map co) (List.getElem?_eq_some_iff.mp p2).1).trans p2
      rw [← List.map_append] at q2
      unfold PAt at p3 ⊢
      show ((rdOne (num s) (rd num k tb td).1 (rd num k tb td).2.1 (rd num k tb td).2.2).1 :: (rd num r _ _).1).map _ = (co (s, k) :: cn r).map some
      rw [List.map_cons, List.map_cons, q2, p3]
    · show (rd num r _ _).2.2 = _
      rw [t3, t2, t1]
      simp only [List.append_assoc, List.cons_append, List.nil_append]
    · rw [← List.append_assoc, ← List.append_assoc] at hc
      show Chk ((ownF k ++ (dr (s, k), (wyF k (1, 0)).1) :: ownF r) ++ os) ((n1 ++ e :: n3) ++ ts) _
      rw [List.append_assoc, List.append_assoc, List.cons_append, List.cons_append]
      exact c1 _ _ (c2 _ _ (c3 _ _ hc))
theorem signs_Sg : ∀ s ∈ signs, (40 ∉ s ∧ 41 ∉ s ∧ 44 ∉ s) ∧ s.length ≤ 3 := by decide
theorem signs_ne : ∀ k, k < 6 → signs.getD (2 * k) [] ≠ signs.getD (2 * k + 1) [] := by decide
theorem two_of {k : Nat} (hk : k < 6) : Two (· ∈ twoOf k) (signs.getD (2 * k) []) (signs.getD (2 * k + 1) []) := by
  refine ⟨fun s hs => signs_Sg s (two_signs hk hs), by simp [twoOf], by simp [twoOf], fun s hs => by simpa [twoOf] using hs, signs_ne k hk⟩
theorem plain {num : List Nat → Nat} (hnum : ∀ s ∈ signs, ∀ s' ∈ signs, num s = num s' → s = s') {k : Nat} {s : List Nat} {f : Fo} {k' : Nat} {s' : List Nat} {f' : Fo} (h : shapeOk k s f) (h' : shapeOk k' s' f') : Good num s f s' f' := by
  obtain ⟨hk, hs, hf, h6, _⟩ := h
  obtain ⟨hk', hs', hf', h6', _⟩ := h'
  have T := two_of hk
  have T' := two_of hk'
  have z : (Fo.cons s f .nil).size = 7 := by simp only [Fo.size, h6]
  have z' : (Fo.cons s' f' .nil).size = 7 := by simp only [Fo.size, h6']
  obtain ⟨E1, n1, i1, l1, p1, t1, o1, c1⟩ := reader hnum T (fun s hs => two_signs hk hs) (.cons s f .nil) ⟨hs, hf, trivial⟩ (by (first | lia | omega)) (td := []) (TbI.start num) (by rw [z]; decide)
  obtain ⟨E2, n2, i2, l2, p2, t2, o2, c2⟩ := reader hnum T' (fun s hs => two_signs hk' hs) (.cons s' f' .nil) ⟨hs', hf', trivial⟩ (by (first | lia | omega)) (td := (rd num (.cons s f .nil) [] []).2.2) i1 (by rw [List.nil_append]; (first | lia | omega))
  refine ⟨o1, o2, (scan T f hf (q := (1, 0)) (Scan.start _ _ _) (by (first | lia | omega)) rfl).1, (scan T' f' hf' (q := (1, 0)) (Scan.start _ _ _) (by (first | lia | omega)) rfl).1, ?_⟩
  rw [t2, t1]
  have q2 := c2 [] [] trivial
  rw [List.append_nil, List.append_nil] at q2
  exact c1 _ _ q2
end Mine
end
section
open PySem PySem.W PyProof.Rows PySem.Calls
set_option Elab.async false
set_option autoImplicit false
set_option linter.unusedVariables false
set_option maxRecDepth 100000
set_option maxHeartbeats 4000000
namespace Mine
/-- a function's object -/
noncomputable def fnO (d : Df) (n : Str) (pm : Value) (cd : Addr) : Obj := { cls := .type "function", data := .func { name := n, qualname := d.qual, params := d.params, body := .stmts d.body, scope := d.scope, globals := 3, closure := [], defaults := .none, kwdefaults := .none, pyModule := pm, code := .ref cd } }
noncomputable def enO (P : Params) (k : Str) (t : Tok) (v : Value) : DictEntry := ⟨PyData.keyHash P k, .str k t, v⟩
noncomputable def dcO (c : Value) (es : Array DictEntry) (n : Nat) : Obj := { cls := c, data := .dict es n }
/-- what stands in the heap behind the top -/
noncomputable def topK (P : Params) : PySem.W.Frag := [
  (2, dcO (Value.none) #[enO P (Str.ofString "type.__subclasses__.Exception.0") 306 (Value.int 97 0), enO P (Str.ofString "type.__subclasses__.Exception.n") 307 (Value.int 1 0)] 2),
  (3, dcO (Value.type "dict") #[enO P (Str.ofString "__name__") 165 (Value.str (Str.ofString "law_wo0064_01") 560), enO P (Str.ofString "__doc__") 166 (Value.none), enO P (Str.ofString "__package__") 167 (Value.none), enO P (Str.ofString "__loader__") 168 (Value.builtin "__main__.__loader__#opaque"), enO P (Str.ofString "__spec__") 169 (Value.none), enO P (Str.ofString "__annotations__") 170 (Value.ref 6), enO P (Str.ofString "__builtins__") 171 (Value.ref 4), enO P (Str.ofString "__file__") 173 (Value.str (Str.ofString "/claim/cut.py") 172), enO P (Str.ofString "__cached__") 174 (Value.none), enO P (Str.ofString "_wall") 193 (Value.ref 21), enO P (Str.ofString "Whitespace") 287 (Value.ref 83), enO P (Str.ofString "Error") 309 (Value.ref 97), enO P (Str.ofString "error_reply") 325 (Value.ref 110), enO P (Str.ofString "parse257") 336 (Value.ref 119), enO P (Str.ofString "Int2AP") 348 (Value.ref 126), enO P (Str.ofString "LPAR") 352 (Value.int 7 351), enO P (Str.ofString "RPAR") 354 (Value.int 8 353), enO P (Str.ofString "LSQB") 356 (Value.int 9 355), enO P (Str.ofString "RSQB") 358 (Value.int 10 357), enO P (Str.ofString "COLON") 360 (Value.int 11 359), enO P (Str.ofString "COMMA") 362 (Value.int 12 361), enO P (Str.ofString "SEMI") 364 (Value.int 13 363), enO P (Str.ofString "PLUS") 366 (Value.int 14 365), enO P (Str.ofString "MINUS") 368 (Value.int 15 367), enO P (Str.ofString "STAR") 370 (Value.int 16 369), enO P (Str.ofString "SLASH") 372 (Value.int 17 371), enO P (Str.ofString "VBAR") 374 (Value.int 18 373), enO P (Str.ofString "AMPER") 376 (Value.int 19 375), enO P (Str.ofString "LESS") 378 (Value.int 20 377), enO P (Str.ofString "GREATER") 380 (Value.int 21 379), enO P (Str.ofString "EQUAL") 382 (Value.int 22 381), enO P (Str.ofString "DOT") 384 (Value.int 23 383), enO P (Str.ofString "PERCENT") 386 (Value.int 24 385), enO P (Str.ofString "LBRACE") 388 (Value.int 25 387), enO P (Str.ofString "RBRACE") 390 (Value.int 26 389), enO P (Str.ofString "EQEQUAL") 392 (Value.int 27 391), enO P (Str.ofString "NOTEQUAL") 394 (Value.int 28 393), enO P (Str.ofString "LESSEQUAL") 396 (Value.int 29 395), enO P (Str.ofString "GREATEREQUAL") 398 (Value.int 30 397), enO P (Str.ofString "TILDE") 400 (Value.int 31 399), enO P (Str.ofString "CIRCUMFLEX") 402 (Value.int 32 401), enO P (Str.ofString "LEFTSHIFT") 404 (Value.int 33 403), enO P (Str.ofString "RIGHTSHIFT") 406 (Value.int 34 405), enO P (Str.ofString "DOUBLESTAR") 408 (Value.int 35 407), enO P (Str.ofString "PLUSEQUAL") 410 (Value.int 36 409), enO P (Str.ofString "MINEQUAL") 412 (Value.int 37 411), enO P (Str.ofString "STAREQUAL") 414 (Value.int 38 413), enO P (Str.ofString "SLASHEQUAL") 416 (Value.int 39 415), enO P (Str.ofString "PERCENTEQUAL") 418 (Value.int 40 417), enO P (Str.ofString "AMPEREQUAL") 420 (Value.int 41 419), enO P (Str.ofString "VBAREQUAL") 422 (Value.int 42 421), enO P (Str.ofString "CIRCUMFLEXEQUAL") 424 (Value.int 43 423), enO P (Str.ofString "LEFTSHIFTEQUAL") 426 (Value.int 44 425), enO P (Str.ofString "RIGHTSHIFTEQUAL") 428 (Value.int 45 427), enO P (Str.ofString "DOUBLESTAREQUAL") 430 (Value.int 46 429), enO P (Str.ofString "DOUBLESLASH") 432 (Value.int 47 431), enO P (Str.ofString "DOUBLESLASHEQUAL") 434 (Value.int 48 433), enO P (Str.ofString "AT") 436 (Value.int 49 435), enO P (Str.ofString "ATEQUAL") 438 (Value.int 50 437), enO P (Str.ofString "RARROW") 440 (Value.int 51 439), enO P (Str.ofString "ELLIPSIS") 442 (Value.int 52 441), enO P (Str.ofString "COLONEQUAL") 444 (Value.int 53 443), enO P (Str.ofString "EXCLAMATION") 446 (Value.int 54 445), enO P (Str.ofString "NT_OFFSET") 448 (Value.int 256 447), enO P (Str.ofString "EXACT_TOKEN_TYPES") 545 (Value.ref 127), enO P (Str.ofString "ISTERMINAL") 552 (Value.ref 136), enO P (Str.ofString "ISNONTERMINAL") 559 (Value.ref 143), enO P (Str.ofString "_law_numbers") 571 (Value.ref 150), enO P (Str.ofString "_law_tree") 577 (Value.ref 155), enO P (Str.ofString "_law_mirrored") 583 (Value.ref 160), enO P (Str.ofString "_law_written") 589 (Value.ref 165), enO P (Str.ofString "_law_read") 595 (Value.ref 170), enO P (Str.ofString "_law_drawings") 601 (Value.ref 175), enO P (Str.ofString "law") 622 (Value.ref 182)] 74),
  (37, { cls := Value.type "code", data := Data.fields #[Value.str (Str.ofString "__init__") 213, Value.str (Str.ofString "Whitespace.__init__") 214, Value.str (Str.ofString "/claim/cut.py") 215, Value.int 8 0, Value.int 2 0, Value.int 0 0, Value.int 0 0, Value.int 3 0, Value.ref 32, Value.bool true, Value.int 181 0, Value.ref 33, Value.none, Value.ref 34, Value.ref 35, Value.ref 36, Value.int 225 0, Value.int 8 0, Value.str (Str.ofString "/claim/cut.py") 226] }),
  (38, fnO (dfm "Whitespace.__init__" 2 1) (Str.ofString "__init__") (Value.str (Str.ofString "cpy313.tabnanny") 194) 37),
  (58, { cls := Value.type "code", data := Data.fields #[Value.str (Str.ofString "equal") 243, Value.str (Str.ofString "Whitespace.equal") 244, Value.str (Str.ofString "/claim/cut.py") 245, Value.int 37 0, Value.int 2 0, Value.int 0 0, Value.int 0 0, Value.int 3 0, Value.ref 53, Value.bool true, Value.int 181 0, Value.ref 54, Value.none, Value.ref 55, Value.ref 56, Value.ref 57, Value.int 248 0, Value.int 37 0, Value.str (Str.ofString "/claim/cut.py") 249] }),
  (59, fnO (dfm "Whitespace.equal" 2 4) (Str.ofString "equal") (Value.str (Str.ofString "cpy313.tabnanny") 194) 58),
  (82, dcO (Value.type "dict") #[enO P (Str.ofString "__module__") 203 (Value.str (Str.ofString "cpy313.tabnanny") 194), enO P (Str.ofString "__firstlineno__") 207 (Value.int 5 206), enO P (Str.ofString "S") 211 (Value.str (Str.ofString " ") 209), enO P (Str.ofString "T") 212 (Value.str (Str.ofString "\t") 210), enO P (Str.ofString "__init__") 227 (Value.ref 38), enO P (Str.ofString "longest_run_of_spaces") 234 (Value.ref 45), enO P (Str.ofString "indent_level") 242 (Value.ref 52), enO P (Str.ofString "equal") 250 (Value.ref 59), enO P (Str.ofString "not_equal_witness") 258 (Value.ref 66), enO P (Str.ofString "less") 266 (Value.ref 73), enO P (Str.ofString "not_less_witness") 274 (Value.ref 80), enO P (Str.ofString "__static_attributes__") 280 (Value.ref 81), enO P (Str.ofString "__dict__") 282 (Value.ref 84), enO P (Str.ofString "__weakref__") 284 (Value.ref 85), enO P (Str.ofString "__doc__") 285 (Value.none)] 4),
  (83, { cls := Value.type "type", data := Data.cls { name := Str.ofString "Whitespace", bases := [Value.type "object"], mro := [Value.ref 83, Value.type "object"], ns := 82, qualname := Str.ofString "Whitespace" }, slots := #[none, none, some (Value.str (Str.ofString "Whitespace") 196), some (Value.str (Str.ofString "Whitespace") 204), some (Value.builtin "object.__new__"), some (Value.bool true)] }),
  (118, { cls := Value.type "code", data := Data.fields #[Value.str (Str.ofString "parse257") 326, Value.str (Str.ofString "parse257") 327, Value.str (Str.ofString "/claim/cut.py") 328, Value.int 53 0, Value.int 1 0, Value.int 0 0, Value.int 0 0, Value.int 3 0, Value.ref 113, Value.bool true, Value.int 181 0, Value.ref 114, Value.none, Value.ref 115, Value.ref 116, Value.ref 117, Value.int 334 0, Value.int 53 0, Value.str (Str.ofString "/claim/cut.py") 335] }),
  (119, fnO (df "parse257" 6) (Str.ofString "parse257") (Value.str (Str.ofString "cpy313.ftplib") 288) 118),
  (125, { cls := Value.type "code", data := Data.fields #[Value.str (Str.ofString "Int2AP") 339, Value.str (Str.ofString "Int2AP") 340, Value.str (Str.ofString "/claim/cut.py") 341, Value.int 71 0, Value.int 1 0, Value.int 0 0, Value.int 0 0, Value.int 3 0, Value.ref 120, Value.bool true, Value.int 181 0, Value.ref 121, Value.none, Value.ref 122, Value.ref 123, Value.ref 124, Value.int 346 0, Value.int 71 0, Value.str (Str.ofString "/claim/cut.py") 347] }),
  (126, fnO (df "Int2AP" 8) (Str.ofString "Int2AP") (Value.str (Str.ofString "cpy313.imaplib") 337) 125),
  (127, dcO (Value.type "dict") #[enO P (Str.ofString "!") 449 (Value.int 54 445), enO P (Str.ofString "!=") 451 (Value.int 28 393), enO P (Str.ofString "%") 453 (Value.int 24 385), enO P (Str.ofString "%=") 455 (Value.int 40 417), enO P (Str.ofString "&") 457 (Value.int 19 375), enO P (Str.ofString "&=") 459 (Value.int 41 419), enO P (Str.ofString "(") 461 (Value.int 7 351), enO P (Str.ofString ")") 463 (Value.int 8 353), enO P (Str.ofString "*") 465 (Value.int 16 369), enO P (Str.ofString "**") 467 (Value.int 35 407), enO P (Str.ofString "**=") 469 (Value.int 46 429), enO P (Str.ofString "*=") 471 (Value.int 38 413), enO P (Str.ofString "+") 473 (Value.int 14 365), enO P (Str.ofString "+=") 475 (Value.int 36 409), enO P (Str.ofString ",") 477 (Value.int 12 361), enO P (Str.ofString "-") 479 (Value.int 15 367), enO P (Str.ofString "-=") 481 (Value.int 37 411), enO P (Str.ofString "->") 483 (Value.int 51 439), enO P (Str.ofString ".") 485 (Value.int 23 383), enO P (Str.ofString "...") 487 (Value.int 52 441), enO P (Str.ofString "/") 489 (Value.int 17 371), enO P (Str.ofString "//") 491 (Value.int 47 431), enO P (Str.ofString "//=") 493 (Value.int 48 433), enO P (Str.ofString "/=") 495 (Value.int 39 415), enO P (Str.ofString ":") 497 (Value.int 11 359), enO P (Str.ofString ":=") 499 (Value.int 53 443), enO P (Str.ofString ";") 501 (Value.int 13 363), enO P (Str.ofString "<") 503 (Value.int 20 377), enO P (Str.ofString "<<") 505 (Value.int 33 403), enO P (Str.ofString "<<=") 507 (Value.int 44 425), enO P (Str.ofString "<=") 509 (Value.int 29 395), enO P (Str.ofString "=") 511 (Value.int 22 381), enO P (Str.ofString "==") 513 (Value.int 27 391), enO P (Str.ofString ">") 515 (Value.int 21 379), enO P (Str.ofString ">=") 517 (Value.int 30 397), enO P (Str.ofString ">>") 518 (Value.int 34 405), enO P (Str.ofString ">>=") 519 (Value.int 45 427), enO P (Str.ofString "@") 520 (Value.int 49 435), enO P (Str.ofString "@=") 521 (Value.int 50 437), enO P (Str.ofString "[") 522 (Value.int 9 355), enO P (Str.ofString "]") 523 (Value.int 10 357), enO P (Str.ofString "^") 524 (Value.int 32 401), enO P (Str.ofString "^=") 525 (Value.int 43 423), enO P (Str.ofString "{") 526 (Value.int 25 387), enO P (Str.ofString "|") 527 (Value.int 18 373), enO P (Str.ofString "|=") 528 (Value.int 42 421), enO P (Str.ofString "}") 529 (Value.int 26 389), enO P (Str.ofString "~") 530 (Value.int 31 399)] 48),
  (135, { cls := Value.type "code", data := Data.fields #[Value.str (Str.ofString "ISTERMINAL") 546, Value.str (Str.ofString "ISTERMINAL") 547, Value.str (Str.ofString "/claim/cut.py") 548, Value.int 130 0, Value.int 1 0, Value.int 0 0, Value.int 0 0, Value.int 3 0, Value.ref 130, Value.bool true, Value.int 181 0, Value.ref 131, Value.none, Value.ref 132, Value.ref 133, Value.ref 134, Value.int 550 0, Value.int 130 0, Value.str (Str.ofString "/claim/cut.py") 551] }),
  (136, fnO (df "ISTERMINAL" 60) (Str.ofString "ISTERMINAL") (Value.str (Str.ofString "cpy313.token") 349) 135),
  (142, { cls := Value.type "code", data := Data.fields #[Value.str (Str.ofString "ISNONTERMINAL") 553, Value.str (Str.ofString "ISNONTERMINAL") 554, Value.str (Str.ofString "/claim/cut.py") 555, Value.int 132 0, Value.int 1 0, Value.int 0 0, Value.int 0 0, Value.int 3 0, Value.ref 137, Value.bool true, Value.int 181 0, Value.ref 138, Value.none, Value.ref 139, Value.ref 140, Value.ref 141, Value.int 557 0, Value.int 132 0, Value.str (Str.ofString "/claim/cut.py") 558] }),
  (143, fnO (df "ISNONTERMINAL" 61) (Str.ofString "ISNONTERMINAL") (Value.str (Str.ofString "cpy313.token") 349) 142),
  (149, { cls := Value.type "code", data := Data.fields #[Value.str (Str.ofString "_law_numbers") 562, Value.str (Str.ofString "_law_numbers") 563, Value.str (Str.ofString "/claim/cut.py") 564, Value.int 135 0, Value.int 1 0, Value.int 0 0, Value.int 0 0, Value.int 3 0, Value.ref 144, Value.bool true, Value.int 181 0, Value.ref 145, Value.none, Value.ref 146, Value.ref 147, Value.ref 148, Value.int 569 0, Value.int 135 0, Value.str (Str.ofString "/claim/cut.py") 570] }),
  (150, fnO (df "_law_numbers" 63) (Str.ofString "_law_numbers") (Value.str (Str.ofString "law_wo0064_01") 560) 149),
  (154, { cls := Value.type "code", data := Data.fields #[Value.str (Str.ofString "_law_tree") 572, Value.str (Str.ofString "_law_tree") 573, Value.str (Str.ofString "/claim/cut.py") 574, Value.int 140 0, Value.int 2 0, Value.int 0 0, Value.int 0 0, Value.int 3 0, Value.ref 151, Value.bool true, Value.int 181 0, Value.ref 152, Value.none, Value.none, Value.none, Value.ref 153, Value.int 575 0, Value.int 140 0, Value.str (Str.ofString "/claim/cut.py") 576] }),
  (155, fnO (df "_law_tree" 64) (Str.ofString "_law_tree") (Value.str (Str.ofString "law_wo0064_01") 560) 154),
  (159, { cls := Value.type "code", data := Data.fields #[Value.str (Str.ofString "_law_mirrored") 578, Value.str (Str.ofString "_law_mirrored") 579, Value.str (Str.ofString "/claim/cut.py") 580, Value.int 153 0, Value.int 1 0, Value.int 0 0, Value.int 0 0, Value.int 3 0, Value.ref 156, Value.bool true, Value.int 181 0, Value.ref 157, Value.none, Value.none, Value.none, Value.ref 158, Value.int 581 0, Value.int 153 0, Value.str (Str.ofString "/claim/cut.py") 582] }),
  (160, fnO (df "_law_mirrored" 65) (Str.ofString "_law_mirrored") (Value.str (Str.ofString "law_wo0064_01") 560) 159),
  (164, { cls := Value.type "code", data := Data.fields #[Value.str (Str.ofString "_law_written") 584, Value.str (Str.ofString "_law_written") 585, Value.str (Str.ofString "/claim/cut.py") 586, Value.int 155 0, Value.int 1 0, Value.int 0 0, Value.int 0 0, Value.int 3 0, Value.ref 161, Value.bool true, Value.int 181 0, Value.ref 162, Value.none, Value.none, Value.none, Value.ref 163, Value.int 587 0, Value.int 155 0, Value.str (Str.ofString "/claim/cut.py") 588] }),
  (165, fnO (df "_law_written" 66) (Str.ofString "_law_written") (Value.str (Str.ofString "law_wo0064_01") 560) 164),
  (169, { cls := Value.type "code", data := Data.fields #[Value.str (Str.ofString "_law_read") 590, Value.str (Str.ofString "_law_read") 591, Value.str (Str.ofString "/claim/cut.py") 592, Value.int 158 0, Value.int 3 0, Value.int 0 0, Value.int 0 0, Value.int 3 0, Value.ref 166, Value.bool true, Value.int 181 0, Value.ref 167, Value.none, Value.none, Value.none, Value.ref 168, Value.int 593 0, Value.int 158 0, Value.str (Str.ofString "/claim/cut.py") 594] }),
  (170, fnO (df "_law_read" 67) (Str.ofString "_law_read") (Value.str (Str.ofString "law_wo0064_01") 560) 169),
  (174, { cls := Value.type "code", data := Data.fields #[Value.str (Str.ofString "_law_drawings") 596, Value.str (Str.ofString "_law_drawings") 597, Value.str (Str.ofString "/claim/cut.py") 598, Value.int 183 0, Value.int 2 0, Value.int 0 0, Value.int 0 0, Value.int 3 0, Value.ref 171, Value.bool true, Value.int 181 0, Value.ref 172, Value.none, Value.none, Value.none, Value.ref 173, Value.int 599 0, Value.int 183 0, Value.str (Str.ofString "/claim/cut.py") 600] }),
  (175, fnO (df "_law_drawings" 68) (Str.ofString "_law_drawings") (Value.str (Str.ofString "law_wo0064_01") 560) 174),
  (181, { cls := Value.type "code", data := Data.fields #[Value.str (Str.ofString "law") 602, Value.str (Str.ofString "law") 603, Value.str (Str.ofString "/claim/cut.py") 604, Value.int 201 0, Value.int 1 0, Value.int 0 0, Value.int 0 0, Value.int 3 0, Value.ref 176, Value.bool true, Value.int 181 0, Value.ref 177, Value.none, Value.ref 178, Value.ref 179, Value.ref 180, Value.int 620 0, Value.int 201 0, Value.str (Str.ofString "/claim/cut.py") 621] }),
  (182, fnO (df "law" 69) (Str.ofString "law") (Value.str (Str.ofString "law_wo0064_01") 560) 181)]
noncomputable def topAs : List Addr := [2, 3, 37, 38, 58, 59, 82, 83, 118, 119, 125, 126, 127, 135, 136, 142, 143, 149, 150, 154, 155, 159, 160, 164, 165, 169, 170, 174, 175, 181, 182]
/-- the program as the head looks at it: the law alone -/
noncomputable def topQ : Program := { PySem.Challenge.pw_wo0064_01 with main := { PySem.Challenge.pw_wo0064_01.main with body := PySem.Challenge.pw_wo0064_01.main.body.drop 69 } }
noncomputable def topLo : List Str := PySem.Challenge.pw_wo0064_01.boundNames.filter fun n => !(n == Str.ofString "law")
noncomputable def topX (s : Shared) : Bool := xlAt topQ [] s && recOk [] s
noncomputable def topH : Hook := kHook topK topAs (fun _ => rfl)
theorem top_false : ∀ w : World, (fencedOpening treeTable PySem.Challenge.pw_wo0064_01 w 5600).map (fun s₀ => (topFrom treeTable PySem.Challenge.pw_wo0064_01 (w.withFollow "special-get-raises" false) 5600 s₀).map (fun s => (openSeen topQ topLo (importedModules PySem.Challenge.pw_wo0064_01.main.body) topX true s, topH.obs s))) =
    some (some (openGood topQ topLo, topH.val (w.withFollow "special-get-raises" false))) := by
  unfold topFrom fencedOpening
  simp only [PySem.W.Fast.te14082659384304107361, PySem.W.Fast.te4187177175401517315, PySem.W.Fast.te14364793385576792824, PySem.W.Fast.te10274390034422433532, PySem.W.Fast.te5923862056798008813, PySem.W.Fast.te14289696077712309145, PySem.W.Fast.te1435165496053646825]
  intro w
  kernel_rfl
theorem top_true : ∀ w : World, (fencedOpening treeTable PySem.Challenge.pw_wo0064_01 w 5600).map (fun s₀ => (topFrom treeTable PySem.Challenge.pw_wo0064_01 (w.withFollow "special-get-raises" true) 5600 s₀).map (fun s => (openSeen topQ topLo (importedModules PySem.Challenge.pw_wo0064_01.main.body) topX true s, topH.obs s))) =
    some (some (openGood topQ topLo, topH.val (w.withFollow "special-get-raises" true))) := by
  unfold topFrom fencedOpening
  simp only [PySem.W.Fast.te14082659384304107361, PySem.W.Fast.te4187177175401517315, PySem.W.Fast.te14364793385576792824, PySem.W.Fast.te10274390034422433532, PySem.W.Fast.te5923862056798008813, PySem.W.Fast.te14289696077712309145, PySem.W.Fast.te1435165496053646825]
  intro w
  kernel_rfl
theorem map_both {α β γ : Type} {o : Option α} {f : α → β} {g : α → γ} {a : β} {b : γ} (x : o.map f = some a) (y : o.map g = some b) : (o.map fun s => (f s, g s)) = some (a, b) := by
  cases o with
  | none => cases x
  | some s =>
    have x' := Option.some.inj x
    have y' := Option.some.inj y
    show some (f s, g s) = some (a, b)
    rw [x', y']
theorem top_left : LeftO PySem.Challenge.pw_wo0064_01 topQ topLo topX topH.obs topH.val 5600 := LeftO.of_split "special-get-raises" fun w => map_both (top_false w) (top_true w)
theorem top_said : PySem.Challenge.rw_wo0064_01.wellSaid = true := by
  rw [PySem.W.Fast.te9446332074065402090]; kernel_rfl
end Mine
end
section
open PySem PySem.W PyProof.Rows
set_option Elab.async false
set_option maxRecDepth 100000
set_option maxHeartbeats 4000000
set_option autoImplicit false
set_option linter.unusedVariables false
namespace Mine
theorem fn_of {P : Setup} {pm : Params} (hK : P.K = topK pm) {f : Addr} {d : Df} (h : ∃ m cd ann doc nm, (topK pm).lookup f = some ⟨.type "function", none, .func { name := nm, qualname := d.qual, params := d.params, body := .stmts d.body, scope := d.scope, globals := mainGlobals, closure := [], defaults := .none, kwdefaults := .none, doc := doc, pyModule := m, annotations := ann, code := cd, closureTuple := .none, builtins := builtinsNs }, #[]⟩ ∧ PySem.W.codeIn (topK pm) cd d.qual = true) : FnIs P f d := ⟨by rw [hK]; exact h⟩
/-- the program's own names and the builtins, as the head knows them -/
structure Tops (P : Setup) (pm : Params) : Prop where
  K : P.K = topK pm
  own : ∀ (x : Str) (v : Value), nsIn (topK pm) mainGlobals x = some (some v) → P.mg x = some v
  free : ∀ (x : Str), nsIn (topK pm) mainGlobals x = some none → P.mg x = none
  blt : ∀ (x : Str), x ≠ "__name__" → P.mb x = bootBuiltins x
theorem Tops.glob {P : Setup} {pm : Params} (T : Tops P pm) {x : Str} {v : Value} (h : nsIn (topK pm) mainGlobals x = some (some v)) : GlobIs P x v := .inl (T.own x v h)
theorem Tops.built {P : Setup} {pm : Params} (T : Tops P pm) {x : Str} {v : Value} (h : nsIn (topK pm) mainGlobals x = some none) (hn : x ≠ "__name__") (hv : bootBuiltins x = some v) : GlobIs P x v := .inr ⟨T.free x h, (T.blt x hn).trans hv⟩
noncomputable def mkFacts {P : Setup} {pm : Params} (T : Tops P pm) (tab : Str → Option Value) (hTab : TabIs P 127 tab) (tabQ : ∀ x, (tab x).isSome = true → 34 ∉ x.cps.toList) (num : List Nat → Nat)
    (tabS : ∀ x ∈ signs, tab (tx x) = some (.int (num x) 0)) (numLt : ∀ x ∈ signs, num x < 256) (numInj : ∀ x ∈ signs, ∀ y ∈ signs, num x = num y → x = y) : Facts P where
  tNT := 447
  gNT := T.glob rfl
  gLen := T.built rfl (by decide +kernel) (by rfl)
  gMax := T.built rfl (by decide +kernel) (by rfl)
  gMin := T.built rfl (by decide +kernel) (by rfl)
  gSum := T.built rfl (by decide +kernel) (by rfl)
  gAbs := T.built rfl (by decide +kernel) (by rfl)
  gDivmod := T.built rfl (by decide +kernel) (by rfl)
  gSorted := T.built rfl (by decide +kernel) (by rfl)
  gInt := T.built rfl (by decide +kernel) (by rfl)
  gList := T.built rfl (by decide +kernel) (by rfl)
  gTuple := T.built rfl (by decide +kernel) (by rfl)
  gRange := T.built rfl (by decide +kernel) (by rfl)
  gEnum := T.built rfl (by decide +kernel) (by rfl)
  aParse := 119
  gParse := T.glob rfl
  fParse := fn_of T.K ⟨_, _, _, _, _, rfl, rfl⟩
  aAP := 126
  gAP := T.glob rfl
  fAP := fn_of T.K ⟨_, _, _, _, _, rfl, rfl⟩
  aT := 136
  gT := T.glob rfl
  fT := fn_of T.K ⟨_, _, _, _, _, rfl, rfl⟩
  aN := 143
  gN := T.glob rfl
  fN := fn_of T.K ⟨_, _, _, _, _, rfl, rfl⟩
  aNum := 150
  gNum := T.glob rfl
  fNum := fn_of T.K ⟨_, _, _, _, _, rfl, rfl⟩
  aTree := 155
  gTree := T.glob rfl
  fTree := fn_of T.K ⟨_, _, _, _, _, rfl, rfl⟩
  aMir := 160
  gMir := T.glob rfl
  fMir := fn_of T.K ⟨_, _, _, _, _, rfl, rfl⟩
  aWr := 165
  gWr := T.glob rfl
  fWr := fn_of T.K ⟨_, _, _, _, _, rfl, rfl⟩
  aRead := 170
  gRead := T.glob rfl
  fRead := fn_of T.K ⟨_, _, _, _, _, rfl, rfl⟩
  aDraw := 175
  gDraw := T.glob rfl
  fDraw := fn_of T.K ⟨_, _, _, _, _, rfl, rfl⟩
  aTab := 127
  gTab := T.glob rfl
  tab := tab
  hTab := hTab
  tabQ := tabQ
  num := num
  tabS := tabS
  numLt := numLt
  numInj := numInj
  aWs := 83
  gWs := T.glob rfl
  aInit := 38
  fInit := fn_of T.K ⟨_, _, _, _, _, rfl, rfl⟩
  aEq := 59
  fEq := fn_of T.K ⟨_, _, _, _, _, rfl, rfl⟩
  cWs := ⟨by rw [T.K]; rfl, by rw [T.K]; rfl, by rw [T.K]; rfl, by rw [T.K]; rfl, by rw [T.K]; rfl, by rw [T.K]; rfl, by rw [T.K]; rfl, by rw [T.K]; rfl, by rw [T.K]; rfl⟩
  eqIn := by rw [T.K]; rfl
  eqFn := by rw [T.K]; rfl
  nRaw := by unfold NotIn; rw [T.K]; rfl
  nN := by unfold NotIn; rw [T.K]; rfl
  nNt := by unfold NotIn; rw [T.K]; rfl
  nNorm := by unfold NotIn; rw [T.K]; rfl
  nSimple := by unfold NotIn; rw [T.K]; rfl
  wsReads := by rw [T.K]; rfl
  tS := 209
  wsS := by rw [T.K]; rfl
  tT := 210
  wsT := by rw [T.K]; rfl
end Mine
end
section
open PySem PySem.W PyProof.Rows
set_option Elab.async false
set_option maxRecDepth 100000
set_option maxHeartbeats 4000000
set_option autoImplicit false
set_option linter.unusedVariables false
namespace Mine
/-- the table's entries -/
noncomputable def tabEs (pm : Params) : Array DictEntry := match (topK pm).lookup 127 with
  | some ⟨_, _, .dict es _, _⟩ => es
  | _ => #[]
noncomputable def tabOf (pm : Params) (x : Str) : Option Value := (findBy Value.isStrOf (tabEs pm) x).map er
theorem tab_keys (pm : Params) : PySem.W.KeysLit pm (tabEs pm).toList := by
  unfold tabEs
  repeat (first | exact trivial | refine ⟨⟨_, _, rfl, rfl⟩, ?_⟩)
theorem tab_look (pm : Params) : ∃ n, (topK pm).lookup 127 = some ⟨.type "dict", none, .dict (tabEs pm) n, #[]⟩ := ⟨_, rfl⟩
theorem tab_is {P : Setup} {pm : Params} (T : Tops P pm) (hw : P.w.params = pm) : TabIs P 127 (tabOf pm) := by
  refine ⟨rfl, fun h X => ?_⟩
  obtain ⟨n, hl⟩ := tab_look pm
  exact ⟨_, mapOf_K X (by rw [T.K]; exact hl) (by rw [hw]; exact tab_keys pm), fun x => rfl⟩
theorem tab_noq (pm : Params) : (tabEs pm).toList.all (fun e => match e.key with | .str x _ => !x.cps.toList.contains 34 | _ => true) = true := by rfl
theorem tab_q (pm : Params) (x : Str) (h : (tabOf pm x).isSome = true) : 34 ∉ x.cps.toList := by
  unfold tabOf findBy at h
  cases e : (tabEs pm).find? (fun d => Value.isStrOf x d.key) with
  | none => rw [e] at h; cases h
  | some d =>
    have hm := Array.mem_of_find?_eq_some e
    have hp := Array.find?_some e
    obtain ⟨t, ht⟩ := Value.isStrOf_shape hp
    have := List.all_eq_true.mp (tab_noq pm) d (Array.mem_toList_iff.mpr hm)
    rw [ht] at this
    simpa using this
noncomputable def numOf (x : List Nat) : Nat := ((signs.zip [16, 35, 23, 52, 22, 27, 15, 51, 20, 44, 54, 28]).lookup x).getD 0
theorem tab_s (pm : Params) : ∀ x ∈ signs, tabOf pm (tx x) = some (.int (numOf x) 0) := by
  intro x hx
  simp only [signs, List.mem_cons, List.not_mem_nil, or_false] at hx
  rcases hx with rfl | rfl | rfl | rfl | rfl | rfl | rfl | rfl | rfl | rfl | rfl | rfl <;> rfl
noncomputable def facts {P : Setup} {pm : Params} (T : Tops P pm) (hw : P.w.params = pm) : Facts P :=
  mkFacts T (tabOf pm) (tab_is T hw) (tab_q pm) numOf (tab_s pm) (by decide) (by decide)
end Mine
end
section
open PySem PySem.W PyProof.Rows PySem.Calls
set_option Elab.async false
set_option maxRecDepth 100000
set_option maxHeartbeats 4000000
set_option autoImplicit false
set_option linter.unusedVariables false
namespace Mine
noncomputable def plainLaw : Prop := ∀ k s f k' s' f', shapeOk k s f → shapeOk k' s' f' → Good numOf s f s' f'
theorem of_intsAre : ∀ {vs : List Value} {ns : List Int}, IntsAre vs ns → vs.map er = iVs ns
  | _, _, .nil => rfl
  | _, _, .cons k t r => by
    rw [List.map_cons, of_intsAre r]; rfl
theorem law_run (hplain : plainLaw) {prog : Program} {w : World} {mg mb : Str → Option Value} {s₁ : Shared} {h₁ : Heap} {a : Addr} {vs : List Value} {ns : List Int} {m : Str → Option Value} {t : Nat}
    (KX : (topK w.params).In s₁.heap) (hg : s₁.heap.Ns mainGlobals mg) (hb : s₁.heap.Ns builtinsNs mb) (nl : s₁.heap.NoLimit) (hbb : ∀ x : Str, x ≠ "__name__" → mb x = bootBuiltins x)
    (hL : s₁.heap.IsList a vs.toArray) (hI : IntsAre vs ns) (h63 : ns.length ≤ 100) (F : Fr s₁.heap s₁.heap.objs.size h₁ m) (hm : ∀ y, m y = if y = "script" then some (.ref a) else none)
    {A : Around} (hA : Room 100 A) {env : Env} (hE : Ev env (df "law" 69).scope s₁.heap.objs.size []) {Q : Flow → Shared → Prop} {E : Value → Shared → Prop}
    (hQ : ∀ s' : Shared, (∀ b o, s₁.heap.get? b = some o → s'.heap.get? b = some o) → s'.os = s₁.os → s'.gens = s₁.gens → s'.drawn = s₁.drawn → Q (.ret (.bool true)) s') :
    wpAny (model prog w) A (execs (df "law" 69).body env) Q E { s₁ with heap := h₁, toks := t } := by
  have T : Tops ⟨prog, w, mg, mb, topK w.params⟩ w.params := ⟨rfl, fun x v e => PySem.W.mg_of KX hg e, fun x e => PySem.W.mg_none_of KX hg e, hbb⟩
  have S : St ⟨prog, w, mg, mb, topK w.params⟩ s₁.heap ([(s₁.heap.objs.size, frR (df "law" 69).scope [some (.ref a), none, none, none, none, none, none, none, none, none, none, none, none, none, none, none, none, none, none, none, none, none, none, none])] ++ []) h₁ := by
    refine ⟨⟨hg, hb, nl, KX⟩, F.keep, fun p hp => ?_, by simp⟩
    rw [List.append_nil, List.mem_singleton] at hp
    subst hp
    refine ⟨At.ofFrame F.ns fun y => ?_, ?_⟩
    · have e := frM_start (sc := (df "law" 69).scope) (binds := [("script", Value.ref a)]) (by decide +kernel) y
      rw [show startVs (df "law" 69).scope [("script", Value.ref a)] = [some (.ref a), none, none, none, none, none, none, none, none, none, none, none, none, none, none, none, none, none, none, none, none, none, none, none] from rfl] at e
      rw [e, hm]
      by_cases hy : y = "script"
      · subst hy; rfl
      · rw [if_neg hy]
        have : List.lookup y [((Str.ofString "script"), Value.ref a)] = none := by
          rw [List.lookup_cons, show (y == (Str.ofString "script")) = false from beq_eq_false_iff_ne.mpr hy]; rfl
        rw [this]
        split <;> rfl
    · cases q : s₁.heap.get? s₁.heap.objs.size with
      | none => rfl
      | some o => exact absurd (Heap.lt_size q) (Nat.lt_irrefl _)
  have hs : At s₁.heap a (lisR (iVs ns)) := by
    obtain ⟨o, e, c, n, d⟩ := hL
    exact ⟨o, e, c, vs.toArray, n, d, by rw [List.toList_toArray]; exact of_intsAre hI⟩
  have := (c_law (n := 40) (facts T rfl) hE hs h63 hplain).run A { s₁ with heap := h₁, toks := t } [] hA S
  refine wpAny_mono this (fun f s' x => ?_) fun _ _ x => x.elim
  obtain ⟨g', ms', h', tk, rfl, l, S', rfl⟩ := x
  exact hQ _ (fun b o e => S'.keep b o (l b o e)) rfl rfl rfl
end Mine
end
section
open PySem PySem.W PyProof.Rows PySem.Calls
set_option Elab.async false
set_option maxRecDepth 100000
set_option maxHeartbeats 8000000
namespace Mine
theorem numOf_inj : ∀ s ∈ signs, ∀ s' ∈ signs, numOf s = numOf s' → s = s' := by decide
theorem plain_all : plainLaw := fun _ _ _ _ _ _ h h' => plain numOf_inj h h'
theorem joined : PySem.Challenge.rw_wo0064_01.Holds := by
  w_on
  refine holds_law top_said fun said => ?_
  refine holds_open (q := topQ) (loose := topLo) (Xt := topX) (XP := XL topQ []) (Yf := topH.obs) (Ya := topH.val) (YP := topH.says) (N := 5600) top_left topH.of topH.keeps (fun s e => xl_of s (Bool.and_eq_true_iff.mp e).1) XL.keeps (by rfl) (by rfl) (by rfl) (fun s e => recFacts_of (Bool.and_eq_true_iff.mp e).2) (by rfl) said (by decide +kernel) ⟨rfl, rfl, rfl, rfl, rfl, by decide +kernel⟩ ?hw ?hc
  case hw => w_witness2
  case hc =>
    intro w s₀ s₁ mg mb G Y fa o pm cd doc dV kV ho hd hcd hD hmg hg args vals as hpre hlay hrd hwl hlo
    have KX := kIn_of Y
    refine Ground.open G ?_
    intro T B D TE TW
    have TA := at_of_top T
    wrow_args hpre hlay hrd hwl hlo
    refine enter_call ?_
    w_top on
    refine codeAny_mono ?_ (fun _ _ g => GoodW.toG g)
    w_call any ho hd hcd hD T F
    rename IntsAre _ _ => hI
    rename Heap.IsList _ _ _ => hL
    rename Fr _ _ _ _ => F
    rename Shared.gens _ = #[] => hgens
    refine Mine.law_run plain_all KX T.g T.b T.nolimit T.builtins hL hI (by (first | lia | omega)) F ?_ ?_ ?_ ?_
    · intro y
      by_cases hy : y = Str.ofString "script"
      · subst hy; rw [if_pos rfl]; rfl
      · rw [if_neg hy]
        show List.lookup y [(Str.ofString "script", _)] = none
        rw [List.lookup_cons, show (y == (Str.ofString "script")) = false from beq_eq_false_iff_ne.mpr hy]; rfl
    · exact Mine.Room.deeper (n := 100) ⟨by decide, by decide, rfl⟩ _
    · exact ⟨rfl, rfl, rfl, rfl, rfl, rfl⟩
    · intro s' hk hos hgs hdr
      refine ⟨.inl ⟨.bool true, .bool true, [], rfl, fun cls => ?_, .bool true, ?_, fun _ => ⟨.nil, fun _ h => nomatch h⟩⟩, hk, hos, hgs.trans hgens⟩
      · first | rfl | exact raisesW_false rfl
      · first | rfl | with_unfolding_all rfl | decide
end Mine
end
theorem PySem.Challenge.cw_wo0064_01_holds : PySem.Challenge.rw_wo0064_01.Holds :=
  Mine.joined
