import PyProof.Rows.All
import Wide.All
import OpenK.AllK
import Wide.FinOn
import Lean
import PySem.Challenge.RW_mq0318_01
open PySem PySem.W PyProof.Rows
set_option Elab.async false
set_option maxRecDepth 100000
set_option linter.unusedVariables false
namespace Mine
section

/-! ## the heap as a partial map of what its objects are -/
noncomputable abbrev OP := Obj → Prop
noncomputable abbrev HM := Addr → Option OP
noncomputable abbrev Loc := Str → Option Value

noncomputable def upd (H : HM) (a : Addr) (P : OP) : HM := fun b => if b = a then some P else H b
theorem upd_same (H : HM) (a : Addr) (P : OP) : upd H a P a = some P := if_pos rfl
theorem upd_ne {H : HM} {a b : Addr} {P : OP} (h : b ≠ a) : upd H a P b = H b := if_neg h
theorem upd_upd (H : HM) (a : Addr) (P P' : OP) : upd (upd H a P) a P' = upd H a P' := by
  funext b; unfold upd; split <;> rfl
theorem upd_comm {H : HM} {a b : Addr} {P P' : OP} (h : a ≠ b) : upd (upd H a P) b P' = upd (upd H b P') a P := by
  funext x; unfold upd
  by_cases h1 : x = b
  · subst h1; simp [Ne.symm h]
  · simp [h1]
theorem upd_self {H : HM} {a : Addr} {P : OP} (h : H a = some P) : upd H a P = H := by
  funext b; unfold upd; split
  · rename_i e; rw [e, h]
  · rfl

noncomputable def Rep (H : HM) (h : Heap) : Prop := ∀ a P, H a = some P → ∃ o, h.get? a = some o ∧ P o
noncomputable def Sub (H H' : HM) : Prop := ∀ a P, H a = some P → H' a = some P
theorem Sub.refl (H : HM) : Sub H H := fun _ _ e => e
theorem Sub.trans {H H' H'' : HM} (x : Sub H H') (y : Sub H' H'') : Sub H H'' := fun a P e => y a P (x a P e)
theorem Sub.upd_new {H H' : HM} {a : Addr} {P : OP} (x : Sub H H') (h : H a = none) : Sub H (upd H' a P) := fun b P' e => by
  rw [upd_ne (by rintro rfl; rw [h] at e; cases e)]; exact x b P' e
theorem Sub.upd_both {H H' : HM} {a : Addr} {P : OP} (x : Sub H H') : Sub (upd H a P) (upd H' a P) := fun b P' e => by
  by_cases hb : b = a
  · subst hb; rw [upd_same] at e ⊢; exact e
  · rw [upd_ne hb] at e ⊢; exact x b P' e
theorem Rep.sub {H H' : HM} {h : Heap} (r : Rep H' h) (x : Sub H H') : Rep H h := fun a P e => r a P (x a P e)

/-! what an object may be -/
noncomputable def lst (xs : List Value) : OP := fun o => ∃ n, o = { cls := .type "list", dict := none, data := .seq xs.toArray n, slots := #[] }
noncomputable def tup (xs : List Value) : OP := fun o => ∃ n, o = { cls := .type "tuple", dict := none, data := .seq xs.toArray n, slots := #[] }
noncomputable def isNs (m : Loc) : OP := fun o => ∃ es ep, o.data = .dict es ep ∧ StrKeys es ∧ ∀ name, nsFind es name = m name
noncomputable def isCell (v : Option Value) : OP := fun o => o.data = .cell v

noncomputable def Loose (P : OP) : Prop := ∀ o, P o → ∃ o', P o' ∧ o' ≠ o
theorem lst_loose (xs : List Value) : Loose (lst xs) := by
  rintro o ⟨n, rfl⟩
  refine ⟨_, ⟨n + 1, rfl⟩, fun e => ?_⟩
  have := congrArg Obj.data e
  simp at this
theorem isNs_loose (m : Loc) : Loose (isNs m) := by
  rintro o ⟨es, ep, hd, hk, hm⟩
  refine ⟨{ o with data := .dict es (ep + 1) }, ⟨es, ep + 1, rfl, hk, hm⟩, fun e => ?_⟩
  have := congrArg Obj.data e
  rw [hd] at this
  simp at this
theorem isCell_loose (v : Option Value) : Loose (isCell v) := by
  rintro o hd
  by_cases h : o.dict = none
  · exact ⟨{ o with dict := some 0 }, hd, fun e => by have := congrArg Obj.dict e; rw [h] at this; cases this⟩
  · exact ⟨{ o with dict := none }, hd, fun e => h (congrArg Obj.dict e).symm⟩
structure Cx where
  prog : Program
  w : World
  s₁ : Shared
  mg : Loc
  mb : Loc
structure Cx.Ok (c : Cx) : Prop where
  g : c.s₁.heap.Ns mainGlobals c.mg
  b : c.s₁.heap.Ns builtinsNs c.mb
  nolimit : c.s₁.heap.NoLimit

structure Inv (c : Cx) (H : HM) (s : Shared) : Prop where
  rep : Rep H s.heap
  base : ∀ a o, c.s₁.heap.get? a = some o → H a = some (fun x => x = o)
  fit : s = { c.s₁ with heap := s.heap, toks := s.toks }

theorem Inv.keeps {c : Cx} {H : HM} {s : Shared} (I : Inv c H s) : ∀ a o, c.s₁.heap.get? a = some o → s.heap.get? a = some o := fun a o e => by
  obtain ⟨o', h, rfl⟩ := I.rep a _ (I.base a o e)
  exact h
theorem Inv.base_none {c : Cx} {H : HM} {s : Shared} {a : Addr} {P : OP} (I : Inv c H s) (h : H a = some P) (hl : Loose P) : c.s₁.heap.get? a = none := by
  cases e : c.s₁.heap.get? a with
  | none => rfl
  | some o =>
    have hb := I.base a o e
    rw [h] at hb
    have hp : P = fun x => x = o := Option.some.inj hb
    obtain ⟨o', h1, h2⟩ := hl o (by rw [hp])
    rw [hp] at h1
    exact absurd h1 h2
theorem Inv.toks {c : Cx} {H : HM} {s : Shared} (I : Inv c H s) (t : Nat) : Inv c H { s with toks := t } := ⟨I.rep, I.base, by rw [I.fit]⟩
theorem Inv.keep {c : Cx} {H : HM} {s : Shared} (I : Inv c H s) {h' : Heap} (hk : ∀ b o, s.heap.get? b = some o → h'.get? b = some o) (t : Nat) : Inv c H { s with heap := h', toks := t } :=
  ⟨fun a P e => let ⟨o, h, p⟩ := I.rep a P e; ⟨o, hk a o h, p⟩, I.base, by rw [I.fit]⟩
/-- one object is turned, all else stands -/
theorem Inv.turn {c : Cx} {H : HM} {s : Shared} {a : Addr} {P P' : OP} {o : Obj} {h' : Heap} (I : Inv c H s) (h : H a = some P) (hl : Loose P) (hs : Heap.ExtBut a s.heap h') (ho : h'.get? a = some o) (hp : P' o) (t : Nat) :
    Inv c (upd H a P') { s with heap := h', toks := t } := by
  refine ⟨fun b P'' e => ?_, fun b o' e => ?_, by rw [I.fit]⟩
  · by_cases hb : b = a
    · subst hb; rw [upd_same] at e; cases e; exact ⟨o, ho, hp⟩
    · rw [upd_ne hb] at e
      obtain ⟨o', h1, h2⟩ := I.rep b P'' e
      exact ⟨o', hs b o' hb h1, h2⟩
  · have hn := I.base_none h hl
    rw [upd_ne (by rintro rfl; rw [hn] at e; cases e)]
    exact I.base b o' e
theorem Inv.fresh {c : Cx} {H : HM} {s : Shared} (I : Inv c H s) : H s.heap.objs.size = none := by
  cases e : H s.heap.objs.size with
  | none => rfl
  | some P =>
    obtain ⟨o, h, _⟩ := I.rep _ _ e
    exact absurd (Heap.lt_size h) (Nat.lt_irrefl _)
/-- a new object -/
theorem Inv.new {c : Cx} {H : HM} {s : Shared} {a : Addr} {P : OP} {o : Obj} {h' : Heap} (I : Inv c H s) (ha : s.heap.get? a = none) (hk : ∀ b o, s.heap.get? b = some o → h'.get? b = some o) (ho : h'.get? a = some o) (hp : P o) (t : Nat) :
    Inv c (upd H a P) { s with heap := h', toks := t } := by
  have hn : H a = none := by
    cases e : H a with
    | none => rfl
    | some P =>
      obtain ⟨o, h, _⟩ := I.rep _ _ e
      rw [ha] at h; cases h
  refine ⟨fun b P'' e => ?_, fun b o' e => ?_, by rw [I.fit]⟩
  · by_cases hb : b = a
    · subst hb; rw [upd_same] at e; cases e; exact ⟨o, ho, hp⟩
    · rw [upd_ne hb] at e
      obtain ⟨o', h1, h2⟩ := I.rep b P'' e
      exact ⟨o', hk b o' h1, h2⟩
  · have := I.base b o' e
    rw [upd_ne (by rintro rfl; rw [hn] at this; cases this)]
    exact this
theorem Inv.push {c : Cx} {H : HM} {s : Shared} {P : OP} {o : Obj} (I : Inv c H s) (hf : o.isFreed = false) (hp : P o) (t : Nat) : Inv c (upd H s.heap.objs.size P) { s with heap := s.heap.push o, toks := t } :=
  I.new (by
    cases e : s.heap.get? s.heap.objs.size with
    | none => rfl
    | some o => exact absurd (Heap.lt_size e) (Nat.lt_irrefl _)) (fun _ _ e => Heap.get?_push_of_some _ e) (Heap.get?_push_size _ hf) hp t
theorem Inv.sub {c : Cx} {H H' : HM} {s : Shared} (I : Inv c H' s) (h : Sub H H') (hb : ∀ a o, c.s₁.heap.get? a = some o → H a = some (fun x => x = o)) : Inv c H s := ⟨I.rep.sub h, hb, I.fit⟩
theorem Inv.ns {c : Cx} {H : HM} {s : Shared} {a : Addr} {m : Loc} (I : Inv c H s) (h : H a = some (isNs m)) : s.heap.Ns a m := by
  obtain ⟨o, ho, es, ep, r⟩ := I.rep a _ h
  exact ⟨o, es, ep, ho, r⟩
theorem Inv.lst {c : Cx} {H : HM} {s : Shared} {a : Addr} {xs : List Value} (I : Inv c H s) (h : H a = some (lst xs)) : ∃ n, IsL s.heap a xs.toArray n := by
  obtain ⟨o, ho, n, rfl⟩ := I.rep a _ h
  exact ⟨n, ho⟩
theorem Inv.isList {c : Cx} {H : HM} {s : Shared} {a : Addr} {xs : List Value} (I : Inv c H s) (h : H a = some (Mine.lst xs)) : s.heap.IsList a xs.toArray := by
  obtain ⟨n, h⟩ := I.lst h
  exact h.isList
theorem Inv.cell {c : Cx} {H : HM} {s : Shared} {a : Addr} {v : Option Value} (I : Inv c H s) (h : H a = some (isCell v)) : s.heap.IsCell a v := I.rep a _ h

/-- what is asked behind a tree is given a name -/
theorem wa_let {α : Type} {M : Model} {A : Around} {t : Sem α} {Q : α → Shared → Prop} {E : Value → Shared → Prop} {s : Shared} (h : let R := Q; let U := E; wpAny M A t R U s) : wpAny M A t Q E s := h
/-- the end of a tree within a frame, taken apart -/
theorem fx {c : Cx} {L : Addr} {s' : Shared} {Q : HM → Loc → Prop} {R : Prop} (h : ∃ H' m', Inv c H' s' ∧ H' L = none ∧ s'.heap.Ns L m' ∧ Q H' m') (k : ∀ H' m', Inv c H' s' → H' L = none → s'.heap.Ns L m' → Q H' m' → R) : R :=
  let ⟨H', m', I, hL, hn, q⟩ := h
  k H' m' I hL hn q
/-! ## what a tree does, from such a heap; no exception leaves it -/
section
variable {α β : Type}
noncomputable def W (c : Cx) (A : Around) (t : Sem α) (H : HM) (Q : α → HM → Prop) : Prop :=
  ∀ s, Inv c H s → wpAny (model c.prog c.w) A t (fun v s' => ∃ H', Inv c H' s' ∧ Q v H') (fun _ _ => False) s
/-- the same within a frame whose locals are m -/
noncomputable def WF (c : Cx) (A : Around) (L : Addr) (t : Sem α) (H : HM) (m : Loc) (Q : α → HM → Loc → Prop) : Prop :=
  ∀ s, Inv c H s → H L = none → s.heap.Ns L m → wpAny (model c.prog c.w) A t (fun v s' => ∃ H' m', Inv c H' s' ∧ H' L = none ∧ s'.heap.Ns L m' ∧ Q v H' m') (fun _ _ => False) s

variable {c : Cx} {A : Around} {L : Addr} {H : HM} {m : Loc}
theorem w_mono {t : Sem α} {Q Q' : α → HM → Prop} (h : W c A t H Q) (hQ : ∀ v H', Q v H' → Q' v H') : W c A t H Q' :=
  fun s I => wpAny_mono (h s I) (fun v _ ⟨H', I', q⟩ => ⟨H', I', hQ v H' q⟩) fun _ _ e => e
theorem f_mono {t : Sem α} {Q Q' : α → HM → Loc → Prop} (h : WF c A L t H m Q) (hQ : ∀ v H' m', Q v H' m' → Q' v H' m') : WF c A L t H m Q' :=
  fun s I hL hn => wpAny_mono (h s I hL hn) (fun v _ zx => fx zx fun H' m' I' hL' hn' q => ⟨H', m', I', hL', hn', hQ v H' m' q⟩) fun _ _ e => e
theorem w_pure {a : α} {Q : α → HM → Prop} (h : Q a H) : W c A (pure a) H Q := fun _ I => wpAny_pure ⟨H, I, h⟩
theorem f_pure {a : α} {Q : α → HM → Loc → Prop} (h : Q a H m) : WF c A L (pure a) H m Q := fun _ I hL hn => wpAny_pure ⟨H, m, I, hL, hn, h⟩
theorem w_bind {t : Sem α} {f : α → Sem β} {Q : β → HM → Prop} (h : W c A t H (fun v H' => W c A (f v) H' Q)) : W c A (t >>= f) H Q :=
  fun s I => wpAny_bind (wpAny_mono (h s I) (fun _ s' ⟨_, I', q⟩ => q s' I') fun _ _ e => e.elim)
theorem f_bind {t : Sem α} {f : α → Sem β} {Q : β → HM → Loc → Prop} (h : WF c A L t H m (fun v H' m' => WF c A L (f v) H' m' Q)) : WF c A L (t >>= f) H m Q :=
  fun s I hL hn => wpAny_bind (wpAny_mono (h s I hL hn) (fun _ s' zx => fx zx fun _ _ I' hL' hn' q => q s' I' hL' hn') fun _ _ e => e.elim)
/-- a frame's heap and its locals, put together and taken apart -/
theorem upd_frame {s : Shared} (I : Inv c H s) (hL : H L = none) (hn : s.heap.Ns L m) : Inv c (upd H L (isNs m)) s := by
  obtain ⟨o, es, ep, ho, r⟩ := hn
  refine ⟨fun b P e => ?_, fun b o' e => ?_, I.fit⟩
  · by_cases hb : b = L
    · subst hb; rw [upd_same] at e; cases e; exact ⟨o, ho, es, ep, r⟩
    · rw [upd_ne hb] at e; exact I.rep b P e
  · have := I.base b o' e
    rw [upd_ne (by rintro rfl; rw [hL] at this; cases this)]
    exact this
noncomputable def del (H : HM) (a : Addr) : HM := fun b => if b = a then none else H b
theorem del_upd (hL : H L = none) (P : OP) : del (upd H L P) L = H := by
  funext b; unfold del upd; split
  · rename_i e; rw [e, hL]
  · rfl
theorem f_of_W {t : Sem α} {Q : α → HM → Loc → Prop} (h : H L = none → W c A t (upd H L (isNs m)) (fun v H' => ∃ Hd m', H' = upd Hd L (isNs m') ∧ Hd L = none ∧ Q v Hd m')) : WF c A L t H m Q :=
  fun s I hL hn => wpAny_mono (h hL s (upd_frame I hL hn)) (fun v s' ⟨H', I', Hd, m', e, hd, q⟩ => by
    subst e
    refine ⟨Hd, m', ⟨fun b P e => I'.rep b P ?_, fun b o e => ?_, I'.fit⟩, hd, I'.ns (upd_same ..), q⟩
    · rw [upd_ne (by rintro rfl; rw [hd] at e; cases e)]; exact e
    · have hb := I'.base b o e
      by_cases hbL : b = L
      · subst hbL
        have := I'.base_none (upd_same Hd b (isNs m')) (isNs_loose m')
        rw [e] at this; cases this
      · rw [upd_ne hbL] at hb; exact hb) fun _ _ e => e
end
end
section
section
variable {α β : Type} {c : Cx} {A : Around} {L : Addr} {H : HM} {m : Loc} {env : Env}

noncomputable def setL (m : Loc) (x : Str) (v : Value) : Loc := fun y => if y = x then some v else m y

theorem setL_eq {m : Loc} {x : Str} {v : Value} : setL m x v x = some v := if_pos rfl
theorem setL_ne {m : Loc} {x y : Str} {v : Value} {r : Option Value} (h : m y = r) (hn : (y == x) = false) : setL m x v y = r := by
  unfold setL; rw [if_neg (by simpa using hn)]; exact h

/-! ### statements -/
theorem f_nil {Q : Flow → HM → Loc → Prop} (h : Q .next H m) : WF c A L (execs [] env) H m Q :=
  fun _ I hL hn => wpAny_execs_nil ⟨H, m, I, hL, hn, h⟩
theorem f_cons {st rest} {Q : Flow → HM → Loc → Prop}
    (h : WF c A L (exec st env) H m (fun f H' m' => match f with | .next => WF c A L (execs rest env) H' m' Q | f => Q f H' m')) : WF c A L (execs (st :: rest) env) H m Q :=
  fun s I hL hn => wpAny_execs_cons (wpAny_mono (h s I hL hn) (fun f s' zx => fx zx fun H' m' I' hL' hn' q => by
    cases f <;> first | exact q s' I' hL' hn' | exact ⟨H', m', I', hL', hn', q⟩) fun _ _ e => e)
/-- what is asked behind is given a name -/
theorem w_let {t : Sem α} {Q : α → HM → Loc → Prop} (h : let R := Q; WF c A L t H m R) : WF c A L t H m Q := h
theorem f_storeL {x : Str} {v : Value} {Q : Unit → HM → Loc → Prop} (h : Q () H (setL m x v))
    (hl : env.kindOf x = some .local := by rfl) (hk : env.scope.kind = .function := by rfl) (he : env.locals = L := by rfl) : WF c A L (storeName env x v) H m Q := he ▸
  fun _ I hL hn => wpAny_storeName_local hl hn (fun h' hn' hs => ⟨H, _, ⟨fun a P e => by
      obtain ⟨o, ho, p⟩ := I.rep a P e
      exact ⟨o, (hs.2 a (by rintro rfl; rw [hL] at e; cases e)).trans ho, p⟩, I.base, by rw [I.fit]⟩, hL, hn', h⟩) (by rw [hk]; rfl)
theorem f_storeC {x : Str} {v : Value} {cc : Addr} {v₀ : Option Value} {Q : Unit → HM → Loc → Prop} (hc : env.cells.lookup x = some cc) (hv : H cc = some (isCell v₀)) (h : Q () (upd H cc (isCell (some v))) m)
    (hl : env.kindOf x = some .cell := by rfl) (hk : env.scope.kind = .function := by rfl) : WF c A L (storeName env x v) H m Q :=
  fun s I hL hn => wpAny_storeName_cell hk hl hc (I.cell hv) fun h' hc' hs => by
    have hne : cc ≠ L := by rintro rfl; rw [hL] at hv; cases hv
    obtain ⟨o, ho, hd⟩ := hc'
    refine ⟨_, m, I.turn hv (isCell_loose _) hs.extBut ho hd s.toks, ?_, hn.sameBut hs (Ne.symm hne), h⟩
    rw [upd_ne (Ne.symm hne)]; exact hL
theorem f_AssignN {x pos' value pos} {Q : Flow → HM → Loc → Prop}
    (h : WF c A L (eval value env) H m (fun v H₁ m₁ => WF c A L (storeName env x v) H₁ m₁ (fun _ => Q .next)))
    (hs : swapsWith value (some (.Name x pos')) pos.line env = pure false := by rfl) : WF c A L (exec (.Assign [.Name x pos'] value pos) env) H m Q :=
  fun s I hL hn => wpAny_Assign_Name (wpAny_mono (h s I hL hn) (fun _ s₁ zx => fx zx fun _ _ I₁ hL₁ hn₁ q => q s₁ I₁ hL₁ hn₁) fun _ _ e => e) hs
theorem f_AssignS {o i pos' value pos} {Q : Flow → HM → Loc → Prop}
    (h : WF c A L (eval value env) H m (fun v H₁ m₁ => WF c A L (eval o env) H₁ m₁ (fun ov H₂ m₂ => WF c A L (eval i env) H₂ m₂ (fun iv H₃ m₃ => WF c A L (setItem ov iv v) H₃ m₃ (fun _ => Q .next)))))
    (hs : swapsWith value (some (.Subscript o i pos')) pos.line env = pure false := by rfl) : WF c A L (exec (.Assign [.Subscript o i pos'] value pos) env) H m Q :=
  fun s I hL hn => wpAny_Assign_Subscript (wpAny_mono (h s I hL hn) (fun _ s₁ zx => fx zx fun _ _ I₁ hL₁ hn₁ q => wpAny_mono (q s₁ I₁ hL₁ hn₁) (fun _ s₂ ⟨_, _, I₂, hL₂, hn₂, q⟩ =>
    wpAny_mono (q s₂ I₂ hL₂ hn₂) (fun _ s₃ zx => fx zx fun _ _ I₃ hL₃ hn₃ q => q s₃ I₃ hL₃ hn₃) fun _ _ e => e) fun _ _ e => e) fun _ _ e => e) hs
theorem f_AugN {x pos' op value pos} {Q : Flow → HM → Loc → Prop}
    (h : WF c A L (loadName env x) H m (fun old H₁ m₁ => WF c A L (eval value env) H₁ m₁ (fun v H₂ m₂ => WF c A L (inplaceOp op old v) H₂ m₂ (fun r H₃ m₃ => WF c A L (storeName env x r) H₃ m₃ (fun _ => Q .next))))) :
    WF c A L (exec (.AugAssign (.Name x pos') op value pos) env) H m Q :=
  fun s I hL hn => wpAny_AugAssign_Name (wpAny_mono (h s I hL hn) (fun _ s₁ zx => fx zx fun _ _ I₁ hL₁ hn₁ q => wpAny_mono (q s₁ I₁ hL₁ hn₁) (fun _ s₂ ⟨_, _, I₂, hL₂, hn₂, q⟩ =>
    wpAny_mono (q s₂ I₂ hL₂ hn₂) (fun _ s₃ zx => fx zx fun _ _ I₃ hL₃ hn₃ q => q s₃ I₃ hL₃ hn₃) fun _ _ e => e) fun _ _ e => e) fun _ _ e => e)
theorem f_Return {e pos} {Q : Flow → HM → Loc → Prop} (h : WF c A L (eval e env) H m (fun v => Q (.ret v))) : WF c A L (exec (.Return (some e) pos) env) H m Q :=
  fun s I hL hn => wpAny_Return_some (h s I hL hn)
theorem f_Expr {e pos} {Q : Flow → HM → Loc → Prop} (h : WF c A L (eval e env) H m (fun _ => Q .next)) (hi : interactive env = false := by rfl) (hs : swapsWith e none pos.line env = pure false := by rfl) :
    WF c A L (exec (.Expr e pos) env) H m Q := fun s I hL hn => wpAny_Expr_any (h s I hL hn) hi hs
theorem f_Break {pos} {Q : Flow → HM → Loc → Prop} (h : Q .brk H m) : WF c A L (exec (.Break pos) env) H m Q := fun _ I hL hn => wpAny_Break ⟨H, m, I, hL, hn, h⟩
theorem f_Continue {pos} {Q : Flow → HM → Loc → Prop} (h : Q .cont H m) : WF c A L (exec (.Continue pos) env) H m Q := fun _ I hL hn => wpAny_Continue ⟨H, m, I, hL, hn, h⟩
theorem f_Pass {pos} {Q : Flow → HM → Loc → Prop} (h : Q .next H m) : WF c A L (exec (.Pass pos) env) H m Q := fun _ I hL hn => wpAny_Pass ⟨H, m, I, hL, hn, h⟩
theorem f_If {test body orelse pos} {Q : Flow → HM → Loc → Prop}
    (h : WF c A L (isTrue test env (eval test env)) H m (fun b H₂ m₂ => if b then WF c A L (execs body env) H₂ m₂ Q else WF c A L (execs orelse env) H₂ m₂ Q)) : WF c A L (exec (.If test body orelse pos) env) H m Q :=
  fun s I hL hn => wpAny_If (wpAny_mono (h s I hL hn) (fun b s₂ zx => fx zx fun _ _ I₂ hL₂ hn₂ q => by cases b <;> exact q s₂ I₂ hL₂ hn₂) fun _ _ e => e)
theorem f_While {test body orelse pos} {Q : Flow → HM → Loc → Prop} (J : Nat → HM → Loc → Prop) (n : Nat) (h : J n H m)
    (turn : ∀ n H m, J n H m → WF c A L (isTrue test env (eval test env)) H m (fun b H₂ m₂ =>
      if b then WF c A L (execs body env) H₂ m₂ (fun f H₃ m₃ => match f with | .next | .cont => ∃ k, k < n ∧ J k H₃ m₃ | .brk => Q .next H₃ m₃ | .ret v => Q (.ret v) H₃ m₃)
      else WF c A L (execs orelse env) H₂ m₂ Q)) : WF c A L (exec (.While test body orelse pos) env) H m Q := by
  intro s I hL hn
  refine wpAny_While (codeAny_whileLoop (fun n s => ∃ H m, Inv c H s ∧ H L = none ∧ s.heap.Ns L m ∧ J n H m) (fun n s hI => ?_) n ⟨H, m, I, hL, hn, h⟩)
  refine fx hI fun H m I hL hn hj => ?_
  refine wpAny_mono (turn n H m hj s I hL hn) (fun b s₂ hb => ?_) fun _ _ e => e.elim
  refine fx hb fun H₂ m₂ I₂ hL₂ hn₂ q => ?_
  cases b with
  | false => exact wpAny_mono (q s₂ I₂ hL₂ hn₂) (fun f s₃ z => z) fun _ _ e => e.elim
  | true =>
    refine wpAny_mono (q s₂ I₂ hL₂ hn₂) (fun f s₃ z => ?_) fun _ _ e => e.elim
    refine fx z fun H₃ m₃ I₃ hL₃ hn₃ q => ?_
    cases f with
    | next => obtain ⟨k, hk, hj⟩ := q; exact ⟨k, hk, H₃, m₃, I₃, hL₃, hn₃, hj⟩
    | cont => obtain ⟨k, hk, hj⟩ := q; exact ⟨k, hk, H₃, m₃, I₃, hL₃, hn₃, hj⟩
    | brk => exact ⟨H₃, m₃, I₃, hL₃, hn₃, q⟩
    | ret v => exact ⟨H₃, m₃, I₃, hL₃, hn₃, q⟩
/-- what a for loop does, once its iterator stands -/
noncomputable def ForW (c : Cx) (A : Around) (L : Addr) (target : PySem.Expr) (it : Value) (body orelse : List Stmt) (env : Env) (H : HM) (m : Loc) (Q : Flow → HM → Loc → Prop) : Prop :=
  ∃ (J : Nat → HM → Loc → Prop) (n : Nat), J n H m ∧ ∀ n H m, J n H m → WF c A L (pyNext it) H m (fun r H₁ m₁ => match r with
    | none => WF c A L (execs orelse env) H₁ m₁ Q
    | some v => WF c A L (assign target env v) H₁ m₁ (fun _ H₂ m₂ => WF c A L (execs body env) H₂ m₂ (fun f H₃ m₃ => match f with
      | .next | .cont => ∃ k, k < n ∧ J k H₃ m₃ | .brk => Q .next H₃ m₃ | .ret v => Q (.ret v) H₃ m₃)))
theorem f_For {target iter body orelse pos} {Q : Flow → HM → Loc → Prop}
    (h : WF c A L (eval iter env) H m (fun x H₁ m₁ => WF c A L (pyIter x) H₁ m₁ (fun it H₂ m₂ => ForW c A L target it body orelse env H₂ m₂ Q)))
    (hs : ∀ x, foldedSetIterable iter env x = pure x := by intro _; rfl) (ht : ∀ it v, letOwnedTupleGo target it v = pure () := by intro _ _; rfl) :
    WF c A L (exec (.For target iter body orelse pos) env) H m Q := by
  intro s I hL hn
  refine wpAny_For (wpAny_mono (h s I hL hn) (fun x s₁ h₁ => ?_) fun _ _ e => e) hs
  refine fx h₁ fun H₁ m₁ I₁ hL₁ hn₁ q₁ => ?_
  refine wpAny_mono (q₁ s₁ I₁ hL₁ hn₁) (fun it s₂ h₂ => ?_) fun _ _ e => e
  refine fx h₂ fun H₂ m₂ I₂ hL₂ hn₂ zq => ?_
  obtain ⟨J, n, hj, turn⟩ := zq
  refine codeAny_forLoop (fun n s => ∃ H m, Inv c H s ∧ H L = none ∧ s.heap.Ns L m ∧ J n H m) (fun n s hI => ?_) n ⟨H₂, m₂, I₂, hL₂, hn₂, hj⟩ (ht it)
  refine fx hI fun H m I hL hn hj => ?_
  refine wpAny_mono (turn n H m hj s I hL hn) (fun r s₁ hb => ?_) fun _ _ e => e.elim
  refine fx hb fun H₁ m₁ I₁ hL₁ hn₁ q => ?_
  cases r with
  | none => exact wpAny_mono (q s₁ I₁ hL₁ hn₁) (fun f s₃ z => z) fun _ _ e => e.elim
  | some v =>
    refine wpAny_mono (q s₁ I₁ hL₁ hn₁) (fun _ s₂ hb => ?_) fun _ _ e => e.elim
    refine fx hb fun H₂ m₂ I₂ hL₂ hn₂ q => ?_
    refine wpAny_mono (q s₂ I₂ hL₂ hn₂) (fun f s₃ z => ?_) fun _ _ e => e.elim
    refine fx z fun H₃ m₃ I₃ hL₃ hn₃ q => ?_
    cases f with
    | next => obtain ⟨k, hk, hj⟩ := q; exact ⟨k, hk, H₃, m₃, I₃, hL₃, hn₃, hj⟩
    | cont => obtain ⟨k, hk, hj⟩ := q; exact ⟨k, hk, H₃, m₃, I₃, hL₃, hn₃, hj⟩
    | brk => exact ⟨H₃, m₃, I₃, hL₃, hn₃, q⟩
    | ret v => exact ⟨H₃, m₃, I₃, hL₃, hn₃, q⟩
theorem f_assignN {x pos v} {Q : Unit → HM → Loc → Prop} (h : WF c A L (storeName env x v) H m Q) : WF c A L (assign (.Name x pos) env v) H m Q :=
  fun s I hL hn => wpAny_assign_Name (h s I hL hn)

/-! ### expressions -/
theorem f_int {i k pos} {Q : Value → HM → Loc → Prop} (h : ∀ t, Q (.int i t) H m) : WF c A L (eval (.Constant (.int i) k pos) env) H m Q :=
  fun _ I hL hn => wpAny_Constant_int ⟨H, m, I.toks _, hL, hn, h _⟩
theorem f_none {k pos} {Q : Value → HM → Loc → Prop} (h : Q .none H m) : WF c A L (eval (.Constant .none k pos) env) H m Q :=
  fun _ I hL hn => wpAny_Constant_none ⟨H, m, I, hL, hn, h⟩
theorem f_bool {b k pos} {Q : Value → HM → Loc → Prop} (h : Q (.bool b) H m) : WF c A L (eval (.Constant (.bool b) k pos) env) H m Q :=
  fun _ I hL hn => wpAny_Constant_bool ⟨H, m, I, hL, hn, h⟩
theorem f_loadL {x : Str} {v : Value} {Q : Value → HM → Loc → Prop} (hv : m x = some v) (h : Q v H m) (hk : env.scope.kind = .function := by rfl) (hl : env.kindOf x = some .local := by rfl) (he : env.locals = L := by rfl) : WF c A L (loadName env x) H m Q := he ▸
  fun _ I hL hn => wpAny_loadName_local hk hl hn hv ⟨H, m, I, hL, hn, h⟩
theorem f_nameL {x : Str} {pos : Pos} {v : Value} {Q : Value → HM → Loc → Prop} (hv : m x = some v) (h : Q v H m)
    (hk : env.scope.kind = .function := by rfl) (hl : env.kindOf x = some .local := by rfl) (he : env.locals = L := by rfl) (hd : (x == ("__debug__" : Str)) = false := by decide) : WF c A L (eval (.Name x pos) env) H m Q := he ▸
  fun _ I hL hn => wpAny_Name (wpAny_loadName_local hk hl hn hv ⟨H, m, I, hL, hn, h⟩) hd
theorem f_nameC {x : Str} {pos : Pos} {v : Value} {cc : Addr} {Q : Value → HM → Loc → Prop} (hc : env.cells.lookup x = some cc) (hv : H cc = some (isCell (some v))) (h : Q v H m)
    (hk : env.scope.kind = .function := by rfl) (hl : env.kindOf x = some .cell := by rfl) (hd : (x == ("__debug__" : Str)) = false := by decide) : WF c A L (eval (.Name x pos) env) H m Q :=
  fun _ I hL hn => wpAny_Name (wpAny_loadName_cell hk hl hc (I.cell hv) ⟨H, m, I, hL, hn, h⟩) hd
theorem f_nameF {x : Str} {pos : Pos} {v : Value} {cc : Addr} {Q : Value → HM → Loc → Prop} (hc : env.cells.lookup x = some cc) (hv : H cc = some (isCell (some v))) (h : Q v H m)
    (hk : env.scope.kind = .function := by rfl) (hl : env.kindOf x = some .free := by rfl) (hd : (x == ("__debug__" : Str)) = false := by decide) (hn : (x == ("__classdict__" : Str)) = false := by decide) : WF c A L (eval (.Name x pos) env) H m Q :=
  fun _ I hL hn' => wpAny_Name (wpAny_loadName_free hk hl hc (I.cell hv) ⟨H, m, I, hL, hn', h⟩ hn) hd
theorem f_nameG {x : Str} {pos : Pos} {v : Value} {Q : Value → HM → Loc → Prop} (ok : c.Ok) (hv : c.mg x = some v) (h : Q v H m)
    (hg : env.globals = mainGlobals := by rfl) (hk : env.scope.kind = .function := by rfl) (hl : env.kindOf x = some .globalImplicit := by rfl) (hd : (x == ("__debug__" : Str)) = false := by decide) : WF c A L (eval (.Name x pos) env) H m Q :=
  fun _ I hL hn => Calls.Name_function_global hk hl (Calls.loadGlobal_global (by rw [hg]; exact ok.g.keeps I.keeps) hv ⟨H, m, I, hL, hn, h⟩) hd
theorem f_nameB {x : Str} {pos : Pos} {v : Value} {Q : Value → HM → Loc → Prop} (ok : c.Ok) (hm : c.mg x = none) (hv : c.mb x = some v) (h : Q v H m)
    (hg : env.globals = mainGlobals := by rfl) (hb : env.builtins = builtinsNs := by rfl) (hk : env.scope.kind = .function := by rfl) (hl : env.kindOf x = some .globalImplicit := by rfl) (hd : (x == ("__debug__" : Str)) = false := by decide) : WF c A L (eval (.Name x pos) env) H m Q :=
  fun _ I hL hn => Calls.Name_function_global hk hl (Calls.loadGlobal_builtin (by rw [hg]; exact ok.g.keeps I.keeps) hm (by rw [hb]; exact ok.b.keeps I.keeps) hv ⟨H, m, I, hL, hn, h⟩) hd
theorem f_BinOp {l op r pos} {Q : Value → HM → Loc → Prop}
    (h : WF c A L (eval l env) H m (fun a H₁ m₁ => WF c A L (eval r env) H₁ m₁ (fun b H₂ m₂ => WF c A L (binaryOp op a b) H₂ m₂ Q))) : WF c A L (eval (.BinOp l op r pos) env) H m Q :=
  fun s I hL hn => wpAny_BinOp (wpAny_mono (h s I hL hn) (fun _ s₁ zx => fx zx fun _ _ I₁ hL₁ hn₁ q => wpAny_mono (q s₁ I₁ hL₁ hn₁) (fun _ s₂ zx => fx zx fun _ _ I₂ hL₂ hn₂ q => q s₂ I₂ hL₂ hn₂) fun _ _ e => e) fun _ _ e => e)
theorem f_UnaryOp {op x pos} {Q : Value → HM → Loc → Prop} (h : WF c A L (eval x env) H m (fun a H₁ m₁ => WF c A L (unaryOp op a) H₁ m₁ Q)) : WF c A L (eval (.UnaryOp op x pos) env) H m Q :=
  fun s I hL hn => wpAny_UnaryOp (wpAny_mono (h s I hL hn) (fun _ s₁ zx => fx zx fun _ _ I₁ hL₁ hn₁ q => q s₁ I₁ hL₁ hn₁) fun _ _ e => e)
theorem f_Compare {l op r pos} {Q : Value → HM → Loc → Prop}
    (h : WF c A L (eval l env) H m (fun a H₁ m₁ => WF c A L (eval r env) H₁ m₁ (fun b H₂ m₂ => WF c A L (compareOp op a b) H₂ m₂ Q)))
    (hm : behindInMarks op r = false := by with_unfolding_all rfl) : WF c A L (eval (.Compare l [op] [r] pos) env) H m Q :=
  fun s I hL hn => wpAny_Compare1 (wpAny_mono (h s I hL hn) (fun _ s₁ zx => fx zx fun _ _ I₁ hL₁ hn₁ q => wpAny_mono (q s₁ I₁ hL₁ hn₁) (fun _ s₂ zx => fx zx fun _ _ I₂ hL₂ hn₂ q => q s₂ I₂ hL₂ hn₂) fun _ _ e => e) fun _ _ e => e) hm
/-- a test by one comparison that gives back a bool -/
theorem f_tCompare {l op r pos whole} {Q : Bool → HM → Loc → Prop}
    (h : WF c A L (eval l env) H m (fun a H₁ m₁ => WF c A L (eval r env) H₁ m₁ (fun b H₂ m₂ => WF c A L (compareOp op a b) H₂ m₂ (fun v H₃ m₃ => ∃ b, v = .bool b ∧ Q b H₃ m₃))))
    (hm : behindInMarks op r = false := by with_unfolding_all rfl) : WF c A L (isTrue (.Compare l [op] [r] pos) env whole) H m Q :=
  fun s I hL hn => wpAny_isTrue_Compare1 (wpAny_mono (h s I hL hn) (fun _ s₁ zx => fx zx fun _ _ I₁ hL₁ hn₁ q => wpAny_mono (q s₁ I₁ hL₁ hn₁) (fun _ s₂ ⟨_, _, I₂, hL₂, hn₂, q⟩ =>
    wpAny_mono (q s₂ I₂ hL₂ hn₂) (fun _ s₃ ⟨H₃, m₃, I₃, hL₃, hn₃, b, e, q⟩ => by subst e; exact wpAny_truthy_bool ⟨H₃, m₃, I₃, hL₃, hn₃, q⟩) fun _ _ e => e) fun _ _ e => e) fun _ _ e => e) hm
theorem f_tNot {x pos whole} {Q : Bool → HM → Loc → Prop} (h : WF c A L (isTrue x env (eval x env)) H m (fun b => Q (!b))) : WF c A L (isTrue (.UnaryOp .Not x pos) env whole) H m Q :=
  fun s I hL hn => wpAny_isTrue_Not (h s I hL hn)
theorem f_tBoolOp {op values pos whole} {Q : Bool → HM → Loc → Prop} (h : WF c A L (allTrue op values env) H m Q) : WF c A L (isTrue (.BoolOp op values pos) env whole) H m Q :=
  fun s I hL hn => wpAny_isTrue_BoolOp (h s I hL hn)
theorem f_andNil {Q : Bool → HM → Loc → Prop} (h : Q true H m) : WF c A L (allTrue .And [] env) H m Q := fun _ I hL hn => wpAny_allTrue_And_nil ⟨H, m, I, hL, hn, h⟩
theorem f_orNil {Q : Bool → HM → Loc → Prop} (h : Q false H m) : WF c A L (allTrue .Or [] env) H m Q := fun _ I hL hn => wpAny_allTrue_Or_nil ⟨H, m, I, hL, hn, h⟩
theorem f_andCons {x rest} {Q : Bool → HM → Loc → Prop} (h : WF c A L (isTrue x env (eval x env)) H m (fun b H₁ m₁ => if b then WF c A L (allTrue .And rest env) H₁ m₁ Q else Q false H₁ m₁)) :
    WF c A L (allTrue .And (x :: rest) env) H m Q :=
  fun s I hL hn => wpAny_allTrue_And_cons (wpAny_mono (h s I hL hn) (fun b s₁ zx => fx zx fun H₁ m₁ I₁ hL₁ hn₁ q => by cases b <;> first | exact q s₁ I₁ hL₁ hn₁ | exact ⟨H₁, m₁, I₁, hL₁, hn₁, q⟩) fun _ _ e => e)
theorem f_orCons {x rest} {Q : Bool → HM → Loc → Prop} (h : WF c A L (isTrue x env (eval x env)) H m (fun b H₁ m₁ => if b then Q true H₁ m₁ else WF c A L (allTrue .Or rest env) H₁ m₁ Q)) :
    WF c A L (allTrue .Or (x :: rest) env) H m Q :=
  fun s I hL hn => wpAny_allTrue_Or_cons (wpAny_mono (h s I hL hn) (fun b s₁ zx => fx zx fun H₁ m₁ I₁ hL₁ hn₁ q => by cases b <;> first | exact q s₁ I₁ hL₁ hn₁ | exact ⟨H₁, m₁, I₁, hL₁, hn₁, q⟩) fun _ _ e => e)
theorem f_tVal {e whole} {Q : Bool → HM → Loc → Prop} (h : WF c A L whole H m (fun v H₁ m₁ => WF c A L (truthy v) H₁ m₁ Q))
    (he : isTrue e env whole = (do let v ← whole; standAt e.pos; holding [v] (truthy v)) := by rfl) : WF c A L (isTrue e env whole) H m Q :=
  fun s I hL hn => wpAny_isTrue_value (wpAny_mono (h s I hL hn) (fun _ s₁ zx => fx zx fun _ _ I₁ hL₁ hn₁ q => q s₁ I₁ hL₁ hn₁) fun _ _ e => e) he
theorem f_truthyB {b : Bool} {Q : Bool → HM → Loc → Prop} (h : Q b H m) : WF c A L (truthy (.bool b)) H m Q := fun _ I hL hn => wpAny_truthy_bool ⟨H, m, I, hL, hn, h⟩
theorem f_IfExp {test body orelse pos} {Q : Value → HM → Loc → Prop}
    (h : WF c A L (isTrue test env (eval test env)) H m (fun b H₁ m₁ => if b then WF c A L (eval body env) H₁ m₁ Q else WF c A L (eval orelse env) H₁ m₁ Q)) : WF c A L (eval (.IfExp test body orelse pos) env) H m Q :=
  fun s I hL hn => wpAny_IfExp (wpAny_mono (h s I hL hn) (fun b s₂ zx => fx zx fun _ _ I₂ hL₂ hn₂ q => by cases b <;> exact q s₂ I₂ hL₂ hn₂) fun _ _ e => e)
theorem f_Subscript {value slice pos} {Q : Value → HM → Loc → Prop}
    (h : WF c A L (eval value env) H m (fun o H₁ m₁ => WF c A L (eval slice env) H₁ m₁ (fun i H₂ m₂ => WF c A L (subscriptTail value slice o i) H₂ m₂ Q))) : WF c A L (eval (.Subscript value slice pos) env) H m Q :=
  fun s I hL hn => Subscript_ (wpAny_mono (h s I hL hn) (fun _ s₁ zx => fx zx fun _ _ I₁ hL₁ hn₁ q => wpAny_mono (q s₁ I₁ hL₁ hn₁) (fun _ s₂ zx => fx zx fun _ _ I₂ hL₂ hn₂ q => q s₂ I₂ hL₂ hn₂) fun _ _ e => e) fun _ _ e => e)

/-! ### ints -/
section
variable {a b : Int} {t u : Tok} {Q : Value → HM → Loc → Prop}
theorem f_add (h : ∀ t, Q (.int (a + b) t) H m) : WF c A L (binaryOp .Add (.int a t) (.int b u)) H m Q := fun _ I hL hn => wpAny_add_int ⟨H, m, I.toks _, hL, hn, h _⟩
theorem f_sub (h : ∀ t, Q (.int (a - b) t) H m) : WF c A L (binaryOp .Sub (.int a t) (.int b u)) H m Q := fun _ I hL hn => PyProof.Rows.sub_int ⟨H, m, I.toks _, hL, hn, h _⟩
theorem f_mul (hm : IntMulOk a b) (h : ∀ t, Q (.int (a * b) t) H m) : WF c A L (binaryOp .Mult (.int a t) (.int b u)) H m Q := fun _ I hL hn => PyProof.Rows.mul_int ⟨H, m, I.toks _, hL, hn, h _⟩ hm
theorem f_half (h0 : 0 ≤ a) (h : ∀ t, Q (.int (a / 2) t) H m) : WF c A L (binaryOp .RShift (.int a t) (.int 1 u)) H m Q := fun _ I hL hn => wpAny_rshift1_int h0 ⟨H, m, I.toks _, hL, hn, h _⟩
theorem f_mod (hb : b ≠ 0) (h : ∀ t, Q (.int (a.fmod b) t) H m) : WF c A L (binaryOp .Mod (.int a t) (.int b u)) H m Q := fun _ I hL hn => PyProof.Rows.mod_int hb ⟨H, m, I.toks _, hL, hn, h _⟩
theorem f_fdiv (hb : b ≠ 0) (hp : Builtin.divisionGoesByPylong a b = false) (h : ∀ t, Q (.int (a.fdiv b) t) H m) : WF c A L (binaryOp .FloorDiv (.int a t) (.int b u)) H m Q :=
  fun _ I hL hn => PyProof.Rows.floordiv_int hb ⟨H, m, I.toks _, hL, hn, h _⟩ (.inl hp)
theorem f_neg (h : ∀ t, Q (.int (-a) t) H m) : WF c A L (unaryOp .USub (.int a t)) H m Q := fun _ I hL hn => PyProof.Rows.neg_int ⟨H, m, I.toks _, hL, hn, h _⟩
theorem f_iadd (h : ∀ t, Q (.int (a + b) t) H m) : WF c A L (inplaceOp .Add (.int a t) (.int b u)) H m Q := fun _ I hL hn => wpAny_iadd_int ⟨H, m, I.toks _, hL, hn, h _⟩
theorem f_isub (h : ∀ t, Q (.int (a - b) t) H m) : WF c A L (inplaceOp .Sub (.int a t) (.int b u)) H m Q := fun _ I hL hn => PyProof.Rows.isub_int ⟨H, m, I.toks _, hL, hn, h _⟩
theorem f_lt (h : Q (.bool (decide (a < b))) H m) : WF c A L (compareOp .Lt (.int a t) (.int b u)) H m Q := fun _ I hL hn => wpAny_lt_int ⟨H, m, I, hL, hn, h⟩
theorem f_gt (h : Q (.bool (decide (b < a))) H m) : WF c A L (compareOp .Gt (.int a t) (.int b u)) H m Q := fun _ I hL hn => PyProof.Rows.gt_int ⟨H, m, I, hL, hn, h⟩
theorem f_ge (h : Q (.bool (decide (a ≥ b))) H m) : WF c A L (compareOp .GtE (.int a t) (.int b u)) H m Q := fun _ I hL hn => PyProof.Rows.ge_int ⟨H, m, I, hL, hn, h⟩
theorem f_eq (h : Q (.bool (a == b)) H m) : WF c A L (compareOp .Eq (.int a t) (.int b u)) H m Q := fun _ I hL hn => PyProof.Rows.eq_int ⟨H, m, I, hL, hn, h⟩
theorem f_le (h : Q (.bool (decide (a ≤ b))) H m) : WF c A L (compareOp .LtE (.int a t) (.int b u)) H m Q := fun _ I hL hn => PyProof.Rows.le_int ⟨H, m, I, hL, hn, h⟩
end

/-! ### lists -/
theorem f_getItem {l : Addr} {xs : List Value} {k : Int} {t : Tok} {x : Value} {value slice : PySem.Expr} {Q : Value → HM → Loc → Prop} (hl : H l = some (lst xs)) (h0 : 0 ≤ k) (hx : xs[k.toNat]? = some x) (hz : k < 2 ^ 63) (h : Q x H m)
    (hs : subscripted slice false (.ref l) (.int k t) = operate [.ref l, .int k t] (getItem (.ref l) (.int k t)) := by with_unfolding_all rfl) : WF c A L (subscriptTail value slice (.ref l) (.int k t)) H m Q := by
  intro s I hL hn
  exact tail_any (I.isList hl).typeIs slot_list_getitem.lookup (wpAny_getItem_list (I.isList hl) h0 hz (by simpa using hx) ⟨H, m, I, hL, hn, h⟩) hs
theorem f_setItem {l : Addr} {xs : List Value} {k : Int} {t : Tok} {v : Value} {Q : Unit → HM → Loc → Prop} (hl : H l = some (lst xs)) (h0 : 0 ≤ k) (hk : k < xs.length) (hz : k < 2 ^ 63) (h : Q () (upd H l (lst (xs.set k.toNat v))) m) :
    WF c A L (setItem (.ref l) (.int k t) v) H m Q := by
  intro s I hL hn
  obtain ⟨n, ho⟩ := I.lst hl
  have hne : l ≠ L := by rintro rfl; rw [hL] at hl; cases hl
  have hset : lst (xs.set k.toNat v) { cls := .type "list", dict := none, data := .seq (xs.toArray.setIfInBounds k.toNat v) (if (xs.toArray.setIfInBounds k.toNat v).size == xs.toArray.size then n else n + 1), slots := #[] } :=
    ⟨_, by rw [show xs.toArray.setIfInBounds k.toNat v = (xs.set k.toNat v).toArray from by apply Array.toList_inj.mp; simp]⟩
  refine ki_setAt ho h0 hz (by simpa using hk) ⟨_, m, I.turn hl (lst_loose _) (Heap.SameBut.update ..).extBut (IsL.update ho _) hset s.toks, ?_, hn.sameBut (Heap.SameBut.update ..) (Ne.symm hne), h⟩
  rw [upd_ne (Ne.symm hne)]; exact hL
theorem f_getN {l : Addr} {xs : List Value} {k : Nat} {t : Tok} {value slice : PySem.Expr} {Q : Value → HM → Loc → Prop} (hl : H l = some (lst xs)) (hk : k < xs.length) (hz : xs.length < 1000) (h : Q (xs.getD k .none) H m)
    (hs : subscripted slice false (.ref l) (.int k t) = operate [.ref l, .int k t] (getItem (.ref l) (.int k t)) := by with_unfolding_all rfl) : WF c A L (subscriptTail value slice (.ref l) (.int k t)) H m Q :=
  f_getItem hl (by omega) (by simp [hk]) (by omega) h hs
theorem f_setN {l : Addr} {xs : List Value} {k : Nat} {t : Tok} {v : Value} {Q : Unit → HM → Loc → Prop} (hl : H l = some (lst xs)) (hk : k < xs.length) (hz : xs.length < 1000) (h : Q () (upd H l (lst (xs.set k v))) m) :
    WF c A L (setItem (.ref l) (.int k t) v) H m Q := f_setItem hl (by omega) (by omega) (by omega) h
/-- calls whose contract is known for every heap that holds what this one holds -/
theorem f_spec {t : Sem Value} {r : Value} {l : Addr} {P P' : OP} {Q : Value → HM → Loc → Prop} (hl : H l = some P) (h : ∀ H', Sub H H' → W c A t H' (fun v H'' => v = r ∧ H'' = upd H' l P')) (hQ : Q r (upd H l P') m) : WF c A L t H m Q :=
  f_of_W fun hL => w_mono (h _ (Sub.upd_new (Sub.refl H) hL)) fun v H'' ⟨e1, e2⟩ => by
    have hne : l ≠ L := by rintro rfl; rw [hL] at hl; cases hl
    subst e1 e2
    exact ⟨upd H l P', m, upd_comm (Ne.symm hne), by rw [upd_ne (Ne.symm hne)]; exact hL, hQ⟩
end
end
section
noncomputable def stm (i : Nat) : Stmt := PySem.Challenge.pw_mq0318_01.main.body.getD i (.Pass ⟨0, 0, 0, 0⟩)
noncomputable def bodyOf : Stmt → List Stmt | .FunctionDef _ _ b _ _ _ _ _ _ _ => b | _ => []
noncomputable def paramsOf : Stmt → Arguments | .FunctionDef _ a _ _ _ _ _ _ _ _ => a | _ => ⟨[], [], none, [], [], none, []⟩
noncomputable def scopeOf : Stmt → Scope | .FunctionDef _ _ _ _ _ _ s _ _ _ => s | _ => default

noncomputable def FnAt (c : Cx) (f : Addr) (i : Nat) (dV kV : Value) : Prop := ∃ oc od osl nm qual doc pm an cdv ct,
  c.s₁.heap.get? f = some ⟨oc, od, .func (fnOf nm qual (paramsOf (stm i)) (bodyOf (stm i)) (scopeOf (stm i)) dV kV doc pm an cdv ct), osl⟩ ∧ c.s₁.heap.CodeRec cdv qual

noncomputable def Bs (c : Cx) (H : HM) : Prop := ∀ a o, c.s₁.heap.get? a = some o → H a = some (fun x => x = o)
theorem Bs.upd {c : Cx} {H : HM} {l : Addr} {P P' : OP} (b : Bs c H) (h : H l = some P) (hl : Loose P) : Bs c (upd H l P') := fun a o e => by
  by_cases ha : a = l
  · subst ha
    have := b a o e
    rw [h] at this
    have hp : P = fun x => x = o := Option.some.inj this
    obtain ⟨o', h1, h2⟩ := hl o (by rw [hp])
    rw [hp] at h1
    exact absurd h1 h2
  · rw [upd_ne ha]; exact b a o e
theorem Bs.new {c : Cx} {H : HM} {l : Addr} {P : OP} (b : Bs c H) (h : H l = none) : Bs c (Mine.upd H l P) := fun a o e => by
  have := b a o e
  rw [upd_ne (by rintro rfl; rw [h] at this; cases this)]; exact this

noncomputable def envF (i : Nat) (qual : Str) (cdv : Value) (f L : Addr) : Env :=
  { scope := scopeOf (stm i), locals := L, globals := mainGlobals, cells := [], qual := qual ++ ".<locals>.", func := some f, code := cdv, frame := some L, builtins := builtinsNs }
noncomputable def retOf : Flow → Value | .ret v => v | _ => .none

/-- what is behind a def's end: some of the heap is told -/
noncomputable def End (c : Cx) (Q : Value → HM → Prop) (fl : Flow) (H : HM) (_ : Loc) : Prop := ∃ H', Sub H' H ∧ Bs c H' ∧ Q (retOf fl) H'

section
variable {c : Cx} {A : Around} {H : HM}
theorem w_callFn {f : Addr} {i : Nat} {dV kV : Value} {args : List Value} {binds : List (Str × Value)} {Q : Value → HM → Prop} (ok : c.Ok) (F : FnAt c f i dV kV) (hroom : A.depth < recursionLimit)
    (hbind : ∀ nm qual doc pm an cdv ct, bindArgs (fnOf nm qual (paramsOf (stm i)) (bodyOf (stm i)) (scopeOf (stm i)) dV kV doc pm an cdv ct) ⟨args, []⟩ = pure binds)
    (hloc : ∀ x ∈ binds, (scopeOf (stm i)).names.lookup x.1 = some .local)
    (hcell : ∀ x ∈ (scopeOf (stm i)).names, x.2 ≠ .cell)
    (hco : (scopeOf (stm i)).isCoroutine = false) (hgen : (scopeOf (stm i)).isGenerator = false) (hk : (scopeOf (stm i)).kind = .function)
    (h : Bs c H → ∀ qual cdv L, H L = none → WF c (A.deeper (envF i qual cdv f L)) L (execs (bodyOf (stm i)) (envF i qual cdv f L)) H (fun x => binds.reverse.lookup x) (End c Q)) :
    W c A (call (.ref f) args) H Q := by
  obtain ⟨oc, od, osl, nm, qual, doc, pm, an, cdv, ct, ho, hcd⟩ := F
  intro s I
  have hL := I.fresh
  refine wpAny_call (codeAny_call_def (fd := fnOf nm qual (paramsOf (stm i)) (bodyOf (stm i)) (scopeOf (stm i)) dV kV doc pm an cdv ct) hroom (I.keeps _ _ ho) rfl (ok.nolimit.keeps I.keeps) (hcd.keeps I.keeps) rfl
    (BindsTo.of_eq (hbind nm qual doc pm an cdv ct)) hcell hloc (fun h₁ hns hk₁ => ?_) hco hgen hk)
  refine wpAny_mono (h I.base qual cdv s.heap.objs.size hL _ (I.keep hk₁ _) hL hns) (fun fl s' hq => ?_) fun _ _ e => e.elim
  refine fx hq fun H' m' I' hL' hn' zq => ?_
  obtain ⟨H'', hsub, hb, q⟩ := zq
  cases fl <;> exact ⟨H'', I'.sub hsub hb, q⟩
end

/-- two things of S are compared by lt, as long as Dat stands -/
noncomputable def LtOK (c : Cx) (Dat : HM) (S : Value → Prop) (lt : Value → Value → Bool) : Prop :=
  ∀ (A : Around) (L : Addr) (H : HM) (m : Loc) (v w : Value) (Q : Value → HM → Loc → Prop), A.units + 50 < cLine → Sub Dat H → S v → S w → Q (.bool (lt v w)) H m → WF c A L (compareOp .Lt v w) H m Q
theorem LtOK.use {c : Cx} {Dat : HM} {S : Value → Prop} {lt : Value → Value → Bool} (h : LtOK c Dat S lt) {A : Around} {L : Addr} {H : HM} {m : Loc} {v w : Value} {Q : Value → HM → Loc → Prop}
    (hu : A.units + 50 < cLine) (hD : Sub Dat H) (hv : S v) (hw : S w) (q : Q (.bool (lt v w)) H m) : WF c A L (compareOp .Lt v w) H m Q := h A L H m v w Q hu hD hv hw q


section
variable {α β : Type} {c : Cx} {A : Around} {L : Addr} {H : HM} {m : Loc} {env : Env}

/-! ### calls -/
noncomputable def Callee (H : HM) (f : Value) : Prop := (∀ a, f ≠ .ref a) ∨ ∃ a P, f = .ref a ∧ H a = some P ∧ ∀ o, P o → ∃ fd, o.data = .func fd
theorem Callee.builtin (H : HM) (id : String) : Callee H (.builtin id) := .inl fun _ e => by cases e
theorem Callee.type (H : HM) (id : String) : Callee H (.type id) := .inl fun _ e => by cases e
theorem Callee.fn {f : Addr} {i : Nat} {dV kV : Value} (F : FnAt c f i dV kV) (hb : Bs c H) : Callee H (.ref f) := by
  obtain ⟨oc, od, osl, nm, qual, doc, pm, an, cdv, ct, ho, _⟩ := F
  exact .inr ⟨f, _, rfl, hb _ _ ho, fun o e => by subst e; exact ⟨_, rfl⟩⟩
noncomputable def CalleeAt (f : Value) (h : Heap) : Prop := (∀ a, f ≠ .ref a) ∨ ∃ a o fd, f = .ref a ∧ h.get? a = some o ∧ o.data = .func fd
theorem Callee.at {f : Value} {s : Shared} (h : Callee H f) (I : Inv c H s) : CalleeAt f s.heap := h.imp id fun ⟨a, P, e, hP, hf⟩ => by
  obtain ⟨o, ho, p⟩ := I.rep a P hP
  obtain ⟨fd, hd⟩ := hf o p
  exact ⟨a, o, fd, e, ho, hd⟩
theorem CalleeAt.looks {f : Value} {M : Model} (h : Heap) (x : CalleeAt f h) : ∃ k, (k = Keeper.frame ∨ k = Keeper.machine ∨ k = Keeper.boundFrame) ∧ Looks M h (keeperOf f) k := by
  rcases x with hn | ⟨a, o, fd, rfl, ho, hd⟩
  · refine ⟨.machine, .inr (.inl rfl), ?_⟩
    cases f <;> first | exact Looks.now | exact absurd rfl (hn _)
  · refine ⟨.frame, .inl rfl, ?_⟩
    refine (Looks.ld (part := none) ho).andThen ?_
    rw [hd]
    exact Looks.now
theorem f_argsNil {pos : Pos} {Q : List Value → HM → Loc → Prop} (h : Q [] H m) : WF c A L (spliced (backTo pos (starEach [] env))) H m Q :=
  fun _ I hL hn => Calls.spliced_nil ⟨H, m, I, hL, hn, h⟩
theorem f_argsCons {pos : Pos} {e : PySem.Expr} {rest : List PySem.Expr} {Q : List Value → HM → Loc → Prop} (h : WF c A L (eval e env) H m (fun v H₁ m₁ => WF c A L (spliced (backTo pos (starEach rest env))) H₁ m₁ (fun vs => Q (v :: vs))))
    (he : starEach (e :: rest) env = (false, eval e env) :: starEach rest env := by rfl) : WF c A L (spliced (backTo pos (starEach (e :: rest) env))) H m Q := by
  intro s I hL hn
  rw [he]
  exact Calls.spliced_cons (wpAny_mono (h s I hL hn) (fun _ s₁ zx => fx zx fun _ _ I₁ hL₁ hn₁ q => q s₁ I₁ hL₁ hn₁) fun _ _ e => e)
theorem f_callWithG {pos : Pos} {f : Value} {first : List Value} {e : PySem.Expr} {rest : List PySem.Expr} {Q : Value → HM → Loc → Prop}
    (h : WF c A L (spliced (backTo pos (starEach (e :: rest) env))) H m (fun vs H₂ m₂ => Callee H₂ f ∧ WF c A L (call f (first ++ vs)) H₂ m₂ Q))
    (he : starEach (e :: rest) env = (false, eval e env) :: starEach rest env := by rfl) (hp : (backTo pos (starEach rest env)).any (·.1) = false := by rfl) :
    WF c A L (callWith pos f first (backTo pos (starEach (e :: rest) env)) (backToKw pos (keywordEach [] env))) H m Q := by
  intro s I hL hn
  have h' := h s I hL hn
  rw [he] at h' ⊢
  refine callWith_of (P := CalleeAt f) (by show ((false || (backTo pos (starEach rest env)).any (·.1)) || false) = false; rw [hp]; rfl) CalleeAt.looks (Calls.evalArgs_plain (wpAny_mono h' (fun vs s₂ z => ?_) fun _ _ e => e))
  refine fx z fun H₂ m₂ I₂ hL₂ hn₂ zq => ?_
  obtain ⟨hc, q⟩ := zq
  exact ⟨hc.at I₂, q s₂ I₂ hL₂ hn₂⟩
theorem f_callWith {pos : Pos} {f : Value} {e : PySem.Expr} {rest : List PySem.Expr} {Q : Value → HM → Loc → Prop}
    (h : WF c A L (spliced (backTo pos (starEach (e :: rest) env))) H m (fun vs H₂ m₂ => Callee H₂ f ∧ WF c A L (call f vs) H₂ m₂ Q))
    (he : starEach (e :: rest) env = (false, eval e env) :: starEach rest env := by rfl) (hp : (backTo pos (starEach rest env)).any (·.1) = false := by rfl) :
    WF c A L (callWith pos f [] (backTo pos (starEach (e :: rest) env)) (backToKw pos (keywordEach [] env))) H m Q := f_callWithG h he hp
theorem f_callWithM {pos : Pos} {f self : Value} {e : PySem.Expr} {rest : List PySem.Expr} {Q : Value → HM → Loc → Prop}
    (h : WF c A L (spliced (backTo pos (starEach (e :: rest) env))) H m (fun vs H₂ m₂ => Callee H₂ f ∧ WF c A L (call f (self :: vs)) H₂ m₂ Q))
    (he : starEach (e :: rest) env = (false, eval e env) :: starEach rest env := by rfl) (hp : (backTo pos (starEach rest env)).any (·.1) = false := by rfl) :
    WF c A L (callWith pos f [self] (backTo pos (starEach (e :: rest) env)) (backToKw pos (keywordEach [] env))) H m Q := f_callWithG h he hp
theorem f_callWith0 {pos : Pos} {f : Value} {first : List Value} {Q : Value → HM → Loc → Prop} (hc : Callee H f) (h : WF c A L (call f first) H m Q) :
    WF c A L (callWith pos f first (backTo pos (starEach [] env)) (backToKw pos (keywordEach [] env))) H m Q := by
  intro s I hL hn
  refine callWith_of (P := CalleeAt f) rfl CalleeAt.looks (evalArgs_nil3 ⟨hc.at I, ?_⟩)
  rw [List.append_nil]
  exact h s I hL hn
theorem f_Call {x : Str} {np pos : Pos} {args : List PySem.Expr} {kws : List Keyword} {Q : Value → HM → Loc → Prop}
    (h : WF c A L (eval (.Name x np) env) H m (fun f H₁ m₁ => WF c A L (callWith pos f [] (backTo pos (starEach args env)) (backToKw pos (keywordEach kws env))) H₁ m₁ Q)) : WF c A L (eval (.Call (.Name x np) args kws pos) env) H m Q := by
  intro s I hL hn
  show wpAny _ _ (eval (.Name x np) env >>= fun f => callWith pos f [] (backTo pos (starEach args env)) (backToKw pos (keywordEach kws env))) _ _ s
  exact wpAny_bind (wpAny_mono (h s I hL hn) (fun _ s₁ zx => fx zx fun _ _ I₁ hL₁ hn₁ q => q s₁ I₁ hL₁ hn₁) fun _ _ e => e)
/-- the heap's standing part is known wherever a tree is asked -/
theorem f_bs {t : Sem α} {Q : α → HM → Loc → Prop} (h : Bs c H → H L = none → WF c A L t H m Q) : WF c A L t H m Q := fun s I hL hn => h I.base hL s I hL hn

theorem f_len {l : Addr} {xs : List Value} {Q : Value → HM → Loc → Prop} (hl : H l = some (lst xs)) (hz : xs.length < 1000) (h : ∀ t, Q (.int (xs.length : Nat) t) H m) : WF c A L (call (.builtin "len") [.ref l]) H m Q :=
  fun s I hL hn => Calls.call_len_list (I.isList hl) (by simp; omega) ⟨H, m, I.toks _, hL, hn, by simpa using h _⟩
theorem f_mulN {a b : Nat} {t u : Tok} {Q : Value → HM → Loc → Prop} (h : ∀ t, Q (.int ((a * b : Nat) : Int) t) H m) (hb : a < 1000) : WF c A L (binaryOp .Mult (.int (a : Nat) t) (.int (b : Nat) u)) H m Q :=
  f_mul (IntMulOk.of_left (intBits_le_64 (by omega) (by omega))) (by simpa using h)

/-! ### the names of the text -/
noncomputable def Gf (c : Cx) (x : Str) (i : Nat) : Prop := ∃ f, c.mg x = some (.ref f) ∧ FnAt c f i .none .none
noncomputable def Gb (c : Cx) (x : Str) (v : Value) : Prop := c.mg x = none ∧ c.mb x = some v
structure GF (c : Cx) : Prop where
  ok : c.Ok
  siftdown : Gf c "_siftdown" 6
  siftup : Gf c "_siftup" 7
  siftdown_max : Gf c "_siftdown_max" 8
  siftup_max : Gf c "_siftup_max" 9
  heappop : Gf c "heappop" 1
  heapreplace : Gf c "heapreplace" 2
  heapify : Gf c "heapify" 3
  heapreplace_max : Gf c "_heapreplace_max" 4
  heapify_max : Gf c "_heapify_max" 5
  dedup : Gf c "_deduplicate_unhashable" 14
  orderless : Gf c "_compare_args_orderless" 15
  lsorted : Gf c "_law_sorted" 17
  lrefused : Gf c "_law_refused" 18
  lvery : Gf c "_law_very" 19
  len : Gb c "len" (.builtin "len")
  reversed : Gb c "reversed" (.type "reversed")
  range : Gb c "range" (.type "range")
  iter : Gb c "iter" (.builtin "iter")
  object : Gb c "object" (.type "object")
  min : Gb c "min" (.builtin "min")
  max : Gb c "max" (.builtin "max")
  sorted : Gb c "sorted" (.builtin "sorted")
  zip : Gb c "zip" (.type "zip")
  list : Gb c "list" (.type "list")
  dict : Gb c "dict" (.type "dict")
  typeError : Gb c "TypeError" (.type "TypeError")
  attributeError : Gb c "AttributeError" (.type "AttributeError")
  valueError : Gb c "ValueError" (.type "ValueError")
end
end
section

/-- an address that is not the start's -/
noncomputable def Own (c : Cx) (a : Addr) : Prop := c.s₁.heap.get? a = none
theorem Bs.own {c : Cx} {H : HM} {a : Addr} (b : Bs c H) (h : H a = none) : Own c a := by
  show c.s₁.heap.get? a = none
  cases e : c.s₁.heap.get? a with
  | none => rfl
  | some o => have := b a o e; rw [h] at this; cases this
theorem Bs.updO {c : Cx} {H : HM} {l : Addr} {P' : OP} (b : Bs c H) (h : Own c l) : Bs c (Mine.upd H l P') := fun a o e => by
  rw [upd_ne (by rintro rfl; rw [show c.s₁.heap.get? a = none from h] at e; cases e)]; exact b a o e
theorem Bs.delO {c : Cx} {H : HM} {l : Addr} (b : Bs c H) (h : Own c l) : Bs c (del H l) := fun a o e => by
  unfold del
  rw [if_neg (by rintro rfl; rw [show c.s₁.heap.get? a = none from h] at e; cases e)]; exact b a o e
theorem Bs.sub_of {c : Cx} {H H' : HM} (b : Bs c H) (h : Sub H H') : Bs c H' := fun a o e => h _ _ (b a o e)
theorem Inv.turnO {c : Cx} {H : HM} {s : Shared} {a : Addr} {P' : OP} {o : Obj} {h' : Heap} (I : Inv c H s) (hn : Own c a) (hs : Heap.ExtBut a s.heap h') (ho : h'.get? a = some o) (hp : P' o) (t : Nat) :
    Inv c (upd H a P') { s with heap := h', toks := t } := by
  refine ⟨fun b P'' e => ?_, Bs.updO I.base hn, by rw [I.fit]⟩
  by_cases hb : b = a
  · subst hb; rw [upd_same] at e; cases e; exact ⟨o, ho, hp⟩
  · rw [upd_ne hb] at e
    obtain ⟨o', h1, h2⟩ := I.rep b P'' e
    exact ⟨o', hs b o' hb h1, h2⟩
theorem Inv.lost {c : Cx} {H : HM} {s : Shared} {a : Addr} {h' : Heap} (I : Inv c H s) (hn : Own c a) (hs : Heap.ExtBut a s.heap h') (t : Nat) : Inv c (del H a) { s with heap := h', toks := t } := by
  refine ⟨fun b P'' e => ?_, Bs.delO I.base hn, by rw [I.fit]⟩
  unfold del at e
  by_cases hb : b = a
  · rw [if_pos hb] at e; cases e
  · rw [if_neg hb] at e
    obtain ⟨o', h1, h2⟩ := I.rep b P'' e
    exact ⟨o', hs b o' hb h1, h2⟩
theorem del_ne {H : HM} {a b : Addr} (h : b ≠ a) : del H a b = H b := if_neg h
theorem del_sub {H H' : HM} {a : Addr} (h : Sub H' H) (hn : H' a = none) : Sub H' (del H a) := fun b P e => by
  rw [del_ne (by rintro rfl; rw [hn] at e; cases e)]; exact h b P e

/-! iterators, ranges -/
noncomputable def lit (l : Addr) (i : Nat) : OP := fun o => o.cls = .type "list_iterator" ∧ o.data = .fields #[.ref l, .int i 0]
noncomputable def rng (a b s : Int) : OP := fun o => ∃ t u v, o = { cls := .type "range", dict := none, data := .fields #[.int a t, .int b u, .int s v], slots := #[] }
noncomputable def rit (x left step : Int) : OP := fun o => o = { cls := .type "range_iterator", dict := none, data := .fields #[rawInt x, rawInt left, rawInt step], slots := #[] }

section
variable {α β : Type} {c : Cx} {A : Around} {L : Addr} {H : HM} {m : Loc} {env : Env}

theorem f_weak {t : Sem α} {H' : HM} {Q : α → HM → Loc → Prop} (hs : Sub H' H) (hb : Bs c H') (h : WF c A L t H' m Q) : WF c A L t H m Q := fun s I hL hn => by
  refine h s (I.sub hs hb) ?_ hn
  cases e : H' L with
  | none => rfl
  | some P => have := hs _ _ e; rw [hL] at this; cases this
theorem Inv.own {c : Cx} {H : HM} {s : Shared} (I : Inv c H s) : Own c s.heap.objs.size := Bs.own I.base I.fresh
/-- a new object, in a frame -/
theorem new_frame {s : Shared} {P : OP} {o : Obj} {h' : Heap} {t : Nat} (I : Inv c H s) (hL : H L = none) (hn : s.heap.Ns L m) (e : h' = s.heap.push o) (hf : o.isFreed = false) (hp : P o) :
    Inv c (upd H s.heap.objs.size P) { s with heap := h', toks := t } ∧ upd H s.heap.objs.size P L = none ∧ h'.Ns L m ∧ H s.heap.objs.size = none ∧ Own c s.heap.objs.size ∧ s.heap.objs.size ≠ L := by
  subst e
  have hne : s.heap.objs.size ≠ L := fun e => Nat.lt_irrefl _ (e ▸ hn.lt)
  exact ⟨I.push hf hp t, by rw [upd_ne (Ne.symm hne)]; exact hL, hn.push o, I.fresh, I.own, hne⟩
theorem f_iterL {l : Addr} {xs : List Value} {Q : Value → HM → Loc → Prop} (hl : H l = some (lst xs)) (h : ∀ a, H a = none → Own c a → a ≠ L → Q (.ref a) (upd H a (lit l 0)) m) : WF c A L (pyIter (.ref l)) H m Q := fun s I hL hn => by
  obtain ⟨I', hL', hn', hf, ho, hne⟩ := new_frame (P := lit l 0) (t := s.toks) I hL hn rfl (o := { cls := .type "list_iterator", data := .fields #[.ref l, .int 0 0] }) rfl ⟨rfl, rfl⟩
  exact wpAny_pyIter_list (I.isList hl) ⟨_, m, I', hL', hn', h _ hf ho hne⟩
theorem f_iterLit {l it : Addr} {i : Nat} {Q : Value → HM → Loc → Prop} (hl : H it = some (lit l i)) (h : Q (.ref it) H m) : WF c A L (pyIter (.ref it)) H m Q := fun s I hL hn =>
  wpAny_pyIter_listiter (I.rep _ _ hl) ⟨H, m, I, hL, hn, h⟩
theorem f_nextL {l it : Addr} {xs : List Value} {i : Nat} {x : Value} {Q : Option Value → HM → Loc → Prop} (hit : H it = some (lit l i)) (ho : Own c it) (hl : H l = some (lst xs)) (hx : xs[i]? = some x) (h : Q (some x) (upd H it (lit l (i + 1))) m) :
    WF c A L (pyNext (.ref it)) H m Q := fun s I hL hn => by
  have hne : it ≠ L := by rintro rfl; rw [hL] at hit; cases hit
  refine wpAny_pyNext_list_item (I.rep _ _ hit) (I.isList hl) (by simpa using hx) fun h' hi hs => ?_
  obtain ⟨o, hoo, hd⟩ := hi
  exact ⟨_, m, I.turnO ho hs.extBut hoo hd s.toks, by rw [upd_ne (Ne.symm hne)]; exact hL, hn.sameBut hs (Ne.symm hne), h⟩
theorem ns_extBut {h h' : Heap} {a : Addr} (hn : h.Ns L m) (hs : Heap.ExtBut a h h') (hne : L ≠ a) : h'.Ns L m := let ⟨o, es, ep, ho, r⟩ := hn; ⟨o, es, ep, hs _ _ hne ho, r⟩
theorem f_nextL0 {l it : Addr} {xs : List Value} {i : Nat} {Q : Option Value → HM → Loc → Prop} (hh : A.handled = none) (hit : H it = some (lit l i)) (ho : Own c it) (hl : H l = some (lst xs)) (hx : xs.length ≤ i) (h : Q none (del H it) m) :
    WF c A L (pyNext (.ref it)) H m Q := fun s I hL hn => by
  have hne : it ≠ L := by rintro rfl; rw [hL] at hit; cases hit
  exact wpAny_pyNext_list_end hh (I.rep _ _ hit) (I.isList hl) (by simpa using hx) fun h' hs => ⟨_, m, I.lost ho hs s.toks, by rw [del_ne (Ne.symm hne)]; exact hL, ns_extBut hn hs (Ne.symm hne), h⟩
theorem f_range1 {n : Int} {t : Tok} {Q : Value → HM → Loc → Prop} (h : ∀ a, H a = none → Own c a → a ≠ L → Q (.ref a) (upd H a (rng 0 n 1)) m) : WF c A L (call (.type "range") [.int n t]) H m Q := fun s I hL hn => by
  obtain ⟨I', hL', hn', hf, ho, hne⟩ := new_frame (P := rng 0 n 1) (t := s.toks + 1 + 1) I hL hn rfl (o := { cls := .type "range", data := .fields #[.int 0 s.toks, .int n t, .int 1 (s.toks + 1)] }) rfl ⟨_, _, _, rfl⟩
  exact call_range_1 ⟨_, m, I', hL', hn', h _ hf ho hne⟩
theorem f_range2 {a b : Int} {t u : Tok} {Q : Value → HM → Loc → Prop} (h : ∀ r, H r = none → Own c r → r ≠ L → Q (.ref r) (upd H r (rng a b 1)) m) : WF c A L (call (.type "range") [.int a t, .int b u]) H m Q := fun s I hL hn => by
  obtain ⟨I', hL', hn', hf, ho, hne⟩ := new_frame (P := rng a b 1) (t := s.toks + 1) I hL hn rfl (o := { cls := .type "range", data := .fields #[.int a t, .int b u, .int 1 s.toks] }) rfl ⟨_, _, _, rfl⟩
  exact call_range_2 ⟨_, m, I', hL', hn', h _ hf ho hne⟩
theorem f_iterR {r : Addr} {a b : Int} {Q : Value → HM → Loc → Prop} (hr : H r = some (rng a b 1)) (ha : 0 ≤ a) (hb : b < 1000) (hab : a ≤ b) (h : ∀ it, H it = none → Own c it → it ≠ L → Q (.ref it) (upd H it (rit a (b - a) 1)) m) : WF c A L (pyIter (.ref r)) H m Q := fun s I hL hn => by
  obtain ⟨o, ho, t, u, v, rfl⟩ := I.rep _ _ hr
  have hsz : Builtin.Range.rangeSize a b 1 = b - a := by rw [rangeSize_one]; split <;> omega
  obtain ⟨I', hL', hn', hf, hown, hne⟩ := new_frame (P := rit a (b - a) 1) (t := s.toks) I hL hn rfl (o := { cls := .type "range_iterator", data := .fields #[rawInt a, rawInt (Builtin.Range.rangeSize a b 1), rawInt 1] }) rfl (by rw [hsz]; rfl)
  exact wpAny_pyIter_range ho (small_one (by omega) (by omega) (by omega) (by omega)) ⟨_, m, I', hL', hn', h _ hf hown hne⟩
theorem f_nextR {it : Addr} {x left step : Int} {Q : Option Value → HM → Loc → Prop} (hit : H it = some (rit x left step)) (ho : Own c it) (hl : 0 < left) (h : ∀ t, Q (some (.int x t)) (upd H it (rit (x + step) (left - 1) step)) m) :
    WF c A L (pyNext (.ref it)) H m Q := fun s I hL hn => by
  have hne : it ≠ L := by rintro rfl; rw [hL] at hit; cases hit
  obtain ⟨o, hoo, rfl⟩ := I.rep _ _ hit
  exact wpAny_pyNext_range_item hoo hl fun h' hi hs => ⟨_, m, I.turnO (P' := rit (x + step) (left - 1) step) ho hs.extBut hi rfl _, by rw [upd_ne (Ne.symm hne)]; exact hL, hn.sameBut hs (Ne.symm hne), h _⟩
theorem f_nextR0 {it : Addr} {x left step : Int} {Q : Option Value → HM → Loc → Prop} (hh : A.handled = none) (hit : H it = some (rit x left step)) (ho : Own c it) (hl : left ≤ 0) (h : Q none (del H it) m) :
    WF c A L (pyNext (.ref it)) H m Q := fun s I hL hn => by
  have hne : it ≠ L := by rintro rfl; rw [hL] at hit; cases hit
  obtain ⟨o, hoo, rfl⟩ := I.rep _ _ hit
  exact wpAny_pyNext_range_end hh hoo hl fun h' hs => ⟨_, m, I.lost ho hs s.toks, by rw [del_ne (Ne.symm hne)]; exact hL, ns_extBut hn hs (Ne.symm hne), h⟩

theorem f_get0 {l : Addr} {xs : List Value} {t : Tok} {value slice : PySem.Expr} {Q : Value → HM → Loc → Prop} (hl : H l = some (lst xs)) (hk : 0 < xs.length) (h : Q (xs.getD 0 .none) H m)
    (hs : subscripted slice false (.ref l) (.int 0 t) = operate [.ref l, .int 0 t] (getItem (.ref l) (.int 0 t)) := by with_unfolding_all rfl) : WF c A L (subscriptTail value slice (.ref l) (.int 0 t)) H m Q :=
  f_getItem hl (by omega) (by simp [hk]) (by omega) h hs
theorem f_set0 {l : Addr} {xs : List Value} {t : Tok} {v : Value} {Q : Unit → HM → Loc → Prop} (hl : H l = some (lst xs)) (hk : 0 < xs.length) (h : Q () (upd H l (lst (xs.set 0 v))) m) :
    WF c A L (setItem (.ref l) (.int 0 t) v) H m Q := f_setItem hl (by omega) (by omega) (by omega) h

/-! methods -/
theorem f_Method {o : PySem.Expr} {name : Str} {apos pos : Pos} {args : List PySem.Expr} {kws : List Keyword} {pl : Sem Bool} {Q : Value → HM → Loc → Prop}
    (h : WF c A L (eval o env) H m (fun ov H₁ m₁ => WF c A L (getMethod ov name pl) H₁ m₁ (fun fx H₂ m₂ => WF c A L (callWith pos fx.1 fx.2 (backTo pos (starEach args env)) (backToKw pos (keywordEach kws env))) H₂ m₂ Q)))
    (he : eval (.Call (.Attribute o name apos) args kws pos) env = (do
      let ov ← eval o env
      standAt apos.atName
      let (f, first) ← holding [ov] (getMethod ov name pl)
      callWith pos f first (backTo pos (starEach args env)) (backToKw pos (keywordEach kws env))) := by rfl) : WF c A L (eval (.Call (.Attribute o name apos) args kws pos) env) H m Q :=
  fun s I hL hn => methodCall_KW (wpAny_mono (h s I hL hn) (fun _ s₁ zx => fx zx fun _ _ I₁ hL₁ hn₁ q => wpAny_mono (q s₁ I₁ hL₁ hn₁) (fun _ s₂ zx => fx zx fun _ _ I₂ hL₂ hn₂ q => q s₂ I₂ hL₂ hn₂) fun _ _ e => e) fun _ _ e => e) he
theorem f_methL {name : Str} {id : String} {pl : Sem Bool} {l : Addr} {xs : List Value} {Q : Value × List Value → HM → Loc → Prop} (slot : Slot "list" name id) (hty : typeOf (.builtin id) = pure (.type "method_descriptor")) (hl : H l = some (lst xs))
    (h : Q (.builtin id, [.ref l]) H m) : WF c A L (getMethod (.ref l) name pl) H m Q := fun s I hL hn => by
  obtain ⟨n, ho⟩ := I.lst hl
  exact getMethod_list_of slot hty (I.isList hl) ⟨_, ho, rfl⟩ ⟨H, m, I, hL, hn, h⟩
/-- a list of the call's own is turned -/
theorem lst_turn {s : Shared} {l : Addr} {xs ys : List Value} {n : Nat} {f : Array Value → Array Value} (I : Inv c H s) (hl : H l = some (lst xs)) (hL : H L = none) (hn : s.heap.Ns L m) (ho : IsL s.heap l xs.toArray n) (hf : f xs.toArray = ys.toArray) (t : Nat) :
    Inv c (upd H l (lst ys)) { s with heap := s.heap.update l (Obj.mapSeq f), toks := t } ∧ upd H l (lst ys) L = none ∧ (s.heap.update l (Obj.mapSeq f)).Ns L m := by
  have hne : l ≠ L := by rintro rfl; rw [hL] at hl; cases hl
  exact ⟨I.turn hl (lst_loose _) (Heap.SameBut.update ..).extBut (IsL.update ho f) ⟨_, by rw [hf]⟩ t, by rw [upd_ne (Ne.symm hne)]; exact hL, hn.sameBut (Heap.SameBut.update ..) (Ne.symm hne)⟩
theorem f_pop {l : Addr} {xs : List Value} {y : Value} {Q : Value → HM → Loc → Prop} (hl : H l = some (lst (xs ++ [y]))) (hz : xs.length < 1000) (h : Q y (upd H l (lst xs)) m) : WF c A L (call (.builtin "list.pop") [.ref l]) H m Q := fun s I hL hn => by
  obtain ⟨n, ho⟩ := I.lst hl
  obtain ⟨I', hL', hn'⟩ := lst_turn (ys := xs) (f := fun a => a.eraseIdxIfInBounds ((xs ++ [y]).toArray.size - 1)) I hl hL hn ho (by
    apply Array.toList_inj.mp
    simp [Array.eraseIdxIfInBounds]
    rw [List.eraseIdx_append_of_length_le (Nat.le_refl _)]; simp) s.toks
  exact call_meets F.slot_list_pop (I.isList hl).typeIs F.entry_list_pop (F.args_list_pop_1 _) (MeetsSeq.list_pop_last l _ n y (by simp) (by simp [sizeLine]; omega)) ⟨ho, _, m, I', hL', hn', h⟩
theorem f_append {l : Addr} {xs : List Value} {y : Value} {Q : Value → HM → Loc → Prop} (hl : H l = some (lst xs)) (hz : xs.length < 1000) (h : Q .none (upd H l (lst (xs ++ [y]))) m) : WF c A L (call (.builtin "list.append") [.ref l, y]) H m Q := fun s I hL hn => by
  obtain ⟨n, ho⟩ := I.lst hl
  obtain ⟨I', hL', hn'⟩ := lst_turn (ys := xs ++ [y]) (f := fun a => a.push y) I hl hL hn ho (by simp) s.toks
  exact call_meets F.slot_list_append (I.isList hl).typeIs F.entry_list_append (F.args_list_append_2 _ _) (list_append l _ n y (by simp [sizeLine]; omega)) ⟨ho, _, m, I', hL', hn', h⟩
theorem f_truthyL {l : Addr} {xs : List Value} {Q : Bool → HM → Loc → Prop} (hl : H l = some (lst xs)) (hz : xs.length < 1000) (h : Q (!xs.isEmpty) H m) : WF c A L (truthy (.ref l)) H m Q := fun s I hL hn =>
  wpAny_truthy_list (I.isList hl) (by simp; omega) ⟨H, m, I.toks _, hL, hn, by
    have : xs.toArray.isEmpty = xs.isEmpty := by cases xs <;> rfl
    rw [this]; exact h⟩
end
end
section
section
variable {prog : Program} {w : World} {A : Around} {E : Value → Shared → Prop} {s : Shared}
theorem sub_ri_reversed : isSubtype (.type "range_iterator") (.type "reversed") = pure false := by rw [isSubtype_type]; kernel_rfl
theorem call_range_rev {r : Addr} {n : Int} {t u v : Tok} {Q : Value → Shared → Prop} (hr : IsRange s.heap r 0 n 1 t u v) (h0 : 0 ≤ n) (hn : n < 1000)
    (h : Q (.ref s.heap.objs.size) { s with heap := s.heap.push { cls := .type "range_iterator", data := .fields #[rawInt (n - 1), rawInt n, rawInt (-1)] } }) :
    wpAny (model prog w) A (call (.builtin "range.__reversed__") [.ref r]) Q E s := by
  have hT : s.TypeIs (.ref r) "range" := ⟨_, hr, rfl⟩
  have hsz : Builtin.Range.rangeSize 0 n 1 = n := by rw [rangeSize_one]; split <;> omega
  refine wpAny_call_entry F.slot_range_reversed hT F.entry_range_reversed ?_ (F.args_range_reversed_1 _)
  unfold Builtin.«range.__reversed__»
  refine wpAny_bind (wpAny_of_eq (a := Value.ref r) rfl ?_)
  refine wpAny_bind (m := Builtin.Range.rangeFields (.ref r)) (?_ : wpAny _ _ _ (fun x s' => wpAny _ _ _ _ _ s') _ s)
  unfold Builtin.Range.rangeFields
  refine wpAny_bind (wpAny_field hr rfl (x := .int 0 t) rfl (wpAny_bind (wpAny_of_eq (a := some 0) rfl ?_)))
  refine wpAny_bind (wpAny_field hr rfl (x := .int n u) rfl (wpAny_bind (wpAny_of_eq (a := some n) rfl ?_)))
  refine wpAny_bind (wpAny_field hr rfl (x := .int 1 v) rfl (wpAny_bind (wpAny_of_eq (a := some 1) rfl ?_)))
  refine wpAny_pure ?_
  dsimp only
  rw [hsz]
  have hsm : (Builtin.Range.rangeFitsLong 0 && Builtin.Range.rangeFitsLong n && Builtin.Range.rangeFitsLong 1 && Builtin.Range.rangeFitsLong (-1) && Builtin.Range.rangeFitsLong (0 - 1) && Builtin.Range.rangeFitsLong n) = true := by
    simp only [Builtin.Range.rangeFitsLong, Bool.and_eq_true, decide_eq_true_eq]; omega
  rw [hsm]
  simp only [Bool.not_true, Bool.false_eq_true, if_false, if_true]
  rw [show (0 + (n - 1) * 1) = n - 1 by omega]
  first
  | exact wpAny_bind (wpAny_newObj_type (wpAny_pure ⟨_, rfl, h⟩))
  | exact wpAny_bind (wpAny_pure (wpAny_bind (wpAny_newObj_type (wpAny_pure ⟨_, rfl, h⟩))))

theorem code_rev_new {r : Addr} {n : Int} {t u v : Tok} {Q : Value → Shared → Prop} (hr : IsRange s.heap r 0 n 1 t u v) (h0 : 0 ≤ n) (hn : n < 1000)
    (h : Q (.ref s.heap.objs.size) { s with heap := s.heap.push { cls := .type "range_iterator", data := .fields #[rawInt (n - 1), rawInt n, rawInt (-1)] } }) :
    codeAny (model prog w) A (.call (.builtin "reversed.__new__") ⟨[.type "reversed", .ref r], []⟩) (wants Q E) s := by
  have hT : s.TypeIs (.ref r) "range" := ⟨_, hr, rfl⟩
  refine codeAny_of_tree ?_
  show wpAny _ A.in1 (do checkBuiltinCall "reversed.__new__" ⟨[.type "reversed", .ref r], []⟩; again (.builtin "reversed.__new__" ⟨[.type "reversed", .ref r], []⟩)) _ _ s
  refine wpAny_bind (wpAny_of_eq (F.newCall_reversed_1 _) (wpAny_pure ⟨plainId_quiet F.plain_reversed_new _, codeAny_builtin F.entry_reversed_new ?_⟩))
  rw [Around.under_plainId F.plain_reversed_new _]
  unfold Builtin.«reversed.__new__»
  refine wpAny_bind (wpAny_of_eq (newClass_reversed _) ?_)
  try dsimp only
  refine wpAny_bind (wpAny_of_eq (a := ()) (by first | rfl | kernel_rfl) ?_)
  refine wpAny_bind (wpAny_of_eq (a := ()) (by first | rfl | kernel_rfl) ?_)
  try dsimp only
  refine wpAny_bind (wpAny_specialOf hT F.slot_range_reversed.lookup ?_)
  try dsimp only
  refine wpAny_bind (wpAny_of_eq (F.slot_range_reversed.bind _) ?_)
  try dsimp only
  rw [if_neg (show ¬ ((Value.builtin "range.__reversed__" == Value.none) = true) from Bool.false_ne_true)]
  refine wpAny_bind (wpAny_rule ?_)
  refine wpAny_bind (m := runValue (.call (.builtin "range.__reversed__") ⟨[.ref r], []⟩)) (show wpAny _ _ (call (.builtin "range.__reversed__") [.ref r]) _ _ _ from call_range_rev hr h0 hn ?_)
  first
  | exact wpAny_pure h
  | exact wpAny_bind (wpAny_pure (wpAny_pure h))
theorem call_reversed_range {r : Addr} {n : Int} {t u v : Tok} {Q : Value → Shared → Prop} (hr : IsRange s.heap r 0 n 1 t u v) (h0 : 0 ≤ n) (hn : n < 1000)
    (h : Q (.ref s.heap.objs.size) { s with heap := s.heap.push { cls := .type "range_iterator", data := .fields #[rawInt (n - 1), rawInt n, rawInt (-1)] } }) :
    wpAny (model prog w) A (call (.type "reversed") [.ref r]) Q E s := by
  refine callType_other (U := "range_iterator") (Q₁ := fun obj s₁ => obj = .ref s.heap.objs.size ∧ s₁ = { s with heap := s.heap.push { cls := .type "range_iterator", data := .fields #[rawInt (n - 1), rawInt n, rawInt (-1)] } }) (by decide +kernel) F.create_reversed
    ⟨_, _, F.mro_reversed⟩ F.made_reversed sub_ri_reversed (F.typeCall_reversed_1 _) (code_rev_new hr h0 hn ⟨rfl, rfl⟩) ?_
  rintro obj s₁ ⟨rfl, rfl⟩
  exact ⟨⟨_, Heap.get?_push_size _ rfl, rfl⟩, h⟩
end
section
variable {α β : Type} {c : Cx} {A : Around} {L : Addr} {H : HM} {m : Loc} {env : Env}
theorem f_reversed {r : Addr} {n : Int} {Q : Value → HM → Loc → Prop} (hr : H r = some (rng 0 n 1)) (h0 : 0 ≤ n) (hn : n < 1000) (h : ∀ it, H it = none → Own c it → it ≠ L → Q (.ref it) (upd H it (rit (n - 1) n (-1))) m) :
    WF c A L (call (.type "reversed") [.ref r]) H m Q := fun s I hL hn' => by
  obtain ⟨o, ho, t, u, v, rfl⟩ := I.rep _ _ hr
  obtain ⟨I', hL', hn'', hf, hown, hne⟩ := new_frame (P := rit (n - 1) n (-1)) (t := s.toks) I hL hn' rfl (o := { cls := .type "range_iterator", data := .fields #[rawInt (n - 1), rawInt n, rawInt (-1)] }) rfl rfl
  exact call_reversed_range ho h0 hn ⟨_, m, I', hL', hn'', h _ hf hown hne⟩
theorem f_iterRit {it : Addr} {x left step : Int} {Q : Value → HM → Loc → Prop} (hr : H it = some (rit x left step)) (h : Q (.ref it) H m) : WF c A L (pyIter (.ref it)) H m Q := fun s I hL hn => by
  obtain ⟨o, ho, rfl⟩ := I.rep _ _ hr
  exact wpAny_pyIter_rangeiter ho ⟨H, m, I, hL, hn, h⟩
/-- a for loop whose turns may make things that are let go -/
theorem forW_of {target it body orelse} {Q : Flow → HM → Loc → Prop} (J : Nat → HM → Loc → Prop) (n : Nat) (h : J n H m)
    (turn : ∀ n H m, J n H m → WF c A L (pyNext it) H m (fun r H₁ m₁ => match r with
      | none => WF c A L (execs orelse env) H₁ m₁ Q
      | some v => WF c A L (assign target env v) H₁ m₁ (fun _ H₂ m₂ => WF c A L (execs body env) H₂ m₂ (fun f H₃ m₃ => match f with
        | .next | .cont => ∃ k H', k < n ∧ Sub H' H₃ ∧ Bs c H' ∧ J k H' m₃ | .brk => Q .next H₃ m₃ | .ret v => Q (.ret v) H₃ m₃)))) : ForW c A L target it body orelse env H m Q := by
  refine ⟨fun n H m => ∃ H', Sub H' H ∧ (Bs c H → Bs c H') ∧ J n H' m, n, ⟨H, Sub.refl _, id, h⟩, fun n H m hJ => ?_⟩
  obtain ⟨H', hs, hb, hj⟩ := hJ
  intro s I
  refine f_weak hs (hb I.base) ?_ s I
  refine f_mono (turn n H' m hj) fun r H₁ m₁ z => ?_
  cases r with
  | none => exact z
  | some v =>
    refine f_mono z fun _ H₂ m₂ z => f_mono z fun f H₃ m₃ z => ?_
    cases f with
    | next => obtain ⟨k, H', hk, hs, hb, hj⟩ := z; exact ⟨k, hk, H', hs, fun _ => hb, hj⟩
    | cont => obtain ⟨k, H', hk, hs, hb, hj⟩ := z; exact ⟨k, hk, H', hs, fun _ => hb, hj⟩
    | brk => exact z
    | ret v => exact z
end
end
section
open PySem.SeqAt
open AutoSeq1 (wpAny_loadPart')
noncomputable def RcOp (op : CmpOp) (A : Around) (s : Shared) (y x : Value) (b : Bool) : Prop :=
  ∀ (prog : Program) (w : World) (E : Value → Shared → Prop) (Q : Value → Shared → Prop), Q (.bool b) s → wpAny (model prog w) A (richCompare op y x) Q E s
theorem RcOp.use {op : CmpOp} {A : Around} {s : Shared} {y x : Value} {b : Bool} {prog : Program} {w : World} {E : Value → Shared → Prop} {Q : Value → Shared → Prop} (h : RcOp op A s y x b) (q : Q (.bool b) s) : wpAny (model prog w) A (richCompare op y x) Q E s := h prog w E Q q
noncomputable def lex (e f : Nat → Bool) (fin : Bool) : Nat → Nat → Bool
  | 0, _ => fin
  | k + 1, i => if e i = true then lex e f fin k (i + 1) else f i
theorem RcOp.lt_int (A : Around) (s : Shared) (a b : Int) (t u : Tok) : RcOp .Lt A s (.int a t) (.int b u) (decide (a < b)) := fun prog w E Q h => PyProof.Rows.lt_int h
theorem RcOp.le_int (A : Around) (s : Shared) (a b : Int) (t u : Tok) : RcOp .LtE A s (.int a t) (.int b u) (decide (a ≤ b)) := fun prog w E Q h => PyProof.Rows.le_int h

theorem ltL_loop (l b : Addr) (items items2 : Array Value) (n n2 : Nat) (dd dd2 : Option Addr) (sl sl2 : Array (Option Value)) (hsz : items.size = items2.size) (e f : Nat → Bool) (k : Nat) :
    ∀ i : Nat, items.size - i = k → Meets (Builtin.«list.__eq__.loop» ⟨[.ref l, .ref b, rawInt i, rawInt 0], []⟩)
      (fun A R s => s.heap.get? l = some { cls := .type "list", dict := dd, data := .seq items n, slots := sl } ∧ s.heap.get? b = some { cls := .type "list", dict := dd2, data := .seq items2 n2, slots := sl2 } ∧
        (∀ j (h1 : j < items.size) (h2 : j < items2.size), EqAt A.in1 s items[j] items2[j] (e j)) ∧ (∀ j (h1 : j < items.size) (h2 : j < items2.size), e j = false → RcOp .Lt A.in1 s items[j] items2[j] (f j)) ∧
        R (.ok (.ret (.bool (lex e f false k i)))) s) := by
  induction k with
  | zero =>
    intro i hk prog w A R s h
    obtain ⟨hp, g, d, tk, os⟩ := s; obtain ⟨hl, hb, he, hf, h⟩ := h
    wp_walk using wpAny_loadPart' hl, wpAny_loadPart' hb
    have hi1 : items[((i : Nat) : Int).toNat]? = none := by simp; omega
    have hi2 : items2[((i : Nat) : Int).toNat]? = none := by simp; omega
    rw [hi1, hi2]
    wp_walk using wpAny_loadPart' hl, wpAny_loadPart' hb
    show R (.ok (.ret (.bool (decide (items.size < items2.size))))) _
    rw [hsz]
    simpa [lex] using h
  | succ k ih =>
    intro i hk prog w A R s h
    obtain ⟨hp, g, d, tk, os⟩ := s; obtain ⟨hl, hb, he, hf, h⟩ := h
    wp_walk using wpAny_loadPart' hl, wpAny_loadPart' hb
    have hlt : i < items.size := by omega
    have hlt2 : i < items2.size := by omega
    have hi1 : items[((i : Nat) : Int).toNat]? = some items[i] := by simp [hlt]
    have hi2 : items2[((i : Nat) : Int).toNat]? = some items2[i] := by simp [hlt2]
    have hc : ((i : Int) + 1) = ((i + 1 : Nat) : Int) := by push_cast; rfl
    rw [hi1, hi2]
    refine wpAny_bind (he i hlt hlt2 prog w _ _ ?_)
    cases hb' : e i with
    | true =>
      rw [lex, hb', if_pos rfl] at h
      wp_walk
      rw [hc]
      exact ⟨plainId_quiet MeetsSeq3.plain_eq_loop _, codeAny_builtin MeetsSeq3.entry_eq_loop (by
        rw [Around.under_plainId MeetsSeq3.plain_eq_loop _]
        exact ih (i + 1) (by omega) prog w A R _ ⟨hl, hb, he, hf, h⟩)⟩
    | false =>
      rw [lex, hb', if_neg Bool.false_ne_true] at h
      wp_walk using wpAny_loadPart' hl, wpAny_loadPart' hb
      rw [hi1, hi2]
      refine wpAny_bind (hf i hlt hlt2 hb' prog w _ _ ?_)
      wp_walk
      exact h
theorem ltL_list (l b : Addr) (items items2 : Array Value) (n n2 : Nat) (dd dd2 : Option Addr) (sl sl2 : Array (Option Value)) (hsz : items.size = items2.size) (e f : Nat → Bool) :
    Meets (Builtin.«list.__lt__» ⟨[.ref l, .ref b], []⟩)
      (fun A R s => s.heap.get? l = some { cls := .type "list", dict := dd, data := .seq items n, slots := sl } ∧ s.heap.get? b = some { cls := .type "list", dict := dd2, data := .seq items2 n2, slots := sl2 } ∧
        (∀ j (h1 : j < items.size) (h2 : j < items2.size), EqAt A.in1 s items[j] items2[j] (e j)) ∧ (∀ j (h1 : j < items.size) (h2 : j < items2.size), e j = false → RcOp .Lt A.in1 s items[j] items2[j] (f j)) ∧
        R (.ok (.ret (.bool (lex e f false items.size 0)))) s) := by
  intro prog w A R s h
  obtain ⟨hp, g, d, tk, os⟩ := s; obtain ⟨hl, hb, he, hf, h⟩ := h
  have f3 := AutoSeq1.sub_list_list
  wp_walk using wpAny_loadPart' hl, wpAny_loadPart' hb
  exact ⟨plainId_quiet MeetsSeq3.plain_eq_loop _, codeAny_builtin MeetsSeq3.entry_eq_loop (by
    rw [Around.under_plainId MeetsSeq3.plain_eq_loop _]
    exact ltL_loop l b items items2 n n2 dd dd2 sl sl2 hsz e f _ 0 rfl prog w A R _ ⟨hl, hb, he, hf, h⟩)⟩
theorem RcOp.ltLs {A : Around} {s : Shared} {l b : Addr} {items items2 : Array Value} {e f : Nat → Bool} (hl : s.heap.IsList l items) (hb : s.heap.IsList b items2) (hsz : items.size = items2.size) (hu : A.units < cLine)
    (he : ∀ j (h1 : j < items.size) (h2 : j < items2.size), EqAt A.in1 s items[j] items2[j] (e j)) (hf : ∀ j (h1 : j < items.size) (h2 : j < items2.size), e j = false → RcOp .Lt A.in1 s items[j] items2[j] (f j)) :
    RcOp .Lt A s (.ref l) (.ref b) (lex e f false items.size 0) := fun prog w E Q h => by
  obtain ⟨⟨cls, dd, data, sl⟩, ho, hc, n, hd⟩ := id hl
  obtain ⟨⟨cls2, dd2, data2, sl2⟩, ho2, hc2, n2, hd2⟩ := id hb
  simp only at hc hd hc2 hd2
  subst hc hd hc2 hd2
  exact richCompare_meets_room (op := .Lt) ⟨_, ho, rfl⟩ ⟨_, ho2, rfl⟩ F.slot_list_lt F.entry_list_lt (F.args_list_lt_2 _ _) (ltL_list l b items items2 n n2 dd dd2 sl sl2 hsz e f)
    ⟨ho, ho2, he, hf, show Value.bool (lex e f false items.size 0) ≠ Value.notImplemented ∧ Q (.bool (lex e f false items.size 0)) s from ⟨(fun x => nomatch x), h⟩⟩ hu

theorem leL_loop (l b : Addr) (items items2 : Array Value) (n n2 : Nat) (dd dd2 : Option Addr) (sl sl2 : Array (Option Value)) (hsz : items.size = items2.size) (e f : Nat → Bool) (k : Nat) :
    ∀ i : Nat, items.size - i = k → Meets (Builtin.«list.__eq__.loop» ⟨[.ref l, .ref b, rawInt i, rawInt 1], []⟩)
      (fun A R s => s.heap.get? l = some { cls := .type "list", dict := dd, data := .seq items n, slots := sl } ∧ s.heap.get? b = some { cls := .type "list", dict := dd2, data := .seq items2 n2, slots := sl2 } ∧
        (∀ j (h1 : j < items.size) (h2 : j < items2.size), EqAt A.in1 s items[j] items2[j] (e j)) ∧ (∀ j (h1 : j < items.size) (h2 : j < items2.size), e j = false → RcOp .LtE A.in1 s items[j] items2[j] (f j)) ∧
        R (.ok (.ret (.bool (lex e f true k i)))) s) := by
  induction k with
  | zero =>
    intro i hk prog w A R s h
    obtain ⟨hp, g, d, tk, os⟩ := s; obtain ⟨hl, hb, he, hf, h⟩ := h
    wp_walk using wpAny_loadPart' hl, wpAny_loadPart' hb
    have hi1 : items[((i : Nat) : Int).toNat]? = none := by simp; omega
    have hi2 : items2[((i : Nat) : Int).toNat]? = none := by simp; omega
    rw [hi1, hi2]
    wp_walk using wpAny_loadPart' hl, wpAny_loadPart' hb
    show R (.ok (.ret (.bool (decide (items.size ≤ items2.size))))) _
    rw [hsz]
    simpa [lex] using h
  | succ k ih =>
    intro i hk prog w A R s h
    obtain ⟨hp, g, d, tk, os⟩ := s; obtain ⟨hl, hb, he, hf, h⟩ := h
    wp_walk using wpAny_loadPart' hl, wpAny_loadPart' hb
    have hlt : i < items.size := by omega
    have hlt2 : i < items2.size := by omega
    have hi1 : items[((i : Nat) : Int).toNat]? = some items[i] := by simp [hlt]
    have hi2 : items2[((i : Nat) : Int).toNat]? = some items2[i] := by simp [hlt2]
    have hc : ((i : Int) + 1) = ((i + 1 : Nat) : Int) := by push_cast; rfl
    rw [hi1, hi2]
    refine wpAny_bind (he i hlt hlt2 prog w _ _ ?_)
    cases hb' : e i with
    | true =>
      rw [lex, hb', if_pos rfl] at h
      wp_walk
      rw [hc]
      exact ⟨plainId_quiet MeetsSeq3.plain_eq_loop _, codeAny_builtin MeetsSeq3.entry_eq_loop (by
        rw [Around.under_plainId MeetsSeq3.plain_eq_loop _]
        exact ih (i + 1) (by omega) prog w A R _ ⟨hl, hb, he, hf, h⟩)⟩
    | false =>
      rw [lex, hb', if_neg Bool.false_ne_true] at h
      wp_walk using wpAny_loadPart' hl, wpAny_loadPart' hb
      rw [hi1, hi2]
      refine wpAny_bind (hf i hlt hlt2 hb' prog w _ _ ?_)
      wp_walk
      exact h
theorem leL_list (l b : Addr) (items items2 : Array Value) (n n2 : Nat) (dd dd2 : Option Addr) (sl sl2 : Array (Option Value)) (hsz : items.size = items2.size) (e f : Nat → Bool) :
    Meets (Builtin.«list.__le__» ⟨[.ref l, .ref b], []⟩)
      (fun A R s => s.heap.get? l = some { cls := .type "list", dict := dd, data := .seq items n, slots := sl } ∧ s.heap.get? b = some { cls := .type "list", dict := dd2, data := .seq items2 n2, slots := sl2 } ∧
        (∀ j (h1 : j < items.size) (h2 : j < items2.size), EqAt A.in1 s items[j] items2[j] (e j)) ∧ (∀ j (h1 : j < items.size) (h2 : j < items2.size), e j = false → RcOp .LtE A.in1 s items[j] items2[j] (f j)) ∧
        R (.ok (.ret (.bool (lex e f true items.size 0)))) s) := by
  intro prog w A R s h
  obtain ⟨hp, g, d, tk, os⟩ := s; obtain ⟨hl, hb, he, hf, h⟩ := h
  have f3 := AutoSeq1.sub_list_list
  wp_walk using wpAny_loadPart' hl, wpAny_loadPart' hb
  exact ⟨plainId_quiet MeetsSeq3.plain_eq_loop _, codeAny_builtin MeetsSeq3.entry_eq_loop (by
    rw [Around.under_plainId MeetsSeq3.plain_eq_loop _]
    exact leL_loop l b items items2 n n2 dd dd2 sl sl2 hsz e f _ 0 rfl prog w A R _ ⟨hl, hb, he, hf, h⟩)⟩
theorem RcOp.leLs {A : Around} {s : Shared} {l b : Addr} {items items2 : Array Value} {e f : Nat → Bool} (hl : s.heap.IsList l items) (hb : s.heap.IsList b items2) (hsz : items.size = items2.size) (hu : A.units < cLine)
    (he : ∀ j (h1 : j < items.size) (h2 : j < items2.size), EqAt A.in1 s items[j] items2[j] (e j)) (hf : ∀ j (h1 : j < items.size) (h2 : j < items2.size), e j = false → RcOp .LtE A.in1 s items[j] items2[j] (f j)) :
    RcOp .LtE A s (.ref l) (.ref b) (lex e f true items.size 0) := fun prog w E Q h => by
  obtain ⟨⟨cls, dd, data, sl⟩, ho, hc, n, hd⟩ := id hl
  obtain ⟨⟨cls2, dd2, data2, sl2⟩, ho2, hc2, n2, hd2⟩ := id hb
  simp only at hc hd hc2 hd2
  subst hc hd hc2 hd2
  exact richCompare_meets_room (op := .LtE) ⟨_, ho, rfl⟩ ⟨_, ho2, rfl⟩ F.slot_list_le F.entry_list_le (F.args_list_le_2 _ _) (leL_list l b items items2 n n2 dd dd2 sl sl2 hsz e f)
    ⟨ho, ho2, he, hf, show Value.bool (lex e f true items.size 0) ≠ Value.notImplemented ∧ Q (.bool (lex e f true items.size 0)) s from ⟨(fun x => nomatch x), h⟩⟩ hu

theorem lt_tuple (l b : Addr) (items items2 : Array Value) (n n2 : Nat) (dd dd2 : Option Addr) (sl sl2 : Array (Option Value)) (hsz : items.size = items2.size) (e f : Nat → Bool) :
    Meets (Builtin.«tuple.__lt__» ⟨[.ref l, .ref b], []⟩)
      (fun A R s => s.heap.get? l = some { cls := .type "tuple", dict := dd, data := .seq items n, slots := sl } ∧ s.heap.get? b = some { cls := .type "tuple", dict := dd2, data := .seq items2 n2, slots := sl2 } ∧
        (∀ j (h1 : j < items.size) (h2 : j < items2.size), EqAt A.in1 s items[j] items2[j] (e j)) ∧ (∀ j (h1 : j < items.size) (h2 : j < items2.size), e j = false → RcOp .Lt A.in1 s items[j] items2[j] (f j)) ∧
        R (.ok (.ret (.bool (lex e f false items.size 0)))) s) :=
  .of_wp fun prog w A R s h => by
    obtain ⟨hp, g, d, tk, os⟩ := s; obtain ⟨hl, hb, he, hf, h⟩ := h
    have f2 := AutoSeq1.sub_tuple_tuple
    have hZ : (items.toList.zip items2.toList).length = items.size := by simp [hsz]
    wp_walk using wpAny_loadPart' hl, wpAny_loadPart' hb, wpAny_forIn_list _ (fun rest b s' => b.1 = none ∧ s' = ⟨hp, g, d, tk, os⟩ ∧ ∃ i, i ≤ items.size ∧ rest = (items.toList.zip items2.toList).drop i ∧
      R (.ok (.ret (.bool (lex e f false (items.size - i) i)))) ⟨hp, g, d, tk, os⟩) _
    case turn =>
      rintro ⟨y, x⟩ rest b s' ⟨hb', rfl, i, hi, hz, hR⟩
      have hlt : i < (items.toList.zip items2.toList).length := by
        rcases Nat.lt_or_ge i (items.toList.zip items2.toList).length with h' | h'
        · exact h'
        · rw [List.drop_of_length_le h'] at hz; cases hz
      have h1 : i < items.size := hZ ▸ hlt
      have h2 : i < items2.size := hsz ▸ h1
      rw [List.drop_eq_getElem_cons hlt] at hz
      injection hz with hyx hrest
      have hy : y = items[i] := by have := congrArg Prod.fst hyx; simpa using this
      have hx : x = items2[i] := by have := congrArg Prod.snd hyx; simpa using this
      subst hy hx
      rw [show items.size - i = (items.size - (i + 1)) + 1 by omega, lex] at hR
      refine wpAny_bind (he i h1 h2 prog w _ _ ?_)
      cases hy : e i with
      | true =>
        rw [hy, if_pos rfl] at hR
        wp_walk
        exact ⟨rfl, rfl, i + 1, h1, hrest, hR⟩
      | false =>
        rw [hy, if_neg Bool.false_ne_true] at hR
        wp_walk using RcOp.use (hf i h1 h2 hy)
        exact ⟨_, rfl, hR⟩
    case fin =>
      rintro ⟨b1, b2⟩ s' ⟨hb', rfl, i, hi, hz, hR⟩
      simp only at hb'
      subst hb'
      have hge : items.size ≤ i := by
        rcases Nat.lt_or_ge i (items.toList.zip items2.toList).length with h' | h'
        · rw [List.drop_eq_getElem_cons h'] at hz; cases hz
        · exact hZ ▸ h'
      rw [show items.size - i = 0 by omega, lex] at hR
      wp_walk
      exact ⟨_, rfl, by simpa [Builtin.Tuple.tupleCompareSizes, hsz] using hR⟩
    case h =>
      exact ⟨rfl, rfl, 0, Nat.zero_le _, rfl, by simpa using h⟩
theorem RcOp.ltTups {A : Around} {s : Shared} {l b : Addr} {items items2 : Array Value} {e f : Nat → Bool} (hl : s.heap.IsTuple l items) (hb : s.heap.IsTuple b items2) (hsz : items.size = items2.size) (hu : A.units < cLine)
    (he : ∀ j (h1 : j < items.size) (h2 : j < items2.size), EqAt A.in1 s items[j] items2[j] (e j)) (hf : ∀ j (h1 : j < items.size) (h2 : j < items2.size), e j = false → RcOp .Lt A.in1 s items[j] items2[j] (f j)) :
    RcOp .Lt A s (.ref l) (.ref b) (lex e f false items.size 0) := fun prog w E Q h => by
  obtain ⟨⟨cls, dd, data, sl⟩, ho, hc, n, hd⟩ := id hl
  obtain ⟨⟨cls2, dd2, data2, sl2⟩, ho2, hc2, n2, hd2⟩ := id hb
  simp only at hc hd hc2 hd2
  subst hc hd hc2 hd2
  exact richCompare_meets_room (op := .Lt) ⟨_, ho, rfl⟩ ⟨_, ho2, rfl⟩ F.slot_tuple_lt F.entry_tuple_lt (F.args_tuple_lt_2 _ _) (lt_tuple l b items items2 n n2 dd dd2 sl sl2 hsz e f)
    ⟨ho, ho2, he, hf, show Value.bool (lex e f false items.size 0) ≠ Value.notImplemented ∧ Q (.bool (lex e f false items.size 0)) s from ⟨(fun x => nomatch x), h⟩⟩ hu
end
section
section
variable {α β : Type} {c : Cx} {A : Around} {L : Addr} {H : HM} {m : Loc} {env : Env}

/-- what a comprehension's loop does, its own frame at hand -/
noncomputable def CompTurn (c : Cx) (A : Around) (C : Addr) (elt target : PySem.Expr) (ifs : List PySem.Expr) (it acc : Value) (cenv : Env) (H : HM) (m : Loc) (Next : HM → Loc → Prop) (Fin : HM → Prop) : Prop :=
  WF c A C (pyNext it) H m (fun r H₁ m₁ => match r with
    | none => Fin H₁
    | some v => WF c A C (letOwnedTupleGo target it v) H₁ m₁ (fun _ H₂ m₂ => WF c A C (assign target cenv v) H₂ m₂ (fun _ H₃ m₃ =>
        WF c A C (forIn ifs true fun c r => if r = true then do let ok ← isTrue c cenv (eval c cenv); pure (ForInStep.yield ok) else pure (ForInStep.yield r)) H₃ m₃ (fun ok H₄ m₄ =>
          if ok then WF c A C (eval elt cenv) H₄ m₄ (fun x H₅ m₅ => WF c A C (call (.builtin "list.append") [acc, x]) H₅ m₅ (fun _ H₆ m₆ => Next H₆ m₆)) else Next H₄ m₄))))
theorem comp_loop {elt target iter : PySem.Expr} {ifs : List PySem.Expr} {scope : Scope} {pos : Pos} {it acc : Value} {cenv : Env} {C : Addr} {R : Result → Shared → Prop} {Fin : HM → Prop} (J : Nat → HM → Loc → Prop)
    (hR : ∀ H' m' s', Inv c H' s' → H' C = none → s'.heap.Ns C m' → Fin H' → R (.ok .next) s')
    (turn : ∀ n H m, J n H m → CompTurn c A C elt target ifs it acc cenv H m (fun H' m' => ∃ k H'', k < n ∧ Sub H'' H' ∧ Bs c H'' ∧ J k H'' m') Fin)
    (n : Nat) (hj : J n H m) {s : Shared} (I : Inv c H s) (hC : H C = none) (hn : s.heap.Ns C m) :
    codeAny (model c.prog c.w) A (.compLoop (.ListComp elt [⟨target, iter, ifs, 0⟩] scope pos) 0 it acc cenv) R s := by
  refine codeAny_loop rfl (fun n s => ∃ H m, Inv c H s ∧ H C = none ∧ s.heap.Ns C m ∧ J n H m) (fun n s hI => ?_) n ⟨H, m, I, hC, hn, hj⟩
  refine fx hI fun H m I hC hn hj => ?_
  show wpAny _ _ ((compTurn (.ListComp elt [⟨target, iter, ifs, 0⟩] scope pos) 0 it acc cenv).onRaise (fun x => do noteFrame x cenv; theTreesLotGoes x)) _ _ s
  refine wpAny_noted ?_
  rw [compTurn_list]
  have again' : ∀ H' m' s', Inv c H' s' → H' C = none → s'.heap.Ns C m' → (∃ k H'', k < n ∧ Sub H'' H' ∧ Bs c H'' ∧ J k H'' m') →
      wpAny (model c.prog c.w) A (again (.compLoop (.ListComp elt [⟨target, iter, ifs, 0⟩] scope pos) 0 it acc cenv))
        (fun fin s' => match fin with | .done f => R (.ok f) s' | .again c' => c' = .compLoop (.ListComp elt [⟨target, iter, ifs, 0⟩] scope pos) 0 it acc cenv ∧ ∃ m, m < n ∧ ∃ H m', Inv c H s' ∧ H C = none ∧ s'.heap.Ns C m' ∧ J m H m')
        (notedBy (model c.prog c.w) A cenv fun e s' => R (.error e) s') s' := by
    rintro H' m' s' I' hC' hn' ⟨k, H'', hk, hs, hb, hj⟩
    refine wpAny_pure ⟨rfl, k, hk, H'', m', I'.sub hs hb, ?_, hn', hj⟩
    cases e : H'' C with
    | none => rfl
    | some P => have := hs _ _ e; rw [hC'] at this; cases this
  refine wa_let ?_
  intro QQ EE
  refine wpAny_bind (wpAny_standAt (wpAny_bind (wpAny_mono (turn n H m hj s I hC hn) (fun r s₁ h₁ => ?_) fun _ _ e => e.elim)))
  refine fx h₁ fun H₁ m₁ I₁ hC₁ hn₁ q₁ => ?_
  cases r with
  | none => exact wpAny_pure (hR _ _ _ I₁ hC₁ hn₁ q₁)
  | some v =>
    refine wpAny_bind (wpAny_mono (q₁ s₁ I₁ hC₁ hn₁) (fun _ s₂ h₂ => ?_) fun _ _ e => e.elim)
    refine fx h₂ fun H₂ m₂ I₂ hC₂ hn₂ q₂ => ?_
    refine wpAny_bind (wpAny_mono (q₂ s₂ I₂ hC₂ hn₂) (fun _ s₃ h₃ => ?_) fun _ _ e => e.elim)
    refine fx h₃ fun H₃ m₃ I₃ hC₃ hn₃ q₃ => ?_
    refine wpAny_bind (wpAny_mono (q₃ s₃ I₃ hC₃ hn₃) (fun ok s₄ h₄ => ?_) fun _ _ e => e.elim)
    refine fx h₄ fun H₄ m₄ I₄ hC₄ hn₄ q₄ => ?_
    cases ok with
    | false =>
      simp only [Bool.false_eq_true, if_false] at q₄ ⊢
      exact again' _ _ _ I₄ hC₄ hn₄ q₄
    | true =>
      simp only [if_true] at q₄ ⊢
      refine wpAny_bind (wpAny_bind (wpAny_mono (q₄ s₄ I₄ hC₄ hn₄) (fun x s₅ h₅ => ?_) fun _ _ e => e.elim))
      refine fx h₅ fun H₅ m₅ I₅ hC₅ hn₅ q₅ => ?_
      refine wpAny_bind (wpAny_mono (q₅ s₅ I₅ hC₅ hn₅) (fun _ s₆ h₆ => ?_) fun _ _ e => e.elim)
      refine fx h₆ fun H₆ m₆ I₆ hC₆ hn₆ q₆ => ?_
      exact wpAny_pure (again' _ _ _ I₆ hC₆ hn₆ q₆)
/-- the loop of a comprehension, from its iterator on: D the new list, C the new frame; the frame around it is a thing of the heap -/
noncomputable def CompW (c : Cx) (A : Around) (L : Addr) (elt target : PySem.Expr) (ifs : List PySem.Expr) (scope : Scope) (cl : List (Str × Addr)) (env : Env) (it : Value) (H : HM) (m : Loc) (Q : Addr → HM → Prop) : Prop :=
  (∀ (C : Addr) (H' : HM) (m' : Loc) (Q' : Value → HM → Loc → Prop), Sub H H' → Q' it H' m' → WF c A C (pyIter it) H' m' Q') ∧
  ∀ D C, H D = none → Own c D → D ≠ L → H C = none → Own c C → C ≠ L → C ≠ D → Bs c H →
    ∃ (J : Nat → HM → Loc → Prop) (n : Nat), J n (upd (upd H L (isNs m)) D (lst [])) (fun _ => none) ∧
      ∀ n H₁ m₁, J n H₁ m₁ → CompTurn c A C elt target ifs it (.ref D) (compEnvC scope cl C env) H₁ m₁ (fun H' m' => ∃ k H'', k < n ∧ Sub H'' H' ∧ Bs c H'' ∧ J k H'' m')
        (fun H' => ∃ H₃, Sub (upd H₃ L (isNs m)) H' ∧ H₃ L = none ∧ Bs c H₃ ∧ Q D H₃)

/-- the common part: the new list, the new frame, the loop -/
theorem comp_core {elt target iter : PySem.Expr} {ifs : List PySem.Expr} {scope : Scope} {cl : List (Str × Addr)} {pos : Pos} {it : Value} {Q : Addr → HM → Prop} {E : Value → Shared → Prop} {RR : Value → Addr → Result → Shared → Prop} {s : Shared}
    (hcell : ∀ y ∈ scope.names, y.2 ≠ .cell) (hkind : scope.kind = .function) (h : CompW c A L elt target ifs scope cl env it H m Q) (I : Inv c H s) (hL : H L = none) (hn : s.heap.Ns L m)
    (hRR : ∀ D C H₃ m' s', Inv c (upd H₃ L (isNs m)) s' → H₃ L = none → Q D H₃ → s'.heap.Ns C m' → C ≠ L → upd H₃ L (isNs m) C = none → RR (.ref D) C (.ok .next) s') :
    wpAny (model c.prog c.w) A (newList []) (fun acc s₃ => wpAny (model c.prog c.w) A (newFunctionEnv scope env.globals cl [] env.qual none .none (some env)) (fun cenv s₄ =>
      codeAny (model c.prog c.w) A (.compStart (.ListComp elt [⟨target, iter, ifs, 0⟩] scope pos) 0 it acc { cenv with scope := relabel scope env }) (RR acc cenv.locals) s₄) E s₃) E s := by
  obtain ⟨hself, hw⟩ := h
  obtain ⟨I₁, hL₁, hn₁, hD, hoD, hDL⟩ := new_frame (P := lst []) (t := s.toks) I hL hn rfl (o := { cls := .type "list", data := .seq ([] : List Value).toArray }) rfl ⟨0, rfl⟩
  refine wpAny_newList ?_ (Nat.zero_le _)
  have hCf := I₁.fresh
  have hCo := I₁.own
  refine wpAny_newFunctionEnv hcell (by intro y hy; simp at hy) (fun h₁ hns₁ hsb₁ => ?_) hkind
  dsimp only at hns₁ hsb₁ hCf hCo ⊢
  generalize hD' : s.heap.objs.size = D at *
  generalize hC' : (s.heap.push { cls := .type "list", data := .seq ([] : List Value).toArray }).objs.size = C at *
  have keep : ∀ b o, (s.heap.push { cls := .type "list", data := .seq ([] : List Value).toArray }).get? b = some o → h₁.get? b = some o := fun b o e =>
    hsb₁.extBut b o (by rw [← hC']; exact Nat.ne_of_lt (Heap.lt_size e)) (Heap.get?_push_of_some _ e)
  have hCL : C ≠ L := by rw [← hC']; exact (Nat.ne_of_lt hn₁.lt).symm
  have hCD : C ≠ D := by rintro rfl; rw [upd_same] at hCf; cases hCf
  have hHC : H C = none := by rw [upd_ne hCD] at hCf; exact hCf
  have I₂ : Inv c (upd (upd H D (lst [])) L (isNs m)) { s with heap := h₁, toks := s.toks + ([] : List (Str × Value)).length } := upd_frame (I₁.keep keep _) hL₁ (hn₁.keeps keep)
  rw [upd_comm hDL] at I₂
  have hC2 : upd (upd H L (isNs m)) D (lst []) C = none := by rw [upd_ne hCD, upd_ne hCL]; exact hHC
  obtain ⟨J, n, hj, turn⟩ := hw D C hD hoD hDL hHC hCo hCL hCD I.base
  have loop : ∀ s', Inv c (upd (upd H L (isNs m)) D (lst [])) s' → s'.heap.Ns C (fun _ => none) →
      codeAny (model c.prog c.w) A (.compLoop (.ListComp elt [⟨target, iter, ifs, 0⟩] scope pos) 0 it (.ref D) (compEnvC scope cl C env)) (RR (.ref D) C) s' := fun s' I' hns' => by
    refine comp_loop J (fun H' m' s'' I'' hC'' hn'' hf => ?_) turn n hj I' hC2 hns'
    obtain ⟨H₃, hs, hL3, hb, q⟩ := hf
    have hb3 : Bs c (upd H₃ L (isNs m)) := hb.new hL3
    refine hRR D C H₃ m' s'' (I''.sub hs hb3) hL3 q hn'' hCL ?_
    cases e : upd H₃ L (isNs m) C with
    | none => rfl
    | some P => have := hs _ _ e; rw [hC''] at this; cases this
  refine codeAny_compStart_list (loop _ I₂ hns₁) ?_
  have hsub : Sub H (upd (upd H L (isNs m)) D (lst [])) := Sub.upd_new (Sub.upd_new (Sub.refl _) hL) hD
  refine wpAny_mono (hself C _ (fun _ => none) (fun v H' m' => v = it ∧ H' = upd (upd H L (isNs m)) D (lst []) ∧ m' = fun _ => none) hsub ⟨rfl, rfl, rfl⟩ _ I₂ hC2 hns₁) (fun v s' hv => ?_) fun _ _ e => e.elim
  refine fx hv fun H' m' I' _ hn' zq => ?_
  obtain ⟨rfl, rfl, rfl⟩ := zq
  exact loop _ I' hn'
theorem f_Comp {elt target iter : PySem.Expr} {ifs : List PySem.Expr} {scope : Scope} {cl : List (Str × Addr)} {pos : Pos} {Q : Value → HM → Loc → Prop}
    (h : WF c A L (eval iter env) H m (fun x H₁ m₁ => WF c A L (pyIter x) H₁ m₁ (fun it H₂ m₂ => CompW c A L elt target ifs scope cl env it H₂ m₂ (fun D H₃ => Q (.ref D) H₃ m₂))))
    (hclos : closureFor scope env = pure cl) (hcell : ∀ y ∈ scope.names, y.2 ≠ .cell) (hkind : scope.kind = .function) (hnames : ∀ y ∈ scope.names, y.2 = .local → scope.names.lookup y.1 = some .local)
    (hs : ∀ x, foldedSetIterable iter env x = pure x := by intro _; rfl) : WF c A L (eval (.ListComp elt [⟨target, iter, ifs, 0⟩] scope pos) env) H m Q := by
  intro s I hL hn
  rw [eval_ListComp]
  refine wpAny_comprehension_free (use := none) rfl hs hclos hkind hnames (wpAny_mono (h s I hL hn) (fun x s₁ h₁ => ?_) fun _ _ e => e)
  refine fx h₁ fun H₁ m₁ I₁ hL₁ hn₁ q₁ => ?_
  refine wpAny_mono (q₁ s₁ I₁ hL₁ hn₁) (fun it s₂ h₂ => ?_) fun _ _ e => e
  refine fx h₂ fun H₂ m₂ I₂ hL₂ hn₂ q₂ => ?_
  refine comp_core (RR := fun acc C => compPost (model c.prog c.w) A (fun _ _ => False) none _ acc C) hcell hkind q₂ I₂ hL₂ hn₂ ?_
  intro D C H₃ m' s' I' hL3 q hnC hCL hC
  refine ⟨m', hnC, fun h' hs' => ⟨H₃, m₂, ?_, hL3, ?_, q⟩⟩
  · refine ⟨fun a P e => ?_, fun a o e => ?_, by rw [I'.fit]⟩
    · have e' : upd H₃ L (isNs m₂) a = some P := by rw [upd_ne (by rintro rfl; rw [hL3] at e; cases e)]; exact e
      obtain ⟨o, ho, p⟩ := I'.rep a P e'
      exact ⟨o, hs'.extBut a o (by rintro rfl; rw [hC] at e'; cases e') ho, p⟩
    · have := I'.base a o e
      by_cases haL : a = L
      · subst haL
        have := I'.base_none (upd_same H₃ a (isNs m₂)) (isNs_loose _)
        rw [e] at this; cases this
      · rw [upd_ne haL] at this; exact this
  · exact (I'.ns (upd_same ..)).sameBut hs' (Ne.symm hCL)
theorem frame_take {s : Shared} {h' : Heap} {t : Nat} {C : Addr} {H₃ : HM} (I' : Inv c (upd H₃ L (isNs m)) s) (hL3 : H₃ L = none) (hC : upd H₃ L (isNs m) C = none) (hk : ∀ b o, b ≠ L → b ≠ C → s.heap.get? b = some o → h'.get? b = some o) :
    Inv c H₃ { s with heap := h', toks := t } := by
  refine ⟨fun a P e => ?_, fun a o e => ?_, by rw [I'.fit]⟩
  · have haL : a ≠ L := by rintro rfl; rw [hL3] at e; cases e
    have e' : upd H₃ L (isNs m) a = some P := by rw [upd_ne haL]; exact e
    obtain ⟨o, ho, p⟩ := I'.rep a P e'
    exact ⟨o, hk a o haL (by rintro rfl; rw [hC] at e'; cases e') ho, p⟩
  · have := I'.base a o e
    by_cases haL : a = L
    · subst haL
      have := I'.base_none (upd_same H₃ a (isNs m)) (isNs_loose _)
      rw [e] at this; cases this
    · rw [upd_ne haL] at this; exact this
theorem f_AssignComp {elt target iter : PySem.Expr} {ifs : List PySem.Expr} {scope : Scope} {cl : List (Str × Addr)} {pos spos py : Pos} {y : Str} {Q : Flow → HM → Loc → Prop}
    (h : WF c A L (eval iter env) H m (fun x H₁ m₁ => WF c A L (pyIter x) H₁ m₁ (fun it H₂ m₂ => CompW c A L elt target ifs scope cl env it H₂ m₂ (fun D H₃ => Q .next H₃ (setL m₂ y (.ref D))))))
    (hsw : swapsWith (.ListComp elt [⟨target, iter, ifs, 0⟩] scope pos) (some (.Name y py)) spos.line env = pure true)
    (hclos : closureFor scope env = pure cl) (hcell : ∀ y ∈ scope.names, y.2 ≠ .cell) (hkind : scope.kind = .function) (hnames : ∀ y ∈ scope.names, y.2 = .local → scope.names.lookup y.1 = some .local)
    (hy : env.kindOf y = some .local) (hk : env.scope.kind = .function) (he : env.locals = L)
    (hs : ∀ x, foldedSetIterable iter env x = pure x := by intro _; rfl) : WF c A L (exec (.Assign [.Name y py] (.ListComp elt [⟨target, iter, ifs, 0⟩] scope pos) spos) env) H m Q := by
  intro s I hL hn
  rw [exec_Assign_Name_used _ _ _ _ hsw]
  refine wpAny_bind (wpAny_standAt (wpAny_bind ?_))
  show wpAny _ A (do let _ ← comprehension (.ListComp elt [⟨target, iter, ifs, 0⟩] scope pos) scope env _ (newList []) false (eval iter env) (some (assign (.Name y py) env))) _ _ s
  refine wpAny_bind (wpAny_mono (wpAny_comprehension_free (use := some (assign (.Name y py) env)) (Q := fun _ s' => ∃ H' m', Inv c H' s' ∧ H' L = none ∧ s'.heap.Ns L m' ∧ Q .next H' m') rfl hs hclos hkind hnames
    (wpAny_mono (h s I hL hn) (fun x s₁ h₁ => ?_) fun _ _ e => e)) (fun _ s' hq => wpAny_pure (wpAny_pure hq)) fun _ _ e => e)
  refine fx h₁ fun H₁ m₁ I₁ hL₁ hn₁ q₁ => ?_
  refine wpAny_mono (q₁ s₁ I₁ hL₁ hn₁) (fun it s₂ h₂ => ?_) fun _ _ e => e
  refine fx h₂ fun H₂ m₂ I₂ hL₂ hn₂ q₂ => ?_
  refine comp_core (RR := fun acc C => compPost (model c.prog c.w) A (fun _ _ => False) (some (assign (.Name y py) env)) _ acc C) hcell hkind q₂ I₂ hL₂ hn₂ ?_
  intro D C H₃ m' s' I' hL3 q hnC hCL hC
  show wpAny _ A (assign (.Name y py) env (.ref D)) _ _ _
  refine wpAny_assign_Name (wpAny_storeName_local hy (he ▸ I'.ns (upd_same ..)) (fun h₂ hn₂ hs₂ => ?_) (by rw [hk]; rfl))
  rw [he] at hn₂ hs₂
  refine ⟨m', hnC.sameBut hs₂ hCL, fun h₃ hs₃ => ⟨H₃, _, frame_take (s := s') (h' := h₃) (t := s'.toks + 1) I' hL3 hC (fun b o hbL hbC e => hs₃.extBut b o hbC (hs₂.extBut b o hbL e)), hL3, hn₂.sameBut hs₃ (Ne.symm hCL), q⟩⟩
end
end
section
open PySem.SeqAt

/-! ### displays, slices -/
noncomputable def slc (a b s : Value) : OP := fun o => o.cls = .type "slice" ∧ o.data = .fields #[a, b, s]
theorem pick_upto (xs : List Value) (k : Nat) : slicePick xs.toArray none (some (k : Int)) none = (xs.take k).toArray := by
  have e : sliceBounds none (some (k : Int)) none xs.toArray.size = (((0 : Nat) : Int), ((min k xs.toArray.size : Nat) : Int), 1) := by
    simp only [sliceBounds, Option.getD_none, show (1 : Int) > 0 by decide, if_true, if_neg (show ¬ ((k : Int) < 0) by omega)]
    congr 1
    congr 1
    omega
  rw [kmk_pick_nat _ e]
  show ((xs.drop 0).take (min k xs.toArray.size - 0)).toArray = _
  rw [List.drop_zero, Nat.sub_zero, List.size_toArray, kmk_take_min]
theorem pick_from (xs : List Value) (k : Nat) : slicePick xs.toArray (some (k : Int)) none none = (xs.drop k).toArray := by
  have e : sliceBounds (some (k : Int)) none none xs.toArray.size = (((min k xs.toArray.size : Nat) : Int), ((xs.toArray.size : Nat) : Int), 1) := by
    simp only [sliceBounds, Option.getD_none, show (1 : Int) > 0 by decide, if_true, if_neg (show ¬ ((k : Int) < 0) by omega)]
    congr 1
    omega
  rw [kmk_pick_nat _ e]
  show ((xs.drop (min k xs.toArray.size)).take (xs.toArray.size - min k xs.toArray.size)).toArray = _
  rw [List.size_toArray, kmk_drop_min, List.take_of_length_le (by simp; omega)]
theorem pick_all (xs : List Value) : slicePick xs.toArray none none none = xs.toArray := by
  have e : sliceBounds none none none xs.toArray.size = (((0 : Nat) : Int), ((xs.toArray.size : Nat) : Int), 1) := by
    simp only [sliceBounds, Option.getD_none, show (1 : Int) > 0 by decide, if_true]; rfl
  rw [kmk_pick_nat _ e]
  show ((xs.drop 0).take (xs.toArray.size - 0)).toArray = _
  rw [List.drop_zero, List.take_of_length_le (by simp)]
theorem pick_rev (xs : List Value) : slicePick xs.toArray none none (some (-1)) = xs.reverse.toArray := krv_pick _
section
variable {α β : Type} {c : Cx} {A : Around} {L : Addr} {H : HM} {m : Loc} {env : Env}
theorem f_newList {vs : List Value} {Q : Value → HM → Loc → Prop} (hz : vs.length < 1000) (h : ∀ a, H a = none → Own c a → a ≠ L → Q (.ref a) (upd H a (lst vs)) m) : WF c A L (newList vs) H m Q := fun s I hL hn => by
  obtain ⟨I', hL', hn', hf, ho, hne⟩ := new_frame (P := lst vs) (t := s.toks) I hL hn rfl (o := { cls := .type "list", data := .seq vs.toArray }) rfl ⟨0, rfl⟩
  exact wpAny_newList ⟨_, m, I', hL', hn', h _ hf ho hne⟩ (by simp [sizeLine]; omega)
theorem f_newTuple {vs : List Value} {Q : Value → HM → Loc → Prop} (hz : vs.length < 1000) (h : ∀ a, H a = none → Own c a → a ≠ L → Q (.ref a) (upd H a (tup vs)) m) : WF c A L (newTuple vs) H m Q := fun s I hL hn => by
  obtain ⟨I', hL', hn', hf, ho, hne⟩ := new_frame (P := tup vs) (t := s.toks) I hL hn rfl (o := { cls := .type "tuple", data := .seq vs.toArray }) rfl ⟨0, rfl⟩
  exact wpAny_newTuple ⟨_, m, I', hL', hn', h _ hf ho hne⟩ (by simp [sizeLine]; omega)
theorem f_List {elts pos} {Q : Value → HM → Loc → Prop} (h : WF c A L (spliced (backTo pos (starEach elts env))) H m (fun vs H₁ m₁ => WF c A L (newList vs) H₁ m₁ Q)) : WF c A L (eval (.List elts pos) env) H m Q :=
  fun s I hL hn => List_ (wpAny_mono (h s I hL hn) (fun _ s₁ zx => fx zx fun _ _ I₁ hL₁ hn₁ q => q s₁ I₁ hL₁ hn₁) fun _ _ e => e)
theorem f_Tuple {elts k pos} {Q : Value → HM → Loc → Prop} (h : WF c A L (spliced (backTo pos (starEach elts env))) H m (fun vs H₁ m₁ => WF c A L (newTuple vs) H₁ m₁ Q)) : WF c A L (eval (.Tuple elts k pos) env) H m Q :=
  fun s I hL hn => Tuple_ (wpAny_mono (h s I hL hn) (fun _ s₁ zx => fx zx fun _ _ I₁ hL₁ hn₁ q => q s₁ I₁ hL₁ hn₁) fun _ _ e => e)
theorem f_part {e : PySem.Expr} {Q : Value → HM → Loc → Prop} (h : WF c A L (eval e env) H m Q) : WF c A L (evalPart (some e) env) H m Q := h
theorem f_part0 {Q : Value → HM → Loc → Prop} (h : Q .none H m) : WF c A L (evalPart none env) H m Q := fun s I hL hn => wpAny_evalPart_none ⟨H, m, I, hL, hn, h⟩
theorem f_Slice {lower upper step : Option PySem.Expr} {p : Pos} {Q : Value → HM → Loc → Prop}
    (h : WF c A L (evalPart lower env) H m (fun a H₁ m₁ => WF c A L (evalPart upper env) H₁ m₁ (fun b H₂ m₂ => WF c A L (evalPart step env) H₂ m₂ (fun st H₃ m₃ => ∀ sl, H₃ sl = none → Own c sl → sl ≠ L → Q (.ref sl) (upd H₃ sl (slc a b st)) m₃)))) :
    WF c A L (eval (.Slice lower upper step p) env) H m Q := fun s I hL hn => wpAny_Slice (wpAny_mono (h s I hL hn) (fun a s₁ zx => fx zx fun _ _ I₁ hL₁ hn₁ q => wpAny_mono (q s₁ I₁ hL₁ hn₁) (fun b s₂ ⟨_, _, I₂, hL₂, hn₂, q⟩ =>
    wpAny_mono (q s₂ I₂ hL₂ hn₂) (fun st s₃ zx => fx zx fun H₃ m₃ I₃ hL₃ hn₃ q => by
      obtain ⟨I', hL', hn', hf, ho, hne⟩ := new_frame (P := slc a b st) (t := s₃.toks) I₃ hL₃ hn₃ rfl (o := { cls := .type "slice", data := .fields #[a, b, st] }) rfl ⟨rfl, rfl⟩
      exact ⟨_, m₃, I', hL', hn', q _ hf ho hne⟩) fun _ _ e => e) fun _ _ e => e) fun _ _ e => e)
/-- a cut of a list -/
theorem f_cut {l sl : Addr} {xs ys : List Value} {a b st : Value} {lo hi stp : Option Int} {value slice : PySem.Expr} {ops : List Value} {Q : Value → HM → Loc → Prop} (hl : H l = some (lst xs)) (hsl : H sl = some (slc a b st)) (hz : xs.length < 1000)
    (pl : IsPart a lo) (pu : IsPart b hi) (ps : IsPart st stp) (h0 : stp ≠ some 0) (hy : slicePick xs.toArray lo hi stp = ys.toArray) (h : ∀ D, H D = none → Own c D → D ≠ L → Q (.ref D) (upd H D (lst ys)) m)
    (hs : subscripted slice false (.ref l) (.ref sl) = operate ops (getItem (.ref l) (.ref sl))) : WF c A L (subscriptTail value slice (.ref l) (.ref sl)) H m Q := fun s I hL hn => by
  obtain ⟨I', hL', hn', hf, ho, hne⟩ := new_frame (P := lst ys) (t := s.toks) I hL hn rfl (o := { cls := .type "list", data := .seq ys.toArray }) rfl ⟨0, rfl⟩
  refine tail_any (I.isList hl).typeIs slot_list_getitem.lookup (wpAny_getItem_list_slice (I.isList hl) (I.rep _ _ hsl) pl pu ps h0 ?_ (by simp [sizeLine]; omega)) hs
  rw [hy]
  exact ⟨_, m, I', hL', hn', h _ hf ho hne⟩
theorem f_addL {l b : Addr} {xs ys : List Value} {Q : Value → HM → Loc → Prop} (hl : H l = some (lst xs)) (hb : H b = some (lst ys)) (hz : xs.length < 1000) (hz' : ys.length < 1000) (h : ∀ D, H D = none → Own c D → D ≠ L → Q (.ref D) (upd H D (lst (xs ++ ys))) m) :
    WF c A L (binaryOp .Add (.ref l) (.ref b)) H m Q := fun s I hL hn => by
  obtain ⟨n, ho⟩ := I.lst hl
  obtain ⟨n', ho'⟩ := I.lst hb
  obtain ⟨I', hL', hn', hf, hown, hne⟩ := new_frame (P := lst (xs ++ ys)) (t := s.toks) I hL hn rfl (o := { cls := .type "list", data := .seq (xs ++ ys).toArray }) rfl ⟨0, rfl⟩
  refine P.add_list ho ho' ?_ (by simp [sizeLine]; omega)
  rw [show xs.toArray ++ ys.toArray = (xs ++ ys).toArray by simp]
  exact ⟨_, m, I', hL', hn', h _ hf hown hne⟩
end
end
section
open PySem.SeqAt

/-! ### lists of two ints -/
noncomputable abbrev Key := Int × Int
noncomputable def pairP (k : Key) : OP := fun o => ∃ t u n, o = { cls := .type "list", dict := none, data := .seq #[.int k.1 t, .int k.2 u] n, slots := #[] }
noncomputable def PairAt (Dat : HM) (key : Value → Key) (v : Value) : Prop := ∃ a, v = .ref a ∧ Dat a = some (pairP (key v))
noncomputable def keyLt (k k' : Key) : Bool := if k.1 = k'.1 then decide (k.2 < k'.2) else decide (k.1 < k'.1)
noncomputable def keyLe (k k' : Key) : Bool := if k.1 = k'.1 then decide (k.2 ≤ k'.2) else decide (k.1 ≤ k'.1)
theorem PairAt.mono {Dat Dat' : HM} {key : Value → Key} {v : Value} (h : PairAt Dat key v) (hs : Sub Dat Dat') : PairAt Dat' key v := let ⟨a, e, x⟩ := h; ⟨a, e, hs _ _ x⟩
theorem PairAt.isList {c : Cx} {Dat H : HM} {key : Value → Key} {v : Value} {s : Shared} (h : PairAt Dat key v) (hD : Sub Dat H) (I : Inv c H s) : ∃ a t u, v = .ref a ∧ s.heap.IsList a #[.int (key v).1 t, .int (key v).2 u] := by
  obtain ⟨a, e, x⟩ := h
  obtain ⟨o, ho, t, u, n, rfl⟩ := I.rep _ _ (hD _ _ x)
  exact ⟨a, t, u, e, _, ho, rfl, n, rfl⟩
section
variable {c : Cx} {A : Around} {L : Addr} {H Dat : HM} {m : Loc} {key : Value → Key} {s : Shared} {v w : Value}
theorem two_eq {A : Around} {s : Shared} {a b a' b' : Int} {t u t' u' : Tok} : ∀ j (h1 : j < (#[.int a t, .int b u] : Array Value).size) (h2 : j < (#[.int a' t', .int b' u'] : Array Value).size),
    EqAt A s (#[.int a t, .int b u] : Array Value)[j] (#[.int a' t', .int b' u'] : Array Value)[j] (if j = 0 then a == a' else b == b')
  | 0, _, _ => (MeetsSeq.EqGives.int a a' t t').at A s
  | 1, _, _ => (MeetsSeq.EqGives.int b b' u u').at A s
  | j + 2, h, _ => absurd h (by simp)
theorem lex_lt (a b a' b' : Int) : lex (fun j => if j = 0 then a == a' else b == b') (fun j => if j = 0 then decide (a < a') else decide (b < b')) false 2 0 = keyLt (a, b) (a', b') := by
  simp only [lex, keyLt]
  by_cases h : a = a'
  · by_cases h' : b = b' <;> simp [h, h']
  · simp [h]
theorem lex_le (a b a' b' : Int) : lex (fun j => if j = 0 then a == a' else b == b') (fun j => if j = 0 then decide (a ≤ a') else decide (b ≤ b')) true 2 0 = keyLe (a, b) (a', b') := by
  simp only [lex, keyLe]
  by_cases h : a = a'
  · by_cases h' : b = b' <;> simp [h, h']
  · simp [h]
theorem pair_lt (I : Inv c H s) (hD : Sub Dat H) (hv : PairAt Dat key v) (hw : PairAt Dat key w) (hu : A.units < cLine) : RcOp .Lt A s v w (keyLt (key v) (key w)) := by
  obtain ⟨a, t, u, rfl, hl⟩ := hv.isList hD I
  obtain ⟨b, t', u', rfl, hl'⟩ := hw.isList hD I
  rw [← lex_lt]
  exact RcOp.ltLs hl hl' rfl hu two_eq (fun j h1 h2 _ => by
    match j, h1, h2 with
    | 0, _, _ => exact RcOp.lt_int _ _ _ _ _ _
    | 1, _, _ => exact RcOp.lt_int _ _ _ _ _ _
    | j + 2, h, _ => exact absurd h (by simp))
theorem pair_le (I : Inv c H s) (hD : Sub Dat H) (hv : PairAt Dat key v) (hw : PairAt Dat key w) (hu : A.units < cLine) : RcOp .LtE A s v w (keyLe (key v) (key w)) := by
  obtain ⟨a, t, u, rfl, hl⟩ := hv.isList hD I
  obtain ⟨b, t', u', rfl, hl'⟩ := hw.isList hD I
  rw [← lex_le]
  exact RcOp.leLs hl hl' rfl hu two_eq (fun j h1 h2 _ => by
    match j, h1, h2 with
    | 0, _, _ => exact RcOp.le_int _ _ _ _ _ _
    | 1, _, _ => exact RcOp.le_int _ _ _ _ _ _
    | j + 2, h, _ => exact absurd h (by simp))
theorem pair_eq (I : Inv c H s) (hD : Sub Dat H) (hv : PairAt Dat key v) (hw : PairAt Dat key w) (hu : A.units < cLine) : EqAt A s v w (decide (key v = key w)) := by
  obtain ⟨a, t, u, rfl, hl⟩ := hv.isList hD I
  obtain ⟨b, t', u', rfl, hl'⟩ := hw.isList hD I
  by_cases hab : a = b
  · subst hab; simp only [decide_true]; exact EqAt.same _
  · have := EqAt.of_refs hab (RcAt.lists hl hl' rfl hu two_eq)
    have e : (List.range (#[.int (key (.ref a)).1 t, .int (key (.ref a)).2 u] : Array Value).size).all (fun j => if j = 0 then (key (.ref a)).1 == (key (.ref b)).1 else (key (.ref a)).2 == (key (.ref b)).2) = decide (key (.ref a) = key (.ref b)) := by
      show (List.range 2).all _ = _
      rw [show List.range 2 = [0, 1] from rfl]
      simp only [List.all_cons, List.all_nil, if_true, Nat.one_ne_zero, if_false, Bool.and_true]
      rw [Bool.eq_iff_iff]
      simp [Prod.ext_iff]
    rw [e] at this
    exact this
theorem pairs_LtOK (c : Cx) (Dat : HM) (key : Value → Key) : LtOK c Dat (PairAt Dat key) (fun v w => keyLt (key v) (key w)) :=
  fun A L H m v w Q hu hD hv hw q s I hL hn => (pair_lt I hD hv hw (by omega)).use ⟨H, m, I, hL, hn, q⟩
theorem f_leP {Q : Value → HM → Loc → Prop} (hu : A.units < cLine) (hD : Sub Dat H) (hv : PairAt Dat key v) (hw : PairAt Dat key w) (h : Q (.bool (keyLe (key v) (key w))) H m) : WF c A L (compareOp .LtE v w) H m Q :=
  fun s I hL hn => (pair_le I hD hv hw hu).use ⟨H, m, I, hL, hn, h⟩
theorem f_ltP {Q : Value → HM → Loc → Prop} (hu : A.units < cLine) (hD : Sub Dat H) (hv : PairAt Dat key v) (hw : PairAt Dat key w) (h : Q (.bool (keyLt (key v) (key w))) H m) : WF c A L (compareOp .Lt v w) H m Q :=
  fun s I hL hn => (pair_lt I hD hv hw hu).use ⟨H, m, I, hL, hn, h⟩
theorem any_arr (xs : List Value) (f : Value → Bool) : xs.toArray.any f = xs.any f := by simp
theorem f_notIn {l : Addr} {xs : List Value} {Q : Value → HM → Loc → Prop} (hu : A.units + 1 < cLine) (hD : Sub Dat H) (hl : H l = some (lst xs)) (hx : ∀ y ∈ xs, PairAt Dat key y) (hv : PairAt Dat key v)
    (h : Q (.bool (!xs.any fun y => decide (key y = key v))) H m) : WF c A L (compareOp .NotIn v (.ref l)) H m Q := fun s I hL hn => by
  refine notIn_listAt (fun y => decide (key y = key v)) (I.isList hl) (fun y hy => pair_eq I hD (hx y (by simpa using hy)) hv (by show A.units + 1 < cLine; omega)) ?_
  rw [any_arr]
  exact ⟨H, m, I, hL, hn, h⟩
/-- two lists of such things, by their keys -/
theorem list_eqP (I : Inv c H s) (hD : Sub Dat H) {xs ys : List Value} (hx : ∀ y ∈ xs, PairAt Dat key y) (hy : ∀ y ∈ ys, PairAt Dat key y) (hu : A.units + 1 < cLine) (hlen : xs.length = ys.length) :
    ∀ j (h1 : j < xs.toArray.size) (h2 : j < ys.toArray.size), EqAt A.in1 s xs.toArray[j] ys.toArray[j] (decide (key (xs.getD j .none) = key (ys.getD j .none))) := fun j h1 h2 => by
  have h1' : j < xs.length := by simpa using h1
  have h2' : j < ys.length := by simpa using h2
  have e1 : xs.toArray[j] = xs.getD j .none := by simp [h1']
  have e2 : ys.toArray[j] = ys.getD j .none := by simp [h2']
  rw [e1, e2]
  exact pair_eq I hD (hx _ (by simp [h1'])) (hy _ (by simp [h2'])) (by show A.units + 1 < cLine; omega)
theorem all_keys {xs ys : List Value} (hlen : xs.length = ys.length) : ((List.range xs.toArray.size).all fun j => decide (key (xs.getD j .none) = key (ys.getD j .none))) = decide (xs.map key = ys.map key) := by
  rw [Bool.eq_iff_iff, decide_eq_true_iff, List.all_eq_true]
  constructor
  · intro h
    apply List.ext_getElem (by simp [hlen])
    intro i h1 h2
    have h1' : i < xs.length := by simpa using h1
    have h2' : i < ys.length := by simpa using h2
    have := h i (by simpa using h1')
    simpa [h1', h2'] using this
  · intro h j hj
    have h1' : j < xs.length := by simpa using hj
    have h2' : j < ys.length := hlen ▸ h1'
    have := congrArg (fun l => l[j]?) h
    simpa [h1', h2'] using this
theorem map_ne_of_length {xs ys : List Value} (h : xs.length ≠ ys.length) : decide (xs.map key = ys.map key) = false := by
  apply decide_eq_false
  intro e
  have := congrArg List.length e
  simp at this
  exact h this
theorem f_eqP {l b : Addr} {xs ys : List Value} {Q : Value → HM → Loc → Prop} (hu : A.units + 1 < cLine) (hD : Sub Dat H) (hl : H l = some (lst xs)) (hb : H b = some (lst ys)) (hx : ∀ y ∈ xs, PairAt Dat key y) (hy : ∀ y ∈ ys, PairAt Dat key y)
    (h : Q (.bool (decide (xs.map key = ys.map key))) H m) : WF c A L (compareOp .Eq (.ref l) (.ref b)) H m Q := fun s I hL hn => by
  by_cases hlen : xs.length = ys.length
  · refine eq_listAt (I.isList hl) (I.isList hb) (by simpa using hlen) (by omega) (list_eqP I hD hx hy hu hlen) ?_
    rw [all_keys hlen]
    exact ⟨H, m, I, hL, hn, h⟩
  · refine eq_list_lengthsAt (I.isList hl) (I.isList hb) (by simpa using hlen) (by omega) ?_
    rw [map_ne_of_length hlen] at h
    exact ⟨H, m, I, hL, hn, h⟩
theorem f_neP {l b : Addr} {xs ys : List Value} {Q : Value → HM → Loc → Prop} (hu : A.units + 1 < cLine) (hD : Sub Dat H) (hl : H l = some (lst xs)) (hb : H b = some (lst ys)) (hx : ∀ y ∈ xs, PairAt Dat key y) (hy : ∀ y ∈ ys, PairAt Dat key y)
    (h : Q (.bool (!decide (xs.map key = ys.map key))) H m) : WF c A L (compareOp .NotEq (.ref l) (.ref b)) H m Q := fun s I hL hn => by
  by_cases hlen : xs.length = ys.length
  · refine RcNeAt.lists (I.isList hl) (I.isList hb) (by simpa using hlen) (by omega) (list_eqP I hD hx hy hu hlen) c.prog c.w _ _ ?_
    rw [all_keys hlen]
    exact ⟨H, m, I, hL, hn, h⟩
  · refine RcNeAt.lists_lengths (I.isList hl) (I.isList hb) (by simpa using hlen) (by omega) c.prog c.w _ _ ?_
    rw [map_ne_of_length hlen] at h
    exact ⟨H, m, I, hL, hn, h⟩
theorem f_isNotSelf {a : Addr} {Q : Value → HM → Loc → Prop} (h : Q (.bool false) H m) : WF c A L (compareOp .IsNot (.ref a) (.ref a)) H m Q := fun s I hL hn => wpAny_isNot_ref_self ⟨H, m, I, hL, hn, h⟩
theorem f_newListP {vs : List Value} {P : OP} {Q : Value → HM → Loc → Prop} (hz : vs.length < 1000) (hP : P { cls := .type "list", dict := none, data := .seq vs.toArray, slots := #[] }) (h : ∀ a, H a = none → Own c a → a ≠ L → Q (.ref a) (upd H a P) m) : WF c A L (newList vs) H m Q := fun s I hL hn => by
  obtain ⟨I', hL', hn', hf, ho, hne⟩ := new_frame (P := P) (t := s.toks) I hL hn rfl (o := { cls := .type "list", data := .seq vs.toArray }) rfl hP
  exact wpAny_newList ⟨_, m, I', hL', hn', h _ hf ho hne⟩ (by simp [sizeLine]; omega)
end
end
section
/-- an exception that has no context -/
noncomputable def excP : OP := fun o => ∃ vs, o.data = .fields vs ∧ vs[2]? = some .none
/-- nothing is being handled, or such an exception -/
noncomputable def HandOK (A : Around) (H : HM) : Prop := A.handled = none ∨ ∃ e, A.handled = some (.ref e) ∧ H e = some excP
theorem HandOK.mono {A : Around} {H H' : HM} (h : HandOK A H) (hs : Sub H H') : HandOK A H' := h.imp id fun ⟨e, x, y⟩ => ⟨e, x, hs _ _ y⟩
theorem entry_unchain : entryFor table "proto.unchain" = some Builtin.«proto.unchain» := entryFor_of_fast (by kernel_rfl)
section
variable {prog : Program} {w : World} {A : Around} {E : Value → Shared → Prop} {s : Shared}
theorem unchain_none {e h : Value} {ha : Addr} {oh : Obj} {vs : Array Value} {Q : Value → Shared → Prop} (ho : s.heap.get? ha = some oh) (hd : oh.data = .fields vs) (h2 : vs[2]? = some .none) (hq : Q .none s) :
    wpAny (model prog w) A (runValue (.builtin "proto.unchain" ⟨[e, .ref ha, .ref ha, .bool false], []⟩)) Q E s := by
  refine wpAny_runValue (codeAny_builtin entry_unchain ?_)
  unfold Builtin.«proto.unchain»
  refine wpAny_bind (m := field (.ref ha) 2) (wpAny_field ho hd h2 ?_)
  exact wpAny_pure hq
/-- StopIteration leaves, whatever is being handled -/
theorem raise_stop {α : Type} {e : Addr} {Q : α → Shared → Prop} {fs : Array Value} (he : s.heap.get? e = some { cls := .type "StopIteration", data := .fields fs }) (hz : 2 < fs.size)
    (hh : A.handled = none ∨ ∃ a o vs, A.handled = some (.ref a) ∧ a ≠ e ∧ s.heap.get? a = some o ∧ o.data = .fields vs ∧ vs[2]? = some .none)
    (hE : ∀ h', Heap.ExtBut e s.heap h' → (∃ o, h'.get? e = some o ∧ o.cls = .type "StopIteration") → E (.ref e) { s with heap := h' }) : wpAny (model prog w) A (raiseNew (.ref e) : Sem α) Q E s := by
  unfold raiseNew
  refine wpAny_bind (wpAny_handled ?_)
  rcases hh with hh | ⟨a, o, vs, hh, hne, ho, hd, h2⟩
  · rw [hh]
    exact wpAny_bind (wpAny_pure (wpAny_throw (hE s.heap (.refl _ _) ⟨_, he, rfl⟩)))
  · rw [hh]
    have hb : (Value.ref a != Value.ref e) = true := by simp [bne_iff_ne, hne]
    dsimp only
    rw [hb]
    simp only [if_true]
    refine wpAny_bind (wpAny_holding (unchain_none (h := .none) ho hd h2 ?_))
    refine wpAny_bind ?_
    unfold updateField
    refine wpAny_bind (wpAny_load he ?_)
    dsimp only
    rw [if_pos hz]
    refine wpAny_update he (wpAny_throw (hE _ (Heap.SameBut.update ..).extBut ⟨_, Heap.get?_update_self _ he rfl, rfl⟩))
theorem pyNext_list_endH {it l : Addr} {i : Nat} {items : Array Value} {Q : Option Value → Shared → Prop}
    (hh : A.handled = none ∨ ∃ a o vs, A.handled = some (.ref a) ∧ s.heap.get? a = some o ∧ a ≠ it ∧ o.data = .fields vs ∧ vs[2]? = some .none)
    (hit : s.heap.IsListIter it l i) (hl : s.heap.IsList l items) (hx : items[i]? = none)
    (hQ : ∀ h', Heap.ExtBut it s.heap h' → Q none { s with heap := h' }) : wpAny (model prog w) A (pyNext (.ref it)) Q E s := by
  obtain ⟨o, ho, hc, hd⟩ := id hit
  obtain ⟨ol, hol, _, nl, hdl⟩ := hl
  unfold pyNext
  refine wpAny_bind (wpAny_attempt (wpAny_callSpecial?_slot (name := Str.ofString "__next__") hit.typeIs slot_listiter_next
    (wpAny_call_entry slot_listiter_next hit.typeIs entry_listiter_next ?_ (args_listiter_next _))))
  show wpAny _ _ (field (.ref it) 0 >>= _) _ _ s
  refine wpAny_bind (wpAny_field ho hd (x := .ref l) rfl ?_)
  show wpAny _ _ (if (Value.ref l == Value.none) = true then _ else _) _ _ s
  rw [if_neg (show ¬ ((Value.ref l == Value.none) = true) from Bool.false_ne_true)]
  show wpAny _ _ (field (.ref it) 1 >>= _) _ _ s
  refine wpAny_bind (wpAny_field ho hd (x := .int i 0) rfl ?_)
  show wpAny _ _ (seqItems? (.ref l) >>= _) _ _ s
  refine wpAny_bind (wpAny_seqItems hol hdl ?_)
  simp only [Int.toNat_natCast, hx]
  refine wpAny_bind (wpAny_rule (wpAny_bind (wpAny_setField ho hd (by simp) ?_)))
  show wpAny _ _ (newExc (.type "StopIteration") [] >>= _) _ _ _
  refine wpAny_bind ?_
  simp only [newExc, newTuple]
  refine wpAny_bind (wpAny_newObj_type ?_ (by size_fits))
  refine wpAny_bind (m := firstArgMember _ _) (wpAny_of_eq (a := Value.none) (by first | rfl | (simp only [firstArgMember]; rfl)) ?_)
  refine wpAny_newObj_type ?_ (by size_fits)
  have ext : Heap.ExtBut it s.heap (((s.heap.update it (Obj.mapFields (·.setIfInBounds 0 .none))).push { cls := .type "tuple", data := .seq ([] : List Value).toArray })) := (Heap.SameBut.update ..).extBut.push _
  refine raise_stop (fs := _) (Heap.get?_push_size _ rfl) (by simp [ownMembersOf]) ?_ (fun h' hs' he => ?_)
  · refine hh.imp id fun ⟨a, oa, vs, h1, h2, h3, h4, h5⟩ => ⟨a, oa, vs, h1, ?_, ?_, h4, h5⟩
    · exact Nat.ne_of_lt (Heap.lt_size (ext a oa h3 h2))
    · exact Heap.get?_push_of_some _ (ext a oa h3 h2)
  · obtain ⟨oe, hoe, hce⟩ := he
    refine wpAny_bind (wpAny_isInstance (T := "StopIteration") (b := true) ⟨oe, hoe, hce⟩ isSubtype_stop ?_)
    exact wpAny_pure (hQ _ fun b o' hb e => hs' b o' (Nat.ne_of_lt (Heap.lt_size (ext b o' hb e))) (Heap.get?_push_of_some _ (ext b o' hb e)))
end
section
variable {α β : Type} {c : Cx} {A : Around} {L : Addr} {H : HM} {m : Loc} {env : Env}
theorem f_nextL0H {l it : Addr} {xs : List Value} {i : Nat} {Q : Option Value → HM → Loc → Prop} (hh : HandOK A H) (hit : H it = some (lit l i)) (ho : Own c it) (hl : H l = some (lst xs)) (hx : xs.length ≤ i) (h : Q none (del H it) m) :
    WF c A L (pyNext (.ref it)) H m Q := fun s I hL hn => by
  have hne : it ≠ L := by rintro rfl; rw [hL] at hit; cases hit
  have hh' : A.handled = none ∨ ∃ a o vs, A.handled = some (.ref a) ∧ s.heap.get? a = some o ∧ a ≠ it ∧ o.data = .fields vs ∧ vs[2]? = some .none := hh.imp id fun ⟨e, x, y⟩ => by
    obtain ⟨o, hoo, vs, hd, h2⟩ := I.rep _ _ y
    refine ⟨e, o, vs, x, hoo, ?_, hd, h2⟩
    rintro rfl
    obtain ⟨o', hoo', hc, hd'⟩ := I.rep _ _ hit
    rw [hoo] at hoo'
    cases hoo'
    rw [hd] at hd'
    cases hd'
    simp at h2
  exact pyNext_list_endH hh' (I.rep _ _ hit) (I.isList hl) (by simpa using hx) fun h' hs => ⟨_, m, I.lost ho hs s.toks, by rw [del_ne (Ne.symm hne)]; exact hL, ns_extBut hn hs (Ne.symm hne), h⟩
end
end
section
noncomputable def envC (i : Nat) (qual : Str) (cdv : Value) (f L : Addr) : Env :=
  { scope := scopeOf (stm i), locals := L, globals := mainGlobals, cells := cellsFrom (L + 1) (scopeOf (stm i)).names [], qual := qual ++ ".<locals>.", func := some f, code := cdv, frame := some L, builtins := builtinsNs }
noncomputable def addCells (H : HM) (cm : Loc) : List (Str × Addr) → HM
  | [] => H
  | (n, a) :: r => upd (addCells H cm r) a (isCell (cm n))
theorem addCells_none {H : HM} {cm : Loc} {a : Addr} : ∀ {cs : List (Str × Addr)}, H a = none → (∀ x ∈ cs, x.2 ≠ a) → addCells H cm cs a = none
  | [], h, _ => h
  | (n, b) :: r, h, hn => by
    rw [addCells, upd_ne (Ne.symm (hn (n, b) List.mem_cons_self))]
    exact addCells_none h fun x hx => hn x (List.mem_cons_of_mem _ hx)
theorem Inv.addCells {c : Cx} {H : HM} {cm : Loc} {s : Shared} (I : Inv c H s) : ∀ (cs : List (Str × Addr)), (∀ x ∈ cs, s.heap.IsCell x.2 (cm x.1) ∧ Own c x.2) → Inv c (Mine.addCells H cm cs) s
  | [], _ => I
  | (n, a) :: r, h => by
    have I' := Inv.addCells I r fun x hx => h x (List.mem_cons_of_mem _ hx)
    obtain ⟨⟨o, ho, hd⟩, hown⟩ := h (n, a) List.mem_cons_self
    have := I'.turnO (P' := isCell (cm n)) (h' := s.heap) hown (.refl _ _) ho hd s.toks
    exact this
noncomputable def AllLook (cs : List (Str × Addr)) : List (Str × Addr) → Prop
  | [] => True
  | x :: r => cs.lookup x.1 = some x.2 ∧ AllLook cs r
theorem AllLook.get {cs : List (Str × Addr)} : ∀ {l : List (Str × Addr)}, AllLook cs l → ∀ x ∈ l, cs.lookup x.1 = some x.2
  | _ :: _, h, _, .head _ => h.1
  | _ :: _, h, _, .tail _ hx => h.2.get _ hx
/-- a frame with one cell, with two -/
theorem cells1 {c : Cx} {H : HM} {L : Addr} (P : OP) (hL : ∀ a, L ≤ a → H a = none ∧ Own c a) (hb : Bs c H) :
    ∃ H1, upd H (L + 1) P = H1 ∧ Sub H H1 ∧ H1 (L + 1) = some P ∧ Bs c H1 ∧ H1 L = none ∧ Own c (L + 1) := by
  have o1 := hL (L + 1) (Nat.le_add_right L 1)
  refine ⟨_, rfl, Sub.upd_new (Sub.refl _) o1.1, upd_same .., hb.updO o1.2, ?_, o1.2⟩
  rw [upd_ne (Nat.ne_of_lt (Nat.lt_succ_self _))]; exact (hL L (Nat.le_refl _)).1
theorem cells2 {c : Cx} {H : HM} {L : Addr} (P P' : OP) (hL : ∀ a, L ≤ a → H a = none ∧ Own c a) (hb : Bs c H) :
    ∃ H1, upd (upd H (L + 1) P) (L + 1 + 1) P' = H1 ∧ Sub H H1 ∧ H1 (L + 1) = some P ∧ H1 (L + 1 + 1) = some P' ∧ Bs c H1 ∧ H1 L = none ∧ Own c (L + 1) ∧ Own c (L + 1 + 1) := by
  have o1 := hL (L + 1) (Nat.le_add_right L 1)
  have o2 := hL (L + 1 + 1) (Nat.le_add_right L 2)
  have hne : L + 1 ≠ L + 1 + 1 := Nat.ne_of_lt (Nat.lt_succ_self _)
  refine ⟨_, rfl, Sub.upd_new (Sub.upd_new (Sub.refl _) o1.1) o2.1, by rw [upd_ne hne, upd_same], upd_same .., (hb.updO o1.2).updO o2.2, ?_, o1.2, o2.2⟩
  rw [upd_ne (Nat.ne_of_lt (Nat.lt_succ_of_lt (Nat.lt_succ_self _))), upd_ne (Nat.ne_of_lt (Nat.lt_succ_self _))]; exact (hL L (Nat.le_refl _)).1
section
variable {c : Cx} {A : Around} {H : HM}
theorem Inv.above {s : Shared} (I : Inv c H s) {a : Addr} (h : s.heap.objs.size ≤ a) : H a = none ∧ Own c a := by
  have h1 : H a = none := by
    cases e : H a with
    | none => rfl
    | some P =>
      obtain ⟨o, ho, _⟩ := I.rep _ _ e
      exact absurd (Heap.lt_size ho) (Nat.not_lt.mpr h)
  exact ⟨h1, Bs.own I.base h1⟩
theorem w_callFnC {f : Addr} {i : Nat} {dV kV : Value} {args : List Value} {binds : List (Str × Value)} {Q : Value → HM → Prop} (ok : c.Ok) (F : FnAt c f i dV kV) (hroom : A.depth < recursionLimit)
    (hbind : ∀ nm qual doc pm an cdv ct, bindArgs (fnOf nm qual (paramsOf (stm i)) (bodyOf (stm i)) (scopeOf (stm i)) dV kV doc pm an cdv ct) ⟨args, []⟩ = pure binds)
    (hkind : (binds.all fun y => (scopeOf (stm i)).names.lookup y.1 == some .local || (scopeOf (stm i)).names.lookup y.1 == some .cell) = true)
    (hcs : ∀ L, AllLook (cellsFrom (L + 1) (scopeOf (stm i)).names []) (cellsFrom (L + 1) (scopeOf (stm i)).names []))
    (hco : (scopeOf (stm i)).isCoroutine = false) (hgen : (scopeOf (stm i)).isGenerator = false) (hk : (scopeOf (stm i)).kind = .function)
    (h : Bs c H → ∀ qual cdv L, (∀ a, L ≤ a → H a = none ∧ Own c a) → WF c (A.deeper (envC i qual cdv f L)) L (execs (bodyOf (stm i)) (envC i qual cdv f L))
      (addCells H (bindC (envC i qual cdv f L).kindOf binds fun _ => none) (envC i qual cdv f L).cells) (bindL (envC i qual cdv f L).kindOf binds fun _ => none) (End c Q)) :
    W c A (call (.ref f) args) H Q := by
  obtain ⟨oc, od, osl, nm, qual, doc, pm, an, cdv, ct, ho, hcd⟩ := F
  intro s I
  have hab : ∀ a, s.heap.objs.size ≤ a → H a = none ∧ Own c a := fun a ha => I.above ha
  refine wpAny_call (codeAny_call_cells (fd := fnOf nm qual (paramsOf (stm i)) (bodyOf (stm i)) (scopeOf (stm i)) dV kV doc pm an cdv ct) hroom (I.keeps _ _ ho) rfl (ok.nolimit.keeps I.keeps) (hcd.keeps I.keeps) rfl
    (hbind nm qual doc pm an cdv ct) rfl (kindsX hkind _) (fun s₁ X => ?_) hco hgen hk)
  have he : callEnvC (fnOf nm qual (paramsOf (stm i)) (bodyOf (stm i)) (scopeOf (stm i)) dV kV doc pm an cdv ct) s.heap.objs.size f = envC i qual cdv f s.heap.objs.size := rfl
  rw [he] at X ⊢
  obtain ⟨h₁, tk, rfl⟩ := X.toInCall.same
  have I₁ : Inv c H { s with heap := h₁, toks := tk } := I.keep X.toInCall.keep tk
  have hcells : ∀ x ∈ (envC i qual cdv f s.heap.objs.size).cells, h₁.IsCell x.2 (bindC (envC i qual cdv f s.heap.objs.size).kindOf binds (fun _ => none) x.1) ∧ Own c x.2 := fun x hx => by
    have hlt := X.above x.1 x.2 hx
    refine ⟨?_, (hab _ (Nat.le_of_lt hlt)).2⟩
    exact X.cell _ _ ((hcs _).get x hx)
  have I₂ := Inv.addCells (cm := bindC (envC i qual cdv f s.heap.objs.size).kindOf binds fun _ => none) I₁ _ hcells
  have hL : addCells H (bindC (envC i qual cdv f s.heap.objs.size).kindOf binds fun _ => none) (envC i qual cdv f s.heap.objs.size).cells s.heap.objs.size = none :=
    addCells_none (hab _ (Nat.le_refl _)).1 fun x hx => Nat.ne_of_gt (X.above x.1 x.2 hx)
  refine wpAny_mono (h I.base qual cdv s.heap.objs.size hab _ I₂ hL X.toInCall.ns) (fun fl s' hq => ?_) fun _ _ e => e.elim
  refine fx hq fun H' m' I' hL' hn' zq => ?_
  obtain ⟨H'', hsub, hb, q⟩ := zq
  cases fl <;> exact ⟨H'', I'.sub hsub hb, q⟩
end
end
section
theorem Sub.none_of {H H' : HM} {a : Addr} (h : Sub H H') (hn : H' a = none) : H a = none := by
  cases e : H a with
  | none => rfl
  | some P => have := h _ _ e; rw [hn] at this; cases this
theorem Sub.ne_of {H H' : HM} {a b : Addr} {P : OP} (h : Sub H H') (hb : H b = some P) (hn : H' a = none) : b ≠ a := by
  rintro rfl; have := h _ _ hb; rw [hn] at this; cases this
theorem Sub.trans_upd {H H' : HM} {a : Addr} {P P' : OP} (h : Sub (upd H a P) H') : Sub (upd H a P') (upd H' a P') := fun b Q e => by
  by_cases hb : b = a
  · subst hb; rw [upd_same] at e ⊢; exact e
  · rw [upd_ne hb] at e ⊢; exact h b Q (by rw [upd_ne hb]; exact e)
theorem Sub.put {H H' : HM} {a : Addr} {P : OP} (h : Sub H H') (ha : H' a = some P) : Sub (upd H a P) H' := fun b Q e => by
  by_cases hb : b = a
  · subst hb; rw [upd_same] at e; cases e; exact ha
  · rw [upd_ne hb] at e; exact h b Q e
/-- a heap with one thing more, and all that matters of it -/
theorem abst {H : HM} {a : Addr} (P : OP) (h : H a = none) : ∃ H', upd H a P = H' ∧ Sub H H' ∧ H' a = some P := ⟨_, rfl, Sub.upd_new (Sub.refl _) h, upd_same ..⟩
theorem range_filter (p : Value → Bool) : ∀ xs : List Value, ((List.range xs.length).filter fun i => p (xs.getD i .none)).map (fun i => xs.getD i .none) = xs.filter p := fun xs => by
  have h : (List.range xs.length).map (fun i => xs.getD i .none) = xs := by
    apply List.ext_getElem
    · simp
    · intro i h1 h2; simp at h1 ⊢; simp [h2]
  calc _ = ((List.range xs.length).map (fun i => xs.getD i .none)).filter p := by rw [List.filter_map]; rfl
    _ = _ := by rw [h]
section
variable {α β : Type} {c : Cx} {A : Around} {L : Addr} {H : HM} {m : Loc} {env : Env}
theorem f_And {a b : PySem.Expr} {pos : Pos} {Q : Value → HM → Loc → Prop} (h : WF c A L (eval a env) H m (fun v H₁ m₁ => WF c A L (truthy v) H₁ m₁ (fun t H₂ m₂ => if t then WF c A L (eval b env) H₂ m₂ Q else Q v H₂ m₂))) :
    WF c A L (eval (.BoolOp .And [a, b] pos) env) H m Q := fun s I hL hn => by
  refine wpAny_And2 (wpAny_mono (h s I hL hn) (fun v s₁ zx => fx zx fun H₁ m₁ I₁ hL₁ hn₁ q => wpAny_mono (q s₁ I₁ hL₁ hn₁) (fun t s₂ zx => fx zx fun H₂ m₂ I₂ hL₂ hn₂ q => ?_) fun _ _ e => e) fun _ _ e => e)
  cases t with
  | false => exact ⟨H₂, m₂, I₂, hL₂, hn₂, q⟩
  | true => exact q s₂ I₂ hL₂ hn₂
theorem f_of_eq {t : Sem α} {a : α} {Q : α → HM → Loc → Prop} (e : t = pure a) (h : Q a H m) : WF c A L t H m Q := e ▸ f_pure h
theorem f_tests0 {Q : Bool → HM → Loc → Prop} (h : Q true H m) :
    WF c A L (forIn ([] : List PySem.Expr) true fun c r => if r = true then do let ok ← isTrue c env (eval c env); pure (ForInStep.yield ok) else pure (ForInStep.yield r)) H m Q := fun s I hL hn => wpAny_tests_nil ⟨H, m, I, hL, hn, h⟩
theorem f_tests1 {e : PySem.Expr} {Q : Bool → HM → Loc → Prop} (h : WF c A L (isTrue e env (eval e env)) H m Q) :
    WF c A L (forIn [e] true fun c r => if r = true then do let ok ← isTrue c env (eval c env); pure (ForInStep.yield ok) else pure (ForInStep.yield r)) H m Q := fun s I hL hn => wpAny_tests_one (h s I hL hn)
/-- how an iterator goes: P i what it is behind i items, V what they are; Src what must stand -/
structure IterOK (c : Cx) (A : Around) (it : Addr) (P : Nat → OP) (n : Nat) (V : Nat → Value → Prop) (Src : HM) : Prop where
  own : Own c it
  off : Src it = none
  self : ∀ (C : Addr) (i : Nat) (H : HM) (m : Loc) (Q : Value → HM → Loc → Prop), H it = some (P i) → Q (.ref it) H m → WF c A C (pyIter (.ref it)) H m Q
  next : ∀ (C : Addr) (i : Nat) (H : HM) (m : Loc) (Q : Option Value → HM → Loc → Prop), i < n → Sub Src H → H it = some (P i) → (∀ v, V i v → Q (some v) (upd H it (P (i + 1))) m) → WF c A C (pyNext (.ref it)) H m Q
  done : ∀ (C : Addr) (H : HM) (m : Loc) (Q : Option Value → HM → Loc → Prop), Sub Src H → H it = some (P n) → Q none (del H it) m → WF c A C (pyNext (.ref it)) H m Q
theorem iter_list {l it : Addr} {xs : List Value} {Src : HM} (ho : Own c it) (hoff : Src it = none) (hh : HandOK A Src) (hl : Src l = some (lst xs)) : IterOK c A it (lit l) xs.length (fun i v => xs[i]? = some v) Src where
  own := ho
  off := hoff
  self := fun C i H m Q hit q => f_iterLit hit q
  next := fun C i H m Q hi hs hit q => f_nextL (x := xs[i]) hit ho (hs _ _ hl) (by simp [hi]) (q _ (by simp [hi]))
  done := fun C H m Q hs hit q => f_nextL0H (hh.mono hs) hit ho (hs _ _ hl) (Nat.le_refl _) q
theorem iter_range {it : Addr} {a : Int} {n : Nat} {Src : HM} (ho : Own c it) (hoff : Src it = none) (hh : A.handled = none) : IterOK c A it (fun i => rit (a + i) ((n : Int) - i) 1) n (fun i v => ∃ t, v = .int (a + i) t) Src where
  own := ho
  off := hoff
  self := fun C i H m Q hit q => f_iterRit hit q
  next := fun C i H m Q hi hs hit q => f_nextR hit ho (by omega) (fun t => by
    have e1 : a + (i : Int) + 1 = a + ((i + 1 : Nat) : Int) := by omega
    have e2 : (n : Int) - i - 1 = (n : Int) - ((i + 1 : Nat) : Int) := by omega
    rw [e1, e2]; exact q _ ⟨t, rfl⟩)
  done := fun C H m Q hs hit q => f_nextR0 hh hit ho (by omega) q
/-- a comprehension by one name whose tests and element leave the heap as it is -/
theorem compW_pure {elt : PySem.Expr} {ifs : List PySem.Expr} {x : Str} {px : Pos} {scope : Scope} {cl : List (Str × Addr)} {it : Addr} {P : Nat → OP} {n : Nat} {V : Nat → Value → Prop} {Src : HM} {Q : Addr → HM → Prop}
    (K : IterOK c A it P n V Src) (hn : n < 900) (hL : H L = none) (hit : H it = some (P 0)) (hS : Sub Src H) (ok : Nat → Bool) (e : Nat → Value)
    (hx : scope.names.lookup x = some .local) (hkind : scope.kind = .function)
    (turn : ∀ C i v Hc mc, i < n → V i v → mc x = some v → Sub (del (upd H L (isNs m)) it) Hc → Hc C = none →
      WF c A C (forIn ifs true fun c r => if r = true then do let ok ← isTrue c (compEnvC scope cl C env) (eval c (compEnvC scope cl C env)); pure (ForInStep.yield ok) else pure (ForInStep.yield r)) Hc mc
        (fun b H₄ m₄ => b = ok i ∧ Sub Hc H₄ ∧ (ok i = true → WF c A C (eval elt (compEnvC scope cl C env)) H₄ m₄ (fun y H₅ _ => y = e i ∧ Sub Hc H₅))))
    (done : ∀ D, H D = none → Own c D → D ≠ L → Q D (upd (del H it) D (lst (((List.range n).filter ok).map e)))) :
    CompW c A L elt (.Name x px) ifs scope cl env (.ref it) H m Q := by
  refine ⟨fun C H' m' Q' hs q => K.self C 0 H' m' Q' (hs _ _ hit) q, fun D C hD hDo hDL hC hCo hCL hCD hb => ?_⟩
  have hitD : it ≠ D := by rintro rfl; rw [hD] at hit; cases hit
  have hitL : it ≠ L := by rintro rfl; rw [hL] at hit; cases hit
  have hitC : it ≠ C := by rintro rfl; rw [hC] at hit; cases hit
  have hbL : Bs c (upd H L (isNs m)) := hb.new hL
  -- the heap between the turns
  have hHc : ∀ acc i, upd (upd (upd H L (isNs m)) D (lst acc)) it (P i) C = none := fun acc i => by rw [upd_ne (Ne.symm hitC), upd_ne hCD, upd_ne hCL]; exact hC
  have hsrc : ∀ acc i, Sub Src (upd (upd (upd H L (isNs m)) D (lst acc)) it (P i)) := fun acc i =>
    Sub.upd_new (Sub.upd_new (Sub.upd_new hS (hS.none_of hL)) (hS.none_of hD)) K.off
  have hdel : ∀ acc i, Sub (del (upd H L (isNs m)) it) (upd (upd (upd H L (isNs m)) D (lst acc)) it (P i)) := fun acc i b P' e => by
    have hb : b ≠ it := by rintro rfl; simp [del] at e
    rw [del_ne hb] at e
    have hbD : b ≠ D := by rintro rfl; rw [upd_ne hDL, hD] at e; cases e
    rw [upd_ne hb, upd_ne hbD]; exact e
  refine ⟨fun k H' m' => ∃ i, k = n - i ∧ i ≤ n ∧ H' = upd (upd (upd H L (isNs m)) D (lst (((List.range i).filter ok).map e))) it (P i), n - 0, ⟨0, rfl, Nat.zero_le _, ?_⟩, ?_⟩
  · show _ = upd (upd (upd H L (isNs m)) D (lst [])) it (P 0)
    have e0 : upd (upd H L (isNs m)) D (lst []) it = some (P 0) := by rw [upd_ne hitD, upd_ne hitL]; exact hit
    exact (upd_self e0).symm
  rintro k H₁ m₁ ⟨i, rfl, hi, rfl⟩
  by_cases hlt : i < n
  · refine K.next C i _ m₁ _ hlt (hsrc _ _) (upd_same ..) (fun v hv => ?_)
    rw [upd_upd]
    show WF _ _ _ _ _ _ _
    refine f_of_eq (a := ()) rfl ?_
    refine f_assignN (f_storeL ?_ (lookup_relabel_local hx) (by simp [compEnvC, relabel, hkind]) rfl)
    have hacc : (((List.range i).filter ok).map e).length < 1000 := by
      have := List.length_filter_le ok (List.range i)
      simp at this ⊢; omega
    refine f_mono (turn C i v _ _ hlt hv setL_eq (hdel _ _) (hHc _ _)) fun b H₄ m₄ z => ?_
    obtain ⟨rfl, hsub, z⟩ := z
    have hrange : (List.range (i + 1)).filter ok = (List.range i).filter ok ++ (if ok i then [i] else []) := by
      rw [List.range_succ, List.filter_append]; simp [List.filter_cons]
    cases hok : ok i with
    | false =>
      simp only [Bool.false_eq_true, if_false]
      refine ⟨n - (i + 1), _, by omega, hsub, (hbL.updO hDo).updO K.own, i + 1, rfl, hlt, ?_⟩
      rw [hrange, hok]; simp
    | true =>
      simp only [if_true]
      refine f_mono (z hok) fun y H₅ m₅ z => ?_
      obtain ⟨rfl, hsub5⟩ := z
      have hD5 : H₅ D = some (lst (((List.range i).filter ok).map e)) := hsub5 _ _ (by rw [upd_ne (Ne.symm hitD), upd_same])
      refine f_append hD5 hacc ?_
      refine ⟨n - (i + 1), upd (upd (upd H L (isNs m)) D (lst (((List.range i).filter ok).map e ++ [e i]))) it (P (i + 1)), by omega, ?_, (hbL.updO hDo).updO K.own, i + 1, rfl, hlt, ?_⟩
      · intro b P' eb
        by_cases hbD : b = D
        · subst hbD; rw [upd_ne (Ne.symm hitD), upd_same] at eb; rw [upd_same]; exact eb
        · rw [upd_ne hbD]
          refine hsub5 b P' ?_
          by_cases hbi : b = it
          · subst hbi; rw [upd_same] at eb ⊢; exact eb
          · rw [upd_ne hbi, upd_ne hbD] at eb ⊢; exact eb
      · rw [hrange, hok]; simp
  · have hin : i = n := by omega
    subst hin
    refine K.done C _ m₁ _ (hsrc _ _) (upd_same ..) ?_
    refine ⟨upd (del H it) D (lst (((List.range i).filter ok).map e)), ?_, ?_, ?_, done D hD hDo hDL⟩
    · intro b P' eb
      have hbit : b ≠ it := by
        rintro rfl
        by_cases h1 : b = L
        · exact hitL h1
        · rw [upd_ne h1, upd_ne hitD] at eb; simp [del] at eb
      rw [del_ne hbit, upd_ne hbit]
      by_cases h1 : b = L
      · subst h1; rw [upd_same] at eb; rw [upd_ne (Ne.symm hDL), upd_same]; exact eb
      · rw [upd_ne h1] at eb
        by_cases h2 : b = D
        · subst h2; rw [upd_same] at eb ⊢; exact eb
        · rw [upd_ne h2, del_ne hbit] at eb
          rw [upd_ne h2, upd_ne h1]; exact eb
    · rw [upd_ne (Ne.symm hDL), del_ne (Ne.symm hitL)]; exact hL
    · exact (hb.delO K.own).updO hDo
end
end
section
open PySem.SeqAt
open AutoSeq1 (wpAny_loadPart')
/-- list.remove, by an equality that looks at the heap: j is the first place that fits -/
theorem rm_loop (l : Addr) (items : Array Value) (n : Nat) (x : Value) (e : Value → Bool) (j : Nat) (hj : j < items.size) (hit : e items[j] = true) (hno : ∀ m (hm : m < items.size), m < j → e items[m] = false) (hz : items.size ≤ sizeLine) (k : Nat) :
    ∀ i : Nat, j = i + k → Meets (Builtin.«list.remove.loop» ⟨[.ref l, x, rawInt i], []⟩)
      (fun A R s => s.heap.get? l = some { cls := .type "list", dict := none, data := .seq items n, slots := #[] } ∧ (∀ y, y ∈ items → EqAt A.in1 s y x (e y)) ∧
        R (.ok (.ret .none)) { s with heap := s.heap.update l (Obj.mapSeq fun xs => xs.eraseIdxIfInBounds j) }) := by
  induction k with
  | zero =>
    rintro i rfl prog w A R ⟨hp, g, d, tk, os⟩ ⟨hl, he, h⟩
    wp_walk using wpAny_loadPart' hl
    rw [show items[((j : Nat) : Int).toNat]? = some items[j] by simp [hj]]
    refine wpAny_bind (he _ (Array.getElem_mem hj) prog w _ _ ?_)
    rw [hit]
    wp_walk using (wpAny_updateSeq hl rfl (hz := hz) (_hz' := Nat.le_trans (by simp [Array.eraseIdxIfInBounds]; split <;> simp) (Nat.le_succ_of_le hz))), wpAny_loadPart' hl
    simpa using h
  | succ k ih =>
    rintro i rfl prog w A R ⟨hp, g, d, tk, os⟩ ⟨hl, he, h⟩
    have hlt : i < items.size := by omega
    wp_walk using wpAny_loadPart' hl
    rw [show items[((i : Nat) : Int).toNat]? = some items[i] by simp [hlt]]
    refine wpAny_bind (he _ (Array.getElem_mem hlt) prog w _ _ ?_)
    rw [hno i hlt (by omega)]
    wp_walk
    rw [show ((i : Int) + 1) = ((i + 1 : Nat) : Int) by push_cast; rfl]
    exact ⟨plainId_quiet MeetsSeq.plain_remove_loop _, codeAny_builtin MeetsSeq.entry_remove_loop (by
      rw [Around.under_plainId MeetsSeq.plain_remove_loop _]
      exact ih (i + 1) (by omega) prog w A R _ ⟨hl, he, h⟩)⟩
section
variable {α β : Type} {c : Cx} {A : Around} {L : Addr} {H Dat : HM} {m : Loc} {env : Env} {key : Value → Key}
theorem f_remove {l : Addr} {xs : List Value} {x : Value} {j : Nat} {Q : Value → HM → Loc → Prop} (hu : A.units + 2 < cLine) (hD : Sub Dat H) (hl : H l = some (lst xs)) (hz : xs.length < 1000) (hx : ∀ y ∈ xs, PairAt Dat key y) (hv : PairAt Dat key x)
    (hj : xs.findIdx? (fun y => decide (key y = key x)) = some j) (h : Q .none (upd H l (lst (xs.eraseP fun y => decide (key y = key x)))) m) : WF c A L (call (.builtin "list.remove") [.ref l, x]) H m Q := fun s I hL hn => by
  obtain ⟨hjl, hjt, hjn⟩ := List.findIdx?_eq_some_iff_getElem.mp hj
  have he : xs.eraseP (fun y => decide (key y = key x)) = xs.eraseIdx j := by rw [List.eraseP_eq_eraseIdx, hj]
  rw [he] at h
  obtain ⟨n, ho⟩ := I.lst hl
  obtain ⟨I', hL', hn'⟩ := lst_turn (ys := xs.eraseIdx j) (f := fun a => a.eraseIdxIfInBounds j) I hl hL hn ho (by
    apply Array.toList_inj.mp
    simp [Array.eraseIdxIfInBounds, hjl]) s.toks
  refine call_meets (S := fun A R s => s.heap.get? l = some { cls := .type "list", dict := none, data := .seq xs.toArray n, slots := #[] } ∧ (∀ y, y ∈ xs.toArray → EqAt A.in1 s y x (decide (key y = key x))) ∧
        R (.ok (.ret .none)) { s with heap := s.heap.update l (Obj.mapSeq fun xs => xs.eraseIdxIfInBounds j) }) F.slot_list_remove (I.isList hl).typeIs F.entry_list_remove (F.args_list_remove_2 _ _) ?_ ⟨ho, fun y hy => pair_eq I hD (hx y (by simpa using hy)) hv (by show A.units + 1 < cLine; omega), _, m, I', hL', hn', h⟩
  rintro prog w A R ⟨hp, g, d, tk, os⟩ ⟨hl, he, h⟩
  wp_walk using wpAny_loadPart' hl
  exact ⟨plainId_quiet MeetsSeq.plain_remove_loop _, codeAny_builtin MeetsSeq.entry_remove_loop (by
    rw [Around.under_plainId MeetsSeq.plain_remove_loop _]
    exact rm_loop l xs.toArray n x (fun y => decide (key y = key x)) j (by simpa using hjl) (by simpa using hjt) (fun m hm hlt => by simpa using hjn m hlt) (by simp [sizeLine]; omega) _ 0 (Nat.zero_add _).symm prog w A R _ ⟨hl, he, h⟩)⟩
theorem f_listCopy {l : Addr} {xs : List Value} {Q : Value → HM → Loc → Prop} (hl : H l = some (lst xs)) (hz : xs.length < 1000) (h : ∀ D, H D = none → Own c D → D ≠ L → Q (.ref D) (upd H D (lst xs)) m) : WF c A L (call (.type "list") [.ref l]) H m Q := fun s I hL hn => by
  obtain ⟨n, ho⟩ := I.lst hl
  have hne : s.heap.objs.size ≠ L := fun e => Nat.lt_irrefl _ (e ▸ hn.lt)
  refine call_list_seq l (.inl rfl) ho rfl rfl (fun h' c' hk hD => ?_) (by simp [sizeLine]; omega)
  refine ⟨_, m, I.new (P := lst xs) ?_ hk hD ⟨_, rfl⟩ s.toks, ?_, hn.keeps hk, h _ I.fresh I.own hne⟩
  · cases e : s.heap.get? s.heap.objs.size with
    | none => rfl
    | some o => exact absurd (Heap.lt_size e) (Nat.lt_irrefl _)
  · rw [upd_ne (Ne.symm hne)]; exact hL
theorem f_Try {body orelse : List Stmt} {h₀ : ExceptHandler} {hs : List ExceptHandler} {pos : Pos} {Q : Flow → HM → Loc → Prop}
    (h : WF c A L (execs body env) H m (fun f H₁ m₁ => match f with | .next => WF c A L (execs orelse env) H₁ m₁ Q | f => Q f H₁ m₁)) : WF c A L (exec (.Try body (h₀ :: hs) orelse [] pos) env) H m Q := fun s I hL hn => by
  refine wpAny_Try_except (wpAny_mono (h s I hL hn) (fun f s₁ z => ?_) fun _ _ e => e.elim)
  refine fx z fun H₁ m₁ I₁ hL₁ hn₁ q => ?_
  cases f <;> first | exact q s₁ I₁ hL₁ hn₁ | exact ⟨H₁, m₁, I₁, hL₁, hn₁, q⟩
theorem f_specN {t : Sem Value} {P : OP} {Q : Value → HM → Loc → Prop} (h : ∀ H', Sub H H' → W c A t H' (fun v H'' => ∃ D, v = .ref D ∧ H' D = none ∧ Own c D ∧ H'' = upd H' D P)) (hQ : ∀ D, H D = none → Own c D → D ≠ L → Q (.ref D) (upd H D P) m) : WF c A L t H m Q :=
  f_of_W fun hL => w_mono (h _ (Sub.upd_new (Sub.refl H) hL)) fun v H'' ⟨D, e1, hD, ho, e2⟩ => by
    have hne : D ≠ L := by rintro rfl; rw [upd_same] at hD; cases hD
    rw [upd_ne hne] at hD
    subst e1 e2
    exact ⟨upd H D P, m, upd_comm (Ne.symm hne), by rw [upd_ne (Ne.symm hne)]; exact hL, hQ D hD ho hne⟩
theorem f_notV {v : Value} {Q : Value → HM → Loc → Prop} (h : WF c A L (truthy v) H m (fun b => Q (.bool (!b)))) : WF c A L (unaryOp .Not v) H m Q := fun s I hL hn => PyProof.Rows.not_of (h s I hL hn)
end
end
section
open PySem.SeqAt

/-! ### sorting -/
/-- a tree of questions, answered by b; only places below n are asked -/
noncomputable def ask {α : Type} (n : Nat) (b : Nat → Nat → Bool) : KasT α → Option α
  | .ret a => some a
  | .ask i j k => if i < n ∧ j < n then ask n b (k (b i j)) else none
theorem ask_wp {α : Type} {n : Nat} {b : Nat → Nat → Bool} {cmp : Nat → Nat → (Bool → Shared → Prop) → Shared → Prop} {Q : α → Shared → Prop} {s : Shared}
    (hc : ∀ i j C, i < n → j < n → C (b i j) s → cmp i j C s) : ∀ (t : KasT α) {a : α}, ask n b t = some a → Q a s → t.kasWp cmp Q s
  | .ret a, a', h, q => by cases h; exact q
  | .ask i j k, a', h, q => by
    unfold ask at h
    split at h
    · rename_i hij
      exact hc i j _ hij.1 hij.2 (ask_wp hc (k (b i j)) h q)
    · cases h
theorem ask_congr {α : Type} {n : Nat} {b b' : Nat → Nat → Bool} (hb : ∀ i j, i < n → j < n → b i j = b' i j) : ∀ (t : KasT α), ask n b t = ask n b' t
  | .ret a => rfl
  | .ask i j k => by
    unfold ask
    split
    · rename_i h; rw [hb i j h.1 h.2]; exact ask_congr hb _
    · rfl

noncomputable def sortShell (a : Addr) (b : Bool) : Sem PySem.Fin := do
    let items ← Builtin.List.listItems (.ref a)
    Builtin.List.listUpdate (.ref a) fun _ => #[]
    let before ← seqEpoch a
    let held ← newTuple items.toList
    let keyStore ← newList []
    holding [held, keyStore] do
      if b then rule "list.sort.reverse"
      let kind ← if items.size < 2 then pure general' else keyKind' items
      let ((), s) ← (if items.size < 2 then pure () else sortRuns').run (SortSt.mk' kind (if b then (items.zip items).reverse else items.zip items) #[] 7 none)
      let sorted := (arrOf s).map (·.2)
      let touched := (← seqEpoch a) != before
      Builtin.List.listUpdate (.ref a) fun _ => if b then sorted.reverse else sorted
      if let some e := failedOf s then rule "list.sort.comparison-raised"; throw e
      if touched then rule "list.sort.modified"; raiseError "ValueError" "list modified during sort"
      ret .none
theorem shell_0 (a : Addr) : Builtin.«list.sort» ⟨[.ref a], []⟩ = sortShell a false := rfl
theorem shell_k (a : Addr) : Builtin.«list.sort» ⟨[.ref a], [(Str.ofString "key", .none)]⟩ = sortShell a false := rfl
theorem shell_r (a : Addr) : Builtin.«list.sort» ⟨[.ref a], [(Str.ofString "reverse", .bool true)]⟩ = sortShell a true := rfl
theorem shell_kr (a : Addr) : Builtin.«list.sort» ⟨[.ref a], [(Str.ofString "key", .none), (Str.ofString "reverse", .bool true)]⟩ = sortShell a true := rfl

/-- what the sort gives -/
noncomputable def flip (b : Bool) (xs : List Value) : List Value := if b then xs.reverse else xs
theorem flip_length (b : Bool) (xs : List Value) : (flip b xs).length = xs.length := by unfold flip; split <;> simp
theorem flip_mem {b : Bool} {xs : List Value} {x : Value} : x ∈ flip b xs ↔ x ∈ xs := by unfold flip; split <;> simp
theorem flip_pairs (b : Bool) (vs : List Value) : (if b = true then (vs.toArray.zip vs.toArray).reverse else vs.toArray.zip vs.toArray) = pairsOf (flip b vs) := by
  cases b with
  | false => rfl
  | true =>
    simp only [if_true]
    apply Array.toList_inj.mp
    rw [Array.toList_reverse, pairsOf_toList]
    show ((vs.toArray.zip vs.toArray).toList).reverse = (vs.reverse).zip vs.reverse
    have zz : ∀ l : List Value, l.zip l = l.map fun x => (x, x) := fun l => by induction l with | nil => rfl | cons x l ih => rw [List.zip_cons_cons, ih]; rfl
    rw [show (vs.toArray.zip vs.toArray).toList = vs.zip vs by simp, zz, zz, List.map_reverse]
section
variable {c : Cx} {A : Around} {H : HM}
theorem sort_shell {a : Addr} {vs : List Value} {b : Bool} {κ : SortKind} {lt : Value → Value → Bool} {p : Array Nat} {P : PySem.Fin → Shared → Prop} {E : Value → Shared → Prop} {s : Shared} (I : Inv c H s) (ha : H a = some (lst vs)) (h2 : 2 ≤ vs.length) (h64 : vs.length < 64)
    (hkind : ∀ s', Inv c (upd H a (lst [])) s' → ∀ Q : SortKind → Shared → Prop, Q κ s' → wpAny (model c.prog c.w) A (keyKind' vs.toArray) Q E s')
    (hcmp : ∀ s', Inv c (upd H a (lst [])) s' → ∀ v ∈ vs, ∀ w ∈ vs, ∀ C : Bool → Shared → Prop, C (lt v w) s' → wpAny (model c.prog c.w) A (keyLt' κ v w) C (fun _ _ => False) s')
    (hrun : ask vs.length (fun i j => lt ((flip b vs).getD i .none) ((flip b vs).getD j .none)) (kas_sort vs.length) = some p)
    (k : ∀ s', Inv c (upd H a (lst (flip b (p.toList.map fun i => (flip b vs).getD i .none)))) s' → P (.done (.ret .none)) s') :
    wpAny (model c.prog c.w) A (sortShell a b) P E s := by
  obtain ⟨n, ho⟩ := I.lst ha
  have s1 := Heap.SameBut.update s.heap a (Obj.mapSeq fun _ => (#[] : Array Value))
  have e1 := IsL.update ho (fun _ => (#[] : Array Value))
  generalize hn1 : (if ((fun _ => (#[] : Array Value)) vs.toArray).size == vs.toArray.size then n else n + 1) = n1 at e1
  unfold sortShell
  refine wpAny_bind (listItems_at ho rfl ?_)
  refine wpAny_bind (listUpdate_at ho rfl ?_ (by rw [List.size_toArray, sizeLine_eq]; omega) (Nat.zero_le _))
  refine wpAny_bind (seqEpoch_at e1 rfl ?_)
  refine wpAny_bind (wpAny_newTuple ?_ (by show vs.length ≤ _; rw [sizeLine_eq]; omega))
  refine wpAny_bind (wpAny_newList ?_ (Nat.zero_le _))
  refine wpAny_holding ?_
  generalize hh3 : ((s.heap.update a (Obj.mapSeq fun _ => (#[] : Array Value))).push { cls := .type "tuple", data := .seq vs.toArray.toList.toArray }).push { cls := .type "list", data := .seq ([] : List Value).toArray } = h3
  have keep3 : ∀ b o, (s.heap.update a (Obj.mapSeq fun _ => (#[] : Array Value))).get? b = some o → h3.get? b = some o := fun b o e => by
    rw [← hh3]; exact Heap.get?_push_of_some _ (Heap.get?_push_of_some _ e)
  have I1 : Inv c (upd H a (lst [])) { s with heap := h3 } :=
    (I.turn (P' := lst []) ha (lst_loose _) s1.extBut e1 ⟨_, rfl⟩ s.toks).keep keep3 s.toks
  have ho3 := keep3 _ _ e1
  dsimp only
  have hn2 : ¬ vs.toArray.size < 2 := by rw [List.size_toArray]; omega
  have step : ∀ t : Sem PySem.Fin, wpAny (model c.prog c.w) A t P E { s with heap := h3 } →
      wpAny (model c.prog c.w) A (if b = true then (do let _ ← rule "list.sort.reverse"; t) else t) P E { s with heap := h3 } := by
    intro t ht
    split
    · exact wpAny_bind (wpAny_rule ht)
    · exact ht
  refine step _ ?_
  rw [if_neg hn2, if_neg hn2]
  refine wpAny_bind (hkind _ I1 _ ?_)
  rw [flip_pairs]
  have est : SortSt.mk' κ (pairsOf (flip b vs)) #[] 7 none = kas_st κ (pairsOf (flip b vs)) (List.toArray (List.range vs.length)) := by
    have e := kas_range (pairsOf (flip b vs))
    rw [pairsOf_size, flip_length] at e
    show SortSt.mk' κ (pairsOf (flip b vs)) #[] 7 none = SortSt.mk' κ ((List.toArray (List.range vs.length)).map (kas_item (pairsOf (flip b vs)))) #[] 7 none
    rw [e]
  have wp : (kas_sort vs.length).kasWp (kas_cmp c.prog c.w A κ (pairsOf (flip b vs))) (fun p' s' => p' = p ∧ s' = { s with heap := h3 }) { s with heap := h3 } := by
    refine ask_wp (fun i j C hi hj hC => ?_) _ hrun ⟨rfl, rfl⟩
    rw [← kas_ask_eq]
    unfold kas_ask
    refine hcmp _ I1 _ ?_ _ ?_ C hC
    · refine (flip_mem (b := b)).mp ?_
      rw [List.getD_eq_getElem?_getD, List.getElem?_eq_getElem (by rw [flip_length]; exact hi)]
      exact List.getElem_mem _
    · refine (flip_mem (b := b)).mp ?_
      rw [List.getD_eq_getElem?_getD, List.getElem?_eq_getElem (by rw [flip_length]; exact hj)]
      exact List.getElem_mem _
  have run := kas_runs (E := E) (Q := fun _ st' s' => p.size = vs.length ∧ arrOf st' = p.map (kas_item (pairsOf (flip b vs))) ∧ failedOf st' = none ∧ s' = { s with heap := h3 })
    h2 h64 (fun p' st' s' a1 a2 a3 a4 => by obtain ⟨rfl, rfl⟩ := a4; exact ⟨a1, a2, a3, rfl⟩) wp
  rw [← est] at run
  refine wpAny_bind (wpAny_mono run ?_ fun _ _ e => e)
  rintro ⟨⟨⟩, st'⟩ s' ⟨hp, har, hf, rfl⟩
  dsimp only
  have hout : (if b = true then ((arrOf st').map (·.2)).reverse else (arrOf st').map (·.2)) = (flip b (p.toList.map fun i => (flip b vs).getD i .none)).toArray := by
    have e : (arrOf st').map (·.2) = (p.toList.map fun i => (flip b vs).getD i .none).toArray := by
      apply Array.toList_inj.mp
      rw [har, Array.map_map, Array.toList_map]
      exact List.map_congr_left fun i _ => by show (kas_item (pairsOf (flip b vs)) i).2 = _; rw [kas_item_eq]
    rw [e]
    cases b <;> simp [flip]
  rw [hout]
  have hsz : (flip b (p.toList.map fun i => (flip b vs).getD i .none)).length = vs.length := by rw [flip_length, List.length_map, Array.length_toList, hp]
  refine wpAny_bind (seqEpoch_at ho3 rfl ?_)
  refine wpAny_bind (listUpdate_at ho3 rfl ?_ (Nat.zero_le _) (by rw [List.size_toArray, hsz, sizeLine_eq]; omega))
  rw [hf]
  simp only [bne_self_eq_false, Bool.false_eq_true, if_false]
  refine wpAny_pure (k _ ?_)
  have ha1 : upd H a (lst []) a = some (lst []) := upd_same ..
  have := I1.turn (P' := lst (flip b (p.toList.map fun i => (flip b vs).getD i .none))) ha1 (lst_loose _) (Heap.SameBut.update h3 a (Obj.mapSeq fun _ => (flip b (p.toList.map fun i => (flip b vs).getD i .none)).toArray)).extBut (IsL.update ho3 _) ⟨_, rfl⟩ s.toks
  rw [upd_upd] at this
  exact this
end
end
section
open PySem.SeqAt
/-! ### what is sorted: how the sort sees its things -/
structure SortOK (c : Cx) (Dat : HM) (S : Value → Prop) (κ : SortKind) (lt : Value → Value → Bool) : Prop where
  kind : ∀ (A : Around) (H : HM) (s : Shared) (vs : List Value) (E : Value → Shared → Prop) (Q : SortKind → Shared → Prop), Inv c H s → Sub Dat H → (∀ v ∈ vs, S v) → 2 ≤ vs.length → Q κ s → wpAny (model c.prog c.w) A (keyKind' vs.toArray) Q E s
  cmp : ∀ (A : Around) (H : HM) (s : Shared) (v w : Value) (C : Bool → Shared → Prop), Inv c H s → Sub Dat H → A.units + 20 < cLine → S v → S w → C (lt v w) s → wpAny (model c.prog c.w) A (keyLt' κ v w) C (fun _ _ => False) s

section
variable {c : Cx} {A : Around} {L : Addr} {H Dat : HM} {m : Loc} {key : Value → Key} {s : Shared} {v w : Value} {E : Value → Shared → Prop}
theorem oneLt_pair {Q : Bool → Shared → Prop} (I : Inv c H s) (hD : Sub Dat H) (hv : PairAt Dat key v) (hw : PairAt Dat key w) (hu : A.units + 2 < cLine) (h : Q (keyLt (key v) (key w)) s) :
    wpAny (model c.prog c.w) A (oneLt' true v w) Q E s := by
  obtain ⟨a, t, u, rfl, hl⟩ := hv.isList hD I
  obtain ⟨b, t', u', rfl, hl'⟩ := hw.isList hD I
  rw [← lex_lt] at h
  rw [oneLt'_eq]
  simp only [if_true]
  refine wpAny_bind (wpAny_cRoomFor (by omega) ?_)
  obtain ⟨⟨cls, dd, data, sl⟩, ho, hc, n, hd⟩ := id hl
  obtain ⟨⟨cls2, dd2, data2, sl2⟩, ho2, hc2, n2, hd2⟩ := id hl'
  simp only at hc hd hc2 hd2
  subst hc hd hc2 hd2
  refine wpAny_bind (wpAny_callSpecialIfBound?_slot hl.typeIs F.slot_list_lt (call_meets F.slot_list_lt hl.typeIs F.entry_list_lt (F.args_list_lt_2 _ _)
    (ltL_list a b #[.int (key (.ref a)).1 t, .int (key (.ref a)).2 u] #[.int (key (.ref b)).1 t', .int (key (.ref b)).2 u'] n n2 dd dd2 sl sl2 rfl (fun j => if j = 0 then (key (.ref a)).1 == (key (.ref b)).1 else (key (.ref a)).2 == (key (.ref b)).2) (fun j => if j = 0 then decide ((key (.ref a)).1 < (key (.ref b)).1) else decide ((key (.ref a)).2 < (key (.ref b)).2)))
    ⟨ho, ho2, two_eq, fun j h1 h2 _ => ?_, ?_⟩))
  · match j, h1, h2 with
    | 0, _, _ => exact RcOp.lt_int _ _ _ _ _ _
    | 1, _, _ => exact RcOp.lt_int _ _ _ _ _ _
    | j + 2, h, _ => exact absurd h (by simp)
  · exact wpAny_truthy_bool h
theorem pair_type (I : Inv c H s) (hD : Sub Dat H) (hv : PairAt Dat key v) : Looks (model c.prog c.w) s.heap (typeOf v) (.type "list") := by
  obtain ⟨a, t, u, rfl, ⟨o, ho, hc, n, hd⟩⟩ := hv.isList hD I
  have h : Looks (model c.prog c.w) s.heap (typeOf (.ref a)) o.cls := (Looks.ld ho).andThen .now
  rw [hc] at h
  exact h
theorem pairs_SortOK (c : Cx) (Dat : HM) (key : Value → Key) : SortOK c Dat (PairAt Dat key) oneType' (fun v w => keyLt (key v) (key w)) where
  kind := fun A H s vs E Q I hD hS h2 h => kas_kind h2 (fun v hv => pair_type I hD (hS v hv)) (by decide) (by decide) h
  cmp := fun A H s v w C I hD hu hv hw h => by
    rw [keyLt'_oneType]
    exact oneLt_pair I hD hv hw (by omega) h

/-! ### tuples of two and of three -/
noncomputable def T2 (Dat : HM) (key : Value → Key) (el : Value → Value) (od : Value → Int) (r : Value) : Prop := ∃ a t, r = .ref a ∧ Dat a = some (tup [el r, .int (od r) t]) ∧ PairAt Dat key (el r)
noncomputable def T3 (Dat : HM) (key : Value → Key) (el : Value → Value) (od : Value → Int) (r : Value) : Prop := ∃ a t u, r = .ref a ∧ Dat a = some (tup [.int (key (el r)).2 t, .int (od r) u, el r]) ∧ PairAt Dat key (el r)
noncomputable def t2lt (key : Value → Key) (el : Value → Value) (od : Value → Int) (r r' : Value) : Bool := if key (el r) = key (el r') then decide (od r < od r') else keyLt (key (el r)) (key (el r'))
noncomputable def t3lt (key : Value → Key) (el : Value → Value) (od : Value → Int) (r r' : Value) : Bool :=
  if (key (el r)).2 = (key (el r')).2 then (if od r = od r' then (if key (el r) = key (el r') then false else keyLt (key (el r)) (key (el r'))) else decide (od r < od r')) else decide ((key (el r)).2 < (key (el r')).2)
theorem tup_at {a : Addr} {xs : List Value} (I : Inv c H s) (hD : Sub Dat H) (h : Dat a = some (tup xs)) : ∃ n, s.heap.get? a = some { cls := .type "tuple", dict := none, data := .seq xs.toArray n, slots := #[] } := by
  obtain ⟨o, ho, n, rfl⟩ := I.rep _ _ (hD _ _ h)
  exact ⟨n, ho⟩
theorem T2.mono {Dat Dat' : HM} {el : Value → Value} {od : Value → Int} {r : Value} (h : T2 Dat key el od r) (hs : Sub Dat Dat') : T2 Dat' key el od r := let ⟨a, t, e, x, p⟩ := h; ⟨a, t, e, hs _ _ x, p.mono hs⟩
theorem T3.mono {Dat Dat' : HM} {el : Value → Value} {od : Value → Int} {r : Value} (h : T3 Dat key el od r) (hs : Sub Dat Dat') : T3 Dat' key el od r := let ⟨a, t, u, e, x, p⟩ := h; ⟨a, t, u, e, hs _ _ x, p.mono hs⟩
theorem t2_lt {el : Value → Value} {od : Value → Int} (I : Inv c H s) (hD : Sub Dat H) (hv : T2 Dat key el od v) (hw : T2 Dat key el od w) (hu : A.units + 2 < cLine) : RcOp .Lt A s v w (t2lt key el od v w) := by
  obtain ⟨a, t, rfl, ha, pa⟩ := hv
  obtain ⟨b, u, rfl, hb, pb⟩ := hw
  obtain ⟨n, oa⟩ := tup_at I hD ha
  obtain ⟨n', ob⟩ := tup_at I hD hb
  have e : t2lt key el od (.ref a) (.ref b) = lex (fun j => if j = 0 then decide (key (el (.ref a)) = key (el (.ref b))) else od (.ref a) == od (.ref b)) (fun j => if j = 0 then keyLt (key (el (.ref a))) (key (el (.ref b))) else decide (od (.ref a) < od (.ref b))) false 2 0 := by
    simp only [lex, t2lt]
    by_cases h1 : key (el (.ref a)) = key (el (.ref b))
    · by_cases h2 : od (.ref a) = od (.ref b) <;> simp [h1, h2]
    · simp [h1]
  rw [e]
  refine RcOp.ltTups (items := [el (.ref a), .int (od (.ref a)) t].toArray) (items2 := [el (.ref b), .int (od (.ref b)) u].toArray) ⟨_, oa, rfl, _, rfl⟩ ⟨_, ob, rfl, _, rfl⟩ rfl (by omega) (fun j h1 h2 => ?_) (fun j h1 h2 _ => ?_)
  · match j, h1, h2 with
    | 0, _, _ => exact pair_eq I hD pa pb (by show A.units + 1 < cLine; omega)
    | 1, _, _ => exact (MeetsSeq.EqGives.int _ _ _ _).at _ _
    | j + 2, h, _ => exact absurd h (by simp)
  · match j, h1, h2 with
    | 0, _, _ => exact pair_lt I hD pa pb (by show A.units + 1 < cLine; omega)
    | 1, _, _ => exact RcOp.lt_int _ _ _ _ _ _
    | j + 2, h, _ => exact absurd h (by simp)
theorem t3_lt {el : Value → Value} {od : Value → Int} (I : Inv c H s) (hD : Sub Dat H) (hv : T3 Dat key el od v) (hw : T3 Dat key el od w) (hu : A.units + 2 < cLine) : RcOp .Lt A s v w (t3lt key el od v w) := by
  obtain ⟨a, t, u, rfl, ha, pa⟩ := hv
  obtain ⟨b, t', u', rfl, hb, pb⟩ := hw
  obtain ⟨n, oa⟩ := tup_at I hD ha
  obtain ⟨n', ob⟩ := tup_at I hD hb
  have e : t3lt key el od (.ref a) (.ref b) = lex (fun j => if j = 0 then (key (el (.ref a))).2 == (key (el (.ref b))).2 else if j = 1 then od (.ref a) == od (.ref b) else decide (key (el (.ref a)) = key (el (.ref b))))
      (fun j => if j = 0 then decide ((key (el (.ref a))).2 < (key (el (.ref b))).2) else if j = 1 then decide (od (.ref a) < od (.ref b)) else keyLt (key (el (.ref a))) (key (el (.ref b)))) false 3 0 := by
    simp only [lex, t3lt]
    by_cases h1 : (key (el (.ref a))).2 = (key (el (.ref b))).2
    · by_cases h2 : od (.ref a) = od (.ref b)
      · by_cases h3 : key (el (.ref a)) = key (el (.ref b)) <;> simp [h1, h2, h3]
      · simp [h1, h2]
    · simp [h1]
  rw [e]
  refine RcOp.ltTups (items := [.int (key (el (.ref a))).2 t, .int (od (.ref a)) u, el (.ref a)].toArray) (items2 := [.int (key (el (.ref b))).2 t', .int (od (.ref b)) u', el (.ref b)].toArray) ⟨_, oa, rfl, _, rfl⟩ ⟨_, ob, rfl, _, rfl⟩ rfl (by omega) (fun j h1 h2 => ?_) (fun j h1 h2 _ => ?_)
  · match j, h1, h2 with
    | 0, _, _ => exact (MeetsSeq.EqGives.int _ _ _ _).at _ _
    | 1, _, _ => exact (MeetsSeq.EqGives.int _ _ _ _).at _ _
    | 2, _, _ => exact pair_eq I hD pa pb (by show A.units + 1 < cLine; omega)
    | j + 3, h, _ => exact absurd h (by simp)
  · match j, h1, h2 with
    | 0, _, _ => exact RcOp.lt_int _ _ _ _ _ _
    | 1, _, _ => exact RcOp.lt_int _ _ _ _ _ _
    | 2, _, _ => exact pair_lt I hD pa pb (by show A.units + 1 < cLine; omega)
    | j + 3, h, _ => exact absurd h (by simp)
theorem t2_LtOK (c : Cx) (Dat : HM) (key : Value → Key) (el : Value → Value) (od : Value → Int) : LtOK c Dat (T2 Dat key el od) (t2lt key el od) :=
  fun A L H m v w Q hu hD hv hw q s I hL hn => (t2_lt I hD hv hw (by omega)).use ⟨H, m, I, hL, hn, q⟩
theorem t3_LtOK (c : Cx) (Dat : HM) (key : Value → Key) (el : Value → Value) (od : Value → Int) : LtOK c Dat (T3 Dat key el od) (t3lt key el od) :=
  fun A L H m v w Q hu hD hv hw q s I hL hn => (t3_lt I hD hv hw (by omega)).use ⟨H, m, I, hL, hn, q⟩

theorem kat_of {h : Heap} {f : Value → Value} : ∀ {vs : List Value}, (∀ v ∈ vs, ∃ a o xs n, v = .ref a ∧ h.get? a = some o ∧ o.cls = .type "tuple" ∧ o.data = .seq xs n ∧ xs[0]? = some (f v)) → KatTups h vs (vs.map f)
  | [], _ => trivial
  | v :: vs, hv => ⟨hv v List.mem_cons_self, kat_of fun w hw => hv w (List.mem_cons_of_mem _ hw)⟩
theorem t2_SortOK (c : Cx) (Dat : HM) (key : Value → Key) (el : Value → Value) (od : Value → Int) : SortOK c Dat (T2 Dat key el od) (tuples' true) (t2lt key el od) where
  kind := fun A H s vs E Q I hD hS h2 h => by
    refine kat_kind (fs := vs.map el) (T := .type "list") (kat_of fun v hv => ?_) (by simp; omega) (fun v hv => ?_) (by decide) h
    · obtain ⟨a, t, rfl, ha, pa⟩ := hS v hv
      obtain ⟨n, oa⟩ := tup_at I hD ha
      exact ⟨a, _, _, n, rfl, oa, rfl, rfl, rfl⟩
    · obtain ⟨r, hr, rfl⟩ := List.mem_map.mp hv
      obtain ⟨a, t, rfl, ha, pa⟩ := hS r hr
      exact pair_type I hD pa
  cmp := fun A H s v w C I hD hu hv hw h => by
    obtain ⟨a, t, rfl, ha, pa⟩ := hv
    obtain ⟨b, u, rfl, hb, pb⟩ := hw
    obtain ⟨n, oa⟩ := tup_at I hD ha
    obtain ⟨n', ob⟩ := tup_at I hD hb
    refine kat_lt oa rfl ob rfl ?_
    show KatLex _ _ _ _ _ _ [(el (.ref a), el (.ref b)), (.int (od (.ref a)) t, .int (od (.ref b)) u)] 0 s
    refine kat_cons (pair_eq I hD pa pb (by omega) _ _ _ _ ?_)
    refine kat_go (fun e => kat_yes ?_) (fun e => kat_no ?_)
    · have e := of_decide_eq_true e
      refine kat_cons ((MeetsSeq.EqGives.int _ _ _ _).at _ _ _ _ _ _ ?_)
      simp only [t2lt, e, if_true] at h
      refine kat_go (fun e' => kat_yes (kat_nil ?_)) (fun e' => kat_no ?_)
      · have e' : od (.ref a) = od (.ref b) := by simpa using e'
        simpa [e'] using h
      · exact kat_one _ _ (PyProof.Rows.lt_int h)
    · have e := of_decide_eq_false e
      simp only [t2lt, e, if_false] at h
      exact oneLt_pair I hD pa pb (by omega) h
theorem t3_SortOK (c : Cx) (Dat : HM) (key : Value → Key) (el : Value → Value) (od : Value → Int) : SortOK c Dat (T3 Dat key el od) (tuples' true) (t3lt key el od) where
  kind := fun A H s vs E Q I hD hS h2 h => by
    have hx : ∀ v ∈ vs, ∃ a t u, v = .ref a ∧ Dat a = some (tup [.int (key (el v)).2 t, .int (od v) u, el v]) := fun v hv => by
      obtain ⟨a, t, u, e, ha, pa⟩ := hS v hv
      exact ⟨a, t, u, e, ha⟩
    refine kat_kind (fs := vs.map fun v => if hv : v ∈ vs then .int (key (el v)).2 (hx v hv).choose_spec.choose else .none) (T := .type "int") (kat_of fun v hv => ?_) (by simp; omega) (fun v hv => ?_) (by decide) h
    · obtain ⟨u, e, ha⟩ := (hx v hv).choose_spec.choose_spec
      obtain ⟨n, oa⟩ := tup_at I hD ha
      refine ⟨_, _, _, n, e, oa, rfl, rfl, ?_⟩
      rw [dif_pos hv]; rfl
    · obtain ⟨r, hr, rfl⟩ := List.mem_map.mp hv
      rw [dif_pos hr]
      exact Looks.of_pure rfl
  cmp := fun A H s v w C I hD hu hv hw h => by
    obtain ⟨a, t, u, rfl, ha, pa⟩ := hv
    obtain ⟨b, t', u', rfl, hb, pb⟩ := hw
    obtain ⟨n, oa⟩ := tup_at I hD ha
    obtain ⟨n', ob⟩ := tup_at I hD hb
    refine kat_lt oa rfl ob rfl ?_
    show KatLex _ _ _ _ _ _ [(.int (key (el (.ref a))).2 t, .int (key (el (.ref b))).2 t'), (.int (od (.ref a)) u, .int (od (.ref b)) u'), (el (.ref a), el (.ref b))] 0 s
    refine kat_cons ((MeetsSeq.EqGives.int _ _ _ _).at _ _ _ _ _ _ ?_)
    refine kat_go (fun e => kat_yes ?_) (fun e => kat_no ?_)
    · have e : (key (el (.ref a))).2 = (key (el (.ref b))).2 := by simpa using e
      simp only [t3lt, e, if_true] at h
      refine kat_cons ((MeetsSeq.EqGives.int _ _ _ _).at _ _ _ _ _ _ ?_)
      refine kat_go (fun e' => kat_yes ?_) (fun e' => kat_no ?_)
      · have e' : od (.ref a) = od (.ref b) := by simpa using e'
        simp only [e', if_true] at h
        refine kat_cons (pair_eq I hD pa pb (by omega) _ _ _ _ ?_)
        refine kat_go (fun e'' => kat_yes (kat_nil ?_)) (fun e'' => kat_no ?_)
        · have e'' := of_decide_eq_true e''
          simpa [e''] using h
        · have e'' := of_decide_eq_false e''
          simp only [e'', if_false] at h
          refine kat_one _ _ ?_
          exact (pair_lt I hD pa pb (by omega)).use h
      · have e' : ¬ od (.ref a) = od (.ref b) := by simpa using e'
        simp only [e', if_false] at h
        exact kat_one _ _ (PyProof.Rows.lt_int h)
    · have e : ¬ (key (el (.ref a))).2 = (key (el (.ref b))).2 := by simpa using e
      simp only [t3lt, e, if_false] at h
      exact oneLt_int h

/-! ### the calls -/
theorem w_sort {a : Addr} {vs : List Value} {b : Bool} {κ : SortKind} {S : Value → Prop} {lt : Value → Value → Bool} {p : Array Nat} {kw : List (Str × Value)} (K : SortOK c Dat S κ lt) (hD : Sub Dat H) (hDa : Dat a = none) (hu : A.units + 30 < cLine)
    (ha : H a = some (lst vs)) (h2 : 2 ≤ vs.length) (h64 : vs.length < 64) (hS : ∀ v ∈ vs, S v) (hk : Builtin.«list.sort» ⟨[.ref a], kw⟩ = sortShell a b) (hargs : argsOk "list.sort" ⟨[.ref a], kw⟩)
    (hrun : ask vs.length (fun i j => lt ((flip b vs).getD i .none) ((flip b vs).getD j .none)) (kas_sort vs.length) = some p) :
    W c A (call (.builtin "list.sort") [.ref a] kw) H (fun v H' => v = .none ∧ H' = upd H a (lst (flip b (p.toList.map fun i => (flip b vs).getD i .none)))) := fun s I => by
  have hD' : Sub Dat (upd H a (lst [])) := Sub.upd_new hD hDa
  refine wpAny_call_entry_kw slot_list_sort (I.isList ha).typeIs entry_list_sort ?_ hargs
  rw [hk]
  refine sort_shell I ha h2 h64 (fun s' I' Q q => K.kind _ _ _ _ _ _ I' hD' hS h2 q) (fun s' I' v hv w hw C q => K.cmp _ _ _ _ _ _ I' hD' (by show A.units + 1 + 20 < cLine; omega) (hS v hv) (hS w hw) q) hrun (fun s' I' => ?_)
  exact ⟨_, rfl, _, I', rfl, rfl⟩
theorem w_sorted {l : Addr} {vs : List Value} {b : Bool} {κ : SortKind} {S : Value → Prop} {lt : Value → Value → Bool} {p : Array Nat} {kw : List (Str × Value)} (K : SortOK c Dat S κ lt) (hD : Sub Dat H) (hu : A.units + 40 < cLine)
    (hl : H l = some (lst vs)) (h2 : 2 ≤ vs.length) (h64 : vs.length < 64) (hS : ∀ v ∈ vs, S v) (hk : ∀ a, Builtin.«list.sort» ⟨[.ref a], kw⟩ = sortShell a b) (hargs : ∀ a, argsOk "list.sort" ⟨[a], kw⟩) (hargs' : ∀ a, argsOk "sorted" ⟨[a], kw⟩)
    (hrun : ask vs.length (fun i j => lt ((flip b vs).getD i .none) ((flip b vs).getD j .none)) (kas_sort vs.length) = some p) :
    W c A (call (.builtin "sorted") [.ref l] kw) H (fun v H' => ∃ D, v = .ref D ∧ H D = none ∧ Own c D ∧ H' = upd H D (lst (flip b (p.toList.map fun i => (flip b vs).getD i .none)))) := fun s I => by
  refine call_function_entry_kw kind_sorted plain_sorted entry_sorted (hargs' _) ?_
  unfold Builtin.«sorted»
  refine wpAny_bind (m := checkCount "sorted" 1 1 _) (wpAny_pure ?_)
  refine wpAny_bind (collect_list (I.isList hl) ?_ (by rw [sizeLine_eq]; omega))
  have keep : ∀ b o, s.heap.get? b = some o → ((s.heap.push (seqObj "list" #[] 0)).update s.heap.objs.size (Obj.mapSeq (· ++ vs.toArray))).get? b = some o := fun b o q => by
    have hlt : b < s.heap.objs.size := Heap.lt_size q
    rw [Heap.get?_update_ne _ _ _ _ (Nat.ne_of_lt hlt), Heap.get?_push_ne _ _ _ (Nat.ne_of_lt hlt)]
    exact q
  have I1 : Inv c H { s with heap := (s.heap.push (seqObj "list" #[] 0)).update s.heap.objs.size (Obj.mapSeq (· ++ vs.toArray)) } := I.keep keep s.toks
  generalize (s.heap.push (seqObj "list" #[] 0)).update s.heap.objs.size (Obj.mapSeq (· ++ vs.toArray)) = h1 at *
  refine wpAny_bind (wpAny_newList ?_ (by rw [sizeLine_eq]; omega))
  have hf := I1.fresh
  have hown := I1.own
  have I2 := I1.push (P := lst vs) (o := { cls := .type "list", data := .seq vs.toArray }) rfl ⟨0, rfl⟩ s.toks
  dsimp only at hf hown I2 ⊢
  generalize h1.objs.size = D at *
  have hDD : Dat D = none := by
    cases e : Dat D with
    | none => rfl
    | some P => have := hD _ _ e; rw [hf] at this; cases this
  refine wpAny_bind (wpAny_holding (wpAny_mono (w_sort K (Sub.upd_new hD hDD) hDD (by show A.units + 1 + 30 < cLine; omega) (upd_same ..) h2 h64 hS (hk D) (hargs _) hrun _ I2) (fun v s' z => ?_) fun _ _ e => e.elim))
  obtain ⟨H', I', _, rfl⟩ := z
  rw [upd_upd] at I'
  exact wpAny_pure ⟨_, rfl, _, I', D, rfl, hf, hown, rfl⟩
end
end
section
section
variable {prog : Program} {w : World} {A : Around} {E : Value → Shared → Prop} {s : Shared}
theorem nextOf_range_item {it : Addr} {x left step : Int} {Q : Value → Shared → Prop} (hit : IsRangeIter s.heap it x left step) (hleft : 0 < left)
    (hQ : ∀ h', IsRangeIter h' it (x + step) (left - 1) step → Heap.SameBut it s.heap h' → Q (.int x s.toks) { s with heap := h', toks := s.toks + 1 }) :
    wpAny (model prog w) A (Builtin.SmallTypes.nextOf (.ref it)) Q E s := by
  have hT : s.TypeIs (.ref it) "range_iterator" := ⟨_, hit, rfl⟩
  unfold Builtin.SmallTypes.nextOf
  refine wpAny_bind (wpAny_callSpecial?_slot (name := Str.ofString "__next__") hT F.slot_range_iterator_next
    (call_meets F.slot_range_iterator_next hT F.entry_range_iterator_next (F.args_range_iterator_next_1 _) (AutoRange.range_iterator___next___range_iterator_1 it x left step (by omega)) ⟨hit, ?_⟩))
  exact wpAny_pure (hQ _ (Heap.get?_update_self _ (Heap.get?_update_self _ hit rfl) rfl) ((Heap.SameBut.update ..).trans (Heap.SameBut.update ..)))
theorem nextOf_range_end {it : Addr} {x left step : Int} {Q : Value → Shared → Prop} (hh : A.handled = none) (hit : IsRangeIter s.heap it x left step) (hleft : left ≤ 0)
    (hE : ∀ h' e, (∀ b o, s.heap.get? b = some o → h'.get? b = some o) → (∃ o, h'.get? e = some o ∧ o.cls = .type "StopIteration") → E (.ref e) { s with heap := h' }) : wpAny (model prog w) A (Builtin.SmallTypes.nextOf (.ref it)) Q E s := by
  have hT : s.TypeIs (.ref it) "range_iterator" := ⟨_, hit, rfl⟩
  unfold Builtin.SmallTypes.nextOf
  refine wpAny_bind (wpAny_callSpecial?_slot (name := Str.ofString "__next__") hT F.slot_range_iterator_next
    (wpAny_call_entry F.slot_range_iterator_next hT F.entry_range_iterator_next ?_ (F.args_range_iterator_next_1 _)))
  show wpAny _ _ (field (.ref it) 0 >>= _) _ _ s
  refine wpAny_bind (wpAny_field hit rfl (x := rawInt x) rfl ?_)
  show wpAny _ _ (field (.ref it) 1 >>= _) _ _ s
  refine wpAny_bind (wpAny_field hit rfl (x := rawInt left) rfl ?_)
  show wpAny _ _ (field (.ref it) 2 >>= _) _ _ s
  refine wpAny_bind (wpAny_field hit rfl (x := rawInt step) rfl ?_)
  show wpAny _ _ (if left ≤ 0 then _ else _) _ _ s
  rw [if_pos hleft]
  refine wpAny_bind (wpAny_rule ?_)
  refine wpAny_bind ?_
  show wpAny _ _ (newExc (.type "StopIteration") [] >>= _) _ _ _
  refine wpAny_bind ?_
  simp only [newExc, newTuple]
  refine wpAny_bind (wpAny_newObj_type ?_ (by size_fits))
  refine wpAny_bind (m := firstArgMember _ _) (wpAny_of_eq (a := Value.none) (by first | rfl | (simp only [firstArgMember]; rfl)) ?_)
  refine wpAny_newObj_type ?_ (by size_fits)
  simp only [raiseNew]
  refine wpAny_bind (wpAny_handled ?_)
  first | rw [show A.in1.handled = none from hh] | rw [hh]
  refine wpAny_bind (wpAny_pure (wpAny_throw ?_))
  exact hE _ _ (fun b o e => Heap.get?_push_of_some _ (Heap.get?_push_of_some _ e)) ⟨_, Heap.get?_push_size _ rfl, rfl⟩

/-- zip's next: a range's number first, then a list's item -/
theorem zip_item {z TI TO i1 i2 l2 : Addr} {x left step : Int} {k2 : Nat} {ys : Array Value} {y a b : Value} {Q : Value → Shared → Prop}
    (TOz : TO ≠ z) (i1z : i1 ≠ z) (i2z : i2 ≠ z) (TOi1 : TO ≠ i1) (TOi2 : TO ≠ i2) (i12 : i1 ≠ i2) (l2z : l2 ≠ z) (l2TO : l2 ≠ TO) (l2i1 : l2 ≠ i1)
    (hz : IsZip s.heap z TI TO .none) (hTI : IsPair s.heap TI (.ref i1) (.ref i2)) (hTO : IsPair s.heap TO a b)
    (h1 : IsRangeIter s.heap i1 x left step) (hl : 0 < left) (h2 : s.heap.IsListIter i2 l2 k2) (hl2 : s.heap.IsList l2 ys) (hy : ys[k2]? = some y)
    (hQ : ∀ h', IsZip h' z TI TO (rawInt s.heap.objs.size) → IsPair h' TO (.int x s.toks) y → IsRangeIter h' i1 (x + step) (left - 1) step → h'.IsListIter i2 l2 (k2 + 1) → IsPair h' s.heap.objs.size (.int x s.toks) y →
      (∀ c o, c ≠ z → c ≠ TO → c ≠ i1 → c ≠ i2 → s.heap.get? c = some o → h'.get? c = some o) → Q (.ref s.heap.objs.size) { s with heap := h', toks := s.toks + 1 }) :
    wpAny (model prog w) A (Builtin.«zip.__next__» ⟨[.ref z], []⟩) (fun fin s' => ∃ v, fin = .done (.ret v) ∧ Q v s') E s := by
  show wpAny _ _ (field (.ref z) 2 >>= _) _ _ _
  refine wpAny_bind (wpAny_field hz rfl (x := .bool false) rfl ?_)
  show wpAny _ _ (field (.ref z) 3 >>= _) _ _ _
  refine wpAny_bind (wpAny_field hz rfl (x := .ref TI) rfl ?_)
  refine wpAny_bind (wpAny_seqItems hTI rfl ?_)
  show wpAny _ _ (Builtin.SmallTypes.ownedTupleIsFree (.ref z) >>= _) _ _ _
  refine wpAny_bind ?_
  unfold Builtin.SmallTypes.ownedTupleIsFree
  refine wpAny_bind (wpAny_field hz rfl (x := .none) rfl (wpAny_pure ?_))
  simp only [if_true]
  refine wpAny_bind (wpAny_rule ?_)
  refine wpAny_bind (wpAny_field hz rfl (x := .ref TO) rfl ?_)
  refine wpAny_bind (wpAny_setField_rec hz (by simp) fun h₁ hz₁ hs₁ => ?_)
  replace hz₁ : IsZip h₁ z TI TO .ellipsis := hz₁
  refine wpAny_bind ?_
  simp only [List.zipIdx_cons, List.zipIdx_nil, List.forIn_cons, List.forIn_nil]
  refine wpAny_bind (wpAny_bind (wpAny_onRaise ?_))
  show wpAny _ _ (Builtin.SmallTypes.nextOf (.ref i1) >>= _) _ _ _
  refine wpAny_bind (nextOf_range_item (hs₁.extBut _ _ i1z h1) hl fun h₂ h1₂ hs₂ => wpAny_pure ?_)
  have hTO₂ : IsPair h₂ TO a b := hs₂.extBut _ _ TOi1 (hs₁.extBut _ _ TOz hTO)
  refine wpAny_bind (wpAny_seqItems hTO₂ rfl ?_)
  refine wpAny_bind (wpAny_updateSeq_pair hTO₂ fun h₃ hTO₃ hs₃ => ?_)
  replace hTO₃ : IsPair h₃ TO (.int x s.toks) b := hTO₃
  refine wpAny_bind (wpAny_letGo (wpAny_pure ?_))
  refine wpAny_bind (wpAny_bind (wpAny_onRaise ?_))
  show wpAny _ _ (Builtin.SmallTypes.nextOf (.ref i2) >>= _) _ _ _
  refine wpAny_bind (wpAny_nextOf_list_item (((h2.extBut hs₁.extBut i2z).extBut hs₂.extBut i12.symm).extBut hs₃.extBut TOi2.symm)
    (((hl2.extBut hs₁.extBut l2z).extBut hs₂.extBut l2i1).extBut hs₃.extBut l2TO) hy fun h₄ h2₄ hs₄ => wpAny_pure ?_)
  have hTO₄ : IsPair h₄ TO (.int x s.toks) b := hs₄.extBut _ _ TOi2 hTO₃
  refine wpAny_bind (wpAny_seqItems hTO₄ rfl ?_)
  refine wpAny_bind (wpAny_updateSeq_pair hTO₄ fun h₅ hTO₅ hs₅ => ?_)
  replace hTO₅ : IsPair h₅ TO (.int x s.toks) y := hTO₅
  refine wpAny_bind (wpAny_letGo (wpAny_pure (wpAny_pure ?_)))
  refine wpAny_bind (wpAny_seqItems hTO₅ rfl ?_)
  refine wpAny_bind (wpAny_newTuple ?_)
  have hsz : h₅.objs.size = s.heap.objs.size := by rw [hs₅.1, hs₄.1, hs₃.1, hs₂.1, hs₁.1]
  have hz₅ : IsZip h₅ z TI TO .ellipsis := hs₅.extBut _ _ TOz.symm (hs₄.extBut _ _ i2z.symm (hs₃.extBut _ _ TOz.symm (hs₂.extBut _ _ i1z.symm hz₁)))
  have hk₅ : ∀ c o, c ≠ z → c ≠ TO → c ≠ i1 → c ≠ i2 → s.heap.get? c = some o → h₅.get? c = some o := fun c o c1 c2 c3 c4 e =>
    hs₅.extBut _ _ c2 (hs₄.extBut _ _ c4 (hs₃.extBut _ _ c2 (hs₂.extBut _ _ c3 (hs₁.extBut _ _ c1 e))))
  have h1₅ : IsRangeIter h₅ i1 (x + step) (left - 1) step := hs₅.extBut _ _ TOi1.symm (hs₄.extBut _ _ i12 (hs₃.extBut _ _ TOi1.symm h1₂))
  have h2₅ : h₅.IsListIter i2 l2 (k2 + 1) := h2₄.extBut hs₅.extBut TOi2.symm
  have hzlt : z < h₅.objs.size := Heap.lt_size hz₅
  show wpAny _ _ (Builtin.SmallTypes.ownedTupleHandOut (.ref z) (.ref h₅.objs.size) >>= _) _ _ _
  refine wpAny_bind ?_
  unfold Builtin.SmallTypes.ownedTupleHandOut
  have hz₆ : IsZip (h₅.push { cls := .type "tuple", data := .seq #[.int x s.toks, y] }) z TI TO .ellipsis := Heap.get?_push_of_some _ hz₅
  refine wpAny_bind (wpAny_setField_rec hz₆ (by simp) fun h₇ hz₇ hs₇ => ?_)
  replace hz₇ : IsZip h₇ z TI TO (rawInt h₅.objs.size) := hz₇
  refine wpAny_setField_rec hz₇ (by simp) fun h₈ hz₈ hs₈ => ?_
  replace hz₈ : IsZip h₈ z TI TO (rawInt h₅.objs.size) := hz₈
  have up : ∀ c o, c ≠ z → h₅.get? c = some o → h₈.get? c = some o := fun c o c1 e => hs₈.extBut _ _ c1 (hs₇.extBut _ _ c1 (Heap.get?_push_of_some _ e))
  have hT₈ : IsPair h₈ h₅.objs.size (.int x s.toks) y := hs₈.extBut _ _ (Nat.ne_of_gt hzlt) (hs₇.extBut _ _ (Nat.ne_of_gt hzlt) (Heap.get?_push_size _ rfl))
  rw [hsz] at hz₈ hT₈
  refine wpAny_pure ⟨_, rfl, ?_⟩
  show Q (.ref h₅.objs.size) _
  rw [hsz]
  exact hQ h₈ hz₈ (up _ _ TOz hTO₅) (up _ _ i1z h1₅) (h2₅.at fun o e => up _ o i2z e) hT₈ fun c o c1 c2 c3 c4 e => up c o c1 (hk₅ c o c1 c2 c3 c4 e)
theorem zip_end {z TI TO i1 i2 : Addr} {x left step : Int} {Q : PySem.Fin → Shared → Prop} (hh : A.handled = none) (i1z : i1 ≠ z)
    (hz : IsZip s.heap z TI TO .none) (hTI : IsPair s.heap TI (.ref i1) (.ref i2))
    (h1 : IsRangeIter s.heap i1 x left step) (hl : left ≤ 0)
    (hE : ∀ h' e, (∀ c o, c ≠ z → s.heap.get? c = some o → h'.get? c = some o) → (∃ o, h'.get? e = some o ∧ o.cls = .type "StopIteration") → E (.ref e) { s with heap := h' }) :
    wpAny (model prog w) A (Builtin.«zip.__next__» ⟨[.ref z], []⟩) Q E s := by
  show wpAny _ _ (field (.ref z) 2 >>= _) _ _ _
  refine wpAny_bind (wpAny_field hz rfl (x := .bool false) rfl ?_)
  show wpAny _ _ (field (.ref z) 3 >>= _) _ _ _
  refine wpAny_bind (wpAny_field hz rfl (x := .ref TI) rfl ?_)
  refine wpAny_bind (wpAny_seqItems hTI rfl ?_)
  show wpAny _ _ (Builtin.SmallTypes.ownedTupleIsFree (.ref z) >>= _) _ _ _
  refine wpAny_bind ?_
  unfold Builtin.SmallTypes.ownedTupleIsFree
  refine wpAny_bind (wpAny_field hz rfl (x := .none) rfl (wpAny_pure ?_))
  simp only [if_true]
  refine wpAny_bind (wpAny_rule ?_)
  refine wpAny_bind (wpAny_field hz rfl (x := .ref TO) rfl ?_)
  refine wpAny_bind (wpAny_setField_rec hz (by simp) fun h₁ hz₁ hs₁ => ?_)
  replace hz₁ : IsZip h₁ z TI TO .ellipsis := hz₁
  refine wpAny_bind ?_
  simp only [List.zipIdx_cons, List.zipIdx_nil, List.forIn_cons, List.forIn_nil]
  refine wpAny_bind (wpAny_bind (wpAny_onRaise ?_))
  show wpAny _ _ (Builtin.SmallTypes.nextOf (.ref i1) >>= _) _ _ _
  refine wpAny_bind (nextOf_range_end hh (hs₁.extBut _ _ i1z h1) hl fun h₂ e hs₂ he => ?_)
  obtain ⟨oe, hoe, hce⟩ := he
  have hz₂ : IsZip h₂ z TI TO .ellipsis := hs₂ _ _ hz₁
  have hez : e ≠ z := fun x => by subst x; rw [hz₂] at hoe; cases hoe; simp at hce
  refine wpAny_setField_rec hz₂ (by simp) fun h₃ _ hs₃ => hE h₃ e (fun c o c1 x => hs₃.extBut _ _ c1 (hs₂ _ _ (hs₁.extBut _ _ c1 x))) ⟨oe, hs₃.extBut _ _ hez hoe, hce⟩
end

/-! ### a zip of a range and a list's iterator -/
noncomputable def zipP (TI TO : Addr) (f0 : Value) : OP := fun o => o = { cls := .type "zip", dict := none, data := .fields #[f0, .bool false, .bool false, .ref TI, .ref TO], slots := #[] }
noncomputable def tup0 (xs : List Value) : OP := fun o => o = { cls := .type "tuple", data := .seq xs.toArray }
structure ZipOK (c : Cx) (Hz : HM) (z TI TO ri it l : Addr) (xs : List Value) : Prop where
  oz : Own c z
  oT : Own c TO
  oI : Own c TI
  orr : Own c ri
  oi : Own c it
  nz : Hz z = none
  nT : Hz TO = none
  nr : Hz ri = none
  ni : Hz it = none
  TOz : TO ≠ z
  i1z : ri ≠ z
  i2z : it ≠ z
  TOi1 : TO ≠ ri
  TOi2 : TO ≠ it
  i12 : ri ≠ it
  TI_ : Hz TI = some (tup0 [.ref ri, .ref it])
  l_ : Hz l = some (lst xs)
noncomputable def ZS (Hz : HM) (z TI TO ri it l : Addr) (step : Int) (f0 a b : Value) (x left : Int) (i : Nat) : HM :=
  upd (upd (upd (upd Hz z (zipP TI TO f0)) TO (tup0 [a, b])) ri (rit x left step)) it (lit l i)
section
variable {α β : Type} {c : Cx} {A : Around} {L : Addr} {H Hz : HM} {m : Loc} {env : Env} {z TI TO ri it l : Addr} {xs : List Value} {step x left : Int} {f0 a b : Value} {i : Nat}
theorem ZipOK.at_it (K : ZipOK c Hz z TI TO ri it l xs) : ZS Hz z TI TO ri it l step f0 a b x left i it = some (lit l i) := upd_same ..
theorem ZipOK.at_ri (K : ZipOK c Hz z TI TO ri it l xs) : ZS Hz z TI TO ri it l step f0 a b x left i ri = some (rit x left step) := by unfold ZS; rw [upd_ne K.i12, upd_same]
theorem ZipOK.at_TO (K : ZipOK c Hz z TI TO ri it l xs) : ZS Hz z TI TO ri it l step f0 a b x left i TO = some (tup0 [a, b]) := by unfold ZS; rw [upd_ne K.TOi2, upd_ne K.TOi1, upd_same]
theorem ZipOK.at_z (K : ZipOK c Hz z TI TO ri it l xs) : ZS Hz z TI TO ri it l step f0 a b x left i z = some (zipP TI TO f0) := by unfold ZS; rw [upd_ne (Ne.symm K.i2z), upd_ne (Ne.symm K.i1z), upd_ne (Ne.symm K.TOz), upd_same]
theorem ZipOK.sub (K : ZipOK c Hz z TI TO ri it l xs) : Sub Hz (ZS Hz z TI TO ri it l step f0 a b x left i) := Sub.upd_new (Sub.upd_new (Sub.upd_new (Sub.upd_new (Sub.refl _) K.nz) K.nT) K.nr) K.ni
theorem ZipOK.off (K : ZipOK c Hz z TI TO ri it l xs) {d : Addr} (hz : d ≠ z) (hT : d ≠ TO) (hr : d ≠ ri) (hi : d ≠ it) : ZS Hz z TI TO ri it l step f0 a b x left i d = Hz d := by unfold ZS; rw [upd_ne hi, upd_ne hr, upd_ne hT, upd_ne hz]
theorem ZipOK.isNone (K : ZipOK c Hz z TI TO ri it l xs) {d : Addr} (h : ZS Hz z TI TO ri it l step f0 a b x left i d = Option.none) : Hz d = Option.none ∧ d ≠ z ∧ d ≠ TO ∧ d ≠ ri ∧ d ≠ it := by
  refine ⟨K.sub.none_of h, ?_, ?_, ?_, ?_⟩
  · rintro rfl; rw [K.at_z] at h; cases h
  · rintro rfl; rw [K.at_TO] at h; cases h
  · rintro rfl; rw [K.at_ri] at h; cases h
  · rintro rfl; rw [K.at_it] at h; cases h
theorem ZipOK.bs (K : ZipOK c Hz z TI TO ri it l xs) (hb : Bs c Hz) : Bs c (ZS Hz z TI TO ri it l step f0 a b x left i) := (((hb.updO K.oz).updO K.oT).updO K.orr).updO K.oi
theorem ZipOK.base (K : ZipOK c Hz z TI TO ri it l xs) (hb : Bs c (ZS Hz z TI TO ri it l step f0 a b x left i)) : Bs c Hz := fun d o e => by
  have := hb d o e
  have h1 : d ≠ z := by rintro rfl; rw [show c.s₁.heap.get? d = Option.none from K.oz] at e; cases e
  have h2 : d ≠ TO := by rintro rfl; rw [show c.s₁.heap.get? d = Option.none from K.oT] at e; cases e
  have h3 : d ≠ ri := by rintro rfl; rw [show c.s₁.heap.get? d = Option.none from K.orr] at e; cases e
  have h4 : d ≠ it := by rintro rfl; rw [show c.s₁.heap.get? d = Option.none from K.oi] at e; cases e
  rw [K.off h1 h2 h3 h4] at this
  exact this
theorem ZipOK.rep (K : ZipOK c Hz z TI TO ri it l xs) {h : Heap} (hz : ∃ o, h.get? z = some o ∧ zipP TI TO f0 o) (hT : ∃ o, h.get? TO = some o ∧ tup0 [a, b] o) (hr : ∃ o, h.get? ri = some o ∧ rit x left step o) (hi : ∃ o, h.get? it = some o ∧ lit l i o)
    (hk : ∀ d P, Hz d = some P → d ≠ z → d ≠ TO → d ≠ ri → d ≠ it → ∃ o, h.get? d = some o ∧ P o) : Rep (ZS Hz z TI TO ri it l step f0 a b x left i) h := fun d P e => by
  by_cases h4 : d = it
  · subst h4; rw [K.at_it] at e; cases e; exact hi
  by_cases h3 : d = ri
  · subst h3; rw [K.at_ri] at e; cases e; exact hr
  by_cases h2 : d = TO
  · subst h2; rw [K.at_TO] at e; cases e; exact hT
  by_cases h1 : d = z
  · subst h1; rw [K.at_z] at e; cases e; exact hz
  rw [K.off h1 h2 h3 h4] at e
  exact hk d P e h1 h2 h3 h4
theorem Rep.updNew {H : HM} {h : Heap} {T : Addr} {P : OP} {o : Obj} (r : Rep H h) (ho : h.get? T = some o) (hp : P o) : Rep (upd H T P) h := fun d Q e => by
  by_cases hd : d = T
  · subst hd; rw [upd_same] at e; cases e; exact ⟨o, ho, hp⟩
  · rw [upd_ne hd] at e; exact r d Q e
theorem f_nextZ {y : Value} {Q : Option Value → HM → Loc → Prop} (K : ZipOK c Hz z TI TO ri it l xs) (hl : 0 < left) (hy : xs[i]? = some y)
    (h : ∀ T t, ZS Hz z TI TO ri it l step .none a b x left i T = Option.none → Own c T → T ≠ L → Q (some (.ref T)) (upd (ZS Hz z TI TO ri it l step (rawInt T) (.int x t) y (x + step) (left - 1) (i + 1)) T (tup [.int x t, y])) m) :
    WF c A L (pyNext (.ref z)) (ZS Hz z TI TO ri it l step .none a b x left i) m Q := fun s I hL hn => by
  obtain ⟨oz, hz, rfl⟩ := I.rep _ _ K.at_z
  obtain ⟨oT, hTO, rfl⟩ := I.rep _ _ K.at_TO
  obtain ⟨or', hri, rfl⟩ := I.rep _ _ K.at_ri
  obtain ⟨oI, hTI, rfl⟩ := I.rep _ _ (K.sub _ _ K.TI_)
  have hit := I.rep _ _ K.at_it
  have hl2 := I.isList (K.sub _ _ K.l_)
  have lz : l ≠ z := by rintro rfl; have := K.l_; rw [K.nz] at this; cases this
  have lT : l ≠ TO := by rintro rfl; have := K.l_; rw [K.nT] at this; cases this
  have lr : l ≠ ri := by rintro rfl; have := K.l_; rw [K.nr] at this; cases this
  have hT : s.TypeIs (.ref z) "zip" := ⟨_, hz, rfl⟩
  have hTn := I.fresh
  have hTo := I.own
  have hTL : s.heap.objs.size ≠ L := fun e => Nat.lt_irrefl _ (e ▸ hn.lt)
  obtain ⟨hTz, t1, t2, t3, t4⟩ := K.isNone hTn
  obtain ⟨hLz, L1, L2, L3, L4⟩ := K.isNone hL
  unfold pyNext
  refine wpAny_bind (wpAny_attempt (wpAny_callSpecial?_slot (name := Str.ofString "__next__") hT F.slot_zip_next
    (wpAny_call_entry F.slot_zip_next hT F.entry_zip_next
      (zip_item K.TOz K.i1z K.i2z K.TOi1 K.TOi2 K.i12 lz lT lr hz hTI hTO hri hl hit hl2 (by simpa using hy) fun h' a1 a2 a3 a4 a5 a7 => wpAny_pure ?_) (F.args_zip_next_1 _))))
  refine ⟨_, m, ⟨?_, ?_, by rw [I.fit]⟩, ?_, ?_, h s.heap.objs.size s.toks hTn hTo hTL⟩
  · refine Rep.updNew (K.rep ⟨_, a1, rfl⟩ ⟨_, a2, rfl⟩ ⟨_, a3, rfl⟩ a4 (fun d P e d1 d2 d3 d4 => ?_)) a5 ⟨0, rfl⟩
    obtain ⟨o, ho, p⟩ := I.rep d P (K.sub _ _ e)
    exact ⟨o, a7 d o d1 d2 d3 d4 ho, p⟩
  · exact (K.bs (K.base I.base)).updO hTo
  · rw [upd_ne (Ne.symm hTL), K.off L1 L2 L3 L4]; exact hLz
  · obtain ⟨o, es, ep, ho, r⟩ := hn; exact ⟨o, es, ep, a7 _ _ L1 L2 L3 L4 ho, r⟩
theorem f_nextZ0 {Q : Option Value → HM → Loc → Prop} (hh : A.handled = Option.none) (K : ZipOK c Hz z TI TO ri it l xs) (hl : left ≤ 0) (h : Q Option.none (upd Hz it (lit l i)) m) :
    WF c A L (pyNext (.ref z)) (ZS Hz z TI TO ri it l step .none a b x left i) m Q := fun s I hL hn => by
  obtain ⟨oz, hz, rfl⟩ := I.rep _ _ K.at_z
  obtain ⟨or', hri, rfl⟩ := I.rep _ _ K.at_ri
  obtain ⟨oI, hTI, rfl⟩ := I.rep _ _ (K.sub _ _ K.TI_)
  obtain ⟨oi, hit, pit⟩ := I.rep _ _ K.at_it
  have hT : s.TypeIs (.ref z) "zip" := ⟨_, hz, rfl⟩
  obtain ⟨hLz, L1, L2, L3, L4⟩ := K.isNone hL
  unfold pyNext
  refine wpAny_bind (wpAny_attempt (wpAny_callSpecial?_slot (name := Str.ofString "__next__") hT F.slot_zip_next
    (wpAny_call_entry F.slot_zip_next hT F.entry_zip_next (zip_end hh K.i1z hz hTI hri hl fun h' e hk he => ?_) (F.args_zip_next_1 _))))
  obtain ⟨o, ho, hc⟩ := he
  refine wpAny_bind (wpAny_isInstance (T := "StopIteration") (b := true) ⟨o, ho, hc⟩ isSubtype_stop ?_)
  refine wpAny_pure ⟨_, m, ⟨?_, (K.base I.base).updO K.oi, by rw [I.fit]⟩, ?_, ?_, h⟩
  · intro d P e
    by_cases hd : d = it
    · subst hd; rw [upd_same] at e; cases e; exact ⟨oi, hk _ _ K.i2z hit, pit⟩
    · rw [upd_ne hd] at e
      obtain ⟨o, ho, p⟩ := I.rep d P (K.sub _ _ e)
      exact ⟨o, hk d o (by rintro rfl; rw [K.nz] at e; cases e) ho, p⟩
  · rw [upd_ne L4]; exact hLz
  · obtain ⟨o, es, ep, ho, r⟩ := hn; exact ⟨o, es, ep, hk _ _ L1 ho, r⟩
theorem f_goZ {elts : List PySem.Expr} {k} {pos : Pos} {T : Addr} {P : OP} {Q : Unit → HM → Loc → Prop} (K : ZipOK c Hz z TI TO ri it l xs) (hT : ZS Hz z TI TO ri it l step f0 a b x left i T = Option.none) (hTo : Own c T)
    (h : Q () (upd (ZS Hz z TI TO ri it l step .none a b x left i) T P) m) :
    WF c A L (letOwnedTupleGo (.Tuple elts k pos) (.ref z) (.ref T)) (upd (ZS Hz z TI TO ri it l step (rawInt T) a b x left i) T P) m Q := fun s I hL hn => by
  obtain ⟨_, t1, t2, t3, t4⟩ := K.isNone hT
  have hTL : T ≠ L := by rintro rfl; rw [upd_same] at hL; cases hL
  rw [upd_ne (Ne.symm hTL)] at hL
  obtain ⟨hLz, L1, L2, L3, L4⟩ := K.isNone hL
  obtain ⟨oz, hz, rfl⟩ := I.rep z _ ((upd_ne (Ne.symm t1)).trans K.at_z)
  refine wpAny_letOwnedTupleGo_zip hz fun h' hz' hs' => ⟨_, m, ⟨?_, ?_, by rw [I.fit]⟩, ?_, hn.sameBut hs' L1, h⟩
  · have up : ∀ d P', d ≠ z → upd (ZS Hz z TI TO ri it l step (rawInt T) a b x left i) T P d = some P' → ∃ o, h'.get? d = some o ∧ P' o := fun d P' hd e => by
      obtain ⟨o, ho, p⟩ := I.rep d P' e
      exact ⟨o, hs'.extBut d o hd ho, p⟩
    obtain ⟨oT, hoT, pT⟩ := up T P t1 (upd_same ..)
    refine Rep.updNew (K.rep ⟨_, hz', rfl⟩ (up _ _ K.TOz ((upd_ne (Ne.symm t2)).trans K.at_TO)) (up _ _ K.i1z ((upd_ne (Ne.symm t3)).trans K.at_ri)) (up _ _ K.i2z ((upd_ne (Ne.symm t4)).trans K.at_it)) (fun d P' e d1 d2 d3 d4 => ?_)) hoT pT
    by_cases hd : d = T
    · subst hd; have := K.sub (step := step) (f0 := f0) (a := a) (b := b) (x := x) (left := left) (i := i) _ _ e; rw [hT] at this; cases this
    · exact up d P' d1 ((upd_ne hd).trans (K.sub _ _ e))
  · have hb1 : Bs c (ZS Hz z TI TO ri it l step (rawInt T) a b x left i) := fun d o e => by
      have := I.base d o e
      rw [upd_ne (by rintro rfl; rw [show c.s₁.heap.get? d = Option.none from hTo] at e; cases e)] at this
      exact this
    exact (K.bs (K.base hb1)).updO hTo
  · rw [upd_ne (Ne.symm hTL), K.off L1 L2 L3 L4]; exact hLz
end
end
section
open PySem.SeqAt
open AutoSeq1 (wpAny_loadPart')
/-! ### the other way round -/
theorem RcOp.gt_int (A : Around) (s : Shared) (a b : Int) (t u : Tok) : RcOp .Gt A s (.int a t) (.int b u) (decide (b < a)) := fun prog w E Q h => PyProof.Rows.gt_int h
theorem gtL_loop (l b : Addr) (items items2 : Array Value) (n n2 : Nat) (dd dd2 : Option Addr) (sl sl2 : Array (Option Value)) (hsz : items.size = items2.size) (e f : Nat → Bool) (k : Nat) :
    ∀ i : Nat, items.size - i = k → Meets (Builtin.«list.__eq__.loop» ⟨[.ref l, .ref b, rawInt i, rawInt 4], []⟩)
      (fun A R s => s.heap.get? l = some { cls := .type "list", dict := dd, data := .seq items n, slots := sl } ∧ s.heap.get? b = some { cls := .type "list", dict := dd2, data := .seq items2 n2, slots := sl2 } ∧
        (∀ j (h1 : j < items.size) (h2 : j < items2.size), EqAt A.in1 s items[j] items2[j] (e j)) ∧ (∀ j (h1 : j < items.size) (h2 : j < items2.size), e j = false → RcOp .Gt A.in1 s items[j] items2[j] (f j)) ∧
        R (.ok (.ret (.bool (lex e f false k i)))) s) := by
  induction k with
  | zero =>
    intro i hk prog w A R s h
    obtain ⟨hp, g, d, tk, os⟩ := s; obtain ⟨hl, hb, he, hf, h⟩ := h
    wp_walk using wpAny_loadPart' hl, wpAny_loadPart' hb
    have hi1 : items[((i : Nat) : Int).toNat]? = none := by simp; omega
    have hi2 : items2[((i : Nat) : Int).toNat]? = none := by simp; omega
    rw [hi1, hi2]
    wp_walk using wpAny_loadPart' hl, wpAny_loadPart' hb
    show R (.ok (.ret (.bool (decide (items.size > items2.size))))) _
    rw [hsz]
    simpa [lex] using h
  | succ k ih =>
    intro i hk prog w A R s h
    obtain ⟨hp, g, d, tk, os⟩ := s; obtain ⟨hl, hb, he, hf, h⟩ := h
    wp_walk using wpAny_loadPart' hl, wpAny_loadPart' hb
    have hlt : i < items.size := by omega
    have hlt2 : i < items2.size := by omega
    have hi1 : items[((i : Nat) : Int).toNat]? = some items[i] := by simp [hlt]
    have hi2 : items2[((i : Nat) : Int).toNat]? = some items2[i] := by simp [hlt2]
    have hc : ((i : Int) + 1) = ((i + 1 : Nat) : Int) := by push_cast; rfl
    rw [hi1, hi2]
    refine wpAny_bind (he i hlt hlt2 prog w _ _ ?_)
    cases hb' : e i with
    | true =>
      rw [lex, hb', if_pos rfl] at h
      wp_walk
      rw [hc]
      exact ⟨plainId_quiet MeetsSeq3.plain_eq_loop _, codeAny_builtin MeetsSeq3.entry_eq_loop (by
        rw [Around.under_plainId MeetsSeq3.plain_eq_loop _]
        exact ih (i + 1) (by omega) prog w A R _ ⟨hl, hb, he, hf, h⟩)⟩
    | false =>
      rw [lex, hb', if_neg Bool.false_ne_true] at h
      wp_walk using wpAny_loadPart' hl, wpAny_loadPart' hb
      rw [hi1, hi2]
      refine wpAny_bind (hf i hlt hlt2 hb' prog w _ _ ?_)
      wp_walk
      exact h
theorem gtL_list (l b : Addr) (items items2 : Array Value) (n n2 : Nat) (dd dd2 : Option Addr) (sl sl2 : Array (Option Value)) (hsz : items.size = items2.size) (e f : Nat → Bool) :
    Meets (Builtin.«list.__gt__» ⟨[.ref l, .ref b], []⟩)
      (fun A R s => s.heap.get? l = some { cls := .type "list", dict := dd, data := .seq items n, slots := sl } ∧ s.heap.get? b = some { cls := .type "list", dict := dd2, data := .seq items2 n2, slots := sl2 } ∧
        (∀ j (h1 : j < items.size) (h2 : j < items2.size), EqAt A.in1 s items[j] items2[j] (e j)) ∧ (∀ j (h1 : j < items.size) (h2 : j < items2.size), e j = false → RcOp .Gt A.in1 s items[j] items2[j] (f j)) ∧
        R (.ok (.ret (.bool (lex e f false items.size 0)))) s) := by
  intro prog w A R s h
  obtain ⟨hp, g, d, tk, os⟩ := s; obtain ⟨hl, hb, he, hf, h⟩ := h
  have f3 := AutoSeq1.sub_list_list
  wp_walk using wpAny_loadPart' hl, wpAny_loadPart' hb
  exact ⟨plainId_quiet MeetsSeq3.plain_eq_loop _, codeAny_builtin MeetsSeq3.entry_eq_loop (by
    rw [Around.under_plainId MeetsSeq3.plain_eq_loop _]
    exact gtL_loop l b items items2 n n2 dd dd2 sl sl2 hsz e f _ 0 rfl prog w A R _ ⟨hl, hb, he, hf, h⟩)⟩
theorem RcOp.gtLs {A : Around} {s : Shared} {l b : Addr} {items items2 : Array Value} {e f : Nat → Bool} (hl : s.heap.IsList l items) (hb : s.heap.IsList b items2) (hsz : items.size = items2.size) (hu : A.units < cLine)
    (he : ∀ j (h1 : j < items.size) (h2 : j < items2.size), EqAt A.in1 s items[j] items2[j] (e j)) (hf : ∀ j (h1 : j < items.size) (h2 : j < items2.size), e j = false → RcOp .Gt A.in1 s items[j] items2[j] (f j)) :
    RcOp .Gt A s (.ref l) (.ref b) (lex e f false items.size 0) := fun prog w E Q h => by
  obtain ⟨⟨cls, dd, data, sl⟩, ho, hc, n, hd⟩ := id hl
  obtain ⟨⟨cls2, dd2, data2, sl2⟩, ho2, hc2, n2, hd2⟩ := id hb
  simp only at hc hd hc2 hd2
  subst hc hd hc2 hd2
  exact richCompare_meets_room (op := .Gt) ⟨_, ho, rfl⟩ ⟨_, ho2, rfl⟩ F.slot_list_gt F.entry_list_gt (F.args_list_gt_2 _ _) (gtL_list l b items items2 n n2 dd dd2 sl sl2 hsz e f)
    ⟨ho, ho2, he, hf, show Value.bool (lex e f false items.size 0) ≠ Value.notImplemented ∧ Q (.bool (lex e f false items.size 0)) s from ⟨(fun x => nomatch x), h⟩⟩ hu


theorem lex_gt (a b a' b' : Int) : lex (fun j => if j = 0 then a == a' else b == b') (fun j => if j = 0 then decide (a' < a) else decide (b' < b)) false 2 0 = keyLt (a', b') (a, b) := by
  simp only [lex, keyLt]
  by_cases h : a = a'
  · by_cases h' : b = b' <;> simp [h, h']
  · have h2 : ¬ a' = a := fun e => h e.symm
    simp [h, h2]
section
variable {c : Cx} {A : Around} {L : Addr} {H Dat : HM} {m : Loc} {key : Value → Key} {s : Shared} {v w : Value} {E : Value → Shared → Prop}
theorem pair_gt (I : Inv c H s) (hD : Sub Dat H) (hv : PairAt Dat key v) (hw : PairAt Dat key w) (hu : A.units < cLine) : RcOp .Gt A s v w (keyLt (key w) (key v)) := by
  obtain ⟨a, t, u, rfl, hl⟩ := hv.isList hD I
  obtain ⟨b, t', u', rfl, hl'⟩ := hw.isList hD I
  rw [← lex_gt]
  exact RcOp.gtLs hl hl' rfl hu two_eq (fun j h1 h2 _ => by
    match j, h1, h2 with
    | 0, _, _ => exact RcOp.gt_int _ _ _ _ _ _
    | 1, _, _ => exact RcOp.gt_int _ _ _ _ _ _
    | j + 2, h, _ => exact absurd h (by simp))
end
/-! ### min and max -/
noncomputable def bestOf (bt : Value → Value → Bool) : Value → List Value → Value
  | v, [] => v
  | v, x :: xs => if bt x v then bestOf bt x xs else bestOf bt v xs
theorem bestOf_mem {bt : Value → Value → Bool} : ∀ {xs : List Value} {v : Value}, bestOf bt v xs = v ∨ bestOf bt v xs ∈ xs
  | [], v => .inl rfl
  | x :: xs, v => by
    unfold bestOf
    split
    · rcases bestOf_mem (bt := bt) (xs := xs) (v := x) with h | h
      · exact .inr (by rw [h]; exact List.mem_cons_self)
      · exact .inr (List.mem_cons_of_mem _ h)
    · rcases bestOf_mem (bt := bt) (xs := xs) (v := v) with h | h
      · exact .inl h
      · exact .inr (List.mem_cons_of_mem _ h)

theorem args_min_dk (a d v : Value) : argsOk "min" ⟨[a], [(Str.ofString "default", d), (Str.ofString "key", v)]⟩ := by unfold argsOk; kernel_rfl
section
variable {c : Cx} {A : Around} {H Dat : HM} {key : Value → Key}
theorem min_loop {S it l : Addr} {xs : List Value} {d : Value} {bt : Value → Value → Bool} {R : Result → Shared → Prop} (hh : A.handled = none) (hD : Sub Dat H) (hS : H S = none) (hSo : Own c S) (hi : H it = none) (hio : Own c it) (hne : S ≠ it) (hl : H l = some (lst xs))
    (hcmp : ∀ (B : Around) (H' : HM) (s : Shared) (v w : Value), Inv c H' s → Sub Dat H' → B.units ≤ A.units + 2 → v ∈ xs → w ∈ xs → RcOp .Lt B s v w (bt v w))
    (hR : ∀ s' v, Inv c (upd H S (lst [])) s' → v = bestOf bt (xs.getD 0 .none) (xs.drop 1) → R (.ok (.ret v)) s') :
    ∀ (k i : Nat) (vb : Value) (s : Shared), xs.length - i = k → i ≤ xs.length → vb ∈ xs → bestOf bt vb (xs.drop i) = bestOf bt (xs.getD 0 .none) (xs.drop 1) → Inv c (upd (upd H S (lst [vb, vb])) it (lit l i)) s →
      codeAny (model c.prog c.w) A (.builtin "min.loop" ⟨[.ref it, .none, .ref S], [(Str.ofString "default", d)]⟩) R s := by
  have hname : (toString "min" ++ toString ".loop" : String) = "min.loop" := by decide
  have lS : l ≠ S := by rintro rfl; rw [hS] at hl; cases hl
  have li : l ≠ it := by rintro rfl; rw [hi] at hl; cases hl
  intro k
  induction k with
  | zero =>
    intro i vb s hk hle hvb heq I
    have e1 : upd (upd H S (lst [vb, vb])) it (lit l i) S = some (lst [vb, vb]) := by rw [upd_ne hne, upd_same]
    have e2 : upd (upd H S (lst [vb, vb])) it (lit l i) it = some (lit l i) := upd_same ..
    have e3 : upd (upd H S (lst [vb, vb])) it (lit l i) l = some (lst xs) := by rw [upd_ne li, upd_ne lS]; exact hl
    obtain ⟨n, oS⟩ := I.lst e1
    refine codeAny_builtin F.entry_min_loop ?_
    rw [Around.under_plainId F.plain_min_loop _]
    show wpAny _ A.in1 (seqItems? (.ref S) >>= _) _ _ s
    refine wpAny_bind (wpAny_seqItems oS rfl ?_)
    show wpAny _ A.in1 (tryCatch (pyNext (.ref it)) _ >>= _) _ _ s
    refine wpAny_bind (wpAny_tryCatch (wpAny_pyNext_list_end hh (I.rep _ _ e2) (I.isList e3) (by simp; omega) fun h' hs => ?_))
    have I1 := I.lost hio hs s.toks
    have e1' : del (upd (upd H S (lst [vb, vb])) it (lit l i)) it S = some (lst [vb, vb]) := by rw [del_ne hne]; exact e1
    obtain ⟨n', oS'⟩ := I1.lst e1'
    show wpAny _ A.in1 (updateSeq S (fun _ => #[]) >>= _) _ _ _
    refine wpAny_bind ?_
    refine wpAny_updateSeq oS' rfl (wpAny_bind (wpAny_letGo (wpAny_pure ?_))) (by simp [sizeLine]) (by simp)
    have I2 := I1.turnO (P' := lst []) hSo (Heap.SameBut.update h' S (Obj.mapSeq fun _ => #[])).extBut (IsL.update oS' _) ⟨_, rfl⟩ s.toks
    have eF : upd (del (upd (upd H S (lst [vb, vb])) it (lit l i)) it) S (lst []) = upd H S (lst []) := by
      funext b
      by_cases hb : b = S
      · subst hb; rw [upd_same, upd_same]
      · rw [upd_ne hb, upd_ne hb]
        by_cases hb2 : b = it
        · subst hb2; rw [hi]; exact if_pos rfl
        · rw [del_ne hb2, upd_ne hb2, upd_ne hb]
    rw [eF] at I2
    exact hR _ vb I2 (by rw [← heq, List.drop_of_length_le (by omega)]; rfl)
  | succ k ih =>
    intro i vb s hk hle hvb heq I
    have e1 : upd (upd H S (lst [vb, vb])) it (lit l i) S = some (lst [vb, vb]) := by rw [upd_ne hne, upd_same]
    have e2 : upd (upd H S (lst [vb, vb])) it (lit l i) it = some (lit l i) := upd_same ..
    have e3 : upd (upd H S (lst [vb, vb])) it (lit l i) l = some (lst xs) := by rw [upd_ne li, upd_ne lS]; exact hl
    obtain ⟨n, oS⟩ := I.lst e1
    have hlt : i < xs.length := by omega
    have hx : xs[i]? = some xs[i] := by simp [hlt]
    refine codeAny_builtin F.entry_min_loop ?_
    rw [Around.under_plainId F.plain_min_loop _]
    show wpAny _ A.in1 (seqItems? (.ref S) >>= _) _ _ s
    refine wpAny_bind (wpAny_seqItems oS rfl ?_)
    show wpAny _ A.in1 (tryCatch (pyNext (.ref it)) _ >>= _) _ _ s
    refine wpAny_bind (wpAny_tryCatch (wpAny_pyNext_list_item (x := xs[i]) (I.rep _ _ e2) (I.isList e3) (by simp [hlt]) fun h' hi' hs => ?_))
    obtain ⟨oi, hoi, pi⟩ := hi'
    have I1 := I.turnO (P' := lit l (i + 1)) hio hs.extBut hoi pi s.toks
    rw [upd_upd] at I1
    have e1' : upd (upd H S (lst [vb, vb])) it (lit l (i + 1)) S = some (lst [vb, vb]) := by rw [upd_ne hne, upd_same]
    obtain ⟨n', oS'⟩ := I1.lst e1'
    have hDat : Sub Dat (upd (upd H S (lst [vb, vb])) it (lit l (i + 1))) := hD.trans (Sub.upd_new (Sub.upd_new (Sub.refl _) hS) hi)
    show wpAny _ A.in1 (tryCatch (holding [xs[i], xs[i]] (richCompare .Lt xs[i] vb >>= _)) _ >>= _) _ _ _
    refine wpAny_bind (wpAny_tryCatch (wpAny_holding (wpAny_bind (hcmp _ _ _ _ _ I1 hDat (by show A.units + 1 ≤ A.units + 2; omega) (List.getElem_mem hlt) hvb _ _ _ _ ?_))))
    refine wpAny_bind (wpAny_holding (wpAny_truthy_bool ?_))
    refine wpAny_bind (wpAny_letGo (wpAny_pure ?_))
    rw [List.drop_eq_getElem_cons hlt, bestOf] at heq
    cases hb : bt xs[i] vb with
    | true =>
      simp only [hb, if_true] at heq ⊢
      refine wpAny_bind ?_
      refine wpAny_updateSeq oS' rfl (wpAny_bind (wpAny_letGo ?_)) (by simp [sizeLine]) (by simp [sizeLine])
      rw [hname]
      refine wpAny_pure ⟨plainId_quiet F.plain_min_loop _, ih (i + 1) xs[i] _ (by omega) hlt (List.getElem_mem hlt) heq ?_⟩
      have I2 := I1.turnO (P' := lst [xs[i], xs[i]]) hSo (Heap.SameBut.update h' S (Obj.mapSeq fun _ => #[xs[i], xs[i]])).extBut (IsL.update oS' _) ⟨_, rfl⟩ s.toks
      rw [upd_comm (Ne.symm hne), upd_upd] at I2
      exact I2
    | false =>
      simp only [hb, Bool.false_eq_true, if_false] at heq ⊢
      refine wpAny_bind (wpAny_letGo ?_)
      rw [hname]
      exact wpAny_pure ⟨plainId_quiet F.plain_min_loop _, ih (i + 1) vb _ (by omega) hlt hvb heq I1⟩
theorem w_min {it l : Addr} {xs : List Value} {d : Value} {bt : Value → Value → Bool} (hh : A.handled = none) (hu : A.units + 20 < cLine) (hD : Sub Dat (del H it)) (hi : H it = some (lit l 0)) (hio : Own c it) (hl : H l = some (lst xs)) (hne : 0 < xs.length) (hx : ∀ y ∈ xs, PairAt Dat key y)
    (hcmp : ∀ (B : Around) (H' : HM) (s : Shared) (v w : Value), Inv c H' s → Sub Dat H' → B.units ≤ A.units + 2 → v ∈ xs → w ∈ xs → RcOp .Lt B s v w (bt v w)) :
    W c A (call (.builtin "min") [.ref it] [(Str.ofString "default", d), (Str.ofString "key", .none)]) H (fun v H' => v = bestOf bt (xs.getD 0 .none) (xs.drop 1) ∧ ∃ S, H S = none ∧ Own c S ∧ H' = upd (del H it) S (lst [])) := fun s I => by
  have hname : (toString "min" ++ toString ".loop" : String) = "min.loop" := by decide
  have li : l ≠ it := by
    rintro rfl; rw [hl] at hi
    have := Option.some.inj hi
    exact absurd (congrFun this { cls := .type "list", data := .seq xs.toArray 0 }) (by simp [lst, lit])
  refine kmk_tree F.kind_min F.plain_min F.entry_min (args_min_dk _ _ _) ?_
  show wpAny _ A.in1 (Builtin.Builtins.bindParams "min" ["key", "default"] 0 ⟨[], [(Str.ofString "default", d), (Str.ofString "key", .none)]⟩ >>= _) _ _ s
  refine wpAny_bind (wpAny_of_eq (show Builtin.Builtins.bindParams "min" ["key", "default"] 0 ⟨[], [(Str.ofString "default", d), (Str.ofString "key", .none)]⟩ = pure [some .none, some d] from rfl) ?_)
  refine wpAny_bind (wpAny_pure ?_)
  refine wpAny_bind (wpAny_pyIter_listiter (I.rep _ _ hi) ?_)
  refine wpAny_bind (wpAny_newList ?_ (Nat.zero_le _))
  rw [hname]
  refine wpAny_pure ⟨plainId_quiet F.plain_min_loop _, ?_⟩
  have hS := I.fresh
  have hSo := I.own
  have I1 := I.push (P := lst []) (o := { cls := .type "list", data := .seq ([] : List Value).toArray }) rfl ⟨0, rfl⟩ s.toks
  dsimp only
  generalize s.heap.objs.size = S at *
  have hSi : S ≠ it := by rintro rfl; rw [hS] at hi; cases hi
  have hSl : l ≠ S := by rintro rfl; rw [hS] at hl; cases hl
  have e1 : upd H S (lst []) S = some (lst []) := upd_same ..
  have e2 : upd H S (lst []) it = some (lit l 0) := by rw [upd_ne (Ne.symm hSi)]; exact hi
  have e3 : upd H S (lst []) l = some (lst xs) := by rw [upd_ne hSl]; exact hl
  obtain ⟨n, oS⟩ := I1.lst e1
  have hx0 : xs[0]? = some xs[0] := by simp [hne]
  refine codeAny_builtin F.entry_min_loop ?_
  rw [Around.under_plainId F.plain_min_loop _]
  show wpAny _ A.in1 (seqItems? (.ref S) >>= _) _ _ _
  refine wpAny_bind (wpAny_seqItems oS rfl ?_)
  show wpAny _ A.in1 (tryCatch (pyNext (.ref it)) _ >>= _) _ _ _
  refine wpAny_bind (wpAny_tryCatch (wpAny_pyNext_list_item (x := xs[0]) (I1.rep _ _ e2) (I1.isList e3) (by simp) fun h' hi' hs => ?_))
  obtain ⟨oi, hoi, pi⟩ := hi'
  have I2 := I1.turnO (P' := lit l 1) hio hs.extBut hoi pi s.toks
  have e1' : upd (upd H S (lst [])) it (lit l 1) S = some (lst []) := by rw [upd_ne hSi, upd_same]
  obtain ⟨n', oS'⟩ := I2.lst e1'
  show wpAny _ A.in1 (updateSeq S (fun _ => #[xs[0], xs[0]]) >>= _) _ _ _
  refine wpAny_bind ?_
  refine wpAny_updateSeq oS' rfl ?_ (by simp [sizeLine]) (by simp [sizeLine])
  rw [hname]
  have I3 := I2.turnO (P' := lst [xs[0], xs[0]]) hSo (Heap.SameBut.update h' S (Obj.mapSeq fun _ => #[xs[0], xs[0]])).extBut (IsL.update oS' _) ⟨_, rfl⟩ s.toks
  rw [upd_comm (Ne.symm hSi), upd_upd] at I3
  have hdS : del H it S = none := by rw [del_ne hSi]; exact hS
  have hdi : del H it it = none := if_pos rfl
  have hdl : del H it l = some (lst xs) := by rw [del_ne li]; exact hl
  have eH : upd (upd H S (lst [xs[0], xs[0]])) it (lit l 1) = upd (upd (del H it) S (lst [xs[0], xs[0]])) it (lit l 1) := by
    funext b
    by_cases hb : b = it
    · subst hb; rw [upd_same, upd_same]
    · rw [upd_ne hb, upd_ne hb]
      by_cases hb2 : b = S
      · subst hb2; rw [upd_same, upd_same]
      · rw [upd_ne hb2, upd_ne hb2, del_ne hb]
  rw [eH] at I3
  refine wpAny_pure ⟨plainId_quiet F.plain_min_loop _, min_loop (H := del H it) hh hD hdS hSo hdi hio hSi hdl hcmp (fun s' v I' e => ⟨_, I', e, S, hS, hSo, rfl⟩) _ 1 xs[0] _ rfl hne (List.getElem_mem hne) ?_ I3⟩
  rw [show xs.getD 0 Value.none = xs[0] by simp [hne]]
end

theorem args_max_dk (a d v : Value) : argsOk "max" ⟨[a], [(Str.ofString "default", d), (Str.ofString "key", v)]⟩ := by unfold argsOk; kernel_rfl
section
variable {c : Cx} {A : Around} {H Dat : HM} {key : Value → Key}
theorem max_loop {S it l : Addr} {xs : List Value} {d : Value} {bt : Value → Value → Bool} {R : Result → Shared → Prop} (hh : A.handled = none) (hD : Sub Dat H) (hS : H S = none) (hSo : Own c S) (hi : H it = none) (hio : Own c it) (hne : S ≠ it) (hl : H l = some (lst xs))
    (hcmp : ∀ (B : Around) (H' : HM) (s : Shared) (v w : Value), Inv c H' s → Sub Dat H' → B.units ≤ A.units + 2 → v ∈ xs → w ∈ xs → RcOp .Gt B s v w (bt v w))
    (hR : ∀ s' v, Inv c (upd H S (lst [])) s' → v = bestOf bt (xs.getD 0 .none) (xs.drop 1) → R (.ok (.ret v)) s') :
    ∀ (k i : Nat) (vb : Value) (s : Shared), xs.length - i = k → i ≤ xs.length → vb ∈ xs → bestOf bt vb (xs.drop i) = bestOf bt (xs.getD 0 .none) (xs.drop 1) → Inv c (upd (upd H S (lst [vb, vb])) it (lit l i)) s →
      codeAny (model c.prog c.w) A (.builtin "max.loop" ⟨[.ref it, .none, .ref S], [(Str.ofString "default", d)]⟩) R s := by
  have hname : (toString "max" ++ toString ".loop" : String) = "max.loop" := by decide
  have lS : l ≠ S := by rintro rfl; rw [hS] at hl; cases hl
  have li : l ≠ it := by rintro rfl; rw [hi] at hl; cases hl
  intro k
  induction k with
  | zero =>
    intro i vb s hk hle hvb heq I
    have e1 : upd (upd H S (lst [vb, vb])) it (lit l i) S = some (lst [vb, vb]) := by rw [upd_ne hne, upd_same]
    have e2 : upd (upd H S (lst [vb, vb])) it (lit l i) it = some (lit l i) := upd_same ..
    have e3 : upd (upd H S (lst [vb, vb])) it (lit l i) l = some (lst xs) := by rw [upd_ne li, upd_ne lS]; exact hl
    obtain ⟨n, oS⟩ := I.lst e1
    refine codeAny_builtin F.entry_max_loop ?_
    rw [Around.under_plainId F.plain_max_loop _]
    show wpAny _ A.in1 (seqItems? (.ref S) >>= _) _ _ s
    refine wpAny_bind (wpAny_seqItems oS rfl ?_)
    show wpAny _ A.in1 (tryCatch (pyNext (.ref it)) _ >>= _) _ _ s
    refine wpAny_bind (wpAny_tryCatch (wpAny_pyNext_list_end hh (I.rep _ _ e2) (I.isList e3) (by simp; omega) fun h' hs => ?_))
    have I1 := I.lost hio hs s.toks
    have e1' : del (upd (upd H S (lst [vb, vb])) it (lit l i)) it S = some (lst [vb, vb]) := by rw [del_ne hne]; exact e1
    obtain ⟨n', oS'⟩ := I1.lst e1'
    show wpAny _ A.in1 (updateSeq S (fun _ => #[]) >>= _) _ _ _
    refine wpAny_bind ?_
    refine wpAny_updateSeq oS' rfl (wpAny_bind (wpAny_letGo (wpAny_pure ?_))) (by simp [sizeLine]) (by simp)
    have I2 := I1.turnO (P' := lst []) hSo (Heap.SameBut.update h' S (Obj.mapSeq fun _ => #[])).extBut (IsL.update oS' _) ⟨_, rfl⟩ s.toks
    have eF : upd (del (upd (upd H S (lst [vb, vb])) it (lit l i)) it) S (lst []) = upd H S (lst []) := by
      funext b
      by_cases hb : b = S
      · subst hb; rw [upd_same, upd_same]
      · rw [upd_ne hb, upd_ne hb]
        by_cases hb2 : b = it
        · subst hb2; rw [hi]; exact if_pos rfl
        · rw [del_ne hb2, upd_ne hb2, upd_ne hb]
    rw [eF] at I2
    exact hR _ vb I2 (by rw [← heq, List.drop_of_length_le (by omega)]; rfl)
  | succ k ih =>
    intro i vb s hk hle hvb heq I
    have e1 : upd (upd H S (lst [vb, vb])) it (lit l i) S = some (lst [vb, vb]) := by rw [upd_ne hne, upd_same]
    have e2 : upd (upd H S (lst [vb, vb])) it (lit l i) it = some (lit l i) := upd_same ..
    have e3 : upd (upd H S (lst [vb, vb])) it (lit l i) l = some (lst xs) := by rw [upd_ne li, upd_ne lS]; exact hl
    obtain ⟨n, oS⟩ := I.lst e1
    have hlt : i < xs.length := by omega
    have hx : xs[i]? = some xs[i] := by simp [hlt]
    refine codeAny_builtin F.entry_max_loop ?_
    rw [Around.under_plainId F.plain_max_loop _]
    show wpAny _ A.in1 (seqItems? (.ref S) >>= _) _ _ s
    refine wpAny_bind (wpAny_seqItems oS rfl ?_)
    show wpAny _ A.in1 (tryCatch (pyNext (.ref it)) _ >>= _) _ _ s
    refine wpAny_bind (wpAny_tryCatch (wpAny_pyNext_list_item (x := xs[i]) (I.rep _ _ e2) (I.isList e3) (by simp [hlt]) fun h' hi' hs => ?_))
    obtain ⟨oi, hoi, pi⟩ := hi'
    have I1 := I.turnO (P' := lit l (i + 1)) hio hs.extBut hoi pi s.toks
    rw [upd_upd] at I1
    have e1' : upd (upd H S (lst [vb, vb])) it (lit l (i + 1)) S = some (lst [vb, vb]) := by rw [upd_ne hne, upd_same]
    obtain ⟨n', oS'⟩ := I1.lst e1'
    have hDat : Sub Dat (upd (upd H S (lst [vb, vb])) it (lit l (i + 1))) := hD.trans (Sub.upd_new (Sub.upd_new (Sub.refl _) hS) hi)
    show wpAny _ A.in1 (tryCatch (holding [xs[i], xs[i]] (richCompare .Gt xs[i] vb >>= _)) _ >>= _) _ _ _
    refine wpAny_bind (wpAny_tryCatch (wpAny_holding (wpAny_bind (hcmp _ _ _ _ _ I1 hDat (by show A.units + 1 ≤ A.units + 2; omega) (List.getElem_mem hlt) hvb _ _ _ _ ?_))))
    refine wpAny_bind (wpAny_holding (wpAny_truthy_bool ?_))
    refine wpAny_bind (wpAny_letGo (wpAny_pure ?_))
    rw [List.drop_eq_getElem_cons hlt, bestOf] at heq
    cases hb : bt xs[i] vb with
    | true =>
      simp only [hb, if_true] at heq ⊢
      refine wpAny_bind ?_
      refine wpAny_updateSeq oS' rfl (wpAny_bind (wpAny_letGo ?_)) (by simp [sizeLine]) (by simp [sizeLine])
      rw [hname]
      refine wpAny_pure ⟨plainId_quiet F.plain_max_loop _, ih (i + 1) xs[i] _ (by omega) hlt (List.getElem_mem hlt) heq ?_⟩
      have I2 := I1.turnO (P' := lst [xs[i], xs[i]]) hSo (Heap.SameBut.update h' S (Obj.mapSeq fun _ => #[xs[i], xs[i]])).extBut (IsL.update oS' _) ⟨_, rfl⟩ s.toks
      rw [upd_comm (Ne.symm hne), upd_upd] at I2
      exact I2
    | false =>
      simp only [hb, Bool.false_eq_true, if_false] at heq ⊢
      refine wpAny_bind (wpAny_letGo ?_)
      rw [hname]
      exact wpAny_pure ⟨plainId_quiet F.plain_max_loop _, ih (i + 1) vb _ (by omega) hlt hvb heq I1⟩
theorem w_max {it l : Addr} {xs : List Value} {d : Value} {bt : Value → Value → Bool} (hh : A.handled = none) (hu : A.units + 20 < cLine) (hD : Sub Dat (del H it)) (hi : H it = some (lit l 0)) (hio : Own c it) (hl : H l = some (lst xs)) (hne : 0 < xs.length) (hx : ∀ y ∈ xs, PairAt Dat key y)
    (hcmp : ∀ (B : Around) (H' : HM) (s : Shared) (v w : Value), Inv c H' s → Sub Dat H' → B.units ≤ A.units + 2 → v ∈ xs → w ∈ xs → RcOp .Gt B s v w (bt v w)) :
    W c A (call (.builtin "max") [.ref it] [(Str.ofString "default", d), (Str.ofString "key", .none)]) H (fun v H' => v = bestOf bt (xs.getD 0 .none) (xs.drop 1) ∧ ∃ S, H S = none ∧ Own c S ∧ H' = upd (del H it) S (lst [])) := fun s I => by
  have hname : (toString "max" ++ toString ".loop" : String) = "max.loop" := by decide
  have li : l ≠ it := by
    rintro rfl; rw [hl] at hi
    have := Option.some.inj hi
    exact absurd (congrFun this { cls := .type "list", data := .seq xs.toArray 0 }) (by simp [lst, lit])
  refine kmk_tree F.kind_max F.plain_max F.entry_max (args_max_dk _ _ _) ?_
  show wpAny _ A.in1 (Builtin.Builtins.bindParams "max" ["key", "default"] 0 ⟨[], [(Str.ofString "default", d), (Str.ofString "key", .none)]⟩ >>= _) _ _ s
  refine wpAny_bind (wpAny_of_eq (show Builtin.Builtins.bindParams "max" ["key", "default"] 0 ⟨[], [(Str.ofString "default", d), (Str.ofString "key", .none)]⟩ = pure [some .none, some d] from rfl) ?_)
  refine wpAny_bind (wpAny_pure ?_)
  refine wpAny_bind (wpAny_pyIter_listiter (I.rep _ _ hi) ?_)
  refine wpAny_bind (wpAny_newList ?_ (Nat.zero_le _))
  rw [hname]
  refine wpAny_pure ⟨plainId_quiet F.plain_max_loop _, ?_⟩
  have hS := I.fresh
  have hSo := I.own
  have I1 := I.push (P := lst []) (o := { cls := .type "list", data := .seq ([] : List Value).toArray }) rfl ⟨0, rfl⟩ s.toks
  dsimp only
  generalize s.heap.objs.size = S at *
  have hSi : S ≠ it := by rintro rfl; rw [hS] at hi; cases hi
  have hSl : l ≠ S := by rintro rfl; rw [hS] at hl; cases hl
  have e1 : upd H S (lst []) S = some (lst []) := upd_same ..
  have e2 : upd H S (lst []) it = some (lit l 0) := by rw [upd_ne (Ne.symm hSi)]; exact hi
  have e3 : upd H S (lst []) l = some (lst xs) := by rw [upd_ne hSl]; exact hl
  obtain ⟨n, oS⟩ := I1.lst e1
  have hx0 : xs[0]? = some xs[0] := by simp [hne]
  refine codeAny_builtin F.entry_max_loop ?_
  rw [Around.under_plainId F.plain_max_loop _]
  show wpAny _ A.in1 (seqItems? (.ref S) >>= _) _ _ _
  refine wpAny_bind (wpAny_seqItems oS rfl ?_)
  show wpAny _ A.in1 (tryCatch (pyNext (.ref it)) _ >>= _) _ _ _
  refine wpAny_bind (wpAny_tryCatch (wpAny_pyNext_list_item (x := xs[0]) (I1.rep _ _ e2) (I1.isList e3) (by simp) fun h' hi' hs => ?_))
  obtain ⟨oi, hoi, pi⟩ := hi'
  have I2 := I1.turnO (P' := lit l 1) hio hs.extBut hoi pi s.toks
  have e1' : upd (upd H S (lst [])) it (lit l 1) S = some (lst []) := by rw [upd_ne hSi, upd_same]
  obtain ⟨n', oS'⟩ := I2.lst e1'
  show wpAny _ A.in1 (updateSeq S (fun _ => #[xs[0], xs[0]]) >>= _) _ _ _
  refine wpAny_bind ?_
  refine wpAny_updateSeq oS' rfl ?_ (by simp [sizeLine]) (by simp [sizeLine])
  rw [hname]
  have I3 := I2.turnO (P' := lst [xs[0], xs[0]]) hSo (Heap.SameBut.update h' S (Obj.mapSeq fun _ => #[xs[0], xs[0]])).extBut (IsL.update oS' _) ⟨_, rfl⟩ s.toks
  rw [upd_comm (Ne.symm hSi), upd_upd] at I3
  have hdS : del H it S = none := by rw [del_ne hSi]; exact hS
  have hdi : del H it it = none := if_pos rfl
  have hdl : del H it l = some (lst xs) := by rw [del_ne li]; exact hl
  have eH : upd (upd H S (lst [xs[0], xs[0]])) it (lit l 1) = upd (upd (del H it) S (lst [xs[0], xs[0]])) it (lit l 1) := by
    funext b
    by_cases hb : b = it
    · subst hb; rw [upd_same, upd_same]
    · rw [upd_ne hb, upd_ne hb]
      by_cases hb2 : b = S
      · subst hb2; rw [upd_same, upd_same]
      · rw [upd_ne hb2, upd_ne hb2, del_ne hb]
  rw [eH] at I3
  refine wpAny_pure ⟨plainId_quiet F.plain_max_loop _, max_loop (H := del H it) hh hD hdS hSo hdi hio hSi hdl hcmp (fun s' v I' e => ⟨_, I', e, S, hS, hSo, rfl⟩) _ 1 xs[0] _ rfl hne (List.getElem_mem hne) ?_ I3⟩
  rw [show xs.getD 0 Value.none = xs[0] by simp [hne]]
end
end
section
open PySem.SeqAt
/-! ### object() -/
theorem lookup_object_new : typeLookup (.type "object") "__new__" = pure (some (.builtin "object.__new__")) := by rw [typeLookup_type, builtinLookup_eq_fast]; kernel_rfl
theorem made_object : Bind.madeBy (.type "object") = pure (some "object.__new__") := madeBy_type PySem.F.mro_object lookup_object_new (by decide +kernel)
theorem called_object : TypeCalled "object" "object.__new__" "object.__init__" :=
  ⟨by decide +kernel, by decide +kernel, ⟨_, _, PySem.F.mro_object⟩, made_object, by decide +kernel, by rw [isSubtype_type]; kernel_rfl, F.slot_object_init⟩
theorem typeCall_object_0 : checkTypeCall "object" ⟨[], []⟩ = pure () := by kernel_rfl
theorem newCall_object_0 : checkBuiltinCall "object.__new__" ⟨[.type "object"], []⟩ = pure () := by kernel_rfl
theorem args_object_init_1 (a : Value) : argsOk "object.__init__" ⟨[a], []⟩ := by
  unfold argsOk; rw [signature?_of (id := "object.__init__") (n := ['_', '_', 't', 'i', 'n', 'i', '_', '_']) (o := ['t', 'c', 'e', 'j', 'b', 'o']) (by kernel_rfl) F.owner_object]; kernel_rfl
theorem object_new_meets : Meets (Builtin.«object.__new__» ⟨[.type "object"], []⟩) (fun _ R s => R (.ok (.ret (.ref s.heap.objs.size))) { s with heap := s.heap.push { cls := .type "object", data := .plain } }) := by
  refine Meets.of_wp fun prog w A R s h => ?_
  unfold Builtin.«object.__new__»
  refine wpAny_bind (m := isType _) (wpAny_of_eq (a := true) (by first | rfl | kernel_rfl) ?_)
  simp only [Bool.not_true, Bool.false_eq_true, if_false]
  refine wpAny_bind (m := Bind.madeHere _ _) (wpAny_of_eq (a := ()) (by first | rfl | kernel_rfl) ?_)
  first
  | exact wpAny_bind (wpAny_newObj_type (wpAny_pure ⟨_, rfl, h⟩))
  | exact wpAny_bind (wpAny_pure (wpAny_bind (wpAny_newObj_type (wpAny_pure ⟨_, rfl, h⟩))))
  | skip
section
variable {prog : Program} {w : World} {A : Around} {E : Value → Shared → Prop} {s : Shared}
theorem call_object_0 {Q : Value → Shared → Prop} (h : Q (.ref s.heap.objs.size) { s with heap := s.heap.push { cls := .type "object", data := .plain } }) : wpAny (model prog w) A (call (.type "object") []) Q E s := by
  refine callType_meets (Q₁ := fun obj s₁ => s₁.TypeIs obj "object" ∧ Q obj s₁) called_object typeCall_object_0 newCall_object_0 PySem.F.entry_object_new F.entry_object_init object_new_meets ⟨⟨_, Heap.get?_push_size _ rfl, rfl⟩, h⟩ (fun obj s₁ hq => ?_)
  refine ⟨hq.1, args_object_init_1 _, fun _ R s => R (.ok (.ret .none)) s, Meets.of_wp fun prog w A R s hs => ?_, rfl, hq.2⟩
  exact wpAny_pure ⟨_, rfl, hs⟩
end
end
section
open PySem.SeqAt
noncomputable def objP : OP := fun o => o = { cls := .type "object", data := .plain }
noncomputable def zipHp (h : Heap) (it : Addr) (a b c : Int) : Heap :=
  (((h.push { cls := .type "range_iterator", data := .fields #[rawInt a, rawInt (Builtin.Range.rangeSize a b c), rawInt c] }).push { cls := .type "tuple", data := .seq #[.ref h.objs.size, .ref it] }).push { cls := .type "tuple", data := .seq #[.none, .none] }).push { cls := .type "zip", data := .fields #[.none, .bool false, .bool false, .ref (h.objs.size + 1), .ref (h.objs.size + 2)] }
theorem nlt {a n : Nat} (h : a < n) (k : Nat) : a ≠ n + k := by omega
theorem nlt0 {a n : Nat} (h : a < n) : a ≠ n := by omega
theorem nadd {n j k : Nat} (h : j ≠ k) : n + j ≠ n + k := by omega
theorem nz0 {n k : Nat} : n ≠ n + (k + 1) := by omega
theorem meets_zip_ri (r it l : Addr) (i : Nat) (a b c : Int) (t u v : Tok) (hsm : Builtin.Range.small a b c = true) :
    Meets (Builtin.«zip.__new__» ⟨[.type "zip", .ref r, .ref it], []⟩) (fun _ R s => IsRange s.heap r a b c t u v ∧ s.heap.IsListIter it l i ∧
      R (.ok (.ret (.ref (s.heap.objs.size + 3)))) { s with heap := zipHp s.heap it a b c }) :=
  .of_wp fun prog w A R s h => by
    obtain ⟨hp, g, d, tk, os⟩ := s; obtain ⟨hl1, hl2, h⟩ := h
    have hsub := sub_zip
    have hL1 : IsRange (Shared.heap ⟨hp, g, d, tk, os⟩) r a b c t u v := hl1
    have hL2 : Heap.IsListIter (Shared.heap ⟨hp.push { cls := .type "range_iterator", data := .fields #[rawInt a, rawInt (Builtin.Range.rangeSize a b c), rawInt c] }, g, d, tk, os⟩) it l i := by
      obtain ⟨o, ho, r⟩ := hl2
      exact ⟨o, Heap.get?_push_of_some _ ho, r⟩
    wp_walk using wpAny_pyIter_range hL1 hsm, wpAny_pyIter_listiter hL2
    refine ⟨_, rfl, ?_⟩
    simp only [zipHp, Heap.size_push] at h ⊢
    exact h
section
variable {α β : Type} {c : Cx} {A : Around} {L : Addr} {H Dat : HM} {m : Loc} {env : Env} {key : Value → Key}
theorem f_object {Q : Value → HM → Loc → Prop} (h : ∀ a, H a = none → Own c a → a ≠ L → Q (.ref a) (upd H a objP) m) : WF c A L (call (.type "object") []) H m Q := fun s I hL hn => by
  obtain ⟨I', hL', hn', hf, ho, hne⟩ := new_frame (P := objP) (t := s.toks) I hL hn rfl (o := { cls := .type "object", data := .plain }) rfl rfl
  exact call_object_0 ⟨_, m, I', hL', hn', h _ hf ho hne⟩
theorem f_iterB {l : Addr} {xs : List Value} {Q : Value → HM → Loc → Prop} (hl : H l = some (lst xs)) (h : ∀ a, H a = none → Own c a → a ≠ L → Q (.ref a) (upd H a (lit l 0)) m) : WF c A L (call (.builtin "iter") [.ref l]) H m Q := fun s I hL hn => by
  refine call_function_entry_kw (by decide +kernel) (by decide +kernel) kdk_entry_iter (kdk_args_iter _) ?_
  unfold Builtin.«iter»
  refine wpAny_bind (m := someArgs "iter" 1 2 _) (wpAny_of_eq (a := [Value.ref l]) (by first | rfl | kernel_rfl) ?_)
  show wpAny _ _ (pyIter (.ref l) >>= _) _ _ _
  refine wpAny_bind (wpAny_mono (f_iterL (A := A.in1) hl h s I hL hn) (fun v s' z => wpAny_pure ⟨_, rfl, z⟩) fun _ _ e => e.elim)
theorem f_range3 {a b st : Int} {t u v : Tok} {Q : Value → HM → Loc → Prop} (hst : st ≠ 0) (hp : Builtin.divisionGoesByPylong (b - a) st = false) (h : ∀ r, H r = none → Own c r → r ≠ L → Q (.ref r) (upd H r (rng a b st)) m) : WF c A L (call (.type "range") [.int a t, .int b u, .int st v]) H m Q := fun s I hL hn => by
  obtain ⟨I', hL', hn', hf, ho, hne⟩ := new_frame (P := rng a b st) (t := s.toks) I hL hn rfl (o := { cls := .type "range", data := .fields #[.int a t, .int b u, .int st v] }) rfl ⟨_, _, _, rfl⟩
  exact call_range_3 hst ⟨_, m, I', hL', hn', h _ hf ho hne⟩ (.inl hp)
theorem f_zip {r it l : Addr} {i : Nat} {a b st : Int} {xs : List Value} {Q : Value → HM → Loc → Prop} (hr : H r = some (rng a b st)) (hsm : Builtin.Range.small a b st = true) (hi : H it = some (lit l i)) (hio : Own c it) (hl : H l = some (lst xs))
    (h : ∀ z TI TO ri Hz, ZipOK c Hz z TI TO ri it l xs → Sub (del H it) Hz → Hz L = none → z ≠ L → TO ≠ L → ri ≠ L → Q (.ref z) (ZS Hz z TI TO ri it l st .none .none .none a (Builtin.Range.rangeSize a b st) i) m) :
    WF c A L (call (.type "zip") [.ref r, .ref it]) H m Q := fun s I hL hn => by
  obtain ⟨o, ho, t, u, v, rfl⟩ := I.rep _ _ hr
  obtain ⟨oi, hoi, pi⟩ := I.rep _ _ hi
  have lt : ∀ d P, H d = some P → d < s.heap.objs.size := fun d P e => by obtain ⟨o, ho, _⟩ := I.rep d P e; exact Heap.lt_size ho
  have hit := lt _ _ hi
  have hl' := lt _ _ hl
  have hLt := hn.lt
  have own : ∀ k, Own c (s.heap.objs.size + k) := fun k => (I.above (Nat.le_add_right _ k)).2
  have non : ∀ k, H (s.heap.objs.size + k) = none := fun k => (I.above (Nat.le_add_right _ k)).1
  have own0 : Own c s.heap.objs.size := own 0
  have non0 : H s.heap.objs.size = none := non 0
  have li : l ≠ it := by
    rintro rfl; rw [hl] at hi
    have := Option.some.inj hi
    exact absurd (congrFun this { cls := .type "list", data := .seq xs.toArray 0 }) (by simp [lst, lit])
  refine callType_new PySem.F.called_zip (by decide) (PySem.F.typeCall_zip_2 _ _) (PySem.F.newCall_zip_2 _ _) (fun obj => PySem.F.args_object_init_3 obj _ _) PySem.F.entry_zip_new (meets_zip_ri r it l i a b st t u v hsm) ⟨ho, ⟨oi, hoi, pi⟩, ?_⟩
  unfold zipHp
  generalize hn0 : s.heap.objs.size = n at *
  generalize ho1 : ({ cls := .type "range_iterator", data := .fields #[rawInt a, rawInt (Builtin.Range.rangeSize a b st), rawInt st] } : Obj) = o1
  generalize ho2 : ({ cls := .type "tuple", data := .seq #[.ref n, .ref it] } : Obj) = o2
  generalize ho3 : ({ cls := .type "tuple", data := .seq #[.none, .none] } : Obj) = o3
  generalize ho4 : ({ cls := .type "zip", data := .fields #[.none, .bool false, .bool false, .ref (n + 1), .ref (n + 2)] } : Obj) = o4
  have z1 : (s.heap.push o1).objs.size = n + 1 := by rw [Heap.size_push, hn0]
  have z2 : ((s.heap.push o1).push o2).objs.size = n + 2 := by rw [Heap.size_push, z1]
  have z3 : (((s.heap.push o1).push o2).push o3).objs.size = n + 3 := by rw [Heap.size_push, z2]
  have g1 : ((((s.heap.push o1).push o2).push o3).push o4).get? n = some o1 := Heap.get?_push_of_some _ (Heap.get?_push_of_some _ (Heap.get?_push_of_some _ (by rw [← hn0]; exact Heap.get?_push_size _ (by rw [← ho1]; rfl))))
  have g2 : ((((s.heap.push o1).push o2).push o3).push o4).get? (n + 1) = some o2 := Heap.get?_push_of_some _ (Heap.get?_push_of_some _ (by rw [← z1]; exact Heap.get?_push_size _ (by rw [← ho2]; rfl)))
  have g3 : ((((s.heap.push o1).push o2).push o3).push o4).get? (n + 2) = some o3 := Heap.get?_push_of_some _ (by rw [← z2]; exact Heap.get?_push_size _ (by rw [← ho3]; rfl))
  have g4 : ((((s.heap.push o1).push o2).push o3).push o4).get? (n + 3) = some o4 := by rw [← z3]; exact Heap.get?_push_size _ (by rw [← ho4]; rfl)
  have keep : ∀ d o, s.heap.get? d = some o → ((((s.heap.push o1).push o2).push o3).push o4).get? d = some o := fun d o e => Heap.get?_push_of_some _ (Heap.get?_push_of_some _ (Heap.get?_push_of_some _ (Heap.get?_push_of_some _ e)))
  generalize (((s.heap.push o1).push o2).push o3).push o4 = h4 at *
  have hTIn : del H it (n + 1) = none := by rw [del_ne (nlt hit 1).symm]; exact non 1
  have K : ZipOK c (upd (del H it) (n + 1) (tup0 [.ref n, .ref it])) (n + 3) (n + 1) (n + 2) n it l xs := {
    oz := own 3, oT := own 2, oI := own 1, orr := own0, oi := hio
    nz := by rw [upd_ne (nadd (by decide)), del_ne (nlt hit 3).symm]; exact non 3
    nT := by rw [upd_ne (nadd (by decide)), del_ne (nlt hit 2).symm]; exact non 2
    nr := by rw [upd_ne nz0, del_ne (nlt0 hit).symm]; exact non0
    ni := by rw [upd_ne (nlt hit 1)]; exact if_pos rfl
    TOz := nadd (by decide)
    i1z := nz0
    i2z := nlt hit 3
    TOi1 := nz0.symm
    TOi2 := (nlt hit 2).symm
    i12 := (nlt0 hit).symm
    TI_ := upd_same ..
    l_ := by rw [upd_ne (nlt hl' 1), del_ne li]; exact hl }
  have hLz : upd (del H it) (n + 1) (tup0 [.ref n, .ref it]) L = none := by
    rw [upd_ne (nlt hLt 1)]; unfold del; split
    · rfl
    · exact hL
  refine ⟨⟨o4, g4, by rw [← ho4]⟩, ZS (upd (del H it) (n + 1) (tup0 [.ref n, .ref it])) (n + 3) (n + 1) (n + 2) n it l st .none .none .none a (Builtin.Range.rangeSize a b st) i, m, ⟨?_, ?_, by rw [I.fit]⟩, ?_, hn.keeps keep, h (n + 3) (n + 1) (n + 2) n _ K (Sub.upd_new (Sub.refl _) hTIn) hLz (nlt hLt 3).symm (nlt hLt 2).symm (nlt0 hLt).symm⟩
  · refine K.rep ⟨o4, g4, ho4.symm⟩ ⟨o3, g3, ho3.symm⟩ ⟨o1, g1, ho1.symm⟩ ⟨oi, keep _ _ hoi, pi⟩ (fun d P e d1 d2 d3 d4 => ?_)
    by_cases hd : d = n + 1
    · subst hd; rw [upd_same] at e; cases e; exact ⟨o2, g2, ho2.symm⟩
    · rw [upd_ne hd, del_ne d4] at e
      obtain ⟨o, ho, p⟩ := I.rep d P e
      exact ⟨o, keep _ _ ho, p⟩
  · exact K.bs ((Bs.delO I.base hio).updO (own 1))
  · rw [K.off (nlt hLt 3) (nlt hLt 2) (nlt0 hLt) (by rintro rfl; rw [hL] at hi; cases hi)]; exact hLz
theorem f_unpack {elts : List PySem.Expr} {k} {pos : Pos} {T : Addr} {vs : List Value} {Q : Unit → HM → Loc → Prop} (hh : A.handled = none) (hT : H T = some (tup vs)) (hn : (assignEach elts env).length = vs.length) (hstar : (assignEach elts env).findIdx? (·.1) = none)
    (h : WF c A L (assignInOrder ((assignEach elts env).map (·.2)) vs) H m Q) : WF c A L (assign (.Tuple elts k pos) env (.ref T)) H m Q := fun s I hL hns => by
  obtain ⟨o, ho, n, rfl⟩ := I.rep _ _ hT
  refine wpAny_assign_Tuple hh (items := vs.toArray) ⟨_, ho, rfl, n, rfl⟩ (by simpa using hn) hstar (fun h' hs => ?_)
  have keep : ∀ b o, s.heap.get? b = some o → h'.get? b = some o := fun b o e => hs b o (Nat.ne_of_lt (Heap.lt_size e)) e
  exact h _ (I.keep keep s.toks) hL (hns.keeps keep)
theorem f_inOrder0 {xs : List Value} {Q : Unit → HM → Loc → Prop} (h : Q () H m) : WF c A L (assignInOrder [] xs) H m Q := fun s I hL hn => assignInOrder_nil ⟨H, m, I, hL, hn, h⟩
theorem f_inOrder {t : Value → Sem Unit} {ts : List (Value → Sem Unit)} {x : Value} {xs : List Value} {Q : Unit → HM → Loc → Prop} (h : WF c A L (t x) H m (fun _ H₁ m₁ => WF c A L (assignInOrder ts xs) H₁ m₁ Q)) : WF c A L (assignInOrder (t :: ts) (x :: xs)) H m Q :=
  fun s I hL hn => assignInOrder_cons (wpAny_mono (h s I hL hn) (fun _ s₁ zx => fx zx fun _ _ I₁ hL₁ hn₁ q => q s₁ I₁ hL₁ hn₁) fun _ _ e => e)
theorem f_goL {elts : List PySem.Expr} {k} {pos : Pos} {it l T : Addr} {i : Nat} {Q : Unit → HM → Loc → Prop} (hit : H it = some (lit l i)) (h : Q () H m) : WF c A L (letOwnedTupleGo (.Tuple elts k pos) (.ref it) (.ref T)) H m Q :=
  fun s I hL hn => wpAny_letOwnedTupleGo_listiter (I.rep _ _ hit) ⟨H, m, I, hL, hn, h⟩
theorem f_AssignT {elts k tpos value pos} {Q : Flow → HM → Loc → Prop} (h : WF c A L (eval value env) H m (fun v H₁ m₁ => WF c A L (assign (.Tuple elts k tpos) env v) H₁ m₁ (fun _ => Q .next)))
    (hs : swapsWithSole [.Tuple elts k tpos] value pos.line env = pure false := by rfl) (hw : swappedStores [.Tuple elts k tpos] value env = pure none := by rfl) : WF c A L (exec (.Assign [.Tuple elts k tpos] value pos) env) H m Q :=
  fun s I hL hn => Assign_Tuple (wpAny_mono (h s I hL hn) (fun _ s₁ zx => fx zx fun _ _ I₁ hL₁ hn₁ q => q s₁ I₁ hL₁ hn₁) fun _ _ e => e) hs hw
/-! ### keywords -/
theorem f_kw0 {pos : Pos} {Q : List Value → HM → Loc → Prop} (h : Q [] H m) : WF c A L (evalAll ((backToKw pos (keywordEach [] env)).map (·.2))) H m Q := fun s I hL hn => kwAll_nil ⟨H, m, I, hL, hn, h⟩
theorem f_kw {pos p : Pos} {name : Str} {value : PySem.Expr} {rest : List Keyword} {Q : List Value → HM → Loc → Prop} (h : WF c A L (eval value env) H m (fun v H₁ m₁ => WF c A L (evalAll ((backToKw pos (keywordEach rest env)).map (·.2))) H₁ m₁ (fun vs => Q (v :: vs)))) :
    WF c A L (evalAll ((backToKw pos (keywordEach (⟨some name, value, p⟩ :: rest) env)).map (·.2))) H m Q :=
  fun s I hL hn => kwAll_cons (wpAny_mono (h s I hL hn) (fun _ s₁ zx => fx zx fun _ _ I₁ hL₁ hn₁ q => q s₁ I₁ hL₁ hn₁) fun _ _ e => e)
theorem f_callKW {pos : Pos} {f : Value} {first : List Value} {e : PySem.Expr} {rest : List PySem.Expr} {kws : List Keyword} {Q : Value → HM → Loc → Prop}
    (h : WF c A L (spliced (backTo pos (starEach (e :: rest) env))) H m (fun vs H₁ m₁ => WF c A L (evalAll ((backToKw pos (keywordEach kws env)).map (·.2))) H₁ m₁ (fun ks H₂ m₂ =>
      Callee H₂ f ∧ WF c A L (call f (first ++ vs) (((backToKw pos (keywordEach kws env)).filterMap (·.1)).zip ks)) H₂ m₂ Q)))
    (hall : (backToKw pos (keywordEach kws env)).all (·.1.isSome) = true := by rfl)
    (hp : ((backTo pos (starEach (e :: rest) env)).any (·.1) || (backToKw pos (keywordEach kws env)).any (·.1.isNone)) = false := by rfl) (he : starEach (e :: rest) env = (false, eval e env) :: starEach rest env := by rfl) :
    WF c A L (callWith pos f first (backTo pos (starEach (e :: rest) env)) (backToKw pos (keywordEach kws env))) H m Q := fun s I hL hn =>
  callWith_of (P := CalleeAt f) hp CalleeAt.looks (evalArgs_kw2 hall (wpAny_mono (h s I hL hn) (fun vs s₁ zx => fx zx fun _ _ I₁ hL₁ hn₁ q => wpAny_mono (q s₁ I₁ hL₁ hn₁) (fun ks s₂ ⟨_, _, I₂, hL₂, hn₂, hc, q⟩ => ⟨hc.at I₂, q s₂ I₂ hL₂ hn₂⟩) fun _ _ e => e) fun _ _ e => e) he)
theorem f_callKW0 {pos : Pos} {f : Value} {first : List Value} {kws : List Keyword} {Q : Value → HM → Loc → Prop}
    (h : WF c A L (evalAll ((backToKw pos (keywordEach kws env)).map (·.2))) H m (fun ks H₂ m₂ => Callee H₂ f ∧ WF c A L (call f (first ++ []) (((backToKw pos (keywordEach kws env)).filterMap (·.1)).zip ks)) H₂ m₂ Q))
    (hall : (backToKw pos (keywordEach kws env)).all (·.1.isSome) = true := by rfl)
    (hp : ((backTo pos (starEach [] env)).any (·.1) || (backToKw pos (keywordEach kws env)).any (·.1.isNone)) = false := by rfl) :
    WF c A L (callWith pos f first (backTo pos (starEach [] env)) (backToKw pos (keywordEach kws env))) H m Q := fun s I hL hn =>
  callWith_of (P := CalleeAt f) hp CalleeAt.looks (evalArgs_kw2_nil hall (wpAny_mono (h s I hL hn) (fun ks s₂ ⟨_, _, I₂, hL₂, hn₂, hc, q⟩ => ⟨hc.at I₂, q s₂ I₂ hL₂ hn₂⟩) fun _ _ e => e))
theorem f_isNone {v : Value} {Q : Value → HM → Loc → Prop} (hp : plainIs v .none = true) (h : Q (.bool (v == .none)) H m) : WF c A L (compareOp .Is v .none) H m Q := fun s I hL hn => wpAny_is_plain hp ⟨H, m, I, hL, hn, h⟩
theorem f_isOther {a b : Addr} {v : Value} {Q : Value → HM → Loc → Prop} (hD : Sub Dat H) (hv : PairAt Dat key v) (hb : H b = some objP) (h : Q (.bool false) H m) : WF c A L (compareOp .Is v (.ref b)) H m Q := fun s I hL hn => by
  obtain ⟨a, t, u, rfl, ⟨o, ho, hc, n, hd⟩⟩ := hv.isList hD I
  obtain ⟨o', ho', rfl⟩ := I.rep _ _ hb
  refine wpAny_is_ref_other (by rintro rfl; rw [ho] at ho'; cases ho'; simp at hc) ho ho' (by rw [hc]; simp) ⟨H, m, I, hL, hn, h⟩
end
end
section
section
variable {prog : Program} {w : World} {A : Around} {s : Shared}
theorem codeAny_call_cellsB {R : Result → Shared → Prop} {a : Addr} {o : Obj} {fd : FuncData} {body : List Stmt} {vals : List Value} {kw : List (Str × Value)} {binds : List (Str × Value)}
    (hroom : A.depth < recursionLimit) (ho : s.heap.get? a = some o) (hdata : o.data = .func fd) (hlim : s.heap.NoLimit) (hcd : s.heap.CodeRec fd.code fd.qualname)
    (hbody : fd.body = .stmts body) (hbind : BindsTo s fd ⟨vals, kw⟩ binds) (hclo : fd.closure = [])
    (hkind : ∀ x ∈ binds, fd.scope.names.lookup x.1 = some .local ∨ (fd.scope.names.lookup x.1 = some .cell ∧ ((cellsFrom (s.heap.objs.size + 1) fd.scope.names []).lookup x.1).isSome = true))
    (h : ∀ s₁, InCallC s (callEnvC fd s.heap.objs.size a).locals (bindL (callEnvC fd s.heap.objs.size a).kindOf binds fun _ => none) (callEnvC fd s.heap.objs.size a).cells
        (bindC (callEnvC fd s.heap.objs.size a).kindOf binds fun _ => none) s₁ →
      wpAny (model prog w) (A.deeper (callEnvC fd s.heap.objs.size a)) (execs body (callEnvC fd s.heap.objs.size a)) (fun f s' => R (.ok (.ret (match f with | .ret v => v | _ => .none))) s')
        (fun e s' => wpAny (model prog w) (A.deeper (callEnvC fd s.heap.objs.size a)) (leaving (callEnvC fd s.heap.objs.size a) e) (fun _ s'' => R (.error e) s'') (fun e' s'' => R (.error e') s'') s') s₁)
    (hco : fd.scope.isCoroutine = false := by rfl) (hgen : fd.scope.isGenerator = false := by rfl) (hk : fd.scope.kind = .function := by rfl) :
    codeAny (model prog w) A (.call (.ref a) ⟨vals, kw⟩) R s := by
  refine codeAny_call_function hroom ho hdata hco hgen hbody hcd ?_
  rw [hclo]
  refine hbind _ _ _ _ (wpAny_newFunctionEnv_cells hk hkind fun env he s' x => ?_)
  subst he
  exact ⟨hlim.keeps x.toInCall.keep, codeAny_func (h s' x)⟩
end
section
variable {c : Cx} {A : Around} {H : HM}
theorem w_callFnB {f : Addr} {i : Nat} {dV kV : Value} {args : List Value} {kw : List (Str × Value)} {binds : List (Str × Value)} {Q : Value → HM → Prop} (ok : c.Ok) (F : FnAt c f i dV kV) (hroom : A.depth < recursionLimit)
    (hbind : ∀ s, Inv c H s → ∀ nm qual doc pm an cdv ct, BindsTo s (fnOf nm qual (paramsOf (stm i)) (bodyOf (stm i)) (scopeOf (stm i)) dV kV doc pm an cdv ct) ⟨args, kw⟩ binds)
    (hkind : (binds.all fun y => (scopeOf (stm i)).names.lookup y.1 == some .local || (scopeOf (stm i)).names.lookup y.1 == some .cell) = true)
    (hcs : ∀ L, AllLook (cellsFrom (L + 1) (scopeOf (stm i)).names []) (cellsFrom (L + 1) (scopeOf (stm i)).names []))
    (hco : (scopeOf (stm i)).isCoroutine = false) (hgen : (scopeOf (stm i)).isGenerator = false) (hk : (scopeOf (stm i)).kind = .function)
    (h : Bs c H → ∀ qual cdv L, (∀ a, L ≤ a → H a = none ∧ Own c a) → WF c (A.deeper (envC i qual cdv f L)) L (execs (bodyOf (stm i)) (envC i qual cdv f L))
      (addCells H (bindC (envC i qual cdv f L).kindOf binds fun _ => none) (envC i qual cdv f L).cells) (bindL (envC i qual cdv f L).kindOf binds fun _ => none) (End c Q)) :
    W c A (call (.ref f) args kw) H Q := by
  obtain ⟨oc, od, osl, nm, qual, doc, pm, an, cdv, ct, ho, hcd⟩ := F
  intro s I
  have hab : ∀ a, s.heap.objs.size ≤ a → H a = none ∧ Own c a := fun a ha => I.above ha
  refine wpAny_call (codeAny_call_cellsB (fd := fnOf nm qual (paramsOf (stm i)) (bodyOf (stm i)) (scopeOf (stm i)) dV kV doc pm an cdv ct) hroom (I.keeps _ _ ho) rfl (ok.nolimit.keeps I.keeps) (hcd.keeps I.keeps) rfl
    (hbind s I nm qual doc pm an cdv ct) rfl (kindsX hkind _) (fun s₁ X => ?_) hco hgen hk)
  have he : callEnvC (fnOf nm qual (paramsOf (stm i)) (bodyOf (stm i)) (scopeOf (stm i)) dV kV doc pm an cdv ct) s.heap.objs.size f = envC i qual cdv f s.heap.objs.size := rfl
  rw [he] at X ⊢
  obtain ⟨h₁, tk, rfl⟩ := X.toInCall.same
  have I₁ : Inv c H { s with heap := h₁, toks := tk } := I.keep X.toInCall.keep tk
  have hcells : ∀ x ∈ (envC i qual cdv f s.heap.objs.size).cells, h₁.IsCell x.2 (bindC (envC i qual cdv f s.heap.objs.size).kindOf binds (fun _ => none) x.1) ∧ Own c x.2 := fun x hx => by
    have hlt := X.above x.1 x.2 hx
    refine ⟨?_, (hab _ (Nat.le_of_lt hlt)).2⟩
    exact X.cell _ _ ((hcs _).get x hx)
  have I₂ := Inv.addCells (cm := bindC (envC i qual cdv f s.heap.objs.size).kindOf binds fun _ => none) I₁ _ hcells
  have hL : addCells H (bindC (envC i qual cdv f s.heap.objs.size).kindOf binds fun _ => none) (envC i qual cdv f s.heap.objs.size).cells s.heap.objs.size = none :=
    addCells_none (hab _ (Nat.le_refl _)).1 fun x hx => Nat.ne_of_gt (X.above x.1 x.2 hx)
  refine wpAny_mono (h I.base qual cdv s.heap.objs.size hab _ I₂ hL X.toInCall.ns) (fun fl s' hq => ?_) fun _ _ e => e.elim
  refine fx hq fun H' m' I' hL' hn' zq => ?_
  obtain ⟨H'', hsub, hb, q⟩ := zq
  cases fl <;> exact ⟨H'', I'.sub hsub hb, q⟩
end
end
section
/-- between the turns of a comprehension over zip -/
inductive ZI (c : Cx) (Hz : HM) (D L C z TI TO ri it l : Addr) (step x0 : Int) (n : Nat) (PP : Nat → Value → OP → Prop) (Hq : HM → List Value → HM) (k : Nat) (H' : HM) (m' : Loc) : Prop where
  | mk (j : Nat) (Hb : HM) (rs : List Value) (a b : Value) (hk : k = n - j) (hj : j ≤ n) (hH : H' = ZS (Hq Hb rs) z TI TO ri it l step .none a b (x0 + j * step) ((n : Int) - j) j) (hs : Sub Hz Hb) (hb : Bs c Hb) (n1 : Hb D = none) (n2 : Hb L = none) (n3 : Hb C = none)
    (n4 : Hb z = none) (n5 : Hb TO = none) (n6 : Hb ri = none) (n7 : Hb it = none) (hl : rs.length = j) (hd : rs.Nodup) (hr : ∀ i, i < j → ∃ a P, rs.getD i .none = .ref a ∧ Hb a = some P ∧ Hz a = none ∧ PP i (.ref a) P) : ZI c Hz D L C z TI TO ri it l step x0 n PP Hq k H' m'
section
variable {α β : Type} {c : Cx} {A : Around} {L : Addr} {H Hz : HM} {m : Loc} {env : Env} {z TI TO ri it l : Addr} {xs : List Value} {step : Int}
theorem ZipOK.mono {Hz' : HM} (K : ZipOK c Hz z TI TO ri it l xs) (hs : Sub Hz Hz') (h1 : Hz' z = none) (h2 : Hz' TO = none) (h3 : Hz' ri = none) (h4 : Hz' it = none) : ZipOK c Hz' z TI TO ri it l xs :=
  { K with nz := h1, nT := h2, nr := h3, ni := h4, TI_ := hs _ _ K.TI_, l_ := hs _ _ K.l_ }
/-- a comprehension over zip(range, iterator) whose element is one new thing -/
theorem compZip {elt : PySem.Expr} {p1 p2 p3 : Pos} {k3} {scope : Scope} {cl : List (Str × Addr)} {x0 : Int} {n : Nat} {PP : Nat → Value → OP → Prop} {Q : Addr → HM → Prop}
    (hh : A.handled = none) (K : ZipOK c Hz z TI TO ri it l xs) (hn : n ≤ xs.length) (hz9 : xs.length < 900) (hL : Hz L = none) (zL : z ≠ L) (TL : TO ≠ L) (rL : ri ≠ L) (iL : it ≠ L)
    (hx1 : scope.names.lookup ("i" : Str) = some .local) (hx2 : scope.names.lookup ("elem" : Str) = some .local) (hkind : scope.kind = .function)
    (turn : ∀ C j t Hc mc, j < n → mc "i" = some (.int (x0 + j * step) t) → mc "elem" = some (xs.getD j .none) → Sub Hz Hc → Hc C = none → (∀ a, Hc a = none → Own c a → True) →
      WF c A C (eval elt (compEnvC scope cl C env)) Hc mc (fun y H' _ => ∃ a P, y = .ref a ∧ Hc a = none ∧ Own c a ∧ a ≠ C ∧ H' = upd Hc a P ∧ PP j y P))
    (done : ∀ D Hb rs, Hz D = none → Own c D → D ≠ L → D ≠ it → Hb D = none → Sub Hz Hb → Bs c Hb → Hb L = none → Hb it = none → rs.length = n → rs.Nodup → (∀ j, j < n → ∃ a P, rs.getD j .none = .ref a ∧ Hb a = some P ∧ Hz a = none ∧ PP j (.ref a) P) →
      Q D (upd (upd Hb D (lst rs)) it (lit l n))) :
    CompW c A L elt (.Tuple [.Name "i" p1, .Name "elem" p2] k3 p3) [] scope cl env (.ref z) (ZS Hz z TI TO ri it l step .none .none .none x0 n 0) m Q := by
  refine ⟨fun C H' m' Q' hs q => ?_, fun D C hD hDo hDL hC hCo hCL hCD hb => ?_⟩
  · intro s I hL hn
    obtain ⟨oz, hz, rfl⟩ := I.rep _ _ (hs _ _ K.at_z)
    exact wpAny_pyIter_zip hz ⟨H', m', I, hL, hn, q⟩
  obtain ⟨hDz, D1, D2, D3, D4⟩ := K.isNone hD
  obtain ⟨hCz, C1, C2, C3, C4⟩ := K.isNone hC
  have hbz : Bs c Hz := K.base hb
  -- the state between the turns
  let Hq : HM → List Value → HM := fun Hb rs => upd (upd Hb L (isNs m)) D (lst rs)
  have Kof : ∀ Hb rs, Sub Hz Hb → Hb D = none → Hb L = none → Hb z = none → Hb TO = none → Hb ri = none → Hb it = none → ZipOK c (Hq Hb rs) z TI TO ri it l xs := fun Hb rs hs hd hl0 h1 h2 h3 h4 =>
    K.mono (Sub.upd_new (Sub.upd_new hs hL) hDz) (by show upd (upd Hb L (isNs m)) D (lst rs) z = none; rw [upd_ne (Ne.symm D1), upd_ne zL]; exact h1) (by show upd (upd Hb L (isNs m)) D (lst rs) TO = none; rw [upd_ne (Ne.symm D2), upd_ne TL]; exact h2)
      (by show upd (upd Hb L (isNs m)) D (lst rs) ri = none; rw [upd_ne (Ne.symm D3), upd_ne rL]; exact h3) (by show upd (upd Hb L (isNs m)) D (lst rs) it = none; rw [upd_ne (Ne.symm D4), upd_ne iL]; exact h4)
  refine ⟨ZI c Hz D L C z TI TO ri it l step x0 n PP Hq, n - 0,
    ⟨0, Hz, [], .none, .none, rfl, Nat.zero_le _, ?_, Sub.refl _, hbz, hDz, hL, hCz, K.nz, K.nT, K.nr, K.ni, rfl, List.nodup_nil, fun i hi => absurd hi (Nat.not_lt_zero _)⟩, ?_⟩
  · have e0 : x0 + ((0 : Nat) : Int) * step = x0 := by simp
    have e1 : (n : Int) - ((0 : Nat) : Int) = n := by simp
    rw [e0, e1]
    show upd (upd (ZS Hz z TI TO ri it l step .none .none .none x0 n 0) L (isNs m)) D (lst []) = ZS (upd (upd Hz L (isNs m)) D (lst [])) z TI TO ri it l step .none .none .none x0 n 0
    unfold ZS
    rw [upd_comm (a := it) (b := L) iL, upd_comm (a := ri) (b := L) rL, upd_comm (a := TO) (b := L) TL, upd_comm (a := z) (b := L) zL,
      upd_comm (a := it) (b := D) (Ne.symm D4), upd_comm (a := ri) (b := D) (Ne.symm D3), upd_comm (a := TO) (b := D) (Ne.symm D2), upd_comm (a := z) (b := D) (Ne.symm D1)]
  rintro k H₁ m₁ ⟨j, Hb, rs, a, b, rfl, hj, rfl, hs, hbb, hbD, hbL, hbC, hbz', hbT, hbr, hbi, hlen, hnd, hrs⟩
  have K' := Kof Hb rs hs hbD hbL hbz' hbT hbr hbi
  by_cases hlt : j < n
  · have hy : xs[j]? = some (xs.getD j .none) := by
      have : j < xs.length := by omega
      simp [this]
    refine f_nextZ K' (by omega) hy (fun T t hT hTo hTC => ?_)
    show WF _ _ _ _ _ _ _
    have hT' : ZS (Hq Hb rs) z TI TO ri it l step .none (.int (x0 + j * step) t) (xs.getD j .none) (x0 + j * step + step) ((n : Int) - j - 1) (j + 1) T = none := by
      obtain ⟨t0, t1, t2, t3, t4⟩ := K'.isNone hT
      rw [K'.off t1 t2 t3 t4]; exact t0
    obtain ⟨t0, t1, t2, t3, t4⟩ := K'.isNone hT
    refine f_goZ (f0 := .none) K' hT' hTo ?_
    refine f_unpack hh (upd_same ..) rfl rfl ?_
    refine f_inOrder (f_assignN (f_storeL ?_ (lookup_relabel_local hx1) (by simp [compEnvC, relabel, hkind]) rfl))
    refine f_inOrder (f_assignN (f_storeL ?_ (lookup_relabel_local hx2) (by simp [compEnvC, relabel, hkind]) rfl))
    refine f_inOrder0 ?_
    refine f_tests0 ?_
    simp only [if_true]
    generalize hHc : upd (ZS (Hq Hb rs) z TI TO ri it l step .none (.int (x0 + j * step) t) (xs.getD j .none) (x0 + j * step + step) ((n : Int) - j - 1) (j + 1)) T (tup [.int (x0 + j * step) t, xs.getD j .none]) = Hc
    have hZS : Sub (ZS (Hq Hb rs) z TI TO ri it l step .none (.int (x0 + j * step) t) (xs.getD j .none) (x0 + j * step + step) ((n : Int) - j - 1) (j + 1)) Hc := by rw [← hHc]; exact Sub.upd_new (Sub.refl _) hT'
    have hq : Sub Hb (Hq Hb rs) := Sub.upd_new (Sub.upd_new (Sub.refl _) hbL) hbD
    have hsc : Sub Hz Hc := hs.trans (hq.trans (K'.sub.trans hZS))
    have hCc : Hc C = none := by
      rw [← hHc, upd_ne (Ne.symm hTC), K'.off C1 C2 C3 C4]
      show upd (upd Hb L (isNs m)) D (lst rs) C = none
      rw [upd_ne hCD, upd_ne hCL]; exact hbC
    refine f_mono (turn C j t Hc _ hlt (setL_ne setL_eq rfl) setL_eq hsc hCc (fun _ _ _ => trivial)) fun y H₅ m₅ zz => ?_
    obtain ⟨a', P, rfl, ha', hao, haC, rfl, hPP⟩ := zz
    have hDc : Hc D = some (lst rs) := hZS _ _ (K'.sub _ _ (upd_same ..))
    have haD : a' ≠ D := by rintro rfl; rw [hDc] at ha'; cases ha'
    have haH := (hZS.none_of ha')
    obtain ⟨a0, a1, a2, a3, a4⟩ := K'.isNone haH
    have hba : Hb a' = none := hq.none_of a0
    have haL : a' ≠ L := by
      rintro rfl
      have : Hq Hb rs a' = some (isNs m) := by show upd (upd Hb a' (isNs m)) D (lst rs) a' = _; rw [upd_ne haD, upd_same]
      rw [this] at a0; cases a0
    have haT : a' ≠ T := by rintro rfl; rw [← hHc, upd_same] at ha'; cases ha'
    have hTD : T ≠ D := by
      rintro rfl
      have : Hq Hb rs T = some (lst rs) := upd_same ..
      rw [this] at t0; cases t0
    have hTL : T ≠ L := by
      rintro rfl
      have : Hq Hb rs T = some (isNs m) := by show upd (upd Hb T (isNs m)) D (lst rs) T = _; rw [upd_ne hTD, upd_same]
      rw [this] at t0; cases t0
    refine f_append ((upd_ne (Ne.symm haD)).trans hDc) (by omega) ?_
    refine ⟨n - (j + 1), ZS (Hq (upd Hb a' P) (rs ++ [.ref a'])) z TI TO ri it l step .none (.int (x0 + j * step) t) (xs.getD j .none) (x0 + ((j + 1 : Nat) : Int) * step) ((n : Int) - ((j + 1 : Nat) : Int)) (j + 1), by omega, ?_, ?_,
      j + 1, upd Hb a' P, rs ++ [.ref a'], .int (x0 + j * step) t, xs.getD j .none, rfl, hlt, rfl, Sub.upd_new hs (hs.none_of hba), hbb.updO hao, ?_, ?_, ?_, ?_, ?_, ?_, ?_, by simp [hlen], ?_, ?_⟩
    · have e1 : x0 + ((j + 1 : Nat) : Int) * step = x0 + j * step + step := by push_cast; rw [Int.add_mul, Int.one_mul, Int.add_assoc]
      have e2 : (n : Int) - ((j + 1 : Nat) : Int) = (n : Int) - j - 1 := by push_cast; omega
      rw [e1, e2, ← hHc]
      have K2 := Kof (upd Hb a' P) (rs ++ [.ref a']) (Sub.upd_new hs (hs.none_of hba)) (by rw [upd_ne (Ne.symm haD)]; exact hbD) (by rw [upd_ne (Ne.symm haL)]; exact hbL) (by rw [upd_ne (Ne.symm a1)]; exact hbz') (by rw [upd_ne (Ne.symm a2)]; exact hbT) (by rw [upd_ne (Ne.symm a3)]; exact hbr) (by rw [upd_ne (Ne.symm a4)]; exact hbi)
      intro d Qd e
      by_cases h4 : d = it
      · subst h4; rw [K2.at_it] at e; cases e; rw [upd_ne (Ne.symm D4), upd_ne (Ne.symm a4), upd_ne (Ne.symm t4)]; exact K'.at_it
      by_cases h3 : d = ri
      · subst h3; rw [K2.at_ri] at e; cases e; rw [upd_ne (Ne.symm D3), upd_ne (Ne.symm a3), upd_ne (Ne.symm t3)]; exact K'.at_ri
      by_cases h2 : d = TO
      · subst h2; rw [K2.at_TO] at e; cases e; rw [upd_ne (Ne.symm D2), upd_ne (Ne.symm a2), upd_ne (Ne.symm t2)]; exact K'.at_TO
      by_cases h1 : d = z
      · subst h1; rw [K2.at_z] at e; cases e; rw [upd_ne (Ne.symm D1), upd_ne (Ne.symm a1), upd_ne (Ne.symm t1)]; exact K'.at_z
      rw [K2.off h1 h2 h3 h4] at e
      by_cases hd : d = D
      · subst hd
        have : Hq (upd Hb a' P) (rs ++ [.ref a']) d = some (lst (rs ++ [.ref a'])) := upd_same ..
        rw [this] at e; cases e; exact upd_same ..
      · have e' : upd (upd Hb a' P) L (isNs m) d = some Qd := by
          have : Hq (upd Hb a' P) (rs ++ [.ref a']) d = upd (upd Hb a' P) L (isNs m) d := upd_ne hd
          rw [this] at e; exact e
        rw [upd_ne hd]
        by_cases hdL : d = L
        · subst hdL
          rw [upd_same] at e'; cases e'
          rw [upd_ne (Ne.symm haL), upd_ne (Ne.symm hTL), K'.off h1 h2 h3 h4]
          show upd (upd Hb d (isNs m)) D (lst rs) d = _
          rw [upd_ne hd, upd_same]
        · rw [upd_ne hdL] at e'
          by_cases hda : d = a'
          · subst hda; rw [upd_same] at e'; cases e'; exact upd_same ..
          · rw [upd_ne hda] at e' ⊢
            have hdT : d ≠ T := by rintro rfl; have := hq.none_of t0; rw [this] at e'; cases e'
            rw [upd_ne hdT, K'.off h1 h2 h3 h4]
            exact hq _ _ e'
    · exact (Kof (upd Hb a' P) (rs ++ [.ref a']) (Sub.upd_new hs (hs.none_of hba)) (by rw [upd_ne (Ne.symm haD)]; exact hbD) (by rw [upd_ne (Ne.symm haL)]; exact hbL) (by rw [upd_ne (Ne.symm a1)]; exact hbz') (by rw [upd_ne (Ne.symm a2)]; exact hbT) (by rw [upd_ne (Ne.symm a3)]; exact hbr) (by rw [upd_ne (Ne.symm a4)]; exact hbi)).bs
        (((hbb.updO hao).new (by rw [upd_ne (Ne.symm haL)]; exact hbL)).updO hDo)
    · rw [upd_ne (Ne.symm haD)]; exact hbD
    · rw [upd_ne (Ne.symm haL)]; exact hbL
    · rw [upd_ne (Ne.symm haC)]; exact hbC
    · rw [upd_ne (Ne.symm a1)]; exact hbz'
    · rw [upd_ne (Ne.symm a2)]; exact hbT
    · rw [upd_ne (Ne.symm a3)]; exact hbr
    · rw [upd_ne (Ne.symm a4)]; exact hbi
    · rw [List.nodup_append]
      refine ⟨hnd, by simp, fun u hu v hv => ?_⟩
      rw [List.mem_singleton.mp hv]
      rintro rfl
      obtain ⟨i, hi, he⟩ := List.mem_iff_getElem.mp hu
      obtain ⟨a, P', h1, h2, _⟩ := hrs i (by omega)
      rw [show rs.getD i .none = .ref a' by simp [hi, he]] at h1
      cases h1
      rw [hba] at h2; cases h2
    · intro i hi
      by_cases hij : i = j
      · subst hij
        refine ⟨a', P, by simp [hlen], upd_same .., hs.none_of hba, hPP⟩
      · obtain ⟨a, P', h1, h2, h3, h4⟩ := hrs i (by omega)
        refine ⟨a, P', ?_, ?_, h3, h4⟩
        · rw [← h1]
          have : i < rs.length := by omega
          simp [List.getElem?_append, this]
        · rw [upd_ne (by rintro rfl; rw [hba] at h2; cases h2)]; exact h2
  · have hje : j = n := by omega
    subst hje
    refine f_nextZ0 hh K' (by omega) ?_
    show ∃ H₃, _
    refine ⟨upd (upd Hb D (lst rs)) it (lit l j), ?_, ?_, (hbb.updO hDo).updO K.oi, done D Hb rs hDz hDo hDL D4 hbD hs hbb hbL hbi hlen hnd hrs⟩
    · show Sub _ (upd (upd (upd Hb L (isNs m)) D (lst rs)) it (lit l j))
      rw [upd_comm (a := it) (b := L) iL, upd_comm (a := D) (b := L) hDL]
      exact Sub.refl _
    · rw [upd_ne (Ne.symm iL), upd_ne (Ne.symm hDL)]; exact hbL
end
end
section
section
variable {α β : Type} {c : Cx} {A : Around} {L : Addr} {H : HM} {m : Loc} {env : Env}
/-- a comprehension by any target, without tests, whose turns leave the heap as it is -/
theorem compW_seq {elt target : PySem.Expr} {scope : Scope} {cl : List (Str × Addr)} {it : Addr} {P : Nat → OP} {n : Nat} {V : Nat → Value → Prop} {Src : HM} {Q : Addr → HM → Prop}
    (K : IterOK c A it P n V Src) (hn : n < 900) (hL : H L = none) (hit : H it = some (P 0)) (hS : Sub Src H) (e : Nat → Value)
    (turn : ∀ C i v Hc mc, i < n → V i v → Sub (del (upd H L (isNs m)) it) Hc → Hc it = some (P (i + 1)) → Hc C = none →
      WF c A C (letOwnedTupleGo target (.ref it) v) Hc mc (fun _ H₂ m₂ => WF c A C (assign target (compEnvC scope cl C env) v) H₂ m₂ (fun _ H₃ m₃ => WF c A C (eval elt (compEnvC scope cl C env)) H₃ m₃ (fun y H₅ _ => y = e i ∧ Sub Hc H₅))))
    (done : ∀ D, H D = none → Own c D → D ≠ L → Q D (upd (del H it) D (lst ((List.range n).map e)))) :
    CompW c A L elt target [] scope cl env (.ref it) H m Q := by
  refine ⟨fun C H' m' Q' hs q => K.self C 0 H' m' Q' (hs _ _ hit) q, fun D C hD hDo hDL hC hCo hCL hCD hb => ?_⟩
  have hitD : it ≠ D := by rintro rfl; rw [hD] at hit; cases hit
  have hitL : it ≠ L := by rintro rfl; rw [hL] at hit; cases hit
  have hitC : it ≠ C := by rintro rfl; rw [hC] at hit; cases hit
  have hbL : Bs c (upd H L (isNs m)) := hb.new hL
  -- the heap between the turns
  have hHc : ∀ acc i, upd (upd (upd H L (isNs m)) D (lst acc)) it (P i) C = none := fun acc i => by rw [upd_ne (Ne.symm hitC), upd_ne hCD, upd_ne hCL]; exact hC
  have hsrc : ∀ acc i, Sub Src (upd (upd (upd H L (isNs m)) D (lst acc)) it (P i)) := fun acc i =>
    Sub.upd_new (Sub.upd_new (Sub.upd_new hS (hS.none_of hL)) (hS.none_of hD)) K.off
  have hdel : ∀ acc i, Sub (del (upd H L (isNs m)) it) (upd (upd (upd H L (isNs m)) D (lst acc)) it (P i)) := fun acc i b P' e => by
    have hb : b ≠ it := by rintro rfl; simp [del] at e
    rw [del_ne hb] at e
    have hbD : b ≠ D := by rintro rfl; rw [upd_ne hDL, hD] at e; cases e
    rw [upd_ne hb, upd_ne hbD]; exact e
  refine ⟨fun k H' m' => ∃ i, k = n - i ∧ i ≤ n ∧ H' = upd (upd (upd H L (isNs m)) D (lst ((List.range i).map e))) it (P i), n - 0, ⟨0, rfl, Nat.zero_le _, ?_⟩, ?_⟩
  · show _ = upd (upd (upd H L (isNs m)) D (lst [])) it (P 0)
    have e0 : upd (upd H L (isNs m)) D (lst []) it = some (P 0) := by rw [upd_ne hitD, upd_ne hitL]; exact hit
    exact (upd_self e0).symm
  rintro k H₁ m₁ ⟨i, rfl, hi, rfl⟩
  by_cases hlt : i < n
  · refine K.next C i _ m₁ _ hlt (hsrc _ _) (upd_same ..) (fun v hv => ?_)
    rw [upd_upd]
    show WF _ _ _ _ _ _ _
    have hacc : ((List.range i).map e).length < 1000 := by simp; omega
    refine f_mono (turn C i v _ _ hlt hv (hdel _ _) (upd_same ..) (hHc _ _)) fun _ H₂ m₂ z₂ => f_mono z₂ fun _ H₃ m₃ z₃ => f_tests0 ?_
    simp only [if_true]
    · refine f_mono z₃ fun y H₅ m₅ z => ?_
      obtain ⟨rfl, hsub5⟩ := z
      have hD5 : H₅ D = some (lst ((List.range i).map e)) := hsub5 _ _ (by rw [upd_ne (Ne.symm hitD), upd_same])
      refine f_append hD5 hacc ?_
      refine ⟨n - (i + 1), upd (upd (upd H L (isNs m)) D (lst ((List.range i).map e ++ [e i]))) it (P (i + 1)), by omega, ?_, (hbL.updO hDo).updO K.own, i + 1, rfl, hlt, ?_⟩
      · intro b P' eb
        by_cases hbD : b = D
        · subst hbD; rw [upd_ne (Ne.symm hitD), upd_same] at eb; rw [upd_same]; exact eb
        · rw [upd_ne hbD]
          refine hsub5 b P' ?_
          by_cases hbi : b = it
          · subst hbi; rw [upd_same] at eb ⊢; exact eb
          · rw [upd_ne hbi, upd_ne hbD] at eb ⊢; exact eb
      · rw [List.range_succ]; simp
  · have hin : i = n := by omega
    subst hin
    refine K.done C _ m₁ _ (hsrc _ _) (upd_same ..) ?_
    refine ⟨upd (del H it) D (lst ((List.range i).map e)), ?_, ?_, ?_, done D hD hDo hDL⟩
    · intro b P' eb
      have hbit : b ≠ it := by
        rintro rfl
        by_cases h1 : b = L
        · exact hitL h1
        · rw [upd_ne h1, upd_ne hitD] at eb; simp [del] at eb
      rw [del_ne hbit, upd_ne hbit]
      by_cases h1 : b = L
      · subst h1; rw [upd_same] at eb; rw [upd_ne (Ne.symm hDL), upd_same]; exact eb
      · rw [upd_ne h1] at eb
        by_cases h2 : b = D
        · subst h2; rw [upd_same] at eb ⊢; exact eb
        · rw [upd_ne h2, del_ne hbit] at eb
          rw [upd_ne h2, upd_ne h1]; exact eb
    · rw [upd_ne (Ne.symm hDL), del_ne (Ne.symm hitL)]; exact hL
    · exact (hb.delO K.own).updO hDo
end
end
section
/-! ### dict.fromkeys of things without a hash -/
noncomputable def boundD : Obj := { cls := .type "builtin_function_or_method", data := .fields #[.builtin "dict.fromkeys", .type "dict"] }
theorem type_fk : typeOf (.builtin "dict.fromkeys") = pure (.type "classmethod_descriptor") := by show builtinType _ = _; rw [builtinType_eq_fast]; kernel_rfl
theorem entry_fk : entryFor table "dict.fromkeys" = some Builtin.«dict.fromkeys» := entryFor_of_tree (by kernel_rfl)
theorem entry_fkl : entryFor table "dict.fromkeys.loop" = some Builtin.«dict.fromkeys.loop» := entryFor_of_fast (by kernel_rfl)
theorem plain_fk : plainId "dict.fromkeys" = true := by decide +kernel
theorem plain_fkl : plainId "dict.fromkeys.loop" = true := by decide +kernel
theorem quiet_fk {as : Args} : (Code.builtin "dict.fromkeys" as).quiet = true := Code.quiet_builtin _ (by decide +kernel)
theorem type_dict : isType (.type "dict") = pure true := by first | rfl | kernel_rfl | (unfold isType; rw [isSubtype_type]; kernel_rfl)
theorem owner_fk : (kfb_private% "ownerAndName") "dict.fromkeys" = ("dict", "fromkeys") := by first | decide +kernel | kernel_rfl
theorem typeCall_dict_0 : checkTypeCall "dict" ⟨[], []⟩ = pure () := by kernel_rfl
theorem newCall_dict_0 : checkBuiltinCall "dict.__new__" ⟨[.type "dict"], []⟩ = pure () := by kernel_rfl
theorem args_dict_init_1 (a : Value) : argsOk "dict.__init__" ⟨[a], []⟩ := by unfold argsOk; kernel_rfl
theorem hash_list : typeLookup (.type "list") "__hash__" = pure (some .none) := by rw [typeLookup_type, builtinLookup_eq_fast]; kernel_rfl
section
variable {prog : Program} {w : World} {M : Model} {A : Around} {E : Value → Shared → Prop} {s : Shared}
theorem run_getD {P : PySem.Fin → Shared → Prop} (h : P (.done (.ret (.ref s.heap.objs.size))) { s with heap := s.heap.push boundD }) :
    wpAny M A (Builtin.«classmethod_descriptor.__get__» ⟨[.builtin "dict.fromkeys", .none, .type "dict"], []⟩) P E s := by
  unfold Builtin.«classmethod_descriptor.__get__»
  refine wpAny_bind (wpAny_of_eq (a := (.builtin "dict.fromkeys", none, some (.type "dict"))) (by first | rfl | kernel_rfl) ?_)
  simp only [owner_fk]
  refine wpAny_bind (wpAny_of_eq (a := .type "dict") rfl ?_)
  refine wpAny_bind (wpAny_of_eq (a := true) type_dict ?_)
  refine KFB.if_not rfl ?_
  refine wpAny_bind (wpAny_of_eq (a := true) F.kt_sub_dict ?_)
  refine KFB.if_not rfl ?_
  exact wpAny_bind (wpAny_newObj_type (wpAny_pure h))
theorem find_fk : findCls [] (.type "dict") (.type "type") (PySem.Str.ofString "fromkeys") = some (.get (.builtin "classmethod_descriptor.__get__") (.builtin "dict.fromkeys") .none (.type "dict")) := by first | kernel_rfl | rfl
theorem getmD {pl : Sem Bool} {Q : Value × List Value → Shared → Prop} (h : Q (.ref s.heap.objs.size, []) { s with heap := s.heap.push boundD, toks := s.toks + 1 }) :
    wpAny (model prog w) A (getMethod (.type "dict") (PySem.Str.ofString "fromkeys") pl) Q E s := by
  have X : Frag.In [] s.heap := fun a o e => by cases e
  have hstub : opaqueClassAbove (.type "dict") = pure none := by unfold opaqueClassAbove; dsimp only; rw [show Manifest.isStub "dict" = false by decide +kernel]; rfl
  have ht : typeOf (.type "dict") = pure (.type "type") := by first | rfl | kernel_rfl
  have L0 : Looks (model prog w) s.heap (typeOf (.type "dict")) (.type "type") := Looks.of_pure ht
  have hg : findIn [] (.type "type") "__getattribute__" = some (some (.builtin "type.__getattribute__")) := type_tga
  unfold getMethod specialOf
  refine wpAny_bind (wpAny_bind (L0.here ((looks_findIn X hg).here ?_)))
  dsimp only
  rw [if_pos canon_tga]
  refine wpAny_bind (wpAny_mono (Q := fun v => Q (v, [])) (E := E) ?_ (fun _ _ z => wpAny_pure z) fun _ _ z => z)
  have LO : Looks (model prog w) s.heap (opaqueClassAbove (.type "dict")) none := Looks.of_pure hstub
  refine cls_open X LO L0 hg (looks_hook X (r := none) (by rfl)) (by show subIn [] _ _ = _; rfl) find_fk ?_
  show wpAny _ _ (holding [.builtin "dict.fromkeys"] (call (.builtin "classmethod_descriptor.__get__") [.builtin "dict.fromkeys", .none, .type "dict"]) >>= fun v => ret v) _ _ _
  exact wpAny_bind (wpAny_holding (wpAny_call_entry KFB.slot_get type_fk KFB.entry_get (run_getD ⟨_, rfl, wpAny_pure (wpAny_pure h)⟩) (KFB.args_get _ _ _)))
theorem dict_new_meets : Meets (Builtin.«dict.__new__» ⟨[.type "dict"], []⟩) (fun _ R s => R (.ok (.ret (.ref s.heap.objs.size))) { s with heap := s.heap.push { cls := .type "dict", data := .dict #[] } }) :=
  .of_wp fun prog w A R s h => by
    have hsub := F.kt_sub_dict
    have hmro := F.kt_mro_dict
    obtain ⟨hp, g, d, tk, os⟩ := s
    unfold Builtin.«dict.__new__»
    wp_walk
    exact ⟨_, rfl, h⟩
theorem call_dict_0 {Q : Value → Shared → Prop} (h : Q (.ref s.heap.objs.size) { s with heap := s.heap.push { cls := .type "dict", data := .dict #[] } }) : wpAny (model prog w) A (call (.type "dict") []) Q E s := by
  refine callType_meets (Q₁ := fun obj s₁ => obj = .ref s.heap.objs.size ∧ s₁ = { s with heap := s.heap.push { cls := .type "dict", data := .dict #[] } }) F.kt_called_dict typeCall_dict_0 newCall_dict_0 F.kt_entry_dict_new F.entry_dict_init dict_new_meets ⟨rfl, rfl⟩ ?_
  rintro obj s₁ ⟨rfl, rfl⟩
  have hT : Shared.TypeIs { s with heap := s.heap.push { cls := .type "dict", data := .dict #[] } } (.ref s.heap.objs.size) "dict" := ⟨_, Heap.get?_push_size _ rfl, rfl⟩
  generalize ha : s.heap.objs.size = a at *
  refine ⟨hT, args_dict_init_1 _, fun _ R s => s.TypeIs (.ref a) "dict" ∧ R (.ok (.ret .none)) s, Meets.of_wp fun prog w A R s hs => ?_, hT, rfl, h⟩
  unfold Builtin.«dict.__init__»
  refine wpAny_bind ?_
  unfold Builtin.Dict.selfAndRest
  refine wpAny_bind (wpAny_notOrdered_dict hs.1 ?_)
  show wpAny _ _ (pure (a, ([] : List Value))) _ _ _
  refine wpAny_pure ?_
  show wpAny _ _ (Builtin.Dict.addKeywords a [] >>= _) _ _ _
  exact wpAny_bind (wpAny_pure (wpAny_pure ⟨_, rfl, hs.2⟩))
/-- the refusal: a list has no hash -/
theorem hash_raises {l : Addr} {items : Array Value} {Q : Int → Shared → Prop} (hu : A.units < cLine) (hh : A.handled = none) (hl : s.heap.IsList l items) (h : ∀ h' tk e, Heap.NewExc s.heap h' e "TypeError" → E (.ref e) { s with heap := h', toks := tk }) :
    wpAny M A (pyHash (.ref l)) Q E s := by
  show wpAny M A (pyHashByItsType (.ref l)) Q E s
  unfold pyHashByItsType
  refine wpAny_bind (wpAny_cRoomFor hu ?_)
  refine wpAny_bind (wpAny_specialOf hl.typeIs hash_list ?_)
  rw [if_pos (by decide)]
  refine wpAny_bind (wpAny_rule ?_)
  refine wpAny_bind (wpAny_typeNameOf' hl.typeIs (by decide) ?_)
  refine wpAny_bind (wpAny_raiseErrorMade plainExc_TypeError hh h ?_)
  decide +kernel
theorem fromkeys_raises {l x : Addr} {xs : List Value} {y : Addr} {items : Array Value} {Q : Value → Shared → Prop} (hu : A.units + 5 < cLine) (hh : A.handled = none) (hl : s.heap.IsList l xs.toArray) (hy : xs[0]? = some (.ref y)) (hi : s.heap.IsList y items)
    (hx : s.heap.get? x = some boundD) (h : ∀ h' tk e, (∀ b o, s.heap.get? b = some o → h'.get? b = some o) → s.heap.get? e = none → (∃ ob t, h'.get? e = some ob ∧ ob.cls = .type "TypeError" ∧ ob.data = .fields #[t, .none, .none, .none, .bool false, .none]) → E (.ref e) { s with heap := h', toks := tk }) :
    wpAny (model prog w) A (call (.ref x) [.ref l]) Q E s := by
  refine wpAny_call (codeAny_of_tree ?_)
  show wpAny _ A.in1 (callAny (.ref x) ⟨[.ref l], []⟩) _ _ s
  simp only [callAny]
  refine wpAny_bind (wpAny_load hx ?_)
  simp only [boundD, show (Value.type "builtin_function_or_method" == Value.type "method" || Value.type "builtin_function_or_method" == Value.type "builtin_function_or_method" || Value.type "builtin_function_or_method" == Value.type "method-wrapper") = true by decide, if_true]
  refine KFB.if_so (by decide) ?_
  refine wpAny_bind (wpAny_of_eq (a := ()) (by first | kernel_rfl | rfl) ?_)
  refine wpAny_bind (wpAny_pure (wpAny_pure ?_))
  refine ⟨quiet_fk, codeAny_builtin entry_fk ?_⟩
  rw [Around.under_plainId plain_fk _]
  unfold Builtin.«dict.fromkeys»
  dsimp only
  refine wpAny_bind (wpAny_of_eq (a := true) type_dict ?_)
  refine KFB.if_not rfl ?_
  refine wpAny_bind (wpAny_of_eq (a := true) F.kt_sub_dict ?_)
  refine KFB.if_not rfl ?_
  refine KFB.if_not rfl ?_
  refine wpAny_bind (wpAny_bind (wpAny_rule (wpAny_pure ?_)))
  refine wpAny_bind (wpAny_pure ?_)
  show wpAny _ _ (call (.type "dict") [] >>= _) _ _ _
  refine wpAny_bind (call_dict_0 ?_)
  refine wpAny_holding ?_
  have hl1 : (s.heap.push { cls := .type "dict", data := .dict #[] }).IsList l xs.toArray := hl.push _
  have hi1 : (s.heap.push { cls := .type "dict", data := .dict #[] }).IsList y items := hi.push _
  have hd1 : (s.heap.push { cls := .type "dict", data := .dict #[] }).get? s.heap.objs.size = some { cls := .type "dict", data := .dict #[] } := Heap.get?_push_size _ rfl
  have keep1 : ∀ b o, s.heap.get? b = some o → (s.heap.push { cls := .type "dict", data := .dict #[] }).get? b = some o := fun b o e => Heap.get?_push_of_some _ e
  generalize (s.heap.push { cls := .type "dict", data := .dict #[] }) = h1 at *
  generalize hdd : s.heap.objs.size = dd at *
  have hT1 : Shared.TypeIs { s with heap := h1 } (.ref l) "list" := hl1.typeIs
  have hTd : Shared.TypeIs { s with heap := h1 } (.ref dd) "dict" := ⟨_, hd1, rfl⟩
  refine wpAny_bind (wpAny_typeOf hT1 ?_)
  refine wpAny_bind (wpAny_typeOf hTd ?_)
  refine KFB.if_not (by decide) ?_
  refine wpAny_bind (wpAny_typeOf hTd ?_)
  refine KFB.if_not (by decide) ?_
  refine wpAny_bind (wpAny_pyIter_list hl1 ?_)
  refine wpAny_pure ⟨plainId_quiet plain_fkl _, codeAny_builtin entry_fkl ?_⟩
  rw [Around.under_plainId plain_fkl _]
  unfold Builtin.«dict.fromkeys.loop»
  try dsimp only
  have keep2 : ∀ b o, h1.get? b = some o → (h1.push { cls := .type "list_iterator", data := .fields #[.ref l, .int 0 0] }).get? b = some o := fun b o e => Heap.get?_push_of_some _ e
  have hit : (h1.push { cls := .type "list_iterator", data := .fields #[.ref l, .int 0 0] }).IsListIter h1.objs.size l 0 := ⟨_, Heap.get?_push_size _ rfl, rfl, rfl⟩
  have hl2 := hl1.push { cls := .type "list_iterator", data := .fields #[.ref l, .int 0 0] }
  have hi2 := hi1.push { cls := .type "list_iterator", data := .fields #[.ref l, .int 0 0] }
  have hd2 := keep2 _ _ hd1
  have hlt : ∀ b o, h1.get? b = some o → b ≠ h1.objs.size := fun b o e => Nat.ne_of_lt (Heap.lt_size e)
  generalize hii : h1.objs.size = ii at *
  generalize (h1.push { cls := .type "list_iterator", data := .fields #[.ref l, .int 0 0] }) = h2 at *
  refine wpAny_bind (wpAny_pyNext_list_item (x := .ref y) hit hl2 (by simpa using hy) fun h3 hit3 hs3 => ?_)
  try dsimp only
  have hyi : y ≠ ii := by obtain ⟨o, ho, _⟩ := hi1; exact hlt _ _ ho
  have hdi : dd ≠ ii := hlt _ _ hd1
  have hi3 : h3.IsList y items := hi2.extBut hs3.extBut hyi
  have hd3 := hs3.extBut _ _ hdi hd2
  have hTd3 : Shared.TypeIs { s with heap := h3 } (.ref dd) "dict" := ⟨_, hd3, rfl⟩
  refine wpAny_bind (wpAny_typeOf hTd3 ?_)
  refine KFB.if_so (by decide) ?_
  refine wpAny_bind (wpAny_pure ?_)
  refine wpAny_bind (wpAny_holding ?_)
  unfold dictSet
  refine wpAny_holding (wpAny_bind (hash_raises ?_ hh hi3 (fun h4 tk e N => ?_)))
  · show A.units + 1 < cLine; omega
  · refine h h4 tk e (fun b o eb => N.keeps b o (hs3.extBut b o (hlt b o (keep1 b o eb)) (keep2 b o (keep1 b o eb)))) ?_ N.there
    cases e' : s.heap.get? e with
    | none => rfl
    | some o => have := hs3.extBut e o (hlt e o (keep1 e o e')) (keep2 e o (keep1 e o e')); have n := N.new; simp only at n; rw [this] at n; cases n
end
end
section
/-! ### an exception on its way -/
noncomputable def exc0 : OP := fun o => o.cls = .type "TypeError" ∧ ∃ t, o.data = .fields #[t, .none, .none, .none, .bool false, .none]
noncomputable def excT (T : Addr) : OP := fun o => o.cls = .type "TypeError" ∧ ∃ t, o.data = .fields #[t, .ref T, .none, .none, .bool false, .none]
noncomputable def tbP (fl : Value) : OP := fun o => ∃ ts, o.data = .fields ts ∧ ts[3]? = some fl
/-- the frames that stand, all of them things of the heap -/
noncomputable def FrOK (c : Cx) (A : Around) (H : HM) (l : List Env) : Prop := A.frames = some l ∧ ∀ env ∈ l, env.scope.kind ≠ .module ∧ ∃ f m, env.frame = some f ∧ Own c f ∧ H f = some (isNs m)
theorem FrOK.mono {c : Cx} {A : Around} {H H' : HM} {l : List Env} (h : FrOK c A H l) (hs : Sub H H') : FrOK c A H' l := ⟨h.1, fun env he => let ⟨k, f, m, a, b, d⟩ := h.2 env he; ⟨k, f, m, a, b, hs _ _ d⟩⟩
section
variable {c : Cx} {A : Around} {H : HM} {s : Shared} {E : Value → Shared → Prop}
theorem FrOK.fun {l : List Env} (h : ∀ env ∈ l, env.scope.kind ≠ .module ∧ ∃ f m, env.frame = some f ∧ Own c f ∧ H f = some (isNs m)) (I : Inv c H s) : s.heap.FunFrames c.s₁.heap l := by
  induction l with
  | nil => trivial
  | cons env l ih =>
    obtain ⟨hk, f, m, hf, ho, hH⟩ := h env List.mem_cons_self
    obtain ⟨o, hoo, es, ep, hd, _⟩ := I.rep _ _ hH
    exact ⟨hk, ⟨f, o, hf, ho, hoo, fun vs e => by rw [hd] at e; cases e⟩, ih fun e he => h e (List.mem_cons_of_mem _ he)⟩
theorem Inv.slots {S : List Addr} {h' : Heap} (I : Inv c H s) (hs : Heap.SlotsOnly S s.heap h') (hS : ∀ f ∈ S, ∃ m, H f = some (isNs m)) : Inv c H { s with heap := h' } := by
  refine ⟨fun a P e => ?_, I.base, by rw [I.fit]⟩
  obtain ⟨o, ho, p⟩ := I.rep a P e
  by_cases ha : a ∈ S
  · obtain ⟨m, hm⟩ := hS a ha
    rw [hm] at e; cases e
    obtain ⟨sl, hsl⟩ := hs.2.2 a o ho
    obtain ⟨es, ep, r⟩ := p
    exact ⟨_, hsl, es, ep, r⟩
  · exact ⟨o, (hs.2.1 a ha).trans ho, p⟩
theorem FrOK.mem {l : List Env} (h : ∀ env ∈ l, env.scope.kind ≠ .module ∧ ∃ f m, env.frame = some f ∧ Own c f ∧ H f = some (isNs m)) : ∀ f ∈ l.filterMap (·.frame), ∃ m, H f = some (isNs m) := fun f hf => by
  obtain ⟨env, he, hfe⟩ := List.mem_filterMap.mp hf
  obtain ⟨_, f', m, h1, _, h2⟩ := h env he
  rw [h1] at hfe; cases hfe
  exact ⟨m, h2⟩
/-- the new entry of a traceback, and the exception that holds it -/
theorem entry_new {env : Env} {outer : List Env} {L e : Addr} {head : Value} {hadNext : Bool} {P : OP} {Q : Unit → Shared → Prop} (I : Inv c H s) (hF : FrOK c A H (env :: outer)) (hf : env.frame = some L) (he : H e = some P) (heo : Own c e)
    (hP : ∀ o, P o → o.cls = .type "TypeError" ∧ ∃ t x, o.data = .fields #[t, x, .none, .none, .bool false, .none])
    (h : ∀ T s', H T = none → Own c T → Inv c (upd (upd H T (tbP (rawInt L))) e (excT T)) s' → Q () s') :
    wpAny (model c.prog c.w) A (do let a ← frameOf env; let pl ← entryPlaceOf L hadNext; let b ← EntryCells.newEntry head a .none (rawInt L) .none pl; setField (.ref e) 1 b) Q E s := by
  refine wpAny_bind (wpAny_frameOf_fun hF.1 (FrOK.fun hF.2 I) hf fun h₁ hs₁ => ?_)
  have I1 := I.slots hs₁ (FrOK.mem hF.2)
  refine wpAny_bind (wpAny_entryPlaceOf fun pl hpl => ?_)
  unfold EntryCells.newEntry newFields
  refine wpAny_bind (wpAny_newObj_type ?_ (hpl.sizeOk5 _ _ _ _ _))
  have hTn := I1.fresh
  have hTo := I1.own
  have I2 := I1.push (P := tbP (rawInt L)) (o := { cls := .type "traceback", dict := none, data := .fields ([head, .ref L, .none, rawInt L, .none] ++ (if pl.isEmpty then List.replicate 6 Value.none else pl)).toArray }) rfl ⟨_, rfl, by simp⟩ s.toks
  dsimp only at hTn hTo I2 ⊢
  generalize h₁.objs.size = T at *
  have heT : e ≠ T := by rintro rfl; rw [hTn] at he; cases he
  obtain ⟨oe, hoe, hp⟩ := I2.rep e P (by rw [upd_ne heT]; exact he)
  obtain ⟨hcl, t, x, hd⟩ := hP oe hp
  refine wpAny_setField hoe hd (by simp) (h T _ hTn hTo ?_)
  refine I2.turnO heo (Heap.SameBut.update ..).extBut (Heap.get?_update_self _ hoe (Obj.isFreed_of_fields (Obj.data_mapFields hd _))) ⟨(Obj.cls_mapFields ..).trans hcl, t, ?_⟩ s.toks
  rw [Obj.data_mapFields hd]; rfl
theorem note_first {env : Env} {outer : List Env} {L e : Addr} {Q : Unit → Shared → Prop} (I : Inv c H s) (hF : FrOK c A H (env :: outer)) (hf : env.frame = some L) (he : H e = some exc0) (heo : Own c e)
    (h : ∀ T s', H T = none → Own c T → Inv c (upd (upd H T (tbP (rawInt L))) e (excT T)) s' → Q () s') : wpAny (model c.prog c.w) A (noteFrame (.ref e) env) Q E s := by
  obtain ⟨oe, hoe, hcl, t, hd⟩ := I.rep _ _ he
  unfold noteFrame
  simp only [hf]
  refine wpAny_bind (wpAny_field hoe hd (x := .none) rfl ?_)
  rw [if_neg (by decide)]
  exact entry_new I hF hf he heo (fun o ⟨a, t, b⟩ => ⟨a, t, _, b⟩) h
theorem note_next {env : Env} {outer : List Env} {L e T : Addr} {Q : Unit → Shared → Prop} (I : Inv c H s) (hF : FrOK c A H (env :: outer)) (hf : env.frame = some L) (he : H e = some (excT T)) (heo : Own c e) (hT : H T = some (tbP .none)) (hTo : Own c T)
    (h : ∀ T' s', H T' = none → Own c T' → Inv c (upd (upd H T' (tbP (rawInt L))) e (excT T')) s' → Q () s') : wpAny (model c.prog c.w) A (noteFrame (.ref e) env) Q E s := by
  obtain ⟨oe, hoe, hcl, t, hd⟩ := I.rep _ _ he
  obtain ⟨ot, hot, ts, hdt, h3⟩ := I.rep _ _ hT
  unfold noteFrame
  simp only [hf]
  refine wpAny_bind (wpAny_field hoe hd (x := .ref T) rfl ?_)
  rw [if_pos (show (Value.ref T != Value.none) = true from by simp)]
  refine wpAny_bind (wpAny_field hot hdt h3 ?_)
  rw [if_neg (show ¬ ((Value.none == rawInt L) = true) from by simp [rawInt])]
  have hsz := (Array.getElem?_eq_some_iff.mp h3).1
  refine wpAny_bind (wpAny_setField hot hdt hsz ?_)
  have I1 := I.turnO (P' := tbP .none) hTo (Heap.SameBut.update s.heap T (Obj.mapFields (·.setIfInBounds 3 .none))).extBut (Heap.get?_update_self _ hot (Obj.isFreed_of_fields (Obj.data_mapFields hdt _))) ⟨_, Obj.data_mapFields hdt _, by simp [hsz]⟩ s.toks
  rw [upd_self hT] at I1
  exact entry_new I1 hF hf he heo (fun o ⟨a, t, b⟩ => ⟨a, t, _, b⟩) h
theorem note_again {env : Env} {L e T : Addr} {Q : Unit → Shared → Prop} (I : Inv c H s) (hf : env.frame = some L) (he : H e = some (excT T)) (hT : H T = some (tbP (rawInt L))) (h : Q () s) : wpAny (model c.prog c.w) A (noteFrame (.ref e) env) Q E s := by
  obtain ⟨oe, hoe, hcl, t, hd⟩ := I.rep _ _ he
  obtain ⟨ot, hot, ts, hdt, h3⟩ := I.rep _ _ hT
  exact wpAny_noteFrame_inFlight hf hoe hd rfl hot hdt h3 h
theorem flight_set {e T : Addr} {fl : Option Addr} {fl₀ : Value} {Q : Unit → Shared → Prop} (I : Inv c H s) (he : H e = some (excT T)) (hT : H T = some (tbP fl₀)) (hTo : Own c T)
    (h : ∀ s', Inv c (upd H T (tbP (fl.elim .none fun f => rawInt f))) s' → Q () s') : wpAny (model c.prog c.w) A (setFlight (.ref e) fl) Q E s := by
  obtain ⟨oe, hoe, hcl, t, hd⟩ := I.rep _ _ he
  obtain ⟨ot, hot, ts, hdt, h3⟩ := I.rep _ _ hT
  have hsz := (Array.getElem?_eq_some_iff.mp h3).1
  unfold setFlight
  refine wpAny_bind (wpAny_field hoe hd (x := .ref T) rfl ?_)
  rw [if_pos (show (Value.ref T != Value.none) = true from by simp)]
  refine wpAny_setField hot hdt hsz (h _ ?_)
  exact I.turnO (P' := tbP (fl.elim .none fun f => rawInt f)) hTo (Heap.SameBut.update s.heap T _).extBut (Heap.get?_update_self _ hot (Obj.isFreed_of_fields (Obj.data_mapFields hdt _))) ⟨_, Obj.data_mapFields hdt _, by simp [hsz]⟩ s.toks
theorem Inv.wk {a : Addr} {P P' : OP} (I : Inv c H s) (h : H a = some P) (ho : Own c a) (hp : ∀ o, P o → P' o) : Inv c (upd H a P') s := by
  obtain ⟨o, hoo, p⟩ := I.rep a P h
  have := I.turnO (P' := P') (h' := s.heap) ho (.refl _ _) hoo (hp o p) s.toks
  exact this
end
end
local macro_rules | `(tactic| walk_at "v") => `(tactic| first
  | with_reducible assumption
  | with_reducible exact setL_eq
  | ((with_reducible refine setL_ne ?_ ?k1); (case k1 => rfl); walk_at "v")
  | rfl)
local macro_rules | `(tactic| walk_at "h") => `(tactic| first
  | with_reducible assumption
  | with_reducible exact upd_same _ _ _
  | ((with_reducible refine Eq.trans (upd_ne ?n) ?_); (case n => first | assumption | exact Ne.symm (by assumption) | omega); walk_at "h"))
local macro_rules | `(tactic| walk_at "l") => `(tactic| ((with_reducible refine w_let ?_); intro _))
local macro_rules | `(tactic| walk_at "e") => `(tactic| first
  | ((with_reducible first | refine f_cons ?_ | refine f_Subscript ?_ | refine f_BinOp ?_ | refine f_Return ?_ | refine f_Call ?_ | refine f_List ?_ | refine f_Tuple ?_ | refine f_Slice ?_ | refine f_part ?_); walk_at "l")
  | with_reducible first | refine f_andCons ?_ | refine f_orCons ?_ | refine f_tBoolOp ?_ | refine f_tNot ?_ | refine f_assignN ?_ | refine f_part0 ?_ | refine f_none ?_ | refine f_bool ?_ | refine f_argsNil ?_
  | ((with_reducible first | refine' f_Method ?m ?k | refine f_callWith ?m ?k ?k1 | refine f_argsCons ?m ?k | refine f_AssignN ?m ?k | refine f_AssignS ?m ?k); (any_goals rfl); walk_at "l")
  | ((with_reducible refine f_tCompare ?_ ?k); (case k => with_unfolding_all rfl); walk_at "l")
  | ((with_reducible first | refine f_int ?_ | refine f_add ?_ | refine f_sub ?_); intro _)
  | ((with_reducible first | refine f_gt ?_ | refine f_lt ?_); (with_reducible refine Exists.intro _ (And.intro rfl ?_)))
  | ((with_reducible refine' f_nameL ?v ?_ ?k ?k1 ?k2 ?d); (case k | k1 | k2 => rfl); (case d => decide); (case v => walk_at "v"))
  | ((with_reducible refine' f_nameG (GF.ok (by assumption)) ?v ?_ ?k ?k1 ?k2 ?d); (case k | k1 | k2 => rfl); (case d => decide); (case v => with_reducible assumption))
  | ((with_reducible refine' f_nameB (GF.ok (by assumption)) ?m ?v ?_ ?k ?k1 ?k2 ?k3 ?d); (case k | k1 | k2 | k3 => rfl); (case d => decide); (case m | v => with_reducible assumption))
  | ((with_reducible refine' f_nameC ?c ?v ?_ ?k ?k1 ?d); (case k | k1 | c => rfl); (case d => decide); (case v => walk_at "h"))
  | ((with_reducible refine f_storeL ?_ ?k ?k1 ?k2); (case k | k1 | k2 => rfl))
  | ((with_reducible refine' f_storeC ?c ?v ?_ ?k ?k1); (case k | k1 | c => rfl); (case v => walk_at "h"))
  | with_reducible first | refine f_Break ?_ | refine f_Continue ?_ | refine f_nil ?_ | refine f_andNil ?_ | refine f_orNil ?_
  | ((with_reducible refine f_Expr ?_ ?k ?k1); (case k | k1 => rfl)))
section
/-- the mirror of _siftdown -/
noncomputable def sd (lt : Value → Value → Bool) (new : Value) (start : Nat) : Nat → Nat → List Value → List Value
  | 0, pos, xs => xs.set pos new
  | k + 1, pos, xs => if start < pos then (if lt new (xs.getD ((pos - 1) / 2) .none) then sd lt new start k ((pos - 1) / 2) (xs.set pos (xs.getD ((pos - 1) / 2) .none)) else xs.set pos new) else xs.set pos new

theorem sd_fuel (lt : Value → Value → Bool) (new : Value) (start : Nat) : ∀ (k k' pos : Nat) (xs : List Value), pos ≤ k → pos ≤ k' → sd lt new start k pos xs = sd lt new start k' pos xs
  | 0, 0, _, _, _, _ => rfl
  | 0, k' + 1, pos, xs, h, _ => by
    obtain rfl : pos = 0 := by omega
    simp [sd]
  | k + 1, 0, pos, xs, _, h => by
    obtain rfl : pos = 0 := by omega
    simp [sd]
  | k + 1, k' + 1, pos, xs, h, h' => by
    unfold sd
    by_cases h0 : start < pos
    · rw [sd_fuel lt new start k k' ((pos - 1) / 2) _ (by omega) (by omega)]
    · simp [h0]
/-- the mirror of _siftup's loop -/
noncomputable def su (lt : Value → Value → Bool) : Nat → Nat → List Value → List Value × Nat
  | 0, pos, xs => (xs, pos)
  | k + 1, pos, xs => if 2 * pos + 1 < xs.length then
      (if 2 * pos + 2 < xs.length ∧ lt (xs.getD (2 * pos + 1) .none) (xs.getD (2 * pos + 2) .none) = false
        then su lt k (2 * pos + 2) (xs.set pos (xs.getD (2 * pos + 2) .none))
        else su lt k (2 * pos + 1) (xs.set pos (xs.getD (2 * pos + 1) .none))) else (xs, pos)
theorem su_fuel (lt : Value → Value → Bool) : ∀ (k k' pos : Nat) (xs : List Value), xs.length ≤ k + pos → xs.length ≤ k' + pos → su lt k pos xs = su lt k' pos xs
  | 0, 0, _, _, _, _ => rfl
  | 0, k' + 1, pos, xs, h, _ => by
    have : ¬ 2 * pos + 1 < xs.length := by omega
    simp [su, this]
  | k + 1, 0, pos, xs, _, h => by
    have : ¬ 2 * pos + 1 < xs.length := by omega
    simp [su, this]
  | k + 1, k' + 1, pos, xs, h, h' => by
    unfold su
    rw [su_fuel lt k k' (2 * pos + 2) _ (by simp; omega) (by simp; omega), su_fuel lt k k' (2 * pos + 1) _ (by simp; omega) (by simp; omega)]
noncomputable def sup (lt : Value → Value → Bool) (pos : Nat) (xs : List Value) : List Value :=
  sd lt (xs.getD pos .none) pos (su lt xs.length pos xs).2 (su lt xs.length pos xs).2 ((su lt xs.length pos xs).1.set (su lt xs.length pos xs).2 (xs.getD pos .none))

/-- what holds in the loops of the sifts -/
inductive SdQ (H : HM) (l : Addr) (xs : List Value) (new : Value) (r : List Value) (fl : Flow) (H' : HM) (m' : Loc) : Prop where
  | mk (hf : fl = .next) (pos : Nat) (t : Tok) (ys : List Value) (hH : H' = upd H l (lst ys)) (h1 : m' "heap" = some (.ref l)) (h2 : m' "pos" = some (.int (pos : Nat) t)) (h3 : m' "newitem" = some new) (hp : pos < ys.length) (hl : ys.length = xs.length) (he : ys.set pos new = r) : SdQ H l xs new r fl H' m'
inductive SdI (H : HM) (l : Addr) (xs : List Value) (new : Value) (sp : Nat) (t1 : Tok) (S : Value → Prop) (lt : Value → Value → Bool) (r : List Value) (n : Nat) (H' : HM) (m' : Loc) : Prop where
  | mk (t : Tok) (ys : List Value) (hH : H' = upd H l (lst ys)) (h1 : m' "heap" = some (.ref l)) (h2 : m' "startpos" = some (.int sp t1)) (h3 : m' "pos" = some (.int (n : Nat) t)) (h4 : m' "newitem" = some new) (hp : n < ys.length) (hl : ys.length = xs.length)
    (hS : ∀ y ∈ ys, S y) (he : sd lt new sp n n ys = r) : SdI H l xs new sp t1 S lt r n H' m'
inductive SuQ (H : HM) (l : Addr) (xs : List Value) (new : Value) (p : Nat) (t2 : Tok) (S : Value → Prop) (r : List Value × Nat) (fl : Flow) (H' : HM) (m' : Loc) : Prop where
  | mk (hf : fl = .next) (pos : Nat) (t : Tok) (ys : List Value) (hH : H' = upd H l (lst ys)) (h1 : m' "heap" = some (.ref l)) (h2 : m' "pos" = some (.int (pos : Nat) t)) (h3 : m' "newitem" = some new) (h4 : m' "startpos" = some (.int (p : Nat) t2))
    (hp : pos < ys.length) (hl : ys.length = xs.length) (hS : ∀ y ∈ ys, S y) (he : r = (ys, pos)) : SuQ H l xs new p t2 S r fl H' m'
inductive SuI (H : HM) (l : Addr) (xs : List Value) (new : Value) (p : Nat) (t2 t3 : Tok) (S : Value → Prop) (lt : Value → Value → Bool) (r : List Value × Nat) (n : Nat) (H' : HM) (m' : Loc) : Prop where
  | mk (pos : Nat) (t t' : Tok) (ys : List Value) (hn : n = xs.length - pos) (hH : H' = upd H l (lst ys)) (h1 : m' "heap" = some (.ref l)) (h2 : m' "startpos" = some (.int (p : Nat) t2)) (h3 : m' "pos" = some (.int (pos : Nat) t)) (h4 : m' "childpos" = some (.int ((2 * pos + 1 : Nat) : Int) t'))
    (h5 : m' "newitem" = some new) (h6 : m' "endpos" = some (.int (xs.length : Nat) t3)) (hp : pos < ys.length) (hl : ys.length = xs.length) (hS : ∀ y ∈ ys, S y) (he : su lt xs.length pos ys = r) : SuI H l xs new p t2 t3 S lt r n H' m'
inductive SuC (H : HM) (l : Addr) (xs ys : List Value) (new : Value) (p pos : Nat) (t2 t3 t : Tok) (lt : Value → Value → Bool) (fl : Flow) (H' : HM) (m' : Loc) : Prop where
  | mk (hf : fl = .next) (hH : H' = upd H l (lst ys)) (h1 : m' "heap" = some (.ref l)) (h2 : m' "startpos" = some (.int (p : Nat) t2)) (h3 : m' "pos" = some (.int (pos : Nat) t)) (h4 : m' "newitem" = some new) (h5 : m' "endpos" = some (.int (xs.length : Nat) t3))
    (cp : Nat) (t' : Tok) (h6 : m' "childpos" = some (.int (cp : Nat) t')) (hc : cp < ys.length) (hp : pos < cp) (he : su lt xs.length pos ys = su lt xs.length cp (ys.set pos (ys.getD cp .none))) : SuC H l xs ys new p pos t2 t3 t lt fl H' m'
section
variable {c : Cx} {A : Around} {H : HM}
theorem siftdown_spec {f l : Addr} {xs : List Value} {sp p : Nat} {t1 t2 : Tok} {Dat : HM} {S : Value → Prop} {lt : Value → Value → Bool}
    (ok : c.Ok) (F : FnAt c f 6 .none .none) (hroom : A.depth < recursionLimit) (hu : A.units + 60 < cLine) (hLt : LtOK c Dat S lt) (hD : Sub Dat H) (hDl : Dat l = none)
    (hl : H l = some (lst xs)) (hS : ∀ x ∈ xs, S x) (hp : p < xs.length) (hz : xs.length < 1000) :
    W c A (call (.ref f) [.ref l, .int sp t1, .int p t2]) H (fun v H' => v = .none ∧ H' = upd H l (lst (sd lt (xs.getD p .none) sp p p xs))) := by
  refine w_callFn (binds := [("heap", .ref l), ("startpos", .int sp t1), ("pos", .int p t2)]) ok F hroom (fun _ _ _ _ _ _ _ => rfl) (locs rfl) (by decide) rfl rfl rfl (fun hb q cd L hL => ?_)
  refine f_cons ?_
  with_reducible refine w_let ?_
  intro _
  repeat walk_at "e"
  with_reducible refine f_getN hl hp hz ?_ ?hs
  case hs => with_unfolding_all rfl
  generalize hnew : xs.getD p .none = new
  have hnS : S new := hnew ▸ hS _ (by simp [hp])
  repeat walk_at "e"
  refine f_mono (Q := SdQ H l xs new (sd lt new sp p p xs)) ?_ ?_
  · refine f_While (SdI H l xs new sp t1 S lt (sd lt new sp p p xs)) p ⟨t2, xs, (upd_self hl).symm, rfl, rfl, rfl, rfl, hp, rfl, hS, rfl⟩ ?_
    rintro n H' m' ⟨t, ys, rfl, h1, h2, h3, h4, hn, hlen, hSy, heq⟩
    have hl' : upd H l (lst ys) l = some (lst ys) := upd_same ..
    have hz' : ys.length < 1000 := by omega
    repeat walk_at "e"
    refine split_bool (fun hlt => ?_) (fun hge => ?_)
    · have hlt : sp < n := by simpa using hlt
      obtain ⟨n, rfl⟩ : ∃ k, n = k + 1 := ⟨n - 1, by omega⟩
      repeat walk_at "e"
      with_reducible refine f_half ?_ (fun t5 => ?_)
      · omega
      have e5 : ((((n + 1 : Nat) : Int) - 1) / 2) = ((n / 2 : Nat) : Int) := by omega
      rw [e5]
      repeat walk_at "e"
      have hn2 : n / 2 < ys.length := by omega
      with_reducible refine f_getN hl' hn2 hz' ?_ ?hs
      case hs => with_unfolding_all rfl
      repeat walk_at "e"
      with_reducible refine f_If ?_
      repeat walk_at "e"
      have hpS : S (ys.getD (n / 2) .none) := hSy _ (by simp [hn2])
      with_reducible refine hLt.use ?_ (hD.upd_new hDl) hnS hpS ⟨_, rfl, ?_⟩
      · show A.units + 3 + 50 < cLine; omega
      refine split_bool (fun hc => ?_) (fun hc => ?_)
      · repeat walk_at "e"
        with_reducible refine f_setN hl' hn hz' ?_
        rw [upd_upd]
        repeat walk_at "e"
        refine ⟨n / 2, by omega, t5, ys.set (n + 1) (ys.getD (n / 2) .none), rfl, by walk_at "v", by walk_at "v", by walk_at "v", by walk_at "v", by simp; omega, by simp [hlen], fun y hy => ?_, ?_⟩
        · rcases List.mem_or_eq_of_mem_set hy with h | h
          · exact hSy y h
          · exact h ▸ hpS
        · rw [← heq, sd_fuel lt new sp (n / 2) n _ _ (by omega) (by omega)]
          simp only [sd, hlt, hc, if_true, Nat.add_sub_cancel]
      · repeat walk_at "e"
        refine ⟨rfl, n + 1, t, ys, rfl, by walk_at "v", by walk_at "v", by walk_at "v", hn, hlen, ?_⟩
        rw [← heq]
        simp only [sd, hlt, hc, if_true, Nat.add_sub_cancel, Bool.false_eq_true, if_false]
    · repeat walk_at "e"
      refine ⟨rfl, n, t, ys, rfl, h1, h3, h4, hn, hlen, ?_⟩
      have hge : ¬ sp < n := by simpa using hge
      rw [← heq]
      cases n <;> simp [sd, hge]
  · rintro fl H' m' ⟨rfl, pos, t, ys, rfl, h1, h2, h3, hpos, hlen, heq⟩
    have hl' : upd H l (lst ys) l = some (lst ys) := upd_same ..
    have hz' : ys.length < 1000 := by omega
    repeat walk_at "e"
    with_reducible refine f_setN hl' hpos hz' ?_
    rw [upd_upd, heq]
    repeat walk_at "e"
    exact ⟨_, Sub.refl _, hb.upd hl (lst_loose _), rfl, by rw [hnew]⟩
end
section
variable {c : Cx} {A : Around} {H : HM}
theorem siftup_spec {f l : Addr} {xs : List Value} {p : Nat} {t2 : Tok} {Dat : HM} {S : Value → Prop} {lt : Value → Value → Bool}
    (G : GF c) (F : FnAt c f 7 .none .none) (hroom : A.depth + 1 < recursionLimit) (hu : A.units + 80 < cLine) (hLt : LtOK c Dat S lt) (hD : Sub Dat H) (hDl : Dat l = none)
    (hl : H l = some (lst xs)) (hS : ∀ x ∈ xs, S x) (hp : p < xs.length) (hz : xs.length < 1000) :
    W c A (call (.ref f) [.ref l, .int p t2]) H (fun v H' => v = .none ∧ H' = upd H l (lst (sup lt p xs))) := by
  obtain ⟨fsd, gsd, Fsd⟩ := G.siftdown
  obtain ⟨gl1, gl2⟩ := G.len
  refine w_callFn (binds := [("heap", .ref l), ("pos", .int p t2)]) G.ok F (by omega) (fun _ _ _ _ _ _ _ => rfl) (locs rfl) (by decide) rfl rfl rfl (fun hb q cd L hL => ?_)
  refine f_cons ?_
  with_reducible refine w_let ?_
  intro _
  repeat walk_at "e"
  refine ⟨Callee.builtin _ _, ?_⟩
  with_reducible refine f_len hl hz (fun t3 => ?_)
  repeat walk_at "e"
  with_reducible refine f_getN hl hp hz ?_ ?hs
  case hs => with_unfolding_all rfl
  generalize hnew : xs.getD p .none = new
  have hnS : S new := hnew ▸ hS _ (by simp [hp])
  repeat walk_at "e"
  with_reducible refine f_mul ?_ (fun t4 => ?_)
  · exact IntMulOk.of_left (by decide)
  repeat walk_at "e"
  rw [show (2 * (p : Int) + 1) = ((2 * p + 1 : Nat) : Int) by omega]
  refine f_mono (Q := SuQ H l xs new p t2 S (su lt xs.length p xs)) ?_ ?_
  · refine f_While (SuI H l xs new p t2 t3 S lt (su lt xs.length p xs)) (xs.length - p)
      ⟨p, t2, _, xs, rfl, (upd_self hl).symm, by walk_at "v", by walk_at "v", by walk_at "v", by walk_at "v", by walk_at "v", by walk_at "v", hp, rfl, hS, rfl⟩ ?_
    rintro n H' m' ⟨pos, t, t', ys, rfl, rfl, h1, h2, h3, h4, h5, h6, hn, hlen, hSy, heq⟩
    have hl' : upd H l (lst ys) l = some (lst ys) := upd_same ..
    have hz' : ys.length < 1000 := by omega
    repeat walk_at "e"
    refine split_bool (fun hlt => ?_) (fun hge => ?_)
    · have hlt : 2 * pos + 1 < ys.length := by have := of_decide_eq_true hlt; omega
      repeat walk_at "e"
      rw [show (((2 * pos + 1 : Nat) : Int) + 1) = ((2 * pos + 2 : Nat) : Int) by omega]
      -- the child that goes up
      refine f_mono (Q := SuC H l xs ys new p pos t2 t3 t lt) ?_ ?_
      · have hz3 : xs.length = (xs.length - 1) + 1 := by omega
        with_reducible refine f_If ?_
        repeat walk_at "e"
        refine split_bool (fun hr => ?_) (fun hr => ?_)
        · have hr : 2 * pos + 2 < ys.length := by have := of_decide_eq_true hr; omega
          repeat walk_at "e"
          with_reducible refine f_getN hl' hlt hz' ?_ ?hs
          case hs => with_unfolding_all rfl
          repeat walk_at "e"
          with_reducible refine f_getN hl' hr hz' ?_ ?hs
          case hs => with_unfolding_all rfl
          with_reducible refine hLt.use ?_ (hD.upd_new hDl) (hSy _ (by simp [hlt])) (hSy _ (by simp [hr])) ⟨_, rfl, ?_⟩
          · show A.units + 3 + 50 < cLine; omega
          cases hc : lt (ys.getD (2 * pos + 1) .none) (ys.getD (2 * pos + 2) .none)
          · simp only [Bool.not_false, if_true]
            repeat walk_at "e"
            simp only [if_true]
            repeat walk_at "e"
            refine ⟨rfl, rfl, by walk_at "v", by walk_at "v", by walk_at "v", by walk_at "v", by walk_at "v", 2 * pos + 2, _, by walk_at "v", hr, by omega, ?_⟩
            rw [hz3, su, if_pos hlt, if_pos ⟨hr, hc⟩]
            exact su_fuel lt _ _ _ _ (by simp; omega) (by simp; omega)
          · simp only [Bool.not_true, Bool.false_eq_true, if_false]
            repeat walk_at "e"
            refine ⟨rfl, rfl, by walk_at "v", by walk_at "v", by walk_at "v", by walk_at "v", by walk_at "v", 2 * pos + 1, _, by walk_at "v", hlt, by omega, ?_⟩
            rw [hz3, su, if_pos hlt, if_neg (fun h => by have := h.2; rw [hc] at this; cases this)]
            exact su_fuel lt _ _ _ _ (by simp; omega) (by simp; omega)
        · have hr : ¬ 2 * pos + 2 < ys.length := by have := of_decide_eq_false hr; omega
          simp only [Bool.false_eq_true, if_false]
          repeat walk_at "e"
          refine ⟨rfl, rfl, by walk_at "v", by walk_at "v", by walk_at "v", by walk_at "v", by walk_at "v", 2 * pos + 1, _, by walk_at "v", hlt, by omega, ?_⟩
          rw [hz3, su, if_pos hlt, if_neg (by simp [hr])]
          exact su_fuel lt _ _ _ _ (by simp; omega) (by simp; omega)
      · rintro fl H' m'' ⟨rfl, rfl, g1, g2, g3, g4, g5, cp, t5, g6, hcp, hpc, hsu⟩
        repeat walk_at "e"
        with_reducible refine f_getN hl' hcp hz' ?_ ?hs
        case hs => with_unfolding_all rfl
        repeat walk_at "e"
        with_reducible refine f_setN hl' hn hz' ?_
        rw [upd_upd]
        repeat walk_at "e"
        with_reducible refine f_mul ?_ (fun t6 => ?_)
        · exact IntMulOk.of_left (by decide)
        repeat walk_at "e"
        rw [show (2 * (cp : Int) + 1) = ((2 * cp + 1 : Nat) : Int) by omega]
        refine ⟨xs.length - cp, by omega, cp, _, _, ys.set pos (ys.getD cp .none), rfl, rfl, by walk_at "v", by walk_at "v", by walk_at "v", by walk_at "v", by walk_at "v", by walk_at "v", by simpa using hcp, by simpa using hlen, fun y hy => ?_, ?_⟩
        · rcases List.mem_or_eq_of_mem_set hy with h | h
          · exact hSy y h
          · exact h ▸ hSy _ (by simp [hcp])
        · rw [← hsu, heq]
    · have hge : ¬ 2 * pos + 1 < ys.length := by have := of_decide_eq_false hge; omega
      repeat walk_at "e"
      refine ⟨rfl, pos, t, ys, rfl, h1, h3, h5, h2, hn, hlen, hSy, ?_⟩
      rw [← heq]
      cases hx : xs.length <;> simp [su, hge]
  · rintro fl H' m' ⟨rfl, pos, t, ys, rfl, h1, h2, h3, h4, hpos, hlen, hSy, heq⟩
    have hl' : upd H l (lst ys) l = some (lst ys) := upd_same ..
    have hz' : ys.length < 1000 := by omega
    repeat walk_at "e"
    with_reducible refine f_setN hl' hpos hz' ?_
    rw [upd_upd]
    repeat walk_at "e"
    refine ⟨Callee.fn Fsd (hb.upd hl (lst_loose _)), ?_⟩
    have hl3 : upd H l (lst (ys.set pos new)) l = some (lst (ys.set pos new)) := upd_same ..
    have hS3 : ∀ x ∈ ys.set pos new, S x := fun y hy => by
      rcases List.mem_or_eq_of_mem_set hy with h | h
      · exact hSy y h
      · exact h ▸ hnS
    refine f_spec hl3 (fun H' hsub => siftdown_spec G.ok Fsd (by show A.depth + 1 < recursionLimit; omega) (by show A.units + 3 + 60 < cLine; omega) hLt ((hD.upd_new hDl).trans hsub) hDl (hsub _ _ hl3) hS3 (by simpa using hpos) (by simpa using hz')) ?_
    rw [upd_upd]
    repeat walk_at "e"
    refine ⟨_, Sub.refl _, hb.upd hl (lst_loose _), rfl, ?_⟩
    have : (ys.set pos new).getD pos .none = new := by simp [hpos]
    rw [this, sup, heq, hnew]
end
end
section
section
variable {c : Cx} {A : Around} {H : HM}
theorem siftdown_max_spec {f l : Addr} {xs : List Value} {sp p : Nat} {t1 t2 : Tok} {Dat : HM} {S : Value → Prop} {lt : Value → Value → Bool}
    (ok : c.Ok) (F : FnAt c f 8 .none .none) (hroom : A.depth < recursionLimit) (hu : A.units + 60 < cLine) (hLt : LtOK c Dat S lt) (hD : Sub Dat H) (hDl : Dat l = none)
    (hl : H l = some (lst xs)) (hS : ∀ x ∈ xs, S x) (hp : p < xs.length) (hz : xs.length < 1000) :
    W c A (call (.ref f) [.ref l, .int sp t1, .int p t2]) H (fun v H' => v = .none ∧ H' = upd H l (lst (sd (fun a b => lt b a) (xs.getD p .none) sp p p xs))) := by
  refine w_callFn (binds := [("heap", .ref l), ("startpos", .int sp t1), ("pos", .int p t2)]) ok F hroom (fun _ _ _ _ _ _ _ => rfl) (locs rfl) (by decide) rfl rfl rfl (fun hb q cd L hL => ?_)
  refine f_cons ?_
  with_reducible refine w_let ?_
  intro _
  repeat walk_at "e"
  with_reducible refine f_getN hl hp hz ?_ ?hs
  case hs => with_unfolding_all rfl
  generalize hnew : xs.getD p .none = new
  have hnS : S new := hnew ▸ hS _ (by simp [hp])
  repeat walk_at "e"
  refine f_mono (Q := SdQ H l xs new (sd (fun a b => lt b a) new sp p p xs)) ?_ ?_
  · refine f_While (SdI H l xs new sp t1 S (fun a b => lt b a) (sd (fun a b => lt b a) new sp p p xs)) p ⟨t2, xs, (upd_self hl).symm, rfl, rfl, rfl, rfl, hp, rfl, hS, rfl⟩ ?_
    rintro n H' m' ⟨t, ys, rfl, h1, h2, h3, h4, hn, hlen, hSy, heq⟩
    have hl' : upd H l (lst ys) l = some (lst ys) := upd_same ..
    have hz' : ys.length < 1000 := by omega
    repeat walk_at "e"
    refine split_bool (fun hlt => ?_) (fun hge => ?_)
    · have hlt : sp < n := by simpa using hlt
      obtain ⟨n, rfl⟩ : ∃ k, n = k + 1 := ⟨n - 1, by omega⟩
      repeat walk_at "e"
      with_reducible refine f_half ?_ (fun t5 => ?_)
      · omega
      have e5 : ((((n + 1 : Nat) : Int) - 1) / 2) = ((n / 2 : Nat) : Int) := by omega
      rw [e5]
      repeat walk_at "e"
      have hn2 : n / 2 < ys.length := by omega
      with_reducible refine f_getN hl' hn2 hz' ?_ ?hs
      case hs => with_unfolding_all rfl
      repeat walk_at "e"
      with_reducible refine f_If ?_
      repeat walk_at "e"
      have hpS : S (ys.getD (n / 2) .none) := hSy _ (by simp [hn2])
      with_reducible refine hLt.use ?_ (hD.upd_new hDl) hpS hnS ⟨_, rfl, ?_⟩
      · show A.units + 3 + 50 < cLine; omega
      refine split_bool (fun hc => ?_) (fun hc => ?_)
      · repeat walk_at "e"
        with_reducible refine f_setN hl' hn hz' ?_
        rw [upd_upd]
        repeat walk_at "e"
        refine ⟨n / 2, by omega, t5, ys.set (n + 1) (ys.getD (n / 2) .none), rfl, by walk_at "v", by walk_at "v", by walk_at "v", by walk_at "v", by simp; omega, by simp [hlen], fun y hy => ?_, ?_⟩
        · rcases List.mem_or_eq_of_mem_set hy with h | h
          · exact hSy y h
          · exact h ▸ hpS
        · rw [← heq, sd_fuel (fun a b => lt b a) new sp (n / 2) n _ _ (by omega) (by omega)]
          simp only [sd, hlt, hc, if_true, Nat.add_sub_cancel]
      · repeat walk_at "e"
        refine ⟨rfl, n + 1, t, ys, rfl, by walk_at "v", by walk_at "v", by walk_at "v", hn, hlen, ?_⟩
        rw [← heq]
        simp only [sd, hlt, hc, if_true, Nat.add_sub_cancel, Bool.false_eq_true, if_false]
    · repeat walk_at "e"
      refine ⟨rfl, n, t, ys, rfl, h1, h3, h4, hn, hlen, ?_⟩
      have hge : ¬ sp < n := by simpa using hge
      rw [← heq]
      cases n <;> simp [sd, hge]
  · rintro fl H' m' ⟨rfl, pos, t, ys, rfl, h1, h2, h3, hpos, hlen, heq⟩
    have hl' : upd H l (lst ys) l = some (lst ys) := upd_same ..
    have hz' : ys.length < 1000 := by omega
    repeat walk_at "e"
    with_reducible refine f_setN hl' hpos hz' ?_
    rw [upd_upd, heq]
    repeat walk_at "e"
    exact ⟨_, Sub.refl _, hb.upd hl (lst_loose _), rfl, by rw [hnew]⟩
end
section
variable {c : Cx} {A : Around} {H : HM}
theorem siftup_max_spec {f l : Addr} {xs : List Value} {p : Nat} {t2 : Tok} {Dat : HM} {S : Value → Prop} {lt : Value → Value → Bool}
    (G : GF c) (F : FnAt c f 9 .none .none) (hroom : A.depth + 1 < recursionLimit) (hu : A.units + 80 < cLine) (hLt : LtOK c Dat S lt) (hD : Sub Dat H) (hDl : Dat l = none)
    (hl : H l = some (lst xs)) (hS : ∀ x ∈ xs, S x) (hp : p < xs.length) (hz : xs.length < 1000) :
    W c A (call (.ref f) [.ref l, .int p t2]) H (fun v H' => v = .none ∧ H' = upd H l (lst (sup (fun a b => lt b a) p xs))) := by
  obtain ⟨fsd, gsd, Fsd⟩ := G.siftdown_max
  obtain ⟨gl1, gl2⟩ := G.len
  refine w_callFn (binds := [("heap", .ref l), ("pos", .int p t2)]) G.ok F (by omega) (fun _ _ _ _ _ _ _ => rfl) (locs rfl) (by decide) rfl rfl rfl (fun hb q cd L hL => ?_)
  refine f_cons ?_
  with_reducible refine w_let ?_
  intro _
  repeat walk_at "e"
  refine ⟨Callee.builtin _ _, ?_⟩
  with_reducible refine f_len hl hz (fun t3 => ?_)
  repeat walk_at "e"
  with_reducible refine f_getN hl hp hz ?_ ?hs
  case hs => with_unfolding_all rfl
  generalize hnew : xs.getD p .none = new
  have hnS : S new := hnew ▸ hS _ (by simp [hp])
  repeat walk_at "e"
  with_reducible refine f_mul ?_ (fun t4 => ?_)
  · exact IntMulOk.of_left (by decide)
  repeat walk_at "e"
  rw [show (2 * (p : Int) + 1) = ((2 * p + 1 : Nat) : Int) by omega]
  refine f_mono (Q := SuQ H l xs new p t2 S (su (fun a b => lt b a) xs.length p xs)) ?_ ?_
  · refine f_While (SuI H l xs new p t2 t3 S (fun a b => lt b a) (su (fun a b => lt b a) xs.length p xs)) (xs.length - p)
      ⟨p, t2, _, xs, rfl, (upd_self hl).symm, by walk_at "v", by walk_at "v", by walk_at "v", by walk_at "v", by walk_at "v", by walk_at "v", hp, rfl, hS, rfl⟩ ?_
    rintro n H' m' ⟨pos, t, t', ys, rfl, rfl, h1, h2, h3, h4, h5, h6, hn, hlen, hSy, heq⟩
    have hl' : upd H l (lst ys) l = some (lst ys) := upd_same ..
    have hz' : ys.length < 1000 := by omega
    repeat walk_at "e"
    refine split_bool (fun hlt => ?_) (fun hge => ?_)
    · have hlt : 2 * pos + 1 < ys.length := by have := of_decide_eq_true hlt; omega
      repeat walk_at "e"
      rw [show (((2 * pos + 1 : Nat) : Int) + 1) = ((2 * pos + 2 : Nat) : Int) by omega]
      -- the child that goes up
      refine f_mono (Q := SuC H l xs ys new p pos t2 t3 t (fun a b => lt b a)) ?_ ?_
      · have hz3 : xs.length = (xs.length - 1) + 1 := by omega
        with_reducible refine f_If ?_
        repeat walk_at "e"
        refine split_bool (fun hr => ?_) (fun hr => ?_)
        · have hr : 2 * pos + 2 < ys.length := by have := of_decide_eq_true hr; omega
          repeat walk_at "e"
          with_reducible refine f_getN hl' hr hz' ?_ ?hs
          case hs => with_unfolding_all rfl
          repeat walk_at "e"
          with_reducible refine f_getN hl' hlt hz' ?_ ?hs
          case hs => with_unfolding_all rfl
          with_reducible refine hLt.use ?_ (hD.upd_new hDl) (hSy _ (by simp [hr])) (hSy _ (by simp [hlt])) ⟨_, rfl, ?_⟩
          · show A.units + 3 + 50 < cLine; omega
          cases hc : lt (ys.getD (2 * pos + 2) .none) (ys.getD (2 * pos + 1) .none)
          · simp only [Bool.not_false, if_true]
            repeat walk_at "e"
            simp only [if_true]
            repeat walk_at "e"
            refine ⟨rfl, rfl, by walk_at "v", by walk_at "v", by walk_at "v", by walk_at "v", by walk_at "v", 2 * pos + 2, _, by walk_at "v", hr, by omega, ?_⟩
            rw [hz3, su, if_pos hlt, if_pos ⟨hr, hc⟩]
            exact su_fuel (fun a b => lt b a) _ _ _ _ (by simp; omega) (by simp; omega)
          · simp only [Bool.not_true, Bool.false_eq_true, if_false]
            repeat walk_at "e"
            refine ⟨rfl, rfl, by walk_at "v", by walk_at "v", by walk_at "v", by walk_at "v", by walk_at "v", 2 * pos + 1, _, by walk_at "v", hlt, by omega, ?_⟩
            rw [hz3, su, if_pos hlt, if_neg (fun h => by have := h.2; rw [hc] at this; cases this)]
            exact su_fuel (fun a b => lt b a) _ _ _ _ (by simp; omega) (by simp; omega)
        · have hr : ¬ 2 * pos + 2 < ys.length := by have := of_decide_eq_false hr; omega
          simp only [Bool.false_eq_true, if_false]
          repeat walk_at "e"
          refine ⟨rfl, rfl, by walk_at "v", by walk_at "v", by walk_at "v", by walk_at "v", by walk_at "v", 2 * pos + 1, _, by walk_at "v", hlt, by omega, ?_⟩
          rw [hz3, su, if_pos hlt, if_neg (by simp [hr])]
          exact su_fuel (fun a b => lt b a) _ _ _ _ (by simp; omega) (by simp; omega)
      · rintro fl H' m'' ⟨rfl, rfl, g1, g2, g3, g4, g5, cp, t5, g6, hcp, hpc, hsu⟩
        repeat walk_at "e"
        with_reducible refine f_getN hl' hcp hz' ?_ ?hs
        case hs => with_unfolding_all rfl
        repeat walk_at "e"
        with_reducible refine f_setN hl' hn hz' ?_
        rw [upd_upd]
        repeat walk_at "e"
        with_reducible refine f_mul ?_ (fun t6 => ?_)
        · exact IntMulOk.of_left (by decide)
        repeat walk_at "e"
        rw [show (2 * (cp : Int) + 1) = ((2 * cp + 1 : Nat) : Int) by omega]
        refine ⟨xs.length - cp, by omega, cp, _, _, ys.set pos (ys.getD cp .none), rfl, rfl, by walk_at "v", by walk_at "v", by walk_at "v", by walk_at "v", by walk_at "v", by walk_at "v", by simpa using hcp, by simpa using hlen, fun y hy => ?_, ?_⟩
        · rcases List.mem_or_eq_of_mem_set hy with h | h
          · exact hSy y h
          · exact h ▸ hSy _ (by simp [hcp])
        · rw [← hsu, heq]
    · have hge : ¬ 2 * pos + 1 < ys.length := by have := of_decide_eq_false hge; omega
      repeat walk_at "e"
      refine ⟨rfl, pos, t, ys, rfl, h1, h3, h5, h2, hn, hlen, hSy, ?_⟩
      rw [← heq]
      cases hx : xs.length <;> simp [su, hge]
  · rintro fl H' m' ⟨rfl, pos, t, ys, rfl, h1, h2, h3, h4, hpos, hlen, hSy, heq⟩
    have hl' : upd H l (lst ys) l = some (lst ys) := upd_same ..
    have hz' : ys.length < 1000 := by omega
    repeat walk_at "e"
    with_reducible refine f_setN hl' hpos hz' ?_
    rw [upd_upd]
    repeat walk_at "e"
    refine ⟨Callee.fn Fsd (hb.upd hl (lst_loose _)), ?_⟩
    have hl3 : upd H l (lst (ys.set pos new)) l = some (lst (ys.set pos new)) := upd_same ..
    have hS3 : ∀ x ∈ ys.set pos new, S x := fun y hy => by
      rcases List.mem_or_eq_of_mem_set hy with h | h
      · exact hSy y h
      · exact h ▸ hnS
    refine f_spec hl3 (fun H' hsub => siftdown_max_spec G.ok Fsd (by show A.depth + 1 < recursionLimit; omega) (by show A.units + 3 + 60 < cLine; omega) hLt ((hD.upd_new hDl).trans hsub) hDl (hsub _ _ hl3) hS3 (by simpa using hpos) (by simpa using hz')) ?_
    rw [upd_upd]
    repeat walk_at "e"
    refine ⟨_, Sub.refl _, hb.upd hl (lst_loose _), rfl, ?_⟩
    have : (ys.set pos new).getD pos .none = new := by simp [hpos]
    rw [this, sup, heq, hnew]
end
end
section
section
variable {lt : Value → Value → Bool}
theorem sd_length (new : Value) (st : Nat) : ∀ (k pos : Nat) (xs : List Value), (sd lt new st k pos xs).length = xs.length
  | 0, pos, xs => by simp [sd]
  | k + 1, pos, xs => by
    unfold sd
    split
    · split
      · rw [sd_length]; simp
      · simp
    · simp
theorem set_swap (xs : List Value) {i j : Nat} (hi : i < xs.length) (hj : j < xs.length) (hne : i ≠ j) (v : Value) : ((xs.set i (xs.getD j .none)).set j v).Perm (xs.set i v) := by
  have h := List.set_set_perm (as := xs.set i v) (i := i) (j := j) (by simpa using hi) (by simpa using hj)
  have e1 : (xs.set i v)[j]'(by simpa using hj) = xs.getD j .none := by
    rw [List.getElem_set_ne hne]; simp [hj]
  have e2 : (xs.set i v)[i]'(by simpa using hi) = v := by simp
  rw [e1, e2, List.set_set] at h
  exact h
theorem sd_perm (new : Value) (st : Nat) : ∀ (k pos : Nat) (xs : List Value), pos < xs.length → (sd lt new st k pos xs).Perm (xs.set pos new)
  | 0, pos, xs, _ => by simp [sd]
  | k + 1, pos, xs, h => by
    unfold sd
    split
    · split
      · rename_i h1 h2
        refine (sd_perm new st k _ _ (by simp; omega)).trans ?_
        exact set_swap xs h (by omega) (by omega) new
      · exact .refl _
    · exact .refl _
theorem su_spec (new : Value) : ∀ (k pos : Nat) (xs : List Value), pos < xs.length → (su lt k pos xs).1.length = xs.length ∧ (su lt k pos xs).2 < xs.length ∧ pos ≤ (su lt k pos xs).2 ∧ ((su lt k pos xs).1.set (su lt k pos xs).2 new).Perm (xs.set pos new)
  | 0, pos, xs, h => ⟨rfl, h, Nat.le_refl _, .refl _⟩
  | k + 1, pos, xs, h => by
    unfold su
    split
    · rename_i h1
      split
      · rename_i h2
        obtain ⟨a, b, b', d⟩ := su_spec new k (2 * pos + 2) (xs.set pos (xs.getD (2 * pos + 2) .none)) (by simpa using h2.1)
        refine ⟨by simpa using a, by simpa using b, by omega, d.trans (set_swap xs h h2.1 (by omega) new)⟩
      · obtain ⟨a, b, b', d⟩ := su_spec new k (2 * pos + 1) (xs.set pos (xs.getD (2 * pos + 1) .none)) (by simpa using h1)
        refine ⟨by simpa using a, by simpa using b, by omega, d.trans (set_swap xs h h1 (by omega) new)⟩
    · exact ⟨rfl, h, Nat.le_refl _, .refl _⟩
theorem sup_perm {pos : Nat} {xs : List Value} (h : pos < xs.length) : (sup lt pos xs).Perm xs := by
  obtain ⟨a, b, b', d⟩ := su_spec (lt := lt) (xs.getD pos .none) xs.length pos xs h
  unfold sup
  refine (sd_perm _ _ _ _ _ (by simp; omega)).trans ?_
  rw [List.set_set]
  refine d.trans ?_
  have : xs.set pos (xs.getD pos .none) = xs := by
    apply List.ext_getElem?
    intro i
    rw [List.getElem?_set]
    split
    · rename_i e; subst e; simp [h]
    · rfl
  rw [this]
theorem sup_length {pos : Nat} {xs : List Value} (h : pos < xs.length) : (sup lt pos xs).length = xs.length := (sup_perm h).length_eq
theorem sup_mem {pos : Nat} {xs : List Value} (h : pos < xs.length) {S : Value → Prop} (hS : ∀ x ∈ xs, S x) : ∀ x ∈ sup lt pos xs, S x := fun x hx => hS x ((sup_perm h).mem_iff.mp hx)

/-- the mirror of heapify -/
noncomputable def hfy (lt : Value → Value → Bool) : Nat → List Value → List Value
  | 0, xs => xs
  | k + 1, xs => hfy lt k (sup lt k xs)
theorem hfy_perm : ∀ (k : Nat) (xs : List Value), k ≤ xs.length → (hfy lt k xs).Perm xs
  | 0, xs, _ => .refl _
  | k + 1, xs, h => by
    unfold hfy
    exact (hfy_perm k _ (by rw [sup_length (by omega)]; omega)).trans (sup_perm (by omega))
end
end
section
/-- between the turns of heapify -/
inductive HfI (H : HM) (l it : Addr) (xs : List Value) (S : Value → Prop) (lt : Value → Value → Bool) (n : Nat) (H' : HM) (m' : Loc) : Prop where
  | mk (ys : List Value) (hH : H' = upd (upd H l (lst ys)) it (rit ((n : Int) - 1) n (-1))) (hm : m' "x" = some (.ref l)) (hl : ys.length = xs.length) (hS : ∀ y ∈ ys, S y) (hn : n ≤ xs.length / 2) (he : hfy lt n ys = hfy lt (xs.length / 2) xs) : HfI H l it xs S lt n H' m'
section
variable {c : Cx} {A : Around} {H : HM}
theorem fdiv2 (n : Nat) : Int.fdiv (n : Int) 2 = ((n / 2 : Nat) : Int) := by
  rw [Int.fdiv_eq_ediv_of_nonneg _ (by decide)]; omega
theorem heapify_spec {f l : Addr} {xs : List Value} {Dat : HM} {S : Value → Prop} {lt : Value → Value → Bool}
    (G : GF c) (F : FnAt c f 3 .none .none) (hroom : A.depth + 2 < recursionLimit) (hh : A.handled = none) (hu : A.units + 100 < cLine) (hLt : LtOK c Dat S lt) (hD : Sub Dat H) (hDl : Dat l = none)
    (hl : H l = some (lst xs)) (hS : ∀ x ∈ xs, S x) (hz : xs.length < 1000) :
    W c A (call (.ref f) [.ref l]) H (fun v H' => v = .none ∧ H' = upd H l (lst (hfy lt (xs.length / 2) xs))) := by
  obtain ⟨fsu, gsu, Fsu⟩ := G.siftup
  obtain ⟨gl1, gl2⟩ := G.len
  obtain ⟨gr1, gr2⟩ := G.range
  obtain ⟨gv1, gv2⟩ := G.reversed
  refine w_callFn (binds := [("x", .ref l)]) G.ok F (by omega) (fun _ _ _ _ _ _ _ => rfl) (locs rfl) (by decide) rfl rfl rfl (fun hb q cd L hL => ?_)
  refine f_cons ?_
  with_reducible refine w_let ?_
  intro _
  repeat walk_at "e"
  refine ⟨Callee.builtin _ _, ?_⟩
  with_reducible refine f_len hl hz (fun t3 => ?_)
  repeat walk_at "e"
  with_reducible refine f_For ?_ ?h1 ?h2
  case h1 => intro _; rfl
  case h2 => intro _ _; rfl
  repeat walk_at "e"
  with_reducible refine f_fdiv ?_ ?_ (fun t4 => ?_)
  · decide
  · exact PyProof.noPylong_small (by decide)
  rw [fdiv2]
  repeat walk_at "e"
  refine ⟨Callee.type _ _, ?_⟩
  with_reducible refine f_range1 (fun r hr hor hrL => ?_)
  repeat walk_at "e"
  refine ⟨Callee.type _ _, ?_⟩
  with_reducible refine f_reversed (upd_same ..) ?_ ?_ (fun it hit hoi hiL => ?_)
  · omega
  · omega
  have hlr : l ≠ r := by rintro rfl; rw [hr] at hl; cases hl
  have hlit : l ≠ it := by rintro rfl; rw [upd_ne hlr] at hit; rw [hit] at hl; cases hl
  have hitn : H it = none := by
    by_cases e : it = r
    · rw [e]; exact hr
    · rw [upd_ne e] at hit; exact hit
  refine f_weak (H' := upd H it (rit (((xs.length / 2 : Nat) : Int) - 1) ((xs.length / 2 : Nat) : Int) (-1))) (Sub.upd_both (Sub.upd_new (Sub.refl _) hr)) (hb.updO hoi) ?_
  with_reducible refine f_iterRit (upd_same ..) ?_
  refine forW_of (HfI H l it xs S lt) (xs.length / 2)
    ⟨xs, by rw [upd_self hl], by walk_at "v", rfl, hS, Nat.le_refl _, rfl⟩ ?_
  rintro n H' m' ⟨ys, rfl, h1, hlen, hSy, hn, heq⟩
  cases n with
  | zero =>
    with_reducible refine f_nextR0 ?_ (upd_same ..) hoi ?_ ?_
    · exact hh
    · simp
    repeat walk_at "e"
    refine ⟨upd H l (lst ys), del_sub (Sub.upd_new (Sub.refl _) ?_) ?_, hb.upd hl (lst_loose _), rfl, ?_⟩
    · rw [upd_ne (Ne.symm hlit)]; exact hitn
    · rw [upd_ne (Ne.symm hlit)]; exact hitn
    · rw [← heq]; rfl
  | succ n =>
    with_reducible refine f_nextR (upd_same ..) hoi ?_ (fun t5 => ?_)
    · omega
    rw [upd_upd, show ((n + 1 : Nat) : Int) - 1 = (n : Int) by omega, show ((n : Int) + -1) = (n : Int) - 1 by omega]
    repeat walk_at "e"
    have hb1 : Bs c (upd (upd H l (lst ys)) it (rit ((n : Int) - 1) n (-1))) := (hb.upd hl (lst_loose _)).updO hoi
    refine ⟨Callee.fn Fsu hb1, ?_⟩
    have hl3 : upd (upd H l (lst ys)) it (rit ((n : Int) - 1) n (-1)) l = some (lst ys) := by rw [upd_ne hlit, upd_same]
    have hD3 : Sub Dat (upd (upd H l (lst ys)) it (rit ((n : Int) - 1) n (-1))) := by
      refine Sub.upd_new (hD.upd_new hDl) ?_
      cases e : Dat it with
      | none => rfl
      | some P => have := hD _ _ e; rw [hitn] at this; cases this
    refine f_spec hl3 (fun H' hsub => siftup_spec G Fsu (by show A.depth + 1 + 1 < recursionLimit; omega) (by show A.units + 3 + 80 < cLine; omega) hLt (hD3.trans hsub) hDl (hsub _ _ hl3) hSy (by omega) (by omega)) ?_
    rw [upd_comm (Ne.symm hlit), upd_upd]
    repeat walk_at "e"
    refine ⟨n, _, by omega, Sub.refl _, ((hb.upd hl (lst_loose _)).updO hoi), sup lt n ys, rfl, by walk_at "v", by rw [sup_length (by omega), hlen], sup_mem (by omega) hSy, by omega, ?_⟩
    rw [← heq]; rfl
theorem heapify_max_spec {f l : Addr} {xs : List Value} {Dat : HM} {S : Value → Prop} {lt : Value → Value → Bool}
    (G : GF c) (F : FnAt c f 5 .none .none) (hroom : A.depth + 2 < recursionLimit) (hh : A.handled = none) (hu : A.units + 100 < cLine) (hLt : LtOK c Dat S lt) (hD : Sub Dat H) (hDl : Dat l = none)
    (hl : H l = some (lst xs)) (hS : ∀ x ∈ xs, S x) (hz : xs.length < 1000) :
    W c A (call (.ref f) [.ref l]) H (fun v H' => v = .none ∧ H' = upd H l (lst (hfy (fun a b => lt b a) (xs.length / 2) xs))) := by
  obtain ⟨fsu, gsu, Fsu⟩ := G.siftup_max
  obtain ⟨gl1, gl2⟩ := G.len
  obtain ⟨gr1, gr2⟩ := G.range
  obtain ⟨gv1, gv2⟩ := G.reversed
  refine w_callFn (binds := [("x", .ref l)]) G.ok F (by omega) (fun _ _ _ _ _ _ _ => rfl) (locs rfl) (by decide) rfl rfl rfl (fun hb q cd L hL => ?_)
  refine f_cons ?_
  with_reducible refine w_let ?_
  intro _
  repeat walk_at "e"
  refine ⟨Callee.builtin _ _, ?_⟩
  with_reducible refine f_len hl hz (fun t3 => ?_)
  repeat walk_at "e"
  with_reducible refine f_For ?_ ?h1 ?h2
  case h1 => intro _; rfl
  case h2 => intro _ _; rfl
  repeat walk_at "e"
  with_reducible refine f_fdiv ?_ ?_ (fun t4 => ?_)
  · decide
  · exact PyProof.noPylong_small (by decide)
  rw [fdiv2]
  repeat walk_at "e"
  refine ⟨Callee.type _ _, ?_⟩
  with_reducible refine f_range1 (fun r hr hor hrL => ?_)
  repeat walk_at "e"
  refine ⟨Callee.type _ _, ?_⟩
  with_reducible refine f_reversed (upd_same ..) ?_ ?_ (fun it hit hoi hiL => ?_)
  · omega
  · omega
  have hlr : l ≠ r := by rintro rfl; rw [hr] at hl; cases hl
  have hlit : l ≠ it := by rintro rfl; rw [upd_ne hlr] at hit; rw [hit] at hl; cases hl
  have hitn : H it = none := by
    by_cases e : it = r
    · rw [e]; exact hr
    · rw [upd_ne e] at hit; exact hit
  refine f_weak (H' := upd H it (rit (((xs.length / 2 : Nat) : Int) - 1) ((xs.length / 2 : Nat) : Int) (-1))) (Sub.upd_both (Sub.upd_new (Sub.refl _) hr)) (hb.updO hoi) ?_
  with_reducible refine f_iterRit (upd_same ..) ?_
  refine forW_of (HfI H l it xs S (fun a b => lt b a)) (xs.length / 2)
    ⟨xs, by rw [upd_self hl], by walk_at "v", rfl, hS, Nat.le_refl _, rfl⟩ ?_
  rintro n H' m' ⟨ys, rfl, h1, hlen, hSy, hn, heq⟩
  cases n with
  | zero =>
    with_reducible refine f_nextR0 ?_ (upd_same ..) hoi ?_ ?_
    · exact hh
    · simp
    repeat walk_at "e"
    refine ⟨upd H l (lst ys), del_sub (Sub.upd_new (Sub.refl _) ?_) ?_, hb.upd hl (lst_loose _), rfl, ?_⟩
    · rw [upd_ne (Ne.symm hlit)]; exact hitn
    · rw [upd_ne (Ne.symm hlit)]; exact hitn
    · rw [← heq]; rfl
  | succ n =>
    with_reducible refine f_nextR (upd_same ..) hoi ?_ (fun t5 => ?_)
    · omega
    rw [upd_upd, show ((n + 1 : Nat) : Int) - 1 = (n : Int) by omega, show ((n : Int) + -1) = (n : Int) - 1 by omega]
    repeat walk_at "e"
    have hb1 : Bs c (upd (upd H l (lst ys)) it (rit ((n : Int) - 1) n (-1))) := (hb.upd hl (lst_loose _)).updO hoi
    refine ⟨Callee.fn Fsu hb1, ?_⟩
    have hl3 : upd (upd H l (lst ys)) it (rit ((n : Int) - 1) n (-1)) l = some (lst ys) := by rw [upd_ne hlit, upd_same]
    have hD3 : Sub Dat (upd (upd H l (lst ys)) it (rit ((n : Int) - 1) n (-1))) := by
      refine Sub.upd_new (hD.upd_new hDl) ?_
      cases e : Dat it with
      | none => rfl
      | some P => have := hD _ _ e; rw [hitn] at this; cases this
    refine f_spec hl3 (fun H' hsub => siftup_max_spec G Fsu (by show A.depth + 1 + 1 < recursionLimit; omega) (by show A.units + 3 + 80 < cLine; omega) hLt (hD3.trans hsub) hDl (hsub _ _ hl3) hSy (by omega) (by omega)) ?_
    rw [upd_comm (Ne.symm hlit), upd_upd]
    repeat walk_at "e"
    refine ⟨n, _, by omega, Sub.refl _, ((hb.upd hl (lst_loose _)).updO hoi), sup (fun a b => lt b a) n ys, rfl, by walk_at "v", by rw [sup_length (by omega), hlen], sup_mem (by omega) hSy, by omega, ?_⟩
    rw [← heq]; rfl

theorem heapreplace_spec {f l : Addr} {xs : List Value} {v : Value} {Dat : HM} {S : Value → Prop} {lt : Value → Value → Bool}
    (G : GF c) (F : FnAt c f 2 .none .none) (hroom : A.depth + 2 < recursionLimit) (hu : A.units + 100 < cLine) (hLt : LtOK c Dat S lt) (hD : Sub Dat H) (hDl : Dat l = none)
    (hl : H l = some (lst xs)) (hS : ∀ x ∈ xs, S x) (hv : S v) (h0 : 0 < xs.length) (hz : xs.length < 1000) :
    W c A (call (.ref f) [.ref l, v]) H (fun r H' => r = xs.getD 0 .none ∧ H' = upd H l (lst (sup lt 0 (xs.set 0 v)))) := by
  obtain ⟨fsu, gsu, Fsu⟩ := G.siftup
  refine w_callFn (binds := [("heap", .ref l), ("item", v)]) G.ok F (by omega) (fun _ _ _ _ _ _ _ => rfl) (locs rfl) (by decide) rfl rfl rfl (fun hb q cd L hL => ?_)
  refine f_cons ?_
  with_reducible refine w_let ?_
  intro _
  repeat walk_at "e"
  with_reducible refine f_get0 hl h0 ?_ ?hs
  case hs => with_unfolding_all rfl
  repeat walk_at "e"
  with_reducible refine f_set0 hl h0 ?_
  repeat walk_at "e"
  have hl3 : upd H l (lst (xs.set 0 v)) l = some (lst (xs.set 0 v)) := upd_same ..
  refine ⟨Callee.fn Fsu (hb.upd hl (lst_loose _)), ?_⟩
  refine f_spec hl3 (fun H' hsub => siftup_spec (p := 0) G Fsu (by show A.depth + 1 + 1 < recursionLimit; omega) (by show A.units + 3 + 80 < cLine; omega) hLt ((hD.upd_new hDl).trans hsub) hDl (hsub _ _ hl3) (fun y hy => ?_) (by simpa using h0) (by simpa using hz)) ?_
  · rcases List.mem_or_eq_of_mem_set hy with h | h
    · exact hS y h
    · exact h ▸ hv
  rw [upd_upd]
  repeat walk_at "e"
  exact ⟨_, Sub.refl _, hb.upd hl (lst_loose _), rfl, rfl⟩

theorem heapreplace_max_spec {f l : Addr} {xs : List Value} {v : Value} {Dat : HM} {S : Value → Prop} {lt : Value → Value → Bool}
    (G : GF c) (F : FnAt c f 4 .none .none) (hroom : A.depth + 2 < recursionLimit) (hu : A.units + 100 < cLine) (hLt : LtOK c Dat S lt) (hD : Sub Dat H) (hDl : Dat l = none)
    (hl : H l = some (lst xs)) (hS : ∀ x ∈ xs, S x) (hv : S v) (h0 : 0 < xs.length) (hz : xs.length < 1000) :
    W c A (call (.ref f) [.ref l, v]) H (fun r H' => r = xs.getD 0 .none ∧ H' = upd H l (lst (sup (fun a b => lt b a) 0 (xs.set 0 v)))) := by
  obtain ⟨fsu, gsu, Fsu⟩ := G.siftup_max
  refine w_callFn (binds := [("heap", .ref l), ("item", v)]) G.ok F (by omega) (fun _ _ _ _ _ _ _ => rfl) (locs rfl) (by decide) rfl rfl rfl (fun hb q cd L hL => ?_)
  refine f_cons ?_
  with_reducible refine w_let ?_
  intro _
  repeat walk_at "e"
  with_reducible refine f_get0 hl h0 ?_ ?hs
  case hs => with_unfolding_all rfl
  repeat walk_at "e"
  with_reducible refine f_set0 hl h0 ?_
  repeat walk_at "e"
  have hl3 : upd H l (lst (xs.set 0 v)) l = some (lst (xs.set 0 v)) := upd_same ..
  refine ⟨Callee.fn Fsu (hb.upd hl (lst_loose _)), ?_⟩
  refine f_spec hl3 (fun H' hsub => siftup_max_spec (p := 0) G Fsu (by show A.depth + 1 + 1 < recursionLimit; omega) (by show A.units + 3 + 80 < cLine; omega) hLt ((hD.upd_new hDl).trans hsub) hDl (hsub _ _ hl3) (fun y hy => ?_) (by simpa using h0) (by simpa using hz)) ?_
  · rcases List.mem_or_eq_of_mem_set hy with h | h
    · exact hS y h
    · exact h ▸ hv
  rw [upd_upd]
  repeat walk_at "e"
  exact ⟨_, Sub.refl _, hb.upd hl (lst_loose _), rfl, rfl⟩

/-- the mirror of heappop, of a list with a last item -/
noncomputable def hpopR (ys : List Value) (last : Value) : Value := if ys.isEmpty then last else ys.getD 0 .none
noncomputable def hpopL (lt : Value → Value → Bool) (ys : List Value) (last : Value) : List Value := if ys.isEmpty then [] else sup lt 0 (ys.set 0 last)
theorem heappop_spec {f l : Addr} {ys : List Value} {v : Value} {Dat : HM} {S : Value → Prop} {lt : Value → Value → Bool}
    (G : GF c) (F : FnAt c f 1 .none .none) (hroom : A.depth + 2 < recursionLimit) (hu : A.units + 100 < cLine) (hLt : LtOK c Dat S lt) (hD : Sub Dat H) (hDl : Dat l = none)
    (hl : H l = some (lst (ys ++ [v]))) (hS : ∀ x ∈ ys, S x) (hv : S v) (hz : ys.length < 999) :
    W c A (call (.ref f) [.ref l]) H (fun r H' => r = hpopR ys v ∧ H' = upd H l (lst (hpopL lt ys v))) := by
  obtain ⟨fsu, gsu, Fsu⟩ := G.siftup
  refine w_callFn (binds := [("heap", .ref l)]) G.ok F (by omega) (fun _ _ _ _ _ _ _ => rfl) (locs rfl) (by decide) rfl rfl rfl (fun hb q cd L hL => ?_)
  have hl1 : upd H l (lst ys) l = some (lst ys) := upd_same ..
  have hz1 : ys.length < 1000 := by omega
  refine f_cons ?_
  with_reducible refine w_let ?_
  intro _
  repeat walk_at "e"
  with_reducible refine f_methL PySem.F.slot_list_pop PySem.F.type_list_pop hl ?_
  with_reducible refine f_callWith0 (Callee.builtin _ _) ?_
  with_reducible refine f_pop hl hz1 ?_
  repeat walk_at "e"
  with_reducible refine f_If ?_
  with_reducible refine f_tVal ?_ ?he
  case he => rfl
  repeat walk_at "e"
  with_reducible refine f_truthyL hl1 hz1 ?_
  cases hy : ys.isEmpty
  · have h0 : 0 < ys.length := by cases ys <;> simp_all
    simp only [Bool.not_false, if_true]
    repeat walk_at "e"
    with_reducible refine f_get0 hl1 h0 ?_ ?hs
    case hs => with_unfolding_all rfl
    repeat walk_at "e"
    with_reducible refine f_set0 hl1 h0 ?_
    rw [upd_upd]
    repeat walk_at "e"
    have hl3 : upd H l (lst (ys.set 0 v)) l = some (lst (ys.set 0 v)) := upd_same ..
    refine ⟨Callee.fn Fsu (hb.upd hl (lst_loose _)), ?_⟩
    refine f_spec hl3 (fun H' hsub => siftup_spec (p := 0) G Fsu (by show A.depth + 1 + 1 < recursionLimit; omega) (by show A.units + 3 + 80 < cLine; omega) hLt ((hD.upd_new hDl).trans hsub) hDl (hsub _ _ hl3) (fun y hy => ?_) (by simpa using h0) (by simpa using hz1)) ?_
    · rcases List.mem_or_eq_of_mem_set hy with h | h
      · exact hS y h
      · exact h ▸ hv
    rw [upd_upd]
    repeat walk_at "e"
    exact ⟨_, Sub.refl _, hb.upd hl (lst_loose _), by simp [retOf, hpopR, hy], by simp [hpopL, hy]⟩
  · simp only [Bool.not_true, Bool.false_eq_true, if_false]
    repeat walk_at "e"
    have : ys = [] := by cases ys <;> simp_all
    subst this
    exact ⟨_, Sub.refl _, hb.upd hl (lst_loose _), rfl, rfl⟩
end
end
section
/-- the mirror of _deduplicate_unhashable -/
noncomputable def ddp (key : Value → Key) : List Value → List Value → List Value
  | acc, [] => acc
  | acc, x :: xs => if (acc.any fun y => decide (key y = key x)) then ddp key acc xs else ddp key (acc ++ [x]) xs
/-- between the turns of _deduplicate_unhashable -/
inductive DdI (H Dat : HM) (D it l : Addr) (xs : List Value) (key : Value → Key) (n : Nat) (H' : HM) (m' : Loc) : Prop where
  | mk (i : Nat) (acc : List Value) (hk : n = xs.length - i) (hi : i ≤ xs.length) (hH : H' = upd (upd H D (lst acc)) it (lit l i)) (hm : m' "new_unhashable" = some (.ref D)) (hS : ∀ y ∈ acc, PairAt Dat key y) (hl : acc.length ≤ i) (he : ddp key acc (xs.drop i) = ddp key [] xs) : DdI H Dat D it l xs key n H' m'
section
variable {c : Cx} {A : Around} {H : HM}
theorem dedup_spec {f l : Addr} {xs : List Value} {Dat : HM} {key : Value → Key}
    (G : GF c) (F : FnAt c f 14 .none .none) (hroom : A.depth + 2 < recursionLimit) (hh : HandOK A H) (hu : A.units + 100 < cLine) (hD : Sub Dat H)
    (hl : H l = some (lst xs)) (hS : ∀ x ∈ xs, PairAt Dat key x) (hz : xs.length < 900) :
    W c A (call (.ref f) [.ref l]) H (fun v H' => ∃ D, v = .ref D ∧ H D = none ∧ Own c D ∧ H' = upd H D (lst (ddp key [] xs))) := by
  refine w_callFn (binds := [("unhashable_params", .ref l)]) G.ok F (by omega) (fun _ _ _ _ _ _ _ => rfl) (locs rfl) (by decide) rfl rfl rfl (fun hb q cd L hL => ?_)
  refine f_cons ?_
  with_reducible refine w_let ?_
  intro _
  repeat walk_at "e"
  with_reducible refine f_newList ?_ (fun D hDn hDo hDL => ?_)
  · decide
  repeat walk_at "e"
  with_reducible refine f_For ?_ ?h1 ?h2
  case h1 => intro _; rfl
  case h2 => intro _ _; rfl
  repeat walk_at "e"
  have hlD : l ≠ D := by rintro rfl; rw [hDn] at hl; cases hl
  have hl1 : ∀ a, upd H D (lst a) l = some (lst xs) := fun a => by rw [upd_ne hlD]; exact hl
  with_reducible refine f_iterL (hl1 _) (fun it hit hito hitL => ?_)
  have hiD : it ≠ D := by rintro rfl; rw [upd_same] at hit; cases hit
  have hiH : H it = none := by rw [upd_ne hiD] at hit; exact hit
  have hli : l ≠ it := by rintro rfl; rw [hiH] at hl; cases hl
  have hDat : ∀ a i, Sub Dat (upd (upd H D (lst a)) it (lit l i)) := fun a i => by
    have e1 : Dat D = none := by cases e : Dat D with | none => rfl | some P => have := hD _ _ e; rw [hDn] at this; cases this
    have e2 : Dat it = none := by cases e : Dat it with | none => rfl | some P => have := hD _ _ e; rw [hiH] at this; cases this
    exact (hD.upd_new e1).upd_new e2
  have hH : ∀ a i, Sub H (upd (upd H D (lst a)) it (lit l i)) := fun a i => (Sub.upd_new (Sub.refl _) hDn).upd_new hiH
  refine forW_of (DdI H Dat D it l xs key) (xs.length - 0)
    ⟨0, [], rfl, Nat.zero_le _, rfl, by walk_at "v", fun y hy => (by cases hy), Nat.le_refl _, rfl⟩ ?_
  rintro n H' m' ⟨i, acc, rfl, hi, rfl, h1, hacc, hal, heq⟩
  by_cases hlt : i < xs.length
  · have hx : xs[i]? = some xs[i] := by simp [hlt]
    have hl2 : upd (upd H D (lst acc)) it (lit l i) l = some (lst xs) := by rw [upd_ne hli]; exact hl1 _
    with_reducible refine f_nextL (upd_same ..) hito hl2 hx ?_
    rw [upd_upd]
    repeat walk_at "e"
    with_reducible refine f_If ?_
    repeat walk_at "e"
    have hxS : PairAt Dat key xs[i] := hS _ (List.getElem_mem hlt)
    have hD2 : upd (upd H D (lst acc)) it (lit l (i + 1)) D = some (lst acc) := by rw [upd_ne (Ne.symm hiD), upd_same]
    with_reducible refine f_notIn ?_ (hDat _ _) hD2 hacc hxS ?_
    · show A.units + 3 + 1 < cLine; omega
    refine ⟨_, rfl, ?_⟩
    have hdrop : xs.drop i = xs[i] :: xs.drop (i + 1) := List.drop_eq_getElem_cons hlt
    rw [hdrop, ddp] at heq
    cases hany : (acc.any fun y => decide (key y = key xs[i]))
    · simp only [hany, Bool.false_eq_true, if_false] at heq
      simp only [Bool.not_false, if_true]
      repeat walk_at "e"
      with_reducible refine f_methL PySem.F.slot_list_append PySem.F.type_list_append hD2 ?_
      with_reducible refine f_callWithM ?_ ?k1 ?k2
      case k1 => rfl
      case k2 => rfl
      repeat walk_at "e"
      refine ⟨Callee.builtin _ _, ?_⟩
      with_reducible refine f_append hD2 ?_ ?_
      · omega
      rw [upd_comm hiD, upd_upd]
      repeat walk_at "e"
      refine ⟨xs.length - (i + 1), _, by omega, Sub.refl _, (hb.new hDn).updO hito, i + 1, acc ++ [xs[i]], rfl, hlt, rfl, by walk_at "v", fun y hy => ?_, by simp; omega, heq⟩
      rcases List.mem_append.mp hy with h | h
      · exact hacc y h
      · rw [List.mem_singleton.mp h]; exact hxS
    · simp only [hany, if_true] at heq
      simp only [Bool.not_true, Bool.false_eq_true, if_false]
      repeat walk_at "e"
      exact ⟨xs.length - (i + 1), _, by omega, Sub.refl _, (hb.new hDn).updO hito, i + 1, acc, rfl, hlt, rfl, by walk_at "v", hacc, by omega, heq⟩
  · have hie : i = xs.length := by omega
    have hl2 : upd (upd H D (lst acc)) it (lit l i) l = some (lst xs) := by rw [upd_ne hli]; exact hl1 _
    with_reducible refine f_nextL0H (HandOK.mono ?_ (hH _ _)) (upd_same ..) hito hl2 ?_ ?_
    · exact hh
    · omega
    repeat walk_at "e"
    have e : ddp key [] xs = acc := by rw [← heq, hie, List.drop_length]; rfl
    refine ⟨upd H D (lst acc), del_sub (Sub.upd_new (Sub.refl _) ?_) ?_, hb.new hDn, D, rfl, hDn, hDo, by rw [e]⟩
    · rw [upd_ne hiD]; exact hiH
    · rw [upd_ne hiD]; exact hiH
end
end
section
section
variable {c : Cx} {A : Around} {H : HM}
theorem very_spec {f l l' : Addr} {xs : List Value}
    (G : GF c) (F : FnAt c f 19 .none .none) (hroom : A.depth + 2 < recursionLimit) (hh : A.handled = none) (hu : A.units + 100 < cLine)
    (hl : H l = some (lst xs)) (hl' : H l' = some (lst xs)) (hS : ∀ x ∈ xs, ∃ a, x = .ref a) (hz : xs.length < 900) :
    W c A (call (.ref f) [.ref l, .ref l']) H (fun v H' => v = .bool true ∧ H' = H) := by
  obtain ⟨gl1, gl2⟩ := G.len
  obtain ⟨gr1, gr2⟩ := G.range
  refine w_callFnC (binds := [("told", .ref l), ("due", .ref l')]) G.ok F (by omega) (fun _ _ _ _ _ _ _ => rfl) rfl (fun L => ⟨rfl, rfl, trivial⟩) rfl rfl rfl (fun hb q cd L hL => ?_)
  have hcells : addCells H (bindC (envC 19 q cd f L).kindOf [("told", .ref l), ("due", .ref l')] fun _ => none) (envC 19 q cd f L).cells = upd (upd H (L + 1) (isCell (some (.ref l)))) (L + 1 + 1) (isCell (some (.ref l'))) := rfl
  rw [hcells]
  obtain ⟨H1, hH1, hsub, hc1, hc2, hb1, hH1L, _, _⟩ := cells2 (isCell (some (.ref l))) (isCell (some (.ref l'))) hL hb
  rw [hH1]
  have hl1 := hsub _ _ hl
  have hl1' := hsub _ _ hl'
  have hz1 : xs.length < 1000 := by omega
  clear hH1 hcells
  refine f_cons ?_
  with_reducible refine w_let ?_
  intro _
  repeat walk_at "e"
  with_reducible refine f_And ?_
  with_reducible refine f_Compare ?_ ?hm
  case hm => with_unfolding_all rfl
  repeat walk_at "e"
  refine ⟨Callee.builtin _ _, ?_⟩
  with_reducible refine f_len hl1 hz1 (fun t3 => ?_)
  repeat walk_at "e"
  refine ⟨Callee.builtin _ _, ?_⟩
  with_reducible refine f_len hl1' hz1 (fun t4 => ?_)
  with_reducible refine f_eq ?_
  with_reducible refine f_truthyB ?_
  simp only [beq_self_eq_true, if_true]
  with_reducible refine f_Compare ?_ ?hm
  case hm => with_unfolding_all rfl
  with_reducible refine f_Comp (cl := [("told", L + 1), ("due", L + 1 + 1)]) ?_ ?k1 ?k2 ?k3 ?k4 ?k5
  case k1 => rfl
  case k2 => decide
  case k3 => rfl
  case k4 => decide
  case k5 => intro _; rfl
  repeat walk_at "e"
  refine ⟨Callee.builtin _ _, ?_⟩
  with_reducible refine f_len hl1' hz1 (fun t5 => ?_)
  repeat walk_at "e"
  refine ⟨Callee.type _ _, ?_⟩
  with_reducible refine f_range1 (fun r hr hro hrL => ?_)
  with_reducible refine f_iterR (upd_same ..) ?_ ?_ ?_ (fun it hit hito hitL => ?_)
  · omega
  · omega
  · omega
  have hitr : it ≠ r := by rintro rfl; rw [upd_same] at hit; cases hit
  have hit1 : H1 it = none := by rw [upd_ne hitr] at hit; exact hit
  refine compW_pure (H := upd (upd H1 r (rng 0 xs.length 1)) it (rit 0 (xs.length - 0) 1)) (n := xs.length) (Src := H1) (iter_range (a := 0) hito hit1 ?_) (by omega) ?_ ?_ ?_ (fun _ => false) (fun _ => .none) rfl rfl ?_ ?_
  · exact hh
  · rw [upd_ne (Ne.symm hitL), upd_ne (Ne.symm hrL)]; exact hH1L
  · rw [upd_same]; simp
  · exact Sub.upd_new (Sub.upd_new (Sub.refl _) hr) hit1
  · intro C i v Hc mc hi hv hmc hsubc hC
    obtain ⟨tv, rfl⟩ := hv
    have hs1 : Sub H1 Hc := (del_sub (Sub.upd_new (Sub.upd_new (Sub.upd_new (Sub.refl _) hr) hit1) hH1L) hit1).trans hsubc
    have d1 := hs1 _ _ hc1
    have d2 := hs1 _ _ hc2
    have d3 := hs1 _ _ hl1
    have d4 := hs1 _ _ hl1'
    rw [Int.zero_add] at hmc
    with_reducible refine f_tests1 ?_
    repeat walk_at "e"
    with_reducible refine f_getN d3 hi hz1 ?_ ?hs
    case hs => with_unfolding_all rfl
    repeat walk_at "e"
    with_reducible refine f_getN d4 hi hz1 ?_ ?hs
    case hs => with_unfolding_all rfl
    obtain ⟨a, ha⟩ := hS (xs.getD i .none) (by simp [hi])
    rw [ha]
    with_reducible refine f_isNotSelf ⟨_, rfl, ?_⟩
    exact ⟨rfl, Sub.refl _, fun h => by cases h⟩
  · intro D hD hDo hDL
    have hfil : ((List.range xs.length).filter (fun _ => false)).map (fun _ => Value.none) = [] := by simp
    rw [hfil]
    have hD1 : H1 D = none := (Sub.upd_new (Sub.upd_new (Sub.refl _) hr) hit1).none_of hD
    repeat walk_at "e"
    with_reducible refine f_newList ?_ (fun E hE hEo hEL => ?_)
    · decide
    have hED : D ≠ E := by rintro rfl; rw [upd_same] at hE; cases hE
    refine f_eqP (Dat := fun _ => none) (key := fun _ => (0, 0)) ?_ (fun _ _ h => by cases h) (by rw [upd_ne hED, upd_same]) (upd_same ..) (fun _ h => by cases h) (fun _ h => by cases h) ?_
    · show A.units + 3 + 1 < cLine; omega
    refine ⟨H, ?_, hb, rfl, rfl⟩
    refine hsub.trans (Sub.upd_new (Sub.upd_new (del_sub (Sub.upd_new (Sub.upd_new (Sub.refl _) hr) hit1) hit1) hD1) ?_)
    exact (Sub.upd_new (del_sub (Sub.upd_new (Sub.upd_new (Sub.refl _) hr) hit1) hit1) hD1).none_of hE
end
end
section
/-- the mirror of _law_sorted -/
noncomputable def lins (le : Value → Value → Bool) (acc : List Value) (x : Value) : List Value :=
  acc.take (acc.filter fun y => le y x).length ++ [x] ++ acc.drop (acc.filter fun y => le y x).length
noncomputable def lsorted (le : Value → Value → Bool) (acc row : List Value) : List Value := row.foldl (lins le) acc
theorem lins_length (le : Value → Value → Bool) (acc : List Value) (x : Value) : (lins le acc x).length = acc.length + 1 := by
  have := List.length_filter_le (fun y => le y x) acc
  simp [lins]; omega
theorem lins_mem {le : Value → Value → Bool} {acc : List Value} {x y : Value} (h : y ∈ lins le acc x) : y = x ∨ y ∈ acc := by
  simp only [lins, List.mem_append, List.mem_singleton] at h
  rcases h with (h | h) | h
  · exact .inr (List.mem_of_mem_take h)
  · exact .inl h
  · exact .inr (List.mem_of_mem_drop h)

/-- a callable that reads its argument's mark, and how marks are compared -/
structure MarkOK (c : Cx) (fm : Value) (Dat : HM) (S : Value → Prop) (R : Value → Value → Prop) (le : Value → Value → Bool) : Prop where
  callee : ∀ H', Sub Dat H' → Callee H' fm
  call : ∀ (A : Around) (H' : HM) (v : Value), A.depth + 2 < recursionLimit → A.units + 20 < cLine → Sub Dat H' → S v → W c A (call fm [v]) H' (fun r H'' => R v r ∧ H'' = H')
  le : ∀ (A : Around) (L : Addr) (H' : HM) (m : Loc) (v w r r' : Value) (Q : Value → HM → Loc → Prop), A.units + 20 < cLine → Sub Dat H' → S v → S w → R v r → R w r' → Q (.bool (le v w)) H' m → WF c A L (compareOp .LtE r r') H' m Q
/-- between the turns of _law_sorted -/
inductive LsI (c : Cx) (H1 : HM) (l it L : Addr) (xs : List Value) (S : Value → Prop) (le : Value → Value → Bool) (n : Nat) (H' : HM) (m' : Loc) : Prop where
  | mk (i : Nat) (D : Addr) (acc : List Value) (o : Option Value) (hk : n = xs.length - i) (hi : i ≤ xs.length) (hD : upd H1 (L + 1 + 1) (isCell o) D = none) (ho : Own c D) (h1 : it ≠ D) (h2 : D ≠ L) (hH : H' = upd (upd (upd H1 (L + 1 + 1) (isCell o)) D (lst acc)) it (lit l i))
    (hm : m' "told" = some (.ref D)) (hl : acc.length = i) (hS : ∀ y ∈ acc, S y) (he : lsorted le acc (xs.drop i) = lsorted le [] xs) : LsI c H1 l it L xs S le n H' m'
section
variable {c : Cx} {A : Around} {H : HM} {L : Addr} {m : Loc}
theorem f_specR {t : Sem Value} {R : Value → Prop} {Q : Value → HM → Loc → Prop} (h : ∀ H', Sub H H' → W c A t H' (fun r H'' => R r ∧ H'' = H')) (hQ : ∀ r, R r → Q r H m) : WF c A L t H m Q :=
  f_of_W fun hL => w_mono (h _ (Sub.upd_new (Sub.refl H) hL)) fun v H'' ⟨e1, e2⟩ => ⟨H, m, e2, hL, hQ v e1⟩
theorem sorted_spec {f l : Addr} {fm : Value} {xs : List Value} {Dat : HM} {S : Value → Prop} {R : Value → Value → Prop} {le : Value → Value → Bool}
    (G : GF c) (F : FnAt c f 17 .none .none) (hroom : A.depth + 5 < recursionLimit) (hh : A.handled = none) (hu : A.units + 100 < cLine) (hD : Sub Dat H) (K : MarkOK c fm Dat S R le)
    (hl : H l = some (lst xs)) (hS : ∀ x ∈ xs, S x) (hz : xs.length < 400) :
    W c A (call (.ref f) [.ref l, fm]) H (fun v H' => ∃ D, v = .ref D ∧ H D = none ∧ Own c D ∧ H' = upd H D (lst (lsorted le [] xs))) := by
  obtain ⟨gl1, gl2⟩ := G.len
  refine w_callFnC (binds := [("row", .ref l), ("mark", fm)]) G.ok F (by omega) (fun _ _ _ _ _ _ _ => rfl) rfl (fun L => ⟨rfl, rfl, trivial⟩) rfl rfl rfl (fun hb q cd L hL => ?_)
  have hcells : addCells H (bindC (envC 17 q cd f L).kindOf [("row", .ref l), ("mark", fm)] fun _ => none) (envC 17 q cd f L).cells = upd (upd H (L + 1) (isCell (some fm))) (L + 1 + 1) (isCell none) := rfl
  rw [hcells]
  obtain ⟨H1, hH1, hsub, hc1, hc2, hb1, hH1L, co1, co2⟩ := cells2 (isCell (some fm)) (isCell none) hL hb
  rw [hH1]
  have hl1 := hsub _ _ hl
  refine f_cons ?_
  with_reducible refine w_let ?_
  intro _
  repeat walk_at "e"
  with_reducible refine f_newList ?_ (fun D hDn hDo hDL => ?_)
  · decide
  repeat walk_at "e"
  with_reducible refine f_For ?_ ?h1 ?h2
  case h1 => intro _; rfl
  case h2 => intro _ _; rfl
  repeat walk_at "e"
  have hlD : l ≠ D := by rintro rfl; rw [hDn] at hl1; cases hl1
  with_reducible refine f_iterL ((upd_ne hlD).trans hl1) (fun it hit hito hitL => ?_)
  have hitD : it ≠ D := by rintro rfl; rw [upd_same] at hit; cases hit
  have hit1 : H1 it = none := by rw [upd_ne hitD] at hit; exact hit
  have hcc : L + 1 + 1 ≠ it := by intro e; rw [e, hit1] at hc2; cases hc2
  have hccl : L + 1 + 1 ≠ l := by rintro rfl; rw [hl1] at hc2; have := Option.some.inj hc2; exact absurd (congrFun this { cls := .type "list", data := .seq xs.toArray 0 }) (by simp [lst, isCell])
  -- what stands throughout
  have hbase : ∀ (o : Option Value), Sub H (upd H1 (L + 1 + 1) (isCell o)) := fun o => by rw [← hH1, upd_upd]; exact Sub.upd_new (Sub.upd_new (Sub.refl _) (hL _ (Nat.le_add_right L 1)).1) (hL _ (Nat.le_add_right L 2)).1
  have hc1' : ∀ (o : Option Value), upd H1 (L + 1 + 1) (isCell o) (L + 1) = some (isCell (some fm)) := fun o => by rw [upd_ne (Nat.ne_of_lt (Nat.lt_succ_self _))]; exact hc1
  have hLn : ∀ (o : Option Value), upd H1 (L + 1 + 1) (isCell o) L = none := fun o => by rw [upd_ne (Nat.ne_of_lt (Nat.lt_succ_of_lt (Nat.lt_succ_self _)))]; exact hH1L
  have hbc : ∀ (o : Option Value), Bs c (upd H1 (L + 1 + 1) (isCell o)) := fun o => hb1.updO co2
  refine forW_of (LsI c H1 l it L xs S le) (xs.length - 0)
    ⟨0, D, [], none, rfl, Nat.zero_le _, ?_, hDo, hitD, hDL, ?_, by walk_at "v", rfl, fun y hy => (by cases hy), rfl⟩ ?_
  · rw [upd_self hc2]; exact hDn
  · rw [upd_self hc2]
  rintro n H' m' ⟨i, D, acc, o, rfl, hi, hDn, hDo, hitD, hDL, rfl, h1, hlen, hacc, heq⟩
  have hccD : L + 1 + 1 ≠ D := by rintro rfl; rw [upd_same] at hDn; cases hDn
  have hHD : H D = none := (hbase o).none_of hDn
  have hHit : H it = none := hsub.none_of hit1
  have hsx : ∀ o acc j, Sub (upd H1 (L + 1 + 1) (isCell o)) (upd (upd (upd H1 (L + 1 + 1) (isCell o)) D (lst acc)) it (lit l j)) := fun o' acc j => by
    have e1 : upd H1 (L + 1 + 1) (isCell o') D = none := by rw [upd_ne (Ne.symm hccD)] at hDn ⊢; exact hDn
    have e2 : upd H1 (L + 1 + 1) (isCell o') it = none := by rw [upd_ne (Ne.symm hcc)]; exact hit1
    exact Sub.upd_new (Sub.upd_new (Sub.refl _) e1) e2
  have hbx : ∀ o acc j, Bs c (upd (upd (upd H1 (L + 1 + 1) (isCell o)) D (lst acc)) it (lit l j)) := fun o' acc j => ((hbc _).updO hDo).updO hito
  by_cases hlt : i < xs.length
  · have hx : xs[i]? = some xs[i] := by simp [hlt]
    have hxS : S xs[i] := hS _ (List.getElem_mem hlt)
    have hlx : upd (upd (upd H1 (L + 1 + 1) (isCell o)) D (lst acc)) it (lit l i) l = some (lst xs) := hsx _ _ _ _ _ (hbase o _ _ hl)
    with_reducible refine f_nextL (upd_same ..) hito hlx hx ?_
    rw [upd_upd]
    repeat walk_at "e"
    rw [upd_comm (Ne.symm hcc), upd_comm (Ne.symm hccD), upd_upd]
    have hD2 : upd (upd (upd H1 (L + 1 + 1) (isCell (some xs[i]))) D (lst acc)) it (lit l (i + 1)) D = some (lst acc) := by rw [upd_ne (Ne.symm hitD), upd_same]
    have hit2 : upd (upd (upd H1 (L + 1 + 1) (isCell (some xs[i]))) D (lst acc)) it (lit l (i + 1)) it = some (lit l (i + 1)) := upd_same ..
    have hcx := hsx (some xs[i]) acc (i + 1) _ _ (upd_same H1 (L + 1 + 1) (isCell (some xs[i])))
    have hc1x := hsx (some xs[i]) acc (i + 1) _ _ (hc1' _)
    have hLx : upd (upd (upd H1 (L + 1 + 1) (isCell (some xs[i]))) D (lst acc)) it (lit l (i + 1)) L = none := by rw [upd_ne (Ne.symm hitL), upd_ne (Ne.symm hDL)]; exact hLn _
    have hsx' := hsx (some xs[i]) acc (i + 1)
    have hbx' := hbx (some xs[i]) acc (i + 1)
    have hDat : Sub Dat (upd (upd (upd H1 (L + 1 + 1) (isCell (some xs[i]))) D (lst acc)) it (lit l (i + 1))) := hD.trans ((hbase _).trans hsx')
    generalize upd (upd (upd H1 (L + 1 + 1) (isCell (some xs[i]))) D (lst acc)) it (lit l (i + 1)) = Hx at *
    repeat walk_at "e"
    with_reducible refine f_Comp (cl := [("one", L + 1 + 1), ("mark", L + 1)]) ?_ ?k1 ?k2 ?k3 ?k4 ?k5
    case k1 => rfl
    case k2 => decide
    case k3 => rfl
    case k4 => decide
    case k5 => intro _; rfl
    repeat walk_at "e"
    with_reducible refine f_iterL hD2 (fun j hj hjo hjL => ?_)
    obtain ⟨H2, e2, s2, d2⟩ := abst (lit D 0) hj
    rw [e2]
    refine compW_pure (n := acc.length) (Src := Hx) (iter_list hjo hj (.inl hh) hD2) (by omega) ?_ d2 s2 (fun k => le (acc.getD k .none) xs[i]) (fun k => acc.getD k .none) rfl rfl ?_ ?_
    · rw [← e2, upd_ne (Ne.symm hjL)]; exact hLx
    · intro C k v Hc mc hk hv hmc hsubc hC
      have hsc : Sub Hx Hc := (del_sub (Sub.upd_new s2 hLx) hj).trans hsubc
      have hvk : v = acc.getD k .none := by simp [hv]
      subst hvk
      have hvS : S (acc.getD k .none) := hacc _ (by simp [hk])
      have g1 := hsc _ _ hcx
      have g2 := hsc _ _ hc1x
      with_reducible refine f_tests1 ?_
      repeat walk_at "e"
      refine ⟨K.callee _ (hDat.trans hsc), ?_⟩
      refine f_specR (fun H' hs' => K.call _ H' _ (by show A.depth + 1 + 2 < recursionLimit; omega) (by show A.units + 3 + 20 < cLine; omega) ((hDat.trans hsc).trans hs') hvS) (fun r hr => ?_)
      repeat walk_at "e"
      refine ⟨K.callee _ (hDat.trans hsc), ?_⟩
      refine f_specR (fun H' hs' => K.call _ H' _ (by show A.depth + 1 + 2 < recursionLimit; omega) (by show A.units + 3 + 20 < cLine; omega) ((hDat.trans hsc).trans hs') hxS) (fun r' hr' => ?_)
      refine K.le _ _ _ _ _ _ _ _ _ (by show A.units + 3 + 20 < cLine; omega) (hDat.trans hsc) hvS hxS hr hr' ⟨_, rfl, rfl, Sub.refl _, fun _ => ?_⟩
      repeat walk_at "e"
      exact ⟨rfl, Sub.refl _⟩
    · intro E hE hEo hEL
      rw [range_filter (fun y => le y xs[i]) acc]
      have hEx : Hx E = none := s2.none_of hE
      have s3 : Sub Hx (upd (del H2 j) E (lst (acc.filter fun y => le y xs[i]))) := Sub.upd_new (del_sub s2 hj) hEx
      have hflen := List.length_filter_le (fun y => le y xs[i]) acc
      have dE : upd (del H2 j) E (lst (acc.filter fun y => le y xs[i])) E = some (lst (acc.filter fun y => le y xs[i])) := upd_same ..
      have b3 : Bs c (upd (del H2 j) E (lst (acc.filter fun y => le y xs[i]))) := hbx'.sub_of s3
      have L3 : upd (del H2 j) E (lst (acc.filter fun y => le y xs[i])) L = none := by rw [upd_ne (Ne.symm hEL), del_ne (Ne.symm hjL), ← e2, upd_ne (Ne.symm hjL)]; exact hLx
      generalize upd (del H2 j) E (lst (acc.filter fun y => le y xs[i])) = H3 at *
      repeat walk_at "e"
      refine ⟨Callee.builtin _ _, ?_⟩
      with_reducible refine f_len dE ?_ (fun t3 => ?_)
      · omega
      generalize hpl : (acc.filter fun y => le y xs[i]).length = pl at *
      have hD3 := s3 _ _ hD2
      repeat walk_at "e"
      intro sl hsl hslo hslL
      obtain ⟨H4, e4, s4, d4⟩ := abst (slc .none (.int (pl : Nat) t3) .none) hsl
      rw [e4]
      refine f_cut (s4 _ _ hD3) d4 (by omega) .none (.int _ _) .none (by simp) (pick_upto acc pl) (fun D1 h1 h2 h3 => ?_) (by with_unfolding_all rfl)
      obtain ⟨H5, e5, s5, d5⟩ := abst (lst (acc.take pl)) h1
      rw [e5]
      have g1 := s5 _ _ (s4 _ _ (s3 _ _ hcx))
      repeat walk_at "e"
      with_reducible refine f_newList ?_ (fun D2 h4 h5 h6 => ?_)
      · simp
      obtain ⟨H6, e6, s6, d6⟩ := abst (lst [xs[i]]) h4
      rw [e6]
      refine f_addL (s6 _ _ d5) d6 (by simp; omega) (by simp) (fun D3 h7 h8 h9 => ?_)
      obtain ⟨H7, e7, s7, d7⟩ := abst (lst (acc.take pl ++ [xs[i]])) h7
      rw [e7]
      repeat walk_at "e"
      intro sl2 hsl2 hslo2 hslL2
      obtain ⟨H8, e8, s8, d8⟩ := abst (slc (.int (pl : Nat) t3) .none .none) hsl2
      rw [e8]
      refine f_cut (s8 _ _ (s7 _ _ (s6 _ _ (s5 _ _ (s4 _ _ hD3))))) d8 (by omega) (.int _ _) .none .none (by simp) (pick_from acc pl) (fun D4 h10 h11 h12 => ?_) (by with_unfolding_all rfl)
      obtain ⟨H9, e9, s9, d9⟩ := abst (lst (acc.drop pl)) h10
      rw [e9]
      refine f_addL (s9 _ _ (s8 _ _ d7)) d9 (by simp; omega) (by simp; omega) (fun D5 h13 h14 h15 => ?_)
      obtain ⟨H10, e10, s10, d10⟩ := abst (lst (acc.take pl ++ [xs[i]] ++ acc.drop pl)) h13
      rw [e10]
      have sAll : Sub Hx H10 := s3.trans (s4.trans (s5.trans (s6.trans (s7.trans (s8.trans (s9.trans s10))))))
      have sAll' : Sub Hx H9 := s3.trans (s4.trans (s5.trans (s6.trans (s7.trans (s8.trans s9)))))
      have hD5n := (hsx'.trans sAll').none_of h13
      have hit5 : it ≠ D5 := sAll'.ne_of hit2 h13
      repeat walk_at "e"
      have hins : acc.take pl ++ [xs[i]] ++ acc.drop pl = lins le acc xs[i] := by rw [lins, hpl]
      refine ⟨xs.length - (i + 1), upd (upd (upd H1 (L + 1 + 1) (isCell (some xs[i]))) D5 (lst (lins le acc xs[i]))) it (lit l (i + 1)), by omega, Sub.put (Sub.put (hsx'.trans sAll) (hins ▸ d10)) (sAll _ _ hit2), ((hbc _).updO h14).updO hito,
        i + 1, D5, lins le acc xs[i], some xs[i], rfl, hlt, hD5n, h14, hit5, h15, rfl, by walk_at "v", by rw [lins_length, hlen], fun y hy => ?_, ?_⟩
      · rcases lins_mem hy with h | h
        · exact h ▸ hxS
        · exact hacc y h
      · rw [← heq, List.drop_eq_getElem_cons hlt]; rfl
  · have hie : i = xs.length := by omega
    have hlx : upd (upd (upd H1 (L + 1 + 1) (isCell o)) D (lst acc)) it (lit l i) l = some (lst xs) := hsx _ _ _ _ _ (hbase o _ _ hl)
    with_reducible refine f_nextL0 ?_ (upd_same ..) hito hlx ?_ ?_
    · exact hh
    · omega
    repeat walk_at "e"
    have e : lsorted le [] xs = acc := by rw [← heq, hie, List.drop_length]; rfl
    refine ⟨upd H D (lst acc), del_sub (Sub.upd_new (Sub.upd_both (hbase o)) ?_) ?_, hb.new hHD, D, rfl, hHD, hDo, by rw [e]⟩
    · rw [upd_ne hitD]; exact hHit
    · rw [upd_ne hitD]; exact hHit
end
end
section
/-- the mirror of the removals -/
noncomputable def rmAll (key : Value → Key) : List Value → List Value → Option (List Value)
  | t, [] => some t
  | t, x :: r => if (t.findIdx? fun y => decide (key y = key x)).isSome then rmAll key (t.eraseP fun y => decide (key y = key x)) r else none
theorem ddp_mem {key : Value → Key} {y : Value} : ∀ {xs acc : List Value}, y ∈ ddp key acc xs → y ∈ acc ∨ y ∈ xs
  | [], acc, h => .inl h
  | x :: xs, acc, h => by
    rw [ddp] at h
    split at h
    · exact (ddp_mem h).imp id (List.mem_cons_of_mem _)
    · rcases ddp_mem h with h | h
      · rcases List.mem_append.mp h with h | h
        · exact .inl h
        · rw [List.mem_singleton.mp h]; exact .inr List.mem_cons_self
      · exact .inr (List.mem_cons_of_mem _ h)
theorem ddp_length {key : Value → Key} : ∀ (xs acc : List Value), (ddp key acc xs).length ≤ acc.length + xs.length
  | [], acc => by simp [ddp]
  | x :: xs, acc => by
    rw [ddp]
    split
    · have := ddp_length (key := key) xs acc; simp; omega
    · have := ddp_length (key := key) xs (acc ++ [x]); simp at this ⊢; omega
/-- between the turns of _compare_args_orderless -/
inductive RmI (H2 Dat : HM) (T it D1 : Addr) (key : Value → Key) (ds : List Value) (r : List Value) (n : Nat) (H' : HM) (m' : Loc) : Prop where
  | mk (i : Nat) (t : List Value) (hk : n = ds.length - i) (hi : i ≤ ds.length) (hH : H' = upd (upd H2 T (lst t)) it (lit D1 i)) (hm : m' "t" = some (.ref T)) (hS : ∀ y ∈ t, PairAt Dat key y) (hl : t.length ≤ 400) (he : rmAll key t (ds.drop i) = some r) : RmI H2 Dat T it D1 key ds r n H' m'
section
variable {c : Cx} {A : Around} {H : HM}
theorem orderless_spec {f l l' : Addr} {xs ys r : List Value} {Dat : HM} {key : Value → Key}
    (G : GF c) (F : FnAt c f 15 .none .none) (hroom : A.depth + 5 < recursionLimit) (hh : A.handled = none) (hu : A.units + 200 < cLine) (hD : Sub Dat H)
    (hl : H l = some (lst xs)) (hl' : H l' = some (lst ys)) (hS : ∀ x ∈ xs, PairAt Dat key x) (hS' : ∀ x ∈ ys, PairAt Dat key x) (hz : xs.length < 400) (hz' : ys.length < 400) (hr : rmAll key (ddp key [] ys) (ddp key [] xs) = some r) :
    W c A (call (.ref f) [.ref l, .ref l']) H (fun v H' => v = .bool r.isEmpty ∧ H' = H) := by
  obtain ⟨fdd, gdd, Fdd⟩ := G.dedup
  obtain ⟨gl1, gl2⟩ := G.list
  have hfx := ddp_length (key := key) xs []
  have hfy := ddp_length (key := key) ys []
  simp only [List.length_nil, Nat.zero_add] at hfx hfy
  have hmx : ∀ y ∈ ddp key [] xs, PairAt Dat key y := fun y hy => hS y ((ddp_mem hy).resolve_left (by simp))
  have hmy : ∀ y ∈ ddp key [] ys, PairAt Dat key y := fun y hy => hS' y ((ddp_mem hy).resolve_left (by simp))
  refine w_callFn (binds := [("first_args", .ref l), ("second_args", .ref l')]) G.ok F (by omega) (fun _ _ _ _ _ _ _ => rfl) (locs rfl) (by decide) rfl rfl rfl (fun hb q cd L hL => ?_)
  refine f_cons ?_
  with_reducible refine w_let ?_
  intro _
  repeat walk_at "e"
  refine ⟨Callee.fn Fdd hb, ?_⟩
  refine f_specN (fun H' hs => dedup_spec G Fdd (by show A.depth + 1 + 2 < recursionLimit; omega) (.inl hh) (by show A.units + 3 + 100 < cLine; omega) (hD.trans hs) (hs _ _ hl) hS (by omega)) (fun D1 h1 h2 h3 => ?_)
  obtain ⟨H1, e1, s1, d1⟩ := abst (lst (ddp key [] xs)) h1
  rw [e1]
  repeat walk_at "e"
  refine ⟨Callee.fn Fdd (hb.sub_of s1), ?_⟩
  refine f_specN (fun H' hs => dedup_spec G Fdd (by show A.depth + 1 + 2 < recursionLimit; omega) (.inl hh) (by show A.units + 3 + 100 < cLine; omega) (hD.trans (s1.trans hs)) (hs _ _ (s1 _ _ hl')) hS' (by omega)) (fun D2 h4 h5 h6 => ?_)
  obtain ⟨H2, e2, s2, d2⟩ := abst (lst (ddp key [] ys)) h4
  rw [e2]
  repeat walk_at "e"
  refine ⟨Callee.type _ _, ?_⟩
  with_reducible refine f_listCopy d2 ?_ (fun T hT hTo hTL => ?_)
  · omega
  repeat walk_at "e"
  have hTH : H T = none := (s1.trans s2).none_of hT
  have hD2 : Sub Dat H2 := hD.trans (s1.trans s2)
  have hb2 : Bs c H2 := hb.sub_of (s1.trans s2)
  with_reducible refine f_Try ?_
  repeat walk_at "e"
  with_reducible refine f_For ?_ ?h1 ?h2
  case h1 => intro _; rfl
  case h2 => intro _ _; rfl
  repeat walk_at "e"
  have hD1T : D1 ≠ T := by rintro rfl; rw [s2 _ _ d1] at hT; cases hT
  have hD1x := s2 _ _ d1
  with_reducible refine f_iterL ((upd_ne hD1T).trans hD1x) (fun it hit hito hitL => ?_)
  have hitT : it ≠ T := by rintro rfl; rw [upd_same] at hit; cases hit
  have hit2 : H2 it = none := by rw [upd_ne hitT] at hit; exact hit
  refine forW_of (RmI H2 Dat T it D1 key (ddp key [] xs) r) ((ddp key [] xs).length - 0)
    ⟨0, ddp key [] ys, rfl, Nat.zero_le _, rfl, by walk_at "v", hmy, by omega, hr⟩ ?_
  rintro n H' m' ⟨i, t, rfl, hi, rfl, h7, ht, htl, heq⟩
  have hsx : ∀ t j, Sub H2 (upd (upd H2 T (lst t)) it (lit D1 j)) := fun t j => Sub.upd_new (Sub.upd_new (Sub.refl _) hT) hit2
  have hDx : ∀ t j, Sub Dat (upd (upd H2 T (lst t)) it (lit D1 j)) := fun t j => hD2.trans (hsx t j)
  by_cases hlt : i < (ddp key [] xs).length
  · have hx : (ddp key [] xs)[i]? = some (ddp key [] xs)[i] := by simp [hlt]
    have hxS : PairAt Dat key (ddp key [] xs)[i] := hmx _ (List.getElem_mem hlt)
    have hDy := hsx t i _ _ hD1x
    with_reducible refine f_nextL (upd_same ..) hito hDy hx ?_
    rw [upd_upd]
    repeat walk_at "e"
    have hT2 : upd (upd H2 T (lst t)) it (lit D1 (i + 1)) T = some (lst t) := by rw [upd_ne (Ne.symm hitT), upd_same]
    with_reducible refine f_methL PySem.F.slot_list_remove PySem.F.type_list_remove hT2 ?_
    with_reducible refine f_callWithM ?_ ?k1 ?k2
    case k1 => rfl
    case k2 => rfl
    repeat walk_at "e"
    refine ⟨Callee.builtin _ _, ?_⟩
    rw [List.drop_eq_getElem_cons hlt, rmAll] at heq
    cases hj : (t.findIdx? fun y => decide (key y = key (ddp key [] xs)[i])) with
    | none => rw [hj] at heq; cases heq
    | some j =>
      rw [hj] at heq
      simp only [Option.isSome_some, if_true] at heq
      with_reducible refine f_remove ?_ (hDx _ _) hT2 ?_ ht hxS hj ?_
      · show A.units + 3 + 2 < cLine; omega
      · omega
      rw [upd_comm hitT, upd_upd]
      repeat walk_at "e"
      have hle := List.length_eraseP_le (p := fun y => decide (key y = key (ddp key [] xs)[i])) (l := t)
      exact ⟨(ddp key [] xs).length - (i + 1), _, by omega, Sub.refl _, (hb2.new hT).updO hito, i + 1, _, rfl, hlt, rfl, by walk_at "v", fun y hy => ht y (List.mem_of_mem_eraseP hy), by omega, heq⟩
  · have hie : i = (ddp key [] xs).length := by omega
    have hDy := hsx t i _ _ hD1x
    with_reducible refine f_nextL0 ?_ (upd_same ..) hito hDy ?_ ?_
    · exact hh
    · omega
    repeat walk_at "e"
    rw [hie, List.drop_length, rmAll] at heq
    have heq := Option.some.inj heq
    subst heq
    with_reducible refine f_UnaryOp ?_
    repeat walk_at "e"
    with_reducible refine f_notV ?_
    have hTd : del (upd (upd H2 T (lst t)) it (lit D1 i)) it T = some (lst t) := by rw [del_ne (Ne.symm hitT), upd_ne (Ne.symm hitT), upd_same]
    with_reducible refine f_truthyL hTd ?_ ?_
    · omega
    refine ⟨H, del_sub ((s1.trans s2).trans (hsx _ _)) ((s1.trans s2).none_of hit2), hb, ?_, rfl⟩
    simp [retOf]
end
end
section
/-! ### the sort's questions, for up to six things in a strict total order -/
noncomputable def nodups (al : List Nat) : Nat → List (List Nat)
  | 0 => [[]]
  | k + 1 => (nodups al k).flatMap fun ys => (al.filter fun x => !ys.contains x).map (· :: ys)
theorem mem_nodups {al : List Nat} : ∀ {xs : List Nat}, xs.Nodup → (∀ x ∈ xs, x ∈ al) → xs ∈ nodups al xs.length
  | [], _, _ => List.mem_singleton.mpr rfl
  | x :: xs, hn, hm => by
    rw [List.nodup_cons] at hn
    refine List.mem_flatMap.mpr ⟨xs, mem_nodups hn.2 fun y hy => hm y (List.mem_cons_of_mem _ hy), List.mem_map.mpr ⟨x, List.mem_filter.mpr ⟨hm x List.mem_cons_self, by simpa using hn.1⟩, rfl⟩⟩
noncomputable def okSort (n : Nat) (σ : List Nat) : Bool :=
  match ask n (fun i j => decide (σ.getD i 0 < σ.getD j 0)) (kas_sort n) with
  | some p => p.toList.isPerm (List.range n) && (p.toList.map fun i => σ.getD i 0) == List.range n
  | none => false
theorem ok2 : (nodups (List.range 2) 2).all (okSort 2) = true := by decide +kernel
theorem ok3 : (nodups (List.range 3) 3).all (okSort 3) = true := by decide +kernel
theorem ok4 : (nodups (List.range 4) 4).all (okSort 4) = true := by decide +kernel
theorem ok5 : (nodups (List.range 5) 5).all (okSort 5) = true := by decide +kernel
theorem all_cut {α : Type} {l : List α} {p : α → Bool} (k : Nat) (h1 : (l.take k).all p = true) (h2 : (l.drop k).all p = true) : l.all p = true := by
  rw [← List.take_append_drop k l, List.all_append, h1, h2]; rfl
theorem ok6a : (((nodups (List.range 6) 6).take 360).take 180).all (okSort 6) = true := by decide +kernel
theorem ok6b : (((nodups (List.range 6) 6).take 360).drop 180).all (okSort 6) = true := by decide +kernel
theorem ok6c : (((nodups (List.range 6) 6).drop 360).take 180).all (okSort 6) = true := by decide +kernel
theorem ok6d : (((nodups (List.range 6) 6).drop 360).drop 180).all (okSort 6) = true := by decide +kernel
theorem ok6 : (nodups (List.range 6) 6).all (okSort 6) = true := all_cut 360 (all_cut 180 ok6a ok6b) (all_cut 180 ok6c ok6d)
theorem okAll {n : Nat} (h2 : 2 ≤ n) (h6 : n ≤ 6) : (nodups (List.range n) n).all (okSort n) = true := by
  match n, h2, h6 with
  | 2, _, _ => exact ok2
  | 3, _, _ => exact ok3
  | 4, _, _ => exact ok4
  | 5, _, _ => exact ok5
  | 6, _, _ => exact ok6
  | n + 7, _, h => omega
theorem count_lt {p q : Nat → Bool} : ∀ {l : List Nat}, (∀ x ∈ l, p x = true → q x = true) → (∃ x ∈ l, q x = true ∧ p x = false) → l.countP p < l.countP q
  | [], _, ⟨x, hx, _⟩ => by cases hx
  | y :: l, hpq, ⟨x, hx, hq, hp⟩ => by
    have hle : l.countP p ≤ l.countP q := List.countP_mono_left fun z hz => hpq z (List.mem_cons_of_mem _ hz)
    rcases List.mem_cons.mp hx with rfl | hx
    · rw [List.countP_cons, List.countP_cons, hq, hp]; simp; omega
    · have := count_lt (fun z hz => hpq z (List.mem_cons_of_mem _ hz)) ⟨x, hx, hq, hp⟩
      rw [List.countP_cons, List.countP_cons]
      cases hpy : p y with
      | false => simp only [Bool.false_eq_true, if_false]; split <;> omega
      | true => rw [hpq y List.mem_cons_self hpy]; simp; omega
theorem sort_ok {n : Nat} (h2 : 2 ≤ n) (h6 : n ≤ 6) {b : Nat → Nat → Bool} (irr : ∀ i, i < n → b i i = false) (tot : ∀ i j, i < n → j < n → i ≠ j → b i j = true ∨ b j i = true)
    (tr : ∀ i j k, i < n → j < n → k < n → b i j = true → b j k = true → b i k = true) :
    ∃ p, ask n b (kas_sort n) = some p ∧ p.toList.Perm (List.range n) ∧ p.toList.Pairwise (fun i j => b i j = true) := by
  have rk : ∀ i j, i < n → j < n → b i j = true → (List.range n).countP (b · i) < (List.range n).countP (b · j) := fun i j hi hj hb =>
    count_lt (fun x hx hxi => tr x i j (by simpa using hx) hi hj hxi hb) ⟨i, by simpa using hi, hb, irr i hi⟩
  have hb : ∀ i j, i < n → j < n → b i j = decide ((List.range n).countP (b · i) < (List.range n).countP (b · j)) := fun i j hi hj => by
    cases e : b i j with
    | true => exact (decide_eq_true (rk i j hi hj e)).symm
    | false =>
      refine (decide_eq_false ?_).symm
      by_cases hij : i = j
      · subst hij; omega
      · rcases tot i j hi hj hij with h | h
        · rw [e] at h; cases h
        · have := rk j i hj hi h; omega
  let σ := (List.range n).map fun i => (List.range n).countP (b · i)
  have hσ : ∀ i, i < n → σ.getD i 0 = (List.range n).countP (b · i) := fun i hi => by simp [σ, hi]
  have hlen : σ.length = n := by simp [σ]
  have hnd : σ.Nodup := by
    refine List.pairwise_iff_getElem.mpr fun i j hi hj hij => ?_
    have hi' : i < n := hlen ▸ hi
    have hj' : j < n := hlen ▸ hj
    simp only [σ, List.getElem_map, List.getElem_range]
    rcases tot i j hi' hj' (by omega) with h | h
    · have := rk i j hi' hj' h; omega
    · have := rk j i hj' hi' h; omega
  have hmem : ∀ x ∈ σ, x ∈ List.range n := fun x hx => by
    obtain ⟨i, hi, rfl⟩ := List.mem_map.mp hx
    have hi' : i < n := by simpa using hi
    rw [List.mem_range]
    have := count_lt (p := (b · i)) (q := fun _ => true) (l := List.range n) (fun _ _ _ => rfl) ⟨i, hi, rfl, irr i hi'⟩
    simpa using this
  have hmm := mem_nodups hnd hmem
  rw [hlen] at hmm
  have hok := List.all_eq_true.mp (okAll h2 h6) σ hmm
  unfold okSort at hok
  have hc : ask n b (kas_sort n) = ask n (fun i j => decide (σ.getD i 0 < σ.getD j 0)) (kas_sort n) := ask_congr (fun i j hi hj => by rw [hσ i hi, hσ j hj]; exact hb i j hi hj) _
  rw [← hc] at hok
  cases e : ask n b (kas_sort n) with
  | none => rw [e] at hok; simp at hok
  | some p =>
    rw [e] at hok
    simp only [Bool.and_eq_true, beq_iff_eq] at hok
    have hperm := List.isPerm_iff.mp hok.1
    refine ⟨p, rfl, hperm, ?_⟩
    have hpw : (p.toList.map fun i => σ.getD i 0).Pairwise (· < ·) := by rw [hok.2]; exact List.pairwise_lt_range
    rw [List.pairwise_map] at hpw
    refine List.Pairwise.imp_of_mem (fun {i j} hi hj hlt => ?_) hpw
    have hi' : i < n := by simpa using hperm.mem_iff.mp hi
    have hj' : j < n := by simpa using hperm.mem_iff.mp hj
    rw [hb i j hi' hj', ← hσ i hi', ← hσ j hj']
    exact decide_eq_true hlt
/-- a strict total order on the things of a list -/
structure StrictOn (lt : Value → Value → Bool) (vs : List Value) : Prop where
  irr : ∀ v ∈ vs, lt v v = false
  tot : ∀ v ∈ vs, ∀ w ∈ vs, v ≠ w → lt v w = true ∨ lt w v = true
  tr : ∀ u ∈ vs, ∀ v ∈ vs, ∀ w ∈ vs, lt u v = true → lt v w = true → lt u w = true
theorem getD_mem {vs : List Value} {i : Nat} (h : i < vs.length) : vs.getD i .none ∈ vs := by
  rw [List.getD_eq_getElem?_getD, List.getElem?_eq_getElem h]; exact List.getElem_mem _
theorem map_getD (vs : List Value) : (List.range vs.length).map (fun i => vs.getD i .none) = vs := by
  apply List.ext_getElem (by simp)
  intro i h1 h2
  simp [h2]
theorem sort_vs {lt : Value → Value → Bool} {vs : List Value} (h2 : 2 ≤ vs.length) (h6 : vs.length ≤ 6) (hn : vs.Nodup) (hs : StrictOn lt vs) (b : Bool) :
    ∃ p : Array Nat, ask vs.length (fun i j => lt ((flip b vs).getD i .none) ((flip b vs).getD j .none)) (kas_sort vs.length) = some p ∧
      (flip b (p.toList.map fun i => (flip b vs).getD i .none)).Perm vs ∧ (flip b (p.toList.map fun i => (flip b vs).getD i .none)).Pairwise (fun v w => (if b then lt w v else lt v w) = true) := by
  have hl := flip_length b vs
  have hm : ∀ i, i < vs.length → (flip b vs).getD i .none ∈ vs := fun i hi => flip_mem.mp (getD_mem (by rw [hl]; exact hi))
  have hn' : (flip b vs).Nodup := by
    unfold flip; split
    · exact (List.reverse_perm vs).nodup_iff.mpr hn
    · exact hn
  have hinj : ∀ i j, i < vs.length → j < vs.length → (flip b vs).getD i .none = (flip b vs).getD j .none → i = j := fun i j hi hj e => by
    have h1 : i < (flip b vs).length := by rw [hl]; exact hi
    have h2 : j < (flip b vs).length := by rw [hl]; exact hj
    rw [List.getD_eq_getElem?_getD, List.getElem?_eq_getElem h1, List.getD_eq_getElem?_getD, List.getElem?_eq_getElem h2] at e
    have hp := List.pairwise_iff_getElem.mp hn'
    rcases Nat.lt_trichotomy i j with h | h | h
    · exact absurd e (hp i j h1 h2 h)
    · exact h
    · exact absurd e.symm (hp j i h2 h1 h)
  obtain ⟨p, hp, hperm, hpw⟩ := sort_ok h2 h6 (b := fun i j => lt ((flip b vs).getD i .none) ((flip b vs).getD j .none)) (fun i hi => hs.irr _ (hm i hi)) (fun i j hi hj hij => hs.tot _ (hm i hi) _ (hm j hj) (fun e => hij (hinj i j hi hj e)))
    (fun i j k hi hj hk => hs.tr _ (hm i hi) _ (hm j hj) _ (hm k hk))
  · refine ⟨p, hp, ?_, ?_⟩
    · have h1 : (p.toList.map fun i => (flip b vs).getD i .none).Perm (flip b vs) := by
        have := hperm.map (fun i => (flip b vs).getD i .none)
        have e := map_getD (flip b vs)
        rw [hl] at e
        rw [e] at this
        exact this
      have h2 : ∀ xs : List Value, (flip b xs).Perm xs := fun xs => by
        unfold flip; split
        · exact List.reverse_perm _
        · exact .refl _
      exact (h2 _).trans (h1.trans (h2 _))
    · have h1 : (p.toList.map fun i => (flip b vs).getD i .none).Pairwise (fun v w => lt v w = true) := List.pairwise_map.mpr hpw
      cases b with
      | false => exact h1
      | true => exact List.pairwise_reverse.mpr h1
end
section
noncomputable def DefAt (c : Cx) (T : Addr) : Prop := ∃ o n, c.s₁.heap.get? T = some o ∧ o.data = .seq #[.none] n
section
variable {c : Cx} {A : Around} {H : HM} {L : Addr} {m : Loc}
theorem f_specM {t : Sem Value} {r : Value} {it : Addr} {P : OP} {Q : Value → HM → Loc → Prop} (hi : H it = some P) (h : ∀ H', Sub H H' → W c A t H' (fun v H'' => v = r ∧ ∃ S, H' S = none ∧ Own c S ∧ H'' = upd (del H' it) S (lst [])))
    (hQ : ∀ S, H S = none → Own c S → S ≠ L → Q r (upd (del H it) S (lst [])) m) : WF c A L t H m Q :=
  f_of_W fun hL => w_mono (h _ (Sub.upd_new (Sub.refl H) hL)) fun v H'' ⟨e1, S, hS, ho, e2⟩ => by
    have hne : S ≠ L := by rintro rfl; rw [upd_same] at hS; cases hS
    have hiL : it ≠ L := by rintro rfl; rw [hL] at hi; cases hi
    rw [upd_ne hne] at hS
    subst e1 e2
    refine ⟨upd (del H it) S (lst []), m, ?_, ?_, hQ S hS ho hne⟩
    · rw [upd_comm hne]
      congr 1
      funext b
      by_cases hb : b = L
      · subst hb; rw [del_ne (Ne.symm hiL), upd_same, upd_same]
      · rw [upd_ne hb]
        by_cases hb2 : b = it
        · subst hb2; unfold del; rw [if_pos rfl, if_pos rfl]
        · rw [del_ne hb2, del_ne hb2, upd_ne hb]
    · rw [upd_ne (Ne.symm hne), del_ne (Ne.symm hiL)]; exact hL
theorem nsm1_spec {f l T : Addr} {xs : List Value} {Dat : HM} {key : Value → Key} {t : Tok}
    (G : GF c) (F : FnAt c f 10 (.ref T) .none) (hT : DefAt c T) (hroom : A.depth + 2 < recursionLimit) (hh : A.handled = none) (hu : A.units + 100 < cLine) (hD : Sub Dat H)
    (hl : H l = some (lst xs)) (hS : ∀ x ∈ xs, PairAt Dat key x) (hz : xs.length < 900) (h0 : 0 < xs.length) :
    W c A (call (.ref f) [.int 1 t, .ref l]) H (fun v H' => ∃ D, v = .ref D ∧ H D = none ∧ Own c D ∧ H' = upd H D (lst [bestOf (fun v w => keyLt (key v) (key w)) (xs.getD 0 .none) (xs.drop 1)])) := by
  obtain ⟨oT, nT, hoT, hdT⟩ := hT
  obtain ⟨gi1, gi2⟩ := G.iter
  obtain ⟨go1, go2⟩ := G.object
  obtain ⟨gm1, gm2⟩ := G.min
  refine w_callFnB (binds := [("n", .int 1 t), ("iterable", .ref l), ("key", .none)]) G.ok F (by omega) (fun s I _ _ _ _ _ _ _ => BindsTo.of_defaults (T := T) rfl (I.keeps _ _ hoT) hdT rfl rfl) rfl (fun L => ⟨rfl, trivial⟩) rfl rfl rfl (fun hb q cd L hL => ?_)
  have hcells : addCells H (bindC (envC 10 q cd f L).kindOf [("n", .int 1 t), ("iterable", .ref l), ("key", .none)] fun _ => none) (envC 10 q cd f L).cells = upd H (L + 1) (isCell (some .none)) := rfl
  rw [hcells]
  obtain ⟨H1, hH1, hsub, hc1, hb1, hH1L, co1⟩ := cells1 (isCell (some .none)) hL hb
  rw [hH1]
  have hl1 := hsub _ _ hl
  refine f_cons ?_
  with_reducible refine w_let ?_
  intro _
  with_reducible refine f_If ?_
  repeat walk_at "e"
  with_reducible refine f_eq ?_
  refine ⟨_, rfl, ?_⟩
  show WF _ _ _ _ _ _ _
  repeat walk_at "e"
  refine ⟨Callee.builtin _ _, ?_⟩
  with_reducible refine f_iterB hl1 (fun it hit hio hiL => ?_)
  obtain ⟨H2, e2, s2, d2⟩ := abst (lit l 0) hit
  rw [e2]
  repeat walk_at "e"
  with_reducible refine f_callWith0 (Callee.type _ _) ?_
  with_reducible refine f_object (fun se hse hso hsL => ?_)
  obtain ⟨H3, e3, s3, d3⟩ := abst objP hse
  rw [e3]
  have hc3 := s3 _ _ (s2 _ _ hc1)
  repeat walk_at "e"
  with_reducible refine f_callKW ?_ ?k1 ?k2 ?k3
  case k1 => rfl
  case k2 => rfl
  case k3 => rfl
  repeat walk_at "e"
  with_reducible refine f_kw ?_
  repeat walk_at "e"
  with_reducible refine f_kw ?_
  repeat walk_at "e"
  with_reducible refine f_kw0 ?_
  refine ⟨Callee.builtin _ _, ?_⟩
  have hi3 := s3 _ _ d2
  have hD3 : Sub Dat (del H3 it) := del_sub (hD.trans (hsub.trans (s2.trans s3))) ((hD.trans hsub).none_of hit)
  have hl3 := s3 _ _ (s2 _ _ hl1)
  refine f_specM (r := bestOf (fun v w => keyLt (key v) (key w)) (xs.getD 0 .none) (xs.drop 1)) hi3 (fun H' hs' => ?_) (fun S hSn hSo hSL => ?_)
  · refine w_min (Dat := Dat) (key := key) hh ?_ ?_ (hs' _ _ hi3) hio (hs' _ _ hl3) h0 hS (fun B H' s v w I hs hu hv hw => pair_lt I hs (hS _ hv) (hS _ hw) ?_)
    · show A.units + 3 + 20 < cLine; omega
    · exact del_sub ((hD.trans (hsub.trans (s2.trans s3))).trans hs') ((hD.trans hsub).none_of hit)
    · have : (A.deeper (envC 10 q cd f L)).units = A.units + 3 := rfl
      omega
  have hbest : PairAt Dat key (bestOf (fun v w => keyLt (key v) (key w)) (xs.getD 0 .none) (xs.drop 1)) := by
    rcases bestOf_mem (bt := fun v w => keyLt (key v) (key w)) (xs := xs.drop 1) (v := xs.getD 0 .none) with h | h
    · rw [h]; exact hS _ (getD_mem h0)
    · exact hS _ (List.mem_of_mem_drop h)
  generalize hbst : bestOf (fun v w => keyLt (key v) (key w)) (xs.getD 0 .none) (xs.drop 1) = best at *
  have hHse : H se = none := (hsub.trans s2).none_of hse
  have hitse : it ≠ se := by rintro rfl; rw [d2] at hse; cases hse
  have hSe : S ≠ se := by rintro rfl; rw [d3] at hSn; cases hSn
  have s4 : Sub H (upd (del H3 it) S (lst [])) := Sub.upd_new (del_sub (hsub.trans (s2.trans s3)) (hsub.none_of hit)) ((hsub.trans (s2.trans s3)).none_of hSn)
  have d4 : upd (del H3 it) S (lst []) se = some objP := by rw [upd_ne (Ne.symm hSe), del_ne (Ne.symm hitse)]; exact d3
  generalize upd (del H3 it) S (lst []) = H4 at *
  repeat walk_at "e"
  with_reducible refine f_IfExp ?_
  repeat walk_at "e"
  refine f_isOther (a := 0) (hD.trans s4) hbest d4 ⟨_, rfl, ?_⟩
  show WF _ _ _ _ _ _ _
  repeat walk_at "e"
  with_reducible refine f_newList ?_ (fun D hDn hDo hDL => ?_)
  · simp
  exact ⟨upd H D (lst [best]), Sub.upd_both s4, hb.updO hDo, D, rfl, s4.none_of hDn, hDo, by rw [hbst]⟩
end
end
section
theorem args_sorted_k (a : Value) : argsOk "sorted" ⟨[a], [(Str.ofString "key", .none)]⟩ := by unfold argsOk; kernel_rfl
theorem args_sorted_kr (a : Value) : argsOk "sorted" ⟨[a], [(Str.ofString "key", .none), (Str.ofString "reverse", .bool true)]⟩ := by unfold argsOk; kernel_rfl
theorem args_sort_k (a : Value) : argsOk "list.sort" ⟨[a], [(Str.ofString "key", .none)]⟩ := by unfold argsOk; kernel_rfl
theorem args_sort_kr (a : Value) : argsOk "list.sort" ⟨[a], [(Str.ofString "key", .none), (Str.ofString "reverse", .bool true)]⟩ := by unfold argsOk; kernel_rfl
section
variable {c : Cx} {A : Around} {H : HM} {L : Addr} {m : Loc}
theorem nsmS_spec {f l T : Addr} {xs : List Value} {Dat : HM} {key : Value → Key} {t : Tok} {n : Nat}
    (G : GF c) (F : FnAt c f 10 (.ref T) .none) (hT : DefAt c T) (hroom : A.depth + 2 < recursionLimit) (hh : A.handled = none) (hu : A.units + 100 < cLine) (hD : Sub Dat H)
    (hl : H l = some (lst xs)) (hS : ∀ x ∈ xs, PairAt Dat key x) (hn : n ≠ 1) (hn' : xs.length ≤ n) (h2 : 2 ≤ xs.length) (h6 : xs.length ≤ 6) (hnd : xs.Nodup) (hst : StrictOn (fun v w => keyLt (key v) (key w)) xs) :
    W c A (call (.ref f) [.int n t, .ref l]) H (fun v H' => ∃ D out, v = .ref D ∧ H D = none ∧ Own c D ∧ H' = upd H D (lst out) ∧ out.Perm xs ∧ out.Pairwise (fun v w => keyLt (key v) (key w) = true)) := by
  obtain ⟨oT, nT, hoT, hdT⟩ := hT
  obtain ⟨gi1, gi2⟩ := G.len
  obtain ⟨gs1, gs2⟩ := G.sorted
  obtain ⟨p, hrun, hperm, hpw⟩ := sort_vs h2 h6 hnd hst false
  refine w_callFnB (binds := [("n", .int n t), ("iterable", .ref l), ("key", .none)]) G.ok F (by omega) (fun s I _ _ _ _ _ _ _ => BindsTo.of_defaults (T := T) rfl (I.keeps _ _ hoT) hdT rfl rfl) rfl (fun L => ⟨rfl, trivial⟩) rfl rfl rfl (fun hb q cd L hL => ?_)
  have hcells : addCells H (bindC (envC 10 q cd f L).kindOf [("n", .int n t), ("iterable", .ref l), ("key", .none)] fun _ => none) (envC 10 q cd f L).cells = upd H (L + 1) (isCell (some .none)) := rfl
  rw [hcells]
  obtain ⟨H1, hH1, hsub, hc1, hb1, hH1L, co1⟩ := cells1 (isCell (some .none)) hL hb
  rw [hH1]
  have hl1 := hsub _ _ hl
  refine f_cons ?_
  with_reducible refine w_let ?_
  intro _
  with_reducible refine f_If ?_
  repeat walk_at "e"
  with_reducible refine f_eq ?_
  refine ⟨_, rfl, ?_⟩
  have hne : (((n : Nat) : Int) == 1) = false := by simp; omega
  rw [hne]
  simp only [Bool.false_eq_true, if_false]
  repeat walk_at "e"
  with_reducible refine f_Try ?_
  repeat walk_at "e"
  refine ⟨Callee.builtin _ _, ?_⟩
  with_reducible refine f_len hl1 ?_ (fun t3 => ?_)
  · omega
  repeat walk_at "e"
  with_reducible refine f_If ?_
  repeat walk_at "e"
  with_reducible refine f_ge ?_
  refine ⟨_, rfl, ?_⟩
  have hge : decide ((n : Int) ≥ (xs.length : Nat)) = true := by simp; omega
  rw [hge]
  simp only [if_true]
  repeat walk_at "e"
  with_reducible refine f_callKW ?_ ?k1 ?k2 ?k3
  case k1 => rfl
  case k2 => rfl
  case k3 => rfl
  repeat walk_at "e"
  with_reducible refine f_kw ?_
  repeat walk_at "e"
  with_reducible refine f_kw0 ?_
  refine ⟨Callee.builtin _ _, ?_⟩
  refine f_specN (P := lst (flip false (p.toList.map fun i => (flip false xs).getD i .none))) (fun H' hs' => ?_) (fun D hDn hDo hDL => ?_)
  · refine w_sorted (pairs_SortOK c Dat key) ((hD.trans hsub).trans hs') ?_ (hs' _ _ hl1) h2 (by omega) hS shell_k args_sort_k args_sorted_k hrun
    show A.units + 3 + 40 < cLine; omega
  generalize hout : flip false (p.toList.map fun i => (flip false xs).getD i .none) = out at *
  obtain ⟨H2, e2, s2, d2⟩ := abst (lst out) hDn
  rw [e2]
  repeat walk_at "e"
  intro sl hsl hslo hslL
  obtain ⟨H3, e3, s3, d3⟩ := abst (slc .none (.int (n : Nat) t) .none) hsl
  rw [e3]
  have hol : out.length = xs.length := hperm.length_eq
  refine f_cut (s3 _ _ d2) d3 (by omega) .none (.int _ _) .none (by simp) (pick_upto out n) (fun D1 h1 h2 h3 => ?_) (by with_unfolding_all rfl)
  have sAll : Sub H H3 := hsub.trans (s2.trans s3)
  refine ⟨upd H D1 (lst out), ?_, hb.updO h2, D1, out, rfl, sAll.none_of h1, h2, rfl, hperm, hpw⟩
  rw [List.take_of_length_le (by omega)]
  exact Sub.upd_both sAll
end
end
section
/-! ### heaps, in plain words -/
structure Weak (lt : Value → Value → Bool) : Prop where
  asymm : ∀ {a b}, lt a b = true → lt b a = false
  tr : ∀ {a b d}, lt b a = false → lt d b = false → lt d a = false
theorem Weak.flip {lt : Value → Value → Bool} (h : Weak lt) : Weak (fun a b => lt b a) := ⟨h.asymm, fun x y => h.tr y x⟩
theorem Weak.irr {lt : Value → Value → Bool} (h : Weak lt) (a : Value) : lt a a = false := by
  cases e : lt a a with
  | false => rfl
  | true => have := h.asymm e; rw [e] at this; cases this
noncomputable abbrev gv (xs : List Value) (i : Nat) : Value := xs.getD i .none
theorem gv_set {xs : List Value} {i j : Nat} {v : Value} (h : i < xs.length) : gv (xs.set i v) j = if j = i then v else gv xs j := by
  unfold gv
  rw [List.getD_eq_getElem?_getD, List.getElem?_set]
  split
  · rename_i e; subst e; simp [h]
  · rename_i e; rw [if_neg (fun e' => e e'.symm)]; simp [List.getD_eq_getElem?_getD]
/-- the edges that do not touch the hole -/
noncomputable def HX (lt : Value → Value → Bool) (k hole : Nat) (xs : List Value) : Prop := ∀ j, 0 < j → j < xs.length → k ≤ (j - 1) / 2 → j ≠ hole → (j - 1) / 2 ≠ hole → lt (gv xs j) (gv xs ((j - 1) / 2)) = false
/-- the hole's children are not below its parent -/
noncomputable def BR (lt : Value → Value → Bool) (k hole : Nat) (xs : List Value) : Prop := hole ≠ k → ∀ j, 0 < j → j < xs.length → (j - 1) / 2 = hole → lt (gv xs j) (gv xs ((hole - 1) / 2)) = false
noncomputable def HF (lt : Value → Value → Bool) (k : Nat) (xs : List Value) : Prop := ∀ j, 0 < j → j < xs.length → k ≤ (j - 1) / 2 → lt (gv xs j) (gv xs ((j - 1) / 2)) = false
/-- the places below k -/
inductive Desc (k : Nat) : Nat → Prop
  | base : Desc k k
  | step {p j : Nat} : Desc k p → 0 < j → (j - 1) / 2 = p → Desc k j
theorem Desc.ge {k j : Nat} (h : Desc k j) : k ≤ j := by
  induction h with
  | base => exact Nat.le_refl _
  | step _ h0 h1 ih => omega
theorem Desc.up {k j : Nat} (h : Desc k j) (hne : j ≠ k) : 0 < j ∧ Desc k ((j - 1) / 2) := by
  cases h with
  | base => exact absurd rfl hne
  | step hp h0 h1 => exact ⟨h0, h1 ▸ hp⟩
section
variable {lt : Value → Value → Bool}
theorem su_heap (w : Weak lt) (k : Nat) : ∀ (n pos : Nat) (xs : List Value), pos < xs.length → xs.length ≤ n + pos → Desc k pos → HX lt k pos xs → BR lt k pos xs →
    Desc k (su lt n pos xs).2 ∧ HX lt k (su lt n pos xs).2 (su lt n pos xs).1 ∧ ¬ 2 * (su lt n pos xs).2 + 1 < xs.length
  | 0, pos, xs, h, hn, hd, hx, hb => by omega
  | n + 1, pos, xs, h, hn, hd, hx, hb => by
    have step : ∀ ch other : Nat, 0 < ch → ch < xs.length → (ch - 1) / 2 = pos → (∀ j, 0 < j → (j - 1) / 2 = pos → j = ch ∨ j = other) → (other < xs.length → lt (gv xs other) (gv xs ch) = false) →
        Desc k ch ∧ HX lt k ch (xs.set pos (gv xs ch)) ∧ BR lt k ch (xs.set pos (gv xs ch)) := fun ch other hc0 hc hpc hkids hoth => by
      refine ⟨.step hd hc0 hpc, fun j hj0 hj hkj hne hpne => ?_, fun _ j hj0 hj hpj => ?_⟩
      · simp only [List.length_set] at hj
        rw [gv_set h, gv_set h]
        by_cases e1 : j = pos
        · subst e1
          rw [if_pos rfl, if_neg (by omega)]
          have hjk : j ≠ k := by
            rintro rfl
            omega
          have := hb hjk ch hc0 hc hpc
          exact this
        · rw [if_neg e1]
          by_cases e2 : (j - 1) / 2 = pos
          · rw [if_pos e2]
            rcases hkids j hj0 e2 with rfl | rfl
            · exact absurd rfl hne
            · exact hoth hj
          · rw [if_neg e2]; exact hx j hj0 hj hkj e1 e2
      · simp only [List.length_set] at hj
        rw [gv_set h, gv_set h, hpc, if_pos rfl, if_neg (by omega)]
        have hk : k ≤ (j - 1) / 2 := by rw [hpj]; have := hd.ge; omega
        have := hx j hj0 hj hk (by omega) (by omega)
        rw [hpj] at this
        exact this
    unfold su
    by_cases h1 : 2 * pos + 1 < xs.length
    · rw [if_pos h1]
      by_cases h2 : 2 * pos + 2 < xs.length ∧ lt (xs.getD (2 * pos + 1) .none) (xs.getD (2 * pos + 2) .none) = false
      · rw [if_pos h2]
        obtain ⟨a, b, d⟩ := step (2 * pos + 2) (2 * pos + 1) (by omega) h2.1 (by omega) (fun j hj0 hj => by omega) (fun _ => h2.2)
        have := su_heap w k n (2 * pos + 2) (xs.set pos (gv xs (2 * pos + 2))) (by simpa using h2.1) (by simp; omega) a b d
        simpa using this
      · rw [if_neg h2]
        obtain ⟨a, b, d⟩ := step (2 * pos + 1) (2 * pos + 2) (by omega) h1 (by omega) (fun j hj0 hj => by omega) (fun ho => by
          cases e : lt (gv xs (2 * pos + 1)) (gv xs (2 * pos + 2)) with
          | false => exact absurd ⟨ho, e⟩ h2
          | true => exact w.asymm e)
        have := su_heap w k n (2 * pos + 1) (xs.set pos (gv xs (2 * pos + 1))) (by simpa using h1) (by simp; omega) a b d
        simpa using this
    · rw [if_neg h1]
      exact ⟨hd, hx, h1⟩
theorem sd_heap (w : Weak lt) (new : Value) (k : Nat) : ∀ (n pos : Nat) (xs : List Value), pos ≤ n → pos < xs.length → Desc k pos → HX lt k pos xs → BR lt k pos xs → (∀ j, 0 < j → j < xs.length → (j - 1) / 2 = pos → lt (gv xs j) new = false) → HF lt k (sd lt new k n pos xs) := by
  have fin : ∀ (pos : Nat) (xs : List Value), pos < xs.length → HX lt k pos xs → (∀ j, 0 < j → j < xs.length → (j - 1) / 2 = pos → lt (gv xs j) new = false) → (0 < pos → k ≤ (pos - 1) / 2 → lt new (gv xs ((pos - 1) / 2)) = false) → HF lt k (xs.set pos new) :=
    fun pos xs h hx hkid hpar j hj0 hj hkj => by
      simp only [List.length_set] at hj
      rw [gv_set h, gv_set h]
      by_cases e1 : j = pos
      · subst e1
        rw [if_pos rfl, if_neg (by omega)]
        exact hpar hj0 hkj
      · rw [if_neg e1]
        by_cases e2 : (j - 1) / 2 = pos
        · rw [if_pos e2]; exact hkid j hj0 hj e2
        · rw [if_neg e2]; exact hx j hj0 hj hkj e1 e2
  intro n
  induction n with
  | zero =>
    intro pos xs hn h hd hx hb hkid
    unfold sd
    exact fin pos xs h hx hkid (by omega)
  | succ n ih =>
    intro pos xs hn h hd hx hb hkid
    unfold sd
    by_cases h1 : k < pos
    · rw [if_pos h1]
      obtain ⟨hp0, hdp⟩ := hd.up (by omega)
      have hkp := hdp.ge
      cases e : lt new (xs.getD ((pos - 1) / 2) .none) with
      | true =>
        simp only [if_true]
        refine ih ((pos - 1) / 2) (xs.set pos (gv xs ((pos - 1) / 2))) (by omega) (by simp; omega) hdp (fun j hj0 hj hkj hne hpne => ?_) (fun hpk j hj0 hj hpj => ?_) (fun j hj0 hj hpj => ?_)
        · simp only [List.length_set] at hj
          rw [gv_set h, gv_set h]
          by_cases e1 : j = pos
          · subst e1; exact absurd rfl hpne
          · rw [if_neg e1]
            by_cases e2 : (j - 1) / 2 = pos
            · rw [if_pos e2]; exact hb (by omega) j hj0 hj e2
            · rw [if_neg e2]; exact hx j hj0 hj hkj e1 e2
        · simp only [List.length_set] at hj
          obtain ⟨hpp0, hdpp⟩ := hdp.up hpk
          have hkpp := hdpp.ge
          have up : lt (gv xs ((pos - 1) / 2)) (gv xs (((pos - 1) / 2 - 1) / 2)) = false := hx ((pos - 1) / 2) hpp0 (by omega) hkpp (by omega) (by omega)
          rw [gv_set h, gv_set h, if_neg (show ¬ ((pos - 1) / 2 - 1) / 2 = pos by omega)]
          by_cases e1 : j = pos
          · rw [if_pos e1]; exact up
          · rw [if_neg e1]
            have hj1 := hx j hj0 hj (by omega) e1 (by omega)
            rw [hpj] at hj1
            exact w.tr up hj1
        · simp only [List.length_set] at hj
          rw [gv_set h]
          by_cases e1 : j = pos
          · rw [if_pos e1]; exact w.asymm e
          · rw [if_neg e1]
            have hj1 := hx j hj0 hj (by omega) e1 (by omega)
            rw [hpj] at hj1
            exact w.tr (w.asymm e) hj1
      | false =>
        simp only [Bool.false_eq_true, if_false]
        exact fin pos xs h hx hkid (fun _ _ => e)
    · rw [if_neg h1]
      have hpk : pos = k := by have := hd.ge; omega
      refine fin pos xs h hx hkid (fun h0 hk => ?_)
      omega
theorem sup_heap (w : Weak lt) {k : Nat} {xs : List Value} (h : k < xs.length) (hf : HF lt (k + 1) xs) : HF lt k (sup lt k xs) := by
  have hx : HX lt k k xs := fun j hj0 hj hkj hne hpne => hf j hj0 hj (by omega)
  obtain ⟨hd, hx', hleaf⟩ := su_heap w k xs.length k xs h (by omega) .base hx (fun hne => absurd rfl hne)
  obtain ⟨hl, hlt, hge, _⟩ := su_spec (lt := lt) (xs.getD k .none) xs.length k xs h
  unfold sup
  generalize (su lt xs.length k xs).1 = ys at *
  generalize (su lt xs.length k xs).2 = pos at *
  have hpl : pos < ys.length := by omega
  refine sd_heap w _ k pos pos _ (Nat.le_refl _) (by simpa using hpl) hd (fun j hj0 hj hkj hne hpne => ?_) (fun _ j hj0 hj hpj => ?_) (fun j hj0 hj hpj => ?_)
  · simp only [List.length_set] at hj
    rw [gv_set hpl, gv_set hpl, if_neg hne, if_neg hpne]
    exact hx' j hj0 hj hkj hne hpne
  · simp only [List.length_set] at hj; omega
  · simp only [List.length_set] at hj; omega
theorem hfy_heap (w : Weak lt) : ∀ (k : Nat) (xs : List Value), k ≤ xs.length → HF lt k xs → HF lt 0 (hfy lt k xs)
  | 0, xs, _, hf => hf
  | k + 1, xs, h, hf => by
    unfold hfy
    exact hfy_heap w k _ (by rw [sup_length (by omega)]; omega) (sup_heap w (by omega) hf)
theorem heapify_heap (w : Weak lt) (xs : List Value) : HF lt 0 (hfy lt (xs.length / 2) xs) := hfy_heap w _ xs (by omega) (fun j hj0 hj hk => by omega)
theorem root_min (w : Weak lt) {xs : List Value} (hf : HF lt 0 xs) : ∀ j, j < xs.length → lt (gv xs j) (gv xs 0) = false := by
  intro j
  induction j using Nat.strongRecOn with
  | ind j ih =>
    intro hj
    by_cases h0 : j = 0
    · subst h0; exact w.irr _
    · exact w.tr (ih ((j - 1) / 2) (by omega) (by omega)) (hf j (by omega) hj (Nat.zero_le _))
theorem replace_heap (w : Weak lt) {xs : List Value} (v : Value) (h0 : 0 < xs.length) (hf : HF lt 0 xs) : HF lt 0 (sup lt 0 (xs.set 0 v)) :=
  sup_heap w (by simpa using h0) (fun j hj0 hj hk => by
    simp only [List.length_set] at hj
    rw [gv_set h0, gv_set h0, if_neg (by omega), if_neg (by omega)]
    exact hf j hj0 hj (Nat.zero_le _))
theorem set0_perm {xs : List Value} {v : Value} (h0 : 0 < xs.length) : (xs.set 0 v).Perm (v :: xs.drop 1) := by
  cases xs with
  | nil => simp at h0
  | cons x xs => simp
end
end
section
/-! ### insertion, in plain words -/
structure TotPre (le : Value → Value → Bool) : Prop where
  tot : ∀ a b, le a b = true ∨ le b a = true
  tr : ∀ {a b d}, le a b = true → le b d = true → le a d = true
section
variable {le : Value → Value → Bool}
theorem lins_split (h : TotPre le) (x : Value) : ∀ {s : List Value}, s.Pairwise (fun a b => le a b = true) → s.take (s.filter fun y => le y x).length = s.filter (fun y => le y x) ∧ s.drop (s.filter fun y => le y x).length = s.filter (fun y => !le y x)
  | [], _ => ⟨rfl, rfl⟩
  | y :: s, hp => by
    rw [List.pairwise_cons] at hp
    obtain ⟨h1, h2⟩ := lins_split h x hp.2
    cases e : le y x with
    | true => simp [e, h1, h2]
    | false =>
      have hn : ∀ z ∈ s, le z x = false := fun z hz => by
        cases e' : le z x with
        | false => rfl
        | true => have := h.tr (hp.1 z hz) e'; rw [e] at this; cases this
      have e1 : s.filter (fun y => le y x) = [] := List.filter_eq_nil_iff.mpr fun z hz => by simp [hn z hz]
      have e2 : s.filter (fun y => !le y x) = s := List.filter_eq_self.mpr fun z hz => by simp [hn z hz]
      simp [e, e1, e2]
theorem lins_eq (h : TotPre le) (x : Value) {s : List Value} (hp : s.Pairwise (fun a b => le a b = true)) : lins le s x = s.filter (fun y => le y x) ++ [x] ++ s.filter (fun y => !le y x) := by
  obtain ⟨h1, h2⟩ := lins_split h x hp
  unfold lins; rw [h1, h2]
theorem lins_perm (x : Value) (s : List Value) : (lins le s x).Perm (x :: s) := by
  unfold lins
  have := List.perm_middle (a := x) (l₁ := s.take (s.filter fun y => le y x).length) (l₂ := s.drop (s.filter fun y => le y x).length)
  rw [List.take_append_drop] at this
  rw [List.append_assoc]
  exact this
theorem lins_pw (h : TotPre le) (x : Value) {s : List Value} (hp : s.Pairwise (fun a b => le a b = true)) {R : Value → Value → Prop} (hR : s.Pairwise R) (h1 : ∀ y ∈ s, le y x = true → R y x) (h2 : ∀ y ∈ s, le y x = false → R x y) : (lins le s x).Pairwise R := by
  have hcut := lins_split h x hp
  have hsp : (s.take (s.filter fun y => le y x).length ++ s.drop (s.filter fun y => le y x).length).Pairwise R := by rw [List.take_append_drop]; exact hR
  rw [hcut.1, hcut.2, List.pairwise_append] at hsp
  rw [lins_eq h x hp, List.append_assoc, List.pairwise_append]
  refine ⟨hsp.1, ?_, ?_⟩
  · rw [List.singleton_append, List.pairwise_cons]
    exact ⟨fun y hy => by have := List.mem_filter.mp hy; exact h2 y this.1 (by simpa using this.2), hsp.2.1⟩
  · intro y hy w hw
    rw [List.singleton_append] at hw
    rcases List.mem_cons.mp hw with rfl | hw
    · have := List.mem_filter.mp hy; exact h1 y this.1 this.2
    · exact hsp.2.2 y hy w hw
theorem lins_sorted (h : TotPre le) (x : Value) {s : List Value} (hp : s.Pairwise (fun a b => le a b = true)) : (lins le s x).Pairwise (fun a b => le a b = true) :=
  lins_pw h x hp hp (fun _ _ e => e) (fun y _ e => (h.tot x y).resolve_right (by rw [e]; simp))
theorem lsorted_perm : ∀ (row acc : List Value), (lsorted le acc row).Perm (acc ++ row)
  | [], acc => by simp [lsorted]
  | x :: row, acc => by
    show (lsorted le (lins le acc x) row).Perm _
    refine (lsorted_perm row _).trans ?_
    refine ((lins_perm x acc).append_right row).trans ?_
    exact List.perm_middle.symm
theorem lsorted_sorted (h : TotPre le) : ∀ (row acc : List Value), acc.Pairwise (fun a b => le a b = true) → (lsorted le acc row).Pairwise (fun a b => le a b = true)
  | [], acc, hp => hp
  | x :: row, acc, hp => lsorted_sorted h row _ (lins_sorted h x hp)
theorem lsorted_snoc (acc row : List Value) (x : Value) : lsorted le acc (row ++ [x]) = lins le (lsorted le acc row) x := by unfold lsorted; rw [List.foldl_append]; rfl
theorem lins_map {le' : Value → Value → Bool} {el : Value → Value} {acc : List Value} {a : Value} (h : ∀ r ∈ acc, le' r a = le (el r) (el a)) : (lins le' acc a).map el = lins le (acc.map el) (el a) := by
  have e : ((acc.map el).filter fun y => le y (el a)).length = (acc.filter fun y => le' y a).length := by
    rw [List.filter_map, List.length_map]
    congr 1
    exact List.filter_congr fun r hr => (h r hr).symm
  unfold lins
  rw [e]
  simp [List.map_take, List.map_drop]
theorem lins_cut (h : TotPre le) (x : Value) {s : List Value} (hp : s.Pairwise (fun a b => le a b = true)) {n : Nat} (h0 : 0 < n) (hn : n ≤ s.length) :
    (lins le s x).take n = if le (s.getD (n - 1) .none) x = true then s.take n else lins le (s.take (n - 1)) x := by
  have hk := lins_split h x hp
  have hget : s.getD (n - 1) .none = s[n - 1]'(by omega) := by simp [show n - 1 < s.length by omega]
  have hfl := List.length_filter_le (fun y => le y x) s
  -- the place: n-1 lies in the first part iff its thing is not above x
  have hplace : le (s.getD (n - 1) .none) x = true ↔ n - 1 < (s.filter fun y => le y x).length := by
    constructor
    · intro e
      by_cases hc : n - 1 < (s.filter fun y => le y x).length
      · exact hc
      · exfalso
        have hm : s[n - 1]'(by omega) ∈ s.drop (s.filter fun y => le y x).length := by
          rw [List.mem_drop_iff_getElem]
          refine ⟨n - 1 - (s.filter fun y => le y x).length, by omega, ?_⟩
          congr 1; omega
        rw [hk.2] at hm
        have := (List.mem_filter.mp hm).2
        rw [hget] at e
        simp [e] at this
    · intro hc
      have hm : s[n - 1]'(by omega) ∈ s.take (s.filter fun y => le y x).length := by
        rw [List.mem_take_iff_getElem]
        exact ⟨n - 1, by omega, rfl⟩
      rw [hk.1] at hm
      rw [hget]
      exact (List.mem_filter.mp hm).2
  split
  · rename_i e
    have hc := hplace.mp e
    unfold lins
    rw [List.append_assoc, List.take_append_of_le_length (by rw [List.length_take]; omega), List.take_take, Nat.min_eq_left (by omega)]
  · rename_i e
    have hc : ¬ n - 1 < (s.filter fun y => le y x).length := fun hc => e (hplace.mpr hc)
    have hf : ((s.take (n - 1)).filter fun y => le y x).length = (s.filter fun y => le y x).length := by
      have : s.filter (fun y => le y x) = (s.take (n - 1)).filter (fun y => le y x) ++ (s.drop (n - 1)).filter (fun y => le y x) := by rw [← List.filter_append, List.take_append_drop]
      have hz : (s.drop (n - 1)).filter (fun y => le y x) = [] := by
        refine List.filter_eq_nil_iff.mpr fun y hy => ?_
        have hd : y ∈ s.drop (s.filter fun y => le y x).length := by
          obtain ⟨i, hi, rfl⟩ := List.mem_drop_iff_getElem.mp hy
          refine List.mem_drop_iff_getElem.mpr ⟨n - 1 + i - (s.filter fun y => le y x).length, by omega, ?_⟩
          congr 1; omega
        rw [hk.2] at hd
        have := (List.mem_filter.mp hd).2
        simpa using this
      rw [this, hz, List.append_nil]
    unfold lins
    rw [hf]
    generalize (s.filter fun y => le y x).length = k at *
    have l1 : (s.take k).length = k := by rw [List.length_take]; omega
    have r1 : (s.take (n - 1)).take k = s.take k := by rw [List.take_take, Nat.min_eq_left (by omega)]
    have r2 : (s.take (n - 1)).drop k = (s.drop k).take (n - 1 - k) := by rw [List.drop_take]
    have r3 : ([x] ++ s.drop k).take (n - k) = [x] ++ (s.drop k).take (n - 1 - k) := by
      rw [List.singleton_append, show n - k = (n - 1 - k) + 1 by omega, List.take_succ_cons]; rfl
    rw [r1, r2, List.append_assoc, List.append_assoc, List.take_append, l1, r3, List.take_of_length_le (by rw [l1]; omega)]
/-- the n first ones, kept in a heap -/
structure Top (le tl : Value → Value → Bool) (el : Value → Value) (n : Nat) (s rs acc : List Value) : Prop where
  perm : rs.Perm acc
  heap : HF (fun a b => tl b a) 0 rs
  pw : acc.Pairwise (fun a b => tl a b = true)
  map : acc.map el = s.take n
  len : rs.length = n
theorem Top.root {tl : Value → Value → Bool} {el : Value → Value} {n : Nat} {s rs acc : List Value} (h : Top le tl el n s rs acc) (w : Weak tl) (h0 : 0 < n) (hs : n ≤ s.length) :
    ∃ ds, acc = ds ++ [gv rs 0] ∧ (rs.drop 1).Perm ds ∧ el (gv rs 0) = s.getD (n - 1) .none ∧ ds.map el = s.take (n - 1) := by
  have hal : acc.length = n := h.perm.length_eq.symm.trans h.len
  have hne : acc ≠ [] := by intro e; rw [e] at hal; simp at hal; omega
  have hsplit := List.dropLast_concat_getLast hne
  have hr0 : gv rs 0 ∈ rs := by
    have : 0 < rs.length := by rw [h.len]; exact h0
    simp [gv, this]
  have hlast : gv rs 0 = acc.getLast hne := by
    have hm : gv rs 0 ∈ acc := h.perm.mem_iff.mp hr0
    rw [← hsplit] at hm
    rcases List.mem_append.mp hm with hm | hm
    · exfalso
      have hp := h.pw
      rw [← hsplit, List.pairwise_append] at hp
      have hlt := hp.2.2 _ hm _ (List.mem_singleton.mpr rfl)
      have hL : acc.getLast hne ∈ rs := h.perm.mem_iff.mpr (List.getLast_mem hne)
      obtain ⟨j, hj, he⟩ := List.mem_iff_getElem.mp hL
      have := root_min w.flip h.heap j hj
      simp only [gv, List.getD_eq_getElem?_getD, List.getElem?_eq_getElem hj, Option.getD_some, he] at this hlt
      rw [hlt] at this; cases this
    · exact List.mem_singleton.mp hm
  refine ⟨acc.dropLast, by rw [hlast]; exact hsplit.symm, ?_, ?_, ?_⟩
  · have e : rs = gv rs 0 :: rs.drop 1 := by
      cases hrs : rs with
      | nil => rw [hrs] at hr0; cases hr0
      | cons r rest => simp [gv]
    have hp := h.perm
    rw [e, ← hsplit, ← hlast] at hp
    have hp2 := hp.trans (List.perm_append_comm (l₁ := acc.dropLast) (l₂ := [gv rs 0]))
    exact List.Perm.cons_inv hp2
  · have hm := h.map
    have : (acc.map el).getD (n - 1) .none = (s.take n).getD (n - 1) .none := by rw [hm]
    have hgl : acc.getLast hne = acc[n - 1]'(by omega) := by rw [List.getLast_eq_getElem]; congr 1; omega
    have h1 : (acc.map el).getD (n - 1) .none = el (acc.getLast hne) := by
      rw [hgl]; simp [show n - 1 < acc.length by omega]
    rw [h1] at this
    rw [hlast, this]
    simp [show n - 1 < n by omega]
  · rw [List.map_dropLast, h.map, List.dropLast_eq_take, List.length_take, List.take_take]
    congr 1; omega
theorem Top.skip {tl : Value → Value → Bool} {el : Value → Value} {n : Nat} {s rs acc : List Value} {x : Value} (h : Top le tl el n s rs acc) (hle : TotPre le) (hp : s.Pairwise (fun a b => le a b = true)) (h0 : 0 < n) (hs : n ≤ s.length) (hx : le (s.getD (n - 1) .none) x = true) :
    Top le tl el n (lins le s x) rs acc := ⟨h.perm, h.heap, h.pw, by rw [lins_cut hle x hp h0 hs, if_pos hx]; exact h.map, h.len⟩
theorem Top.put {tl le' : Value → Value → Bool} {el : Value → Value} {n : Nat} {s rs acc : List Value} {a : Value} (h : Top le tl el n s rs acc) (w : Weak tl) (hle : TotPre le) (hle' : ∀ r r', le' r r' = le (el r) (el r')) (hp : s.Pairwise (fun a b => le a b = true)) (h0 : 0 < n) (hs : n ≤ s.length)
    (hx : le (s.getD (n - 1) .none) (el a) = false) (h1 : ∀ r ∈ acc, le' r a = true → tl r a = true) (h2 : ∀ r ∈ acc, le' r a = false → tl a r = true) :
    ∃ acc', Top le tl el n (lins le s (el a)) (sup (fun x y => tl y x) 0 (rs.set 0 a)) acc' ∧ ∀ r ∈ acc', r = a ∨ r ∈ acc := by
  obtain ⟨ds, hacc, hds, _, hdm⟩ := h.root w h0 hs
  have hrl : 0 < rs.length := by rw [h.len]; exact h0
  have hle2 : TotPre le' := ⟨fun a b => by rw [hle', hle']; exact hle.tot _ _, fun {a b d} x y => by rw [hle'] at x y ⊢; exact hle.tr x y⟩
  have hdpw : ds.Pairwise (fun a b => le' a b = true) := by
    have hpt : (s.take (n - 1)).Pairwise (fun a b => le a b = true) := hp.sublist (List.take_sublist _ _)
    rw [← hdm, List.pairwise_map] at hpt
    exact hpt.imp fun {a b} e => by rw [hle']; exact e
  have hdm' : ∀ r ∈ ds, r ∈ acc := fun r hr => by rw [hacc]; exact List.mem_append_left _ hr
  refine ⟨lins le' ds a, ⟨?_, replace_heap w.flip a hrl h.heap, ?_, ?_, ?_⟩, fun r hr => ?_⟩
  · refine (sup_perm (by simpa using hrl)).trans ((set0_perm hrl).trans ?_)
    exact (hds.cons a).trans (lins_perm a ds).symm
  · have hpw := h.pw
    rw [hacc, List.pairwise_append] at hpw
    exact lins_pw hle2 a hdpw hpw.1 (fun r hr => h1 r (hdm' r hr)) (fun r hr => h2 r (hdm' r hr))
  · rw [lins_map (fun r _ => hle' r a), hdm, lins_cut hle _ hp h0 hs, if_neg (by rw [hx]; simp)]
  · rw [sup_length (by simpa using hrl), List.length_set]; exact h.len
  · have := (lins_perm (le := le') a ds).mem_iff.mp hr
    rcases List.mem_cons.mp this with e | e
    · exact .inl e
    · exact .inr (hdm' r e)
/-- from the first n ones -/
theorem lsorted_refs {tl le' : Value → Value → Bool} {el : Value → Value} (hle : TotPre le) (hle' : ∀ r r', le' r r' = le (el r) (el r')) : ∀ (rs acc : List Value), acc.Pairwise (fun a b => le' a b = true) → acc.Pairwise (fun a b => tl a b = true) →
    (∀ r ∈ acc, ∀ a ∈ rs, (le' r a = true → tl r a = true) ∧ (le' r a = false → tl a r = true)) → rs.Pairwise (fun r a => (le' r a = true → tl r a = true) ∧ (le' r a = false → tl a r = true)) →
    (lsorted le' acc rs).Pairwise (fun a b => tl a b = true) ∧ (lsorted le' acc rs).map el = lsorted le (acc.map el) (rs.map el)
  | [], acc, _, hp, _, _ => ⟨hp, rfl⟩
  | a :: rs, acc, hpl, hp, ha, hrs => by
    have hle2 : TotPre le' := ⟨fun a b => by rw [hle', hle']; exact hle.tot _ _, fun {a b d} x y => by rw [hle'] at x y ⊢; exact hle.tr x y⟩
    rw [List.pairwise_cons] at hrs
    have := lsorted_refs hle hle' rs (lins le' acc a) (lins_sorted hle2 a hpl) (lins_pw hle2 a hpl hp (fun r hr => (ha r hr a List.mem_cons_self).1) (fun r hr => (ha r hr a List.mem_cons_self).2)) (fun r hr a' ha' => by
      rcases List.mem_cons.mp ((lins_perm (le := le') a acc).mem_iff.mp hr) with e | e
      · subst e; exact hrs.1 a' ha'
      · exact ha r e a' (List.mem_cons_of_mem _ ha')) hrs.2
    refine ⟨this.1, ?_⟩
    rw [show lsorted le' acc (a :: rs) = lsorted le' (lins le' acc a) rs from rfl, this.2, lins_map (fun r _ => hle' r a)]
    rfl
theorem Top.start {tl le' : Value → Value → Bool} {el : Value → Value} {n : Nat} {xs rs : List Value} (w : Weak tl) (hle : TotPre le) (hle' : ∀ r r', le' r r' = le (el r) (el r')) (hlen : rs.length = n) (hmap : rs.map el = xs)
    (hrs : rs.Pairwise (fun r a => (le' r a = true → tl r a = true) ∧ (le' r a = false → tl a r = true))) : Top le tl el n (lsorted le [] xs) (hfy (fun a b => tl b a) (rs.length / 2) rs) (lsorted le' [] rs) := by
  obtain ⟨h1, h2⟩ := lsorted_refs (tl := tl) hle hle' rs [] .nil .nil (fun r hr => by cases hr) hrs
  have hl : (lsorted le [] xs).length = n := by
    have := (lsorted_perm (le := le) xs []).length_eq
    simp at this
    rw [this, ← hmap, List.length_map, hlen]
  refine ⟨(hfy_perm _ _ (by omega)).trans ?_, heapify_heap w.flip rs, h1, ?_, ?_⟩
  · have := lsorted_perm (le := le') rs []
    simpa using this.symm
  · rw [h2, List.map_nil, hmap, List.take_of_length_le (by omega)]
  · rw [(hfy_perm _ _ (by omega)).length_eq]; exact hlen
end
end
section
/-! ### the orders at hand -/
theorem keyLt_iff {k k' : Key} : keyLt k k' = true ↔ k.1 < k'.1 ∨ (k.1 = k'.1 ∧ k.2 < k'.2) := by
  unfold keyLt; split
  · rename_i h; simp [h]
  · rename_i h; simp [h]
theorem keyLt_false {k k' : Key} : keyLt k k' = false ↔ k'.1 < k.1 ∨ (k.1 = k'.1 ∧ k'.2 ≤ k.2) := by
  have := keyLt_iff (k := k) (k' := k')
  rw [← Bool.not_eq_true, this]; omega
theorem keyLe_eq (k k' : Key) : keyLe k k' = !keyLt k' k := by
  unfold keyLe keyLt
  by_cases h : k.1 = k'.1
  · rw [if_pos h, if_pos h.symm]
    by_cases h2 : k.2 ≤ k'.2
    · rw [decide_eq_true h2, decide_eq_false (by omega)]; rfl
    · rw [decide_eq_false h2, decide_eq_true (by omega)]; rfl
  · rw [if_neg h, if_neg (fun e => h e.symm)]
    by_cases h2 : k.1 ≤ k'.1
    · rw [decide_eq_true h2, decide_eq_false (by omega)]; rfl
    · rw [decide_eq_false h2, decide_eq_true (by omega)]; rfl
theorem key_ext {k k' : Key} (h1 : k.1 = k'.1) (h2 : k.2 = k'.2) : k = k' := Prod.ext h1 h2
section
variable {key : Value → Key} {el : Value → Value} {od : Value → Int}
theorem pair_weak : Weak (fun v w => keyLt (key v) (key w)) :=
  ⟨fun {a b} h => by rw [keyLt_iff] at h; rw [keyLt_false]; omega, fun {a b d} h h' => by rw [keyLt_false] at h h' ⊢; omega⟩
theorem t2_iff {r r' : Value} : t2lt key el od r r' = true ↔ keyLt (key (el r)) (key (el r')) = true ∨ (key (el r) = key (el r') ∧ od r < od r') := by
  unfold t2lt; split
  · rename_i h; rw [h]; simp [show keyLt (key (el r')) (key (el r')) = false by rw [keyLt_false]; omega]
  · rename_i h; simp [h]
theorem t2_false {r r' : Value} : t2lt key el od r r' = false ↔ keyLt (key (el r')) (key (el r)) = true ∨ (key (el r) = key (el r') ∧ od r' ≤ od r) := by
  rw [← Bool.not_eq_true, t2_iff]
  rw [keyLt_iff, keyLt_iff]
  constructor
  · intro h
    by_cases h1 : (key (el r)).1 = (key (el r')).1
    · by_cases h2 : (key (el r)).2 = (key (el r')).2
      · exact .inr ⟨key_ext h1 h2, by
          apply Int.not_lt.mp; intro h3; exact h (.inr ⟨key_ext h1 h2, h3⟩)⟩
      · exact .inl (by omega)
    · exact .inl (by omega)
  · rintro (h | ⟨h, h'⟩)
    · rintro (g | ⟨g, _⟩)
      · omega
      · rw [g] at h; omega
    · rw [h]; omega
theorem t2_weak : Weak (t2lt key el od) :=
  ⟨fun {a b} h => by
    rw [t2_iff] at h; rw [t2_false]
    rcases h with h | ⟨h, h'⟩
    · exact .inl h
    · exact .inr ⟨h.symm, by omega⟩,
   fun {a b d} h h' => by
    rw [t2_false] at h h' ⊢
    rcases h with h | ⟨h, g⟩ <;> rcases h' with h' | ⟨h', g'⟩
    · left; rw [keyLt_iff] at *; omega
    · left; rw [h'] at *; exact h
    · left; rw [h] at h'; exact h'
    · right; exact ⟨h'.trans h, by omega⟩⟩
/-- the mark of a pair, by its second number -/
theorem t3_iff {r r' : Value} : t3lt key el od r r' = true ↔ (key (el r)).2 < (key (el r')).2 ∨ ((key (el r)).2 = (key (el r')).2 ∧ (od r < od r' ∨ (od r = od r' ∧ keyLt (key (el r)) (key (el r')) = true))) := by
  unfold t3lt
  have hirr : ∀ k : Key, keyLt k k = false := fun k => by rw [keyLt_false]; omega
  by_cases h : (key (el r)).2 = (key (el r')).2
  · rw [if_pos h]
    by_cases h2 : od r = od r'
    · rw [if_pos h2]
      by_cases h3 : key (el r) = key (el r')
      · rw [if_pos h3]; simp [h3, h2, hirr]
      · rw [if_neg h3]; simp [h, h2]
    · rw [if_neg h2]; simp [h, h2]
  · rw [if_neg h]; simp [h]
theorem t3_false {r r' : Value} : t3lt key el od r r' = false ↔ (key (el r')).2 < (key (el r)).2 ∨ ((key (el r)).2 = (key (el r')).2 ∧ (od r' < od r ∨ (od r = od r' ∧ keyLt (key (el r)) (key (el r')) = false))) := by
  rw [← Bool.not_eq_true, t3_iff]
  cases keyLt (key (el r)) (key (el r')) <;> simp <;> omega
theorem t3_weak : Weak (t3lt key el od) :=
  ⟨fun {a b} h => by
    rw [t3_iff] at h; rw [t3_false]
    rcases h with h | ⟨h, h' | ⟨h', g⟩⟩
    · exact .inl h
    · exact .inr ⟨h.symm, .inl h'⟩
    · exact .inr ⟨h.symm, .inr ⟨h'.symm, pair_weak.asymm (a := el a) (b := el b) g⟩⟩,
   fun {a b d} h h' => by
    rw [t3_false] at h h' ⊢
    rcases h with h | ⟨h, g | ⟨g, k⟩⟩ <;> rcases h' with h' | ⟨h', g' | ⟨g', k'⟩⟩
    · left; omega
    · left; omega
    · left; omega
    · left; omega
    · right; exact ⟨by omega, .inl (by omega)⟩
    · right; exact ⟨by omega, .inl (by omega)⟩
    · left; omega
    · right; exact ⟨by omega, .inl (by omega)⟩
    · right; exact ⟨by omega, .inr ⟨by omega, pair_weak.tr (a := el a) (b := el b) (d := el d) k k'⟩⟩⟩
end
/-- the four ways to compare: rising, falling, by the second number rising, falling -/
theorem le_tot {α : Type} {f : Value → α} {lt : α → α → Bool} (w : Weak (fun v w => lt (f v) (f w))) : TotPre (fun a b => !lt (f b) (f a)) :=
  ⟨fun a b => by
    cases e : lt (f b) (f a) with
    | false => exact .inl rfl
    | true => right; have := w.asymm (a := b) (b := a) e; rw [this]; rfl,
   fun {a b d} h h' => by
    have := w.tr (a := a) (b := b) (d := d) (by simpa using h) (by simpa using h')
    rw [this]; rfl⟩
theorem TotPre.of {le le' : Value → Value → Bool} (h : TotPre le) (e : ∀ a b, le' a b = le a b) : TotPre le' := ⟨fun a b => by rw [e, e]; exact h.tot a b, fun {a b d} x y => by rw [e] at *; exact h.tr x y⟩
theorem StrictOn.of_weak {lt : Value → Value → Bool} {vs : List Value} (w : Weak lt) (tot : ∀ v ∈ vs, ∀ u ∈ vs, v ≠ u → lt v u = true ∨ lt u v = true) : StrictOn lt vs :=
  ⟨fun v _ => w.irr v, tot, fun u _ v _ x _ h1 h2 => by
    cases e : lt u x with
    | true => rfl
    | false =>
      have := w.tr (a := x) (b := u) (d := v) e (w.asymm h1)
      rw [h2] at this; cases this⟩
/-- a list in strict order is told by its things -/
theorem strict_unique {lt : Value → Value → Bool} (w : Weak lt) : ∀ {xs ys : List Value}, xs.Perm ys → xs.Pairwise (fun a b => lt a b = true) → ys.Pairwise (fun a b => lt a b = true) → xs = ys
  | [], ys, hp, _, _ => (List.Perm.nil_eq hp)
  | x :: xs, [], hp, _, _ => (hp.symm.nil_eq).symm
  | x :: xs, y :: ys, hp, hx, hy => by
    rw [List.pairwise_cons] at hx hy
    have e : x = y := by
      have h1 : x ∈ y :: ys := hp.mem_iff.mp List.mem_cons_self
      have h2 : y ∈ x :: xs := hp.mem_iff.mpr List.mem_cons_self
      rcases List.mem_cons.mp h1 with h1 | h1
      · exact h1
      · rcases List.mem_cons.mp h2 with h2 | h2
        · exact h2.symm
        · have a := hx.1 y h2
          have b := hy.1 x h1
          have := w.asymm a
          rw [b] at this; cases this
    subst e
    rw [strict_unique w (hp.cons_inv) hx.2 hy.2]
end
section
theorem gv_mem {rs : List Value} {j : Nat} (h : j < rs.length) : gv rs j ∈ rs := getD_mem h
theorem Top.congr {le tl tl' : Value → Value → Bool} {el el' : Value → Value} {n : Nat} {s rs acc : List Value} (h : Top le tl el n s rs acc) (hel : ∀ r ∈ acc, el' r = el r) (htl : ∀ r ∈ acc, ∀ r' ∈ acc, tl' r r' = tl r r') : Top le tl' el' n s rs acc where
  perm := h.perm
  heap := fun j h0 hj hk => by
    have := h.heap j h0 hj hk
    have m1 : gv rs j ∈ acc := h.perm.mem_iff.mp (gv_mem hj)
    have m2 : gv rs ((j - 1) / 2) ∈ acc := h.perm.mem_iff.mp (gv_mem (by omega))
    show tl' (gv rs ((j - 1) / 2)) (gv rs j) = false
    rw [htl _ m2 _ m1]; exact this
  pw := h.pw.imp_of_mem fun {a b} ha hb e => by rw [htl a ha b hb]; exact e
  map := by rw [← h.map]; exact List.map_congr_left hel
  len := h.len
theorem pw_tot {R : Value → Value → Prop} : ∀ {acc : List Value}, acc.Pairwise R → ∀ r ∈ acc, ∀ r' ∈ acc, r ≠ r' → R r r' ∨ R r' r
  | [], _, r, hr, _, _, _ => by cases hr
  | a :: acc, hp, r, hr, r', hr', hne => by
    rw [List.pairwise_cons] at hp
    rcases List.mem_cons.mp hr with h1 | h1 <;> rcases List.mem_cons.mp hr' with h2 | h2
    · exact absurd (h1.trans h2.symm) hne
    · subst h1; exact .inl (hp.1 _ h2)
    · subst h2; exact .inr (hp.1 _ h1)
    · exact pw_tot hp.2 r h1 r' h2 hne
/-- sorting what the heap keeps tells the kept ones in order -/
theorem Top.sorted {le tl : Value → Value → Bool} {el : Value → Value} {n : Nat} {s rs acc : List Value} (h : Top le tl el n s rs acc) (w : Weak tl) (h2 : 2 ≤ n) (h6 : n ≤ 6) (hnd : rs.Nodup) :
    ∃ p : Array Nat, ask rs.length (fun i j => tl ((flip false rs).getD i .none) ((flip false rs).getD j .none)) (kas_sort rs.length) = some p ∧ flip false (p.toList.map fun i => (flip false rs).getD i .none) = acc := by
  obtain ⟨p, h1, h3, h4⟩ := sort_vs (lt := tl) (by rw [h.len]; exact h2) (by rw [h.len]; exact h6) hnd (StrictOn.of_weak w fun v hv u hu hne => pw_tot h.pw v (h.perm.mem_iff.mp hv) u (h.perm.mem_iff.mp hu) hne) false
  exact ⟨p, h1, strict_unique w (h3.trans h.perm) (by simpa using h4) h.pw⟩
theorem Top.sortedR {le tl : Value → Value → Bool} {el : Value → Value} {n : Nat} {s rs acc : List Value} (h : Top le (fun a b => tl b a) el n s rs acc) (w : Weak tl) (h2 : 2 ≤ n) (h6 : n ≤ 6) (hnd : rs.Nodup) :
    ∃ p : Array Nat, ask rs.length (fun i j => tl ((flip true rs).getD i .none) ((flip true rs).getD j .none)) (kas_sort rs.length) = some p ∧ flip true (p.toList.map fun i => (flip true rs).getD i .none) = acc := by
  obtain ⟨p, h1, h3, h4⟩ := sort_vs (lt := tl) (by rw [h.len]; exact h2) (by rw [h.len]; exact h6) hnd (StrictOn.of_weak w fun v hv u hu hne => (pw_tot h.pw v (h.perm.mem_iff.mp hv) u (h.perm.mem_iff.mp hu) hne).symm) true
  exact ⟨p, h1, strict_unique w.flip (h3.trans h.perm) (by simpa using h4) h.pw⟩
theorem refs_data {rs xs : List Value} {n : Nat} (g : Nat → Int) (hlen : rs.length = n) (hnd : rs.Nodup) : ∃ (el : Value → Value) (od : Value → Int), ∀ j, j < n → el (rs.getD j .none) = xs.getD j .none ∧ od (rs.getD j .none) = g j := by
  classical
  have hp := List.pairwise_iff_getElem.mp hnd
  have inj : ∀ i j, i < n → j < n → rs.getD i .none = rs.getD j .none → i = j := fun i j hi hj e => by
    have h1 : i < rs.length := by omega
    have h2 : j < rs.length := by omega
    rw [List.getD_eq_getElem?_getD, List.getElem?_eq_getElem h1, List.getD_eq_getElem?_getD, List.getElem?_eq_getElem h2] at e
    rcases Nat.lt_trichotomy i j with h | h | h
    · exact absurd e (hp i j h1 h2 h)
    · exact h
    · exact absurd e.symm (hp j i h2 h1 h)
  refine ⟨fun r => if h : ∃ j, j < n ∧ rs.getD j .none = r then xs.getD h.choose .none else .none, fun r => if h : ∃ j, j < n ∧ rs.getD j .none = r then g h.choose else 0, fun j hj => ?_⟩
  have hex : ∃ i, i < n ∧ rs.getD i .none = rs.getD j .none := ⟨j, hj, rfl⟩
  have hc : hex.choose = j := inj _ _ hex.choose_spec.1 hj hex.choose_spec.2
  simp only [dif_pos hex, hc]
  exact ⟨trivial, trivial⟩
theorem t2_link {key : Value → Key} {el : Value → Value} {od : Value → Int} {r a : Value} (ho : od r < od a) : (keyLe (key (el r)) (key (el a)) = true → t2lt key el od r a = true) ∧ (keyLe (key (el r)) (key (el a)) = false → t2lt key el od a r = true) := by
  rw [keyLe_eq]
  refine ⟨fun h => ?_, fun h => ?_⟩
  · have h1 : keyLt (key (el a)) (key (el r)) = false := by simpa using h
    rw [t2_iff]
    rw [keyLt_false] at h1
    by_cases e : key (el r) = key (el a)
    · exact .inr ⟨e, ho⟩
    · left; rw [keyLt_iff]
      by_cases e1 : (key (el r)).1 = (key (el a)).1
      · by_cases e2 : (key (el r)).2 = (key (el a)).2
        · exact absurd (key_ext e1 e2) e
        · omega
      · omega
  · have h1 : keyLt (key (el a)) (key (el r)) = true := by simpa using h
    rw [t2_iff]; exact .inl h1
theorem map_el {rs xs : List Value} {n : Nat} {el : Value → Value} (hlen : rs.length = n) (hn : n ≤ xs.length) (h : ∀ j, j < n → el (rs.getD j .none) = xs.getD j .none) : rs.map el = xs.take n := by
  apply List.ext_getElem (by simp; omega)
  intro i h1 h2
  have hi : i < n := by simpa [hlen] using h1
  have := h i hi
  have e1 : rs.getD i .none = rs[i]'(by omega) := by simp [show i < rs.length by omega]
  have e2 : xs.getD i .none = xs[i]'(by omega) := by simp [show i < xs.length by omega]
  rw [e1, e2] at this
  simpa using this
theorem mem_getD {rs : List Value} {r : Value} (h : r ∈ rs) : ∃ j, j < rs.length ∧ rs.getD j .none = r := by
  obtain ⟨j, hj, e⟩ := List.mem_iff_getElem.mp h
  exact ⟨j, hj, by simp [hj, e]⟩
/-- one more reference is told -/
noncomputable def setV {β : Type} (f : Value → β) (a : Addr) (x : β) : Value → β := fun r => match r with | .ref b => if b = a then x else f (.ref b) | v => f v
theorem setV_same {β : Type} {f : Value → β} {a : Addr} {x : β} : setV f a x (.ref a) = x := if_pos rfl
theorem setV_ne {β : Type} {f : Value → β} {a : Addr} {x : β} {r : Value} (h : r ≠ .ref a) : setV f a x r = f r := by
  unfold setV
  split
  · rename_i b; rw [if_neg (by rintro rfl; exact h rfl)]
  · rfl
section
variable {Hb : HM} {key : Value → Key} {el : Value → Value} {od : Value → Int} {a : Addr}
theorem T2.ne {r : Value} (h : T2 Hb key el od r) (ha : Hb a = none) : r ≠ .ref a := by
  obtain ⟨b, t, rfl, hb, _⟩ := h
  intro e; cases e; rw [ha] at hb; cases hb
theorem T2.grow {r x : Value} {o : Int} {P : OP} (h : T2 Hb key el od r) (ha : Hb a = none) : T2 (upd Hb a P) key (setV el a x) (setV od a o) r := by
  have hne := h.ne ha
  obtain ⟨b, t, e, hb, hp⟩ := h
  refine ⟨b, t, e, ?_, ?_⟩
  · rw [setV_ne hne, setV_ne hne, upd_ne (by rintro rfl; rw [ha] at hb; cases hb)]; exact hb
  · rw [setV_ne hne]; exact hp.mono (Sub.upd_new (Sub.refl _) ha)
theorem T2.new {x : Value} {o : Int} {t : Tok} (hx : PairAt Hb key x) (ha : Hb a = none) : T2 (upd Hb a (tup [x, .int o t])) key (setV el a x) (setV od a o) (.ref a) :=
  ⟨a, t, rfl, by rw [setV_same, setV_same]; exact upd_same .., by rw [setV_same]; exact hx.mono (Sub.upd_new (Sub.refl _) ha)⟩
theorem T3.ne {r : Value} (h : T3 Hb key el od r) (ha : Hb a = none) : r ≠ .ref a := by
  obtain ⟨b, t, u, rfl, hb, _⟩ := h
  intro e; cases e; rw [ha] at hb; cases hb
theorem T3.grow {r x : Value} {o : Int} {P : OP} (h : T3 Hb key el od r) (ha : Hb a = none) : T3 (upd Hb a P) key (setV el a x) (setV od a o) r := by
  have hne := h.ne ha
  obtain ⟨b, t, u, e, hb, hp⟩ := h
  refine ⟨b, t, u, e, ?_, ?_⟩
  · rw [setV_ne hne, setV_ne hne, upd_ne (by rintro rfl; rw [ha] at hb; cases hb)]; exact hb
  · rw [setV_ne hne]; exact hp.mono (Sub.upd_new (Sub.refl _) ha)
theorem T3.new {x : Value} {o : Int} {t u : Tok} (hx : PairAt Hb key x) (ha : Hb a = none) : T3 (upd Hb a (tup [.int (key x).2 t, .int o u, x])) key (setV el a x) (setV od a o) (.ref a) :=
  ⟨a, t, u, rfl, by rw [setV_same, setV_same]; exact upd_same .., by rw [setV_same]; exact hx.mono (Sub.upd_new (Sub.refl _) ha)⟩
theorem t2_setV {r r' x : Value} {o : Int} (h : r ≠ .ref a) (h' : r' ≠ .ref a) : t2lt key (setV el a x) (setV od a o) r r' = t2lt key el od r r' := by
  unfold t2lt; rw [setV_ne h, setV_ne h', setV_ne h, setV_ne h']
theorem t3_setV {r r' x : Value} {o : Int} (h : r ≠ .ref a) (h' : r' ≠ .ref a) : t3lt key (setV el a x) (setV od a o) r r' = t3lt key el od r r' := by
  unfold t3lt; rw [setV_ne h, setV_ne h', setV_ne h, setV_ne h']
end
section
variable {α β : Type} {c : Cx} {A : Around} {L : Addr} {H : HM} {m : Loc} {env : Env}
theorem f_getT0 {T : Addr} {x : Value} {xs : List Value} {t : Tok} {value slice : PySem.Expr} {Q : Value → HM → Loc → Prop} (hl : H T = some (tup (x :: xs))) (h : Q x H m)
    (hs : subscripted slice false (.ref T) (.int 0 t) = operate [.ref T, .int 0 t] (getItem (.ref T) (.int 0 t)) := by with_unfolding_all rfl) : WF c A L (subscriptTail value slice (.ref T) (.int 0 t)) H m Q := by
  intro s I hL hn
  obtain ⟨o, ho, n, rfl⟩ := I.rep _ _ hl
  exact tail_any ⟨_, ho, rfl⟩ PySem.F.slot_tuple_getitem.lookup (PyProof.Rows.getItem_tuple (j := 0) (items := (x :: xs).toArray) ⟨_, ho, rfl, _, rfl⟩ (by omega) (by omega) (by simp [seqIndex?]) (by simp) ⟨H, m, I, hL, hn, h⟩) hs
end
end
section
section
variable {c : Cx} {A : Around} {H : HM} {L : Addr} {m : Loc}
theorem small1 {n : Nat} (h : n < 1000) : Builtin.Range.small 0 n 1 = true := small_one (by omega) (by omega) (by omega) (by omega)
theorem size1 (n : Nat) : Builtin.Range.rangeSize 0 n 1 = n := by rw [rangeSize_one]; split <;> omega
/-- what stands between the turns of the loop -/
structure NsI (c : Cx) (H1 Hb : HM) (D it L : Addr) (key : Value → Key) (xs : List Value) (n i : Nat) (le : Value → Value → Bool) (S : Value → Prop) (tl : Value → Value → Bool) (el : Value → Value) (od : Value → Int) (rs acc : List Value) (ord : Int) : Prop where
  sub : Sub H1 Hb
  bs : Bs c Hb
  nD : Hb D = none
  ni : Hb it = none
  nL : Hb L = none
  S_ : ∀ r ∈ rs, S r
  nd : rs.Nodup
  top : Top le tl el n (lsorted le [] (xs.take i)) rs acc
  od_ : ∀ r ∈ rs, od r < ord
/-- between the turns of the loop -/
inductive NsmH (c : Cx) (H1 : HM) (D it l L fr : Addr) (key : Value → Key) (xs : List Value) (n : Nat) (k : Nat) (H' : HM) (m' : Loc) : Prop where
  | mk (i : Nat) (Hb : HM) (ks acc : List Value) (el : Value → Value) (od : Value → Int) (ord : Int) (tk : Tok) (hk : k = xs.length - i) (hn : n ≤ i) (hi : i ≤ xs.length) (hH : H' = upd (upd Hb D (lst ks)) it (lit l i))
    (N : NsI c H1 Hb D it L key xs n i (fun v w => keyLe (key v) (key w)) (T2 Hb key el od) (t2lt key el od) el od ks acc ord)
    (m1 : m' "result" = some (.ref D)) (m2 : m' "top" = some (el (ks.getD 0 .none))) (m3 : m' "order" = some (.int ord tk)) (m4 : m' "_heapreplace" = some (.ref fr)) : NsmH c H1 D it l L fr key xs n k H' m'
theorem nsmH_spec {f l T : Addr} {xs : List Value} {Dat : HM} {key : Value → Key} {t : Tok} {n : Nat}
    (G : GF c) (F : FnAt c f 10 (.ref T) .none) (hT : DefAt c T) (hroom : A.depth + 5 < recursionLimit) (hh : A.handled = none) (hu : A.units + 200 < cLine) (hD : Sub Dat H)
    (hl : H l = some (lst xs)) (hS : ∀ x ∈ xs, PairAt Dat key x) (h2 : 2 ≤ n) (h6 : n ≤ 6) (hn' : n < xs.length) (hz : xs.length < 900) :
    W c A (call (.ref f) [.int n t, .ref l]) H (fun v H' => ∃ D, v = .ref D ∧ H D = none ∧ Own c D ∧ H' = upd H D (lst ((lsorted (fun v w => keyLe (key v) (key w)) [] xs).take n))) := by
  obtain ⟨oT, nT, hoT, hdT⟩ := hT
  obtain ⟨gi1, gi2⟩ := G.len
  obtain ⟨gs1, gs2⟩ := G.iter
  obtain ⟨gr1, gr2⟩ := G.range
  obtain ⟨gz1, gz2⟩ := G.zip
  obtain ⟨fh, gh, Fh⟩ := G.heapify_max
  obtain ⟨fr, gr, Fr⟩ := G.heapreplace_max
  have hle : TotPre (fun v w => keyLe (key v) (key w)) := (le_tot (f := key) (lt := keyLt) pair_weak).of fun a b => keyLe_eq _ _
  refine w_callFnB (binds := [("n", .int n t), ("iterable", .ref l), ("key", .none)]) G.ok F (by omega) (fun s I _ _ _ _ _ _ _ => BindsTo.of_defaults (T := T) rfl (I.keeps _ _ hoT) hdT rfl rfl) rfl (fun L => ⟨rfl, trivial⟩) rfl rfl rfl (fun hb q cd L hL => ?_)
  have hcells : addCells H (bindC (envC 10 q cd f L).kindOf [("n", .int n t), ("iterable", .ref l), ("key", .none)] fun _ => none) (envC 10 q cd f L).cells = upd H (L + 1) (isCell (some .none)) := rfl
  rw [hcells]
  obtain ⟨H1, hH1, hsub, hc1, hb1, hH1L, co1⟩ := cells1 (isCell (some .none)) hL hb
  rw [hH1]
  have hl1 := hsub _ _ hl
  have hD1 := hD.trans hsub
  refine f_cons ?_
  with_reducible refine w_let ?_
  intro _
  with_reducible refine f_If ?_
  repeat walk_at "e"
  with_reducible refine f_eq ?_
  refine ⟨_, rfl, ?_⟩
  have hne : (((n : Nat) : Int) == 1) = false := by simp; omega
  rw [hne]
  simp only [Bool.false_eq_true, if_false]
  repeat walk_at "e"
  with_reducible refine f_Try ?_
  repeat walk_at "e"
  refine ⟨Callee.builtin _ _, ?_⟩
  with_reducible refine f_len hl1 ?_ (fun t3 => ?_)
  · omega
  repeat walk_at "e"
  with_reducible refine f_If ?_
  repeat walk_at "e"
  with_reducible refine f_ge ?_
  refine ⟨_, rfl, ?_⟩
  have hge : decide ((n : Int) ≥ (xs.length : Nat)) = false := by simp; omega
  rw [hge]
  simp only [Bool.false_eq_true, if_false]
  repeat walk_at "e"
  with_reducible refine f_If ?_
  repeat walk_at "e"
  with_reducible refine f_isNone ?_ ?_
  · rfl
  refine ⟨_, rfl, ?_⟩
  show WF _ _ _ _ _ _ _
  repeat walk_at "e"
  refine ⟨Callee.builtin _ _, ?_⟩
  with_reducible refine f_iterB hl1 (fun it hit hio hiL => ?_)
  obtain ⟨H2, e2, s2, d2⟩ := abst (lit l 0) hit
  rw [e2]
  repeat walk_at "e"
  with_reducible refine f_AssignComp (cl := []) ?_ ?k1 ?k2 ?k3 ?k4 ?k5 ?k6 ?k7 ?k8 ?k9
  case k1 => rfl
  case k2 => rfl
  case k3 => decide
  case k4 => rfl
  case k5 => decide
  case k6 => rfl
  case k7 => rfl
  case k8 => rfl
  case k9 => intro _; rfl
  repeat walk_at "e"
  refine ⟨Callee.type _ _, ?_⟩
  with_reducible refine f_range1 (fun r hr hor hrL => ?_)
  obtain ⟨H3, e3, s3, d3⟩ := abst (rng 0 n 1) hr
  rw [e3]
  repeat walk_at "e"
  refine ⟨Callee.type _ _, ?_⟩
  refine f_zip d3 (small1 (by omega)) (s3 _ _ d2) hio (s3 _ _ (s2 _ _ hl1)) (fun z TI TO ri Hz K hsz hzL zL TL rL => ?_)
  rw [size1]
  have hHz : Sub H1 Hz := (del_sub (s2.trans s3) hit).trans hsz
  intro s I hL' hns
  obtain ⟨oz, hoz, rfl⟩ := I.rep _ _ K.at_z
  refine wpAny_pyIter_zip hoz ⟨_, _, I, hL', hns, ?_⟩
  clear hoz I hL' hns s
  refine compZip (PP := fun j y P => ∃ tk, P = tup [xs.getD j .none, .int j tk]) hh K (by omega) hz hzL zL TL rL hiL rfl rfl rfl (fun C j tk Hc mc hj hm1 hm2 hsc hC _ => ?_) (fun D Hb rs hDz hDo hDL hDit hbD hsb hbb hbL hbi hlen hnd hrs => ?_)
  · repeat walk_at "e"
    with_reducible refine f_newTuple ?_ (fun a ha hao haC => ?_)
    · simp
    exact ⟨a, _, rfl, ha, hao, haC, rfl, tk, by rw [Int.mul_one, Int.zero_add]⟩
  show WF _ _ _ _ _ _ _
  have hHb : Sub H1 Hb := hHz.trans hsb
  have hsubQ : ∀ rs i, Sub Hb (upd (upd Hb D (lst rs)) it (lit l i)) := fun rs i => Sub.upd_new (Sub.upd_new (Sub.refl _) hbD) hbi
  obtain ⟨el, od, hel⟩ := refs_data (xs := xs) (fun j => (j : Int)) hlen hnd
  have hT2 : ∀ r ∈ rs, T2 Hb key el od r := fun r hr => by
    obtain ⟨j, hj, rfl⟩ := mem_getD hr
    obtain ⟨a, P, h1, h2', h3, tk, rfl⟩ := hrs j (by omega)
    obtain ⟨e1, e2⟩ := hel j (by omega)
    refine ⟨a, tk, h1, ?_, ?_⟩
    · rw [e1, e2]; exact h2'
    · rw [e1]; exact (hS _ (getD_mem (by omega))).mono (hD1.trans hHb)
  have hlist : ∀ rs i, upd (upd Hb D (lst rs)) it (lit l i) D = some (lst rs) := fun rs i => by rw [upd_ne hDit, upd_same]
  have hrl : rs.length < 1000 := by omega
  have htop : Top (fun v w => keyLe (key v) (key w)) (t2lt key el od) el n (lsorted (fun v w => keyLe (key v) (key w)) [] (xs.take n)) (hfy (fun a b => t2lt key el od b a) (rs.length / 2) rs) (lsorted (fun r r' => keyLe (key (el r)) (key (el r'))) [] rs) :=
    Top.start t2_weak hle (fun _ _ => rfl) hlen (map_el hlen (by omega) fun j hj => (hel j hj).1) (List.pairwise_iff_getElem.mpr fun i j hi hj hij => by
      have e1 := (hel i (by omega)).2
      have e2 := (hel j (by omega)).2
      rw [show rs.getD i .none = rs[i] by simp [hi]] at e1
      rw [show rs.getD j .none = rs[j] by simp [hj]] at e2
      exact t2_link (by omega))
  refine f_cons ?_
  with_reducible refine w_let ?_
  intro _
  with_reducible refine f_If ?_
  with_reducible refine f_tNot ?_
  with_reducible refine f_tVal ?_ ?k1
  case k1 => rfl
  repeat walk_at "e"
  with_reducible refine f_truthyL (hlist _ _) hrl ?_
  have hemp : rs.isEmpty = false := by cases rs with | nil => simp at hlen; omega | cons _ _ => rfl
  rw [hemp]
  show WF _ _ _ _ _ _ _
  repeat walk_at "e"
  refine ⟨Callee.fn Fh (hbb.sub_of (hsubQ _ _)), ?_⟩
  refine f_spec (hlist rs n) (fun H' hs' => heapify_max_spec (Dat := Hb) (S := T2 Hb key el od) (lt := t2lt key el od) G Fh ?_ ?_ ?_ (t2_LtOK c Hb key el od) ((hsubQ _ _).trans hs') hbD (hs' _ _ (hlist _ _)) hT2 hrl) ?_
  · show A.depth + 1 + 2 < recursionLimit; omega
  · exact hh
  · show A.units + 3 + 100 < cLine; omega
  rw [upd_comm (Ne.symm hDit), upd_upd]
  have hT2' : ∀ r ∈ hfy (fun a b => t2lt key el od b a) (rs.length / 2) rs, T2 Hb key el od r := fun r hr => hT2 r ((hfy_perm _ _ (by omega)).mem_iff.mp hr)
  have hnd' : (hfy (fun a b => t2lt key el od b a) (rs.length / 2) rs).Nodup := (hfy_perm _ _ (by omega)).nodup_iff.mpr hnd
  have hod' : ∀ r ∈ hfy (fun a b => t2lt key el od b a) (rs.length / 2) rs, od r < (n : Int) := fun r hr => by
    obtain ⟨j, hj, rfl⟩ := mem_getD ((hfy_perm _ _ (by omega)).mem_iff.mp hr)
    rw [(hel j (by omega)).2]; omega
  generalize hfy (fun a b => t2lt key el od b a) (rs.length / 2) rs = ks at *
  generalize hacc : lsorted (fun r r' => keyLe (key (el r)) (key (el r'))) [] rs = acc at *
  have hkl := htop.len
  repeat walk_at "e"
  with_reducible refine f_get0 (hlist _ _) ?_ ?_ ?k1
  case k1 => with_unfolding_all rfl
  · omega
  obtain ⟨a0, t0, hk0, hd0, hp0⟩ := hT2' _ (getD_mem (vs := ks) (i := 0) (by omega))
  rw [hk0]
  repeat walk_at "e"
  have hd0' := hsubQ ks n _ _ hd0
  with_reducible refine f_getT0 hd0' ?_ ?k1
  case k1 => with_unfolding_all rfl
  repeat walk_at "e"
  with_reducible refine f_For ?_ ?h1 ?h2
  case h1 => intro _; rfl
  case h2 => intro _ _; rfl
  repeat walk_at "e"
  with_reducible refine f_iterLit (upd_same ..) ?_
  refine forW_of (NsmH c H1 D it l L fr key xs n) (xs.length - n)
    ⟨n, Hb, ks, acc, el, od, n, t, rfl, Nat.le_refl _, by omega, rfl, ⟨hHb, hbb, hbD, hbi, hbL, hT2', hnd', htop, hod'⟩, by walk_at "v", by walk_at "v", by walk_at "v", by walk_at "v"⟩ ?_
  clear hT2 hT2' htop hnd' hod' hk0 hd0 hd0' hp0 hkl hsubQ hlist hel hrs hnd hlen hrl hemp hacc hHb hbb hbD hbi hbL hsb
  rintro k H' m' ⟨i, Hb, ks, acc, el, od, ord, tk, rfl, hni, hi, rfl, N, m1, m2, m3, m4⟩
  have hsubQ : ∀ rs i, Sub Hb (upd (upd Hb D (lst rs)) it (lit l i)) := fun rs i => Sub.upd_new (Sub.upd_new (Sub.refl _) N.nD) N.ni
  have hlist : ∀ rs i, upd (upd Hb D (lst rs)) it (lit l i) D = some (lst rs) := fun rs i => by rw [upd_ne hDit, upd_same]
  have hlx : ∀ rs i, upd (upd Hb D (lst rs)) it (lit l i) l = some (lst xs) := fun rs i => hsubQ rs i _ _ (N.sub _ _ hl1)
  have hkl := N.top.len
  have hsl : (lsorted (fun v w => keyLe (key v) (key w)) [] (xs.take i)).length = i := by
    have := (lsorted_perm (le := fun v w => keyLe (key v) (key w)) (xs.take i) []).length_eq
    rw [this]; simp; omega
  have hsp := lsorted_sorted hle (xs.take i) [] .nil
  by_cases hlt : i < xs.length
  · have hx : xs[i]? = some xs[i] := by simp [hlt]
    have hxP : PairAt Dat key xs[i] := hS _ (List.getElem_mem hlt)
    have hxB : PairAt Hb key xs[i] := hxP.mono (hD1.trans N.sub)
    with_reducible refine f_nextL (upd_same ..) hio (hlx _ _) hx ?_
    rw [upd_upd]
    repeat walk_at "e"
    with_reducible refine f_If ?_
    repeat walk_at "e"
    obtain ⟨a0, t0, hk0, hd0, hp0⟩ := N.S_ _ (getD_mem (vs := ks) (i := 0) (by omega))
    have hsq := hsubQ ks (i + 1)
    refine f_ltP ?_ hsq hxB hp0 ⟨_, rfl, ?_⟩
    · show A.units + 3 < cLine; omega
    obtain ⟨ds, hds, _, htopx, _⟩ := N.top.root t2_weak (by omega) (by omega)
    have hstep : lsorted (fun v w => keyLe (key v) (key w)) [] (xs.take (i + 1)) = lins (fun v w => keyLe (key v) (key w)) (lsorted (fun v w => keyLe (key v) (key w)) [] (xs.take i)) xs[i] := by
      rw [List.take_succ_eq_append_getElem hlt, lsorted_snoc]
    have htopx' : el (ks.getD 0 .none) = (lsorted (fun v w => keyLe (key v) (key w)) [] (xs.take i)).getD (n - 1) .none := htopx
    cases hcmp : keyLt (key xs[i]) (key (el (ks.getD 0 .none))) with
    | true =>
      simp only [if_true]
      repeat walk_at "e"
      with_reducible refine f_newTuple ?_ (fun a ha hao haL => ?_)
      · simp
      have haD : a ≠ D := by rintro rfl; rw [hlist] at ha; cases ha
      have hai : a ≠ it := by rintro rfl; rw [upd_same] at ha; cases ha
      have hba : Hb a = none := hsq.none_of ha
      rw [upd_comm (Ne.symm hai), upd_comm (Ne.symm haD)]
      have hnew : T2 (upd Hb a (tup [xs[i], .int ord tk])) key (setV el a xs[i]) (setV od a ord) (.ref a) := T2.new hxB hba
      have hold : ∀ r ∈ ks, T2 (upd Hb a (tup [xs[i], .int ord tk])) key (setV el a xs[i]) (setV od a ord) r := fun r hr => (N.S_ r hr).grow hba
      have hneA : ∀ r ∈ ks, r ≠ .ref a := fun r hr => (N.S_ r hr).ne hba
      have hmemA : ∀ r ∈ acc, r ∈ ks := fun r hr => N.top.perm.mem_iff.mpr hr
      have htop1 : Top (fun v w => keyLe (key v) (key w)) (t2lt key (setV el a xs[i]) (setV od a ord)) (setV el a xs[i]) n (lsorted (fun v w => keyLe (key v) (key w)) [] (xs.take i)) ks acc :=
        N.top.congr (fun r hr => setV_ne (hneA r (hmemA r hr))) (fun r hr r' hr' => t2_setV (hneA r (hmemA r hr)) (hneA r' (hmemA r' hr')))
      have hodA : ∀ r ∈ acc, setV od a ord r < setV od a ord (.ref a) := fun r hr => by rw [setV_same, setV_ne (hneA r (hmemA r hr))]; exact N.od_ r (hmemA r hr)
      obtain ⟨acc', htop2, hacc'⟩ := htop1.put (le' := fun r r' => keyLe (key (setV el a xs[i] r)) (key (setV el a xs[i] r'))) (a := .ref a) t2_weak hle (fun _ _ => rfl) hsp (by omega) (by omega)
        (by rw [setV_same, ← htopx', keyLe_eq, hcmp]; rfl) (fun r hr => (t2_link (hodA r hr)).1) (fun r hr => (t2_link (hodA r hr)).2)
      rw [setV_same, ← hstep] at htop2
      have hks0 : 0 < ks.length := by omega
      have hperm : (sup (fun x y => t2lt key (setV el a xs[i]) (setV od a ord) y x) 0 (ks.set 0 (.ref a))).Perm (.ref a :: ks.drop 1) := (sup_perm (by simpa using hks0)).trans (set0_perm hks0)
      have hSnew : ∀ r ∈ sup (fun x y => t2lt key (setV el a xs[i]) (setV od a ord) y x) 0 (ks.set 0 (.ref a)), T2 (upd Hb a (tup [xs[i], .int ord tk])) key (setV el a xs[i]) (setV od a ord) r := fun r hr => by
        rcases List.mem_cons.mp (hperm.mem_iff.mp hr) with e | e
        · rw [e]; exact hnew
        · exact hold r (List.mem_of_mem_drop e)
      have hndnew : (sup (fun x y => t2lt key (setV el a xs[i]) (setV od a ord) y x) 0 (ks.set 0 (.ref a))).Nodup := by
        refine hperm.nodup_iff.mpr (List.nodup_cons.mpr ⟨fun hm => hneA _ (List.mem_of_mem_drop hm) rfl, N.nd.sublist (List.drop_sublist _ _)⟩)
      have hodnew : ∀ r ∈ sup (fun x y => t2lt key (setV el a xs[i]) (setV od a ord) y x) 0 (ks.set 0 (.ref a)), setV od a ord r < ord + 1 := fun r hr => by
        rcases List.mem_cons.mp (hperm.mem_iff.mp hr) with e | e
        · rw [e, setV_same]; omega
        · have hm := List.mem_of_mem_drop e
          rw [setV_ne (hneA r hm)]; have := N.od_ r hm; omega
      have hsB : Sub Hb (upd Hb a (tup [xs[i], .int ord tk])) := Sub.upd_new (Sub.refl _) hba
      have hbB : Bs c (upd Hb a (tup [xs[i], .int ord tk])) := N.bs.updO hao
      have nD2 : upd Hb a (tup [xs[i], .int ord tk]) D = none := by rw [upd_ne (Ne.symm haD)]; exact N.nD
      have ni2 : upd Hb a (tup [xs[i], .int ord tk]) it = none := by rw [upd_ne (Ne.symm hai)]; exact N.ni
      have nL2 : upd Hb a (tup [xs[i], .int ord tk]) L = none := by rw [upd_ne (Ne.symm haL)]; exact N.nL
      generalize upd Hb a (tup [xs[i], .int ord tk]) = Hb2 at *
      have hsubQ2 : ∀ rs i, Sub Hb2 (upd (upd Hb2 D (lst rs)) it (lit l i)) := fun rs i => Sub.upd_new (Sub.upd_new (Sub.refl _) nD2) ni2
      have hlist2 : ∀ rs i, upd (upd Hb2 D (lst rs)) it (lit l i) D = some (lst rs) := fun rs i => by rw [upd_ne hDit, upd_same]
      repeat walk_at "e"
      refine ⟨Callee.fn Fr (hbB.sub_of (hsubQ2 _ _)), ?_⟩
      refine f_spec (hlist2 ks (i + 1)) (fun H' hs' => heapreplace_max_spec (Dat := Hb2) (S := T2 Hb2 key (setV el a xs[i]) (setV od a ord)) (lt := t2lt key (setV el a xs[i]) (setV od a ord)) G Fr ?_ ?_ (t2_LtOK c Hb2 key _ _) ((hsubQ2 _ _).trans hs') nD2 (hs' _ _ (hlist2 _ _)) hold hnew hks0 (by omega)) ?_
      · show A.depth + 1 + 2 < recursionLimit; omega
      · show A.units + 3 + 100 < cLine; omega
      rw [upd_comm (Ne.symm hDit), upd_upd]
      generalize sup (fun x y => t2lt key (setV el a xs[i]) (setV od a ord) y x) 0 (ks.set 0 (.ref a)) = ks2 at *
      have hkl2 := htop2.len
      repeat walk_at "e"
      with_reducible refine f_AssignT ?_ ?k1 ?k2
      case k1 => rfl
      case k2 => rfl
      repeat walk_at "e"
      with_reducible refine f_get0 (hlist2 _ _) ?_ ?_ ?k1
      case k1 => with_unfolding_all rfl
      · omega
      obtain ⟨a1, t1, hk1, hd1, hp1⟩ := hSnew _ (getD_mem (vs := ks2) (i := 0) (by omega))
      rw [hk1]
      have hd1' := hsubQ2 ks2 (i + 1) _ _ hd1
      refine f_unpack hh hd1' rfl rfl ?_
      refine f_inOrder ?_
      repeat walk_at "e"
      refine f_inOrder ?_
      repeat walk_at "e"
      refine f_inOrder0 ?_
      repeat walk_at "e"
      with_reducible refine f_AugN ?_
      with_reducible refine' f_loadL ?hv ?_ ?k1 ?k2 ?k3
      case k1 => rfl
      case k2 => rfl
      case k3 => rfl
      case hv => walk_at "v"
      repeat walk_at "e"
      with_reducible refine f_iadd (fun t5 => ?_)
      repeat walk_at "e"
      refine ⟨xs.length - (i + 1), _, by omega, Sub.refl _, (hbB.updO hDo).updO hio, i + 1, Hb2, ks2, acc', setV el a xs[i], setV od a ord, ord + 1, t5, rfl, by omega, hlt, rfl,
        ⟨N.sub.trans hsB, hbB, nD2, ni2, nL2, hSnew, hndnew, htop2, hodnew⟩, by walk_at "v", by walk_at "v", by walk_at "v", by walk_at "v"⟩
    | false =>
      simp only [Bool.false_eq_true, if_false]
      repeat walk_at "e"
      refine ⟨xs.length - (i + 1), _, by omega, Sub.refl _, (N.bs.updO hDo).updO hio, i + 1, Hb, ks, acc, el, od, ord, tk, rfl, by omega, hlt, rfl, { N with top := ?_ }, by walk_at "v", by walk_at "v", by walk_at "v", by walk_at "v"⟩
      rw [hstep]
      refine N.top.skip hle hsp (by omega) (by omega) ?_
      rw [← htopx', keyLe_eq, hcmp]; rfl
  · have hie : i = xs.length := by omega
    subst hie
    rw [List.take_length] at hsl hsp
    have htop := N.top
    rw [List.take_length] at htop
    with_reducible refine f_nextL0 ?_ (upd_same ..) hio (hlx _ _) ?_ ?_
    · exact hh
    · exact Nat.le_refl _
    have hdel : del (upd (upd Hb D (lst ks)) it (lit l xs.length)) it = upd Hb D (lst ks) := del_upd (by rw [upd_ne (Ne.symm hDit)]; exact N.ni) _
    rw [hdel]
    repeat walk_at "e"
    have hlD : upd Hb D (lst ks) D = some (lst ks) := upd_same ..
    with_reducible refine f_methL PySem.F.slot_list_sort PySem.F.type_list_sort hlD ?_
    with_reducible refine f_callWith0 (Callee.builtin _ _) ?_
    obtain ⟨p, hrun, hout⟩ := htop.sorted t2_weak h2 h6 N.nd
    have hsD : Sub Hb (upd Hb D (lst ks)) := Sub.upd_new (Sub.refl _) N.nD
    refine f_spec hlD (fun H' hs' => w_sort (Dat := Hb) (b := false) (kw := []) (t2_SortOK c Hb key el od) (hsD.trans hs') N.nD ?_ (hs' _ _ hlD) (by omega) (by omega) N.S_ (shell_0 D) (args_list_sort _) hrun) ?_
    · show A.units + 3 + 30 < cLine; omega
    rw [hout, upd_upd]
    have hal : acc.length = n := htop.perm.length_eq.symm.trans htop.len
    repeat walk_at "e"
    with_reducible refine f_Comp (cl := []) ?_ ?k1 ?k2 ?k3 ?k4 ?k5
    case k1 => rfl
    case k2 => decide
    case k3 => rfl
    case k4 => decide
    case k5 => intro _; rfl
    repeat walk_at "e"
    have hlA : upd Hb D (lst acc) D = some (lst acc) := upd_same ..
    with_reducible refine f_iterL hlA (fun it2 hit2 hio2 hiL2 => ?_)
    obtain ⟨H5, e5, s5, d5⟩ := abst (lit D 0) hit2
    rw [e5]
    have hsA : Sub Hb (upd Hb D (lst acc)) := Sub.upd_new (Sub.refl _) N.nD
    have hLA : upd Hb D (lst acc) L = none := by rw [upd_ne (Ne.symm hDL)]; exact N.nL
    refine compW_seq (n := acc.length) (Src := upd Hb D (lst acc)) (iter_list hio2 hit2 (.inl hh) hlA) (by omega) ?_ d5 s5 (fun j => el (acc.getD j .none)) ?_ ?_
    · rw [← e5, upd_ne (Ne.symm hiL2)]; exact hLA
    · intro C j v Hc mc hj hv hsubc hitc hC
      have hvj : v = acc.getD j .none := by simp [hv]
      have hsc : Sub (upd Hb D (lst acc)) Hc := (del_sub (Sub.upd_new s5 hLA) hit2).trans hsubc
      obtain ⟨a1, t1, hk1, hd1, hp1⟩ := N.S_ v (htop.perm.mem_iff.mpr (by rw [hvj]; exact getD_mem hj))
      rw [hk1]
      refine f_goL hitc ?_
      have hd1' := hsc _ _ (hsA _ _ hd1)
      refine f_unpack hh hd1' rfl rfl ?_
      refine f_inOrder ?_
      repeat walk_at "e"
      refine f_inOrder ?_
      repeat walk_at "e"
      refine f_inOrder0 ?_
      repeat walk_at "e"
      exact ⟨by rw [hvj], Sub.refl _⟩
    · intro E hE hEo hEL
      have hres : (List.range acc.length).map (fun j => el (acc.getD j .none)) = (lsorted (fun v w => keyLe (key v) (key w)) [] xs).take n := by
        rw [← htop.map]
        conv => rhs; rw [← map_getD acc]
        rw [List.map_map]; rfl
      rw [hres]
      have sAll : Sub H (del H5 it2) := del_sub ((hsub.trans N.sub).trans (hsA.trans s5)) (((hsub.trans N.sub).trans hsA).none_of hit2)
      refine ⟨upd H E (lst ((lsorted (fun v w => keyLe (key v) (key w)) [] xs).take n)), Sub.upd_both sAll, hb.updO hEo, E, rfl, ((hsub.trans N.sub).trans (hsA.trans s5)).none_of hE, hEo, rfl⟩
end
end
section
section
variable {c : Cx} {A : Around} {H : HM} {L : Addr} {m : Loc}
theorem t3_link {key : Value → Key} {el : Value → Value} {od : Value → Int} {r a : Value} (ho : od r < od a) : (decide ((key (el r)).2 ≤ (key (el a)).2) = true → t3lt key el od r a = true) ∧ (decide ((key (el r)).2 ≤ (key (el a)).2) = false → t3lt key el od a r = true) := by
  refine ⟨fun h => ?_, fun h => ?_⟩
  · have h := of_decide_eq_true h
    rw [t3_iff]; omega
  · have h := of_decide_eq_false h
    rw [t3_iff]; omega
theorem le2_tot {key : Value → Key} : TotPre (fun v w => decide ((key v).2 ≤ (key w).2)) :=
  ⟨fun a b => by simp only [decide_eq_true_eq]; omega, fun {a b d} h h' => by simp only [decide_eq_true_eq] at *; omega⟩
/-- between the turns of the loop -/
inductive NsmK (c : Cx) (H1 : HM) (D it l L fr : Addr) (key : Value → Key) (xs : List Value) (n : Nat) (k : Nat) (H' : HM) (m' : Loc) : Prop where
  | mk (i : Nat) (Hb : HM) (ks acc : List Value) (el : Value → Value) (od : Value → Int) (ord : Int) (tk tt : Tok) (hk : k = xs.length - i) (hn : n ≤ i) (hi : i ≤ xs.length) (hH : H' = upd (upd Hb D (lst ks)) it (lit l i))
    (N : NsI c H1 Hb D it L key xs n i (fun v w => decide ((key v).2 ≤ (key w).2)) (T3 Hb key el od) (t3lt key el od) el od ks acc ord)
    (m1 : m' "result" = some (.ref D)) (m2 : m' "top" = some (.int (key (el (ks.getD 0 .none))).2 tt)) (m3 : m' "order" = some (.int ord tk)) (m4 : m' "_heapreplace" = some (.ref fr)) : NsmK c H1 D it l L fr key xs n k H' m'
theorem nsmK_spec {f l T : Addr} {xs : List Value} {Dat : HM} {key : Value → Key} {t : Tok} {n : Nat} {fk : Addr} {RR : Value → Value → Bool}
    (G : GF c) (F : FnAt c f 10 (.ref T) .none) (hT : DefAt c T) (hroom : A.depth + 5 < recursionLimit) (hh : A.handled = none) (hu : A.units + 200 < cLine) (hD : Sub Dat H)
    (hl : H l = some (lst xs)) (hS : ∀ x ∈ xs, PairAt Dat key x) (h2 : 2 ≤ n) (h6 : n ≤ 6) (hn' : n < xs.length) (hz : xs.length < 900) (KM : MarkOK c (.ref fk) Dat (PairAt Dat key) (fun v r => ∃ t, r = .int (key v).2 t) RR) :
    W c A (call (.ref f) [.int n t, .ref l, .ref fk]) H (fun v H' => ∃ D, v = .ref D ∧ H D = none ∧ Own c D ∧ H' = upd H D (lst ((lsorted (fun v w => decide ((key v).2 ≤ (key w).2)) [] xs).take n))) := by
  obtain ⟨oT, nT, hoT, hdT⟩ := hT
  obtain ⟨gi1, gi2⟩ := G.len
  obtain ⟨gs1, gs2⟩ := G.iter
  obtain ⟨gr1, gr2⟩ := G.range
  obtain ⟨gz1, gz2⟩ := G.zip
  obtain ⟨fh, gh, Fh⟩ := G.heapify_max
  obtain ⟨fr, gr, Fr⟩ := G.heapreplace_max
  have hle : TotPre (fun v w => decide ((key v).2 ≤ (key w).2)) := le2_tot
  refine w_callFnB (binds := [("n", .int n t), ("iterable", .ref l), ("key", .ref fk)]) G.ok F (by omega) (fun s I _ _ _ _ _ _ _ => BindsTo.of_defaults (T := T) rfl (I.keeps _ _ hoT) hdT rfl rfl) rfl (fun L => ⟨rfl, trivial⟩) rfl rfl rfl (fun hb q cd L hL => ?_)
  have hcells : addCells H (bindC (envC 10 q cd f L).kindOf [("n", .int n t), ("iterable", .ref l), ("key", .ref fk)] fun _ => none) (envC 10 q cd f L).cells = upd H (L + 1) (isCell (some (.ref fk))) := rfl
  rw [hcells]
  obtain ⟨H1, hH1, hsub, hc1, hb1, hH1L, co1⟩ := cells1 (isCell (some (.ref fk))) hL hb
  rw [hH1]
  have hl1 := hsub _ _ hl
  have hD1 := hD.trans hsub
  refine f_cons ?_
  with_reducible refine w_let ?_
  intro _
  with_reducible refine f_If ?_
  repeat walk_at "e"
  with_reducible refine f_eq ?_
  refine ⟨_, rfl, ?_⟩
  have hne : (((n : Nat) : Int) == 1) = false := by simp; omega
  rw [hne]
  simp only [Bool.false_eq_true, if_false]
  repeat walk_at "e"
  with_reducible refine f_Try ?_
  repeat walk_at "e"
  refine ⟨Callee.builtin _ _, ?_⟩
  with_reducible refine f_len hl1 ?_ (fun t3 => ?_)
  · omega
  repeat walk_at "e"
  with_reducible refine f_If ?_
  repeat walk_at "e"
  with_reducible refine f_ge ?_
  refine ⟨_, rfl, ?_⟩
  have hge : decide ((n : Int) ≥ (xs.length : Nat)) = false := by simp; omega
  rw [hge]
  simp only [Bool.false_eq_true, if_false]
  repeat walk_at "e"
  with_reducible refine f_If ?_
  repeat walk_at "e"
  with_reducible refine f_isNone ?_ ?_
  · rfl
  refine ⟨_, rfl, ?_⟩
  show WF _ _ _ _ _ _ _
  repeat walk_at "e"
  refine ⟨Callee.builtin _ _, ?_⟩
  with_reducible refine f_iterB hl1 (fun it hit hio hiL => ?_)
  obtain ⟨H2, e2, s2, d2⟩ := abst (lit l 0) hit
  rw [e2]
  repeat walk_at "e"
  with_reducible refine f_AssignComp (cl := [("key", L + 1)]) ?_ ?k1 ?k2 ?k3 ?k4 ?k5 ?k6 ?k7 ?k8 ?k9
  case k1 => rfl
  case k2 => rfl
  case k3 => decide
  case k4 => rfl
  case k5 => decide
  case k6 => rfl
  case k7 => rfl
  case k8 => rfl
  case k9 => intro _; rfl
  repeat walk_at "e"
  refine ⟨Callee.type _ _, ?_⟩
  with_reducible refine f_range1 (fun r hr hor hrL => ?_)
  obtain ⟨H3, e3, s3, d3⟩ := abst (rng 0 n 1) hr
  rw [e3]
  repeat walk_at "e"
  refine ⟨Callee.type _ _, ?_⟩
  refine f_zip d3 (small1 (by omega)) (s3 _ _ d2) hio (s3 _ _ (s2 _ _ hl1)) (fun z TI TO ri Hz K hsz hzL zL TL rL => ?_)
  rw [size1]
  have hHz : Sub H1 Hz := (del_sub (s2.trans s3) hit).trans hsz
  intro s I hL' hns
  obtain ⟨oz, hoz, rfl⟩ := I.rep _ _ K.at_z
  refine wpAny_pyIter_zip hoz ⟨_, _, I, hL', hns, ?_⟩
  clear hoz I hL' hns s
  refine compZip (PP := fun j y P => ∃ tt tk, P = tup [.int (key (xs.getD j .none)).2 tt, .int j tk, xs.getD j .none]) hh K (by omega) hz hzL zL TL rL hiL rfl rfl rfl (fun C j tk Hc mc hj hm1 hm2 hsc hC _ => ?_) (fun D Hb rs hDz hDo hDL hDit hbD hsb hbb hbL hbi hlen hnd hrs => ?_)
  · have g1 := hsc _ _ (hHz _ _ hc1)
    have hxj : PairAt Dat key (xs.getD j .none) := hS _ (getD_mem (by omega))
    repeat walk_at "e"
    refine ⟨KM.callee _ ((hD1.trans hHz).trans hsc), ?_⟩
    refine f_specR (fun H' hs' => KM.call _ H' _ (by show A.depth + 1 + 2 < recursionLimit; omega) (by show A.units + 3 + 20 < cLine; omega) (((hD1.trans hHz).trans hsc).trans hs') hxj) (fun r hr => ?_)
    obtain ⟨tt, rfl⟩ := hr
    repeat walk_at "e"
    with_reducible refine f_newTuple ?_ (fun a ha hao haC => ?_)
    · simp
    exact ⟨a, _, rfl, ha, hao, haC, rfl, tt, tk, by rw [Int.mul_one, Int.zero_add]⟩
  show WF _ _ _ _ _ _ _
  have hHb : Sub H1 Hb := hHz.trans hsb
  have hsubQ : ∀ rs i, Sub Hb (upd (upd Hb D (lst rs)) it (lit l i)) := fun rs i => Sub.upd_new (Sub.upd_new (Sub.refl _) hbD) hbi
  obtain ⟨el, od, hel⟩ := refs_data (xs := xs) (fun j => (j : Int)) hlen hnd
  have hT2 : ∀ r ∈ rs, T3 Hb key el od r := fun r hr => by
    obtain ⟨j, hj, rfl⟩ := mem_getD hr
    obtain ⟨a, P, h1, h2', h3, tt, tk, rfl⟩ := hrs j (by omega)
    obtain ⟨e1, e2⟩ := hel j (by omega)
    refine ⟨a, tt, tk, h1, ?_, ?_⟩
    · rw [e1, e2]; exact h2'
    · rw [e1]; exact (hS _ (getD_mem (by omega))).mono (hD1.trans hHb)
  have hlist : ∀ rs i, upd (upd Hb D (lst rs)) it (lit l i) D = some (lst rs) := fun rs i => by rw [upd_ne hDit, upd_same]
  have hrl : rs.length < 1000 := by omega
  have htop : Top (fun v w => decide ((key v).2 ≤ (key w).2)) (t3lt key el od) el n (lsorted (fun v w => decide ((key v).2 ≤ (key w).2)) [] (xs.take n)) (hfy (fun a b => t3lt key el od b a) (rs.length / 2) rs) (lsorted (fun r r' => decide ((key (el r)).2 ≤ (key (el r')).2)) [] rs) :=
    Top.start t3_weak hle (fun _ _ => rfl) hlen (map_el hlen (by omega) fun j hj => (hel j hj).1) (List.pairwise_iff_getElem.mpr fun i j hi hj hij => by
      have e1 := (hel i (by omega)).2
      have e2 := (hel j (by omega)).2
      rw [show rs.getD i .none = rs[i] by simp [hi]] at e1
      rw [show rs.getD j .none = rs[j] by simp [hj]] at e2
      exact t3_link (by omega))
  refine f_cons ?_
  with_reducible refine w_let ?_
  intro _
  with_reducible refine f_If ?_
  with_reducible refine f_tNot ?_
  with_reducible refine f_tVal ?_ ?k1
  case k1 => rfl
  repeat walk_at "e"
  with_reducible refine f_truthyL (hlist _ _) hrl ?_
  have hemp : rs.isEmpty = false := by cases rs with | nil => simp at hlen; omega | cons _ _ => rfl
  rw [hemp]
  show WF _ _ _ _ _ _ _
  repeat walk_at "e"
  refine ⟨Callee.fn Fh (hbb.sub_of (hsubQ _ _)), ?_⟩
  refine f_spec (hlist rs n) (fun H' hs' => heapify_max_spec (Dat := Hb) (S := T3 Hb key el od) (lt := t3lt key el od) G Fh ?_ ?_ ?_ (t3_LtOK c Hb key el od) ((hsubQ _ _).trans hs') hbD (hs' _ _ (hlist _ _)) hT2 hrl) ?_
  · show A.depth + 1 + 2 < recursionLimit; omega
  · exact hh
  · show A.units + 3 + 100 < cLine; omega
  rw [upd_comm (Ne.symm hDit), upd_upd]
  have hT2' : ∀ r ∈ hfy (fun a b => t3lt key el od b a) (rs.length / 2) rs, T3 Hb key el od r := fun r hr => hT2 r ((hfy_perm _ _ (by omega)).mem_iff.mp hr)
  have hnd' : (hfy (fun a b => t3lt key el od b a) (rs.length / 2) rs).Nodup := (hfy_perm _ _ (by omega)).nodup_iff.mpr hnd
  have hod' : ∀ r ∈ hfy (fun a b => t3lt key el od b a) (rs.length / 2) rs, od r < (n : Int) := fun r hr => by
    obtain ⟨j, hj, rfl⟩ := mem_getD ((hfy_perm _ _ (by omega)).mem_iff.mp hr)
    rw [(hel j (by omega)).2]; omega
  generalize hfy (fun a b => t3lt key el od b a) (rs.length / 2) rs = ks at *
  generalize hacc : lsorted (fun r r' => decide ((key (el r)).2 ≤ (key (el r')).2)) [] rs = acc at *
  have hkl := htop.len
  repeat walk_at "e"
  with_reducible refine f_get0 (hlist _ _) ?_ ?_ ?k1
  case k1 => with_unfolding_all rfl
  · omega
  obtain ⟨a0, t0, u0, hk0, hd0, hp0⟩ := hT2' _ (getD_mem (vs := ks) (i := 0) (by omega))
  rw [hk0]
  repeat walk_at "e"
  have hd0' := hsubQ ks n _ _ hd0
  with_reducible refine f_getT0 hd0' ?_ ?k1
  case k1 => with_unfolding_all rfl
  repeat walk_at "e"
  with_reducible refine f_For ?_ ?h1 ?h2
  case h1 => intro _; rfl
  case h2 => intro _ _; rfl
  repeat walk_at "e"
  with_reducible refine f_iterLit (upd_same ..) ?_
  refine forW_of (NsmK c H1 D it l L fr key xs n) (xs.length - n)
    ⟨n, Hb, ks, acc, el, od, n, t, t0, rfl, Nat.le_refl _, by omega, rfl, ⟨hHb, hbb, hbD, hbi, hbL, hT2', hnd', htop, hod'⟩, by walk_at "v", by walk_at "v", by walk_at "v", by walk_at "v"⟩ ?_
  clear hT2 hT2' htop hnd' hod' hk0 hd0 hd0' hp0 hkl hsubQ hlist hel hrs hnd hlen hrl hemp hacc hHb hbb hbD hbi hbL hsb
  rintro k H' m' ⟨i, Hb, ks, acc, el, od, ord, tk, tt, rfl, hni, hi, rfl, N, m1, m2, m3, m4⟩
  have hsubQ : ∀ rs i, Sub Hb (upd (upd Hb D (lst rs)) it (lit l i)) := fun rs i => Sub.upd_new (Sub.upd_new (Sub.refl _) N.nD) N.ni
  have hlist : ∀ rs i, upd (upd Hb D (lst rs)) it (lit l i) D = some (lst rs) := fun rs i => by rw [upd_ne hDit, upd_same]
  have hlx : ∀ rs i, upd (upd Hb D (lst rs)) it (lit l i) l = some (lst xs) := fun rs i => hsubQ rs i _ _ (N.sub _ _ hl1)
  have hkl := N.top.len
  have hsl : (lsorted (fun v w => decide ((key v).2 ≤ (key w).2)) [] (xs.take i)).length = i := by
    have := (lsorted_perm (le := fun v w => decide ((key v).2 ≤ (key w).2)) (xs.take i) []).length_eq
    rw [this]; simp; omega
  have hsp := lsorted_sorted hle (xs.take i) [] .nil
  by_cases hlt : i < xs.length
  · have hx : xs[i]? = some xs[i] := by simp [hlt]
    have hxP : PairAt Dat key xs[i] := hS _ (List.getElem_mem hlt)
    have hxB : PairAt Hb key xs[i] := hxP.mono (hD1.trans N.sub)
    with_reducible refine f_nextL (upd_same ..) hio (hlx _ _) hx ?_
    rw [upd_upd]
    have hsq := hsubQ ks (i + 1)
    have hcq := hsq _ _ (N.sub _ _ hc1)
    repeat walk_at "e"
    refine ⟨KM.callee _ ((hD1.trans N.sub).trans hsq), ?_⟩
    refine f_specR (fun H' hs' => KM.call _ H' _ (by show A.depth + 1 + 2 < recursionLimit; omega) (by show A.units + 3 + 20 < cLine; omega) (((hD1.trans N.sub).trans hsq).trans hs') hxP) (fun r hr => ?_)
    obtain ⟨tr, rfl⟩ := hr
    repeat walk_at "e"
    with_reducible refine f_If ?_
    repeat walk_at "e"
    obtain ⟨ds, hds, _, htopx, _⟩ := N.top.root t3_weak (by omega) (by omega)
    have hstep : lsorted (fun v w => decide ((key v).2 ≤ (key w).2)) [] (xs.take (i + 1)) = lins (fun v w => decide ((key v).2 ≤ (key w).2)) (lsorted (fun v w => decide ((key v).2 ≤ (key w).2)) [] (xs.take i)) xs[i] := by
      rw [List.take_succ_eq_append_getElem hlt, lsorted_snoc]
    have htopx' : el (ks.getD 0 .none) = (lsorted (fun v w => decide ((key v).2 ≤ (key w).2)) [] (xs.take i)).getD (n - 1) .none := htopx
    cases hcmp : decide ((key xs[i]).2 < (key (el (ks.getD 0 .none))).2) with
    | true =>
      simp only [if_true]
      repeat walk_at "e"
      with_reducible refine f_newTuple ?_ (fun a ha hao haL => ?_)
      · simp
      have haD : a ≠ D := by rintro rfl; rw [hlist] at ha; cases ha
      have hai : a ≠ it := by rintro rfl; rw [upd_same] at ha; cases ha
      have hba : Hb a = none := hsq.none_of ha
      rw [upd_comm (Ne.symm hai), upd_comm (Ne.symm haD)]
      have hnew : T3 (upd Hb a (tup [.int (key xs[i]).2 tr, .int ord tk, xs[i]])) key (setV el a xs[i]) (setV od a ord) (.ref a) := T3.new hxB hba
      have hold : ∀ r ∈ ks, T3 (upd Hb a (tup [.int (key xs[i]).2 tr, .int ord tk, xs[i]])) key (setV el a xs[i]) (setV od a ord) r := fun r hr => (N.S_ r hr).grow hba
      have hneA : ∀ r ∈ ks, r ≠ .ref a := fun r hr => (N.S_ r hr).ne hba
      have hmemA : ∀ r ∈ acc, r ∈ ks := fun r hr => N.top.perm.mem_iff.mpr hr
      have htop1 : Top (fun v w => decide ((key v).2 ≤ (key w).2)) (t3lt key (setV el a xs[i]) (setV od a ord)) (setV el a xs[i]) n (lsorted (fun v w => decide ((key v).2 ≤ (key w).2)) [] (xs.take i)) ks acc :=
        N.top.congr (fun r hr => setV_ne (hneA r (hmemA r hr))) (fun r hr r' hr' => t3_setV (hneA r (hmemA r hr)) (hneA r' (hmemA r' hr')))
      have hodA : ∀ r ∈ acc, setV od a ord r < setV od a ord (.ref a) := fun r hr => by rw [setV_same, setV_ne (hneA r (hmemA r hr))]; exact N.od_ r (hmemA r hr)
      obtain ⟨acc', htop2, hacc'⟩ := htop1.put (le' := fun r r' => decide ((key (setV el a xs[i] r)).2 ≤ (key (setV el a xs[i] r')).2)) (a := .ref a) t3_weak hle (fun _ _ => rfl) hsp (by omega) (by omega)
        (by rw [setV_same, ← htopx']; have := of_decide_eq_true hcmp; exact decide_eq_false (by omega)) (fun r hr => (t3_link (hodA r hr)).1) (fun r hr => (t3_link (hodA r hr)).2)
      rw [setV_same, ← hstep] at htop2
      have hks0 : 0 < ks.length := by omega
      have hperm : (sup (fun x y => t3lt key (setV el a xs[i]) (setV od a ord) y x) 0 (ks.set 0 (.ref a))).Perm (.ref a :: ks.drop 1) := (sup_perm (by simpa using hks0)).trans (set0_perm hks0)
      have hSnew : ∀ r ∈ sup (fun x y => t3lt key (setV el a xs[i]) (setV od a ord) y x) 0 (ks.set 0 (.ref a)), T3 (upd Hb a (tup [.int (key xs[i]).2 tr, .int ord tk, xs[i]])) key (setV el a xs[i]) (setV od a ord) r := fun r hr => by
        rcases List.mem_cons.mp (hperm.mem_iff.mp hr) with e | e
        · rw [e]; exact hnew
        · exact hold r (List.mem_of_mem_drop e)
      have hndnew : (sup (fun x y => t3lt key (setV el a xs[i]) (setV od a ord) y x) 0 (ks.set 0 (.ref a))).Nodup := by
        refine hperm.nodup_iff.mpr (List.nodup_cons.mpr ⟨fun hm => hneA _ (List.mem_of_mem_drop hm) rfl, N.nd.sublist (List.drop_sublist _ _)⟩)
      have hodnew : ∀ r ∈ sup (fun x y => t3lt key (setV el a xs[i]) (setV od a ord) y x) 0 (ks.set 0 (.ref a)), setV od a ord r < ord + 1 := fun r hr => by
        rcases List.mem_cons.mp (hperm.mem_iff.mp hr) with e | e
        · rw [e, setV_same]; omega
        · have hm := List.mem_of_mem_drop e
          rw [setV_ne (hneA r hm)]; have := N.od_ r hm; omega
      have hsB : Sub Hb (upd Hb a (tup [.int (key xs[i]).2 tr, .int ord tk, xs[i]])) := Sub.upd_new (Sub.refl _) hba
      have hbB : Bs c (upd Hb a (tup [.int (key xs[i]).2 tr, .int ord tk, xs[i]])) := N.bs.updO hao
      have nD2 : upd Hb a (tup [.int (key xs[i]).2 tr, .int ord tk, xs[i]]) D = none := by rw [upd_ne (Ne.symm haD)]; exact N.nD
      have ni2 : upd Hb a (tup [.int (key xs[i]).2 tr, .int ord tk, xs[i]]) it = none := by rw [upd_ne (Ne.symm hai)]; exact N.ni
      have nL2 : upd Hb a (tup [.int (key xs[i]).2 tr, .int ord tk, xs[i]]) L = none := by rw [upd_ne (Ne.symm haL)]; exact N.nL
      generalize upd Hb a (tup [.int (key xs[i]).2 tr, .int ord tk, xs[i]]) = Hb2 at *
      have hsubQ2 : ∀ rs i, Sub Hb2 (upd (upd Hb2 D (lst rs)) it (lit l i)) := fun rs i => Sub.upd_new (Sub.upd_new (Sub.refl _) nD2) ni2
      have hlist2 : ∀ rs i, upd (upd Hb2 D (lst rs)) it (lit l i) D = some (lst rs) := fun rs i => by rw [upd_ne hDit, upd_same]
      repeat walk_at "e"
      refine ⟨Callee.fn Fr (hbB.sub_of (hsubQ2 _ _)), ?_⟩
      refine f_spec (hlist2 ks (i + 1)) (fun H' hs' => heapreplace_max_spec (Dat := Hb2) (S := T3 Hb2 key (setV el a xs[i]) (setV od a ord)) (lt := t3lt key (setV el a xs[i]) (setV od a ord)) G Fr ?_ ?_ (t3_LtOK c Hb2 key _ _) ((hsubQ2 _ _).trans hs') nD2 (hs' _ _ (hlist2 _ _)) hold hnew hks0 (by omega)) ?_
      · show A.depth + 1 + 2 < recursionLimit; omega
      · show A.units + 3 + 100 < cLine; omega
      rw [upd_comm (Ne.symm hDit), upd_upd]
      generalize sup (fun x y => t3lt key (setV el a xs[i]) (setV od a ord) y x) 0 (ks.set 0 (.ref a)) = ks2 at *
      have hkl2 := htop2.len
      repeat walk_at "e"
      with_reducible refine f_AssignT ?_ ?k1 ?k2
      case k1 => rfl
      case k2 => rfl
      repeat walk_at "e"
      with_reducible refine f_get0 (hlist2 _ _) ?_ ?_ ?k1
      case k1 => with_unfolding_all rfl
      · omega
      obtain ⟨a1, t1, u1, hk1, hd1, hp1⟩ := hSnew _ (getD_mem (vs := ks2) (i := 0) (by omega))
      rw [hk1]
      have hd1' := hsubQ2 ks2 (i + 1) _ _ hd1
      refine f_unpack hh hd1' rfl rfl ?_
      refine f_inOrder ?_
      repeat walk_at "e"
      refine f_inOrder ?_
      repeat walk_at "e"
      refine f_inOrder ?_
      repeat walk_at "e"
      refine f_inOrder0 ?_
      repeat walk_at "e"
      with_reducible refine f_AugN ?_
      with_reducible refine' f_loadL ?hv ?_ ?k1 ?k2 ?k3
      case k1 => rfl
      case k2 => rfl
      case k3 => rfl
      case hv => walk_at "v"
      repeat walk_at "e"
      with_reducible refine f_iadd (fun t5 => ?_)
      repeat walk_at "e"
      refine ⟨xs.length - (i + 1), _, by omega, Sub.refl _, (hbB.updO hDo).updO hio, i + 1, Hb2, ks2, acc', setV el a xs[i], setV od a ord, ord + 1, t5, t1, rfl, by omega, hlt, rfl,
        ⟨N.sub.trans hsB, hbB, nD2, ni2, nL2, hSnew, hndnew, htop2, hodnew⟩, by walk_at "v", by walk_at "v", by walk_at "v", by walk_at "v"⟩
    | false =>
      simp only [Bool.false_eq_true, if_false]
      repeat walk_at "e"
      refine ⟨xs.length - (i + 1), _, by omega, Sub.refl _, (N.bs.updO hDo).updO hio, i + 1, Hb, ks, acc, el, od, ord, tk, tt, rfl, by omega, hlt, rfl, { N with top := ?_ }, by walk_at "v", by walk_at "v", by walk_at "v", by walk_at "v"⟩
      rw [hstep]
      refine N.top.skip hle hsp (by omega) (by omega) ?_
      rw [← htopx']; have := of_decide_eq_false hcmp; exact decide_eq_true (by omega)
  · have hie : i = xs.length := by omega
    subst hie
    rw [List.take_length] at hsl hsp
    have htop := N.top
    rw [List.take_length] at htop
    with_reducible refine f_nextL0 ?_ (upd_same ..) hio (hlx _ _) ?_ ?_
    · exact hh
    · exact Nat.le_refl _
    have hdel : del (upd (upd Hb D (lst ks)) it (lit l xs.length)) it = upd Hb D (lst ks) := del_upd (by rw [upd_ne (Ne.symm hDit)]; exact N.ni) _
    rw [hdel]
    repeat walk_at "e"
    have hlD : upd Hb D (lst ks) D = some (lst ks) := upd_same ..
    with_reducible refine f_methL PySem.F.slot_list_sort PySem.F.type_list_sort hlD ?_
    with_reducible refine f_callWith0 (Callee.builtin _ _) ?_
    obtain ⟨p, hrun, hout⟩ := htop.sorted t3_weak h2 h6 N.nd
    have hsD : Sub Hb (upd Hb D (lst ks)) := Sub.upd_new (Sub.refl _) N.nD
    refine f_spec hlD (fun H' hs' => w_sort (Dat := Hb) (b := false) (kw := []) (t3_SortOK c Hb key el od) (hsD.trans hs') N.nD ?_ (hs' _ _ hlD) (by omega) (by omega) N.S_ (shell_0 D) (args_list_sort _) hrun) ?_
    · show A.units + 3 + 30 < cLine; omega
    rw [hout, upd_upd]
    have hal : acc.length = n := htop.perm.length_eq.symm.trans htop.len
    repeat walk_at "e"
    with_reducible refine f_Comp (cl := []) ?_ ?k1 ?k2 ?k3 ?k4 ?k5
    case k1 => rfl
    case k2 => decide
    case k3 => rfl
    case k4 => decide
    case k5 => intro _; rfl
    repeat walk_at "e"
    have hlA : upd Hb D (lst acc) D = some (lst acc) := upd_same ..
    with_reducible refine f_iterL hlA (fun it2 hit2 hio2 hiL2 => ?_)
    obtain ⟨H5, e5, s5, d5⟩ := abst (lit D 0) hit2
    rw [e5]
    have hsA : Sub Hb (upd Hb D (lst acc)) := Sub.upd_new (Sub.refl _) N.nD
    have hLA : upd Hb D (lst acc) L = none := by rw [upd_ne (Ne.symm hDL)]; exact N.nL
    refine compW_seq (n := acc.length) (Src := upd Hb D (lst acc)) (iter_list hio2 hit2 (.inl hh) hlA) (by omega) ?_ d5 s5 (fun j => el (acc.getD j .none)) ?_ ?_
    · rw [← e5, upd_ne (Ne.symm hiL2)]; exact hLA
    · intro C j v Hc mc hj hv hsubc hitc hC
      have hvj : v = acc.getD j .none := by simp [hv]
      have hsc : Sub (upd Hb D (lst acc)) Hc := (del_sub (Sub.upd_new s5 hLA) hit2).trans hsubc
      obtain ⟨a1, t1, u1, hk1, hd1, hp1⟩ := N.S_ v (htop.perm.mem_iff.mpr (by rw [hvj]; exact getD_mem hj))
      rw [hk1]
      refine f_goL hitc ?_
      have hd1' := hsc _ _ (hsA _ _ hd1)
      refine f_unpack hh hd1' rfl rfl ?_
      refine f_inOrder ?_
      repeat walk_at "e"
      refine f_inOrder ?_
      repeat walk_at "e"
      refine f_inOrder ?_
      repeat walk_at "e"
      refine f_inOrder0 ?_
      repeat walk_at "e"
      exact ⟨by rw [hvj], Sub.refl _⟩
    · intro E hE hEo hEL
      have hres : (List.range acc.length).map (fun j => el (acc.getD j .none)) = (lsorted (fun v w => decide ((key v).2 ≤ (key w).2)) [] xs).take n := by
        rw [← htop.map]
        conv => rhs; rw [← map_getD acc]
        rw [List.map_map]; rfl
      rw [hres]
      have sAll : Sub H (del H5 it2) := del_sub ((hsub.trans N.sub).trans (hsA.trans s5)) (((hsub.trans N.sub).trans hsA).none_of hit2)
      refine ⟨upd H E (lst ((lsorted (fun v w => decide ((key v).2 ≤ (key w).2)) [] xs).take n)), Sub.upd_both sAll, hb.updO hEo, E, rfl, ((hsub.trans N.sub).trans (hsA.trans s5)).none_of hE, hEo, rfl⟩
end
end
section
section
variable {c : Cx} {A : Around} {H : HM} {L : Addr} {m : Loc}
theorem nlg1_spec {f l T : Addr} {xs : List Value} {Dat : HM} {key : Value → Key} {t : Tok}
    (G : GF c) (F : FnAt c f 11 (.ref T) .none) (hT : DefAt c T) (hroom : A.depth + 2 < recursionLimit) (hh : A.handled = none) (hu : A.units + 100 < cLine) (hD : Sub Dat H)
    (hl : H l = some (lst xs)) (hS : ∀ x ∈ xs, PairAt Dat key x) (hz : xs.length < 900) (h0 : 0 < xs.length) :
    W c A (call (.ref f) [.int 1 t, .ref l]) H (fun v H' => ∃ D, v = .ref D ∧ H D = none ∧ Own c D ∧ H' = upd H D (lst [bestOf (fun v w => keyLt (key w) (key v)) (xs.getD 0 .none) (xs.drop 1)])) := by
  obtain ⟨oT, nT, hoT, hdT⟩ := hT
  obtain ⟨gi1, gi2⟩ := G.iter
  obtain ⟨go1, go2⟩ := G.object
  obtain ⟨gm1, gm2⟩ := G.max
  refine w_callFnB (binds := [("n", .int 1 t), ("iterable", .ref l), ("key", .none)]) G.ok F (by omega) (fun s I _ _ _ _ _ _ _ => BindsTo.of_defaults (T := T) rfl (I.keeps _ _ hoT) hdT rfl rfl) rfl (fun L => ⟨rfl, trivial⟩) rfl rfl rfl (fun hb q cd L hL => ?_)
  have hcells : addCells H (bindC (envC 11 q cd f L).kindOf [("n", .int 1 t), ("iterable", .ref l), ("key", .none)] fun _ => none) (envC 11 q cd f L).cells = upd H (L + 1) (isCell (some .none)) := rfl
  rw [hcells]
  obtain ⟨H1, hH1, hsub, hc1, hb1, hH1L, co1⟩ := cells1 (isCell (some .none)) hL hb
  rw [hH1]
  have hl1 := hsub _ _ hl
  refine f_cons ?_
  with_reducible refine w_let ?_
  intro _
  with_reducible refine f_If ?_
  repeat walk_at "e"
  with_reducible refine f_eq ?_
  refine ⟨_, rfl, ?_⟩
  show WF _ _ _ _ _ _ _
  repeat walk_at "e"
  refine ⟨Callee.builtin _ _, ?_⟩
  with_reducible refine f_iterB hl1 (fun it hit hio hiL => ?_)
  obtain ⟨H2, e2, s2, d2⟩ := abst (lit l 0) hit
  rw [e2]
  repeat walk_at "e"
  with_reducible refine f_callWith0 (Callee.type _ _) ?_
  with_reducible refine f_object (fun se hse hso hsL => ?_)
  obtain ⟨H3, e3, s3, d3⟩ := abst objP hse
  rw [e3]
  have hc3 := s3 _ _ (s2 _ _ hc1)
  repeat walk_at "e"
  with_reducible refine f_callKW ?_ ?k1 ?k2 ?k3
  case k1 => rfl
  case k2 => rfl
  case k3 => rfl
  repeat walk_at "e"
  with_reducible refine f_kw ?_
  repeat walk_at "e"
  with_reducible refine f_kw ?_
  repeat walk_at "e"
  with_reducible refine f_kw0 ?_
  refine ⟨Callee.builtin _ _, ?_⟩
  have hi3 := s3 _ _ d2
  have hD3 : Sub Dat (del H3 it) := del_sub (hD.trans (hsub.trans (s2.trans s3))) ((hD.trans hsub).none_of hit)
  have hl3 := s3 _ _ (s2 _ _ hl1)
  refine f_specM (r := bestOf (fun v w => keyLt (key w) (key v)) (xs.getD 0 .none) (xs.drop 1)) hi3 (fun H' hs' => ?_) (fun S hSn hSo hSL => ?_)
  · refine w_max (Dat := Dat) (key := key) hh ?_ ?_ (hs' _ _ hi3) hio (hs' _ _ hl3) h0 hS (fun B H' s v w I hs hu hv hw => pair_gt I hs (hS _ hv) (hS _ hw) ?_)
    · show A.units + 3 + 20 < cLine; omega
    · exact del_sub ((hD.trans (hsub.trans (s2.trans s3))).trans hs') ((hD.trans hsub).none_of hit)
    · have : (A.deeper (envC 11 q cd f L)).units = A.units + 3 := rfl
      omega
  have hbest : PairAt Dat key (bestOf (fun v w => keyLt (key w) (key v)) (xs.getD 0 .none) (xs.drop 1)) := by
    rcases bestOf_mem (bt := fun v w => keyLt (key w) (key v)) (xs := xs.drop 1) (v := xs.getD 0 .none) with h | h
    · rw [h]; exact hS _ (getD_mem h0)
    · exact hS _ (List.mem_of_mem_drop h)
  generalize hbst : bestOf (fun v w => keyLt (key w) (key v)) (xs.getD 0 .none) (xs.drop 1) = best at *
  have hHse : H se = none := (hsub.trans s2).none_of hse
  have hitse : it ≠ se := by rintro rfl; rw [d2] at hse; cases hse
  have hSe : S ≠ se := by rintro rfl; rw [d3] at hSn; cases hSn
  have s4 : Sub H (upd (del H3 it) S (lst [])) := Sub.upd_new (del_sub (hsub.trans (s2.trans s3)) (hsub.none_of hit)) ((hsub.trans (s2.trans s3)).none_of hSn)
  have d4 : upd (del H3 it) S (lst []) se = some objP := by rw [upd_ne (Ne.symm hSe), del_ne (Ne.symm hitse)]; exact d3
  generalize upd (del H3 it) S (lst []) = H4 at *
  repeat walk_at "e"
  with_reducible refine f_IfExp ?_
  repeat walk_at "e"
  refine f_isOther (a := 0) (hD.trans s4) hbest d4 ⟨_, rfl, ?_⟩
  show WF _ _ _ _ _ _ _
  repeat walk_at "e"
  with_reducible refine f_newList ?_ (fun D hDn hDo hDL => ?_)
  · simp
  exact ⟨upd H D (lst [best]), Sub.upd_both s4, hb.updO hDo, D, rfl, s4.none_of hDn, hDo, by rw [hbst]⟩
theorem nlgS_spec {f l T : Addr} {xs : List Value} {Dat : HM} {key : Value → Key} {t : Tok} {n : Nat}
    (G : GF c) (F : FnAt c f 11 (.ref T) .none) (hT : DefAt c T) (hroom : A.depth + 2 < recursionLimit) (hh : A.handled = none) (hu : A.units + 100 < cLine) (hD : Sub Dat H)
    (hl : H l = some (lst xs)) (hS : ∀ x ∈ xs, PairAt Dat key x) (hn : n ≠ 1) (hn' : xs.length ≤ n) (h2 : 2 ≤ xs.length) (h6 : xs.length ≤ 6) (hnd : xs.Nodup) (hst : StrictOn (fun v w => keyLt (key v) (key w)) xs) :
    W c A (call (.ref f) [.int n t, .ref l]) H (fun v H' => ∃ D out, v = .ref D ∧ H D = none ∧ Own c D ∧ H' = upd H D (lst out) ∧ out.Perm xs ∧ out.Pairwise (fun v w => keyLt (key w) (key v) = true)) := by
  obtain ⟨oT, nT, hoT, hdT⟩ := hT
  obtain ⟨gi1, gi2⟩ := G.len
  obtain ⟨gs1, gs2⟩ := G.sorted
  obtain ⟨p, hrun, hperm, hpw⟩ := sort_vs h2 h6 hnd hst true
  refine w_callFnB (binds := [("n", .int n t), ("iterable", .ref l), ("key", .none)]) G.ok F (by omega) (fun s I _ _ _ _ _ _ _ => BindsTo.of_defaults (T := T) rfl (I.keeps _ _ hoT) hdT rfl rfl) rfl (fun L => ⟨rfl, trivial⟩) rfl rfl rfl (fun hb q cd L hL => ?_)
  have hcells : addCells H (bindC (envC 11 q cd f L).kindOf [("n", .int n t), ("iterable", .ref l), ("key", .none)] fun _ => none) (envC 11 q cd f L).cells = upd H (L + 1) (isCell (some .none)) := rfl
  rw [hcells]
  obtain ⟨H1, hH1, hsub, hc1, hb1, hH1L, co1⟩ := cells1 (isCell (some .none)) hL hb
  rw [hH1]
  have hl1 := hsub _ _ hl
  refine f_cons ?_
  with_reducible refine w_let ?_
  intro _
  with_reducible refine f_If ?_
  repeat walk_at "e"
  with_reducible refine f_eq ?_
  refine ⟨_, rfl, ?_⟩
  have hne : (((n : Nat) : Int) == 1) = false := by simp; omega
  rw [hne]
  simp only [Bool.false_eq_true, if_false]
  repeat walk_at "e"
  with_reducible refine f_Try ?_
  repeat walk_at "e"
  refine ⟨Callee.builtin _ _, ?_⟩
  with_reducible refine f_len hl1 ?_ (fun t3 => ?_)
  · omega
  repeat walk_at "e"
  with_reducible refine f_If ?_
  repeat walk_at "e"
  with_reducible refine f_ge ?_
  refine ⟨_, rfl, ?_⟩
  have hge : decide ((n : Int) ≥ (xs.length : Nat)) = true := by simp; omega
  rw [hge]
  simp only [if_true]
  repeat walk_at "e"
  with_reducible refine f_callKW ?_ ?k1 ?k2 ?k3
  case k1 => rfl
  case k2 => rfl
  case k3 => rfl
  repeat walk_at "e"
  with_reducible refine f_kw ?_
  repeat walk_at "e"
  with_reducible refine f_kw ?_
  repeat walk_at "e"
  with_reducible refine f_kw0 ?_
  refine ⟨Callee.builtin _ _, ?_⟩
  refine f_specN (P := lst (flip true (p.toList.map fun i => (flip true xs).getD i .none))) (fun H' hs' => ?_) (fun D hDn hDo hDL => ?_)
  · refine w_sorted (pairs_SortOK c Dat key) ((hD.trans hsub).trans hs') ?_ (hs' _ _ hl1) h2 (by omega) hS shell_kr args_sort_kr args_sorted_kr hrun
    show A.units + 3 + 40 < cLine; omega
  generalize hout : flip true (p.toList.map fun i => (flip true xs).getD i .none) = out at *
  obtain ⟨H2, e2, s2, d2⟩ := abst (lst out) hDn
  rw [e2]
  repeat walk_at "e"
  intro sl hsl hslo hslL
  obtain ⟨H3, e3, s3, d3⟩ := abst (slc .none (.int (n : Nat) t) .none) hsl
  rw [e3]
  have hol : out.length = xs.length := hperm.length_eq
  refine f_cut (s3 _ _ d2) d3 (by omega) .none (.int _ _) .none (by simp) (pick_upto out n) (fun D1 h1 h2 h3 => ?_) (by with_unfolding_all rfl)
  have sAll : Sub H H3 := hsub.trans (s2.trans s3)
  refine ⟨upd H D1 (lst out), ?_, hb.updO h2, D1, out, rfl, sAll.none_of h1, h2, rfl, hperm, by simpa using hpw⟩
  rw [List.take_of_length_le (by omega)]
  exact Sub.upd_both sAll
end
end
section
theorem size3 (n : Nat) : Builtin.Range.rangeSize 0 (-(n : Int)) (-1) = n := by
  unfold Builtin.Range.rangeSize
  simp
  omega
theorem small3 {n : Nat} (h : n < 1000) : Builtin.Range.small 0 (-(n : Int)) (-1) = true := by
  unfold Builtin.Range.small
  rw [size3]
  simp [Builtin.Range.rangeFitsLong]
  omega
/-- between the turns of nlargest's loop -/
inductive NlgH (c : Cx) (H1 : HM) (D it l L fr : Addr) (key : Value → Key) (xs : List Value) (n : Nat) (k : Nat) (H' : HM) (m' : Loc) : Prop where
  | mk (i : Nat) (Hb : HM) (ks acc : List Value) (el : Value → Value) (od : Value → Int) (ord : Int) (tk : Tok) (hk : k = xs.length - i) (hn : n ≤ i) (hi : i ≤ xs.length) (hH : H' = upd (upd Hb D (lst ks)) it (lit l i))
    (N : NsI c H1 Hb D it L key xs n i (fun v w => keyLe (key w) (key v)) (T2 Hb key el od) (fun a b => t2lt key el od b a) el (fun r => - od r) ks acc (-ord))
    (m1 : m' "result" = some (.ref D)) (m2 : m' "top" = some (el (ks.getD 0 .none))) (m3 : m' "order" = some (.int ord tk)) (m4 : m' "_heapreplace" = some (.ref fr)) : NlgH c H1 D it l L fr key xs n k H' m'
section
variable {c : Cx} {A : Around} {H : HM} {L : Addr} {m : Loc}
theorem nlgH_spec {f l T : Addr} {xs : List Value} {Dat : HM} {key : Value → Key} {t : Tok} {n : Nat}
    (G : GF c) (F : FnAt c f 11 (.ref T) .none) (hT : DefAt c T) (hroom : A.depth + 5 < recursionLimit) (hh : A.handled = none) (hu : A.units + 200 < cLine) (hD : Sub Dat H)
    (hl : H l = some (lst xs)) (hS : ∀ x ∈ xs, PairAt Dat key x) (h2 : 2 ≤ n) (h6 : n ≤ 6) (hn' : n < xs.length) (hz : xs.length < 900) :
    W c A (call (.ref f) [.int n t, .ref l]) H (fun v H' => ∃ D, v = .ref D ∧ H D = none ∧ Own c D ∧ H' = upd H D (lst ((lsorted (fun v w => keyLe (key w) (key v)) [] xs).take n))) := by
  obtain ⟨oT, nT, hoT, hdT⟩ := hT
  obtain ⟨gi1, gi2⟩ := G.len
  obtain ⟨gs1, gs2⟩ := G.iter
  obtain ⟨gr1, gr2⟩ := G.range
  obtain ⟨gz1, gz2⟩ := G.zip
  obtain ⟨fh, gh, Fh⟩ := G.heapify
  obtain ⟨fr, gr, Fr⟩ := G.heapreplace
  have hle : TotPre (fun v w => keyLe (key w) (key v)) := (le_tot (f := key) (lt := fun a b => keyLt b a) pair_weak.flip).of fun a b => keyLe_eq _ _
  refine w_callFnB (binds := [("n", .int n t), ("iterable", .ref l), ("key", .none)]) G.ok F (by omega) (fun s I _ _ _ _ _ _ _ => BindsTo.of_defaults (T := T) rfl (I.keeps _ _ hoT) hdT rfl rfl) rfl (fun L => ⟨rfl, trivial⟩) rfl rfl rfl (fun hb q cd L hL => ?_)
  have hcells : addCells H (bindC (envC 11 q cd f L).kindOf [("n", .int n t), ("iterable", .ref l), ("key", .none)] fun _ => none) (envC 11 q cd f L).cells = upd H (L + 1) (isCell (some .none)) := rfl
  rw [hcells]
  obtain ⟨H1, hH1, hsub, hc1, hb1, hH1L, co1⟩ := cells1 (isCell (some .none)) hL hb
  rw [hH1]
  have hl1 := hsub _ _ hl
  have hD1 := hD.trans hsub
  refine f_cons ?_
  with_reducible refine w_let ?_
  intro _
  with_reducible refine f_If ?_
  repeat walk_at "e"
  with_reducible refine f_eq ?_
  refine ⟨_, rfl, ?_⟩
  have hne : (((n : Nat) : Int) == 1) = false := by simp; omega
  rw [hne]
  simp only [Bool.false_eq_true, if_false]
  repeat walk_at "e"
  with_reducible refine f_Try ?_
  repeat walk_at "e"
  refine ⟨Callee.builtin _ _, ?_⟩
  with_reducible refine f_len hl1 ?_ (fun t3 => ?_)
  · omega
  repeat walk_at "e"
  with_reducible refine f_If ?_
  repeat walk_at "e"
  with_reducible refine f_ge ?_
  refine ⟨_, rfl, ?_⟩
  have hge : decide ((n : Int) ≥ (xs.length : Nat)) = false := by simp; omega
  rw [hge]
  simp only [Bool.false_eq_true, if_false]
  repeat walk_at "e"
  with_reducible refine f_If ?_
  repeat walk_at "e"
  with_reducible refine f_isNone ?_ ?_
  · rfl
  refine ⟨_, rfl, ?_⟩
  show WF _ _ _ _ _ _ _
  repeat walk_at "e"
  refine ⟨Callee.builtin _ _, ?_⟩
  with_reducible refine f_iterB hl1 (fun it hit hio hiL => ?_)
  obtain ⟨H2, e2, s2, d2⟩ := abst (lit l 0) hit
  rw [e2]
  repeat walk_at "e"
  with_reducible refine f_AssignComp (cl := []) ?_ ?k1 ?k2 ?k3 ?k4 ?k5 ?k6 ?k7 ?k8 ?k9
  case k1 => rfl
  case k2 => rfl
  case k3 => decide
  case k4 => rfl
  case k5 => decide
  case k6 => rfl
  case k7 => rfl
  case k8 => rfl
  case k9 => intro _; rfl
  repeat walk_at "e"
  with_reducible refine f_UnaryOp ?_
  repeat walk_at "e"
  with_reducible refine f_neg (fun t8 => ?_)
  repeat walk_at "e"
  with_reducible refine f_UnaryOp ?_
  repeat walk_at "e"
  with_reducible refine f_neg (fun t7 => ?_)
  repeat walk_at "e"
  refine ⟨Callee.type _ _, ?_⟩
  with_reducible refine f_range3 ?_ ?_ (fun r hr hor hrL => ?_)
  · decide
  · exact PyProof.noPylong_small (by decide)
  obtain ⟨H3, e3, s3, d3⟩ := abst (rng 0 (-(n : Int)) (-1)) hr
  rw [e3]
  repeat walk_at "e"
  refine ⟨Callee.type _ _, ?_⟩
  refine f_zip d3 (small3 (by omega)) (s3 _ _ d2) hio (s3 _ _ (s2 _ _ hl1)) (fun z TI TO ri Hz K hsz hzL zL TL rL => ?_)
  rw [size3]
  have hHz : Sub H1 Hz := (del_sub (s2.trans s3) hit).trans hsz
  intro s I hL' hns
  obtain ⟨oz, hoz, rfl⟩ := I.rep _ _ K.at_z
  refine wpAny_pyIter_zip hoz ⟨_, _, I, hL', hns, ?_⟩
  clear hoz I hL' hns s
  refine compZip (PP := fun j y P => ∃ tk, P = tup [xs.getD j .none, .int (-(j : Int)) tk]) hh K (by omega) hz hzL zL TL rL hiL rfl rfl rfl (fun C j tk Hc mc hj hm1 hm2 hsc hC _ => ?_) (fun D Hb rs hDz hDo hDL hDit hbD hsb hbb hbL hbi hlen hnd hrs => ?_)
  · repeat walk_at "e"
    with_reducible refine f_newTuple ?_ (fun a ha hao haC => ?_)
    · simp
    exact ⟨a, _, rfl, ha, hao, haC, rfl, tk, by rw [show (0 : Int) + j * (-1) = -(j : Int) by omega]⟩
  show WF _ _ _ _ _ _ _
  have hHb : Sub H1 Hb := hHz.trans hsb
  have hsubQ : ∀ rs i, Sub Hb (upd (upd Hb D (lst rs)) it (lit l i)) := fun rs i => Sub.upd_new (Sub.upd_new (Sub.refl _) hbD) hbi
  obtain ⟨el, od, hel⟩ := refs_data (xs := xs) (fun j => -(j : Int)) hlen hnd
  have hT2 : ∀ r ∈ rs, T2 Hb key el od r := fun r hr => by
    obtain ⟨j, hj, rfl⟩ := mem_getD hr
    obtain ⟨a, P, h1, h2', h3, tk, rfl⟩ := hrs j (by omega)
    obtain ⟨e1, e2⟩ := hel j (by omega)
    refine ⟨a, tk, h1, ?_, ?_⟩
    · rw [e1, e2]; exact h2'
    · rw [e1]; exact (hS _ (getD_mem (by omega))).mono (hD1.trans hHb)
  have hlist : ∀ rs i, upd (upd Hb D (lst rs)) it (lit l i) D = some (lst rs) := fun rs i => by rw [upd_ne hDit, upd_same]
  have hrl : rs.length < 1000 := by omega
  have htop : Top (fun v w => keyLe (key w) (key v)) (fun a b => t2lt key el od b a) el n (lsorted (fun v w => keyLe (key w) (key v)) [] (xs.take n)) (hfy (t2lt key el od) (rs.length / 2) rs) (lsorted (fun r r' => keyLe (key (el r')) (key (el r))) [] rs) :=
    Top.start t2_weak.flip hle (fun _ _ => rfl) hlen (map_el hlen (by omega) fun j hj => (hel j hj).1) (List.pairwise_iff_getElem.mpr fun i j hi hj hij => by
      have e1 := (hel i (by omega)).2
      have e2 := (hel j (by omega)).2
      rw [show rs.getD i .none = rs[i] by simp [hi]] at e1
      rw [show rs.getD j .none = rs[j] by simp [hj]] at e2
      exact t2_link (by omega))
  refine f_cons ?_
  with_reducible refine w_let ?_
  intro _
  with_reducible refine f_If ?_
  with_reducible refine f_tNot ?_
  with_reducible refine f_tVal ?_ ?k1
  case k1 => rfl
  repeat walk_at "e"
  with_reducible refine f_truthyL (hlist _ _) hrl ?_
  have hemp : rs.isEmpty = false := by cases rs with | nil => simp at hlen; omega | cons _ _ => rfl
  rw [hemp]
  show WF _ _ _ _ _ _ _
  repeat walk_at "e"
  refine ⟨Callee.fn Fh (hbb.sub_of (hsubQ _ _)), ?_⟩
  refine f_spec (hlist rs n) (fun H' hs' => heapify_spec (Dat := Hb) (S := T2 Hb key el od) (lt := t2lt key el od) G Fh ?_ ?_ ?_ (t2_LtOK c Hb key el od) ((hsubQ _ _).trans hs') hbD (hs' _ _ (hlist _ _)) hT2 hrl) ?_
  · show A.depth + 1 + 2 < recursionLimit; omega
  · exact hh
  · show A.units + 3 + 100 < cLine; omega
  rw [upd_comm (Ne.symm hDit), upd_upd]
  have hT2' : ∀ r ∈ hfy (t2lt key el od) (rs.length / 2) rs, T2 Hb key el od r := fun r hr => hT2 r ((hfy_perm _ _ (by omega)).mem_iff.mp hr)
  have hnd' : (hfy (t2lt key el od) (rs.length / 2) rs).Nodup := (hfy_perm _ _ (by omega)).nodup_iff.mpr hnd
  have hod' : ∀ r ∈ hfy (t2lt key el od) (rs.length / 2) rs, - od r < - (-(n : Int)) := fun r hr => by
    obtain ⟨j, hj, rfl⟩ := mem_getD ((hfy_perm _ _ (by omega)).mem_iff.mp hr)
    rw [(hel j (by omega)).2]; omega
  generalize hfy (t2lt key el od) (rs.length / 2) rs = ks at *
  generalize hacc : lsorted (fun r r' => keyLe (key (el r')) (key (el r))) [] rs = acc at *
  have hkl := htop.len
  repeat walk_at "e"
  with_reducible refine f_get0 (hlist _ _) ?_ ?_ ?k1
  case k1 => with_unfolding_all rfl
  · omega
  obtain ⟨a0, t0, hk0, hd0, hp0⟩ := hT2' _ (getD_mem (vs := ks) (i := 0) (by omega))
  rw [hk0]
  repeat walk_at "e"
  have hd0' := hsubQ ks n _ _ hd0
  with_reducible refine f_getT0 hd0' ?_ ?k1
  case k1 => with_unfolding_all rfl
  repeat walk_at "e"
  with_reducible refine f_UnaryOp ?_
  repeat walk_at "e"
  with_reducible refine f_neg (fun t9 => ?_)
  repeat walk_at "e"
  with_reducible refine f_For ?_ ?h1 ?h2
  case h1 => intro _; rfl
  case h2 => intro _ _; rfl
  repeat walk_at "e"
  with_reducible refine f_iterLit (upd_same ..) ?_
  refine forW_of (NlgH c H1 D it l L fr key xs n) (xs.length - n)
    ⟨n, Hb, ks, acc, el, od, -n, t9, rfl, Nat.le_refl _, by omega, rfl, ⟨hHb, hbb, hbD, hbi, hbL, hT2', hnd', htop, hod'⟩, by walk_at "v", by walk_at "v", by walk_at "v", by walk_at "v"⟩ ?_
  clear hT2 hT2' htop hnd' hod' hk0 hd0 hd0' hp0 hkl hsubQ hlist hel hrs hnd hlen hrl hemp hacc hHb hbb hbD hbi hbL hsb
  rintro k H' m' ⟨i, Hb, ks, acc, el, od, ord, tk, rfl, hni, hi, rfl, N, m1, m2, m3, m4⟩
  have hsubQ : ∀ rs i, Sub Hb (upd (upd Hb D (lst rs)) it (lit l i)) := fun rs i => Sub.upd_new (Sub.upd_new (Sub.refl _) N.nD) N.ni
  have hlist : ∀ rs i, upd (upd Hb D (lst rs)) it (lit l i) D = some (lst rs) := fun rs i => by rw [upd_ne hDit, upd_same]
  have hlx : ∀ rs i, upd (upd Hb D (lst rs)) it (lit l i) l = some (lst xs) := fun rs i => hsubQ rs i _ _ (N.sub _ _ hl1)
  have hkl := N.top.len
  have hsl : (lsorted (fun v w => keyLe (key w) (key v)) [] (xs.take i)).length = i := by
    have := (lsorted_perm (le := fun v w => keyLe (key w) (key v)) (xs.take i) []).length_eq
    rw [this]; simp; omega
  have hsp := lsorted_sorted hle (xs.take i) [] .nil
  by_cases hlt : i < xs.length
  · have hx : xs[i]? = some xs[i] := by simp [hlt]
    have hxP : PairAt Dat key xs[i] := hS _ (List.getElem_mem hlt)
    have hxB : PairAt Hb key xs[i] := hxP.mono (hD1.trans N.sub)
    with_reducible refine f_nextL (upd_same ..) hio (hlx _ _) hx ?_
    rw [upd_upd]
    repeat walk_at "e"
    with_reducible refine f_If ?_
    repeat walk_at "e"
    obtain ⟨a0, t0, hk0, hd0, hp0⟩ := N.S_ _ (getD_mem (vs := ks) (i := 0) (by omega))
    have hsq := hsubQ ks (i + 1)
    refine f_ltP ?_ hsq hp0 hxB ⟨_, rfl, ?_⟩
    · show A.units + 3 < cLine; omega
    obtain ⟨ds, hds, _, htopx, _⟩ := N.top.root t2_weak.flip (by omega) (by omega)
    have hstep : lsorted (fun v w => keyLe (key w) (key v)) [] (xs.take (i + 1)) = lins (fun v w => keyLe (key w) (key v)) (lsorted (fun v w => keyLe (key w) (key v)) [] (xs.take i)) xs[i] := by
      rw [List.take_succ_eq_append_getElem hlt, lsorted_snoc]
    have htopx' : el (ks.getD 0 .none) = (lsorted (fun v w => keyLe (key w) (key v)) [] (xs.take i)).getD (n - 1) .none := htopx
    cases hcmp : keyLt (key (el (ks.getD 0 .none))) (key xs[i]) with
    | true =>
      simp only [if_true]
      repeat walk_at "e"
      with_reducible refine f_newTuple ?_ (fun a ha hao haL => ?_)
      · simp
      have haD : a ≠ D := by rintro rfl; rw [hlist] at ha; cases ha
      have hai : a ≠ it := by rintro rfl; rw [upd_same] at ha; cases ha
      have hba : Hb a = none := hsq.none_of ha
      rw [upd_comm (Ne.symm hai), upd_comm (Ne.symm haD)]
      have hnew : T2 (upd Hb a (tup [xs[i], .int ord tk])) key (setV el a xs[i]) (setV od a ord) (.ref a) := T2.new hxB hba
      have hold : ∀ r ∈ ks, T2 (upd Hb a (tup [xs[i], .int ord tk])) key (setV el a xs[i]) (setV od a ord) r := fun r hr => (N.S_ r hr).grow hba
      have hneA : ∀ r ∈ ks, r ≠ .ref a := fun r hr => (N.S_ r hr).ne hba
      have hmemA : ∀ r ∈ acc, r ∈ ks := fun r hr => N.top.perm.mem_iff.mpr hr
      have htop1 : Top (fun v w => keyLe (key w) (key v)) (fun x y => t2lt key (setV el a xs[i]) (setV od a ord) y x) (setV el a xs[i]) n (lsorted (fun v w => keyLe (key w) (key v)) [] (xs.take i)) ks acc :=
        N.top.congr (fun r hr => setV_ne (hneA r (hmemA r hr))) (fun r hr r' hr' => t2_setV (hneA r' (hmemA r' hr')) (hneA r (hmemA r hr)))
      have hodA : ∀ r ∈ acc, setV od a ord (.ref a) < setV od a ord r := fun r hr => by rw [setV_same, setV_ne (hneA r (hmemA r hr))]; have := N.od_ r (hmemA r hr); omega
      obtain ⟨acc', htop2, hacc'⟩ := htop1.put (le' := fun r r' => keyLe (key (setV el a xs[i] r')) (key (setV el a xs[i] r))) (a := .ref a) t2_weak.flip hle (fun _ _ => rfl) hsp (by omega) (by omega)
        (by rw [setV_same, ← htopx', keyLe_eq, hcmp]; rfl) (fun r hr => (t2_link (hodA r hr)).1) (fun r hr => (t2_link (hodA r hr)).2)
      rw [setV_same, ← hstep] at htop2
      have hks0 : 0 < ks.length := by omega
      have hperm : (sup (t2lt key (setV el a xs[i]) (setV od a ord)) 0 (ks.set 0 (.ref a))).Perm (.ref a :: ks.drop 1) := (sup_perm (by simpa using hks0)).trans (set0_perm hks0)
      have hSnew : ∀ r ∈ sup (t2lt key (setV el a xs[i]) (setV od a ord)) 0 (ks.set 0 (.ref a)), T2 (upd Hb a (tup [xs[i], .int ord tk])) key (setV el a xs[i]) (setV od a ord) r := fun r hr => by
        rcases List.mem_cons.mp (hperm.mem_iff.mp hr) with e | e
        · rw [e]; exact hnew
        · exact hold r (List.mem_of_mem_drop e)
      have hndnew : (sup (t2lt key (setV el a xs[i]) (setV od a ord)) 0 (ks.set 0 (.ref a))).Nodup := by
        refine hperm.nodup_iff.mpr (List.nodup_cons.mpr ⟨fun hm => hneA _ (List.mem_of_mem_drop hm) rfl, N.nd.sublist (List.drop_sublist _ _)⟩)
      have hodnew : ∀ r ∈ sup (t2lt key (setV el a xs[i]) (setV od a ord)) 0 (ks.set 0 (.ref a)), - setV od a ord r < -(ord - 1) := fun r hr => by
        rcases List.mem_cons.mp (hperm.mem_iff.mp hr) with e | e
        · rw [e, setV_same]; omega
        · have hm := List.mem_of_mem_drop e
          rw [setV_ne (hneA r hm)]; have := N.od_ r hm; omega
      have hsB : Sub Hb (upd Hb a (tup [xs[i], .int ord tk])) := Sub.upd_new (Sub.refl _) hba
      have hbB : Bs c (upd Hb a (tup [xs[i], .int ord tk])) := N.bs.updO hao
      have nD2 : upd Hb a (tup [xs[i], .int ord tk]) D = none := by rw [upd_ne (Ne.symm haD)]; exact N.nD
      have ni2 : upd Hb a (tup [xs[i], .int ord tk]) it = none := by rw [upd_ne (Ne.symm hai)]; exact N.ni
      have nL2 : upd Hb a (tup [xs[i], .int ord tk]) L = none := by rw [upd_ne (Ne.symm haL)]; exact N.nL
      generalize upd Hb a (tup [xs[i], .int ord tk]) = Hb2 at *
      have hsubQ2 : ∀ rs i, Sub Hb2 (upd (upd Hb2 D (lst rs)) it (lit l i)) := fun rs i => Sub.upd_new (Sub.upd_new (Sub.refl _) nD2) ni2
      have hlist2 : ∀ rs i, upd (upd Hb2 D (lst rs)) it (lit l i) D = some (lst rs) := fun rs i => by rw [upd_ne hDit, upd_same]
      repeat walk_at "e"
      refine ⟨Callee.fn Fr (hbB.sub_of (hsubQ2 _ _)), ?_⟩
      refine f_spec (hlist2 ks (i + 1)) (fun H' hs' => heapreplace_spec (Dat := Hb2) (S := T2 Hb2 key (setV el a xs[i]) (setV od a ord)) (lt := t2lt key (setV el a xs[i]) (setV od a ord)) G Fr ?_ ?_ (t2_LtOK c Hb2 key _ _) ((hsubQ2 _ _).trans hs') nD2 (hs' _ _ (hlist2 _ _)) hold hnew hks0 (by omega)) ?_
      · show A.depth + 1 + 2 < recursionLimit; omega
      · show A.units + 3 + 100 < cLine; omega
      rw [upd_comm (Ne.symm hDit), upd_upd]
      generalize sup (t2lt key (setV el a xs[i]) (setV od a ord)) 0 (ks.set 0 (.ref a)) = ks2 at *
      have hkl2 := htop2.len
      repeat walk_at "e"
      with_reducible refine f_AssignT ?_ ?k1 ?k2
      case k1 => rfl
      case k2 => rfl
      repeat walk_at "e"
      with_reducible refine f_get0 (hlist2 _ _) ?_ ?_ ?k1
      case k1 => with_unfolding_all rfl
      · omega
      obtain ⟨a1, t1, hk1, hd1, hp1⟩ := hSnew _ (getD_mem (vs := ks2) (i := 0) (by omega))
      rw [hk1]
      have hd1' := hsubQ2 ks2 (i + 1) _ _ hd1
      refine f_unpack hh hd1' rfl rfl ?_
      refine f_inOrder ?_
      repeat walk_at "e"
      refine f_inOrder ?_
      repeat walk_at "e"
      refine f_inOrder0 ?_
      repeat walk_at "e"
      with_reducible refine f_AugN ?_
      with_reducible refine' f_loadL ?hv ?_ ?k1 ?k2 ?k3
      case k1 => rfl
      case k2 => rfl
      case k3 => rfl
      case hv => walk_at "v"
      repeat walk_at "e"
      with_reducible refine f_isub (fun t5 => ?_)
      repeat walk_at "e"
      refine ⟨xs.length - (i + 1), _, by omega, Sub.refl _, (hbB.updO hDo).updO hio, i + 1, Hb2, ks2, acc', setV el a xs[i], setV od a ord, ord - 1, t5, rfl, by omega, hlt, rfl,
        ⟨N.sub.trans hsB, hbB, nD2, ni2, nL2, hSnew, hndnew, htop2, hodnew⟩, by walk_at "v", by walk_at "v", by walk_at "v", by walk_at "v"⟩
    | false =>
      simp only [Bool.false_eq_true, if_false]
      repeat walk_at "e"
      refine ⟨xs.length - (i + 1), _, by omega, Sub.refl _, (N.bs.updO hDo).updO hio, i + 1, Hb, ks, acc, el, od, ord, tk, rfl, by omega, hlt, rfl, { N with top := ?_ }, by walk_at "v", by walk_at "v", by walk_at "v", by walk_at "v"⟩
      rw [hstep]
      refine N.top.skip hle hsp (by omega) (by omega) ?_
      rw [← htopx', keyLe_eq, hcmp]; rfl
  · have hie : i = xs.length := by omega
    subst hie
    rw [List.take_length] at hsl hsp
    have htop := N.top
    rw [List.take_length] at htop
    with_reducible refine f_nextL0 ?_ (upd_same ..) hio (hlx _ _) ?_ ?_
    · exact hh
    · exact Nat.le_refl _
    have hdel : del (upd (upd Hb D (lst ks)) it (lit l xs.length)) it = upd Hb D (lst ks) := del_upd (by rw [upd_ne (Ne.symm hDit)]; exact N.ni) _
    rw [hdel]
    repeat walk_at "e"
    have hlD : upd Hb D (lst ks) D = some (lst ks) := upd_same ..
    with_reducible refine f_methL PySem.F.slot_list_sort PySem.F.type_list_sort hlD ?_
    with_reducible refine f_callKW0 ?_ ?k1 ?k2
    case k1 => rfl
    case k2 => rfl
    with_reducible refine f_kw ?_
    repeat walk_at "e"
    with_reducible refine f_kw0 ?_
    refine ⟨Callee.builtin _ _, ?_⟩
    obtain ⟨p, hrun, hout⟩ := htop.sortedR t2_weak h2 h6 N.nd
    have hsD : Sub Hb (upd Hb D (lst ks)) := Sub.upd_new (Sub.refl _) N.nD
    refine f_spec hlD (fun H' hs' => w_sort (Dat := Hb) (b := true) (kw := [(Str.ofString "reverse", .bool true)]) (t2_SortOK c Hb key el od) (hsD.trans hs') N.nD ?_ (hs' _ _ hlD) (by omega) (by omega) N.S_ (shell_r D) (args_list_sort_rev _ _) hrun) ?_
    · show A.units + 3 + 30 < cLine; omega
    rw [hout, upd_upd]
    have hal : acc.length = n := htop.perm.length_eq.symm.trans htop.len
    repeat walk_at "e"
    with_reducible refine f_Comp (cl := []) ?_ ?k1 ?k2 ?k3 ?k4 ?k5
    case k1 => rfl
    case k2 => decide
    case k3 => rfl
    case k4 => decide
    case k5 => intro _; rfl
    repeat walk_at "e"
    have hlA : upd Hb D (lst acc) D = some (lst acc) := upd_same ..
    with_reducible refine f_iterL hlA (fun it2 hit2 hio2 hiL2 => ?_)
    obtain ⟨H5, e5, s5, d5⟩ := abst (lit D 0) hit2
    rw [e5]
    have hsA : Sub Hb (upd Hb D (lst acc)) := Sub.upd_new (Sub.refl _) N.nD
    have hLA : upd Hb D (lst acc) L = none := by rw [upd_ne (Ne.symm hDL)]; exact N.nL
    refine compW_seq (n := acc.length) (Src := upd Hb D (lst acc)) (iter_list hio2 hit2 (.inl hh) hlA) (by omega) ?_ d5 s5 (fun j => el (acc.getD j .none)) ?_ ?_
    · rw [← e5, upd_ne (Ne.symm hiL2)]; exact hLA
    · intro C j v Hc mc hj hv hsubc hitc hC
      have hvj : v = acc.getD j .none := by simp [hv]
      have hsc : Sub (upd Hb D (lst acc)) Hc := (del_sub (Sub.upd_new s5 hLA) hit2).trans hsubc
      obtain ⟨a1, t1, hk1, hd1, hp1⟩ := N.S_ v (htop.perm.mem_iff.mpr (by rw [hvj]; exact getD_mem hj))
      rw [hk1]
      refine f_goL hitc ?_
      have hd1' := hsc _ _ (hsA _ _ hd1)
      refine f_unpack hh hd1' rfl rfl ?_
      refine f_inOrder ?_
      repeat walk_at "e"
      refine f_inOrder ?_
      repeat walk_at "e"
      refine f_inOrder0 ?_
      repeat walk_at "e"
      exact ⟨by rw [hvj], Sub.refl _⟩
    · intro E hE hEo hEL
      have hres : (List.range acc.length).map (fun j => el (acc.getD j .none)) = (lsorted (fun v w => keyLe (key w) (key v)) [] xs).take n := by
        rw [← htop.map]
        conv => rhs; rw [← map_getD acc]
        rw [List.map_map]; rfl
      rw [hres]
      have sAll : Sub H (del H5 it2) := del_sub ((hsub.trans N.sub).trans (hsA.trans s5)) (((hsub.trans N.sub).trans hsA).none_of hit2)
      refine ⟨upd H E (lst ((lsorted (fun v w => keyLe (key w) (key v)) [] xs).take n)), Sub.upd_both sAll, hb.updO hEo, E, rfl, ((hsub.trans N.sub).trans (hsA.trans s5)).none_of hE, hEo, rfl⟩
end
end
section
theorem le2R_tot {key : Value → Key} : TotPre (fun v w => decide ((key w).2 ≤ (key v).2)) :=
  ⟨fun a b => by simp only [decide_eq_true_eq]; omega, fun {a b d} h h' => by simp only [decide_eq_true_eq] at *; omega⟩
/-- between the turns of the loop -/
inductive NlgK (c : Cx) (H1 : HM) (D it l L fr : Addr) (key : Value → Key) (xs : List Value) (n : Nat) (k : Nat) (H' : HM) (m' : Loc) : Prop where
  | mk (i : Nat) (Hb : HM) (ks acc : List Value) (el : Value → Value) (od : Value → Int) (ord : Int) (tk tt : Tok) (hk : k = xs.length - i) (hn : n ≤ i) (hi : i ≤ xs.length) (hH : H' = upd (upd Hb D (lst ks)) it (lit l i))
    (N : NsI c H1 Hb D it L key xs n i (fun v w => decide ((key w).2 ≤ (key v).2)) (T3 Hb key el od) (fun a b => t3lt key el od b a) el (fun r => - od r) ks acc (-ord))
    (m1 : m' "result" = some (.ref D)) (m2 : m' "top" = some (.int (key (el (ks.getD 0 .none))).2 tt)) (m3 : m' "order" = some (.int ord tk)) (m4 : m' "_heapreplace" = some (.ref fr)) : NlgK c H1 D it l L fr key xs n k H' m'
section
variable {c : Cx} {A : Around} {H : HM} {L : Addr} {m : Loc}
theorem nlgK_spec {f l T : Addr} {xs : List Value} {Dat : HM} {key : Value → Key} {t : Tok} {n : Nat} {fk : Addr} {RR : Value → Value → Bool}
    (G : GF c) (F : FnAt c f 11 (.ref T) .none) (hT : DefAt c T) (hroom : A.depth + 5 < recursionLimit) (hh : A.handled = none) (hu : A.units + 200 < cLine) (hD : Sub Dat H)
    (hl : H l = some (lst xs)) (hS : ∀ x ∈ xs, PairAt Dat key x) (h2 : 2 ≤ n) (h6 : n ≤ 6) (hn' : n < xs.length) (hz : xs.length < 900) (KM : MarkOK c (.ref fk) Dat (PairAt Dat key) (fun v r => ∃ t, r = .int (key v).2 t) RR) :
    W c A (call (.ref f) [.int n t, .ref l, .ref fk]) H (fun v H' => ∃ D, v = .ref D ∧ H D = none ∧ Own c D ∧ H' = upd H D (lst ((lsorted (fun v w => decide ((key w).2 ≤ (key v).2)) [] xs).take n))) := by
  obtain ⟨oT, nT, hoT, hdT⟩ := hT
  obtain ⟨gi1, gi2⟩ := G.len
  obtain ⟨gs1, gs2⟩ := G.iter
  obtain ⟨gr1, gr2⟩ := G.range
  obtain ⟨gz1, gz2⟩ := G.zip
  obtain ⟨fh, gh, Fh⟩ := G.heapify
  obtain ⟨fr, gr, Fr⟩ := G.heapreplace
  have hle : TotPre (fun v w => decide ((key w).2 ≤ (key v).2)) := le2R_tot
  refine w_callFnB (binds := [("n", .int n t), ("iterable", .ref l), ("key", .ref fk)]) G.ok F (by omega) (fun s I _ _ _ _ _ _ _ => BindsTo.of_defaults (T := T) rfl (I.keeps _ _ hoT) hdT rfl rfl) rfl (fun L => ⟨rfl, trivial⟩) rfl rfl rfl (fun hb q cd L hL => ?_)
  have hcells : addCells H (bindC (envC 11 q cd f L).kindOf [("n", .int n t), ("iterable", .ref l), ("key", .ref fk)] fun _ => none) (envC 11 q cd f L).cells = upd H (L + 1) (isCell (some (.ref fk))) := rfl
  rw [hcells]
  obtain ⟨H1, hH1, hsub, hc1, hb1, hH1L, co1⟩ := cells1 (isCell (some (.ref fk))) hL hb
  rw [hH1]
  have hl1 := hsub _ _ hl
  have hD1 := hD.trans hsub
  refine f_cons ?_
  with_reducible refine w_let ?_
  intro _
  with_reducible refine f_If ?_
  repeat walk_at "e"
  with_reducible refine f_eq ?_
  refine ⟨_, rfl, ?_⟩
  have hne : (((n : Nat) : Int) == 1) = false := by simp; omega
  rw [hne]
  simp only [Bool.false_eq_true, if_false]
  repeat walk_at "e"
  with_reducible refine f_Try ?_
  repeat walk_at "e"
  refine ⟨Callee.builtin _ _, ?_⟩
  with_reducible refine f_len hl1 ?_ (fun t3 => ?_)
  · omega
  repeat walk_at "e"
  with_reducible refine f_If ?_
  repeat walk_at "e"
  with_reducible refine f_ge ?_
  refine ⟨_, rfl, ?_⟩
  have hge : decide ((n : Int) ≥ (xs.length : Nat)) = false := by simp; omega
  rw [hge]
  simp only [Bool.false_eq_true, if_false]
  repeat walk_at "e"
  with_reducible refine f_If ?_
  repeat walk_at "e"
  with_reducible refine f_isNone ?_ ?_
  · rfl
  refine ⟨_, rfl, ?_⟩
  show WF _ _ _ _ _ _ _
  repeat walk_at "e"
  refine ⟨Callee.builtin _ _, ?_⟩
  with_reducible refine f_iterB hl1 (fun it hit hio hiL => ?_)
  obtain ⟨H2, e2, s2, d2⟩ := abst (lit l 0) hit
  rw [e2]
  repeat walk_at "e"
  with_reducible refine f_AssignComp (cl := [("key", L + 1)]) ?_ ?k1 ?k2 ?k3 ?k4 ?k5 ?k6 ?k7 ?k8 ?k9
  case k1 => rfl
  case k2 => rfl
  case k3 => decide
  case k4 => rfl
  case k5 => decide
  case k6 => rfl
  case k7 => rfl
  case k8 => rfl
  case k9 => intro _; rfl
  repeat walk_at "e"
  with_reducible refine f_UnaryOp ?_
  repeat walk_at "e"
  with_reducible refine f_neg (fun t8 => ?_)
  repeat walk_at "e"
  with_reducible refine f_UnaryOp ?_
  repeat walk_at "e"
  with_reducible refine f_neg (fun t7 => ?_)
  repeat walk_at "e"
  refine ⟨Callee.type _ _, ?_⟩
  with_reducible refine f_range3 ?_ ?_ (fun r hr hor hrL => ?_)
  · decide
  · exact PyProof.noPylong_small (by decide)
  obtain ⟨H3, e3, s3, d3⟩ := abst (rng 0 (-(n : Int)) (-1)) hr
  rw [e3]
  repeat walk_at "e"
  refine ⟨Callee.type _ _, ?_⟩
  refine f_zip d3 (small3 (by omega)) (s3 _ _ d2) hio (s3 _ _ (s2 _ _ hl1)) (fun z TI TO ri Hz K hsz hzL zL TL rL => ?_)
  rw [size3]
  have hHz : Sub H1 Hz := (del_sub (s2.trans s3) hit).trans hsz
  intro s I hL' hns
  obtain ⟨oz, hoz, rfl⟩ := I.rep _ _ K.at_z
  refine wpAny_pyIter_zip hoz ⟨_, _, I, hL', hns, ?_⟩
  clear hoz I hL' hns s
  refine compZip (PP := fun j y P => ∃ tt tk, P = tup [.int (key (xs.getD j .none)).2 tt, .int (-(j : Int)) tk, xs.getD j .none]) hh K (by omega) hz hzL zL TL rL hiL rfl rfl rfl (fun C j tk Hc mc hj hm1 hm2 hsc hC _ => ?_) (fun D Hb rs hDz hDo hDL hDit hbD hsb hbb hbL hbi hlen hnd hrs => ?_)
  · have g1 := hsc _ _ (hHz _ _ hc1)
    have hxj : PairAt Dat key (xs.getD j .none) := hS _ (getD_mem (by omega))
    repeat walk_at "e"
    refine ⟨KM.callee _ ((hD1.trans hHz).trans hsc), ?_⟩
    refine f_specR (fun H' hs' => KM.call _ H' _ (by show A.depth + 1 + 2 < recursionLimit; omega) (by show A.units + 3 + 20 < cLine; omega) (((hD1.trans hHz).trans hsc).trans hs') hxj) (fun r hr => ?_)
    obtain ⟨tt, rfl⟩ := hr
    repeat walk_at "e"
    with_reducible refine f_newTuple ?_ (fun a ha hao haC => ?_)
    · simp
    exact ⟨a, _, rfl, ha, hao, haC, rfl, tt, tk, by rw [show (0 : Int) + j * (-1) = -(j : Int) by omega]⟩
  show WF _ _ _ _ _ _ _
  have hHb : Sub H1 Hb := hHz.trans hsb
  have hsubQ : ∀ rs i, Sub Hb (upd (upd Hb D (lst rs)) it (lit l i)) := fun rs i => Sub.upd_new (Sub.upd_new (Sub.refl _) hbD) hbi
  obtain ⟨el, od, hel⟩ := refs_data (xs := xs) (fun j => -(j : Int)) hlen hnd
  have hT2 : ∀ r ∈ rs, T3 Hb key el od r := fun r hr => by
    obtain ⟨j, hj, rfl⟩ := mem_getD hr
    obtain ⟨a, P, h1, h2', h3, tt, tk, rfl⟩ := hrs j (by omega)
    obtain ⟨e1, e2⟩ := hel j (by omega)
    refine ⟨a, tt, tk, h1, ?_, ?_⟩
    · rw [e1, e2]; exact h2'
    · rw [e1]; exact (hS _ (getD_mem (by omega))).mono (hD1.trans hHb)
  have hlist : ∀ rs i, upd (upd Hb D (lst rs)) it (lit l i) D = some (lst rs) := fun rs i => by rw [upd_ne hDit, upd_same]
  have hrl : rs.length < 1000 := by omega
  have htop : Top (fun v w => decide ((key w).2 ≤ (key v).2)) (fun a b => t3lt key el od b a) el n (lsorted (fun v w => decide ((key w).2 ≤ (key v).2)) [] (xs.take n)) (hfy (t3lt key el od) (rs.length / 2) rs) (lsorted (fun r r' => decide ((key (el r')).2 ≤ (key (el r)).2)) [] rs) :=
    Top.start t3_weak.flip hle (fun _ _ => rfl) hlen (map_el hlen (by omega) fun j hj => (hel j hj).1) (List.pairwise_iff_getElem.mpr fun i j hi hj hij => by
      have e1 := (hel i (by omega)).2
      have e2 := (hel j (by omega)).2
      rw [show rs.getD i .none = rs[i] by simp [hi]] at e1
      rw [show rs.getD j .none = rs[j] by simp [hj]] at e2
      exact t3_link (by omega))
  refine f_cons ?_
  with_reducible refine w_let ?_
  intro _
  with_reducible refine f_If ?_
  with_reducible refine f_tNot ?_
  with_reducible refine f_tVal ?_ ?k1
  case k1 => rfl
  repeat walk_at "e"
  with_reducible refine f_truthyL (hlist _ _) hrl ?_
  have hemp : rs.isEmpty = false := by cases rs with | nil => simp at hlen; omega | cons _ _ => rfl
  rw [hemp]
  show WF _ _ _ _ _ _ _
  repeat walk_at "e"
  refine ⟨Callee.fn Fh (hbb.sub_of (hsubQ _ _)), ?_⟩
  refine f_spec (hlist rs n) (fun H' hs' => heapify_spec (Dat := Hb) (S := T3 Hb key el od) (lt := t3lt key el od) G Fh ?_ ?_ ?_ (t3_LtOK c Hb key el od) ((hsubQ _ _).trans hs') hbD (hs' _ _ (hlist _ _)) hT2 hrl) ?_
  · show A.depth + 1 + 2 < recursionLimit; omega
  · exact hh
  · show A.units + 3 + 100 < cLine; omega
  rw [upd_comm (Ne.symm hDit), upd_upd]
  have hT2' : ∀ r ∈ hfy (t3lt key el od) (rs.length / 2) rs, T3 Hb key el od r := fun r hr => hT2 r ((hfy_perm _ _ (by omega)).mem_iff.mp hr)
  have hnd' : (hfy (t3lt key el od) (rs.length / 2) rs).Nodup := (hfy_perm _ _ (by omega)).nodup_iff.mpr hnd
  have hod' : ∀ r ∈ hfy (t3lt key el od) (rs.length / 2) rs, - od r < - (-(n : Int)) := fun r hr => by
    obtain ⟨j, hj, rfl⟩ := mem_getD ((hfy_perm _ _ (by omega)).mem_iff.mp hr)
    rw [(hel j (by omega)).2]; omega
  generalize hfy (t3lt key el od) (rs.length / 2) rs = ks at *
  generalize hacc : lsorted (fun r r' => decide ((key (el r')).2 ≤ (key (el r)).2)) [] rs = acc at *
  have hkl := htop.len
  repeat walk_at "e"
  with_reducible refine f_get0 (hlist _ _) ?_ ?_ ?k1
  case k1 => with_unfolding_all rfl
  · omega
  obtain ⟨a0, t0, u0, hk0, hd0, hp0⟩ := hT2' _ (getD_mem (vs := ks) (i := 0) (by omega))
  rw [hk0]
  repeat walk_at "e"
  have hd0' := hsubQ ks n _ _ hd0
  with_reducible refine f_getT0 hd0' ?_ ?k1
  case k1 => with_unfolding_all rfl
  repeat walk_at "e"
  with_reducible refine f_UnaryOp ?_
  repeat walk_at "e"
  with_reducible refine f_neg (fun t9 => ?_)
  repeat walk_at "e"
  with_reducible refine f_For ?_ ?h1 ?h2
  case h1 => intro _; rfl
  case h2 => intro _ _; rfl
  repeat walk_at "e"
  with_reducible refine f_iterLit (upd_same ..) ?_
  refine forW_of (NlgK c H1 D it l L fr key xs n) (xs.length - n)
    ⟨n, Hb, ks, acc, el, od, -n, t9, t0, rfl, Nat.le_refl _, by omega, rfl, ⟨hHb, hbb, hbD, hbi, hbL, hT2', hnd', htop, hod'⟩, by walk_at "v", by walk_at "v", by walk_at "v", by walk_at "v"⟩ ?_
  clear hT2 hT2' htop hnd' hod' hk0 hd0 hd0' hp0 hkl hsubQ hlist hel hrs hnd hlen hrl hemp hacc hHb hbb hbD hbi hbL hsb
  rintro k H' m' ⟨i, Hb, ks, acc, el, od, ord, tk, tt, rfl, hni, hi, rfl, N, m1, m2, m3, m4⟩
  have hsubQ : ∀ rs i, Sub Hb (upd (upd Hb D (lst rs)) it (lit l i)) := fun rs i => Sub.upd_new (Sub.upd_new (Sub.refl _) N.nD) N.ni
  have hlist : ∀ rs i, upd (upd Hb D (lst rs)) it (lit l i) D = some (lst rs) := fun rs i => by rw [upd_ne hDit, upd_same]
  have hlx : ∀ rs i, upd (upd Hb D (lst rs)) it (lit l i) l = some (lst xs) := fun rs i => hsubQ rs i _ _ (N.sub _ _ hl1)
  have hkl := N.top.len
  have hsl : (lsorted (fun v w => decide ((key w).2 ≤ (key v).2)) [] (xs.take i)).length = i := by
    have := (lsorted_perm (le := fun v w => decide ((key w).2 ≤ (key v).2)) (xs.take i) []).length_eq
    rw [this]; simp; omega
  have hsp := lsorted_sorted hle (xs.take i) [] .nil
  by_cases hlt : i < xs.length
  · have hx : xs[i]? = some xs[i] := by simp [hlt]
    have hxP : PairAt Dat key xs[i] := hS _ (List.getElem_mem hlt)
    have hxB : PairAt Hb key xs[i] := hxP.mono (hD1.trans N.sub)
    with_reducible refine f_nextL (upd_same ..) hio (hlx _ _) hx ?_
    rw [upd_upd]
    have hsq := hsubQ ks (i + 1)
    have hcq := hsq _ _ (N.sub _ _ hc1)
    repeat walk_at "e"
    refine ⟨KM.callee _ ((hD1.trans N.sub).trans hsq), ?_⟩
    refine f_specR (fun H' hs' => KM.call _ H' _ (by show A.depth + 1 + 2 < recursionLimit; omega) (by show A.units + 3 + 20 < cLine; omega) (((hD1.trans N.sub).trans hsq).trans hs') hxP) (fun r hr => ?_)
    obtain ⟨tr, rfl⟩ := hr
    repeat walk_at "e"
    with_reducible refine f_If ?_
    repeat walk_at "e"
    obtain ⟨ds, hds, _, htopx, _⟩ := N.top.root t3_weak.flip (by omega) (by omega)
    have hstep : lsorted (fun v w => decide ((key w).2 ≤ (key v).2)) [] (xs.take (i + 1)) = lins (fun v w => decide ((key w).2 ≤ (key v).2)) (lsorted (fun v w => decide ((key w).2 ≤ (key v).2)) [] (xs.take i)) xs[i] := by
      rw [List.take_succ_eq_append_getElem hlt, lsorted_snoc]
    have htopx' : el (ks.getD 0 .none) = (lsorted (fun v w => decide ((key w).2 ≤ (key v).2)) [] (xs.take i)).getD (n - 1) .none := htopx
    cases hcmp : decide ((key (el (ks.getD 0 .none))).2 < (key xs[i]).2) with
    | true =>
      simp only [if_true]
      repeat walk_at "e"
      with_reducible refine f_newTuple ?_ (fun a ha hao haL => ?_)
      · simp
      have haD : a ≠ D := by rintro rfl; rw [hlist] at ha; cases ha
      have hai : a ≠ it := by rintro rfl; rw [upd_same] at ha; cases ha
      have hba : Hb a = none := hsq.none_of ha
      rw [upd_comm (Ne.symm hai), upd_comm (Ne.symm haD)]
      have hnew : T3 (upd Hb a (tup [.int (key xs[i]).2 tr, .int ord tk, xs[i]])) key (setV el a xs[i]) (setV od a ord) (.ref a) := T3.new hxB hba
      have hold : ∀ r ∈ ks, T3 (upd Hb a (tup [.int (key xs[i]).2 tr, .int ord tk, xs[i]])) key (setV el a xs[i]) (setV od a ord) r := fun r hr => (N.S_ r hr).grow hba
      have hneA : ∀ r ∈ ks, r ≠ .ref a := fun r hr => (N.S_ r hr).ne hba
      have hmemA : ∀ r ∈ acc, r ∈ ks := fun r hr => N.top.perm.mem_iff.mpr hr
      have htop1 : Top (fun v w => decide ((key w).2 ≤ (key v).2)) (fun x y => t3lt key (setV el a xs[i]) (setV od a ord) y x) (setV el a xs[i]) n (lsorted (fun v w => decide ((key w).2 ≤ (key v).2)) [] (xs.take i)) ks acc :=
        N.top.congr (fun r hr => setV_ne (hneA r (hmemA r hr))) (fun r hr r' hr' => t3_setV (hneA r' (hmemA r' hr')) (hneA r (hmemA r hr)))
      have hodA : ∀ r ∈ acc, setV od a ord (.ref a) < setV od a ord r := fun r hr => by rw [setV_same, setV_ne (hneA r (hmemA r hr))]; have := N.od_ r (hmemA r hr); omega
      obtain ⟨acc', htop2, hacc'⟩ := htop1.put (le' := fun r r' => decide ((key (setV el a xs[i] r')).2 ≤ (key (setV el a xs[i] r)).2)) (a := .ref a) t3_weak.flip hle (fun _ _ => rfl) hsp (by omega) (by omega)
        (by rw [setV_same, ← htopx']; have := of_decide_eq_true hcmp; exact decide_eq_false (by omega)) (fun r hr => (t3_link (hodA r hr)).1) (fun r hr => (t3_link (hodA r hr)).2)
      rw [setV_same, ← hstep] at htop2
      have hks0 : 0 < ks.length := by omega
      have hperm : (sup (t3lt key (setV el a xs[i]) (setV od a ord)) 0 (ks.set 0 (.ref a))).Perm (.ref a :: ks.drop 1) := (sup_perm (by simpa using hks0)).trans (set0_perm hks0)
      have hSnew : ∀ r ∈ sup (t3lt key (setV el a xs[i]) (setV od a ord)) 0 (ks.set 0 (.ref a)), T3 (upd Hb a (tup [.int (key xs[i]).2 tr, .int ord tk, xs[i]])) key (setV el a xs[i]) (setV od a ord) r := fun r hr => by
        rcases List.mem_cons.mp (hperm.mem_iff.mp hr) with e | e
        · rw [e]; exact hnew
        · exact hold r (List.mem_of_mem_drop e)
      have hndnew : (sup (t3lt key (setV el a xs[i]) (setV od a ord)) 0 (ks.set 0 (.ref a))).Nodup := by
        refine hperm.nodup_iff.mpr (List.nodup_cons.mpr ⟨fun hm => hneA _ (List.mem_of_mem_drop hm) rfl, N.nd.sublist (List.drop_sublist _ _)⟩)
      have hodnew : ∀ r ∈ sup (t3lt key (setV el a xs[i]) (setV od a ord)) 0 (ks.set 0 (.ref a)), - setV od a ord r < -(ord - 1) := fun r hr => by
        rcases List.mem_cons.mp (hperm.mem_iff.mp hr) with e | e
        · rw [e, setV_same]; omega
        · have hm := List.mem_of_mem_drop e
          rw [setV_ne (hneA r hm)]; have := N.od_ r hm; omega
      have hsB : Sub Hb (upd Hb a (tup [.int (key xs[i]).2 tr, .int ord tk, xs[i]])) := Sub.upd_new (Sub.refl _) hba
      have hbB : Bs c (upd Hb a (tup [.int (key xs[i]).2 tr, .int ord tk, xs[i]])) := N.bs.updO hao
      have nD2 : upd Hb a (tup [.int (key xs[i]).2 tr, .int ord tk, xs[i]]) D = none := by rw [upd_ne (Ne.symm haD)]; exact N.nD
      have ni2 : upd Hb a (tup [.int (key xs[i]).2 tr, .int ord tk, xs[i]]) it = none := by rw [upd_ne (Ne.symm hai)]; exact N.ni
      have nL2 : upd Hb a (tup [.int (key xs[i]).2 tr, .int ord tk, xs[i]]) L = none := by rw [upd_ne (Ne.symm haL)]; exact N.nL
      generalize upd Hb a (tup [.int (key xs[i]).2 tr, .int ord tk, xs[i]]) = Hb2 at *
      have hsubQ2 : ∀ rs i, Sub Hb2 (upd (upd Hb2 D (lst rs)) it (lit l i)) := fun rs i => Sub.upd_new (Sub.upd_new (Sub.refl _) nD2) ni2
      have hlist2 : ∀ rs i, upd (upd Hb2 D (lst rs)) it (lit l i) D = some (lst rs) := fun rs i => by rw [upd_ne hDit, upd_same]
      repeat walk_at "e"
      refine ⟨Callee.fn Fr (hbB.sub_of (hsubQ2 _ _)), ?_⟩
      refine f_spec (hlist2 ks (i + 1)) (fun H' hs' => heapreplace_spec (Dat := Hb2) (S := T3 Hb2 key (setV el a xs[i]) (setV od a ord)) (lt := t3lt key (setV el a xs[i]) (setV od a ord)) G Fr ?_ ?_ (t3_LtOK c Hb2 key _ _) ((hsubQ2 _ _).trans hs') nD2 (hs' _ _ (hlist2 _ _)) hold hnew hks0 (by omega)) ?_
      · show A.depth + 1 + 2 < recursionLimit; omega
      · show A.units + 3 + 100 < cLine; omega
      rw [upd_comm (Ne.symm hDit), upd_upd]
      generalize sup (t3lt key (setV el a xs[i]) (setV od a ord)) 0 (ks.set 0 (.ref a)) = ks2 at *
      have hkl2 := htop2.len
      repeat walk_at "e"
      with_reducible refine f_AssignT ?_ ?k1 ?k2
      case k1 => rfl
      case k2 => rfl
      repeat walk_at "e"
      with_reducible refine f_get0 (hlist2 _ _) ?_ ?_ ?k1
      case k1 => with_unfolding_all rfl
      · omega
      obtain ⟨a1, t1, u1, hk1, hd1, hp1⟩ := hSnew _ (getD_mem (vs := ks2) (i := 0) (by omega))
      rw [hk1]
      have hd1' := hsubQ2 ks2 (i + 1) _ _ hd1
      refine f_unpack hh hd1' rfl rfl ?_
      refine f_inOrder ?_
      repeat walk_at "e"
      refine f_inOrder ?_
      repeat walk_at "e"
      refine f_inOrder ?_
      repeat walk_at "e"
      refine f_inOrder0 ?_
      repeat walk_at "e"
      with_reducible refine f_AugN ?_
      with_reducible refine' f_loadL ?hv ?_ ?k1 ?k2 ?k3
      case k1 => rfl
      case k2 => rfl
      case k3 => rfl
      case hv => walk_at "v"
      repeat walk_at "e"
      with_reducible refine f_isub (fun t5 => ?_)
      repeat walk_at "e"
      refine ⟨xs.length - (i + 1), _, by omega, Sub.refl _, (hbB.updO hDo).updO hio, i + 1, Hb2, ks2, acc', setV el a xs[i], setV od a ord, ord - 1, t5, t1, rfl, by omega, hlt, rfl,
        ⟨N.sub.trans hsB, hbB, nD2, ni2, nL2, hSnew, hndnew, htop2, hodnew⟩, by walk_at "v", by walk_at "v", by walk_at "v", by walk_at "v"⟩
    | false =>
      simp only [Bool.false_eq_true, if_false]
      repeat walk_at "e"
      refine ⟨xs.length - (i + 1), _, by omega, Sub.refl _, (N.bs.updO hDo).updO hio, i + 1, Hb, ks, acc, el, od, ord, tk, tt, rfl, by omega, hlt, rfl, { N with top := ?_ }, by walk_at "v", by walk_at "v", by walk_at "v", by walk_at "v"⟩
      rw [hstep]
      refine N.top.skip hle hsp (by omega) (by omega) ?_
      rw [← htopx']; have := of_decide_eq_false hcmp; exact decide_eq_true (by omega)
  · have hie : i = xs.length := by omega
    subst hie
    rw [List.take_length] at hsl hsp
    have htop := N.top
    rw [List.take_length] at htop
    with_reducible refine f_nextL0 ?_ (upd_same ..) hio (hlx _ _) ?_ ?_
    · exact hh
    · exact Nat.le_refl _
    have hdel : del (upd (upd Hb D (lst ks)) it (lit l xs.length)) it = upd Hb D (lst ks) := del_upd (by rw [upd_ne (Ne.symm hDit)]; exact N.ni) _
    rw [hdel]
    repeat walk_at "e"
    have hlD : upd Hb D (lst ks) D = some (lst ks) := upd_same ..
    with_reducible refine f_methL PySem.F.slot_list_sort PySem.F.type_list_sort hlD ?_
    with_reducible refine f_callKW0 ?_ ?k1 ?k2
    case k1 => rfl
    case k2 => rfl
    with_reducible refine f_kw ?_
    repeat walk_at "e"
    with_reducible refine f_kw0 ?_
    refine ⟨Callee.builtin _ _, ?_⟩
    obtain ⟨p, hrun, hout⟩ := htop.sortedR t3_weak h2 h6 N.nd
    have hsD : Sub Hb (upd Hb D (lst ks)) := Sub.upd_new (Sub.refl _) N.nD
    refine f_spec hlD (fun H' hs' => w_sort (Dat := Hb) (b := true) (kw := [(Str.ofString "reverse", .bool true)]) (t3_SortOK c Hb key el od) (hsD.trans hs') N.nD ?_ (hs' _ _ hlD) (by omega) (by omega) N.S_ (shell_r D) (args_list_sort_rev _ _) hrun) ?_
    · show A.units + 3 + 30 < cLine; omega
    rw [hout, upd_upd]
    have hal : acc.length = n := htop.perm.length_eq.symm.trans htop.len
    repeat walk_at "e"
    with_reducible refine f_Comp (cl := []) ?_ ?k1 ?k2 ?k3 ?k4 ?k5
    case k1 => rfl
    case k2 => decide
    case k3 => rfl
    case k4 => decide
    case k5 => intro _; rfl
    repeat walk_at "e"
    have hlA : upd Hb D (lst acc) D = some (lst acc) := upd_same ..
    with_reducible refine f_iterL hlA (fun it2 hit2 hio2 hiL2 => ?_)
    obtain ⟨H5, e5, s5, d5⟩ := abst (lit D 0) hit2
    rw [e5]
    have hsA : Sub Hb (upd Hb D (lst acc)) := Sub.upd_new (Sub.refl _) N.nD
    have hLA : upd Hb D (lst acc) L = none := by rw [upd_ne (Ne.symm hDL)]; exact N.nL
    refine compW_seq (n := acc.length) (Src := upd Hb D (lst acc)) (iter_list hio2 hit2 (.inl hh) hlA) (by omega) ?_ d5 s5 (fun j => el (acc.getD j .none)) ?_ ?_
    · rw [← e5, upd_ne (Ne.symm hiL2)]; exact hLA
    · intro C j v Hc mc hj hv hsubc hitc hC
      have hvj : v = acc.getD j .none := by simp [hv]
      have hsc : Sub (upd Hb D (lst acc)) Hc := (del_sub (Sub.upd_new s5 hLA) hit2).trans hsubc
      obtain ⟨a1, t1, u1, hk1, hd1, hp1⟩ := N.S_ v (htop.perm.mem_iff.mpr (by rw [hvj]; exact getD_mem hj))
      rw [hk1]
      refine f_goL hitc ?_
      have hd1' := hsc _ _ (hsA _ _ hd1)
      refine f_unpack hh hd1' rfl rfl ?_
      refine f_inOrder ?_
      repeat walk_at "e"
      refine f_inOrder ?_
      repeat walk_at "e"
      refine f_inOrder ?_
      repeat walk_at "e"
      refine f_inOrder0 ?_
      repeat walk_at "e"
      exact ⟨by rw [hvj], Sub.refl _⟩
    · intro E hE hEo hEL
      have hres : (List.range acc.length).map (fun j => el (acc.getD j .none)) = (lsorted (fun v w => decide ((key w).2 ≤ (key v).2)) [] xs).take n := by
        rw [← htop.map]
        conv => rhs; rw [← map_getD acc]
        rw [List.map_map]; rfl
      rw [hres]
      have sAll : Sub H (del H5 it2) := del_sub ((hsub.trans N.sub).trans (hsA.trans s5)) (((hsub.trans N.sub).trans hsA).none_of hit2)
      refine ⟨upd H E (lst ((lsorted (fun v w => decide ((key w).2 ≤ (key v).2)) [] xs).take n)), Sub.upd_both sAll, hb.updO hEo, E, rfl, ((hsub.trans N.sub).trans (hsA.trans s5)).none_of hE, hEo, rfl⟩
end
end
section
/-- how _deduplicate's arguments are bound -/
noncomputable def BindD (c : Cx) (kV : Value) : Prop := ∀ (l : Addr) (s : Shared), (∀ a o, c.s₁.heap.get? a = some o → s.heap.get? a = some o) → ∀ nm qual doc pm an cdv ct,
  BindsTo s (fnOf nm qual (paramsOf (stm 13)) (bodyOf (stm 13)) (scopeOf (stm 13)) .none kV doc pm an cdv ct) ⟨[.ref l], []⟩ [("params", .ref l), ("unhashable_fallback", .bool false)]
section
variable {c : Cx} {A : Around} {H : HM} {L : Addr} {m : Loc}
theorem FrOK.deeper {l : List Env} {i : Nat} {q : Str} {cd : Value} {f L : Addr} {m : Loc} (h : FrOK c A H l) (hL : H L = none) (hLo : Own c L) (hk : (scopeOf (stm i)).kind = .function) : FrOK c (A.deeper (envC i q cd f L)) (upd H L (isNs m)) (envC i q cd f L :: l) := by
  refine ⟨?_, fun env he => ?_⟩
  · have : (A.deeper (envC i q cd f L)).frames = A.frames.map (envC i q cd f L :: ·) := by first | rfl | (unfold Around.deeper; rfl)
    rw [this, h.1]; rfl
  · rcases List.mem_cons.mp he with rfl | he
    · exact ⟨by show (scopeOf (stm i)).kind ≠ _; rw [hk]; decide, L, m, rfl, hLo, upd_same ..⟩
    · obtain ⟨a, f', m', b, d, e⟩ := h.2 env he
      exact ⟨a, f', m', b, d, by rw [upd_ne (by rintro rfl; rw [hL] at e; cases e)]; exact e⟩
theorem callWith_boundD {M : Model} {A : Around} {E : Value → Shared → Prop} {s : Shared} {pos : Pos} {u : Addr} {first : List Value} {args : List (Bool × Sem Value)} {Q : Value → Shared → Prop} (hplain : args.any (·.1) = false)
    (h : wpAny M A (evalArgs (.ref u) true args []) (fun x s₁ => s₁.heap.get? u = some boundD ∧ wpAny M A (call (.ref u) (first ++ x.pos) x.kw) Q E s₁) E s) : wpAny M A (callWith pos (.ref u) first args []) Q E s := by
  unfold callWith
  refine wpAny_bind (wpAny_holding (wpAny_mono h (fun x s₁ h₁ => wpAny_bind (wpAny_standAt ?_)) fun _ _ x => x))
  obtain ⟨ho, hcall⟩ := h₁
  simp only [hplain, List.any_nil, Bool.or_false]
  refine wpAny_bind (m := keeperOf (.ref u)) ?_
  unfold keeperOf
  refine wpAny_bind (wpAny_load ho ?_)
  simp only [boundD, show (Value.type "builtin_function_or_method" != Value.type "method") = true by decide, show (Value.type "builtin_function_or_method" == Value.type "builtin_function_or_method" || Value.type "builtin_function_or_method" == Value.type "method-wrapper") = true by decide, if_true]
  refine wpAny_pure ?_
  exact wpAny_bind (wpAny_mono hcall (fun r s₂ hr => wpAny_bind (wpAny_holding (wpAny_point (wpAny_pure hr)))) fun _ _ x => x)
/-- the try's body: the refusal flies -/
theorem dd_body {f l L : Addr} {q : Str} {cd : Value} {xs : List Value} {Dat : HM} {key : Value → Key} {Q : Flow → Shared → Prop} {E : Value → Shared → Prop} {s : Shared} (G : GF c) (hh : A.handled = none) (hu : A.units + 20 < cLine) (hD : Sub Dat H)
    (hl : H l = some (lst xs)) (hS : ∀ x ∈ xs, PairAt Dat key x) (h0 : 0 < xs.length) (hm : m "params" = some (.ref l)) (I : Inv c H s) (hL : H L = none) (hn : s.heap.Ns L m)
    (h : ∀ e s', H e = none → Own c e → e ≠ L → Inv c (upd H e exc0) s' → s'.heap.Ns L m → E (.ref e) s') :
    wpAny (model c.prog c.w) A (execs [.Return (some (.Call (.Attribute (.Name "dict" ⟨171, 15, 171, 19⟩) "fromkeys" ⟨171, 15, 171, 28⟩) [.Name "params" ⟨171, 29, 171, 35⟩] [] ⟨171, 15, 171, 36⟩)) ⟨171, 8, 171, 36⟩] (envC 13 q cd f L)) Q E s := by
  obtain ⟨gd1, gd2⟩ := G.dict
  refine wpAny_execs_cons (wpAny_Return_some ?_)
  refine' methodCall_KW ?_ ?k1
  case k1 => rfl
  refine wpAny_mono (f_nameB (v := .type "dict") (Q := fun v H' m' => v = .type "dict" ∧ H' = H ∧ m' = m) G.ok gd1 gd2 ⟨rfl, rfl, rfl⟩ rfl rfl rfl rfl (by decide) s I hL hn) (fun v s1 z => ?_) fun _ _ e => e.elim
  refine fx z fun H1' m1' I1 _ hn1 zq => ?_
  obtain ⟨rfl, e1, e2⟩ := zq
  rw [e1] at I1
  rw [e2] at hn1
  refine getmD ?_
  have huL : s1.heap.objs.size ≠ L := fun e => Nat.lt_irrefl _ (e ▸ hn1.lt)
  have I2 : Inv c H { s1 with heap := s1.heap.push boundD, toks := s1.toks + 1 } := I1.keep (fun b o e => Heap.get?_push_of_some _ e) _
  have hn2 : (s1.heap.push boundD).Ns L m := hn1.push _
  have hu2 : (s1.heap.push boundD).get? s1.heap.objs.size = some boundD := Heap.get?_push_size _ rfl
  show wpAny _ _ (callWith _ (.ref s1.heap.objs.size) [] _ []) _ _ { s1 with heap := s1.heap.push boundD, toks := s1.toks + 1 }
  generalize s1.heap.objs.size = u at *
  generalize s1.heap.push boundD = h2 at *
  refine callWith_boundD rfl (Calls.evalArgs_plain (Calls.spliced_cons ?_))
  refine wpAny_Name (wpAny_loadName_local rfl rfl hn2 hm ?_) (by decide)
  refine Calls.spliced_nil ⟨hu2, ?_⟩
  obtain ⟨y, hy⟩ : ∃ y, xs[0]? = some (.ref y) ∧ PairAt Dat key (.ref y) := by
    have hx := hS _ (List.getElem_mem h0)
    obtain ⟨y, e, _⟩ := id hx
    exact ⟨y, by rw [List.getElem?_eq_getElem h0, e], e ▸ hx⟩
  obtain ⟨y', t, w', ey, hy2⟩ := hy.2.isList hD I2
  cases ey
  refine fromkeys_raises (by omega) hh (I2.isList hl) hy.1 hy2 hu2 (fun h' tk e hk he hob => ?_)
  obtain ⟨ob, tt, hob, hcl, hd⟩ := hob
  have heH : H e = none := by
    cases e' : H e with
    | none => rfl
    | some P => obtain ⟨o, ho, _⟩ := I2.rep _ _ e'; simp only at ho; rw [he] at ho; cases ho
  have heL : e ≠ L := by rintro rfl; obtain ⟨o, es, ep, ho, _⟩ := hn2; rw [he] at ho; cases ho
  exact h e _ heH (Bs.own I.base heH) heL (I2.new (P := exc0) he hk hob ⟨hcl, tt, hd⟩ tk) (hn2.keeps hk)
theorem dedupT_spec {f l : Addr} {fl : List Env} {kV : Value} {xs : List Value} {Dat : HM} {key : Value → Key}
    (G : GF c) (F : FnAt c f 13 .none kV) (hfr : FrOK c A H fl) (hroom : A.depth + 5 < recursionLimit) (hh : A.handled = none) (hu : A.units + 200 < cLine) (hD : Sub Dat H)
    (hl : H l = some (lst xs)) (hS : ∀ x ∈ xs, PairAt Dat key x) (h0 : 0 < xs.length) (hz : xs.length < 900) :
    W c A (call (.ref f) [.ref l] [(Str.ofString "unhashable_fallback", .bool true)]) H (fun v H' => ∃ D, v = .ref D ∧ H D = none ∧ Own c D ∧ H' = upd H D (lst (ddp key [] xs))) := by
  obtain ⟨gt1, gt2⟩ := G.typeError
  obtain ⟨fd, gd, Fd⟩ := G.dedup
  refine w_callFnB (binds := [("params", .ref l), ("unhashable_fallback", .bool true)]) G.ok F (by omega) (fun s I _ _ _ _ _ _ _ => BindsTo.of_eq rfl) rfl (fun L => trivial) rfl rfl rfl (fun hb q cd L hL => ?_)
  have hcells : addCells H (bindC (envC 13 q cd f L).kindOf [("params", .ref l), ("unhashable_fallback", .bool true)] fun _ => none) (envC 13 q cd f L).cells = H := rfl
  rw [hcells]
  have hLn := (hL L (Nat.le_refl _)).1
  have hLo := (hL L (Nat.le_refl _)).2
  refine f_cons ?_
  with_reducible refine w_let ?_
  intro _
  intro s I hL' hn
  refine wa_let ?_
  intro QQ EE
  refine wpAny_Try_except (dd_body (Dat := Dat) (key := key) G hh (by show A.units + 3 + 20 < cLine; omega) hD hl hS h0 rfl I hL' hn (fun e s1 heH heo heL I1 hn1 => ?_))
  have hmL := I1
  have hL1 : upd H e exc0 L = none := by rw [upd_ne (Ne.symm heL)]; exact hLn
  have I1' := upd_frame I1 hL1 hn1
  have hF := (hfr.mono (Sub.upd_new (Sub.refl H) heH)).deeper (i := 13) (q := q) (cd := cd) (f := f) (m := bindL (envC 13 q cd f L).kindOf [("params", .ref l), ("unhashable_fallback", .bool true)] fun _ => none) hL1 hLo rfl
  refine note_first I1' hF rfl (by rw [upd_ne heL, upd_same]) heo (fun T s2 hT hTo I2 => ?_)
  have hTL : T ≠ L := by rintro rfl; rw [upd_same] at hT; cases hT
  have hTe : T ≠ e := by rintro rfl; rw [upd_ne hTL, upd_same] at hT; cases hT
  have hTH : H T = none := by rw [upd_ne hTL, upd_ne hTe] at hT; exact hT
  refine flight_set (fl := none) I2 (upd_same ..) (by rw [upd_ne hTe, upd_same]) hTo (fun s3 I3 => ?_)
  have hLT : L ≠ T := Ne.symm hTL
  have heT : e ≠ T := Ne.symm hTe
  generalize hns : isNs (bindL (envC 13 q cd f L).kindOf [("params", .ref l), ("unhashable_fallback", .bool true)] fun _ => none) = ns at *
  have hsubK : Sub (upd (upd (upd H T (tbP .none)) e (excT T)) L ns) (upd (upd (upd (upd (upd H e exc0) L ns) T (tbP (rawInt L))) e (excT T)) T (tbP ((none : Option Addr).elim .none fun f => rawInt f))) := fun d P ed => by
    by_cases h1 : d = L
    · subst h1; rw [upd_same] at ed; cases ed; rw [upd_ne hLT, upd_ne (Ne.symm heL), upd_ne hLT, upd_same]
    · rw [upd_ne h1] at ed
      by_cases h2 : d = e
      · subst h2; rw [upd_same] at ed; cases ed; rw [upd_ne heT, upd_same]
      · rw [upd_ne h2] at ed
        by_cases h3 : d = T
        · subst h3; rw [upd_same] at ed; cases ed; exact upd_same ..
        · rw [upd_ne h3] at ed; rw [upd_ne h3, upd_ne h2, upd_ne h3, upd_ne h1, upd_ne h2]; exact ed
  have I4 := I3.sub hsubK (((hb.updO hTo).updO heo).updO hLo)
  have hKL : upd (upd H T (tbP .none)) e (excT T) L = none := by rw [upd_ne (Ne.symm heL), upd_ne hLT]; exact hLn
  have hn4 : s3.heap.Ns L (bindL (envC 13 q cd f L).kindOf [("params", .ref l), ("unhashable_fallback", .bool true)] fun _ => none) := I4.ns (by rw [upd_same, ← hns])
  have I5 : Inv c (upd (upd H T (tbP .none)) e (excT T)) s3 := I4.sub (Sub.upd_new (Sub.refl _) hKL) ((hb.updO hTo).updO heo)
  refine wpAny_handleBy_builtin (X := "TypeError") (T := "TypeError") (b := true) (by rw [isSubtype_type]; kernel_rfl) (by rw [isSubtype_type]; kernel_rfl) (by rw [isSubtype_type]; kernel_rfl) ?_
  refine wpAny_mono (f_nameB (v := .type "TypeError") (Q := fun v H' m' => v = .type "TypeError" ∧ H' = upd (upd H T (tbP .none)) e (excT T) ∧ m' = bindL (envC 13 q cd f L).kindOf [("params", .ref l), ("unhashable_fallback", .bool true)] fun _ => none) G.ok gt1 gt2 ⟨rfl, rfl, rfl⟩ rfl rfl rfl rfl (by decide) s3 I5 hKL hn4) (fun v s4 z => ?_) fun _ _ e => e.elim
  refine fx z fun H6 m6 I6 hL6 hn6 zq => ?_
  obtain ⟨rfl, e6, e7⟩ := zq
  rw [e6] at I6 hL6
  rw [e7] at hn6
  obtain ⟨oe, hoe, hcl, _⟩ := I6.rep e _ (upd_same ..)
  refine ⟨rfl, ⟨oe, hoe, hcl⟩, ?_⟩
  simp only [if_true]
  have I6' := upd_frame I6 hL6 hn6
  refine flight_set (fl := none) (T := T) I6' (by rw [upd_ne heL, upd_same]) (by rw [upd_ne hTL, upd_ne hTe, upd_same]) hTo (fun s7 I7 => ?_)
  have hself : upd (upd (upd (upd H T (tbP .none)) e (excT T)) L (isNs (bindL (envC 13 q cd f L).kindOf [("params", .ref l), ("unhashable_fallback", .bool true)] fun _ => none))) T (tbP ((none : Option Addr).elim .none fun f => rawInt f)) =
      upd (upd (upd H T (tbP .none)) e (excT T)) L (isNs (bindL (envC 13 q cd f L).kindOf [("params", .ref l), ("unhashable_fallback", .bool true)] fun _ => none)) := upd_self (by rw [upd_ne hTL, upd_ne hTe, upd_same]; rfl)
  rw [hself] at I7
  have hn7 := I7.ns (upd_same ..)
  have I8 : Inv c (upd (upd H T (tbP .none)) e (excT T)) s7 := I7.sub (Sub.upd_new (Sub.refl _) hKL) ((hb.updO hTo).updO heo)
  have I9 : Inv c (upd (upd H T (tbP .none)) e excP) s7 := by
    have := I8.wk (P' := excP) (upd_same ..) heo (fun o ⟨_, t, hd⟩ => ⟨_, hd, rfl⟩)
    rw [upd_upd] at this; exact this
  have hL9 : upd (upd H T (tbP .none)) e excP L = none := by rw [upd_ne (Ne.symm heL), upd_ne hLT]; exact hLn
  have sK : Sub H (upd (upd H T (tbP .none)) e excP) := Sub.upd_new (Sub.upd_new (Sub.refl _) hTH) heH
  have hK : upd (upd H T (tbP .none)) e excP e = some excP := upd_same ..
  generalize upd (upd H T (tbP .none)) e excP = K at *
  have hlK := sK _ _ hl
  refine wpAny_mono (Q := fun fl s' => ∃ H' m', Inv c H' s' ∧ H' L = none ∧ s'.heap.Ns L m' ∧ ∃ v, fl = .ret v ∧ End c (fun v H' => ∃ D, v = .ref D ∧ H D = none ∧ Own c D ∧ H' = upd H D (lst (ddp key [] xs))) (.ret v) H' m') (E := fun _ _ => False) ?_ (fun fl s' z => ?_) fun _ _ e => e.elim
  · refine (show WF c ((A.deeper (envC 13 q cd f L)).mark (some (.ref e))) L _ K _ _ from ?_) s7 I9 hL9 hn7
    refine f_cons ?_
    with_reducible refine w_let ?_
    intro _
    with_reducible refine f_If ?_
    with_reducible refine f_tNot ?_
    with_reducible refine f_tVal ?_ ?k1
    case k1 => rfl
    repeat walk_at "e"
    with_reducible refine f_truthyB ?_
    show WF _ _ _ _ _ _ _
    repeat walk_at "e"
    refine ⟨Callee.fn Fd (hb.sub_of sK), ?_⟩
    refine f_specN (P := lst (ddp key [] xs)) (fun H' hs' => dedup_spec G Fd ?_ ?_ ?_ ((hD.trans sK).trans hs') (hs' _ _ hlK) hS hz) (fun D hDn hDo hDL => ?_)
    · show A.depth + 1 + 2 < recursionLimit; omega
    · exact .inr ⟨e, rfl, hs' _ _ hK⟩
    · show A.units + 3 + 100 < cLine; omega
    exact ⟨_, rfl, upd H D (lst (ddp key [] xs)), Sub.upd_both sK, hb.updO hDo, D, rfl, sK.none_of hDn, hDo, rfl⟩
  · refine fx z fun H' m' I' a b zq => ?_
    obtain ⟨v, rfl, q⟩ := zq
    exact ⟨H', m', I', a, b, q⟩
end
end
section
section
variable {c : Cx} {A : Around} {H : HM} {L : Addr} {m : Loc} {s : Shared} {E : Value → Shared → Prop}
/-- a bare raise, while e is handled -/
theorem raise_bare {env : Env} {e T L : Addr} {fl₀ : Value} {pos : Pos} {Q : Flow → Shared → Prop} (I : Inv c H s) (hh : A.handled = some (.ref e)) (hf : env.frame = some L) (he : H e = some (excT T)) (hT : H T = some (tbP fl₀)) (hTo : Own c T)
    (h : ∀ s', Inv c (upd H T (tbP (rawInt L))) s' → E (.ref e) s') : wpAny (model c.prog c.w) A (exec (.Raise none none pos) env) Q E s := by
  obtain ⟨oe, hoe, hcl, t, hd⟩ := I.rep _ _ he
  show wpAny _ A (do standAt pos; raiseStmt env none none) _ _ s
  refine wpAny_bind (wpAny_standAt ?_)
  unfold raiseStmt
  refine wpAny_bind (wpAny_handled ?_)
  rw [hh]
  refine wpAny_bind (wpAny_rule ?_)
  refine wpAny_bind (wpAny_field hoe hd (x := .ref T) rfl ?_)
  rw [if_neg (show ¬ ((Value.ref T == Value.none) = true) from by simp)]
  rw [hf]
  refine wpAny_bind (flight_set I he hT hTo (fun s' I' => wpAny_throw (h s' I')))
/-- _deduplicate without a fallback: the refusal leaves it -/
theorem dedupF_raises {f l : Addr} {fl : List Env} {kV : Value} {xs : List Value} {Dat : HM} {key : Value → Key} {Q : Value → Shared → Prop}
    (G : GF c) (F : FnAt c f 13 .none kV) (hB : BindD c kV) (hfr : FrOK c A H fl) (hroom : A.depth + 5 < recursionLimit) (hh : A.handled = none) (hu : A.units + 200 < cLine) (hD : Sub Dat H)
    (hl : H l = some (lst xs)) (hS : ∀ x ∈ xs, PairAt Dat key x) (h0 : 0 < xs.length) (hz : xs.length < 900) (I : Inv c H s)
    (h : ∀ e T s', H e = none → Own c e → H T = none → Own c T → T ≠ e → Inv c (upd (upd H T (tbP .none)) e (excT T)) s' → E (.ref e) s') :
    wpAny (model c.prog c.w) A (call (.ref f) [.ref l]) Q E s := by
  obtain ⟨gt1, gt2⟩ := G.typeError
  obtain ⟨oc, od, osl, nm, qual, doc, pm, an, cdv, ct, ho, hcd⟩ := F
  have hab : ∀ a, s.heap.objs.size ≤ a → H a = none ∧ Own c a := fun a ha => I.above ha
  refine wpAny_call (codeAny_call_cellsB (fd := fnOf nm qual (paramsOf (stm 13)) (bodyOf (stm 13)) (scopeOf (stm 13)) .none kV doc pm an cdv ct) (by omega) (I.keeps _ _ ho) rfl (G.ok.nolimit.keeps I.keeps) (hcd.keeps I.keeps) rfl
    (hB l s I.keeps nm qual doc pm an cdv ct) rfl (kindsX rfl _) (fun s₁ X => ?_) rfl rfl rfl)
  have he : callEnvC (fnOf nm qual (paramsOf (stm 13)) (bodyOf (stm 13)) (scopeOf (stm 13)) .none kV doc pm an cdv ct) s.heap.objs.size f = envC 13 qual cdv f s.heap.objs.size := rfl
  rw [he] at X ⊢
  obtain ⟨h₁, tk, rfl⟩ := X.toInCall.same
  have I₁ : Inv c H { s with heap := h₁, toks := tk } := I.keep X.toInCall.keep tk
  have hns := X.toInCall.ns
  obtain ⟨hLn, hLo⟩ := hab _ (Nat.le_refl _)
  have hns' : Heap.Ns (Shared.heap { s with heap := h₁, toks := tk }) s.heap.objs.size (bindL (envC 13 qual cdv f s.heap.objs.size).kindOf [("params", .ref l), ("unhashable_fallback", .bool false)] fun _ => none) := hns
  have hb : Bs c H := I.base
  generalize s.heap.objs.size = L at *
  generalize ({ s with heap := h₁, toks := tk } : Shared) = s0 at *
  clear X hns hab
  show wpAny _ _ (execs (bodyOf (stm 13)) (envC 13 qual cdv f L)) _ _ s0
  refine wa_let ?_
  intro QQ EE
  refine wpAny_execs_cons ?_
  refine wpAny_Try_except (dd_body (Dat := Dat) (key := key) G hh (by show A.units + 3 + 20 < cLine; omega) hD hl hS h0 rfl I₁ hLn hns' (fun e s1 heH heo heL I1 hn1 => ?_))
  have hL1 : upd H e exc0 L = none := by rw [upd_ne (Ne.symm heL)]; exact hLn
  have I1' := upd_frame I1 hL1 hn1
  have hF := (hfr.mono (Sub.upd_new (Sub.refl H) heH)).deeper (i := 13) (q := qual) (cd := cdv) (f := f) (m := bindL (envC 13 qual cdv f L).kindOf [("params", .ref l), ("unhashable_fallback", .bool false)] fun _ => none) hL1 hLo rfl
  refine note_first I1' hF rfl (by rw [upd_ne heL, upd_same]) heo (fun T s2 hT hTo I2 => ?_)
  have hTL : T ≠ L := by rintro rfl; rw [upd_same] at hT; cases hT
  have hTe : T ≠ e := by rintro rfl; rw [upd_ne hTL, upd_same] at hT; cases hT
  have hTH : H T = none := by rw [upd_ne hTL, upd_ne hTe] at hT; exact hT
  refine flight_set (fl := none) I2 (upd_same ..) (by rw [upd_ne hTe, upd_same]) hTo (fun s3 I3 => ?_)
  have hLT : L ≠ T := Ne.symm hTL
  have heT : e ≠ T := Ne.symm hTe
  generalize hns2 : isNs (bindL (envC 13 qual cdv f L).kindOf [("params", .ref l), ("unhashable_fallback", .bool false)] fun _ => none) = ns at *
  -- all that follows: this heap, with any flight
  let KK : Value → HM := fun fl => upd (upd (upd H T (tbP fl)) e (excT T)) L ns
  have KKe : ∀ fl, KK fl e = some (excT T) := fun fl => by show upd (upd (upd H T (tbP fl)) e (excT T)) L ns e = _; rw [upd_ne heL, upd_same]
  have KKT : ∀ fl, KK fl T = some (tbP fl) := fun fl => by show upd (upd (upd H T (tbP fl)) e (excT T)) L ns T = _; rw [upd_ne hTL, upd_ne hTe, upd_same]
  have KKu : ∀ fl fl', upd (KK fl) T (tbP fl') = KK fl' := fun fl fl' => by
    show upd (upd (upd (upd H T (tbP fl)) e (excT T)) L ns) T (tbP fl') = _
    rw [upd_comm hLT, upd_comm heT, upd_upd]
  have hsubK : Sub (KK .none) (upd (upd (upd (upd (upd H e exc0) L ns) T (tbP (rawInt L))) e (excT T)) T (tbP ((none : Option Addr).elim .none fun f => rawInt f))) := fun d P ed => by
    have ed : upd (upd (upd H T (tbP .none)) e (excT T)) L ns d = some P := ed
    by_cases h1 : d = L
    · subst h1; rw [upd_same] at ed; cases ed; rw [upd_ne hLT, upd_ne (Ne.symm heL), upd_ne hLT, upd_same]
    · rw [upd_ne h1] at ed
      by_cases h2 : d = e
      · subst h2; rw [upd_same] at ed; cases ed; rw [upd_ne heT, upd_same]
      · rw [upd_ne h2] at ed
        by_cases h3 : d = T
        · subst h3; rw [upd_same] at ed; cases ed; exact upd_same ..
        · rw [upd_ne h3] at ed; rw [upd_ne h3, upd_ne h2, upd_ne h3, upd_ne h1, upd_ne h2]; exact ed
  have I4 : Inv c (KK .none) s3 := I3.sub hsubK (((hb.updO hTo).updO heo).updO hLo)
  have KL : ∀ fl, upd (upd H T (tbP fl)) e (excT T) L = none := fun fl => by rw [upd_ne (Ne.symm heL), upd_ne hLT]; exact hLn
  have take : ∀ fl s', Inv c (KK fl) s' → Inv c (upd (upd H T (tbP fl)) e (excT T)) s' ∧ s'.heap.Ns L (bindL (envC 13 qual cdv f L).kindOf [("params", .ref l), ("unhashable_fallback", .bool false)] fun _ => none) := fun fl s' I' =>
    ⟨I'.sub (Sub.upd_new (Sub.refl _) (KL fl)) ((hb.updO hTo).updO heo), I'.ns (by show upd (upd (upd H T (tbP fl)) e (excT T)) L ns L = _; rw [upd_same, ← hns2])⟩
  have put : ∀ fl s', Inv c (upd (upd H T (tbP fl)) e (excT T)) s' → s'.heap.Ns L (bindL (envC 13 qual cdv f L).kindOf [("params", .ref l), ("unhashable_fallback", .bool false)] fun _ => none) → Inv c (KK fl) s' := fun fl s' I' hn' => by
    have := upd_frame I' (KL fl) hn'
    rw [hns2] at this; exact this
  obtain ⟨I5, hn5⟩ := take _ _ I4
  refine wpAny_handleBy_builtin (X := "TypeError") (T := "TypeError") (b := true) (by rw [isSubtype_type]; kernel_rfl) (by rw [isSubtype_type]; kernel_rfl) (by rw [isSubtype_type]; kernel_rfl) ?_
  refine wpAny_mono (f_nameB (v := .type "TypeError") (Q := fun v H' m' => v = .type "TypeError" ∧ H' = upd (upd H T (tbP .none)) e (excT T) ∧ m' = bindL (envC 13 qual cdv f L).kindOf [("params", .ref l), ("unhashable_fallback", .bool false)] fun _ => none) G.ok gt1 gt2 ⟨rfl, rfl, rfl⟩ rfl rfl rfl rfl (by decide) s3 I5 (KL _) hn5) (fun v s4 z => ?_) fun _ _ e => e.elim
  refine fx z fun H6 m6 I6 hL6 hn6 zq => ?_
  obtain ⟨rfl, e6, e7⟩ := zq
  rw [e6] at I6
  rw [e7] at hn6
  obtain ⟨oe, hoe, hcl, _⟩ := I6.rep e _ (upd_same ..)
  refine ⟨rfl, ⟨oe, hoe, hcl⟩, ?_⟩
  simp only [if_true]
  refine flight_set (fl := none) (put _ _ I6 hn6) (KKe _) (KKT _) hTo (fun s7 I7 => ?_)
  rw [KKu] at I7
  obtain ⟨I8, hn8⟩ := take _ _ I7
  refine wpAny_execs_cons (wpAny_If ?_)
  refine wpAny_mono ((show WF c ((A.deeper (envC 13 qual cdv f L)).mark (some (.ref e))) L _ (upd (upd H T (tbP .none)) e (excT T)) (bindL (envC 13 qual cdv f L).kindOf [("params", .ref l), ("unhashable_fallback", .bool false)] fun _ => none) (fun b H' m' => b = true ∧ H' = upd (upd H T (tbP .none)) e (excT T) ∧ m' = bindL (envC 13 qual cdv f L).kindOf [("params", .ref l), ("unhashable_fallback", .bool false)] fun _ => none) from by
    with_reducible refine f_tNot ?_
    with_reducible refine f_tVal ?_ ?k1
    case k1 => rfl
    repeat walk_at "e"
    with_reducible refine f_truthyB ?_
    exact ⟨rfl, rfl, rfl⟩) s7 I8 (KL _) hn8) (fun b s9 z => ?_) fun _ _ e => e.elim
  refine fx z fun H9 m9 I9 _ hn9 zq => ?_
  obtain ⟨rfl, e9, e10⟩ := zq
  rw [e9] at I9
  rw [e10] at hn9
  simp only [if_true]
  refine wpAny_execs_cons (raise_bare (put _ _ I9 hn9) rfl rfl (KKe _) (KKT _) hTo (fun s10 I10 => ?_))
  rw [KKu] at I10
  refine note_again I10 rfl (KKe _) (KKT _) ?_
  obtain ⟨oe', hoe', hcl', t', hd'⟩ := I10.rep _ _ (KKe _)
  refine wpAny_bind (wpAny_field hoe' hd' (x := .ref T) rfl ?_)
  rw [if_neg (show ¬ ((Value.ref T == Value.none) = true) from by simp)]
  refine flight_set (fl := some L) I10 (KKe _) (KKT _) hTo (fun s11 I11 => ?_)
  rw [KKu] at I11
  refine wpAny_bind (note_again I11 rfl (KKe _) (KKT _) ?_)
  refine flight_set (fl := none) I11 (KKe _) (KKT _) hTo (fun s12 I12 => ?_)
  rw [KKu] at I12
  exact h e T s12 heH heo hTH hTo hTe (take _ _ I12).1
end
end
section
section
variable {c : Cx} {A : Around} {H : HM} {L : Addr} {m : Loc}
theorem call1_raw {env : Env} {x y : Str} {np yp pos : Pos} {fd : Addr} {v : Value} {s : Shared} {Q : Value → Shared → Prop} {E : Value → Shared → Prop} (ok : c.Ok) (hg : c.mg x = some (.ref fd)) (hc : Callee H (.ref fd)) (hm : m y = some v)
    (I : Inv c H s) (hL : H L = none) (hn : s.heap.Ns L m)
    (h : ∀ s', Inv c H s' → s'.heap.Ns L m → wpAny (model c.prog c.w) A (call (.ref fd) [v]) Q E s')
    (hv : ∀ {R : Value → HM → Loc → Prop}, R (.ref fd) H m → WF c A L (eval (.Name x np) env) H m R) (hy : ∀ {R : Value → HM → Loc → Prop}, R v H m → WF c A L (eval (.Name y yp) env) H m R)  :
    wpAny (model c.prog c.w) A (eval (.Call (.Name x np) [.Name y yp] [] pos) env) Q E s := by
  show wpAny _ _ (eval (.Name x np) env >>= fun f => callWith pos f [] (backTo pos (starEach [.Name y yp] env)) (backToKw pos (keywordEach [] env))) _ _ s
  refine wpAny_bind (wpAny_mono (hv (R := fun v H' m' => v = .ref fd ∧ H' = H ∧ m' = m) ⟨rfl, rfl, rfl⟩ s I hL hn) (fun f s1 z => ?_) fun _ _ e => e.elim)
  refine fx z fun H1 m1 I1 hL1 hn1 zq => ?_
  obtain ⟨rfl, e1, e2⟩ := zq
  rw [e1] at I1; rw [e2] at hn1
  refine callWith_of (P := CalleeAt (.ref fd)) rfl CalleeAt.looks (Calls.evalArgs_plain (Calls.spliced_cons ?_))
  refine wpAny_mono (hy (R := fun w H' m' => w = v ∧ H' = H ∧ m' = m) ⟨rfl, rfl, rfl⟩ s1 I1 hL hn1) (fun f s2 z => ?_) fun _ _ e => e.elim
  refine fx z fun H2 m2 I2 hL2 hn2 zq => ?_
  obtain ⟨rfl, e3, e4⟩ := zq
  rw [e3] at I2; rw [e4] at hn2
  exact Calls.spliced_nil ⟨hc.at I2, h s2 I2 hn2⟩
theorem refused_spec {f fd l : Addr} {fl : List Env} {kV : Value} {xs : List Value} {Dat : HM} {key : Value → Key}
    (G : GF c) (F : FnAt c f 18 .none .none) (gd : c.mg "_deduplicate" = some (.ref fd)) (Fd : FnAt c fd 13 .none kV) (hB : BindD c kV) (hfr : FrOK c A H fl) (hroom : A.depth + 10 < recursionLimit) (hh : A.handled = none) (hu : A.units + 300 < cLine) (hD : Sub Dat H)
    (hl : H l = some (lst xs)) (hS : ∀ x ∈ xs, PairAt Dat key x) (h0 : 0 < xs.length) (hz : xs.length < 900) :
    W c A (call (.ref f) [.ref l]) H (fun v H' => v = .bool true ∧ H' = H) := by
  obtain ⟨gt1, gt2⟩ := G.typeError
  refine w_callFnC (binds := [("row", .ref l)]) G.ok F (by omega) (fun _ _ _ _ _ _ _ => rfl) rfl (fun L => trivial) rfl rfl rfl (fun hb q cd L hL => ?_)
  have hcells : addCells H (bindC (envC 18 q cd f L).kindOf [("row", .ref l)] fun _ => none) (envC 18 q cd f L).cells = H := rfl
  rw [hcells]
  obtain ⟨hLn, hLo⟩ := hL L (Nat.le_refl _)
  refine f_cons ?_
  with_reducible refine w_let ?_
  intro _
  intro s I hL' hn
  refine wa_let ?_
  intro QQ EE
  refine wpAny_Try_except ?_
  refine wpAny_execs_cons (wpAny_Expr_any ?_ rfl rfl)
  have hmL : bindL (envC 18 q cd f L).kindOf [("row", .ref l)] (fun _ => none) "row" = some (.ref l) := rfl
  have hns : s.heap.Ns L (bindL (envC 18 q cd f L).kindOf [("row", .ref l)] fun _ => none) := hn
  generalize hme : bindL (envC 18 q cd f L).kindOf [("row", .ref l)] (fun _ => none) = m0 at *
  refine call1_raw (H := H) (L := L) (m := m0) (fd := fd) (v := .ref l) G.ok gd (Callee.fn Fd hb) hmL I hLn hns (fun s1 I1 hn1 => ?_) (fun r => f_nameG G.ok gd r rfl rfl rfl (by decide)) (fun r => f_nameL hmL r rfl rfl rfl (by decide))
  have hF := hfr.deeper (i := 18) (q := q) (cd := cd) (f := f) (m := m0) hLn hLo rfl
  have hsub : Sub H (upd H L (isNs m0)) := Sub.upd_new (Sub.refl _) hLn
  refine dedupF_raises (Dat := Dat) (key := key) G Fd hB hF (by show A.depth + 1 + 5 < recursionLimit; omega) hh (by show A.units + 3 + 200 < cLine; omega) (hD.trans hsub) (hsub _ _ hl) hS h0 hz (upd_frame I1 hLn hn1) (fun e T s2 he heo hT hTo hTe I2 => ?_)
  have heL : e ≠ L := by rintro rfl; rw [upd_same] at he; cases he
  have hTL : T ≠ L := by rintro rfl; rw [upd_same] at hT; cases hT
  have heH : H e = none := by rw [upd_ne heL] at he; exact he
  have hTH : H T = none := by rw [upd_ne hTL] at hT; exact hT
  have heT : e ≠ T := Ne.symm hTe
  have hLT : L ≠ T := Ne.symm hTL
  have hLe : L ≠ e := Ne.symm heL
  have hF2 : FrOK c (A.deeper (envC 18 q cd f L)) (upd (upd (upd H L (isNs m0)) T (tbP .none)) e (excT T)) (envC 18 q cd f L :: fl) := hF.mono (Sub.upd_new (Sub.upd_new (Sub.refl _) hT) (by exact he))
  refine note_next I2 hF2 rfl (upd_same ..) heo (by rw [upd_ne hTe, upd_same]) hTo (fun T' s3 hT' hTo' I3 => ?_)
  have hTe' : T' ≠ e := by rintro rfl; rw [upd_same] at hT'; cases hT'
  have hTT' : T' ≠ T := by rintro rfl; rw [upd_ne hTe, upd_same] at hT'; cases hT'
  have hTL' : T' ≠ L := by rintro rfl; rw [upd_ne hTe', upd_ne hTT', upd_same] at hT'; cases hT'
  have hTH' : H T' = none := by rw [upd_ne hTe', upd_ne hTT', upd_ne hTL'] at hT'; exact hT'
  -- what stays: the frame, the exception, its last entry
  let KK : Value → HM := fun fl => upd (upd (upd H T' (tbP fl)) e (excT T')) L (isNs m0)
  have KKe : ∀ fl, KK fl e = some (excT T') := fun fl => by show upd (upd (upd H T' (tbP fl)) e (excT T')) L _ e = _; rw [upd_ne heL, upd_same]
  have KKT : ∀ fl, KK fl T' = some (tbP fl) := fun fl => by show upd (upd (upd H T' (tbP fl)) e (excT T')) L _ T' = _; rw [upd_ne hTL', upd_ne hTe', upd_same]
  have KKu : ∀ fl fl', upd (KK fl) T' (tbP fl') = KK fl' := fun fl fl' => by
    show upd (upd (upd (upd H T' (tbP fl)) e (excT T')) L _) T' (tbP fl') = _
    rw [upd_comm (Ne.symm hTL'), upd_comm (Ne.symm hTe'), upd_upd]
  have hsubK : Sub (KK (rawInt L)) (upd (upd (upd (upd (upd H L (isNs m0)) T (tbP .none)) e (excT T)) T' (tbP (rawInt L))) e (excT T')) := fun d P ed => by
    have ed : upd (upd (upd H T' (tbP (rawInt L))) e (excT T')) L (isNs m0) d = some P := ed
    by_cases h1 : d = L
    · subst h1; rw [upd_same] at ed; cases ed; rw [upd_ne hLe, upd_ne (Ne.symm hTL'), upd_ne hLe, upd_ne hLT, upd_same]
    · rw [upd_ne h1] at ed
      by_cases h2 : d = e
      · subst h2; rw [upd_same] at ed; cases ed; rw [upd_same]
      · rw [upd_ne h2] at ed
        by_cases h3 : d = T'
        · subst h3; rw [upd_same] at ed; cases ed; rw [upd_ne h2, upd_same]
        · rw [upd_ne h3] at ed
          have h4 : d ≠ T := by rintro rfl; rw [hTH] at ed; cases ed
          rw [upd_ne h2, upd_ne h3, upd_ne h2, upd_ne h4, upd_ne h1]; exact ed
  have I4 : Inv c (KK (rawInt L)) s3 := I3.sub hsubK (((hb.updO hTo').updO heo).updO hLo)
  have KL : ∀ fl, upd (upd H T' (tbP fl)) e (excT T') L = none := fun fl => by rw [upd_ne hLe, upd_ne (Ne.symm hTL')]; exact hLn
  have take : ∀ fl s', Inv c (KK fl) s' → Inv c (upd (upd H T' (tbP fl)) e (excT T')) s' ∧ s'.heap.Ns L m0 := fun fl s' I' =>
    ⟨I'.sub (Sub.upd_new (Sub.refl _) (KL fl)) ((hb.updO hTo').updO heo), I'.ns (by show upd (upd (upd H T' (tbP fl)) e (excT T')) L _ L = _; rw [upd_same])⟩
  have put : ∀ fl s', Inv c (upd (upd H T' (tbP fl)) e (excT T')) s' → s'.heap.Ns L m0 → Inv c (KK fl) s' := fun fl s' I' hn' => upd_frame I' (KL fl) hn'
  refine flight_set (fl := none) I4 (KKe _) (KKT _) hTo' (fun s4 I5 => ?_)
  rw [KKu] at I5
  obtain ⟨I6, hn6⟩ := take _ _ I5
  refine wpAny_handleBy_builtin (X := "TypeError") (T := "TypeError") (b := true) (by rw [isSubtype_type]; kernel_rfl) (by rw [isSubtype_type]; kernel_rfl) (by rw [isSubtype_type]; kernel_rfl) ?_
  refine wpAny_mono (f_nameB (v := .type "TypeError") (Q := fun v H' m' => v = .type "TypeError" ∧ H' = upd (upd H T' (tbP .none)) e (excT T') ∧ m' = m0) G.ok gt1 gt2 ⟨rfl, rfl, rfl⟩ rfl rfl rfl rfl (by decide) s4 I6 (KL _) hn6) (fun v s5 z => ?_) fun _ _ e => e.elim
  refine fx z fun H7 m7 I7 hL7 hn7 zq => ?_
  obtain ⟨rfl, e6, e7⟩ := zq
  rw [e6] at I7
  rw [e7] at hn7
  obtain ⟨oe, hoe, hcl, _⟩ := I7.rep e _ (upd_same ..)
  refine ⟨rfl, ⟨oe, hoe, hcl⟩, ?_⟩
  simp only [if_true]
  refine flight_set (fl := none) (put _ _ I7 hn7) (KKe _) (KKT _) hTo' (fun s7 I8 => ?_)
  rw [KKu] at I8
  obtain ⟨I9, hn9⟩ := take _ _ I8
  refine wpAny_mono ((show WF c ((A.deeper (envC 18 q cd f L)).mark (some (.ref e))) L _ (upd (upd H T' (tbP .none)) e (excT T')) m0 (fun fl H' m' => ∃ v, fl = .ret v ∧ End c (fun v H' => v = .bool true ∧ H' = H) (.ret v) H' m') from by
    refine f_cons ?_
    with_reducible refine w_let ?_
    intro _
    repeat walk_at "e"
    exact ⟨_, rfl, H, Sub.upd_new (Sub.upd_new (Sub.refl _) hTH') heH, hb, rfl, rfl⟩) s7 I9 (KL _) hn9) (fun fl s' z => ?_) fun _ _ e => e.elim
  refine fx z fun H' m' I' a b zq => ?_
  obtain ⟨v, rfl, q⟩ := zq
  exact ⟨H', m', I', a, b, q⟩
end
end
section
/-- the table of a code object's inner functions: all of them on the lines up to n -/
noncomputable def tabU (n : Nat) : OP := fun o => ∃ ps : Array Value, o = tabObj ps ∧ TriplesOk ps.toList ∧ ∀ pos : Pos, n < pos.line → codeAmong pos ps.toList = none
noncomputable def codeP (qual : Str) : OP := fun o => ∃ vs t, o.data = .fields vs ∧ vs[1]? = some (.str qual t)
noncomputable def lamP (params : Arguments) (body : PySem.Expr) (scope : Scope) (qual : Str) (cc : Addr) : OP := fun o => ∃ name pm ctv, o = kla_obj name qual params body scope [] pm cc ctv
theorem triples_snoc {i j : Int} {t u : Tok} {v : Value} : ∀ (l : List Value), TriplesOk l → TriplesOk (l ++ [.int i t, .int j u, v])
  | [], _ => by simp [TriplesOk]
  | .int _ _ :: .int _ _ :: _ :: rest, h => by
    show TriplesOk (.int _ _ :: .int _ _ :: _ :: (rest ++ _))
    exact triples_snoc rest h
theorem among_snoc {pos : Pos} {i j : Int} {t u : Tok} {v : Value} (hne : (i == (pos.line : Int)) = false) : ∀ (l : List Value), TriplesOk l → codeAmong pos l = none → codeAmong pos (l ++ [.int i t, .int j u, v]) = none
  | [], _, _ => by simp [codeAmong, hne]
  | .int a _ :: .int b _ :: x :: rest, h, e => by
    show codeAmong pos (.int _ _ :: .int _ _ :: _ :: (rest ++ _)) = none
    unfold codeAmong at e ⊢
    split at e
    · cases e
    · rename_i hf
      rw [if_neg hf]
      exact among_snoc hne rest h e
structure LawBase (c : Cx) (cd P : Addr) : Prop where
  code : CodeHd c.s₁.heap cd P
  own : Own c P
  bm : c.s₁.heap.BuiltinsAt c.mg P
section
variable {c : Cx} {A : Around} {H : HM} {L : Addr} {m : Loc} {env : Env}
theorem f_Lambda {params : Arguments} {body : PySem.Expr} {scope : Scope} {pos : Pos} {cd P : Addr} {n : Nat} {Q : Value → HM → Loc → Prop} (ok : c.Ok) (LB : LawBase c cd P) (hP : H P = some (tabU n)) (hn' : n < pos.line)
    (h : ∀ f cc, H f = none → Own c f → H cc = none → Own c cc → f ≠ cc → f ≠ L → cc ≠ L → Q (.ref f) (upd (upd (upd H P (tabU pos.line)) cc (codeP (env.qual ++ "<lambda>"))) f (lamP params body scope (env.qual ++ "<lambda>") cc)) m)
    (hdef : defaultsOf params env = ([], [])) (hcl : closureFor scope env = pure []) (hg : env.globals = mainGlobals) (hcode : env.code = .ref cd) : WF c A L (eval (.Lambda params body scope pos) env) H m Q := by
  intro s I hL hn
  obtain ⟨oP, hoP, ps, rfl, ht, hno⟩ := I.rep _ _ hP
  have hPL : P ≠ L := by rintro rfl; rw [hL] at hP; cases hP
  refine kla_eval hdef ?_
  have hgs := ok.g.keeps I.keeps
  have hgP : mainGlobals ≠ P := fun q => by
    obtain ⟨o, es, ep, e, hd, _⟩ := hgs
    rw [q, hoP] at e; cases e; cases hd
  obtain ⟨bm, ob, b1, b2, b3, b4, b5, b6⟩ := LB.bm
  refine kla_makeFunction (mg := c.mg) hcl hg hgs hcode (LB.code.keeps I.keeps) hoP ht (hno pos hn') hgP ⟨bm, ob, b1, b2, b3, b4, I.keeps _ _ b5, b6⟩ fun cc ctv h' tk hx hge hlt hrec htb => ?_
  obtain ⟨c₂, oc, vs, t, e2, hoc, hd, hv⟩ := hrec
  cases e2
  obtain ⟨hcn, hco⟩ := I.above hge
  have hcL : cc ≠ L := fun e => absurd (Nat.lt_of_lt_of_le hn.lt hge) (by rw [e]; exact Nat.lt_irrefl _)
  have I1 := I.turnO (P' := tabU pos.line) LB.own hx htb ⟨_, rfl, by simpa [rawInt] using triples_snoc _ ht, fun p hp => by
    have := among_snoc (pos := p) (i := pos.line) (j := pos.col) (t := 0) (u := 0) (v := .ref cc) (by simp; omega) _ ht (hno p (by omega))
    simpa [rawInt] using this⟩ tk
  have I2 := I1.turnO (P' := codeP (env.qual ++ "<lambda>")) (h' := h') hco (.refl _ _) hoc ⟨vs, t, hd, hv⟩ tk
  have hfr : upd (upd H P (tabU pos.line)) cc (codeP (env.qual ++ "<lambda>")) h'.objs.size = none := I2.fresh
  have I3 := I2.push (P := lamP params body scope (env.qual ++ "<lambda>") cc) (o := kla_obj "<lambda>" (env.qual ++ "<lambda>") params body scope [] ((c.mg "__name__").getD .none) cc ctv) rfl ⟨_, _, _, rfl⟩ tk
  have hfc : h'.objs.size ≠ cc := Nat.ne_of_gt hlt
  have hfo := I2.own
  have hfP : h'.objs.size ≠ P := by rintro e; rw [e, upd_ne (by rw [← e]; exact hfc), upd_same] at hfr; cases hfr
  have hfn : H h'.objs.size = none := by rw [upd_ne hfc, upd_ne hfP] at hfr; exact hfr
  have hns := (ns_extBut hn hx (Ne.symm hPL)).push (kla_obj "<lambda>" (env.qual ++ "<lambda>") params body scope [] ((c.mg "__name__").getD .none) cc ctv)
  have hfL : h'.objs.size ≠ L := fun e => Nat.lt_irrefl _ (Nat.lt_of_lt_of_eq (ns_extBut hn hx (Ne.symm hPL)).lt e)
  refine ⟨_, m, I3, ?_, hns, h _ _ hfn hfo hcn hco hfc hfL hcL⟩
  rw [upd_ne (Ne.symm hfL), upd_ne (Ne.symm hcL), upd_ne (Ne.symm hPL)]; exact hL
theorem w_callLam {f cc : Addr} {params : Arguments} {body : PySem.Expr} {scope : Scope} {qual : Str} {args : List Value} {binds : List (Str × Value)} {Q : Value → HM → Prop} (ok : c.Ok) (hf : H f = some (lamP params body scope qual cc)) (hc : H cc = some (codeP qual)) (hroom : A.depth < recursionLimit)
    (hbind : ∀ name pm ctv, bindArgs (kla_fn name qual params body scope [] pm (.ref cc) ctv) ⟨args, []⟩ = pure binds) (hloc : ∀ y ∈ binds, scope.names.lookup y.1 = some .local)
    (h : Bs c H → ∀ L, H L = none → Own c L → WF c (A.deeper (envX qual scope L f (.ref cc) [])) L (eval body (envX qual scope L f (.ref cc) [])) H (fun y => binds.reverse.lookup y) (fun v H' _ => ∃ H'', Sub H'' H' ∧ Bs c H'' ∧ Q v H''))
    (hco : scope.isCoroutine = false) (hgen : scope.isGenerator = false) (hk : scope.kind = .function) (hcell : ∀ x ∈ scope.names, x.2 ≠ .cell) : W c A (call (.ref f) args) H Q := by
  intro s I
  obtain ⟨of, hof, name, pm, ctv, rfl⟩ := I.rep _ _ hf
  obtain ⟨oc, hoc, vs, t, hd, hv⟩ := I.rep _ _ hc
  refine wpAny_call (kla_callFunE hroom hof rfl hco hgen rfl ⟨cc, oc, vs, t, rfl, hoc, hd, hv⟩ ?_)
  rw [hbind]
  refine wpAny_pure (wpAny_newFunctionEnv hcell hloc (fun h₁ hns hsb => ⟨(ok.nolimit.keeps I.keeps).fresh _ hsb, ?_⟩) hk)
  show codeAny _ _ (.expr body (envX qual scope s.heap.objs.size f (.ref cc) [])) _ _
  have hk₁ : ∀ b o, s.heap.get? b = some o → h₁.get? b = some o := fun b o e => hsb.extBut b o (Nat.ne_of_lt (Heap.lt_size e)) (Heap.get?_push_of_some _ e)
  have I1 : Inv c H { s with heap := h₁, toks := s.toks + binds.length } := I.keep hk₁ _
  refine kla_codeExpr (wpAny_mono (h I.base s.heap.objs.size I.fresh I.own _ I1 I.fresh hns) (fun v s' hq => ?_) fun _ _ e => e.elim)
  refine fx hq fun H' m' I' hL' hn' zq => ?_
  obtain ⟨H'', hsub, hb, q⟩ := zq
  exact ⟨H'', I'.sub hsub hb, q⟩
end
end
section
noncomputable abbrev lamArgs (p : Pos) : Arguments := { posonlyargs := [], args := [{ arg := "pair", annotation := none, pos := p }], vararg := none, kwonlyargs := [], kw_defaults := [], kwarg := none, defaults := [] }
noncomputable abbrev lamScope : Scope := { kind := .function, names := [(Str.ofString "pair", .local)], isGenerator := false, isCoroutine := false, more := [] }
section
variable {c : Cx} {A : Around} {H : HM} {L : Addr} {m : Loc} {env : Env}
theorem lam_callee {f cc : Addr} {params : Arguments} {body : PySem.Expr} {scope : Scope} {qual : Str} (hf : H f = some (lamP params body scope qual cc)) : Callee H (.ref f) :=
  .inr ⟨f, _, rfl, hf, fun o ⟨_, _, _, e⟩ => by subst e; exact ⟨_, rfl⟩⟩
theorem f_getP1 {a : Addr} {k : Key} {t : Tok} {value slice : PySem.Expr} {Q : Value → HM → Loc → Prop} (hl : H a = some (pairP k)) (h : ∀ t, Q (.int k.2 t) H m)
    (hs : subscripted slice false (.ref a) (.int 1 t) = operate [.ref a, .int 1 t] (getItem (.ref a) (.int 1 t))) : WF c A L (subscriptTail value slice (.ref a) (.int 1 t)) H m Q := by
  intro s I hL hn
  obtain ⟨o, ho, t', u, n, rfl⟩ := I.rep _ _ hl
  have hI : s.heap.IsList a #[.int k.1 t', .int k.2 u] := IsL.isList (n := n) ho
  exact tail_any hI.typeIs slot_list_getitem.lookup (wpAny_getItem_list hI (by decide) (by decide) rfl ⟨H, m, I, hL, hn, h _⟩) hs
theorem mark_id {f cc : Addr} {p p' : Pos} {qual : Str} {Dat : HM} {key : Value → Key} (ok : c.Ok) (hf : Dat f = some (lamP (lamArgs p) (.Name "pair" p') lamScope qual cc)) (hc : Dat cc = some (codeP qual)) :
    MarkOK c (.ref f) Dat (PairAt Dat key) (fun v r => r = v) (fun v w => keyLe (key v) (key w)) where
  callee := fun H' hs => lam_callee (hs _ _ hf)
  call := fun A H' v hd hu hs hv => by
    refine w_callLam (binds := [("pair", v)]) ok (hs _ _ hf) (hs _ _ hc) (by omega) (fun _ _ _ => rfl) (by intro y hy; rcases List.mem_singleton.mp hy with rfl; rfl) (fun hb L hL hLo => ?_) rfl rfl rfl (by decide)
    with_reducible refine' f_nameL (v := v) ?hv ?_ ?k1 ?k2 ?k3 ?k4
    case k1 => rfl
    case k2 => rfl
    case k3 => rfl
    case k4 => decide
    case hv => rfl
    exact ⟨H', Sub.refl _, hb, rfl, rfl⟩
  le := fun A L H' m v w r r' Q hu hs hv hw e e' q => by
    subst e e'
    exact f_leP (by omega) hs hv hw q
theorem mark_snd {f cc : Addr} {p p1 p2 p3 : Pos} {k2 : Nat} {qual : Str} {Dat : HM} {key : Value → Key} (ok : c.Ok) (hf : Dat f = some (lamP (lamArgs p) (.Subscript (.Name "pair" p1) (.Constant (.int 1) k2 p2) p3) lamScope qual cc)) (hc : Dat cc = some (codeP qual)) :
    MarkOK c (.ref f) Dat (PairAt Dat key) (fun v r => ∃ t, r = .int (key v).2 t) (fun v w => decide ((key v).2 ≤ (key w).2)) where
  callee := fun H' hs => lam_callee (hs _ _ hf)
  call := fun A H' v hd hu hs hv => by
    obtain ⟨a, ea, ha⟩ := id hv
    refine w_callLam (binds := [("pair", v)]) ok (hs _ _ hf) (hs _ _ hc) (by omega) (fun _ _ _ => rfl) (by intro y hy; rcases List.mem_singleton.mp hy with rfl; rfl) (fun hb L hL hLo => ?_) rfl rfl rfl (by decide)
    with_reducible refine f_Subscript ?_
    with_reducible refine' f_nameL (v := v) ?hv ?_ ?k1 ?k2 ?k3 ?k4
    case k1 => rfl
    case k2 => rfl
    case k3 => rfl
    case k4 => decide
    case hv => rfl
    repeat walk_at "e"
    have hx := hs _ _ ha
    generalize key v = k at *
    rw [ea]
    exact f_getP1 hx (fun t => ⟨H', Sub.refl _, hb, ⟨t, rfl⟩, rfl⟩) (by with_unfolding_all rfl)
  le := fun A L H' m v w r r' Q hu hs hv hw e e' q => by
    obtain ⟨t, rfl⟩ := e
    obtain ⟨t', rfl⟩ := e'
    exact f_le q
theorem mark_neg {f cc : Addr} {p p0 p1 p2 p3 p4 : Pos} {k0 k2 : Nat} {qual : Str} {Dat : HM} {key : Value → Key} (ok : c.Ok)
    (hf : Dat f = some (lamP (lamArgs p) (.BinOp (.Constant (.int 0) k0 p0) .Sub (.Subscript (.Name "pair" p1) (.Constant (.int 1) k2 p2) p3) p4) lamScope qual cc)) (hc : Dat cc = some (codeP qual)) :
    MarkOK c (.ref f) Dat (PairAt Dat key) (fun v r => ∃ t, r = .int (0 - (key v).2) t) (fun v w => decide ((key w).2 ≤ (key v).2)) where
  callee := fun H' hs => lam_callee (hs _ _ hf)
  call := fun A H' v hd hu hs hv => by
    obtain ⟨a, ea, ha⟩ := id hv
    refine w_callLam (binds := [("pair", v)]) ok (hs _ _ hf) (hs _ _ hc) (by omega) (fun _ _ _ => rfl) (by intro y hy; rcases List.mem_singleton.mp hy with rfl; rfl) (fun hb L hL hLo => ?_) rfl rfl rfl (by decide)
    with_reducible refine f_BinOp ?_
    repeat walk_at "e"
    have hx := hs _ _ ha
    generalize key v = k at *
    rw [ea]
    exact f_getP1 hx (fun t => f_sub (fun t2 => ⟨H', Sub.refl _, hb, ⟨t2, rfl⟩, rfl⟩)) (by with_unfolding_all rfl)
  le := fun A L H' m v w r r' Q hu hs hv hw e e' q => by
    obtain ⟨t, rfl⟩ := e
    obtain ⟨t', rfl⟩ := e'
    refine f_le ?_
    have : decide (0 - (key v).2 ≤ 0 - (key w).2) = decide ((key w).2 ≤ (key v).2) := by
      apply decide_eq_decide.mpr; omega
    rw [this]; exact q
end
end
section
section
variable {α β : Type} {c : Cx} {A : Around} {L : Addr} {H : HM} {m : Loc} {env : Env}
noncomputable def one (a : Addr) (P : OP) : HM := fun b => if b = a then some P else none
theorem one_sub {a : Addr} {P : OP} (h : H a = some P) : Sub (one a P) H := fun b Q e => by
  unfold one at e; split at e
  · rename_i e'; subst e'; rw [h]; exact e
  · cases e
theorem one_same {a : Addr} {P : OP} : one a P a = some P := if_pos rfl
theorem one_ne {a b : Addr} {P : OP} (h : b ≠ a) : one a P b = none := if_neg h
/-- what stands between a comprehension's turns -/
structure Rest (c : Cx) (L D it : Addr) (Src Hx : HM) : Prop where
  l : Hx L = none
  d : Hx D = none
  i : Hx it = none
  b : Bs c Hx
  s : Sub Src Hx
/-- a comprehension by one name, without tests, whose turns may turn the heap -/
theorem compW_inv {elt : PySem.Expr} {x : Str} {px : Pos} {scope : Scope} {cl : List (Str × Addr)} {it : Addr} {P : Nat → OP} {n : Nat} {V : Nat → Value → Prop} {Src : HM} {Q : Addr → HM → Prop}
    (K : IterOK c A it P n V Src) (hn : n < 900) (hL : H L = none) (hit : H it = some (P 0)) (hS : Sub Src H)
    (hx : scope.names.lookup x = some .local) (hkind : scope.kind = .function) (J : Nat → HM → List Value → Prop) (start : J 0 (del H it) [])
    (turn : ∀ C D i v Hx acc mc, i < n → V i v → mc x = some v → J i Hx acc → acc.length = i → Rest c L D it Src Hx → it ≠ D → D ≠ L → it ≠ L → Hx C = none → C ≠ L → C ≠ D → C ≠ it →
      WF c A C (eval elt (compEnvC scope cl C env)) (upd (upd (upd Hx L (isNs m)) D (lst acc)) it (P (i + 1))) mc
        (fun y H₅ _ => ∃ Hx', J (i + 1) Hx' (acc ++ [y]) ∧ Rest c L D it Src Hx' ∧ Sub (upd (upd (upd Hx' L (isNs m)) D (lst acc)) it (P (i + 1))) H₅))
    (done : ∀ D Hx acc, J n Hx acc → acc.length = n → Hx D = none → Own c D → D ≠ L → Q D (upd Hx D (lst acc))) :
    CompW c A L elt (.Name x px) [] scope cl env (.ref it) H m Q := by
  refine ⟨fun C H' m' Q' hs q => K.self C 0 H' m' Q' (hs _ _ hit) q, fun D C hD hDo hDL hC hCo hCL hCD hb => ?_⟩
  have hitD : it ≠ D := by rintro rfl; rw [hD] at hit; cases hit
  have hitL : it ≠ L := by rintro rfl; rw [hL] at hit; cases hit
  have hitC : it ≠ C := by rintro rfl; rw [hC] at hit; cases hit
  have hsrc : ∀ Hx acc i, Rest c L D it Src Hx → Sub Src (upd (upd (upd Hx L (isNs m)) D (lst acc)) it (P i)) := fun Hx acc i r =>
    Sub.upd_new (Sub.upd_new (Sub.upd_new r.s (r.s.none_of r.l)) (r.s.none_of r.d)) K.off
  refine ⟨fun k H' m' => ∃ i Hx acc, k = n - i ∧ i ≤ n ∧ J i Hx acc ∧ acc.length = i ∧ Rest c L D it Src Hx ∧ H' = upd (upd (upd Hx L (isNs m)) D (lst acc)) it (P i), n - 0, ⟨0, del H it, [], rfl, Nat.zero_le _, start, rfl, ?_, ?_⟩, ?_⟩
  · refine ⟨by rw [del_ne (Ne.symm hitL)]; exact hL, by rw [del_ne (Ne.symm hitD)]; exact hD, by simp [del], hb.delO K.own, del_sub hS K.off⟩
  · funext b
    by_cases h1 : b = it
    · subst h1; rw [upd_same, upd_ne hitD, upd_ne hitL]; exact hit
    · rw [upd_ne h1]
      by_cases h2 : b = D
      · subst h2; rw [upd_same, upd_same]
      · rw [upd_ne h2, upd_ne h2]
        by_cases h3 : b = L
        · subst h3; rw [upd_same, upd_same]
        · rw [upd_ne h3, upd_ne h3, del_ne h1]
  rintro k H₁ m₁ ⟨i, Hx, acc, rfl, hi, hj, hlen, r, rfl⟩
  intro s I hC1 hns
  have hCx : Hx C = none := by
    cases e : Hx C with
    | none => rfl
    | some P' => rw [upd_ne (Ne.symm hitC), upd_ne hCD, upd_ne hCL, e] at hC1; cases hC1
  refine (?_ : WF c A C _ _ _ _) s I hC1 hns
  by_cases hlt : i < n
  · refine K.next C i _ m₁ _ hlt (hsrc _ _ _ r) (upd_same ..) (fun v hv => ?_)
    rw [upd_upd]
    show WF _ _ _ _ _ _ _
    refine f_of_eq (a := ()) rfl ?_
    refine f_assignN (f_storeL ?_ (lookup_relabel_local hx) (by simp [compEnvC, relabel, hkind]) rfl)
    refine f_tests0 ?_
    simp only [if_true]
    refine f_mono (turn C D i v Hx acc _ hlt hv setL_eq hj hlen r hitD hDL hitL hCx hCL hCD (Ne.symm hitC)) fun y H₅ m₅ z => ?_
    obtain ⟨Hx', hj', r', hsub⟩ := z
    have hD5 : H₅ D = some (lst acc) := hsub _ _ (by rw [upd_ne (Ne.symm hitD), upd_same])
    refine f_append hD5 (by omega) ?_
    refine ⟨n - (i + 1), upd (upd (upd Hx' L (isNs m)) D (lst (acc ++ [y]))) it (P (i + 1)), by omega, ?_, ((r'.b.new r'.l).updO hDo).updO K.own, i + 1, Hx', acc ++ [y], rfl, hlt, hj', by simp [hlen], r', rfl⟩
    intro b P' eb
    by_cases hbD : b = D
    · subst hbD; rw [upd_ne (Ne.symm hitD), upd_same] at eb; rw [upd_same]; exact eb
    · rw [upd_ne hbD]
      refine hsub b P' ?_
      by_cases hbi : b = it
      · subst hbi; rw [upd_same] at eb ⊢; exact eb
      · rw [upd_ne hbi, upd_ne hbD] at eb ⊢; exact eb
  · have hin : i = n := by omega
    subst hin
    refine K.done C _ m₁ _ (hsrc _ _ _ r) (upd_same ..) ?_
    refine ⟨upd Hx D (lst acc), ?_, ?_, r.b.updO hDo, done D Hx acc hj hlen r.d hDo hDL⟩
    · intro b P' eb
      by_cases h1 : b = L
      · subst h1; rw [upd_same] at eb; rw [del_ne (Ne.symm hitL), upd_ne (Ne.symm hitL), upd_ne (Ne.symm hDL), upd_same]; exact eb
      · rw [upd_ne h1] at eb
        by_cases h2 : b = D
        · subst h2; rw [upd_same] at eb; rw [del_ne (Ne.symm hitD), upd_ne (Ne.symm hitD), upd_same]; exact eb
        · rw [upd_ne h2] at eb
          have h3 : b ≠ it := by rintro rfl; rw [r.i] at eb; cases eb
          rw [del_ne h3, upd_ne h3, upd_ne h2, upd_ne h1]; exact eb
    · rw [upd_ne (Ne.symm hDL)]; exact r.l
/-- a new thing in a turn -/
theorem Rest.new {D it a : Addr} {Src Hx : HM} {PP : OP} {acc : List Value} {Pi : OP} (r : Rest c L D it Src Hx) (ha : upd (upd (upd Hx L (isNs m)) D (lst acc)) it Pi a = none) (hao : Own c a) :
    Hx a = none ∧ Rest c L D it Src (upd Hx a PP) ∧ Sub (upd (upd (upd (upd Hx a PP) L (isNs m)) D (lst acc)) it Pi) (upd (upd (upd (upd Hx L (isNs m)) D (lst acc)) it Pi) a PP) := by
  have h1 : a ≠ it := by rintro rfl; rw [upd_same] at ha; cases ha
  rw [upd_ne h1] at ha
  have h2 : a ≠ D := by rintro rfl; rw [upd_same] at ha; cases ha
  rw [upd_ne h2] at ha
  have h3 : a ≠ L := by rintro rfl; rw [upd_same] at ha; cases ha
  rw [upd_ne h3] at ha
  refine ⟨ha, ⟨by rw [upd_ne (Ne.symm h3)]; exact r.l, by rw [upd_ne (Ne.symm h2)]; exact r.d, by rw [upd_ne (Ne.symm h1)]; exact r.i, r.b.updO hao, Sub.upd_new r.s (r.s.none_of ha)⟩, ?_⟩
  rw [upd_comm (a := a) h3, upd_comm h2, upd_comm h1]; exact Sub.refl _
end
end
section
open PySem.SeqAt
noncomputable def lawS (k : Nat) : Stmt := (bodyOf (stm 20)).getD k (.Pass ⟨0, 0, 0, 0⟩)
noncomputable def keyOf (z : Int) : Key := (z.fmod 3, (z.fdiv 3).fmod 2)
noncomputable def due (zs : List Int) : List Int := zs.take 7 ++ [4, 1, 4, 5, 0, 1]
theorem lst_ne_cell {xs : List Value} {v : Option Value} : some (lst xs) ≠ some (isCell v) := fun e => by
  have h := Option.some.inj e
  have h1 : lst xs { cls := .type "list", dict := none, data := .seq xs.toArray 0, slots := #[] } := ⟨0, rfl⟩
  rw [h] at h1; cases h1
theorem cell_ne_pair {v : Option Value} {k : Key} : some (isCell v) ≠ some (pairP k) := fun e => by
  have h := Option.some.inj e
  have h1 : pairP k { cls := .type "list", dict := none, data := .seq #[.int k.1 0, .int k.2 0] 0, slots := #[] } := ⟨0, 0, 0, rfl⟩
  rw [← h] at h1; cases h1
theorem tab_ne_pair {n : Nat} {k : Key} : some (tabU n) ≠ some (pairP k) := fun e => by
  have h := Option.some.inj e
  have h1 : pairP k { cls := .type "list", dict := none, data := .seq #[.int k.1 0, .int k.2 0] 0, slots := #[] } := ⟨0, 0, 0, rfl⟩
  rw [← h] at h1
  obtain ⟨ps, e, _⟩ := h1
  cases congrArg Obj.cls e
section
variable {c : Cx} {A : Around} {H : HM} {L : Addr} {m : Loc}
theorem f_cutI {l sl : Addr} {xs ys : List Value} {a b st : Value} {lo hi stp : Option Int} {value slice : PySem.Expr} {ops : List Value} {Q : Value → HM → Loc → Prop} (hl : ∀ s, Inv c H s → s.heap.IsList l xs.toArray) (hsl : H sl = some (slc a b st)) (hz : xs.length < 1000)
    (pl : IsPart a lo) (pu : IsPart b hi) (ps : IsPart st stp) (h0 : stp ≠ some 0) (hy : slicePick xs.toArray lo hi stp = ys.toArray) (h : ∀ D, H D = none → Own c D → D ≠ L → Q (.ref D) (upd H D (lst ys)) m)
    (hs : subscripted slice false (.ref l) (.ref sl) = operate ops (getItem (.ref l) (.ref sl))) : WF c A L (subscriptTail value slice (.ref l) (.ref sl)) H m Q := fun s I hL hn => by
  obtain ⟨I', hL', hn', hf, ho, hne⟩ := new_frame (P := lst ys) (t := s.toks) I hL hn rfl (o := { cls := .type "list", data := .seq ys.toArray }) rfl ⟨0, rfl⟩
  refine tail_any (hl s I).typeIs slot_list_getitem.lookup (wpAny_getItem_list_slice (hl s I) (I.rep _ _ hsl) pl pu ps h0 ?_ (by simp [sizeLine]; omega)) hs
  rw [hy]
  exact ⟨_, m, I', hL', hn', h _ hf ho hne⟩
theorem law_pairs {q : Str} {cdv : Value} {fa l : Addr} {xs : List Value} {zs : List Int} {Q : Flow → HM → Loc → Prop} (G : GF c) (hh : A.handled = none) (hc1 : H (L + 1) = some (isCell none)) (hm : m "script" = some (.ref l))
    (hl : ∀ H' s, Sub H H' → Inv c H' s → s.heap.IsList l xs.toArray) (hxs : IntsAre xs zs) (hz : xs.length < 900)
    (h : ∀ lp rs H', (∀ a P', a ≠ L + 1 → H a = some P' → H' a = some P') → H' (L + 1) = some (isCell (some (.ref lp))) → H' lp = some (lst rs) → rs.length = (due zs).length →
      (∀ j, j < rs.length → ∃ a, rs.getD j .none = .ref a ∧ H' a = some (pairP (keyOf ((due zs).getD j 0)))) → Q .next H' m) :
    WF c A L (exec (lawS 0) (envC 20 q cdv fa L)) H m Q := by
  refine f_bs (fun hb hLn => ?_)
  refine f_AssignN ?_ rfl
  with_reducible refine f_Comp (cl := []) ?_ ?k1 ?k2 ?k3 ?k4 ?k5
  case k1 => rfl
  case k2 => decide
  case k3 => rfl
  case k4 => decide
  case k5 => intro _; rfl
  repeat walk_at "e"
  intro sl hsl hslo hslL
  obtain ⟨H1, e1, s1, d1⟩ := abst (slc .none (.int 7 _) .none) hsl
  rw [e1]
  refine f_cutI (hl H1 · s1 ·) d1 (by omega) .none (.int _ _) .none (by simp) (pick_upto xs 7) (fun D1 h1 h2 h3 => ?_) (by with_unfolding_all rfl)
  obtain ⟨H2, e2, s2, d2⟩ := abst (lst (xs.take 7)) h1
  rw [e2]
  repeat walk_at "e"
  with_reducible refine f_newList ?_ (fun D2 h4 h5 h6 => ?_)
  · simp
  rename_i t1 _ t2 _ t3 _ t4 _ t5 _ t6
  obtain ⟨H3, e3, s3, d3⟩ := abst (lst [.int 4 t1, .int 1 t2, .int 4 t3, .int 5 t4, .int 0 t5, .int 1 t6]) h4
  rw [e3]
  have hlen7 : (xs.take 7).length ≤ 7 := by simp; omega
  refine f_addL (s3 _ _ d2) d3 (by omega) (by simp) (fun D3 h7 h8 h9 => ?_)
  have hV : IntsAre (xs.take 7 ++ [.int 4 t1, .int 1 t2, .int 4 t3, .int 5 t4, .int 0 t5, .int 1 t6]) (due zs) := intsAre_append (hxs.take 7) (.cons _ _ (.cons _ _ (.cons _ _ (.cons _ _ (.cons _ _ (.cons _ _ .nil))))))
  have hVl : (xs.take 7 ++ [Value.int 4 t1, .int 1 t2, .int 4 t3, .int 5 t4, .int 0 t5, .int 1 t6]).length ≤ 13 := by rw [List.length_append]; simp at hlen7 ⊢; omega
  generalize xs.take 7 ++ [.int 4 t1, .int 1 t2, .int 4 t3, .int 5 t4, .int 0 t5, .int 1 t6] = vs at *
  obtain ⟨H4, e4, s4, d4⟩ := abst (lst vs) h7
  rw [e4]
  have hs04 : Sub H H4 := ((s1.trans s2).trans s3).trans s4
  have hL4 : H4 L = none := by rw [← e4, upd_ne (Ne.symm h9), ← e3, upd_ne (Ne.symm h6), ← e2, upd_ne (Ne.symm h3), ← e1, upd_ne (Ne.symm hslL)]; exact hLn
  have hb4 : Bs c H4 := hb.sub_of hs04
  with_reducible refine f_iterL d4 (fun it hit hito hitL => ?_)
  have hitD : it ≠ D3 := by rintro rfl; rw [d4] at hit; cases hit
  have hlen := hV.length
  refine compW_inv (n := vs.length) (Src := one D3 (lst vs)) (iter_list hito (one_ne hitD) (.inl hh) one_same) (by omega) (by rw [upd_ne (Ne.symm hitL)]; exact hL4) (upd_same ..) (one_sub (by rw [upd_ne (Ne.symm hitD)]; exact d4)) rfl rfl
    (fun i Hx acc => Sub H4 Hx ∧ ∀ j, j < i → ∃ a, acc.getD j .none = .ref a ∧ Hx a = some (pairP (keyOf ((due zs).getD j 0)))) ⟨?_, fun j hj => absurd hj (Nat.not_lt_zero _)⟩ ?_ ?_
  · rw [del_upd hit]; exact Sub.refl _
  · intro C D i v Hx acc mc hi hv hmc ⟨hj1, hj2⟩ hacc r hitD' hDL _ hCx hCL hCD hCi
    obtain ⟨t, hvt⟩ : ∃ t, v = .int ((due zs).getD i 0) t := by
      obtain ⟨t, ht⟩ := hV.get i ((due zs).getD i 0) (by rw [List.getElem?_eq_getElem (by omega)]; simp [List.getD_eq_getElem?_getD, List.getElem?_eq_getElem (show i < (due zs).length by omega)])
      rw [hv] at ht
      exact ⟨t, Option.some.inj ht⟩
    generalize hzi : (due zs).getD i 0 = z at *
    subst hvt
    repeat walk_at "e"
    with_reducible refine f_mod ?_ (fun u1 => ?_)
    · decide
    repeat walk_at "e"
    with_reducible refine f_fdiv ?_ ?_ (fun u2 => ?_)
    · decide
    · exact PyProof.noPylong_small (by decide)
    repeat walk_at "e"
    with_reducible refine f_mod ?_ (fun u3 => ?_)
    · decide
    repeat walk_at "e"
    refine f_newListP (P := pairP (keyOf z)) (by simp) ⟨_, _, _, rfl⟩ (fun a ha hao haC => ?_)
    obtain ⟨hxa, r', hsub⟩ := r.new (PP := pairP (keyOf z)) ha hao
    refine ⟨upd Hx a (pairP (keyOf z)), ⟨Sub.upd_new hj1 (hj1.none_of hxa), fun j hj => ?_⟩, r', hsub⟩
    by_cases hji : j = i
    · subst hji
      exact ⟨a, by rw [List.getD_eq_getElem?_getD, List.getElem?_append_right (by omega)]; simp [hacc], by rw [upd_same, hzi]⟩
    · obtain ⟨a', ea, ha'⟩ := hj2 j (by omega)
      refine ⟨a', by rw [List.getD_eq_getElem?_getD, List.getElem?_append_left (by omega), ← List.getD_eq_getElem?_getD]; exact ea, ?_⟩
      rw [upd_ne (by rintro rfl; rw [hxa] at ha'; cases ha')]; exact ha'
  · intro D Hx acc ⟨hj1, hj2⟩ hacc hDn hDo hDL
    have hcell : upd Hx D (lst acc) (L + 1) = some (isCell none) := by
      rw [upd_ne (by rintro rfl; rw [hj1 _ _ (hs04 _ _ hc1)] at hDn; cases hDn)]; exact hj1 _ _ (hs04 _ _ hc1)
    with_reducible refine' f_storeC ?hc hcell ?_ ?k1 ?k2
    case hc => rfl
    case k1 => rfl
    case k2 => rfl
    have hD1 : D ≠ L + 1 := by rintro rfl; rw [upd_same] at hcell; exact absurd hcell (lst_ne_cell)
    refine h D acc _ (fun a P' ha e => ?_) (upd_same ..) (by rw [upd_ne hD1, upd_same]) (by omega) (fun j hj => ?_)
    · rw [upd_ne ha, upd_ne (by rintro rfl; rw [hj1 _ _ (hs04 _ _ e)] at hDn; cases hDn)]; exact hj1 _ _ (hs04 _ _ e)
    · obtain ⟨a, ea, hxa⟩ := hj2 j (by omega)
      refine ⟨a, ea, ?_⟩
      rw [upd_ne (by rintro rfl; rw [hj1 _ _ (hs04 _ _ hc1)] at hxa; exact absurd hxa cell_ne_pair), upd_ne (by rintro rfl; rw [hDn] at hxa; cases hxa)]; exact hxa
end
end
section
open PySem.SeqAt
noncomputable def onceOf (key : Value → Key) (rs : List Value) : List Value := ((List.range rs.length).filter fun i => !((rs.take i).any fun y => decide (key y = key (rs.getD i .none)))).map fun i => rs.getD i .none
section
variable {c : Cx} {A : Around} {H : HM} {L : Addr} {m : Loc}
theorem law_once {q : Str} {cdv : Value} {fa lp : Addr} {rs : List Value} {Dat : HM} {key : Value → Key} {Q : Flow → HM → Loc → Prop} (G : GF c) (hh : A.handled = none) (hu : A.units + 10 < cLine) (hD : Sub Dat H)
    (hc1 : H (L + 1) = some (isCell (some (.ref lp)))) (hlp : H lp = some (lst rs)) (hS : ∀ x ∈ rs, PairAt Dat key x) (hz : rs.length < 900)
    (h : ∀ lo H', Sub H H' → H lo = none → Own c lo → lo ≠ L → H' lo = some (lst (onceOf key rs)) → Q .next H' (setL m "once" (.ref lo))) :
    WF c A L (exec (lawS 1) (envC 20 q cdv fa L)) H m Q := by
  refine f_bs (fun hb hLn => ?_)
  obtain ⟨gl1, gl2⟩ := G.len
  obtain ⟨gr1, gr2⟩ := G.range
  refine f_AssignComp (cl := [("pairs", L + 1)]) ?_ ?k0 ?k1 ?k2 ?k3 ?k4 ?k6 ?k7 ?k8 ?k5
  case k0 => rfl
  case k1 => rfl
  case k2 => decide
  case k3 => rfl
  case k4 => decide
  case k5 => intro _; rfl
  case k6 => rfl
  case k7 => rfl
  case k8 => rfl
  repeat walk_at "e"
  refine ⟨Callee.builtin _ _, ?_⟩
  with_reducible refine f_len hlp ?_ (fun t3 => ?_)
  · omega
  repeat walk_at "e"
  refine ⟨Callee.type _ _, ?_⟩
  with_reducible refine f_range1 (fun r hr hro hrL => ?_)
  with_reducible refine f_iterR (upd_same ..) ?_ ?_ ?_ (fun it hit hito hitL => ?_)
  · omega
  · omega
  · omega
  have hitr : it ≠ r := by rintro rfl; rw [upd_same] at hit; cases hit
  have hit1 : H it = none := by rw [upd_ne hitr] at hit; exact hit
  have hsrc : Sub H (upd (upd H r (rng 0 rs.length 1)) it (rit 0 (rs.length - 0) 1)) := Sub.upd_new (Sub.upd_new (Sub.refl _) hr) hit1
  refine compW_pure (H := upd (upd H r (rng 0 rs.length 1)) it (rit 0 (rs.length - 0) 1)) (n := rs.length) (Src := H) (iter_range (a := 0) hito hit1 hh) (by omega) ?_ ?_ hsrc (fun i => !((rs.take i).any fun y => decide (key y = key (rs.getD i .none)))) (fun i => rs.getD i .none) rfl rfl ?_ ?_
  · rw [upd_ne (Ne.symm hitL), upd_ne (Ne.symm hrL)]; exact hLn
  · rw [upd_same]; simp
  · intro C i v Hc mc hi hv hmc hsubc hC
    obtain ⟨tv, rfl⟩ := hv
    have hs1 : Sub H Hc := (del_sub (Sub.upd_new hsrc hLn) hit1).trans hsubc
    have d1 := hs1 _ _ hc1
    have d3 := hs1 _ _ hlp
    rw [Int.zero_add] at hmc
    have hvS : PairAt Dat key (rs.getD i .none) := hS _ (by simp [hi])
    with_reducible refine f_tests1 ?_
    repeat walk_at "e"
    with_reducible refine f_getN d3 hi ?_ ?_ ?hs
    · omega
    case hs => with_unfolding_all rfl
    repeat walk_at "e"
    intro sl hsl hslo hslL
    obtain ⟨H4, e4, s4, d4⟩ := abst (slc .none (.int (i : Nat) tv) .none) hsl
    rw [e4]
    refine f_cut (s4 _ _ d3) d4 (by omega) .none (.int _ _) .none (by simp) (pick_upto rs i) (fun D1 h1 h2 h3 => ?_) (by with_unfolding_all rfl)
    obtain ⟨H5, e5, s5, d5⟩ := abst (lst (rs.take i)) h1
    rw [e5]
    refine f_notIn (Dat := Dat) (key := key) (by omega) (((hD.trans hs1).trans s4).trans s5) d5 (fun y hy => hS y (List.mem_of_mem_take hy)) hvS ⟨_, rfl, rfl, s4.trans s5, fun _ => ?_⟩
    have g1 := s5 _ _ (s4 _ _ d1)
    have g3 := s5 _ _ (s4 _ _ d3)
    repeat walk_at "e"
    with_reducible refine f_getN g3 hi ?_ ?_ ?hs
    · omega
    case hs => with_unfolding_all rfl
    exact ⟨rfl, s4.trans s5⟩
  · intro D hD' hDo hDL
    have hDn : H D = none := hsrc.none_of hD'
    exact h D _ (Sub.upd_new (del_sub hsrc hit1) hDn) hDn hDo hDL (upd_same ..)
end
end
section
open PySem.SeqAt
/-- all that stood stands, but for what is at P -/
noncomputable def GrowBut (P : Addr) (H H' : HM) : Prop := ∀ a P', a ≠ P → H a = some P' → H' a = some P'
theorem GrowBut.sub {P : Addr} {H H' Dat : HM} (g : GrowBut P H H') (hD : Sub Dat H) (hP : Dat P = none) : Sub Dat H' := fun a P' e => g a P' (by rintro rfl; rw [hP] at e; cases e) (hD _ _ e)
theorem GrowBut.trans {P : Addr} {H H' H'' : HM} (g : GrowBut P H H') (g' : GrowBut P H' H'') : GrowBut P H H'' := fun a P' n e => g' a P' n (g a P' n e)
theorem Sub.grow {P : Addr} {H H' : HM} (g : Sub H H') : GrowBut P H H' := fun a P' n e => g _ _ e
theorem lst_ne_tab {xs : List Value} {n : Nat} : some (lst xs) ≠ some (tabU n) := fun e => by
  have h := Option.some.inj e
  have h1 : lst xs { cls := .type "list", dict := none, data := .seq xs.toArray 0, slots := #[] } := ⟨0, rfl⟩
  rw [h] at h1
  obtain ⟨ps, e, _⟩ := h1
  cases congrArg Obj.cls e
theorem cell_ne_tab {v : Option Value} {n : Nat} : some (isCell v) ≠ some (tabU n) := fun e => by
  have h := Option.some.inj e
  have h1 : isCell v { cls := .type "list", dict := none, data := .cell v, slots := #[] } := rfl
  rw [h] at h1
  obtain ⟨ps, e, _⟩ := h1
  cases congrArg Obj.cls e
section
variable {c : Cx} {A : Around} {H : HM} {L : Addr} {m : Loc}
/-- a lambda's heap -/
theorem lam_grow {P f cc : Addr} {n : Nat} {Pc Pf : OP} (hf : H f = none) (hc : H cc = none) (hfc : f ≠ cc) (hP : H P = some (tabU n)) (k : Nat) :
    ∃ H', upd (upd (upd H P (tabU k)) cc Pc) f Pf = H' ∧ GrowBut P H H' ∧ H' P = some (tabU k) ∧ H' cc = some Pc ∧ H' f = some Pf := by
  have hfP : f ≠ P := by rintro rfl; rw [hP] at hf; cases hf
  have hcP : cc ≠ P := by rintro rfl; rw [hP] at hc; cases hc
  refine ⟨_, rfl, fun a P' ha e => ?_, ?_, ?_, upd_same ..⟩
  · rw [upd_ne (by rintro rfl; rw [hf] at e; cases e), upd_ne (by rintro rfl; rw [hc] at e; cases e), upd_ne ha]; exact e
  · rw [upd_ne (Ne.symm hfP), upd_ne (Ne.symm hcP), upd_same]
  · rw [upd_ne (Ne.symm hfc), upd_same]
theorem law_rising {q : Str} {fa lo cd P : Addr} {n : Nat} {os : List Value} {Dat : HM} {key : Value → Key} {Q : Flow → HM → Loc → Prop} (G : GF c) (LB : LawBase c cd P) (hroom : A.depth + 10 < recursionLimit) (hh : A.handled = none) (hu : A.units + 200 < cLine) (hD : Sub Dat H) (hDP : Dat P = none)
    (hP : H P = some (tabU n)) (hn : n < 210) (hm : m "once" = some (.ref lo)) (hlo : H lo = some (lst os)) (hS : ∀ x ∈ os, PairAt Dat key x) (hz : os.length < 400)
    (h : ∀ D H', GrowBut P H H' → H' P = some (tabU 210) → Own c D → H' D = some (lst (lsorted (fun v w => keyLe (key v) (key w)) [] os)) → Q .next H' (setL m "rising" (.ref D))) :
    WF c A L (exec (lawS 2) (envC 20 q (.ref cd) fa L)) H m Q := by
  refine f_bs (fun hb hLn => ?_)
  obtain ⟨fs, gs, Fs⟩ := G.lsorted
  refine f_AssignN ?_ rfl
  repeat walk_at "e"
  refine f_Lambda G.ok LB hP hn (fun f cc hf hfo hcn hco hfc hfL hcL => ?_) rfl rfl rfl rfl
  obtain ⟨H1, e1, g1, p1, c1, f1⟩ := lam_grow (Pc := codeP ((envC 20 q (.ref cd) fa L).qual ++ "<lambda>")) (Pf := lamP _ _ _ ((envC 20 q (.ref cd) fa L).qual ++ "<lambda>") cc) hf hcn hfc hP 210
  rw [e1]
  have hloP : lo ≠ P := by rintro rfl; rw [hP] at hlo; exact absurd hlo.symm (lst_ne_tab)
  have hlo1 := g1 _ _ hloP hlo
  have hD1 := g1.sub hD hDP
  repeat walk_at "e"
  have hb1 : Bs c H1 := by rw [← e1]; exact ((hb.updO LB.own).updO hco).updO hfo
  refine ⟨Callee.fn Fs hb1, ?_⟩
  refine f_specN (P := lst (lsorted (fun v w => keyLe (key v) (key w)) [] os)) (fun H' hs' => sorted_spec (Dat := H1) G Fs ?_ hh ?_ hs' (mark_id (key := key) G.ok f1 c1) (hs' _ _ hlo1) (fun x hx => (hS x hx).mono hD1) hz) (fun D hDn hDo hDL => ?_)
  · omega
  · omega
  repeat walk_at "e"
  refine h D _ (g1.trans (Sub.grow (Sub.upd_new (Sub.refl _) hDn))) ?_ hDo (upd_same ..)
  rw [upd_ne (by rintro rfl; rw [p1] at hDn; cases hDn)]; exact p1
theorem law_second {q : Str} {fa lp cd P : Addr} {n : Nat} {os : List Value} {Dat : HM} {key : Value → Key} {Q : Flow → HM → Loc → Prop} (G : GF c) (LB : LawBase c cd P) (hroom : A.depth + 10 < recursionLimit) (hh : A.handled = none) (hu : A.units + 200 < cLine) (hD : Sub Dat H) (hDP : Dat P = none)
    (hP : H P = some (tabU n)) (hn : n < 218) (hc1 : H (L + 1) = some (isCell (some (.ref lp)))) (hlo : H lp = some (lst os)) (hS : ∀ x ∈ os, PairAt Dat key x) (hz : os.length < 400)
    (h : ∀ D H', GrowBut P H H' → H' P = some (tabU 218) → Own c D → H' D = some (lst (lsorted (fun v w => decide ((key v).2 ≤ (key w).2)) [] os)) → Q .next H' (setL m "second" (.ref D))) :
    WF c A L (exec (lawS 6) (envC 20 q (.ref cd) fa L)) H m Q := by
  refine f_bs (fun hb hLn => ?_)
  obtain ⟨fs, gs, Fs⟩ := G.lsorted
  refine f_AssignN ?_ rfl
  repeat walk_at "e"
  refine f_Lambda G.ok LB hP hn (fun f cc hf hfo hcn hco hfc hfL hcL => ?_) rfl rfl rfl rfl
  obtain ⟨H1, e1, g1, p1, c1, f1⟩ := lam_grow (Pc := codeP ((envC 20 q (.ref cd) fa L).qual ++ "<lambda>")) (Pf := lamP _ _ _ ((envC 20 q (.ref cd) fa L).qual ++ "<lambda>") cc) hf hcn hfc hP 218
  rw [e1]
  have hloP : lp ≠ P := by rintro rfl; rw [hP] at hlo; exact absurd hlo.symm (lst_ne_tab)
  have hlo1 := g1 _ _ hloP hlo
  have hD1 := g1.sub hD hDP
  repeat walk_at "e"
  have hb1 : Bs c H1 := by rw [← e1]; exact ((hb.updO LB.own).updO hco).updO hfo
  refine ⟨Callee.fn Fs hb1, ?_⟩
  refine f_specN (P := lst (lsorted (fun v w => decide ((key v).2 ≤ (key w).2)) [] os)) (fun H' hs' => sorted_spec (Dat := H1) G Fs ?_ hh ?_ hs' (mark_snd (key := key) G.ok f1 c1) (hs' _ _ hlo1) (fun x hx => (hS x hx).mono hD1) hz) (fun D hDn hDo hDL => ?_)
  · omega
  · omega
  repeat walk_at "e"
  refine h D _ (g1.trans (Sub.grow (Sub.upd_new (Sub.refl _) hDn))) ?_ hDo (upd_same ..)
  rw [upd_ne (by rintro rfl; rw [p1] at hDn; cases hDn)]; exact p1
theorem law_fallen {q : Str} {fa lp cd P : Addr} {n : Nat} {os : List Value} {Dat : HM} {key : Value → Key} {Q : Flow → HM → Loc → Prop} (G : GF c) (LB : LawBase c cd P) (hroom : A.depth + 10 < recursionLimit) (hh : A.handled = none) (hu : A.units + 200 < cLine) (hD : Sub Dat H) (hDP : Dat P = none)
    (hP : H P = some (tabU n)) (hn : n < 221) (hc1 : H (L + 1) = some (isCell (some (.ref lp)))) (hlo : H lp = some (lst os)) (hS : ∀ x ∈ os, PairAt Dat key x) (hz : os.length < 400)
    (h : ∀ D H', GrowBut P H H' → H' P = some (tabU 221) → Own c D → H' D = some (lst (lsorted (fun v w => decide ((key w).2 ≤ (key v).2)) [] os)) → Q .next H' (setL m "fallen" (.ref D))) :
    WF c A L (exec (lawS 8) (envC 20 q (.ref cd) fa L)) H m Q := by
  refine f_bs (fun hb hLn => ?_)
  obtain ⟨fs, gs, Fs⟩ := G.lsorted
  refine f_AssignN ?_ rfl
  repeat walk_at "e"
  refine f_Lambda G.ok LB hP hn (fun f cc hf hfo hcn hco hfc hfL hcL => ?_) rfl rfl rfl rfl
  obtain ⟨H1, e1, g1, p1, c1, f1⟩ := lam_grow (Pc := codeP ((envC 20 q (.ref cd) fa L).qual ++ "<lambda>")) (Pf := lamP _ _ _ ((envC 20 q (.ref cd) fa L).qual ++ "<lambda>") cc) hf hcn hfc hP 221
  rw [e1]
  have hloP : lp ≠ P := by rintro rfl; rw [hP] at hlo; exact absurd hlo.symm (lst_ne_tab)
  have hlo1 := g1 _ _ hloP hlo
  have hD1 := g1.sub hD hDP
  repeat walk_at "e"
  have hb1 : Bs c H1 := by rw [← e1]; exact ((hb.updO LB.own).updO hco).updO hfo
  refine ⟨Callee.fn Fs hb1, ?_⟩
  refine f_specN (P := lst (lsorted (fun v w => decide ((key w).2 ≤ (key v).2)) [] os)) (fun H' hs' => sorted_spec (Dat := H1) G Fs ?_ hh ?_ hs' (mark_neg (key := key) G.ok f1 c1) (hs' _ _ hlo1) (fun x hx => (hS x hx).mono hD1) hz) (fun D hDn hDo hDL => ?_)
  · omega
  · omega
  repeat walk_at "e"
  refine h D _ (g1.trans (Sub.grow (Sub.upd_new (Sub.refl _) hDn))) ?_ hDo (upd_same ..)
  rw [upd_ne (by rintro rfl; rw [p1] at hDn; cases hDn)]; exact p1
end
end
section
section
variable {key : Value → Key}
noncomputable def Dist (key : Value → Key) (xs : List Value) : Prop := ∀ v ∈ xs, ∀ w ∈ xs, key v = key w → v = w
theorem keyLt_tot {k k' : Key} (h : k ≠ k') : keyLt k k' = true ∨ keyLt k' k = true := by
  rcases Int.lt_trichotomy k.1 k'.1 with h1 | h1 | h1
  · exact .inl (keyLt_iff.mpr (.inl h1))
  · rcases Int.lt_trichotomy k.2 k'.2 with h2 | h2 | h2
    · exact .inl (keyLt_iff.mpr (.inr ⟨h1, h2⟩))
    · exact absurd (key_ext h1 h2) h
    · exact .inr (keyLt_iff.mpr (.inr ⟨h1.symm, h2⟩))
  · exact .inr (keyLt_iff.mpr (.inl h1))
theorem keyLe_tot : TotPre (fun v w => keyLe (key v) (key w)) := (le_tot (f := key) (lt := keyLt) pair_weak).of fun a b => keyLe_eq _ _
theorem keyGe_tot : TotPre (fun v w => keyLe (key w) (key v)) := (le_tot (f := key) (lt := fun a b => keyLt b a) pair_weak.flip).of fun a b => keyLe_eq _ _
theorem dist_strict {xs : List Value} (hd : Dist key xs) : StrictOn (fun v w => keyLt (key v) (key w)) xs :=
  .of_weak pair_weak fun v hv u hu hne => keyLt_tot fun e => hne (hd v hv u hu e)
theorem pw_and {R S : Value → Value → Prop} : ∀ {xs : List Value}, xs.Pairwise R → xs.Pairwise S → xs.Pairwise (fun a b => R a b ∧ S a b)
  | [], _, _ => .nil
  | x :: xs, h, h' => by
    rw [List.pairwise_cons] at h h' ⊢
    exact ⟨fun a ha => ⟨h.1 a ha, h'.1 a ha⟩, pw_and h.2 h'.2⟩
theorem pw_mem {R S : Value → Value → Prop} : ∀ {xs : List Value}, xs.Pairwise R → (∀ a ∈ xs, ∀ b ∈ xs, R a b → S a b) → xs.Pairwise S
  | [], _, _ => .nil
  | x :: xs, h, h' => by
    rw [List.pairwise_cons] at h ⊢
    exact ⟨fun a ha => h' x List.mem_cons_self a (List.mem_cons_of_mem _ ha) (h.1 a ha), pw_mem h.2 fun a ha b hb => h' a (List.mem_cons_of_mem _ ha) b (List.mem_cons_of_mem _ hb)⟩
theorem rising_pw {xs : List Value} (hn : xs.Nodup) (hd : Dist key xs) : (lsorted (fun v w => keyLe (key v) (key w)) [] xs).Pairwise (fun v w => keyLt (key v) (key w) = true) := by
  have hp := lsorted_perm (le := fun v w => keyLe (key v) (key w)) xs []
  have h1 := lsorted_sorted (keyLe_tot (key := key)) xs [] .nil
  have h2 : (lsorted (fun v w => keyLe (key v) (key w)) [] xs).Nodup := hp.nodup_iff.mpr hn
  refine pw_mem (pw_and h1 h2) fun a ha b hb ⟨hle, hne⟩ => ?_
  have ha : a ∈ xs := hp.mem_iff.mp ha
  have hb : b ∈ xs := hp.mem_iff.mp hb
  have hne' : key a ≠ key b := fun e => hne (hd a ha b hb e)
  rcases keyLt_tot hne' with h | h
  · exact h
  · rw [keyLe_eq, h] at hle; cases hle
theorem rev_pw {R : Value → Value → Prop} {xs : List Value} (h : xs.Pairwise R) : xs.reverse.Pairwise (fun a b => R b a) := List.pairwise_reverse.mpr h
theorem rising_eq {xs out : List Value} (hn : xs.Nodup) (hd : Dist key xs) (hp : out.Perm xs) (hw : out.Pairwise (fun v w => keyLt (key v) (key w) = true)) : out = lsorted (fun v w => keyLe (key v) (key w)) [] xs :=
  strict_unique pair_weak (hp.trans (lsorted_perm xs []).symm) hw (rising_pw hn hd)
theorem falling_eq {xs out : List Value} (hn : xs.Nodup) (hd : Dist key xs) (hp : out.Perm xs) (hw : out.Pairwise (fun v w => keyLt (key w) (key v) = true)) : out = (lsorted (fun v w => keyLe (key v) (key w)) [] xs).reverse := by
  have := rising_eq hn hd ((List.reverse_perm out).trans hp) (rev_pw hw)
  rw [← this, List.reverse_reverse]
theorem falling_sorted {xs : List Value} (hn : xs.Nodup) (hd : Dist key xs) : lsorted (fun v w => keyLe (key w) (key v)) [] xs = (lsorted (fun v w => keyLe (key v) (key w)) [] xs).reverse := by
  have hp := lsorted_perm (le := fun v w => keyLe (key w) (key v)) xs []
  have h1 := lsorted_sorted (keyGe_tot (key := key)) xs [] .nil
  have h2 : (lsorted (fun v w => keyLe (key w) (key v)) [] xs).Nodup := hp.nodup_iff.mpr hn
  refine falling_eq hn hd hp (pw_mem (pw_and h1 h2) fun a ha b hb ⟨hle, hne⟩ => ?_)
  have ha : a ∈ xs := hp.mem_iff.mp ha
  have hb : b ∈ xs := hp.mem_iff.mp hb
  have hne' : key a ≠ key b := fun e => hne (hd a ha b hb e)
  rcases keyLt_tot hne' with h | h
  · rw [keyLe_eq, h] at hle; cases hle
  · exact h
theorem bestOf_min {lt : Value → Value → Bool} (w : Weak lt) : ∀ (xs : List Value) (v : Value), lt v (bestOf lt v xs) = false ∧ ∀ y ∈ xs, lt y (bestOf lt v xs) = false
  | [], v => ⟨w.irr v, fun y hy => by cases hy⟩
  | x :: xs, v => by
    unfold bestOf
    split
    · rename_i h
      obtain ⟨h1, h2⟩ := bestOf_min w xs x
      exact ⟨w.tr h1 (w.asymm h), fun y hy => (List.mem_cons.mp hy).elim (fun e => e ▸ h1) (h2 y)⟩
    · rename_i h
      have h : lt x v = false := by simpa using h
      obtain ⟨h1, h2⟩ := bestOf_min w xs v
      exact ⟨h1, fun y hy => (List.mem_cons.mp hy).elim (fun e => by subst e; exact w.tr h1 h) (h2 y)⟩
theorem take1_min {lt : Value → Value → Bool} {R : List Value} {b : Value} (hR : R.Pairwise (fun v w => lt v w = true)) (hb : b ∈ R) (hm : ∀ y ∈ R, lt y b = false) : [b] = R.take 1 := by
  cases R with
  | nil => cases hb
  | cons r R' =>
    rw [List.pairwise_cons] at hR
    rcases List.mem_cons.mp hb with rfl | h
    · simp
    · have := hR.1 b h
      rw [hm r List.mem_cons_self] at this; cases this
theorem best_mem {lt : Value → Value → Bool} {xs : List Value} (h0 : 0 < xs.length) : bestOf lt (xs.getD 0 .none) (xs.drop 1) ∈ xs := by
  cases xs with
  | nil => cases h0
  | cons x xs =>
    rcases bestOf_mem (bt := lt) (xs := xs) (v := x) with h | h
    · simp only [List.getD_cons_zero, List.drop_succ_cons, List.drop_zero]; rw [h]; exact List.mem_cons_self
    · exact List.mem_cons_of_mem _ h
theorem best_min {lt : Value → Value → Bool} (w : Weak lt) {xs : List Value} (h0 : 0 < xs.length) : ∀ y ∈ xs, lt y (bestOf lt (xs.getD 0 .none) (xs.drop 1)) = false := by
  cases xs with
  | nil => cases h0
  | cons x xs =>
    obtain ⟨h1, h2⟩ := bestOf_min w xs x
    intro y hy
    rcases List.mem_cons.mp hy with rfl | hy
    · exact h1
    · exact h2 y hy
theorem first_eq {xs : List Value} (hn : xs.Nodup) (hd : Dist key xs) (h0 : 0 < xs.length) : [bestOf (fun v w => keyLt (key v) (key w)) (xs.getD 0 .none) (xs.drop 1)] = (lsorted (fun v w => keyLe (key v) (key w)) [] xs).take 1 := by
  have hp := lsorted_perm (le := fun v w => keyLe (key v) (key w)) xs []
  exact take1_min (rising_pw hn hd) (hp.mem_iff.mpr (best_mem h0)) fun y hy => best_min pair_weak h0 y (hp.mem_iff.mp hy)
theorem last_eq {xs : List Value} (hn : xs.Nodup) (hd : Dist key xs) (h0 : 0 < xs.length) : [bestOf (fun v w => keyLt (key w) (key v)) (xs.getD 0 .none) (xs.drop 1)] = (lsorted (fun v w => keyLe (key v) (key w)) [] xs).reverse.take 1 := by
  have hp := (List.reverse_perm (lsorted (fun v w => keyLe (key v) (key w)) [] xs)).trans (lsorted_perm (le := fun v w => keyLe (key v) (key w)) xs [])
  exact take1_min (lt := fun v w => keyLt (key w) (key v)) (rev_pw (rising_pw hn hd)) (hp.mem_iff.mpr (best_mem h0)) fun y hy => best_min (lt := fun v w => keyLt (key w) (key v)) pair_weak.flip h0 y (hp.mem_iff.mp hy)
end
end
section
open PySem.SeqAt
section
variable {c : Cx} {A : Around} {H : HM} {L : Addr} {m : Loc}
theorem fr_law {q : Str} {cd fa : Addr} (hA : A.frames = some [envC 20 q (.ref cd) fa L]) (hLo : Own c L) : FrOK c A (upd H L (isNs m)) [envC 20 q (.ref cd) fa L] :=
  ⟨hA, fun env he => by
    rcases List.mem_singleton.mp he with rfl
    exact ⟨by show (scopeOf (stm 20)).kind ≠ _; exact (fun h => by cases h), L, m, rfl, hLo, upd_same ..⟩⟩
theorem f_specV {t : Sem Value} {r : Value} {Q : Value → HM → Loc → Prop} (h : H L = none → W c A t (upd H L (isNs m)) (fun v H'' => v = r ∧ H'' = upd H L (isNs m))) (hQ : Q r H m) : WF c A L t H m Q :=
  f_of_W fun hL => w_mono (h hL) fun v H'' ⟨e1, e2⟩ => ⟨H, m, e2, hL, e1 ▸ hQ⟩
theorem f_specFM {t : Sem Value} {P : OP} {Q : Value → HM → Loc → Prop} (h : H L = none → W c A t (upd H L (isNs m)) (fun v H'' => ∃ D, v = .ref D ∧ upd H L (isNs m) D = none ∧ Own c D ∧ H'' = upd (upd H L (isNs m)) D P)) (hQ : ∀ D, H D = none → Own c D → D ≠ L → Q (.ref D) (upd H D P) m) : WF c A L t H m Q :=
  f_of_W fun hL => w_mono (h hL) fun v H'' ⟨D, e1, hD, ho, e2⟩ => by
    have hne : D ≠ L := by rintro rfl; rw [upd_same] at hD; cases hD
    rw [upd_ne hne] at hD
    subst e1 e2
    exact ⟨upd H D P, m, upd_comm (Ne.symm hne), by rw [upd_ne (Ne.symm hne)]; exact hL, hQ D hD ho hne⟩
theorem ddp_refs {rs : List Value} {Dat : HM} {key : Value → Key} (hS : ∀ x ∈ rs, PairAt Dat key x) : ∀ x ∈ ddp key [] rs, ∃ a, x = .ref a := fun x hx => by
  rcases ddp_mem hx with h | h
  · cases h
  · obtain ⟨a, e, _⟩ := hS x h; exact ⟨a, e⟩
theorem law_if3 {q : Str} {fa lp lo cd fd : Addr} {kV : Value} {rs : List Value} {Dat : HM} {key : Value → Key} {Q : Flow → HM → Loc → Prop} (G : GF c) (gd : c.mg "_deduplicate" = some (.ref fd)) (Fd : FnAt c fd 13 .none kV) (hB : BindD c kV)
    (hA : A.frames = some [envC 20 q (.ref cd) fa L]) (hLo : Own c L) (hroom : A.depth + 20 < recursionLimit) (hh : A.handled = none) (hu : A.units + 400 < cLine) (hD : Sub Dat H)
    (hc1 : H (L + 1) = some (isCell (some (.ref lp)))) (hlp : H lp = some (lst rs)) (hS : ∀ x ∈ rs, PairAt Dat key x) (h0 : 0 < rs.length) (hz : rs.length < 400) (hm : m "once" = some (.ref lo)) (hlo : H lo = some (lst (ddp key [] rs)))
    (h : ∀ H', Sub H H' → Q .next H' m) :
    WF c A L (exec (lawS 3) (envC 20 q (.ref cd) fa L)) H m Q := by
  refine f_bs (fun hb hLn => ?_)
  obtain ⟨fr, gr, Fr⟩ := G.lrefused
  obtain ⟨fv, gv, Fv⟩ := G.lvery
  have hlen := ddp_length (key := key) rs []
  refine f_If ?_
  repeat walk_at "e"
  with_reducible refine f_tVal ?_ ?k1
  case k1 => rfl
  repeat walk_at "e"
  refine ⟨Callee.fn Fr hb, ?_⟩
  have hsub : Sub H (upd H L (isNs m)) := Sub.upd_new (Sub.refl _) hLn
  refine f_specV (fun _ => refused_spec (Dat := Dat) (key := key) G Fr gd Fd hB (fr_law hA hLo) ?_ hh ?_ (hD.trans hsub) (hsub _ _ hlp) hS h0 ?_) ?_
  · omega
  · omega
  · omega
  with_reducible refine f_truthyB ?_
  simp only [Bool.not_true, Bool.false_eq_true, if_false]
  repeat walk_at "e"
  with_reducible refine f_tVal ?_ ?k1
  case k1 => rfl
  repeat walk_at "e"
  with_reducible refine f_callKW ?_ ?k1 ?k2 ?k3
  case k1 => rfl
  case k2 => rfl
  case k3 => rfl
  repeat walk_at "e"
  with_reducible refine f_kw ?_
  repeat walk_at "e"
  with_reducible refine f_kw0 ?_
  refine ⟨Callee.fn Fd hb, ?_⟩
  refine f_specFM (P := lst (ddp key [] rs)) (fun _ => dedupT_spec (Dat := Dat) (key := key) G Fd (fr_law hA hLo) ?_ hh ?_ (hD.trans hsub) (hsub _ _ hlp) hS h0 ?_) (fun D hDn hDo hDL => ?_)
  · omega
  · omega
  · omega
  obtain ⟨H2, e2, s2, d2⟩ := abst (lst (ddp key [] rs)) hDn
  rw [e2]
  have hlo2 := s2 _ _ hlo
  repeat walk_at "e"
  refine ⟨Callee.fn Fv (hb.sub_of s2), ?_⟩
  have hL2 : H2 L = none := by rw [← e2, upd_ne (Ne.symm hDL)]; exact hLn
  have hsub2 : Sub H2 (upd H2 L (isNs m)) := Sub.upd_new (Sub.refl _) hL2
  refine f_specV (fun _ => very_spec G Fv ?_ hh ?_ (hsub2 _ _ d2) (hsub2 _ _ hlo2) (ddp_refs hS) ?_) ?_
  · omega
  · omega
  · simp at hlen; omega
  with_reducible refine f_truthyB ?_
  simp only [Bool.not_true, Bool.false_eq_true, if_false]
  repeat walk_at "e"
  simp only [Bool.false_eq_true, if_false]
  repeat walk_at "e"
  exact h _ s2
theorem law_if4 {q : Str} {fa lp lo cd : Addr} {rs : List Value} {Dat : HM} {key : Value → Key} {Q : Flow → HM → Loc → Prop} (G : GF c)
    (hroom : A.depth + 20 < recursionLimit) (hh : A.handled = none) (hu : A.units + 400 < cLine) (hD : Sub Dat H)
    (hc1 : H (L + 1) = some (isCell (some (.ref lp)))) (hlp : H lp = some (lst rs)) (hS : ∀ x ∈ rs, PairAt Dat key x) (h0 : 0 < rs.length) (hz : rs.length < 400) (hm : m "once" = some (.ref lo)) (hlo : H lo = some (lst (ddp key [] rs)))
    (h : ∀ H', Sub H H' → Q .next H' m) :
    WF c A L (exec (lawS 4) (envC 20 q (.ref cd) fa L)) H m Q := by
  refine f_bs (fun hb hLn => ?_)
  obtain ⟨fd, gd, Fd⟩ := G.dedup
  obtain ⟨fv, gv, Fv⟩ := G.lvery
  have hlen := ddp_length (key := key) rs []
  refine f_If ?_
  repeat walk_at "e"
  with_reducible refine f_tVal ?_ ?k1
  case k1 => rfl
  repeat walk_at "e"
  refine ⟨Callee.fn Fd hb, ?_⟩
  refine f_specN (P := lst (ddp key [] rs)) (fun H' hs' => dedup_spec G Fd ?_ (.inl hh) ?_ (hD.trans hs') (hs' _ _ hlp) hS ?_) (fun D hDn hDo hDL => ?_)
  · omega
  · omega
  · omega
  obtain ⟨H2, e2, s2, d2⟩ := abst (lst (ddp key [] rs)) hDn
  rw [e2]
  have hlo2 := s2 _ _ hlo
  repeat walk_at "e"
  refine ⟨Callee.fn Fv (hb.sub_of s2), ?_⟩
  have hL2 : H2 L = none := by rw [← e2, upd_ne (Ne.symm hDL)]; exact hLn
  have hsub2 : Sub H2 (upd H2 L (isNs m)) := Sub.upd_new (Sub.refl _) hL2
  refine f_specV (fun _ => very_spec G Fv ?_ hh ?_ (hsub2 _ _ d2) (hsub2 _ _ hlo2) (ddp_refs hS) ?_) ?_
  · omega
  · omega
  · simp at hlen; omega
  with_reducible refine f_truthyB ?_
  simp only [Bool.not_true, Bool.false_eq_true, if_false]
  repeat walk_at "e"
  exact h _ s2
end
end
section
open PySem.SeqAt
section
variable {c : Cx} {A : Around} {H : HM} {L : Addr} {m : Loc}
theorem nsm_any {f l T : Addr} {xs : List Value} {Dat : HM} {key : Value → Key} {t : Tok} {n : Nat}
    (G : GF c) (F : FnAt c f 10 (.ref T) .none) (hT : DefAt c T) (hroom : A.depth + 5 < recursionLimit) (hh : A.handled = none) (hu : A.units + 200 < cLine) (hD : Sub Dat H)
    (hl : H l = some (lst xs)) (hS : ∀ x ∈ xs, PairAt Dat key x) (hn : n = 1 ∨ n = 2 ∨ n = xs.length + 1) (h4 : 4 ≤ xs.length) (h6 : xs.length ≤ 6) (hnd : xs.Nodup) (hd : Dist key xs) :
    W c A (call (.ref f) [.int n t, .ref l]) H (fun v H' => ∃ D, v = .ref D ∧ H D = none ∧ Own c D ∧ H' = upd H D (lst ((lsorted (fun v w => keyLe (key v) (key w)) [] xs).take n))) := by
  rcases hn with rfl | rfl | rfl
  · rw [← first_eq hnd hd (by omega)]
    exact nsm1_spec G F hT (by omega) hh (by omega) hD hl hS (by omega) (by omega)
  · exact nsmH_spec G F hT hroom hh hu hD hl hS (by omega) (by omega) (by omega) (by omega)
  · refine w_mono (nsmS_spec (n := xs.length + 1) G F hT (by omega) hh (by omega) hD hl hS (by omega) (by omega) (by omega) h6 hnd (dist_strict hd)) ?_
    rintro v H' ⟨D, out, e1, h1, h2, e2, hp, hw⟩
    refine ⟨D, e1, h1, h2, ?_⟩
    rw [e2, rising_eq hnd hd hp hw, List.take_of_length_le]
    rw [(lsorted_perm xs []).length_eq]; simp
theorem nlg_any {f l T : Addr} {xs : List Value} {Dat : HM} {key : Value → Key} {t : Tok} {n : Nat}
    (G : GF c) (F : FnAt c f 11 (.ref T) .none) (hT : DefAt c T) (hroom : A.depth + 5 < recursionLimit) (hh : A.handled = none) (hu : A.units + 200 < cLine) (hD : Sub Dat H)
    (hl : H l = some (lst xs)) (hS : ∀ x ∈ xs, PairAt Dat key x) (hn : n = 1 ∨ n = 2 ∨ n = xs.length + 1) (h4 : 4 ≤ xs.length) (h6 : xs.length ≤ 6) (hnd : xs.Nodup) (hd : Dist key xs) :
    W c A (call (.ref f) [.int n t, .ref l]) H (fun v H' => ∃ D, v = .ref D ∧ H D = none ∧ Own c D ∧ H' = upd H D (lst ((lsorted (fun v w => keyLe (key v) (key w)) [] xs).reverse.take n))) := by
  rcases hn with rfl | rfl | rfl
  · rw [← last_eq hnd hd (by omega)]
    exact nlg1_spec G F hT (by omega) hh (by omega) hD hl hS (by omega) (by omega)
  · rw [← falling_sorted hnd hd]
    exact nlgH_spec G F hT hroom hh hu hD hl hS (by omega) (by omega) (by omega) (by omega)
  · refine w_mono (nlgS_spec (n := xs.length + 1) G F hT (by omega) hh (by omega) hD hl hS (by omega) (by omega) (by omega) h6 hnd (dist_strict hd)) ?_
    rintro v H' ⟨D, out, e1, h1, h2, e2, hp, hw⟩
    refine ⟨D, e1, h1, h2, ?_⟩
    rw [e2, falling_eq hnd hd hp hw, List.take_of_length_le]
    rw [List.length_reverse, (lsorted_perm xs []).length_eq]; simp
theorem law_for {q : Str} {fa lo lr cd fn fg T T' : Addr} {os : List Value} {Dat : HM} {key : Value → Key} {Q : Flow → HM → Loc → Prop} (G : GF c) (gn : c.mg "nsmallest" = some (.ref fn)) (Fn : FnAt c fn 10 (.ref T) .none) (hT : DefAt c T)
    (gg : c.mg "nlargest" = some (.ref fg)) (Fg : FnAt c fg 11 (.ref T') .none) (hT' : DefAt c T') (hroom : A.depth + 20 < recursionLimit) (hh : A.handled = none) (hu : A.units + 400 < cLine) (hD : Sub Dat H)
    (hm : m "once" = some (.ref lo)) (hlo : H lo = some (lst os)) (hmr : m "rising" = some (.ref lr)) (hlr : H lr = some (lst (lsorted (fun v w => keyLe (key v) (key w)) [] os)))
    (hS : ∀ x ∈ os, PairAt Dat key x) (h4 : 4 ≤ os.length) (h6 : os.length ≤ 6) (hnd : os.Nodup) (hd : Dist key os)
    (h : ∀ H' m', Sub H H' → (∀ x, x ≠ Str.ofString "n" → m' x = m x) → Q .next H' m') :
    WF c A L (exec (lawS 5) (envC 20 q (.ref cd) fa L)) H m Q := by
  refine f_bs (fun hb hLn => ?_)
  obtain ⟨gl1, gl2⟩ := G.len
  refine f_For ?_ (fun _ => rfl) (fun _ _ => rfl)
  repeat walk_at "e"
  refine ⟨Callee.builtin _ _, ?_⟩
  with_reducible refine f_len hlo ?_ (fun t3 => ?_)
  · omega
  repeat walk_at "e"
  with_reducible refine f_newList ?_ (fun D hDn hDo hDL => ?_)
  · simp
  rename_i t1 _ t2 _ _ _ _ _ _ t4
  have hvs : ∀ i, i < 3 → ∃ n : Nat, ∃ t, [Value.int 1 t1, .int 2 t2, .int ((os.length : Nat) + 1) t4][i]? = some (.int (n : Int) t) ∧ (n = 1 ∨ n = 2 ∨ n = os.length + 1) := fun i hi => by
    match i, hi with
    | 0, _ => exact ⟨1, t1, rfl, .inl rfl⟩
    | 1, _ => exact ⟨2, t2, rfl, .inr (.inl rfl)⟩
    | 2, _ => exact ⟨os.length + 1, t4, rfl, .inr (.inr rfl)⟩
  have hvl : [Value.int 1 t1, .int 2 t2, .int ((os.length : Nat) + 1) t4].length = 3 := rfl
  generalize [Value.int 1 t1, .int 2 t2, .int ((os.length : Nat) + 1) t4] = vs at *
  obtain ⟨H1, e1, s1, d1⟩ := abst (lst vs) hDn
  rw [e1]
  have hL1 : H1 L = none := by rw [← e1, upd_ne (Ne.symm hDL)]; exact hLn
  have hb1 : Bs c H1 := hb.sub_of s1
  with_reducible refine f_iterL d1 (fun it hit hito hitL => ?_)
  have hitD : it ≠ D := by rintro rfl; rw [d1] at hit; cases hit
  refine forW_of (fun k H' m' => ∃ i, k = 3 - i ∧ i ≤ 3 ∧ H' = upd H1 it (lit D i) ∧ ∀ x, x ≠ Str.ofString "n" → m' x = m x) (3 - 0) ⟨0, rfl, Nat.zero_le _, rfl, fun _ _ => rfl⟩ ?_
  rintro k H' m' ⟨i, rfl, hi, rfl, hmm⟩
  have hD1 : ∀ i, upd H1 it (lit D i) D = some (lst vs) := fun i => by rw [upd_ne (Ne.symm hitD)]; exact d1
  by_cases hlt : i < 3
  · obtain ⟨n, t, hx, hn⟩ := hvs i hlt
    with_reducible refine f_nextL (upd_same ..) hito (hD1 _) hx ?_
    rw [upd_upd]
    have s0 : Sub H1 (upd H1 it (lit D (i + 1))) := Sub.upd_new (Sub.refl _) hit
    have hbK : Bs c (upd H1 it (lit D (i + 1))) := hb1.updO hito
    have hself : Sub (upd H1 it (lit D (i + 1))) (upd H1 it (lit D (i + 1))) := Sub.refl _
    generalize hK : upd H1 it (lit D (i + 1)) = K at s0 hbK hself ⊢
    have hm1 : m' "once" = some (.ref lo) := by rw [hmm _ (by decide)]; exact hm
    have hm2 : m' "rising" = some (.ref lr) := by rw [hmm _ (by decide)]; exact hmr
    have hmm' : ∀ x, x ≠ Str.ofString "n" → setL m' "n" (.int (n : Int) t) x = m x := fun x hx => by
      unfold setL; rw [if_neg hx]; exact hmm x hx
    show WF _ _ _ _ _ _ _
    repeat walk_at "e"
    with_reducible refine f_If ?_
    repeat walk_at "e"
    refine ⟨Callee.fn Fn hbK, ?_⟩
    have k1 := s0 _ _ (s1 _ _ hlo)
    have k2 := s0 _ _ (s1 _ _ hlr)
    have hDK : Sub Dat K := (hD.trans s1).trans s0
    have hRS : ∀ x ∈ lsorted (fun v w => keyLe (key v) (key w)) [] os, PairAt Dat key x := fun x hx => hS x ((lsorted_perm (le := fun v w => keyLe (key v) (key w)) os []).mem_iff.mp hx)
    have hRl : (lsorted (fun v w => keyLe (key v) (key w)) [] os).length = os.length := (lsorted_perm os []).length_eq
    refine f_specN (P := lst ((lsorted (fun v w => keyLe (key v) (key w)) [] os).take n)) (fun H' hs' => nsm_any G Fn hT ?_ hh ?_ (hDK.trans hs') (hs' _ _ k1) hS hn h4 h6 hnd hd) (fun D2 h1 h2 h3 => ?_)
    · omega
    · omega
    generalize hR : lsorted (fun v w => keyLe (key v) (key w)) [] os = R at *
    obtain ⟨K1, e2, s2, d2⟩ := abst (lst (R.take n)) h1
    rw [e2]
    repeat walk_at "e"
    intro sl hsl hslo hslL
    obtain ⟨K2, e3, s3, d3⟩ := abst (slc .none (.int (n : Int) t) .none) hsl
    rw [e3]
    refine f_cut (s3 _ _ (s2 _ _ k2)) d3 (by omega) .none (.int _ _) .none (by simp) (pick_upto R n) (fun D3 h4' h5 h6' => ?_) (by with_unfolding_all rfl)
    obtain ⟨K3, e4, s4, d4⟩ := abst (lst (R.take n)) h4'
    rw [e4]
    have hK3 : Sub K K3 := (s2.trans s3).trans s4
    refine f_neP (Dat := Dat) (key := key) (by omega) (hDK.trans hK3) (s4 _ _ (s3 _ _ d2)) d4 (fun y hy => hRS y (List.mem_of_mem_take hy)) (fun y hy => hRS y (List.mem_of_mem_take hy)) ⟨_, rfl, ?_⟩
    simp only [decide_true, Bool.not_true, Bool.false_eq_true, if_false]
    repeat walk_at "e"
    refine ⟨Callee.fn Fg (hbK.sub_of hK3), ?_⟩
    have k3 := hK3 _ _ k1
    have k4 := hK3 _ _ k2
    refine f_specN (P := lst (R.reverse.take n)) (fun H' hs' => by rw [← hR]; exact nlg_any G Fg hT' (by omega) hh (by omega) ((hDK.trans hK3).trans hs') (hs' _ _ k3) hS hn h4 h6 hnd hd) (fun D4 h7 h8 h9 => ?_)
    obtain ⟨K4, e5, s5, d5⟩ := abst (lst (R.reverse.take n)) h7
    rw [e5]
    repeat walk_at "e"
    with_reducible refine f_UnaryOp ?_
    repeat walk_at "e"
    with_reducible refine f_neg (fun t5 => ?_)
    intro sl2 hsl2 hslo2 hslL2
    obtain ⟨K5, e6, s6, d6⟩ := abst (slc .none .none (.int (-1) t5)) hsl2
    rw [e6]
    refine f_cut (s6 _ _ (s5 _ _ k4)) d6 (by omega) .none .none (.int _ _) (by simp) (pick_rev R) (fun D5 h10 h11 h12 => ?_) (by with_unfolding_all rfl)
    obtain ⟨K6, e7, s7, d7⟩ := abst (lst R.reverse) h10
    rw [e7]
    repeat walk_at "e"
    intro sl3 hsl3 hslo3 hslL3
    obtain ⟨K7, e8, s8, d8⟩ := abst (slc .none (.int (n : Int) t) .none) hsl3
    rw [e8]
    refine f_cut (s8 _ _ d7) d8 (by simp; omega) .none (.int _ _) .none (by simp) (pick_upto R.reverse n) (fun D6 h13 h14 h15 => ?_) (by with_unfolding_all rfl)
    obtain ⟨K8, e9, s9, d9⟩ := abst (lst (R.reverse.take n)) h13
    rw [e9]
    have hK8 : Sub K K8 := ((((hK3.trans s5).trans s6).trans s7).trans s8).trans s9
    have hRv : ∀ y ∈ R.reverse.take n, PairAt Dat key y := fun y hy => hRS y (List.mem_reverse.mp (List.mem_of_mem_take hy))
    refine f_neP (Dat := Dat) (key := key) (by omega) (hDK.trans hK8) (s9 _ _ (s8 _ _ (s7 _ _ (s6 _ _ d5)))) d9 hRv hRv ⟨_, rfl, ?_⟩
    simp only [decide_true, Bool.not_true, Bool.false_eq_true, if_false]
    repeat walk_at "e"
    simp only [Bool.false_eq_true, if_false]
    repeat walk_at "e"
    exact ⟨3 - (i + 1), K, by omega, hK8, hbK, i + 1, rfl, hlt, hK.symm, hmm'⟩
  · have hie : i = 3 := by omega
    with_reducible refine f_nextL0 hh (upd_same ..) hito (hD1 _) ?_ ?_
    · omega
    repeat walk_at "e"
    exact h _ _ (del_sub (s1.trans (Sub.upd_new (Sub.refl _) hit)) (s1.none_of hit)) hmm
end
end
section
open PySem.SeqAt
section
variable {c : Cx} {A : Around} {H : HM} {L : Addr} {m : Loc}
theorem law_if7 {q : Str} {fa lp ls cd P fn T : Addr} {n : Nat} {rs : List Value} {Dat : HM} {key : Value → Key} {Q : Flow → HM → Loc → Prop} (G : GF c) (LB : LawBase c cd P) (gn : c.mg "nsmallest" = some (.ref fn)) (Fn : FnAt c fn 10 (.ref T) .none) (hT : DefAt c T)
    (hroom : A.depth + 20 < recursionLimit) (hh : A.handled = none) (hu : A.units + 400 < cLine) (hD : Sub Dat H) (hDP : Dat P = none) (hP : H P = some (tabU n)) (hn : n < 219)
    (hc1 : H (L + 1) = some (isCell (some (.ref lp)))) (hlp : H lp = some (lst rs)) (hS : ∀ x ∈ rs, PairAt Dat key x) (h3 : 3 < rs.length) (hz : rs.length < 400)
    (hm : m "second" = some (.ref ls)) (hls : H ls = some (lst (lsorted (fun v w => decide ((key v).2 ≤ (key w).2)) [] rs)))
    (h : ∀ H', GrowBut P H H' → H' P = some (tabU 219) → Q .next H' m) :
    WF c A L (exec (lawS 7) (envC 20 q (.ref cd) fa L)) H m Q := by
  refine f_bs (fun hb hLn => ?_)
  obtain ⟨fv, gv, Fv⟩ := G.lvery
  refine f_If ?_
  repeat walk_at "e"
  with_reducible refine f_tVal ?_ ?k1
  case k1 => rfl
  repeat walk_at "e"
  refine f_Lambda G.ok LB hP hn (fun f cc hf hfo hcn hco hfc hfL hcL => ?_) rfl rfl rfl rfl
  obtain ⟨H1, e1, g1, p1, c1, f1⟩ := lam_grow (Pc := codeP ((envC 20 q (.ref cd) fa L).qual ++ "<lambda>")) (Pf := lamP _ _ _ ((envC 20 q (.ref cd) fa L).qual ++ "<lambda>") cc) hf hcn hfc hP 219
  rw [e1]
  have hlpP : lp ≠ P := by rintro rfl; rw [hP] at hlp; exact absurd hlp.symm (lst_ne_tab)
  have hlsP : ls ≠ P := by rintro rfl; rw [hP] at hls; exact absurd hls.symm (lst_ne_tab)
  have hlp1 := g1 _ _ hlpP hlp
  have hls1 := g1 _ _ hlsP hls
  have hD1 := g1.sub hD hDP
  have hb1 : Bs c H1 := by rw [← e1]; exact ((hb.updO LB.own).updO hco).updO hfo
  repeat walk_at "e"
  refine ⟨Callee.fn Fn hb1, ?_⟩
  refine f_specN (P := lst ((lsorted (fun v w => decide ((key v).2 ≤ (key w).2)) [] rs).take 3)) (fun H' hs' => nsmK_spec (n := 3) (Dat := H1) G Fn hT ?_ hh ?_ hs' (hs' _ _ hlp1) (fun x hx => (hS x hx).mono hD1) ?_ ?_ h3 ?_ (mark_snd (key := key) G.ok f1 c1)) (fun D2 h1 h2 h3' => ?_)
  · omega
  · omega
  · omega
  · omega
  · omega
  have hRl : (lsorted (fun v w => decide ((key v).2 ≤ (key w).2)) [] rs).length = rs.length := (lsorted_perm rs []).length_eq
  have hRS : ∀ x ∈ lsorted (fun v w => decide ((key v).2 ≤ (key w).2)) [] rs, ∃ a, x = .ref a := fun x hx => by
    obtain ⟨a, e, _⟩ := hS x ((lsorted_perm (le := fun v w => decide ((key v).2 ≤ (key w).2)) rs []).mem_iff.mp hx)
    exact ⟨a, e⟩
  generalize lsorted (fun v w => decide ((key v).2 ≤ (key w).2)) [] rs = R at *
  obtain ⟨H2, e2, s2, d2⟩ := abst (lst (R.take 3)) h1
  rw [e2]
  repeat walk_at "e"
  intro sl hsl hslo hslL
  obtain ⟨H3, e3, s3, d3⟩ := abst (slc .none (.int 3 _) .none) hsl
  rw [e3]
  refine f_cut (s3 _ _ (s2 _ _ hls1)) d3 (by omega) .none (.int _ _) .none (by simp) (pick_upto R 3) (fun D3 h4 h5 h6 => ?_) (by with_unfolding_all rfl)
  obtain ⟨H4, e4, s4, d4⟩ := abst (lst (R.take 3)) h4
  rw [e4]
  repeat walk_at "e"
  have hs14 : Sub H1 H4 := (s2.trans s3).trans s4
  refine ⟨Callee.fn Fv (hb1.sub_of hs14), ?_⟩
  refine f_specR (R := fun r => r = .bool true) (fun H' hs' => very_spec G Fv ?_ hh ?_ (hs' _ _ (s4 _ _ (s3 _ _ d2))) (hs' _ _ d4) (fun x hx => hRS x (List.mem_of_mem_take hx)) ?_) (fun r hr => ?_)
  · omega
  · omega
  · simp; omega
  subst hr
  with_reducible refine f_truthyB ?_
  simp only [Bool.not_true, Bool.false_eq_true, if_false]
  repeat walk_at "e"
  exact h _ (g1.trans (Sub.grow hs14)) (hs14 _ _ p1)
theorem law_if9 {q : Str} {fa lp ls cd P fn T : Addr} {n : Nat} {rs : List Value} {Dat : HM} {key : Value → Key} {Q : Flow → HM → Loc → Prop} (G : GF c) (LB : LawBase c cd P) (gn : c.mg "nlargest" = some (.ref fn)) (Fn : FnAt c fn 11 (.ref T) .none) (hT : DefAt c T)
    (hroom : A.depth + 20 < recursionLimit) (hh : A.handled = none) (hu : A.units + 400 < cLine) (hD : Sub Dat H) (hDP : Dat P = none) (hP : H P = some (tabU n)) (hn : n < 222)
    (hc1 : H (L + 1) = some (isCell (some (.ref lp)))) (hlp : H lp = some (lst rs)) (hS : ∀ x ∈ rs, PairAt Dat key x) (h3 : 3 < rs.length) (hz : rs.length < 400)
    (hm : m "fallen" = some (.ref ls)) (hls : H ls = some (lst (lsorted (fun v w => decide ((key w).2 ≤ (key v).2)) [] rs)))
    (h : ∀ H', GrowBut P H H' → H' P = some (tabU 222) → Q .next H' m) :
    WF c A L (exec (lawS 9) (envC 20 q (.ref cd) fa L)) H m Q := by
  refine f_bs (fun hb hLn => ?_)
  obtain ⟨fv, gv, Fv⟩ := G.lvery
  refine f_If ?_
  repeat walk_at "e"
  with_reducible refine f_tVal ?_ ?k1
  case k1 => rfl
  repeat walk_at "e"
  refine f_Lambda G.ok LB hP hn (fun f cc hf hfo hcn hco hfc hfL hcL => ?_) rfl rfl rfl rfl
  obtain ⟨H1, e1, g1, p1, c1, f1⟩ := lam_grow (Pc := codeP ((envC 20 q (.ref cd) fa L).qual ++ "<lambda>")) (Pf := lamP _ _ _ ((envC 20 q (.ref cd) fa L).qual ++ "<lambda>") cc) hf hcn hfc hP 222
  rw [e1]
  have hlpP : lp ≠ P := by rintro rfl; rw [hP] at hlp; exact absurd hlp.symm (lst_ne_tab)
  have hlsP : ls ≠ P := by rintro rfl; rw [hP] at hls; exact absurd hls.symm (lst_ne_tab)
  have hlp1 := g1 _ _ hlpP hlp
  have hls1 := g1 _ _ hlsP hls
  have hD1 := g1.sub hD hDP
  have hb1 : Bs c H1 := by rw [← e1]; exact ((hb.updO LB.own).updO hco).updO hfo
  repeat walk_at "e"
  refine ⟨Callee.fn Fn hb1, ?_⟩
  refine f_specN (P := lst ((lsorted (fun v w => decide ((key w).2 ≤ (key v).2)) [] rs).take 3)) (fun H' hs' => nlgK_spec (n := 3) (Dat := H1) G Fn hT ?_ hh ?_ hs' (hs' _ _ hlp1) (fun x hx => (hS x hx).mono hD1) ?_ ?_ h3 ?_ (mark_snd (key := key) G.ok f1 c1)) (fun D2 h1 h2 h3' => ?_)
  · omega
  · omega
  · omega
  · omega
  · omega
  have hRl : (lsorted (fun v w => decide ((key w).2 ≤ (key v).2)) [] rs).length = rs.length := (lsorted_perm rs []).length_eq
  have hRS : ∀ x ∈ lsorted (fun v w => decide ((key w).2 ≤ (key v).2)) [] rs, ∃ a, x = .ref a := fun x hx => by
    obtain ⟨a, e, _⟩ := hS x ((lsorted_perm (le := fun v w => decide ((key w).2 ≤ (key v).2)) rs []).mem_iff.mp hx)
    exact ⟨a, e⟩
  generalize lsorted (fun v w => decide ((key w).2 ≤ (key v).2)) [] rs = R at *
  obtain ⟨H2, e2, s2, d2⟩ := abst (lst (R.take 3)) h1
  rw [e2]
  repeat walk_at "e"
  intro sl hsl hslo hslL
  obtain ⟨H3, e3, s3, d3⟩ := abst (slc .none (.int 3 _) .none) hsl
  rw [e3]
  refine f_cut (s3 _ _ (s2 _ _ hls1)) d3 (by omega) .none (.int _ _) .none (by simp) (pick_upto R 3) (fun D3 h4 h5 h6 => ?_) (by with_unfolding_all rfl)
  obtain ⟨H4, e4, s4, d4⟩ := abst (lst (R.take 3)) h4
  rw [e4]
  repeat walk_at "e"
  have hs14 : Sub H1 H4 := (s2.trans s3).trans s4
  refine ⟨Callee.fn Fv (hb1.sub_of hs14), ?_⟩
  refine f_specR (R := fun r => r = .bool true) (fun H' hs' => very_spec G Fv ?_ hh ?_ (hs' _ _ (s4 _ _ (s3 _ _ d2))) (hs' _ _ d4) (fun x hx => hRS x (List.mem_of_mem_take hx)) ?_) (fun r hr => ?_)
  · omega
  · omega
  · simp; omega
  subst hr
  with_reducible refine f_truthyB ?_
  simp only [Bool.not_true, Bool.false_eq_true, if_false]
  repeat walk_at "e"
  exact h _ (g1.trans (Sub.grow hs14)) (hs14 _ _ p1)
end
end
section
open PySem.SeqAt
section
variable {c : Cx} {A : Around} {H : HM} {L : Addr} {m : Loc}
theorem law_heap {q : Str} {fa lp cd : Addr} {rs : List Value} {Q : Flow → HM → Loc → Prop} (G : GF c)
    (hc1 : H (L + 1) = some (isCell (some (.ref lp)))) (hc2 : H (L + 2) = some (isCell none)) (hlp : H lp = some (lst rs)) (hz : rs.length < 400)
    (h : ∀ lh H', GrowBut (L + 2) H H' → H lh = none → Own c lh → H' (L + 2) = some (isCell (some (.ref lh))) → H' lh = some (lst rs) → Q .next H' m) :
    WF c A L (exec (lawS 10) (envC 20 q (.ref cd) fa L)) H m Q := by
  refine f_bs (fun hb hLn => ?_)
  refine f_AssignN ?_ rfl
  repeat walk_at "e"
  intro sl hsl hslo hslL
  obtain ⟨H1, e1, s1, d1⟩ := abst (slc .none .none .none) hsl
  rw [e1]
  refine f_cut (s1 _ _ hlp) d1 (by omega) .none .none .none (by simp) (pick_all rs) (fun D h1 h2 h3 => ?_) (by with_unfolding_all rfl)
  obtain ⟨H2, e2, s2, d2⟩ := abst (lst rs) h1
  rw [e2]
  have hs : Sub H H2 := s1.trans s2
  have hc2' := hs _ _ hc2
  have hne : D ≠ L + 2 := by rintro rfl; rw [hc2'] at d2; exact absurd d2.symm lst_ne_cell
  with_reducible refine' f_storeC ?hc hc2' ?_ ?k1 ?k2
  case hc => rfl
  case k1 => rfl
  case k2 => rfl
  refine h D _ (fun a P' ha e => ?_) (s1.none_of h1) h2 (upd_same ..) (by rw [upd_ne hne]; exact d2)
  rw [upd_ne ha]; exact hs _ _ e
theorem law_heapify {q : Str} {fa lh cd : Addr} {rs : List Value} {Dat : HM} {key : Value → Key} {Q : Flow → HM → Loc → Prop} (G : GF c) (hroom : A.depth + 20 < recursionLimit) (hh : A.handled = none) (hu : A.units + 400 < cLine) (hD : Sub Dat H) (hDh : Dat lh = none)
    (hc2 : H (L + 2) = some (isCell (some (.ref lh)))) (hlh : H lh = some (lst rs)) (hS : ∀ x ∈ rs, PairAt Dat key x) (hz : rs.length < 400)
    (h : Q .next (upd H lh (lst (hfy (fun v w => keyLt (key v) (key w)) (rs.length / 2) rs))) m) :
    WF c A L (exec (lawS 11) (envC 20 q (.ref cd) fa L)) H m Q := by
  refine f_bs (fun hb hLn => ?_)
  obtain ⟨fh, gh, Fh⟩ := G.heapify
  refine f_Expr ?_ rfl rfl
  repeat walk_at "e"
  refine ⟨Callee.fn Fh hb, ?_⟩
  refine f_spec hlh (fun H' hs' => heapify_spec G Fh ?_ hh ?_ (pairs_LtOK c Dat key) (hD.trans hs') hDh (hs' _ _ hlh) hS ?_) ?_
  · omega
  · omega
  · omega
  exact h
theorem law_if12 {q : Str} {fa lh lo cd : Addr} {hs os : List Value} {Dat : HM} {key : Value → Key} {Q : Flow → HM → Loc → Prop} (G : GF c) (hroom : A.depth + 20 < recursionLimit) (hh : A.handled = none) (hu : A.units + 400 < cLine) (hD : Sub Dat H)
    (hc2 : H (L + 2) = some (isCell (some (.ref lh)))) (hlh : H lh = some (lst hs)) (hS : ∀ x ∈ hs, PairAt Dat key x) (h1 : 1 ≤ hs.length) (hz : hs.length < 400)
    (hm : m "once" = some (.ref lo)) (hlo : H lo = some (lst os)) (hSo : ∀ x ∈ os, PairAt Dat key x) (hzo : os.length < 400)
    (hr : rmAll key (ddp key [] os) (ddp key [] hs) = some []) (hF : HF (fun v w => keyLt (key v) (key w)) 0 hs)
    (h : ∀ H', Sub H H' → Q .next H' m) :
    WF c A L (exec (lawS 12) (envC 20 q (.ref cd) fa L)) H m Q := by
  refine f_bs (fun hb hLn => ?_)
  obtain ⟨fo, go, Fo⟩ := G.orderless
  obtain ⟨gl1, gl2⟩ := G.len
  obtain ⟨gr1, gr2⟩ := G.range
  refine f_If ?_
  repeat walk_at "e"
  with_reducible refine f_tVal ?_ ?k1
  case k1 => rfl
  repeat walk_at "e"
  refine ⟨Callee.fn Fo hb, ?_⟩
  refine f_specR (R := fun r => r = .bool true) (fun H' hs' => orderless_spec (Dat := Dat) (key := key) (r := []) G Fo ?_ hh ?_ (hD.trans hs') (hs' _ _ hlh) (hs' _ _ hlo) hS hSo hz hzo hr) (fun r hr' => ?_)
  · omega
  · omega
  subst hr'
  with_reducible refine f_truthyB ?_
  simp only [Bool.not_true, Bool.false_eq_true, if_false]
  repeat walk_at "e"
  with_reducible refine f_Comp (cl := [("heap", L + 2)]) ?_ ?k1 ?k2 ?k3 ?k4 ?k5
  case k1 => rfl
  case k2 => decide
  case k3 => rfl
  case k4 => decide
  case k5 => intro _; rfl
  repeat walk_at "e"
  refine ⟨Callee.builtin _ _, ?_⟩
  with_reducible refine f_len hlh ?_ (fun t3 => ?_)
  · omega
  repeat walk_at "e"
  refine ⟨Callee.type _ _, ?_⟩
  with_reducible refine f_range2 (fun r hrn hro hrL => ?_)
  with_reducible refine f_iterR (upd_same ..) ?_ ?_ ?_ (fun it hit hito hitL => ?_)
  · decide
  · omega
  · omega
  have hitr : it ≠ r := by rintro rfl; rw [upd_same] at hit; cases hit
  have hit1 : H it = none := by rw [upd_ne hitr] at hit; exact hit
  have hsrc : Sub H (upd (upd H r (rng 1 hs.length 1)) it (rit 1 (hs.length - 1) 1)) := Sub.upd_new (Sub.upd_new (Sub.refl _) hrn) hit1
  refine compW_pure (H := upd (upd H r (rng 1 hs.length 1)) it (rit 1 (hs.length - 1) 1)) (n := hs.length - 1) (Src := H) (iter_range (a := 1) hito hit1 hh) (by omega) ?_ ?_ hsrc (fun _ => false) (fun _ => .none) rfl rfl ?_ ?_
  · rw [upd_ne (Ne.symm hitL), upd_ne (Ne.symm hrL)]; exact hLn
  · rw [upd_same]
    have e1 : (1 : Int) + ((0 : Nat) : Int) = 1 := rfl
    have e2 : ((hs.length - 1 : Nat) : Int) - ((0 : Nat) : Int) = (hs.length : Int) - 1 := by omega
    rw [e1, e2]
  · intro C i v Hc mc hi hv hmc hsubc hC
    obtain ⟨tv, rfl⟩ := hv
    have hs1 : Sub H Hc := (del_sub (Sub.upd_new hsrc hLn) hit1).trans hsubc
    have g2 := hs1 _ _ hc2
    have g3 := hs1 _ _ hlh
    have e1 : (1 : Int) + (i : Int) = ((i + 1 : Nat) : Int) := by omega
    rw [e1] at hmc
    with_reducible refine f_tests1 ?_
    repeat walk_at "e"
    with_reducible refine f_getN g3 ?_ ?_ ?_ ?hs
    · omega
    · omega
    case hs => with_unfolding_all rfl
    repeat walk_at "e"
    rename_i t5
    have e2 : ((i + 1 : Nat) : Int) - 1 = (i : Int) := by omega
    rw [e2]
    with_reducible refine f_fdiv ?_ ?_ (fun u2 => ?_)
    · decide
    · exact PyProof.noPylong_small (by decide)
    rw [fdiv2]
    with_reducible refine f_getN g3 ?_ ?_ ?_ ?hs
    · omega
    · omega
    case hs => with_unfolding_all rfl
    have hj := hF (i + 1) (by omega) (by omega) (Nat.zero_le _)
    rw [show i + 1 - 1 = i from rfl] at hj
    refine f_ltP (Dat := Dat) (key := key) (by omega) (hD.trans hs1) (hS _ (by simp [show i + 1 < hs.length by omega])) (hS _ (by simp [show i / 2 < hs.length by omega])) ⟨_, rfl, ?_⟩
    exact ⟨hj, Sub.refl _, fun h => by cases h⟩
  · intro D hD' hDo hDL
    have hfil : ((List.range (hs.length - 1)).filter (fun _ => false)).map (fun _ => Value.none) = [] := by simp
    rw [hfil]
    have hDn : H D = none := hsrc.none_of hD'
    obtain ⟨H4, e4, s4, d4⟩ : ∃ H4, upd (del (upd (upd H r (rng 1 hs.length 1)) it (rit 1 (hs.length - 1) 1)) it) D (lst []) = H4 ∧ Sub H H4 ∧ H4 D = some (lst []) := ⟨_, rfl, Sub.upd_new (del_sub hsrc hit1) hDn, upd_same ..⟩
    rw [e4]
    repeat walk_at "e"
    with_reducible refine f_newList ?_ (fun E hE hEo hEL => ?_)
    · decide
    obtain ⟨H5, e5, s5, d5⟩ := abst (lst []) hE
    rw [e5]
    refine f_neP (Dat := fun _ => none) (key := fun _ => (0, 0)) (by omega) (fun _ _ h => by cases h) (s5 _ _ d4) d5 (fun _ h => by cases h) (fun _ h => by cases h) ⟨_, rfl, ?_⟩
    simp only [List.map_nil, decide_true, Bool.not_true, Bool.false_eq_true, if_false]
    repeat walk_at "e"
    simp only [Bool.false_eq_true, if_false]
    repeat walk_at "e"
    exact h _ (s4.trans s5)
end
end
section
section
variable {key : Value → Key}
theorem ddp_append : ∀ (xs ys acc : List Value), ddp key acc (xs ++ ys) = ddp key (ddp key acc xs) ys
  | [], ys, acc => rfl
  | x :: xs, ys, acc => by
    show ddp key acc (x :: (xs ++ ys)) = _
    rw [ddp, ddp]
    split
    · exact ddp_append xs ys acc
    · exact ddp_append xs ys (acc ++ [x])
theorem ddp_sub : ∀ (xs acc : List Value), (ddp key acc xs).Sublist (acc ++ xs)
  | [], acc => by rw [List.append_nil]; exact .refl _
  | x :: xs, acc => by
    rw [ddp]; split
    · exact (ddp_sub xs acc).trans (List.Sublist.append_left (List.sublist_cons_self x xs) acc)
    · have := ddp_sub xs (acc ++ [x])
      simpa using this
theorem any_key {acc : List Value} {x : Value} : (acc.any fun y => decide (key y = key x)) = true ↔ ∃ y ∈ acc, key y = key x := by
  simp
theorem ddp_pw : ∀ (xs acc : List Value), acc.Pairwise (fun a b => key a ≠ key b) → (ddp key acc xs).Pairwise (fun a b => key a ≠ key b)
  | [], acc, h => h
  | x :: xs, acc, h => by
    rw [ddp]; split
    · exact ddp_pw xs acc h
    · rename_i hn
      refine ddp_pw xs _ (List.pairwise_append.mpr ⟨h, List.pairwise_singleton .., fun a ha b hb e => hn ?_⟩)
      rw [List.mem_singleton.mp hb] at e
      exact any_key.mpr ⟨a, ha, e⟩
theorem ddp_keep : ∀ (xs acc : List Value), ∀ y ∈ acc, y ∈ ddp key acc xs
  | [], acc, y, h => h
  | x :: xs, acc, y, h => by
    rw [ddp]; split
    · exact ddp_keep xs acc y h
    · exact ddp_keep xs _ y (List.mem_append_left _ h)
theorem ddp_keys : ∀ (xs acc : List Value), ∀ x ∈ xs, ∃ y ∈ ddp key acc xs, key y = key x
  | [], acc, x, h => by cases h
  | z :: xs, acc, x, h => by
    rcases List.mem_cons.mp h with rfl | h
    · rw [ddp]; split
      · rename_i hy
        obtain ⟨y, hy, e⟩ := any_key.mp hy
        exact ⟨y, ddp_keep xs acc y hy, e⟩
      · exact ⟨x, ddp_keep xs _ x (List.mem_append_right _ (List.mem_singleton.mpr rfl)), rfl⟩
    · rw [ddp]; split
      · exact ddp_keys xs acc x h
      · exact ddp_keys xs _ x h
theorem ddp_self : ∀ (xs acc : List Value), (acc ++ xs).Pairwise (fun a b => key a ≠ key b) → ddp key acc xs = acc ++ xs
  | [], acc, _ => by simp [ddp]
  | x :: xs, acc, h => by
    rw [ddp, if_neg]
    · rw [ddp_self xs (acc ++ [x]) (by simpa using h)]; simp
    · intro hy
      obtain ⟨y, hy, e⟩ := any_key.mp hy
      exact (List.pairwise_append.mp h).2.2 y hy x List.mem_cons_self e
theorem ddp_snoc (xs : List Value) (x : Value) : ddp key [] (xs ++ [x]) = if (xs.any fun y => decide (key y = key x)) then ddp key [] xs else ddp key [] xs ++ [x] := by
  rw [ddp_append, ddp]
  have : ((ddp key [] xs).any fun y => decide (key y = key x)) = (xs.any fun y => decide (key y = key x)) := by
    rw [Bool.eq_iff_iff, any_key, any_key]
    constructor
    · rintro ⟨y, hy, e⟩
      exact ⟨y, (ddp_mem hy).resolve_left (by simp), e⟩
    · rintro ⟨y, hy, e⟩
      obtain ⟨z, hz, e'⟩ := ddp_keys (key := key) xs [] y hy
      exact ⟨z, hz, e'.trans e⟩
  rw [this]
  split <;> simp [ddp]
theorem once_snoc (xs : List Value) (x : Value) : onceOf key (xs ++ [x]) = if (xs.any fun y => decide (key y = key x)) then onceOf key xs else onceOf key xs ++ [x] := by
  unfold onceOf
  rw [List.length_append, List.length_singleton, List.range_succ, List.filter_append, List.map_append]
  have e1 : (List.range xs.length).filter (fun i => !(((xs ++ [x]).take i).any fun y => decide (key y = key ((xs ++ [x]).getD i .none)))) = (List.range xs.length).filter (fun i => !((xs.take i).any fun y => decide (key y = key (xs.getD i .none)))) := by
    apply List.filter_congr
    intro i hi
    have hi : i < xs.length := List.mem_range.mp hi
    rw [List.take_append_of_le_length (by omega), List.getD_eq_getElem?_getD, List.getElem?_append_left hi, ← List.getD_eq_getElem?_getD]
  have e2 : ((List.range xs.length).filter (fun i => !((xs.take i).any fun y => decide (key y = key (xs.getD i .none))))).map (fun i => (xs ++ [x]).getD i .none) = ((List.range xs.length).filter (fun i => !((xs.take i).any fun y => decide (key y = key (xs.getD i .none))))).map (fun i => xs.getD i .none) := by
    apply List.map_congr_left
    intro i hi
    have hi : i < xs.length := List.mem_range.mp (List.mem_filter.mp hi).1
    rw [List.getD_eq_getElem?_getD, List.getElem?_append_left hi, ← List.getD_eq_getElem?_getD]
  rw [e1, e2]
  have e3 : (xs ++ [x]).getD xs.length .none = x := by simp
  have e4 : (xs ++ [x]).take xs.length = xs := by simp
  rw [List.filter_cons, e3, e4]
  cases (xs.any fun y => decide (key y = key x)) <;> simp
theorem once_eq (xs : List Value) : onceOf key xs = ddp key [] xs := by
  suffices h : ∀ n (xs : List Value), xs.length = n → onceOf key xs = ddp key [] xs from h _ xs rfl
  intro n
  induction n with
  | zero => intro xs h; rw [List.length_eq_zero_iff.mp h]; rfl
  | succ n ih =>
    intro xs h
    have hne : xs ≠ [] := by rintro rfl; cases h
    rw [← List.dropLast_concat_getLast hne, once_snoc, ddp_snoc, ih _ (by simp; omega)]
/-! the first of each -/
theorem ddp_dist (xs : List Value) : Dist key (ddp key [] xs) := by
  have h := ddp_pw (key := key) xs [] .nil
  intro v hv w hw e
  by_cases hne : v = w
  · exact hne
  · rcases pw_tot h v hv w hw hne with h | h
    · exact absurd e h
    · exact absurd e.symm h
theorem ddp_nodup (xs : List Value) : (ddp key [] xs).Nodup := pw_mem (ddp_pw (key := key) xs [] .nil) fun a _ b _ h e => h (by rw [e])
theorem len_le_of_sub {α : Type} [DecidableEq α] : ∀ {xs ys : List α}, xs.Nodup → (∀ x ∈ xs, x ∈ ys) → xs.length ≤ ys.length
  | [], ys, _, _ => Nat.zero_le _
  | x :: xs, ys, h, hs => by
    rw [List.nodup_cons] at h
    have hx := hs x List.mem_cons_self
    have := len_le_of_sub (xs := xs) (ys := ys.erase x) h.2 fun z hz => (List.mem_erase_of_ne (by rintro rfl; exact h.1 hz)).mpr (hs z (List.mem_cons_of_mem _ hz))
    rw [List.length_erase_of_mem hx] at this
    have := List.length_pos_of_mem hx
    simp only [List.length_cons]; omega
theorem keys_nodup {xs : List Value} (h : xs.Pairwise (fun a b => key a ≠ key b)) : (xs.map key).Nodup := List.pairwise_map.mpr h
noncomputable def allKeys : List Key := [(0, 0), (0, 1), (1, 0), (1, 1), (2, 0), (2, 1)]
theorem keyOf_mem (z : Int) : keyOf z ∈ allKeys := by
  have h1 : z.fmod 3 = 0 ∨ z.fmod 3 = 1 ∨ z.fmod 3 = 2 := by
    rw [Int.fmod_eq_emod_of_nonneg _ (by decide)]; omega
  have h2 : (z.fdiv 3).fmod 2 = 0 ∨ (z.fdiv 3).fmod 2 = 1 := by
    rw [Int.fmod_eq_emod_of_nonneg _ (by decide)]; omega
  unfold keyOf allKeys
  rcases h1 with h1 | h1 | h1 <;> rcases h2 with h2 | h2 <;> rw [h1, h2] <;> decide
theorem once_len {rs : List Value} {zs : List Int} (hk : rs.map key = (due zs).map keyOf) : 4 ≤ (ddp key [] rs).length ∧ (ddp key [] rs).length ≤ 6 := by
  have hn := keys_nodup (ddp_pw (key := key) rs [] .nil)
  constructor
  · have : [keyOf 4, keyOf 1, keyOf 5, keyOf 0].length ≤ ((ddp key [] rs).map key).length := by
      refine len_le_of_sub (by decide) fun k hk' => ?_
      have : k ∈ rs.map key := by
        rw [hk]
        refine List.mem_map.mpr ?_
        simp only [List.mem_cons, List.not_mem_nil, or_false] at hk'
        rcases hk' with rfl | rfl | rfl | rfl
        · exact ⟨4, by simp [due], rfl⟩
        · exact ⟨1, by simp [due], rfl⟩
        · exact ⟨5, by simp [due], rfl⟩
        · exact ⟨0, by simp [due], rfl⟩
      obtain ⟨x, hx, rfl⟩ := List.mem_map.mp this
      obtain ⟨y, hy, e⟩ := ddp_keys (key := key) rs [] x hx
      exact List.mem_map.mpr ⟨y, hy, e⟩
    simpa using this
  · have : ((ddp key [] rs).map key).length ≤ allKeys.length := by
      refine len_le_of_sub hn fun k hk' => ?_
      obtain ⟨y, hy, rfl⟩ := List.mem_map.mp hk'
      have : key y ∈ rs.map key := List.mem_map.mpr ⟨y, (ddp_mem hy).resolve_left (by simp), rfl⟩
      rw [hk] at this
      obtain ⟨z, _, e⟩ := List.mem_map.mp this
      rw [← e]; exact keyOf_mem z
    simpa [allKeys] using this
/-! the removals -/
theorem rm_all : ∀ (r t : List Value), r.Pairwise (fun a b => key a ≠ key b) → t.Pairwise (fun a b => key a ≠ key b) → (∀ k, k ∈ r.map key ↔ k ∈ t.map key) → rmAll key t r = some []
  | [], t, _, _, h => by
    cases t with
    | nil => rfl
    | cons y t => have := (h (key y)).mpr (by simp); simp at this
  | x :: r, t, hr, ht, h => by
    rw [List.pairwise_cons] at hr
    have hx : key x ∈ t.map key := (h (key x)).mp (by simp)
    obtain ⟨y, hy, e⟩ := List.mem_map.mp hx
    rw [rmAll, if_pos]
    · refine rm_all r _ hr.2 (ht.sublist (List.eraseP_sublist ..)) fun k => ?_
      constructor
      · intro hk
        obtain ⟨z, hz, rfl⟩ := List.mem_map.mp hk
        have hne := hr.1 z hz
        obtain ⟨u, hu, e'⟩ := List.mem_map.mp ((h (key z)).mp (List.mem_map.mpr ⟨z, List.mem_cons_of_mem _ hz, rfl⟩))
        exact List.mem_map.mpr ⟨u, (List.mem_eraseP_of_neg (by rw [e']; simpa using Ne.symm hne)).mpr hu, e'⟩
      · intro hk
        obtain ⟨u, hu, rfl⟩ := List.mem_map.mp hk
        have hu' := List.mem_of_mem_eraseP hu
        obtain ⟨z, hz, e'⟩ := List.mem_map.mp ((h (key u)).mpr (List.mem_map.mpr ⟨u, hu', rfl⟩))
        rcases List.mem_cons.mp hz with rfl | hz
        · exfalso
          have : ∀ {t : List Value}, t.Pairwise (fun a b => key a ≠ key b) → u ∈ t.eraseP (fun y => decide (key y = key z)) → False := by
            intro t
            induction t with
            | nil => intro _ h; cases h
            | cons w t ih =>
              intro hp hm
              rw [List.pairwise_cons] at hp
              rw [List.eraseP_cons] at hm
              by_cases hw : key w = key z
              · simp only [hw, decide_true, cond_true] at hm
                exact hp.1 u hm (hw.trans e')
              · simp only [hw, decide_false, cond_false] at hm
                rcases List.mem_cons.mp hm with rfl | hm
                · exact hw e'.symm
                · exact ih hp.2 hm
          exact this ht hu
        · exact List.mem_map.mpr ⟨z, hz, e'⟩
    · rw [List.findIdx?_isSome]
      exact any_key.mpr ⟨y, hy, e⟩
/-! the row popped one by one -/
theorem strict_keys : ∀ {ks ks' : List Key}, ks.Pairwise (fun a b => keyLt a b = true) → ks'.Pairwise (fun a b => keyLt a b = true) → (∀ k, k ∈ ks ↔ k ∈ ks') → ks = ks'
  | [], [], _, _, _ => rfl
  | [], k :: ks', _, _, h => by have := (h k).mpr List.mem_cons_self; cases this
  | k :: ks, [], _, _, h => by have := (h k).mp List.mem_cons_self; cases this
  | k :: ks, k' :: ks', h1, h2, h => by
    rw [List.pairwise_cons] at h1 h2
    have asy : ∀ {a b : Key}, keyLt a b = true → keyLt b a = true → False := fun {a b} x y => by
      rcases keyLt_iff.mp x with x | ⟨x, x'⟩ <;> rcases keyLt_iff.mp y with y | ⟨y, y'⟩ <;> omega
    have e : k = k' := by
      rcases List.mem_cons.mp ((h k).mp List.mem_cons_self) with h3 | h3
      · exact h3
      · rcases List.mem_cons.mp ((h k').mpr List.mem_cons_self) with h4 | h4
        · exact h4.symm
        · exact (asy (h1.1 k' h4) (h2.1 k h3)).elim
    subst e
    rw [strict_keys h1.2 h2.2 fun x => ?_]
    constructor
    · intro hx
      rcases List.mem_cons.mp ((h x).mp (List.mem_cons_of_mem _ hx)) with rfl | h3
      · exact (asy (h1.1 x hx) (h1.1 x hx)).elim
      · exact h3
    · intro hx
      rcases List.mem_cons.mp ((h x).mpr (List.mem_cons_of_mem _ hx)) with rfl | h3
      · exact (asy (h2.1 x hx) (h2.1 x hx)).elim
      · exact h3
theorem popped {rs acc : List Value} (hp : acc.Perm rs) (hs : acc.Pairwise (fun a b => keyLt (key b) (key a) = false)) :
    (ddp key [] acc).map key = (lsorted (fun v w => keyLe (key v) (key w)) [] (ddp key [] rs)).map key := by
  have hl := lsorted_perm (le := fun v w => keyLe (key v) (key w)) (ddp key [] rs) []
  refine strict_keys ?_ ?_ fun k => ?_
  · refine List.pairwise_map.mpr ?_
    have h1 : (ddp key [] acc).Pairwise (fun a b => keyLt (key b) (key a) = false) := hs.sublist (ddp_sub acc [])
    refine pw_mem (pw_and h1 (ddp_pw (key := key) acc [] .nil)) fun a _ b _ ⟨x, y⟩ => ?_
    rcases keyLt_tot y with h | h
    · exact h
    · rw [h] at x; cases x
  · exact List.pairwise_map.mpr (rising_pw (ddp_nodup rs) (ddp_dist rs))
  · constructor
    · intro hk
      obtain ⟨y, hy, rfl⟩ := List.mem_map.mp hk
      obtain ⟨z, hz, e⟩ := ddp_keys (key := key) rs [] y (hp.mem_iff.mp ((ddp_mem hy).resolve_left (by simp)))
      exact List.mem_map.mpr ⟨z, hl.mem_iff.mpr hz, e⟩
    · intro hk
      obtain ⟨y, hy, rfl⟩ := List.mem_map.mp hk
      obtain ⟨z, hz, e⟩ := ddp_keys (key := key) acc [] y (hp.mem_iff.mpr ((ddp_mem (hl.mem_iff.mp hy)).resolve_left (by simp)))
      exact List.mem_map.mpr ⟨z, hz, e⟩
end
section
variable {lt : Value → Value → Bool}
theorem pop_step (w : Weak lt) {ys : List Value} {v : Value} (hf : HF lt 0 (ys ++ [v])) : HF lt 0 (hpopL lt ys v) ∧ (hpopR ys v :: hpopL lt ys v).Perm (ys ++ [v]) ∧ ∀ y ∈ ys ++ [v], lt y (hpopR ys v) = false := by
  cases ys with
  | nil =>
    refine ⟨fun j h0 hj => absurd hj (Nat.not_lt_zero _), .refl _, fun y hy => ?_⟩
    rw [List.mem_singleton.mp hy]; exact w.irr _
  | cons y0 ys =>
    have e1 : hpopR (y0 :: ys) v = y0 := rfl
    have e2 : hpopL lt (y0 :: ys) v = sup lt 0 ((y0 :: ys).set 0 v) := rfl
    rw [e1, e2]
    have hf' : HF lt 0 (y0 :: ys) := fun j h0 hj hk => by
      have := hf j h0 (by simp at hj ⊢; omega) hk
      unfold gv at this ⊢
      rw [List.getD_eq_getElem?_getD, List.getElem?_append_left hj, ← List.getD_eq_getElem?_getD, List.getD_eq_getElem?_getD (i := (j - 1) / 2), List.getElem?_append_left (by omega), ← List.getD_eq_getElem?_getD] at this
      exact this
    refine ⟨replace_heap w v (by simp) hf', ?_, fun y hy => ?_⟩
    · have h1 := sup_perm (lt := lt) (pos := 0) (xs := (y0 :: ys).set 0 v) (by simp)
      have h2 : ((y0 :: ys).set 0 v).Perm (v :: ys) := by simp
      refine ((h1.trans h2).cons y0).trans ?_
      exact (List.Perm.cons y0 (List.perm_append_comm (l₁ := [v]) (l₂ := ys)))
    · obtain ⟨j, hj, e⟩ := mem_getD hy
      have := root_min w hf j hj
      rw [← e]; exact this
end
end
section
open PySem.SeqAt
section
variable {c : Cx} {A : Around} {H : HM} {L : Addr} {m : Loc}
theorem law_ret {q : Str} {fa lp lh lr cd : Addr} {rs hs : List Value} {Dat : HM} {key : Value → Key} {Q : Flow → HM → Loc → Prop} (G : GF c) (hroom : A.depth + 20 < recursionLimit) (hh : A.handled = none) (hu : A.units + 400 < cLine) (hD : Sub Dat H) (hDh : Dat lh = none) (hho : Own c lh)
    (hc1 : H (L + 1) = some (isCell (some (.ref lp)))) (hlp : H lp = some (lst rs)) (hc2 : H (L + 2) = some (isCell (some (.ref lh)))) (hlh : H lh = some (lst hs)) (hne : lp ≠ lh) (hner : lr ≠ lh) (hS : ∀ x ∈ rs, PairAt Dat key x) (hz : rs.length < 400)
    (hp : hs.Perm rs) (hF : HF (fun v w => keyLt (key v) (key w)) 0 hs) (hm : m "rising" = some (.ref lr)) (hlr : H lr = some (lst (lsorted (fun v w => keyLe (key v) (key w)) [] (ddp key [] rs))))
    (h : ∀ H', GrowBut lh H H' → Q (.ret (.bool true)) H' m) :
    WF c A L (exec (lawS 13) (envC 20 q (.ref cd) fa L)) H m Q := by
  refine f_bs (fun hb hLn => ?_)
  obtain ⟨fp, gp, Fp⟩ := G.heappop
  obtain ⟨fd, gd, Fd⟩ := G.dedup
  refine f_Return ?_
  with_reducible refine f_And ?_
  with_reducible refine f_Compare ?_ ?hm
  case hm => with_unfolding_all rfl
  repeat walk_at "e"
  with_reducible refine f_Comp (cl := [("heap", L + 2)]) ?_ ?k1 ?k2 ?k3 ?k4 ?k5
  case k1 => rfl
  case k2 => decide
  case k3 => rfl
  case k4 => decide
  case k5 => intro _; rfl
  repeat walk_at "e"
  with_reducible refine f_iterL hlp (fun it hit hito hitL => ?_)
  have hitp : it ≠ lp := by rintro rfl; rw [hlp] at hit; cases hit
  refine compW_inv (n := rs.length) (Src := one lp (lst rs)) (iter_list hito (one_ne hitp) (.inl hh) one_same) (by omega) (by rw [upd_ne (Ne.symm hitL)]; exact hLn) (upd_same ..) (one_sub (by rw [upd_ne (Ne.symm hitp)]; exact hlp)) rfl rfl
    (fun i Hx acc => ∃ hi, Hx = upd H lh (lst hi) ∧ (acc ++ hi).Perm rs ∧ HF (fun v w => keyLt (key v) (key w)) 0 hi ∧ acc.Pairwise (fun a b => keyLt (key b) (key a) = false) ∧ ∀ a ∈ acc, ∀ y ∈ hi, keyLt (key y) (key a) = false) ⟨hs, ?_, hp, hF, .nil, fun a ha => by cases ha⟩ ?_ ?_
  · rw [del_upd hit, upd_self hlh]
  · rintro C D i v Hx acc mc hi hv hmc ⟨hp', rfl, hperm, hF', hsrt, hle⟩ hacc r hitD hDL _ hCx hCL hCD hCi
    have hlen : hp'.length = rs.length - i := by have := hperm.length_eq; simp at this; omega
    have hne' : hp' ≠ [] := by rintro rfl; simp at hlen; omega
    obtain ⟨ys, w, rfl⟩ : ∃ ys w, hp' = ys ++ [w] := ⟨hp'.dropLast, hp'.getLast hne', (List.dropLast_concat_getLast hne').symm⟩
    have hlhL : lh ≠ L := by rintro rfl; rw [hLn] at hlh; cases hlh
    have hlhD : lh ≠ D := by rintro rfl; have := r.d; rw [upd_same] at this; cases this
    have hlhi : lh ≠ it := by rintro rfl; have := r.i; rw [upd_same] at this; cases this
    have hK : upd (upd (upd (upd H lh (lst (ys ++ [w]))) L (isNs m)) D (lst acc)) it (lit lp (i + 1)) lh = some (lst (ys ++ [w])) := by rw [upd_ne hlhi, upd_ne hlhD, upd_ne hlhL, upd_same]
    have hKc : upd (upd (upd (upd H lh (lst (ys ++ [w]))) L (isNs m)) D (lst acc)) it (lit lp (i + 1)) (L + 2) = some (isCell (some (.ref lh))) := by
      have h1 : L + 2 ≠ lh := by rintro rfl; rw [hlh] at hc2; exact absurd hc2 lst_ne_cell
      have h2 : L + 2 ≠ D := by rintro rfl; have := r.d; rw [upd_ne h1, hc2] at this; cases this
      have h3 : L + 2 ≠ it := by rintro rfl; rw [hc2] at hit; cases hit
      rw [upd_ne h3, upd_ne h2, upd_ne (Ne.symm (nz0 (k := 1))), upd_ne h1]; exact hc2
    have hDK : Sub Dat (upd (upd (upd (upd H lh (lst (ys ++ [w]))) L (isNs m)) D (lst acc)) it (lit lp (i + 1))) := by
      refine Sub.upd_new (Sub.upd_new (Sub.upd_new (Sub.upd_new hD hDh) (hD.none_of hLn)) ?_) (hD.none_of hit)
      have := r.d
      rw [upd_ne (Ne.symm hlhD)] at this
      exact hD.none_of this
    have hbK : Bs c (upd (upd (upd (upd H lh (lst (ys ++ [w]))) L (isNs m)) D (lst acc)) it (lit lp (i + 1))) := by
      refine Bs.updO (Bs.new (Bs.new r.b r.l) ?_) hito
      rw [upd_ne hDL]; exact r.d
    have hSh : ∀ x ∈ ys ++ [w], PairAt Dat key x := fun x hx => hS x (hperm.mem_iff.mp (List.mem_append_right _ hx))
    generalize hKe : upd (upd (upd (upd H lh (lst (ys ++ [w]))) L (isNs m)) D (lst acc)) it (lit lp (i + 1)) = K at hK hKc hDK hbK ⊢
    repeat walk_at "e"
    refine ⟨Callee.fn Fp hbK, ?_⟩
    refine f_spec hK (fun H' hs' => heappop_spec G Fp ?_ ?_ (pairs_LtOK c Dat key) (hDK.trans hs') hDh (hs' _ _ hK) (fun x hx => hSh x (List.mem_append_left _ hx)) (hSh w (by simp)) ?_) ?_
    · omega
    · omega
    · simp at hlen; omega
    obtain ⟨q1, q2, q3⟩ := pop_step (lt := fun v w => keyLt (key v) (key w)) pair_weak hF'
    generalize hpopR ys w = x at *
    generalize hpopL (fun v w => keyLt (key v) (key w)) ys w = hi' at *
    refine ⟨upd H lh (lst hi'), ⟨hi', rfl, ?_, q1, ?_, ?_⟩, ⟨?_, ?_, ?_, hb.updO hho, one_sub ?_⟩, ?_⟩
    · have : (acc ++ [x] ++ hi').Perm (acc ++ (ys ++ [w])) := by
        rw [List.append_assoc]; exact q2.append_left acc
      exact this.trans hperm
    · refine List.pairwise_append.mpr ⟨hsrt, List.pairwise_singleton .., fun a ha b hb' => ?_⟩
      rw [List.mem_singleton.mp hb']
      exact hle a ha x (q2.mem_iff.mp List.mem_cons_self)
    · intro a ha y hy
      have hy' : y ∈ ys ++ [w] := q2.mem_iff.mp (List.mem_cons_of_mem _ hy)
      rcases List.mem_append.mp ha with ha | ha
      · exact hle a ha y hy'
      · rw [List.mem_singleton.mp ha]; exact q3 y hy'
    · rw [upd_ne (Ne.symm hlhL)]; exact hLn
    · have := r.d; rw [upd_ne (Ne.symm hlhD)] at this ⊢; exact this
    · have := r.i; rw [upd_ne (Ne.symm hlhi)] at this ⊢; exact this
    · rw [upd_ne hne]; exact hlp
    · rw [← hKe, upd_comm (Ne.symm hlhi), upd_comm (Ne.symm hlhD), upd_comm (Ne.symm hlhL), upd_upd]; exact Sub.refl _
  · rintro D Hx acc ⟨hi, rfl, hperm, hF', hsrt, hle⟩ hacc hDn hDo hDL
    have hi0 : hi = [] := by have := hperm.length_eq; simp at this; exact List.length_eq_zero_iff.mp (by omega)
    subst hi0
    rw [List.append_nil] at hperm
    have g1 : GrowBut lh H (upd H lh (lst [])) := fun a P' ha e => by rw [upd_ne ha]; exact e
    have b1 : Bs c (upd H lh (lst [])) := hb.updO hho
    have l1 : upd H lh (lst []) lh = some (lst []) := upd_same ..
    have D1 : Sub Dat (upd H lh (lst [])) := Sub.upd_new hD hDh
    have c1 : upd H lh (lst []) (L + 2) = some (isCell (some (.ref lh))) := g1 _ _ (by rintro rfl; rw [hlh] at hc2; exact absurd hc2 lst_ne_cell) hc2
    have r1 := g1 _ _ hner hlr
    generalize upd H lh (lst []) = H1 at *
    obtain ⟨H2, e2, s2, d2⟩ := abst (lst acc) hDn
    rw [e2]
    repeat walk_at "e"
    refine ⟨Callee.fn Fd (b1.sub_of s2), ?_⟩
    have hSa : ∀ x ∈ acc, PairAt Dat key x := fun x hx => hS x (hperm.mem_iff.mp hx)
    refine f_specN (P := lst (ddp key [] acc)) (fun H' hs' => dedup_spec G Fd ?_ (.inl hh) ?_ ((D1.trans s2).trans hs') (hs' _ _ d2) hSa ?_) (fun D3 h1 h2 h3 => ?_)
    · omega
    · omega
    · omega
    obtain ⟨H3, e3, s3, d3⟩ := abst (lst (ddp key [] acc)) h1
    rw [e3]
    repeat walk_at "e"
    refine f_eqP (Dat := Dat) (key := key) (by omega) ((D1.trans s2).trans s3) d3 (s3 _ _ (s2 _ _ r1)) (fun y hy => hSa y ((ddp_mem hy).resolve_left (by simp))) (fun y hy => hS y ((ddp_mem ((lsorted_perm (le := fun v w => keyLe (key v) (key w)) (ddp key [] rs) []).mem_iff.mp hy)).resolve_left (by simp))) ?_
    rw [popped hperm hsrt]
    with_reducible refine f_truthyB ?_
    simp only [decide_true, if_true]
    with_reducible refine f_Compare ?_ ?hm
    case hm => with_unfolding_all rfl
    have c3 := s3 _ _ (s2 _ _ c1)
    repeat walk_at "e"
    with_reducible refine f_newList ?_ (fun E hE hEo hEL => ?_)
    · decide
    obtain ⟨H4, e4, s4, d4⟩ := abst (lst []) hE
    rw [e4]
    refine f_eqP (Dat := fun _ => none) (key := fun _ => (0, 0)) (by omega) (fun _ _ h => by cases h) (s4 _ _ (s3 _ _ (s2 _ _ l1))) d4 (fun _ h => by cases h) (fun _ h => by cases h) ?_
    exact h _ (g1.trans (Sub.grow ((s2.trans s3).trans s4)))
end
end
section
open PySem.SeqAt
open Classical in
/-- the pairs alone -/
noncomputable def datOf (H : HM) : HM := fun a => if ∃ k, H a = some (pairP k) then H a else none
open Classical in
noncomputable def keyAt (H : HM) : Value → Key := fun v => match v with
  | .ref a => if h : ∃ k, H a = some (pairP k) then choose h else (0, 0)
  | _ => (0, 0)
theorem pairP_inj {k k' : Key} (h : pairP k = pairP k') : k = k' := by
  have h1 : pairP k { cls := .type "list", dict := none, data := .seq #[.int k.1 0, .int k.2 0] 0, slots := #[] } := ⟨0, 0, 0, rfl⟩
  rw [h] at h1
  obtain ⟨t, u, n, e⟩ := h1
  have := congrArg Obj.data e
  simp at this
  exact Prod.ext this.1.1.1 this.1.2.1
theorem datOf_sub (H : HM) : Sub (datOf H) H := fun a P e => by
  unfold datOf at e; split at e
  · exact e
  · cases e
theorem datOf_none {H : HM} {a : Addr} (h : ∀ k, H a ≠ some (pairP k)) : datOf H a = none := by
  unfold datOf; rw [if_neg]; rintro ⟨k, e⟩; exact h k e
theorem datOf_pair {H : HM} {a : Addr} {k : Key} (h : H a = some (pairP k)) : datOf H a = some (pairP k) ∧ keyAt H (.ref a) = k := by
  have hx : ∃ k, H a = some (pairP k) := ⟨k, h⟩
  refine ⟨by unfold datOf; rw [if_pos hx]; exact h, ?_⟩
  unfold keyAt
  simp only [dif_pos hx]
  have := Classical.choose_spec hx
  exact (pairP_inj (Option.some.inj (h.symm.trans this))).symm
theorem law_list : bodyOf (stm 20) = [lawS 0, lawS 1, lawS 2, lawS 3, lawS 4, lawS 5, lawS 6, lawS 7, lawS 8, lawS 9, lawS 10, lawS 11, lawS 12, lawS 13] := rfl
/-- what stands from the third statement on -/
structure LS (L P lp lo lr : Addr) (Dat : HM) (key : Value → Key) (rs : List Value) (n : Nat) (H : HM) : Prop where
  sub : Sub Dat H
  tab : H P = some (tabU n)
  c1 : H (L + 1) = some (isCell (some (.ref lp)))
  c2 : H (L + 2) = some (isCell none)
  pairs : H lp = some (lst rs)
  once : H lo = some (lst (ddp key [] rs))
  ris : H lr = some (lst (lsorted (fun v w => keyLe (key v) (key w)) [] (ddp key [] rs)))
section
variable {c : Cx} {A : Around} {H H' : HM} {L P lp lo lr : Addr} {m : Loc} {Dat : HM} {key : Value → Key} {rs : List Value} {n k : Nat}
theorem LS.more (S : LS L P lp lo lr Dat key rs n H) (h : Sub H H') : LS L P lp lo lr Dat key rs n H' := ⟨S.sub.trans h, h _ _ S.tab, h _ _ S.c1, h _ _ S.c2, h _ _ S.pairs, h _ _ S.once, h _ _ S.ris⟩
theorem LS.lam (S : LS L P lp lo lr Dat key rs n H) (hD : Dat P = none) (g : GrowBut P H H') (ht : H' P = some (tabU k)) : LS L P lp lo lr Dat key rs k H' := by
  have hl : ∀ {a : Addr} {xs : List Value}, H a = some (lst xs) → a ≠ P := fun {a xs} e q => by subst q; rw [S.tab] at e; exact lst_ne_tab e.symm
  have hc : ∀ {a : Addr} {v : Option Value}, H a = some (isCell v) → a ≠ P := fun {a v} e q => by subst q; rw [S.tab] at e; exact cell_ne_tab e.symm
  exact ⟨g.sub S.sub hD, ht, g _ _ (hc S.c1) S.c1, g _ _ (hc S.c2) S.c2, g _ _ (hl S.pairs) S.pairs, g _ _ (hl S.once) S.once, g _ _ (hl S.ris) S.ris⟩
theorem law_body {q : Str} {fa l cd fd fn fg T T' : Addr} {kV : Value} {xs : List Value} {zs : List Int} {Q : Flow → HM → Loc → Prop} (G : GF c) (LB : LawBase c cd P)
    (gd : c.mg "_deduplicate" = some (.ref fd)) (Fd : FnAt c fd 13 .none kV) (hB : BindD c kV) (gn : c.mg "nsmallest" = some (.ref fn)) (Fn : FnAt c fn 10 (.ref T) .none) (hT : DefAt c T) (gg : c.mg "nlargest" = some (.ref fg)) (Fg : FnAt c fg 11 (.ref T') .none) (hT' : DefAt c T')
    (hA : A.frames = some [envC 20 q (.ref cd) fa L]) (hLo : Own c L) (hroom : A.depth + 20 < recursionLimit) (hh : A.handled = none) (hu : A.units + 400 < cLine)
    (hc1 : H (L + 1) = some (isCell none)) (hc2 : H (L + 2) = some (isCell none)) (hP : H P = some (tabU 0)) (hm : m "script" = some (.ref l))
    (hl : ∀ H' s, Sub H H' → Inv c H' s → s.heap.IsList l xs.toArray) (hxs : IntsAre xs zs) (hz : xs.length < 900)
    (h : ∀ H' m', H' P = some (tabU 222) → Bs c H' → Q (.ret (.bool true)) H' m') :
    WF c A L (execs (bodyOf (stm 20)) (envC 20 q (.ref cd) fa L)) H m Q := by
  rw [law_list]
  refine f_cons ?_
  with_reducible refine w_let ?_
  intro _
  refine law_pairs G hh hc1 hm hl hxs hz (fun lp rs H1 k1 a1 a2 a3 a4 => ?_)
  show WF _ _ _ _ _ _ _
  have hP1L : P ≠ L + 1 := by rintro rfl; rw [hP] at hc1; exact cell_ne_tab hc1.symm
  have tab1 : H1 P = some (tabU 0) := k1 _ _ hP1L hP
  have c21 : H1 (L + 2) = some (isCell none) := k1 _ _ (Ne.symm (Nat.ne_of_lt (Nat.lt_succ_self _))) hc2
  have hDP : datOf H1 P = none := datOf_none fun k e => by rw [tab1] at e; exact tab_ne_pair e
  have hDc2 : datOf H1 (L + 2) = none := datOf_none fun k e => by rw [c21] at e; exact cell_ne_pair e
  have hS : ∀ x ∈ rs, PairAt (datOf H1) (keyAt H1) x := fun x hx => by
    obtain ⟨j, hj, e⟩ := mem_getD hx
    obtain ⟨a, ea, ha⟩ := a4 j hj
    obtain ⟨h1, h2⟩ := datOf_pair ha
    rw [← e, ea]
    exact ⟨a, rfl, by rw [h2]; exact h1⟩
  have hkeys : rs.map (keyAt H1) = (due zs).map keyOf := by
    apply List.ext_getElem (by simp [a3])
    intro j h1 h2
    simp only [List.length_map] at h1 h2
    obtain ⟨a, ea, ha⟩ := a4 j h1
    rw [List.getElem_map, List.getElem_map]
    rw [List.getD_eq_getElem?_getD, List.getElem?_eq_getElem h1] at ea
    rw [List.getD_eq_getElem?_getD, List.getElem?_eq_getElem h2] at ha
    simp only [Option.getD_some] at ea ha
    rw [ea]; exact (datOf_pair ha).2
  have hsub1 := datOf_sub H1
  have hlenD : (due zs).length ≤ 13 := by unfold due; simp; omega
  have hlenD6 : 6 ≤ (due zs).length := by unfold due; simp
  obtain ⟨o4, o6⟩ := once_len hkeys
  generalize datOf H1 = Dat at *
  generalize keyAt H1 = key at *
  have hond := ddp_nodup (key := key) rs
  have hodd := ddp_dist (key := key) rs
  have hoS : ∀ x ∈ ddp key [] rs, PairAt Dat key x := fun x hx => hS x ((ddp_mem hx).resolve_left (by simp))
  refine f_cons ?_
  with_reducible refine w_let ?_
  intro _
  refine law_once (Dat := Dat) (key := key) G hh (by omega) hsub1 a1 a2 hS (by omega) (fun lo H2 s2 _ loo loL b1 => ?_)
  show WF _ _ _ _ _ _ _
  rw [once_eq] at b1
  refine f_cons ?_
  with_reducible refine w_let ?_
  intro _
  refine law_rising (Dat := Dat) (key := key) G LB (by omega) hh (by omega) (hsub1.trans s2) hDP (s2 _ _ tab1) (by decide) setL_eq b1 hoS (by omega) (fun lr H3 g3 t3 lro d3 => ?_)
  show WF _ _ _ _ _ _ _
  have hl2 : ∀ {a : Addr} {xs : List Value}, H2 a = some (lst xs) → a ≠ P := fun {a xs} e q => by subst q; rw [s2 _ _ tab1] at e; exact lst_ne_tab e.symm
  have hc2' : ∀ {a : Addr} {v : Option Value}, H2 a = some (isCell v) → a ≠ P := fun {a v} e q => by subst q; rw [s2 _ _ tab1] at e; exact cell_ne_tab e.symm
  have S3 : LS L P lp lo lr Dat key rs 210 H3 := ⟨g3.sub (hsub1.trans s2) hDP, t3, g3 _ _ (hc2' (s2 _ _ a1)) (s2 _ _ a1), g3 _ _ (hc2' (s2 _ _ c21)) (s2 _ _ c21), g3 _ _ (hl2 (s2 _ _ a2)) (s2 _ _ a2), g3 _ _ (hl2 b1) b1, d3⟩
  have mo : setL (setL m "once" (.ref lo)) "rising" (.ref lr) "once" = some (.ref lo) := setL_ne setL_eq rfl
  have mr : setL (setL m "once" (.ref lo)) "rising" (.ref lr) "rising" = some (.ref lr) := setL_eq
  generalize setL (setL m "once" (.ref lo)) "rising" (.ref lr) = m3 at *
  clear k1 a1 a2 a4 tab1 c21 s2 b1 g3 t3 d3 hl2 hc2' hsub1
  refine f_cons ?_
  with_reducible refine w_let ?_
  intro _
  refine law_if3 (Dat := Dat) (key := key) G gd Fd hB hA hLo hroom hh hu S3.sub S3.c1 S3.pairs hS (by omega) (by omega) mo S3.once (fun H4 s4 => ?_)
  show WF _ _ _ _ _ _ _
  have S4 := S3.more s4
  refine f_cons ?_
  with_reducible refine w_let ?_
  intro _
  refine law_if4 (Dat := Dat) (key := key) G hroom hh hu S4.sub S4.c1 S4.pairs hS (by omega) (by omega) mo S4.once (fun H5 s5 => ?_)
  show WF _ _ _ _ _ _ _
  have S5 := S4.more s5
  refine f_cons ?_
  with_reducible refine w_let ?_
  intro _
  refine law_for (Dat := Dat) (key := key) G gn Fn hT gg Fg hT' hroom hh hu S5.sub mo S5.once mr S5.ris hoS o4 o6 hond hodd (fun H6 m6 s6 hm6 => ?_)
  show WF _ _ _ _ _ _ _
  have S6 := S5.more s6
  have mo6 : m6 "once" = some (.ref lo) := (hm6 _ (by decide)).trans mo
  have mr6 : m6 "rising" = some (.ref lr) := (hm6 _ (by decide)).trans mr
  refine f_cons ?_
  with_reducible refine w_let ?_
  intro _
  refine law_second (Dat := Dat) (key := key) G LB (by omega) hh (by omega) S6.sub hDP S6.tab (by decide) S6.c1 S6.pairs hS (by omega) (fun l7 H7 g7 t7 _ d7 => ?_)
  show WF _ _ _ _ _ _ _
  have S7 := S6.lam hDP g7 t7
  refine f_cons ?_
  with_reducible refine w_let ?_
  intro _
  refine law_if7 (Dat := Dat) (key := key) G LB gn Fn hT hroom hh hu S7.sub hDP S7.tab (by decide) S7.c1 S7.pairs hS (by omega) (by omega) setL_eq d7 (fun H8 g8 t8 => ?_)
  show WF _ _ _ _ _ _ _
  have S8 := S7.lam hDP g8 t8
  refine f_cons ?_
  with_reducible refine w_let ?_
  intro _
  refine law_fallen (Dat := Dat) (key := key) G LB (by omega) hh (by omega) S8.sub hDP S8.tab (by decide) S8.c1 S8.pairs hS (by omega) (fun l9 H9 g9 t9 _ d9 => ?_)
  show WF _ _ _ _ _ _ _
  have S9 := S8.lam hDP g9 t9
  refine f_cons ?_
  with_reducible refine w_let ?_
  intro _
  refine law_if9 (Dat := Dat) (key := key) G LB gg Fg hT' hroom hh hu S9.sub hDP S9.tab (by decide) S9.c1 S9.pairs hS (by omega) (by omega) setL_eq d9 (fun H10 g10 t10 => ?_)
  show WF _ _ _ _ _ _ _
  have S10 := S9.lam hDP g10 t10
  have mo10 : setL (setL m6 "second" (.ref l7)) "fallen" (.ref l9) "once" = some (.ref lo) := setL_ne (setL_ne mo6 rfl) rfl
  have mr10 : setL (setL m6 "second" (.ref l7)) "fallen" (.ref l9) "rising" = some (.ref lr) := setL_ne (setL_ne mr6 rfl) rfl
  generalize setL (setL m6 "second" (.ref l7)) "fallen" (.ref l9) = m10 at *
  refine f_bs (fun hb10 _ => ?_)
  refine f_cons ?_
  with_reducible refine w_let ?_
  intro _
  refine law_heap G S10.c1 S10.c2 S10.pairs (by omega) (fun lh H11 g11 hn11 lho c11 d11 => ?_)
  show WF _ _ _ _ _ _ _
  have nl : ∀ {a : Addr} {xs : List Value}, H10 a = some (lst xs) → a ≠ L + 2 := fun {a xs} e q => by subst q; rw [S10.c2] at e; exact lst_ne_cell e.symm
  have sub11 : Sub Dat H11 := g11.sub S10.sub hDc2
  have hDlh : Dat lh = none := S10.sub.none_of hn11
  have p11 := g11 _ _ (nl S10.pairs) S10.pairs
  have o11 := g11 _ _ (nl S10.once) S10.once
  have r11 := g11 _ _ (nl S10.ris) S10.ris
  have c111 := g11 _ _ (Nat.ne_of_lt (Nat.lt_succ_self _)) S10.c1
  have t11 := g11 _ _ (by intro e; have h1 := S10.c2; rw [← e, S10.tab] at h1; exact cell_ne_tab h1.symm) S10.tab
  have np : lp ≠ lh := by rintro rfl; rw [S10.pairs] at hn11; cases hn11
  have no : lo ≠ lh := by rintro rfl; rw [S10.once] at hn11; cases hn11
  have nr : lr ≠ lh := by rintro rfl; rw [S10.ris] at hn11; cases hn11
  have nc1 : L + 1 ≠ lh := by rintro rfl; rw [S10.c1] at hn11; cases hn11
  have nc2 : L + 2 ≠ lh := by rintro rfl; rw [S10.c2] at hn11; cases hn11
  have nP : P ≠ lh := by rintro rfl; rw [S10.tab] at hn11; cases hn11
  refine f_bs (fun hb11 _ => ?_)
  refine f_cons ?_
  with_reducible refine w_let ?_
  intro _
  refine law_heapify (Dat := Dat) (key := key) G hroom hh hu sub11 hDlh c11 d11 hS (by omega) ?_
  show WF _ _ _ _ _ _ _
  have hperm : (hfy (fun v w => keyLt (key v) (key w)) (rs.length / 2) rs).Perm rs := hfy_perm _ _ (by omega)
  have hheap := heapify_heap (pair_weak (key := key)) rs
  generalize hfy (fun v w => keyLt (key v) (key w)) (rs.length / 2) rs = hs at *
  have g12 : GrowBut lh H11 (upd H11 lh (lst hs)) := fun a P' ha e => by rw [upd_ne ha]; exact e
  have sub12 : Sub Dat (upd H11 lh (lst hs)) := Sub.upd_new sub11 hDlh
  have d12 : upd H11 lh (lst hs) lh = some (lst hs) := upd_same ..
  generalize upd H11 lh (lst hs) = H12 at *
  have hsl := hperm.length_eq
  have hSs : ∀ x ∈ hs, PairAt Dat key x := fun x hx => hS x (hperm.mem_iff.mp hx)
  have hrm : rmAll key (ddp key [] (ddp key [] rs)) (ddp key [] hs) = some [] := by
    rw [ddp_self (ddp key [] rs) [] (ddp_pw rs [] .nil), List.nil_append]
    refine rm_all _ _ (ddp_pw hs [] .nil) (ddp_pw rs [] .nil) fun k => ?_
    constructor
    · intro hk
      obtain ⟨y, hy, rfl⟩ := List.mem_map.mp hk
      obtain ⟨z, hz', e⟩ := ddp_keys (key := key) rs [] y (hperm.mem_iff.mp ((ddp_mem hy).resolve_left (by simp)))
      exact List.mem_map.mpr ⟨z, hz', e⟩
    · intro hk
      obtain ⟨y, hy, rfl⟩ := List.mem_map.mp hk
      obtain ⟨z, hz', e⟩ := ddp_keys (key := key) hs [] y (hperm.mem_iff.mpr ((ddp_mem hy).resolve_left (by simp)))
      exact List.mem_map.mpr ⟨z, hz', e⟩
  refine f_cons ?_
  with_reducible refine w_let ?_
  intro _
  refine law_if12 (Dat := Dat) (key := key) G hroom hh hu sub12 (g12 _ _ nc2 c11) d12 hSs (by omega) (by omega) mo10 (g12 _ _ no o11) hoS (by omega) hrm hheap (fun H13 s13 => ?_)
  show WF _ _ _ _ _ _ _
  refine f_bs (fun hb13 _ => ?_)
  refine f_cons ?_
  with_reducible refine w_let ?_
  intro _
  refine law_ret (Dat := Dat) (key := key) G hroom hh hu (sub12.trans s13) hDlh lho (s13 _ _ (g12 _ _ nc1 c111)) (s13 _ _ (g12 _ _ np p11)) (s13 _ _ (g12 _ _ nc2 c11)) (s13 _ _ d12) np nr hS (by omega) hperm hheap mr10 (s13 _ _ (g12 _ _ nr r11)) (fun H14 g14 => ?_)
  refine h _ _ (g14 _ _ nP (s13 _ _ (g12 _ _ nP t11))) (fun a o e => g14 _ _ (by rintro rfl; rw [lho] at e; cases e) (hb13 a o e))
end
end
section
/-! ## the start: what the top has left -/
noncomputable def oAt (K : Frag) (a : Addr) : Obj := match K.lookup a with | some o => o | none => { cls := .none, data := .plain }
noncomputable def fAt (K : Frag) (a : Addr) : FuncData := match (oAt K a).data with | .func fd => fd | _ => fnOf "" "" (paramsOf (stm 0)) [] (scopeOf (stm 0)) .none .none .none .none none .none .none
structure FnIn (K : Frag) (x : Str) (f : Addr) (i : Nat) (dV kV : Value) : Prop where
  name : nsIn K mainGlobals x = some (some (.ref f))
  obj : K.lookup f = some ⟨(oAt K f).cls, (oAt K f).dict, .func (fnOf (fAt K f).name (fAt K f).qualname (paramsOf (stm i)) (bodyOf (stm i)) (scopeOf (stm i)) dV kV (fAt K f).doc (fAt K f).pyModule (fAt K f).annotations (fAt K f).code (fAt K f).closureTuple), (oAt K f).slots⟩
  code : codeIn K (fAt K f).code (fAt K f).qualname = true
theorem FnIn.at {c : Cx} {K : Frag} {x : Str} {f : Addr} {i : Nat} {dV kV : Value} (X : K.In c.s₁.heap) (h : FnIn K x f i dV kV) : FnAt c f i dV kV :=
  ⟨_, _, _, _, _, _, _, _, _, _, X _ _ h.obj, codeRec_of X h.code⟩
theorem FnIn.gf {c : Cx} {K : Frag} {x : Str} {f : Addr} {i : Nat} (X : K.In c.s₁.heap) (g : c.s₁.heap.Ns mainGlobals c.mg) (h : FnIn K x f i .none .none) : Gf c x i := ⟨f, mg_of X g h.name, h.at X⟩
/-- what the written part of the heap says of the text's names -/
structure KFacts (K : Frag) : Prop where
  heappop : FnIn K "heappop" 21 1 .none .none
  heapreplace : FnIn K "heapreplace" 28 2 .none .none
  heapify : FnIn K "heapify" 35 3 .none .none
  heapreplace_max : FnIn K "_heapreplace_max" 42 4 .none .none
  heapify_max : FnIn K "_heapify_max" 49 5 .none .none
  siftdown : FnIn K "_siftdown" 56 6 .none .none
  siftup : FnIn K "_siftup" 63 7 .none .none
  siftdown_max : FnIn K "_siftdown_max" 70 8 .none .none
  siftup_max : FnIn K "_siftup_max" 77 9 .none .none
  nsmallest : FnIn K "nsmallest" 83 10 (.ref 78) .none
  nlargest : FnIn K "nlargest" 89 11 (.ref 84) .none
  dflt1 : K.lookup 78 = some ⟨.type "tuple", none, .seq #[.none] 0, #[]⟩
  dflt2 : K.lookup 84 = some ⟨.type "tuple", none, .seq #[.none] 0, #[]⟩
  deduplicate : FnIn K "_deduplicate" 97 13 .none (.ref 90)
  kw : ∃ h t, K.lookup 90 = some { cls := .type "dict", dict := none, data := .dict #[{ hash := h, key := .str "unhashable_fallback" t, val := .bool false }] 1, slots := #[] }
  dedup : FnIn K "_deduplicate_unhashable" 104 14 .none .none
  orderless : FnIn K "_compare_args_orderless" 111 15 .none .none
  lsorted : FnIn K "_law_sorted" 116 17 .none .none
  lrefused : FnIn K "_law_refused" 123 18 .none .none
  lvery : FnIn K "_law_very" 128 19 .none .none
  noBuiltins : (["len", "reversed", "range", "iter", "object", "min", "max", "sorted", "zip", "list", "dict", "TypeError", "AttributeError", "ValueError"] : List Str).all (fun x => nsIn K mainGlobals x == some none) = true
section
variable {c : Cx} {K : Frag} {p : Program} {loose : List Str} {mean : ExcName → Option Value}
theorem gb_of {x : Str} {v : Value} (X : K.In c.s₁.heap) (T : PyProof.Rows.Top p loose mean c.mg c.mb c.s₁.heap) (k : KFacts K) (hx : x ∈ (["len", "reversed", "range", "iter", "object", "min", "max", "sorted", "zip", "list", "dict", "TypeError", "AttributeError", "ValueError"] : List Str)) (hn : x ≠ "__name__") (hb : bootBuiltins x = some v) : Gb c x v :=
  ⟨ns_none_of X T.g (beq_iff_eq.mp (List.all_eq_true.mp k.noBuiltins x hx)), (T.builtins x hn).trans hb⟩
theorem gf_of (X : K.In c.s₁.heap) (T : PyProof.Rows.Top p loose mean c.mg c.mb c.s₁.heap) (k : KFacts K) : GF c where
  ok := ⟨T.g, T.b, T.nolimit⟩
  siftdown := k.siftdown.gf X T.g
  siftup := k.siftup.gf X T.g
  siftdown_max := k.siftdown_max.gf X T.g
  siftup_max := k.siftup_max.gf X T.g
  heappop := k.heappop.gf X T.g
  heapreplace := k.heapreplace.gf X T.g
  heapify := k.heapify.gf X T.g
  heapreplace_max := k.heapreplace_max.gf X T.g
  heapify_max := k.heapify_max.gf X T.g
  dedup := k.dedup.gf X T.g
  orderless := k.orderless.gf X T.g
  lsorted := k.lsorted.gf X T.g
  lrefused := k.lrefused.gf X T.g
  lvery := k.lvery.gf X T.g
  len := gb_of X T k (by decide +kernel) (by decide +kernel) (by rfl)
  reversed := gb_of X T k (by decide +kernel) (by decide +kernel) (by rfl)
  range := gb_of X T k (by decide +kernel) (by decide +kernel) (by rfl)
  iter := gb_of X T k (by decide +kernel) (by decide +kernel) (by rfl)
  object := gb_of X T k (by decide +kernel) (by decide +kernel) (by rfl)
  min := gb_of X T k (by decide +kernel) (by decide +kernel) (by rfl)
  max := gb_of X T k (by decide +kernel) (by decide +kernel) (by rfl)
  sorted := gb_of X T k (by decide +kernel) (by decide +kernel) (by rfl)
  zip := gb_of X T k (by decide +kernel) (by decide +kernel) (by rfl)
  list := gb_of X T k (by decide +kernel) (by decide +kernel) (by rfl)
  dict := gb_of X T k (by decide +kernel) (by decide +kernel) (by rfl)
  typeError := gb_of X T k (by decide +kernel) (by decide +kernel) (by rfl)
  attributeError := gb_of X T k (by decide +kernel) (by decide +kernel) (by rfl)
  valueError := gb_of X T k (by decide +kernel) (by decide +kernel) (by rfl)
noncomputable def kwObj (h : Int) (t : Tok) : Obj := { cls := .type "dict", dict := none, data := .dict #[{ hash := h, key := .str "unhashable_fallback" t, val := .bool false }] 1, slots := #[] }
theorem bindD_of {h : Int} {t : Tok} (X : K.In c.s₁.heap) (kw : K.lookup 90 = some (kwObj h t)) : BindD c (.ref 90) := by
  intro l s hk nm qual doc pm an cdv ct
  refine kp_binds (K := [(90, kwObj h t)]) (fun a o e => ?_) fun S => by rfl
  rw [List.lookup_cons] at e
  split at e
  · rename_i hb
    cases e
    rw [beq_iff_eq.mp hb]
    exact hk _ _ (X _ _ kw)
  · cases e
/-- the heap ahead of the call, told -/
noncomputable def H0 (c : Cx) (P L : Addr) : HM := fun a => match c.s₁.heap.get? a with
  | some o => some (fun x => x = o)
  | none => if a = P then some (tabU 0) else if a = L + 1 then some (isCell none) else if a = L + 2 then some (isCell none) else none
theorem H0_none {c : Cx} {P L a : Addr} (h : c.s₁.heap.get? a = none) : H0 c P L a = if a = P then some (tabU 0) else if a = L + 1 then some (isCell none) else if a = L + 2 then some (isCell none) else none := by
  unfold H0; rw [h]
theorem H0_inv {P L : Addr} {o1 o2 : Obj} {s : Shared} (hk : ∀ b o, c.s₁.heap.get? b = some o → s.heap.get? b = some o) (hP : s.heap.get? P = some (tabObj #[])) (h1 : s.heap.get? (L + 1) = some o1) (h2 : s.heap.get? (L + 2) = some o2)
    (d1 : o1.data = .cell none) (d2 : o2.data = .cell none) (hf : s = { c.s₁ with heap := s.heap, toks := s.toks }) : Inv c (H0 c P L) s := by
  refine ⟨fun a Pr e => ?_, fun a o e => by unfold H0; rw [e], hf⟩
  cases hg : c.s₁.heap.get? a with
  | some o => unfold H0 at e; rw [hg] at e; cases e; exact ⟨o, hk _ _ hg, rfl⟩
  | none =>
    rw [H0_none hg] at e
    by_cases ha : a = P
    · subst ha; rw [if_pos rfl] at e; cases e; exact ⟨_, hP, #[], rfl, trivial, fun _ _ => rfl⟩
    · rw [if_neg ha] at e
      by_cases hb : a = L + 1
      · subst hb; rw [if_pos rfl] at e; cases e; exact ⟨_, h1, d1⟩
      · rw [if_neg hb] at e
        by_cases hc : a = L + 2
        · subst hc; rw [if_pos rfl] at e; cases e; exact ⟨_, h2, d2⟩
        · rw [if_neg hc] at e; cases e
end
end
section
theorem law_top {prog : Program} {K : Frag} {w : World} {s₁ : Shared} {h₁ : Heap} {tk : Nat} {mg mb m : Loc} {l fa : Addr} {xs : List Value} {zs : List Int} {o1 o2 : Obj} {p : Program} {loose : List Str} {mean mean' : ExcName → Option Value} {cw : ClaimW} {cl : Str → Option Addr} {args : List WData} {E : Value → Shared → Prop}
    (X : K.In (ghostOf s₁.heap [(132, 130)])) (k : KFacts K) (T : PyProof.Rows.Top p loose mean mg mb (ghostOf s₁.heap [(132, 130)]))
    (F : Fr (ghostOf s₁.heap [(132, 130)]) s₁.heap.objs.size h₁ m) (N : News (ghostOf s₁.heap [(132, 130)]) s₁.heap.objs.size h₁ [(s₁.heap.objs.size + 1 + 1, o2), (s₁.heap.objs.size + 1, o1), (130, tabObj #[])])
    (hm : m "script" = some (.ref l)) (hl : (ghostOf s₁.heap [(132, 130)]).IsList l xs.toArray) (hc : CodeHd (ghostOf s₁.heap [(132, 130)]) 132 130) (hI : IntsAre xs zs) (hz : ¬ (63 : Int) < (zs.length : Int)) (hg : s₁.gens = #[])
    (d2 : o2.data = .cell none) (d1 : o1.data = .cell none) (hb : 130 < s₁.heap.objs.size) (hnr : ∀ cls, cw.raises args cls = false) (hp : cw.post args (.bool true) args = true) :
    wpAny (model prog w) (callerA.deeper (envC 20 "law" (.ref 132) fa s₁.heap.objs.size)) (execs (bodyOf (stm 20)) (envC 20 "law" (.ref 132) fa s₁.heap.objs.size))
      (fun f s' => GoodW cw cl mean' args { s₁ with heap := ghostOf s₁.heap [(132, 130)] } (.ok (.ret (match f with | .ret v => v | _ => .none))) s' ∧ GrownAll [(132, 130)] s'.heap) E { s₁ with heap := h₁, toks := tk } := by
  have X0 := X
  have hL : (ghostOf s₁.heap [(132, 130)]).get? s₁.heap.objs.size = none := ghost_fresh (by
    cases e : s₁.heap.get? s₁.heap.objs.size with
    | none => rfl
    | some o => exact absurd (Heap.lt_size e) (Nat.lt_irrefl _))
  have hP : (ghostOf s₁.heap [(132, 130)]).get? 130 = none := (N _ (.tail _ (.tail _ (.head _)))).2.2
  generalize hgh : ghostOf s₁.heap [(132, 130)] = gh at *
  have G : GF (⟨prog, w, { s₁ with heap := gh }, mg, mb⟩ : Cx) := gf_of X T k
  obtain ⟨kh, kt, kw⟩ := k.kw
  have hB : BindD (⟨prog, w, { s₁ with heap := gh }, mg, mb⟩ : Cx) (.ref 90) := bindD_of (K := K) X kw
  have LB : LawBase (⟨prog, w, { s₁ with heap := gh }, mg, mb⟩ : Cx) 132 130 := ⟨hc, hP, by
    obtain ⟨bm, ob, e1, e2, e3, e4, e5, e6⟩ := T.bmain
    refine ⟨bm, ob, e1, e2, ?_, ?_, e3, e4, e5, e6⟩
    · rintro rfl
      obtain ⟨og, es, ep, g1, g2, _⟩ := T.g
      rw [e3] at g1; cases g1; rw [e6] at g2; cases g2
    · rintro rfl
      rw [hP] at e3; cases e3⟩
  have I : Inv (⟨prog, w, { s₁ with heap := gh }, mg, mb⟩ : Cx) (H0 ⟨prog, w, { s₁ with heap := gh }, mg, mb⟩ 130 s₁.heap.objs.size) { s₁ with heap := h₁, toks := tk } :=
    H0_inv F.keep (N _ (.tail _ (.tail _ (.head _)))).1 (N _ (.tail _ (.head _))).1 (N _ (.head _)).1 d1 d2 rfl
  have n1 : gh.get? (s₁.heap.objs.size + 1) = none := (N _ (.tail _ (.head _))).2.2
  have n2 : gh.get? (s₁.heap.objs.size + 2) = none := (N _ (.head _)).2.2
  have hxl := IntsAre.length hI
  have a1 : ¬ @Eq Nat (s₁.heap.objs.size + 1) 130 := by omega
  have a2 : ¬ @Eq Nat (s₁.heap.objs.size + 2) 130 := by omega
  have a3 : ¬ @Eq Nat (s₁.heap.objs.size + 2) (s₁.heap.objs.size + 1) := by omega
  have a4 : ¬ @Eq Nat s₁.heap.objs.size 130 := by omega
  have a5 : ¬ @Eq Nat s₁.heap.objs.size (s₁.heap.objs.size + 1) := by omega
  have a6 : ¬ @Eq Nat s₁.heap.objs.size (s₁.heap.objs.size + 2) := by omega
  have q := law_body (c := ⟨prog, w, { s₁ with heap := gh }, mg, mb⟩) (A := callerA.deeper (envC 20 "law" (.ref 132) fa s₁.heap.objs.size)) (H := H0 ⟨prog, w, { s₁ with heap := gh }, mg, mb⟩ 130 s₁.heap.objs.size) (L := s₁.heap.objs.size) (P := 130) (m := m) (q := "law") (fa := fa) (l := l) (cd := 132) (fd := 97) (fn := 83) (fg := 89) (T := 78) (T' := 84) (kV := .ref 90) (xs := xs) (zs := zs)
    (Q := fun fl H' _ => fl = .ret (.bool true) ∧ H' 130 = some (tabU 222)) G LB (mg_of X T.g k.deduplicate.name) (k.deduplicate.at X) hB (mg_of X T.g k.nsmallest.name) (k.nsmallest.at X) ⟨_, _, X _ _ k.dflt1, rfl⟩
    (mg_of X T.g k.nlargest.name) (k.nlargest.at X) ⟨_, _, X _ _ k.dflt2, rfl⟩ rfl hL (Nat.le_of_ble_eq_true rfl) rfl (Nat.le_of_ble_eq_true rfl)
    (by rw [H0_none n1, if_neg a1, if_pos rfl]) (by rw [H0_none n2, if_neg a2, if_neg a3, if_pos rfl]) (by rw [H0_none hP, if_pos rfl]) hm
    (fun H' s' _ I' => let ⟨o, a, r⟩ := hl; ⟨o, I'.keeps _ _ a, r⟩) hI (by omega) (fun H' m' hh _ => ⟨rfl, hh⟩)
  refine wpAny_mono (q _ I ?_ F.ns) (fun fl s' h => ?_) fun _ _ e => e.elim
  · rw [H0_none hL, if_neg a4, if_neg a5, if_neg a6]
  · obtain ⟨H', m', I', hL', hn', rfl, hT⟩ := h
    have hfit := I'.fit
    refine ⟨goodW_bool (L := s₁.heap.objs.size) (m := m') ⟨hn', I'.keeps, F.above⟩ ?_ hnr hp ?_, ?_, trivial⟩
    · rw [hfit]; exact hg
    · rw [hfit]
    · obtain ⟨o, ho, ps, rfl, _⟩ := I'.rep _ _ hT
      exact ⟨ps, ho⟩
end
section
/-- a def as the top has left it -/
noncomputable def fnO (i : Nat) (name : Str) (dV kV pm cd : Value) : Obj := { cls := .type "function", dict := none, data := .func (fnOf name name (paramsOf (stm i)) (bodyOf (stm i)) (scopeOf (stm i)) dV kV .none pm none cd .none), slots := #[] }
/-- the part of the top's heap that the calls read -/
noncomputable def gK : Params → Frag := fun P =>
  ((nat_lit 3 : Nat), { cls := Value.type "dict", data := Data.dict #[{ hash := PyData.keyHash P (Str.ofString "__name__"), key := Value.str (Str.ofString "__name__") 165, val := Value.str (Str.ofString "law_mq0318_01") 328 }, { hash := PyData.keyHash P (Str.ofString "__doc__"), key := Value.str (Str.ofString "__doc__") 166, val := Value.none }, { hash := PyData.keyHash P (Str.ofString "__package__"), key := Value.str (Str.ofString "__package__") 167, val := Value.none }, { hash := PyData.keyHash P (Str.ofString "__loader__"), key := Value.str (Str.ofString "__loader__") 168, val := Value.builtin "__main__.__loader__#opaque" }, { hash := PyData.keyHash P (Str.ofString "__spec__"), key := Value.str (Str.ofString "__spec__") 169, val := Value.none }, { hash := PyData.keyHash P (Str.ofString "__annotations__"), key := Value.str (Str.ofString "__annotations__") 170, val := Value.ref 6 }, { hash := PyData.keyHash P (Str.ofString "__builtins__"), key := Value.str (Str.ofString "__builtins__") 171, val := Value.ref 4 }, { hash := PyData.keyHash P (Str.ofString "__file__"), key := Value.str (Str.ofString "__file__") 173, val := Value.str (Str.ofString "/claim/cut.py") 172 }, { hash := PyData.keyHash P (Str.ofString "__cached__"), key := Value.str (Str.ofString "__cached__") 174, val := Value.none }, { hash := PyData.keyHash P (Str.ofString "heappop"), key := Value.str (Str.ofString "heappop") 197, val := Value.ref 21 }, { hash := PyData.keyHash P (Str.ofString "heapreplace"), key := Value.str (Str.ofString "heapreplace") 206, val := Value.ref 28 }, { hash := PyData.keyHash P (Str.ofString "heapify"), key := Value.str (Str.ofString "heapify") 215, val := Value.ref 35 }, { hash := PyData.keyHash P (Str.ofString "_heapreplace_max"), key := Value.str (Str.ofString "_heapreplace_max") 224, val := Value.ref 42 }, { hash := PyData.keyHash P (Str.ofString "_heapify_max"), key := Value.str (Str.ofString "_heapify_max") 233, val := Value.ref 49 }, { hash := PyData.keyHash P (Str.ofString "_siftdown"), key := Value.str (Str.ofString "_siftdown") 245, val := Value.ref 56 }, { hash := PyData.keyHash P (Str.ofString "_siftup"), key := Value.str (Str.ofString "_siftup") 258, val := Value.ref 63 }, { hash := PyData.keyHash P (Str.ofString "_siftdown_max"), key := Value.str (Str.ofString "_siftdown_max") 270, val := Value.ref 70 }, { hash := PyData.keyHash P (Str.ofString "_siftup_max"), key := Value.str (Str.ofString "_siftup_max") 283, val := Value.ref 77 }, { hash := PyData.keyHash P (Str.ofString "nsmallest"), key := Value.str (Str.ofString "nsmallest") 289, val := Value.ref 83 }, { hash := PyData.keyHash P (Str.ofString "nlargest"), key := Value.str (Str.ofString "nlargest") 295, val := Value.ref 89 }, { hash := PyData.keyHash P (Str.ofString "_deduplicate"), key := Value.str (Str.ofString "_deduplicate") 306, val := Value.ref 97 }, { hash := PyData.keyHash P (Str.ofString "_deduplicate_unhashable"), key := Value.str (Str.ofString "_deduplicate_unhashable") 315, val := Value.ref 104 }, { hash := PyData.keyHash P (Str.ofString "_compare_args_orderless"), key := Value.str (Str.ofString "_compare_args_orderless") 327, val := Value.ref 111 }, { hash := PyData.keyHash P (Str.ofString "_law_sorted"), key := Value.str (Str.ofString "_law_sorted") 335, val := Value.ref 116 }, { hash := PyData.keyHash P (Str.ofString "_law_refused"), key := Value.str (Str.ofString "_law_refused") 342, val := Value.ref 123 }, { hash := PyData.keyHash P (Str.ofString "_law_very"), key := Value.str (Str.ofString "_law_very") 348, val := Value.ref 128 }, { hash := PyData.keyHash P (Str.ofString "law"), key := Value.str (Str.ofString "law") 354, val := Value.ref 133 }] 27 }) ::
  ((nat_lit 20 : Nat), { cls := Value.type "code", data := Data.fields #[Value.str (Str.ofString "heappop") 189, Value.str (Str.ofString "heappop") 190, Value.str (Str.ofString "/claim/cut.py") 191, Value.int 2 0, Value.int 1 0, Value.int 0 0, Value.int 0 0, Value.int 3 0, Value.ref 15, Value.bool true, Value.int 181 0, Value.ref 16, Value.none, Value.ref 17, Value.ref 18, Value.ref 19, Value.int 195 0, Value.int 2 0, Value.str (Str.ofString "/claim/cut.py") 196] }) ::
  ((nat_lit 21 : Nat), fnO 1 (Str.ofString "heappop") (Value.none) (Value.none) (Value.str (Str.ofString "cpy313.heapq") 187) (Value.ref 20)) ::
  ((nat_lit 27 : Nat), { cls := Value.type "code", data := Data.fields #[Value.str (Str.ofString "heapreplace") 198, Value.str (Str.ofString "heapreplace") 199, Value.str (Str.ofString "/claim/cut.py") 200, Value.int 10 0, Value.int 2 0, Value.int 0 0, Value.int 0 0, Value.int 3 0, Value.ref 22, Value.bool true, Value.int 181 0, Value.ref 23, Value.none, Value.ref 24, Value.ref 25, Value.ref 26, Value.int 204 0, Value.int 10 0, Value.str (Str.ofString "/claim/cut.py") 205] }) ::
  ((nat_lit 28 : Nat), fnO 2 (Str.ofString "heapreplace") (Value.none) (Value.none) (Value.str (Str.ofString "cpy313.heapq") 187) (Value.ref 27)) ::
  ((nat_lit 34 : Nat), { cls := Value.type "code", data := Data.fields #[Value.str (Str.ofString "heapify") 207, Value.str (Str.ofString "heapify") 208, Value.str (Str.ofString "/claim/cut.py") 209, Value.int 15 0, Value.int 1 0, Value.int 0 0, Value.int 0 0, Value.int 3 0, Value.ref 29, Value.bool true, Value.int 181 0, Value.ref 30, Value.none, Value.ref 31, Value.ref 32, Value.ref 33, Value.int 213 0, Value.int 15 0, Value.str (Str.ofString "/claim/cut.py") 214] }) ::
  ((nat_lit 35 : Nat), fnO 3 (Str.ofString "heapify") (Value.none) (Value.none) (Value.str (Str.ofString "cpy313.heapq") 187) (Value.ref 34)) ::
  ((nat_lit 41 : Nat), { cls := Value.type "code", data := Data.fields #[Value.str (Str.ofString "_heapreplace_max") 216, Value.str (Str.ofString "_heapreplace_max") 217, Value.str (Str.ofString "/claim/cut.py") 218, Value.int 19 0, Value.int 2 0, Value.int 0 0, Value.int 0 0, Value.int 3 0, Value.ref 36, Value.bool true, Value.int 181 0, Value.ref 37, Value.none, Value.ref 38, Value.ref 39, Value.ref 40, Value.int 222 0, Value.int 19 0, Value.str (Str.ofString "/claim/cut.py") 223] }) ::
  ((nat_lit 42 : Nat), fnO 4 (Str.ofString "_heapreplace_max") (Value.none) (Value.none) (Value.str (Str.ofString "cpy313.heapq") 187) (Value.ref 41)) ::
  ((nat_lit 48 : Nat), { cls := Value.type "code", data := Data.fields #[Value.str (Str.ofString "_heapify_max") 225, Value.str (Str.ofString "_heapify_max") 226, Value.str (Str.ofString "/claim/cut.py") 227, Value.int 24 0, Value.int 1 0, Value.int 0 0, Value.int 0 0, Value.int 3 0, Value.ref 43, Value.bool true, Value.int 181 0, Value.ref 44, Value.none, Value.ref 45, Value.ref 46, Value.ref 47, Value.int 231 0, Value.int 24 0, Value.str (Str.ofString "/claim/cut.py") 232] }) ::
  ((nat_lit 49 : Nat), fnO 5 (Str.ofString "_heapify_max") (Value.none) (Value.none) (Value.str (Str.ofString "cpy313.heapq") 187) (Value.ref 48)) ::
  ((nat_lit 55 : Nat), { cls := Value.type "code", data := Data.fields #[Value.str (Str.ofString "_siftdown") 234, Value.str (Str.ofString "_siftdown") 235, Value.str (Str.ofString "/claim/cut.py") 236, Value.int 28 0, Value.int 3 0, Value.int 0 0, Value.int 0 0, Value.int 3 0, Value.ref 50, Value.bool true, Value.int 181 0, Value.ref 51, Value.none, Value.ref 52, Value.ref 53, Value.ref 54, Value.int 243 0, Value.int 28 0, Value.str (Str.ofString "/claim/cut.py") 244] }) ::
  ((nat_lit 56 : Nat), fnO 6 (Str.ofString "_siftdown") (Value.none) (Value.none) (Value.str (Str.ofString "cpy313.heapq") 187) (Value.ref 55)) ::
  ((nat_lit 62 : Nat), { cls := Value.type "code", data := Data.fields #[Value.str (Str.ofString "_siftup") 246, Value.str (Str.ofString "_siftup") 247, Value.str (Str.ofString "/claim/cut.py") 248, Value.int 39 0, Value.int 2 0, Value.int 0 0, Value.int 0 0, Value.int 3 0, Value.ref 57, Value.bool true, Value.int 181 0, Value.ref 58, Value.none, Value.ref 59, Value.ref 60, Value.ref 61, Value.int 256 0, Value.int 39 0, Value.str (Str.ofString "/claim/cut.py") 257] }) ::
  ((nat_lit 63 : Nat), fnO 7 (Str.ofString "_siftup") (Value.none) (Value.none) (Value.str (Str.ofString "cpy313.heapq") 187) (Value.ref 62)) ::
  ((nat_lit 69 : Nat), { cls := Value.type "code", data := Data.fields #[Value.str (Str.ofString "_siftdown_max") 259, Value.str (Str.ofString "_siftdown_max") 260, Value.str (Str.ofString "/claim/cut.py") 261, Value.int 53 0, Value.int 3 0, Value.int 0 0, Value.int 0 0, Value.int 3 0, Value.ref 64, Value.bool true, Value.int 181 0, Value.ref 65, Value.none, Value.ref 66, Value.ref 67, Value.ref 68, Value.int 268 0, Value.int 53 0, Value.str (Str.ofString "/claim/cut.py") 269] }) ::
  ((nat_lit 70 : Nat), fnO 8 (Str.ofString "_siftdown_max") (Value.none) (Value.none) (Value.str (Str.ofString "cpy313.heapq") 187) (Value.ref 69)) ::
  ((nat_lit 76 : Nat), { cls := Value.type "code", data := Data.fields #[Value.str (Str.ofString "_siftup_max") 271, Value.str (Str.ofString "_siftup_max") 272, Value.str (Str.ofString "/claim/cut.py") 273, Value.int 64 0, Value.int 2 0, Value.int 0 0, Value.int 0 0, Value.int 3 0, Value.ref 71, Value.bool true, Value.int 181 0, Value.ref 72, Value.none, Value.ref 73, Value.ref 74, Value.ref 75, Value.int 281 0, Value.int 64 0, Value.str (Str.ofString "/claim/cut.py") 282] }) ::
  ((nat_lit 77 : Nat), fnO 9 (Str.ofString "_siftup_max") (Value.none) (Value.none) (Value.str (Str.ofString "cpy313.heapq") 187) (Value.ref 76)) ::
  ((nat_lit 78 : Nat), { cls := Value.type "tuple", data := Data.seq #[Value.none] }) ::
  ((nat_lit 82 : Nat), { cls := Value.type "code", data := Data.fields #[Value.str (Str.ofString "nsmallest") 284, Value.str (Str.ofString "nsmallest") 285, Value.str (Str.ofString "/claim/cut.py") 286, Value.int 78 0, Value.int 3 0, Value.int 0 0, Value.int 0 0, Value.int 3 0, Value.ref 79, Value.bool true, Value.int 181 0, Value.ref 80, Value.none, Value.none, Value.none, Value.ref 81, Value.int 287 0, Value.int 78 0, Value.str (Str.ofString "/claim/cut.py") 288] }) ::
  ((nat_lit 83 : Nat), fnO 10 (Str.ofString "nsmallest") (Value.ref 78) (Value.none) (Value.str (Str.ofString "cpy313.heapq") 187) (Value.ref 82)) ::
  ((nat_lit 84 : Nat), { cls := Value.type "tuple", data := Data.seq #[Value.none] }) ::
  ((nat_lit 88 : Nat), { cls := Value.type "code", data := Data.fields #[Value.str (Str.ofString "nlargest") 290, Value.str (Str.ofString "nlargest") 291, Value.str (Str.ofString "/claim/cut.py") 292, Value.int 123 0, Value.int 3 0, Value.int 0 0, Value.int 0 0, Value.int 3 0, Value.ref 85, Value.bool true, Value.int 181 0, Value.ref 86, Value.none, Value.none, Value.none, Value.ref 87, Value.int 293 0, Value.int 123 0, Value.str (Str.ofString "/claim/cut.py") 294] }) ::
  ((nat_lit 89 : Nat), fnO 11 (Str.ofString "nlargest") (Value.ref 84) (Value.none) (Value.str (Str.ofString "cpy313.heapq") 187) (Value.ref 88)) ::
  ((nat_lit 90 : Nat), { cls := Value.type "dict", data := Data.dict #[{ hash := PyData.keyHash P (Str.ofString "unhashable_fallback"), key := Value.str (Str.ofString "unhashable_fallback") 298, val := Value.bool false }] 1 }) ::
  ((nat_lit 96 : Nat), { cls := Value.type "code", data := Data.fields #[Value.str (Str.ofString "_deduplicate") 299, Value.str (Str.ofString "_deduplicate") 300, Value.str (Str.ofString "/claim/cut.py") 301, Value.int 169 0, Value.int 1 0, Value.int 0 0, Value.int 1 0, Value.int 3 0, Value.ref 91, Value.bool true, Value.int 181 0, Value.ref 92, Value.none, Value.ref 93, Value.ref 94, Value.ref 95, Value.int 304 0, Value.int 169 0, Value.str (Str.ofString "/claim/cut.py") 305] }) ::
  ((nat_lit 97 : Nat), fnO 13 (Str.ofString "_deduplicate") (Value.none) (Value.ref 90) (Value.str (Str.ofString "cpy313.typing") 296) (Value.ref 96)) ::
  ((nat_lit 103 : Nat), { cls := Value.type "code", data := Data.fields #[Value.str (Str.ofString "_deduplicate_unhashable") 307, Value.str (Str.ofString "_deduplicate_unhashable") 308, Value.str (Str.ofString "/claim/cut.py") 309, Value.int 176 0, Value.int 1 0, Value.int 0 0, Value.int 0 0, Value.int 3 0, Value.ref 98, Value.bool true, Value.int 181 0, Value.ref 99, Value.none, Value.ref 100, Value.ref 101, Value.ref 102, Value.int 313 0, Value.int 176 0, Value.str (Str.ofString "/claim/cut.py") 314] }) ::
  ((nat_lit 104 : Nat), fnO 14 (Str.ofString "_deduplicate_unhashable") (Value.none) (Value.none) (Value.str (Str.ofString "cpy313.typing") 296) (Value.ref 103)) ::
  ((nat_lit 110 : Nat), { cls := Value.type "code", data := Data.fields #[Value.str (Str.ofString "_compare_args_orderless") 316, Value.str (Str.ofString "_compare_args_orderless") 317, Value.str (Str.ofString "/claim/cut.py") 318, Value.int 182 0, Value.int 2 0, Value.int 0 0, Value.int 0 0, Value.int 3 0, Value.ref 105, Value.bool true, Value.int 181 0, Value.ref 106, Value.none, Value.ref 107, Value.ref 108, Value.ref 109, Value.int 325 0, Value.int 182 0, Value.str (Str.ofString "/claim/cut.py") 326] }) ::
  ((nat_lit 111 : Nat), fnO 15 (Str.ofString "_compare_args_orderless") (Value.none) (Value.none) (Value.str (Str.ofString "cpy313.typing") 296) (Value.ref 110)) ::
  ((nat_lit 115 : Nat), { cls := Value.type "code", data := Data.fields #[Value.str (Str.ofString "_law_sorted") 330, Value.str (Str.ofString "_law_sorted") 331, Value.str (Str.ofString "/claim/cut.py") 332, Value.int 193 0, Value.int 2 0, Value.int 0 0, Value.int 0 0, Value.int 3 0, Value.ref 112, Value.bool true, Value.int 181 0, Value.ref 113, Value.none, Value.none, Value.none, Value.ref 114, Value.int 333 0, Value.int 193 0, Value.str (Str.ofString "/claim/cut.py") 334] }) ::
  ((nat_lit 116 : Nat), fnO 17 (Str.ofString "_law_sorted") (Value.none) (Value.none) (Value.str (Str.ofString "law_mq0318_01") 328) (Value.ref 115)) ::
  ((nat_lit 122 : Nat), { cls := Value.type "code", data := Data.fields #[Value.str (Str.ofString "_law_refused") 336, Value.str (Str.ofString "_law_refused") 337, Value.str (Str.ofString "/claim/cut.py") 338, Value.int 199 0, Value.int 1 0, Value.int 0 0, Value.int 0 0, Value.int 3 0, Value.ref 117, Value.bool true, Value.int 181 0, Value.ref 118, Value.none, Value.ref 119, Value.ref 120, Value.ref 121, Value.int 340 0, Value.int 199 0, Value.str (Str.ofString "/claim/cut.py") 341] }) ::
  ((nat_lit 123 : Nat), fnO 18 (Str.ofString "_law_refused") (Value.none) (Value.none) (Value.str (Str.ofString "law_mq0318_01") 328) (Value.ref 122)) ::
  ((nat_lit 127 : Nat), { cls := Value.type "code", data := Data.fields #[Value.str (Str.ofString "_law_very") 343, Value.str (Str.ofString "_law_very") 344, Value.str (Str.ofString "/claim/cut.py") 345, Value.int 205 0, Value.int 2 0, Value.int 0 0, Value.int 0 0, Value.int 3 0, Value.ref 124, Value.bool true, Value.int 181 0, Value.ref 125, Value.none, Value.none, Value.none, Value.ref 126, Value.int 346 0, Value.int 205 0, Value.str (Str.ofString "/claim/cut.py") 347] }) ::
  ((nat_lit 128 : Nat), fnO 19 (Str.ofString "_law_very") (Value.none) (Value.none) (Value.str (Str.ofString "law_mq0318_01") 328) (Value.ref 127)) ::
  ((nat_lit 132 : Nat), { cls := Value.type "code", data := Data.fields #[Value.str (Str.ofString "law") 349, Value.str (Str.ofString "law") 350, Value.str (Str.ofString "/claim/cut.py") 351, Value.int 207 0, Value.int 1 0, Value.int 0 0, Value.int 0 0, Value.int 3 0, Value.ref 129, Value.bool true, Value.int 181 0, Value.ref 130, Value.none, Value.none, Value.none, Value.ref 131, Value.int 352 0, Value.int 207 0, Value.str (Str.ofString "/claim/cut.py") 353] }) ::
  ((nat_lit 133 : Nat), fnO 20 (Str.ofString "law") (Value.none) (Value.none) (Value.str (Str.ofString "law_mq0318_01") 328) (Value.ref 132)) :: []
noncomputable def gAs : List Addr := [3, 20, 21, 27, 28, 34, 35, 41, 42, 48, 49, 55, 56, 62, 63, 69, 70, 76, 77, 78, 82, 83, 84, 88, 89, 90, 96, 97, 103, 104, 110, 111, 115, 116, 122, 123, 127, 128, 132, 133]
noncomputable def gView : Program := { PySem.Challenge.pw_mq0318_01 with main := { PySem.Challenge.pw_mq0318_01.main with body := [stm 1, stm 2, stm 3, stm 4, stm 5, stm 6, stm 7, stm 8, stm 9, stm 14, stm 15, stm 17, stm 18, stm 19, stm 20] } }
noncomputable def gLoose : List Str := [Str.ofString "nsmallest", Str.ofString "nlargest", Str.ofString "_deduplicate"]
theorem gAs_eq (P : Params) : gAs = (gK P).map (·.1) := by kernel_rfl
theorem gLeft : LeftO PySem.Challenge.rw_mq0318_01.row.prog gView gLoose (fun s => xlAt gView [] s && recOk (RowW.records (OpenRow.toRowW PySem.Challenge.rw_mq0318_01.row)) s) (Hook.obs (kmHook gK gAs gAs_eq [130])) (Hook.val (kmHook gK gAs gAs_eq [130])) 1288 := fun w => by kernel_rfl
theorem gSaid : PySem.Challenge.rw_mq0318_01.wellSaid = true := by
  unfold OpenLaw.wellSaid OpenRow.wellSaid OpenRow.partSaid looksOpen
  repeat' with_reducible refine look_both ?_ ?_
  all_goals decide +kernel
theorem gFacts (P : Params) : KFacts (gK P) where
  heappop := ⟨by rfl, by rfl, by rfl⟩
  heapreplace := ⟨by rfl, by rfl, by rfl⟩
  heapify := ⟨by rfl, by rfl, by rfl⟩
  heapreplace_max := ⟨by rfl, by rfl, by rfl⟩
  heapify_max := ⟨by rfl, by rfl, by rfl⟩
  siftdown := ⟨by rfl, by rfl, by rfl⟩
  siftup := ⟨by rfl, by rfl, by rfl⟩
  siftdown_max := ⟨by rfl, by rfl, by rfl⟩
  siftup_max := ⟨by rfl, by rfl, by rfl⟩
  nsmallest := ⟨by rfl, by rfl, by rfl⟩
  nlargest := ⟨by rfl, by rfl, by rfl⟩
  dflt1 := by rfl
  dflt2 := by rfl
  deduplicate := ⟨by rfl, by rfl, by rfl⟩
  kw := ⟨_, _, by rfl⟩
  dedup := ⟨by rfl, by rfl, by rfl⟩
  orderless := ⟨by rfl, by rfl, by rfl⟩
  lsorted := ⟨by rfl, by rfl, by rfl⟩
  lrefused := ⟨by rfl, by rfl, by rfl⟩
  lvery := ⟨by rfl, by rfl, by rfl⟩
  noBuiltins := by rfl
end
end Mine
set_option maxRecDepth 100000 in
set_option maxHeartbeats 8000000 in
theorem PySem.Challenge.cw_mq0318_01_holds : PySem.Challenge.rw_mq0318_01.Holds := by
  w_on
  refine holds_law Mine.gSaid fun said => ?_
  refine holds_open (q := Mine.gView) (loose := Mine.gLoose) (XP := XL Mine.gView []) (YP := Hook.says (kmHook Mine.gK Mine.gAs Mine.gAs_eq [130])) Mine.gLeft
    (Hook.of (kmHook Mine.gK Mine.gAs Mine.gAs_eq [130])) (Hook.keeps (kmHook Mine.gK Mine.gAs Mine.gAs_eq [130])) (fun s e => xl_of s (Bool.and_eq_true_iff.mp e).1) XL.keeps (by rfl) (by rfl) (by rfl)
    (fun s e => recFacts_of (Bool.and_eq_true_iff.mp e).2) (by rfl) (by assumption) (by decide +kernel) ⟨rfl, rfl, rfl, rfl, rfl, by decide +kernel⟩ ?hw ?hc
  case hw => w_witness2
  case hc =>
    w_strict k_go0
    exact Mine.law_top (K := Mine.gK _) (by assumption) (Mine.gFacts _) (by assumption) (by assumption) (by assumption) rfl (by assumption) (by assumption) (by assumption) (by assumption) (by assumption) (by assumption) (by assumption) (by assumption) (fun _ => rfl) (by wrow_post)
