import PyProof.Rows.All
import Wide.All
import OpenK.AllK
import Wide.FinOn
import PyProof.Rows.StrInSeq3
import PySem.Challenge.RW_ik0035_01
set_option Elab.async false

/-! part B1 -/
section
open PySem PySem.W PyProof.Rows
set_option Elab.async false
namespace IK

/-! ## the counter of tokens and the heap's size never fall -/
noncomputable def Late (s s' : Shared) : Prop := s.toks ≤ s'.toks ∧ s.heap.objs.size ≤ s'.heap.objs.size
theorem Late.refl (s : Shared) : Late s s := ⟨Nat.le_refl _, Nat.le_refl _⟩
theorem Late.trans {a b c : Shared} (x : Late a b) (y : Late b c) : Late a c := ⟨Nat.le_trans x.1 y.1, Nat.le_trans x.2 y.2⟩

theorem runs_late {M : Model} {Γ : Ctx} {p : Pos} {t : Sem Fin} {fs : List Frame} {s s' : Shared} {e : End} (h : Runs M Γ p t fs s e s') : Late s s' := by
  induction h with
  | done | raise | yield => exact Late.refl _
  | again _ _ ih | rule _ ih | «at» _ ih | load _ _ ih | loadIfAlive _ ih | point _ ih | ask _ ih | choose _ _ ih | os _ ih | handled _ ih | genState _ _ ih | stack _ ih
  | thread _ ih | newGen _ ih | callSusp _ ih | resumeJustStarted _ _ _ ih | resumeThrowFresh _ _ ih | resumeRunning _ _ ih | resumeFinished _ _ ih | segSuspOut _ _ ih => exact ih
  | update _ _ ih => exact ⟨ih.1, Nat.le_trans (Nat.le_of_eq (Heap.size_after_update _ _ _).symm) ih.2⟩
  | alloc _ ih => exact ⟨ih.1, Nat.le_trans (by rw [Heap.size_push]; exact Nat.le_succ _) ih.2⟩
  | fresh _ ih => exact ⟨Nat.le_trans (Nat.le_succ _) ih.1, ih.2⟩
  | call _ _ i1 i2 => exact i1.trans i2
  | resumeFresh _ _ _ _ i1 i2 => exact Late.trans (b := _) i1 i2
  | resumeSuspended _ _ _ _ i1 i2 => exact Late.trans (b := _) i1 i2
  | segRet _ _ i1 i2 => exact i1.trans i2
  | segGen _ _ i1 i2 => exact Late.trans (b := _) i1 i2
  | segSuspGen _ _ _ _ i1 i2 => exact Late.trans (b := _) i1 i2

theorem wakes_late {M : Model} {Γ : Ctx} {p : Pos} {g : Nat} {r : Resume} {s s' : Shared} {res : GenResult} (h : Wakes M Γ p g r s res s') : Late s s' := by
  unfold Wakes at h
  split at h
  · exact h.elim
  · split at h
    · obtain ⟨_, _, h1, _, _, rfl⟩ := h; have q := runs_late h1; exact q
    · obtain ⟨_, rfl⟩ := h; exact Late.refl _
    · obtain ⟨_, rfl⟩ := h; exact Late.refl s
  · obtain ⟨_, _, h1, _, _, rfl⟩ := h; have q := runs_late h1; exact q
  · obtain ⟨_, rfl⟩ := h; exact Late.refl _
  · obtain ⟨_, rfl⟩ := h; exact Late.refl _

theorem wpCode_late {M : Model} {Γ : Ctx} {R : Result → Shared → Prop} {p : Pos} {s : Shared} (h : wpCode M Γ (fun r s' => Late s s' → R r s') p s) : wpCode M Γ R p s := by
  obtain ⟨r, s', h1, h2⟩ := h
  exact ⟨r, s', h1, h2 (runs_late h1)⟩

theorem wp_late {α : Type} (M : Model) (Γ : Ctx) (t : Sem α) (Q : α → Pos → Shared → Prop) (E : Value → Pos → Shared → Prop) (s₀ : Shared) :
    ∀ (p : Pos) (s : Shared), Late s₀ s → Sem.wp M Γ t (fun a p s' => Late s₀ s' → Q a p s') (fun e p s' => Late s₀ s' → E e p s') p s → Sem.wp M Γ t Q E p s := by
  induction t with
  | pure a => intro p s l h; exact h l
  | raise e => intro p s l h; exact h l
  | unsupported | finish | yield | fork | await | register => intro p s l h; exact h
  | rule tag k ih | «at» p' k ih | loadIfAlive a k ih | point l k ih | ask k ih | os q l k ih | handled own k ih | newGen c k ih | stack k ih | thread k ih =>
    intro p s l h
    rw [Sem.wp] at h ⊢
    exact ih _ _ _ l h
  | load a part k ih => intro p s l h; rw [Sem.wp] at h ⊢; obtain ⟨o, ho, h⟩ := h; exact ⟨o, ho, ih _ _ _ l h⟩
  | update a part f k ih => intro p s l h; rw [Sem.wp] at h ⊢; exact ⟨h.1, ih _ _ _ ⟨l.1, Nat.le_trans l.2 (Nat.le_of_eq (Heap.size_after_update _ _ _).symm)⟩ h.2⟩
  | alloc o k ih => intro p s l h; rw [Sem.wp] at h ⊢; exact ih _ _ _ ⟨l.1, Nat.le_trans l.2 (by rw [Heap.size_push]; exact Nat.le_succ _)⟩ h
  | fresh k ih => intro p s l h; rw [Sem.wp] at h ⊢; exact ih _ _ _ ⟨Nat.le_trans l.1 (Nat.le_succ _), l.2⟩ h
  | choose src n k ih => intro p s l h; rw [Sem.wp] at h ⊢; exact ⟨h.1, ih _ _ _ l h.2⟩
  | call c hd g lv k ih =>
    intro p s l h
    rw [Sem.wp] at h ⊢
    obtain ⟨r, s', h1, h2⟩ := h
    exact ⟨r, s', h1, ih _ _ _ (l.trans (runs_late h1)) h2⟩
  | genState g k ih => intro p s l h; rw [Sem.wp] at h ⊢; obtain ⟨o, ho, h⟩ := h; exact ⟨o, ho, ih _ _ _ l h⟩
  | resume g r lv k ih =>
    intro p s l h
    rw [Sem.wp] at h ⊢
    obtain ⟨res, s', h1, h2⟩ := h
    exact ⟨res, s', h1, ih _ _ _ (l.trans (wakes_late h1)) h2⟩

theorem any_late {α : Type} {M : Model} {A : Around} {t : Sem α} {Q : α → Shared → Prop} {E : Value → Shared → Prop} {s : Shared}
    (h : wpAny M A t (fun a s' => Late s s' → Q a s') (fun e s' => Late s s' → E e s') s) : wpAny M A t Q E s :=
  fun Γ p hΓ => wp_late M Γ t _ _ s p s (Late.refl s) (h Γ p hΓ)

end IK
end

/-! part B2 -/
section
open PySem PySem.W PyProof.Rows
set_option Elab.async false
set_option linter.unusedVariables false
namespace IK

noncomputable abbrev pg : Program := PySem.Challenge.pw_ik0035_01
noncomputable abbrev T (l : List Nat) : Str := ⟨l.toArray⟩

/-! ## data and how a heap bears them -/
inductive D where
  | none | bool (b : Bool) | int (i : Int) | str (l : List Nat) | ref (a : Addr) | typ (n : String) | bi (n : String)
  | tup (l : List D) | lst (l : List D)

noncomputable abbrev Pm := Addr → Option Obj
noncomputable def TO (o : Obj) (vs : List Value) : Prop := ∃ n, o = { cls := .type "tuple", data := .seq vs.toArray n }
noncomputable def LO (o : Obj) (vs : List Value) : Prop := ∃ n, o = { cls := .type "list", data := .seq vs.toArray n }

mutual
noncomputable def Rep (P : Pm) : D → Value → Prop
  | .none, v => v = .none
  | .bool b, v => v = .bool b
  | .int i, v => ∃ t, v = .int i t
  | .str l, v => ∃ t, v = .str (T l) t
  | .ref a, v => v = .ref a
  | .typ n, v => v = .type n
  | .bi n, v => v = .builtin n
  | .tup ds, v => ∃ a o vs, v = .ref a ∧ P a = some o ∧ TO o vs ∧ RepL P ds vs
  | .lst ds, v => ∃ a o vs, v = .ref a ∧ P a = some o ∧ LO o vs ∧ RepL P ds vs
noncomputable def RepL (P : Pm) : List D → List Value → Prop
  | [], vs => vs = []
  | d :: ds, vs => ∃ v r, vs = v :: r ∧ Rep P d v ∧ RepL P ds r
end

mutual
theorem Rep.mono {P P' : Pm} (h : ∀ b o, P b = some o → P' b = some o) : ∀ {d : D} {v : Value}, Rep P d v → Rep P' d v
  | .none, _, x => x
  | .bool _, _, x => x
  | .int _, _, x => x
  | .str _, _, x => x
  | .ref _, _, x => x
  | .typ _, _, x => x
  | .bi _, _, x => x
  | .tup _, _, ⟨a, o, vs, e, p, t, r⟩ => ⟨a, o, vs, e, h _ _ p, t, RepL.mono h r⟩
  | .lst _, _, ⟨a, o, vs, e, p, t, r⟩ => ⟨a, o, vs, e, h _ _ p, t, RepL.mono h r⟩
theorem RepL.mono {P P' : Pm} (h : ∀ b o, P b = some o → P' b = some o) : ∀ {ds : List D} {vs : List Value}, RepL P ds vs → RepL P' ds vs
  | [], _, x => x
  | _ :: _, _, ⟨v, r, e, a, b⟩ => ⟨v, r, e, Rep.mono h a, RepL.mono h b⟩
end

theorem RepL.nil {P : Pm} : RepL P [] [] := rfl
theorem RepL.cons {P : Pm} {d ds v vs} (a : Rep P d v) (b : RepL P ds vs) : RepL P (d :: ds) (v :: vs) := ⟨v, vs, rfl, a, b⟩
theorem RepL.length {P : Pm} : ∀ {ds : List D} {vs : List Value}, RepL P ds vs → vs.length = ds.length
  | [], _, x => by cases x; rfl
  | _ :: _, _, ⟨_, _, e, _, b⟩ => by subst e; simp [RepL.length b]
theorem RepL.get {P : Pm} : ∀ {ds : List D} {vs : List Value} {i : Nat} {d : D}, RepL P ds vs → ds[i]? = some d → ∃ v, vs[i]? = some v ∧ Rep P d v
  | [], _, _, _, _, h => by simp at h
  | _ :: _, _, 0, _, ⟨v, _, e, a, _⟩, h => by subst e; simp at h; subst h; exact ⟨v, rfl, a⟩
  | _ :: _, _, i + 1, _, ⟨_, _, e, _, b⟩, h => by subst e; simp at h; simpa using RepL.get b h
theorem RepL.get' {P : Pm} : ∀ {ds : List D} {vs : List Value} {i : Nat} {v : Value}, RepL P ds vs → vs[i]? = some v → ∃ d, ds[i]? = some d ∧ Rep P d v := by
  intro ds vs i v h e
  have hl := h.length
  have hi : i < ds.length := by rw [← hl]; exact (List.getElem?_eq_some_iff.mp e).1
  obtain ⟨v', e', r⟩ := h.get (List.getElem?_eq_getElem hi)
  rw [e] at e'; cases e'
  exact ⟨_, List.getElem?_eq_getElem hi, r⟩
theorem RepL.append {P : Pm} : ∀ {ds : List D} {vs : List Value} {ds' vs'}, RepL P ds vs → RepL P ds' vs' → RepL P (ds ++ ds') (vs ++ vs')
  | [], _, _, _, h, h' => by cases h; exact h'
  | _ :: _, _, _, _, ⟨v, r, e, a, b⟩, h' => by subst e; exact ⟨v, _, rfl, a, RepL.append b h'⟩
theorem RepL.snoc {P : Pm} {ds : List D} {vs : List Value} {d v} (h : RepL P ds vs) (a : Rep P d v) : RepL P (ds ++ [d]) (vs ++ [v]) := h.append (.cons a .nil)
theorem RepL.take {P : Pm} : ∀ {ds : List D} {vs : List Value} (n : Nat), RepL P ds vs → RepL P (ds.take n) (vs.take n)
  | _, _, 0, _ => by simp [RepL]
  | [], _, _ + 1, h => by cases h; exact RepL.nil
  | _ :: _, _, n + 1, ⟨v, r, e, a, b⟩ => by subst e; exact ⟨v, _, rfl, a, RepL.take n b⟩
theorem RepL.drop {P : Pm} : ∀ {ds : List D} {vs : List Value} (n : Nat), RepL P ds vs → RepL P (ds.drop n) (vs.drop n)
  | _, _, 0, h => by simpa using h
  | [], _, _ + 1, h => by cases h; exact RepL.nil
  | _ :: _, _, n + 1, ⟨v, r, e, a, b⟩ => by subst e; simpa using RepL.drop n b
theorem RepL.reverse {P : Pm} : ∀ {ds : List D} {vs : List Value}, RepL P ds vs → RepL P ds.reverse vs.reverse
  | [], _, h => by cases h; exact RepL.nil
  | d :: _, _, ⟨v, r, e, a, b⟩ => by subst e; simp only [List.reverse_cons]; exact (RepL.reverse b).snoc a

/-! ## growth -/
structure Gr (h : Heap) (P : Pm) (h' : Heap) (P' : Pm) : Prop where
  up : ∀ b o, h.get? b = some o → h'.get? b = some o
  ext : ∀ b o, P b = some o → P' b = some o
  new : ∀ b o, P' b = some o → P b = some o ∨ h.objs.size ≤ b
  snd : ∀ b o, P' b = some o → h'.get? b = some o
  sz : h.objs.size ≤ h'.objs.size

noncomputable abbrev Snd (P : Pm) (h : Heap) : Prop := ∀ b o, P b = some o → h.get? b = some o
theorem Gr.refl {h : Heap} {P : Pm} (s : Snd P h) : Gr h P h P := ⟨fun _ _ e => e, fun _ _ e => e, fun _ _ e => .inl e, s, Nat.le_refl _⟩
theorem Gr.trans {h h' h'' : Heap} {P P' P'' : Pm} (x : Gr h P h' P') (y : Gr h' P' h'' P'') : Gr h P h'' P'' :=
  ⟨fun b o e => y.up b o (x.up b o e), fun b o e => y.ext b o (x.ext b o e),
   fun b o e => (y.new b o e).elim (x.new b o) fun l => .inr (Nat.le_trans x.sz l), y.snd, Nat.le_trans x.sz y.sz⟩
theorem Gr.refl' {h h' : Heap} {P P' : Pm} (x : Gr h P h' P') : Gr h' P' h' P' := .refl x.snd
/-- the heap alone grows -/
theorem Gr.same {h h' : Heap} {P : Pm} (s : Snd P h) (up : ∀ b o, h.get? b = some o → h'.get? b = some o) (sz : h.objs.size ≤ h'.objs.size) : Gr h P h' P :=
  ⟨up, fun _ _ e => e, fun _ _ e => .inl e, fun b o e => up b o (s b o e), sz⟩
theorem Gr.push {h : Heap} {P : Pm} (s : Snd P h) (o : Obj) : Gr h P (h.push o) P :=
  .same s (fun _ _ e => Heap.get?_push_of_some _ e) (by rw [Heap.size_push]; exact Nat.le_succ _)
noncomputable def Pm.put (P : Pm) (a : Addr) (o : Obj) : Pm := fun b => if b = a then some o else P b
/-- a new object that will not be changed any more -/
theorem Gr.frz {h h' : Heap} {P : Pm} {a : Addr} {o : Obj} (s : Snd P h) (up : ∀ b o, h.get? b = some o → h'.get? b = some o) (sz : h.objs.size ≤ h'.objs.size)
    (ha : h.objs.size ≤ a) (ho : h'.get? a = some o) : Gr h P h' (P.put a o) := by
  refine ⟨up, fun b o' e => ?_, fun b o' e => ?_, fun b o' e => ?_, sz⟩
  · have : b ≠ a := fun q => by subst q; exact absurd (Heap.lt_size (s _ _ e)) (Nat.not_lt.mpr ha)
    unfold Pm.put; rw [if_neg this]; exact e
  · unfold Pm.put at e
    split at e
    · rename_i q; subst q; exact .inr ha
    · exact .inl e
  · unfold Pm.put at e
    split at e
    · rename_i q; subst q; rw [ho]; exact e
    · exact up b o' (s b o' e)
theorem Pm.put_self (P : Pm) (a : Addr) (o : Obj) : P.put a o a = some o := by unfold Pm.put; rw [if_pos rfl]
theorem Gr.pushFrz {h : Heap} {P : Pm} (s : Snd P h) (o : Obj) (hf : o.isFreed = false) : Gr h P (h.push o) (P.put h.objs.size o) :=
  .frz s (fun _ _ e => Heap.get?_push_of_some _ e) (by rw [Heap.size_push]; exact Nat.le_succ _) (Nat.le_refl _) (Heap.get?_push_size _ hf)

/-! ## trees that only make the heap grow -/
noncomputable def stt (s0 : Shared) (h : Heap) (t : Nat) : Shared := { s0 with heap := h, toks := t }

noncomputable def Go {α : Type} (w : World) (s0 : Shared) (A : Around) (h : Heap) (P : Pm) (m : Sem α) (R : α → Heap → Pm → Prop) : Prop :=
  ∀ h₁ P₁ t, 1 ≤ t → Gr h P h₁ P₁ → ∀ (Q : α → Shared → Prop) (E : Value → Shared → Prop),
    (∀ v h₂ P₂ t₂, 1 ≤ t₂ → Gr h₁ P₁ h₂ P₂ → R v h₂ P₂ → Q v (stt s0 h₂ t₂)) → wpAny (model pg w) A m Q E (stt s0 h₁ t)

section
variable {α β : Type} {w : World} {s0 : Shared} {A : Around} {h h' : Heap} {P P' : Pm} {m : Sem α} {R R' : α → Heap → Pm → Prop}

theorem Go.mk (H : ∀ h₁ P₁ t, 1 ≤ t → Gr h P h₁ P₁ → ∀ (Q : α → Shared → Prop) (E : Value → Shared → Prop),
    (∀ v h₂ P₂ t₂, (h₁.objs.size ≤ h₂.objs.size → Gr h₁ P₁ h₂ P₂) → (h₁.objs.size ≤ h₂.objs.size → R v h₂ P₂) → Q v (stt s0 h₂ t₂)) → wpAny (model pg w) A m Q E (stt s0 h₁ t)) : Go w s0 A h P m R :=
  fun h₁ P₁ t ht g Q E k => any_late (H h₁ P₁ t ht g (fun v s' => Late (stt s0 h₁ t) s' → Q v s') (fun e s' => Late (stt s0 h₁ t) s' → E e s')
    fun v h₂ P₂ t₂ g' r l => k v h₂ P₂ t₂ (Nat.le_trans ht l.1) (g' l.2) (r l.2))

theorem Go.mono (x : Go w s0 A h P m R) (g : Gr h P h' P') : Go w s0 A h' P' m R := fun h₁ P₁ t ht g' => x h₁ P₁ t ht (g.trans g')
theorem Go.weak (x : Go w s0 A h P m R) (k : ∀ v h₁ P₁, Gr h P h₁ P₁ → R v h₁ P₁ → R' v h₁ P₁) : Go w s0 A h P m R' :=
  fun h₁ P₁ t ht g Q E q => x h₁ P₁ t ht g Q E fun v h₂ P₂ t₂ ht₂ g₂ r => q v h₂ P₂ t₂ ht₂ g₂ (k v h₂ P₂ (g.trans g₂) r)
theorem Go.bind {f : α → Sem β} {R₂ : β → Heap → Pm → Prop} (x : Go w s0 A h P m R) (k : ∀ v h₁ P₁, Gr h P h₁ P₁ → R v h₁ P₁ → Go w s0 A h₁ P₁ (f v) R₂) :
    Go w s0 A h P (m >>= f) R₂ := fun h₁ P₁ t ht g Q E q => wpAny_bind (x h₁ P₁ t ht g _ E fun v h₂ P₂ t₂ ht₂ g₂ r =>
      k v h₂ P₂ (g.trans g₂) r h₂ P₂ t₂ ht₂ (.refl g₂.snd) Q E fun v' h₃ P₃ t₃ ht₃ g₃ r' => q v' h₃ P₃ t₃ ht₃ (g₂.trans g₃) r')
theorem Go.pure {a : α} (r : ∀ h₁ P₁, Gr h P h₁ P₁ → R a h₁ P₁) : Go w s0 A h P (pure a) R :=
  fun h₁ P₁ t ht g _ _ q => wpAny_pure (q a h₁ P₁ t ht (.refl g.snd) (r h₁ P₁ g))
/-- a rule of the library, taken over -/
theorem Go.via {m' : Sem β} {R₂ : β → Heap → Pm → Prop} (x : Go w s0 A h P m R)
    (k : ∀ h₁ P₁ t (Q : β → Shared → Prop) (E : Value → Shared → Prop), 1 ≤ t → Gr h P h₁ P₁ → wpAny (model pg w) A m (fun v s' => ∃ h₂ P₂ t₂, s' = stt s0 h₂ t₂ ∧ 1 ≤ t₂ ∧ Gr h₁ P₁ h₂ P₂ ∧ R v h₂ P₂ ∧
      (∀ v' h₃ P₃ t₃, 1 ≤ t₃ → Gr h₂ P₂ h₃ P₃ → R₂ v' h₃ P₃ → Q v' (stt s0 h₃ t₃))) E (stt s0 h₁ t) → wpAny (model pg w) A m' Q E (stt s0 h₁ t)) : Go w s0 A h P m' R₂ :=
  fun h₁ P₁ t ht g Q E q => k h₁ P₁ t Q E ht g (x h₁ P₁ t ht g _ E fun v h₂ P₂ t₂ ht₂ g₂ r =>
    ⟨h₂, P₂, t₂, rfl, ht₂, g₂, r, fun v' h₃ P₃ t₃ ht₃ g₃ r' => q v' h₃ P₃ t₃ ht₃ (g₂.trans g₃) r'⟩)
theorem Go.holding {vs : List Value} (x : Go w s0 A h P m R) : Go w s0 A h P (holding vs m) R :=
  fun h₁ P₁ t ht g Q E q => wpAny_holding (x h₁ P₁ t ht g Q E q)
theorem Go.keep {vs : List Value} (x : Go w s0 A h P m R) : Go w s0 A h P (m.keep vs) R :=
  fun h₁ P₁ t ht g Q E q => Calls.wpAny_keep (x h₁ P₁ t ht g Q E q)
theorem Go.standAt {pos : Pos} : Go w s0 A h P (standAt pos) (fun _ _ _ => True) := fun h₁ P₁ t ht g _ _ q => wpAny_standAt (q _ h₁ P₁ t ht (.refl g.snd) trivial)
theorem Go.point : Go w s0 A h P point (fun _ _ _ => True) := fun h₁ P₁ t ht g _ _ q => wpAny_point (q _ h₁ P₁ t ht (.refl g.snd) trivial)
theorem Go.rule {s : String} : Go w s0 A h P (rule s) (fun _ _ _ => True) := fun h₁ P₁ t ht g _ _ q => wpAny_rule (q _ h₁ P₁ t ht (.refl g.snd) trivial)
end

end IK
end

/-! part B3 -/
section
open PySem PySem.W PyProof.Rows
set_option Elab.async false
set_option linter.unusedVariables false
namespace IK

/-- what the top has laid: the heap at the call, its two tables of names -/
structure Sta where
  hb : Heap
  mg : Str → Option Value
  mb : Str → Option Value
  g : hb.Ns mainGlobals mg
  b : hb.Ns builtinsNs mb
  lim : hb.NoLimit

noncomputable def Rd (env : Env) (h : Heap) (x : Str) (v : Value) : Prop :=
  (env.kindOf x = some .local ∧ ∃ m, h.Ns env.locals m ∧ m x = some v) ∨
  ((env.kindOf x = some .cell ∨ env.kindOf x = some .free) ∧ ∃ c, env.cells.lookup x = some c ∧ h.IsCell c (some v))
theorem Rd.up {env : Env} {h h' : Heap} {x : Str} {v : Value} (r : Rd env h x v) (k : ∀ b o, h.get? b = some o → h'.get? b = some o) : Rd env h' x v :=
  r.elim (fun ⟨a, m, n, e⟩ => .inl ⟨a, m, n.keeps k, e⟩) fun ⟨a, c, e, n⟩ => .inr ⟨a, c, e, n.keeps k⟩

noncomputable abbrev Loc (env : Env) (h : Heap) (P : Pm) (ρ : List (Str × D)) : Prop := ∀ x d, ρ.lookup x = some d → ∃ v, Rep P d v ∧ Rd env h x v

structure In (S : Sta) (env : Env) (ρ : List (Str × D)) (h : Heap) (P : Pm) : Prop where
  loc : Loc env h P ρ
  base : ∀ b o, S.hb.get? b = some o → P b = some o
  snd : Snd P h
  fk : env.scope.kind = .function
  eg : env.globals = mainGlobals
  eb : env.builtins = builtinsNs

theorem In.gr {S : Sta} {env : Env} {ρ : List (Str × D)} {h h' : Heap} {P P' : Pm} (I : In S env ρ h P) (g : Gr h P h' P') : In S env ρ h' P' :=
  ⟨fun x d e => let ⟨v, r, k⟩ := I.loc x d e; ⟨v, r.mono g.ext, k.up g.up⟩, fun b o e => g.ext b o (I.base b o e), g.snd, I.fk, I.eg, I.eb⟩
theorem In.top {S : Sta} {env : Env} {ρ : List (Str × D)} {h : Heap} {P : Pm} (I : In S env ρ h P) : ∀ b o, S.hb.get? b = some o → h.get? b = some o := fun b o e => I.snd b o (I.base b o e)

noncomputable abbrev RepR (d : D) : Value → Heap → Pm → Prop := fun v _ P => Rep P d v
noncomputable abbrev RepRL (d : List D) : List Value → Heap → Pm → Prop := fun v _ P => RepL P d v
noncomputable abbrev BoolR (b : Bool) : Bool → Heap → Pm → Prop := fun v _ _ => v = b
noncomputable abbrev Ev (w : World) (s0 : Shared) (A : Around) (env : Env) (h : Heap) (P : Pm) (e : Expr) (d : D) : Prop := Go w s0 A h P (eval e env) (RepR d)
noncomputable abbrev EvL (w : World) (s0 : Shared) (A : Around) (env : Env) (h : Heap) (P : Pm) (pos : Pos) (es : List Expr) (ds : List D) : Prop := Go w s0 A h P (spliced (backTo pos (starEach es env))) (RepRL ds)
noncomputable abbrev Tst (w : World) (s0 : Shared) (A : Around) (env : Env) (h : Heap) (P : Pm) (e : Expr) (b : Bool) : Prop := Go w s0 A h P (isTrue e env (eval e env)) (BoolR b)
noncomputable abbrev notDbg (x : Str) : Prop := (x == ("__debug__" : Str)) = false

section
variable {w : World} {s0 : Shared} {A : Around} {S : Sta} {env : Env} {ρ : List (Str × D)} {h : Heap} {P : Pm} {d d' : D}

theorem Ev.cast {e : Expr} (x : Ev w s0 A env h P e d) (q : d = d') : Ev w s0 A env h P e d' := q ▸ x
theorem Tst.cast {e : Expr} {b b' : Bool} (x : Tst w s0 A env h P e b) (q : b = b') : Tst w s0 A env h P e b' := q ▸ x

theorem go_loadName {x : Str} (I : In S env ρ h P) (hx : ρ.lookup x = some d) (hc : notDbg x ∧ (x == ("__classdict__" : Str)) = false) : Go w s0 A h P (loadName env x) (RepR d) :=
  fun h₁ P₁ t ht g Q E k => by
    obtain ⟨v, r, q⟩ := (I.gr g).loc x d hx
    rcases q with ⟨a, m, n, e⟩ | ⟨a, c, e, n⟩
    · exact wpAny_loadName_local I.fk a n e (k v h₁ P₁ t ht (.refl g.snd) r)
    · rcases a with a | a
      · exact wpAny_loadName_cell I.fk a e n (k v h₁ P₁ t ht (.refl g.snd) r)
      · exact wpAny_loadName_free I.fk a e n (k v h₁ P₁ t ht (.refl g.snd) r) hc.2

theorem ev_name {x : Str} {pos : Pos} (I : In S env ρ h P) (hx : ρ.lookup x = some d) (hc : notDbg x ∧ (x == ("__classdict__" : Str)) = false) : Ev w s0 A env h P (.Name x pos) d :=
  fun h₁ P₁ t ht g Q E k => wpAny_Name (go_loadName I hx hc h₁ P₁ t ht g Q E k) hc.1

theorem ev_global {x : Str} {pos : Pos} {v : Value} (I : In S env ρ h P) (hk : env.kindOf x = some .globalImplicit) (hv : S.mg x = some v) (hr : ∀ P', Rep P' d v) (hd : notDbg x) :
    Ev w s0 A env h P (.Name x pos) d := fun h₁ P₁ t ht g Q E k =>
  Calls.Name_function_global I.fk hk (Calls.loadGlobal_global (I.eg ▸ S.g.keeps (I.gr g).top) hv (k v h₁ P₁ t ht (.refl g.snd) (hr _))) hd
theorem ev_builtin {x : Str} {pos : Pos} {v : Value} (I : In S env ρ h P) (hk : env.kindOf x = some .globalImplicit) (hm : S.mg x = none) (hv : S.mb x = some v) (hr : ∀ P', Rep P' d v) (hd : notDbg x) :
    Ev w s0 A env h P (.Name x pos) d := fun h₁ P₁ t ht g Q E k =>
  Calls.Name_function_global I.fk hk (Calls.loadGlobal_builtin (I.eg ▸ S.g.keeps (I.gr g).top) hm (I.eb ▸ S.b.keeps (I.gr g).top) hv (k v h₁ P₁ t ht (.refl g.snd) (hr _))) hd

theorem ev_int {i : Int} {k : Nat} {pos : Pos} : Ev w s0 A env h P (.Constant (.int i) k pos) (.int i) :=
  fun h₁ P₁ t _ g _ _ q => wpAny_Constant_int (q _ h₁ P₁ (t + 1) (Nat.succ_pos _) (.refl g.snd) ⟨_, rfl⟩)
theorem ev_str {x : Str} {k : Nat} {pos : Pos} : Ev w s0 A env h P (.Constant (.str x) k pos) (.str x.cps.toList) :=
  fun h₁ P₁ t _ g _ _ q => Calls.Constant_str (q _ h₁ P₁ (t + 1) (Nat.succ_pos _) (.refl g.snd) ⟨_, rfl⟩)
theorem ev_none {k : Nat} {pos : Pos} : Ev w s0 A env h P (.Constant .none k pos) .none :=
  fun h₁ P₁ t ht g _ _ q => wpAny_pure (q _ h₁ P₁ t ht (.refl g.snd) rfl)
theorem ev_bool {b : Bool} {k : Nat} {pos : Pos} : Ev w s0 A env h P (.Constant (.bool b) k pos) (.bool b) :=
  fun h₁ P₁ t ht g _ _ q => wpAny_pure (q _ h₁ P₁ t ht (.refl g.snd) rfl)

/-! operators: what they give on data -/
noncomputable abbrev Op2 (w : World) (s0 : Shared) (A : Around) (f : Value → Value → Sem Value) (d₁ d₂ d : D) : Prop :=
  ∀ (h : Heap) (P : Pm) v₁ v₂, Snd P h → Rep P d₁ v₁ → Rep P d₂ v₂ → Go w s0 A h P (f v₁ v₂) (RepR d)

theorem ev_bin {l r : Expr} {op : Operator} {pos : Pos} {d₁ d₂ : D} (hl : Ev w s0 A env h P l d₁) (hr : Ev w s0 A env h P r d₂) (ho : Op2 w s0 A (binaryOp op) d₁ d₂ d) :
    Ev w s0 A env h P (.BinOp l op r pos) d := fun h₁ P₁ t ht g Q E k =>
  wpAny_BinOp (hl h₁ P₁ t ht g _ E fun v₁ h₂ P₂ t₂ ht₂ g₂ r₁ => hr h₂ P₂ t₂ ht₂ (g.trans g₂) _ E fun v₂ h₃ P₃ t₃ ht₃ g₃ r₂ =>
    ho h₃ P₃ v₁ v₂ g₃.snd (r₁.mono g₃.ext) r₂ h₃ P₃ t₃ ht₃ (.refl g₃.snd) Q E fun v h₄ P₄ t₄ ht₄ g₄ r₄ => k v h₄ P₄ t₄ ht₄ (g₂.trans (g₃.trans g₄)) r₄)

theorem ev_cmp {l r : Expr} {op : CmpOp} {pos : Pos} {d₁ d₂ : D} (hl : Ev w s0 A env h P l d₁) (hr : Ev w s0 A env h P r d₂) (ho : Op2 w s0 A (compareOp op) d₁ d₂ d)
    (hm : behindInMarks op r = false) : Ev w s0 A env h P (.Compare l [op] [r] pos) d := fun h₁ P₁ t ht g Q E k =>
  wpAny_Compare1 (hl h₁ P₁ t ht g _ E fun v₁ h₂ P₂ t₂ ht₂ g₂ r₁ => hr h₂ P₂ t₂ ht₂ (g.trans g₂) _ E fun v₂ h₃ P₃ t₃ ht₃ g₃ r₂ =>
    ho h₃ P₃ v₁ v₂ g₃.snd (r₁.mono g₃.ext) r₂ h₃ P₃ t₃ ht₃ (.refl g₃.snd) Q E fun v h₄ P₄ t₄ ht₄ g₄ r₄ => k v h₄ P₄ t₄ ht₄ (g₂.trans (g₃.trans g₄)) r₄) hm

theorem tst_cmp {l r : Expr} {op : CmpOp} {pos : Pos} {d₁ d₂ : D} {b : Bool} (hl : Ev w s0 A env h P l d₁) (hr : Ev w s0 A env h P r d₂) (ho : Op2 w s0 A (compareOp op) d₁ d₂ (.bool b))
    (hm : behindInMarks op r = false) : Tst w s0 A env h P (.Compare l [op] [r] pos) b := fun h₁ P₁ t ht g Q E k =>
  wpAny_isTrue_Compare1 (hl h₁ P₁ t ht g _ E fun v₁ h₂ P₂ t₂ ht₂ g₂ r₁ => hr h₂ P₂ t₂ ht₂ (g.trans g₂) _ E fun v₂ h₃ P₃ t₃ ht₃ g₃ r₂ =>
    ho h₃ P₃ v₁ v₂ g₃.snd (r₁.mono g₃.ext) r₂ h₃ P₃ t₃ ht₃ (.refl g₃.snd) _ E fun v h₄ P₄ t₄ ht₄ g₄ r₄ => by
      cases r₄
      exact wpAny_truthy_bool (k b h₄ P₄ t₄ ht₄ (g₂.trans (g₃.trans g₄)) rfl)) hm

/-! truth of data -/
noncomputable abbrev Tru (w : World) (s0 : Shared) (A : Around) (d : D) (b : Bool) : Prop := ∀ (h : Heap) (P : Pm) v, Snd P h → Rep P d v → Go w s0 A h P (truthy v) (BoolR b)

theorem tst_plain {e : Expr} {b : Bool} (he : Ev w s0 A env h P e d) (ht : Tru w s0 A d b)
    (hp : ∀ whole, isTrue e env whole = (do let v ← whole; standAt e.pos; holding [v] (truthy v))) : Tst w s0 A env h P e b := by
  unfold Tst
  rw [hp]
  exact he.bind fun v h₁ P₁ g r => Go.standAt.bind fun _ h₂ P₂ g₂ _ => Go.holding (ht h₂ P₂ v g₂.snd (r.mono g₂.ext))
theorem tst_not {e : Expr} {pos : Pos} {b : Bool} (he : Tst w s0 A env h P e b) : Tst w s0 A env h P (.UnaryOp .Not e pos) (!b) := by
  show Go w s0 A h P (do return !(← isTrue e env (eval e env))) _
  exact he.bind fun v h₁ P₁ g r => Go.pure fun _ _ _ => by rw [r]
theorem tst_and {e f : Expr} {pos : Pos} {b c : Bool} (he : Tst w s0 A env h P e b) (hf : b = true → Tst w s0 A env h P f c) : Tst w s0 A env h P (.BoolOp .And [e, f] pos) (b && c) := by
  show Go w s0 A h P (isTrue e env (eval e env) >>= fun x => match BoolOp.And, x with | .And, false => pure false | .Or, true => pure true | _, _ => isTrue f env (eval f env) >>= fun y => match BoolOp.And, y with | .And, false => pure false | .Or, true => pure true | _, _ => pure true) _
  refine he.bind fun v h₁ P₁ g r => ?_
  subst r
  cases v with
  | false => exact Go.pure fun _ _ _ => rfl
  | true =>
    refine ((hf rfl).mono g).bind fun v h₂ P₂ g₂ r => ?_
    subst r
    cases v <;> exact Go.pure fun _ _ _ => rfl
theorem tst_or {e f : Expr} {pos : Pos} {b c : Bool} (he : Tst w s0 A env h P e b) (hf : b = false → Tst w s0 A env h P f c) : Tst w s0 A env h P (.BoolOp .Or [e, f] pos) (b || c) := by
  show Go w s0 A h P (isTrue e env (eval e env) >>= fun x => match BoolOp.Or, x with | .And, false => pure false | .Or, true => pure true | _, _ => isTrue f env (eval f env) >>= fun y => match BoolOp.Or, y with | .And, false => pure false | .Or, true => pure true | _, _ => pure false) _
  refine he.bind fun v h₁ P₁ g r => ?_
  subst r
  cases v with
  | true => exact Go.pure fun _ _ _ => rfl
  | false =>
    refine ((hf rfl).mono g).bind fun v h₂ P₂ g₂ r => ?_
    subst r
    cases v <;> exact Go.pure fun _ _ _ => rfl
theorem tst_or3 {e f e3 : Expr} {pos : Pos} {b c a : Bool} (he : Tst w s0 A env h P e b) (hf : b = false → Tst w s0 A env h P f c) (h3 : b = false → c = false → Tst w s0 A env h P e3 a) :
    Tst w s0 A env h P (.BoolOp .Or [e, f, e3] pos) (b || (c || a)) := by
  show Go w s0 A h P (isTrue e env (eval e env) >>= fun x => match BoolOp.Or, x with | .And, false => pure false | .Or, true => pure true | _, _ => isTrue f env (eval f env) >>= fun y => match BoolOp.Or, y with | .And, false => pure false | .Or, true => pure true | _, _ => isTrue e3 env (eval e3 env) >>= fun y => match BoolOp.Or, y with | .And, false => pure false | .Or, true => pure true | _, _ => pure false) _
  refine he.bind fun v h₁ P₁ g r => ?_
  subst r
  cases v with
  | true => exact Go.pure fun _ _ _ => rfl
  | false =>
    refine ((hf rfl).mono g).bind fun v h₂ P₂ g₂ r => ?_
    subst r
    cases v with
    | true => exact Go.pure fun _ _ _ => rfl
    | false =>
      refine ((h3 rfl rfl).mono (g.trans g₂)).bind fun v h₂ P₂ g₂ r => ?_
      subst r
      cases v <;> exact Go.pure fun _ _ _ => rfl
theorem ev_ifexp {t e f : Expr} {pos : Pos} {b : Bool} (ht : Tst w s0 A env h P t b) (he : b = true → Ev w s0 A env h P e d) (hf : b = false → Ev w s0 A env h P f d) : Ev w s0 A env h P (.IfExp t e f pos) d := by
  show Go w s0 A h P (isTrue t env (eval t env) >>= fun x => if x = true then eval e env else eval f env) _
  refine ht.bind fun v h₁ P₁ g r => ?_
  subst r
  cases v with
  | true => rw [if_pos rfl]; exact (he rfl).mono g
  | false => rw [if_neg (by simp)]; exact (hf rfl).mono g
theorem ev_neg {e : Expr} {pos : Pos} {i : Int} (he : Ev w s0 A env h P e (.int i)) : Ev w s0 A env h P (.UnaryOp .USub e pos) (.int (-i)) := by
  show Go w s0 A h P (eval e env >>= fun v => standAt pos >>= fun _ => holding [v] (unaryOp .USub v)) _
  refine he.bind fun v h₁ P₁ g r => Go.standAt.bind fun _ h₂ P₂ g₂ _ => Go.holding fun h₁ P₁ t ht g _ _ q => ?_
  obtain ⟨u, rfl⟩ := r
  exact PySem.P.neg_int (q _ h₁ P₁ (t + 1) (Nat.succ_pos _) (.refl g.snd) ⟨_, rfl⟩)

/-! lists of arguments -/
theorem evl_nil {pos : Pos} : EvL w s0 A env h P pos [] [] := fun h₁ P₁ t ht g _ _ q => Calls.spliced_nil (q [] h₁ P₁ t ht (.refl g.snd) rfl)
theorem evl_cons {pos : Pos} {e : Expr} {es : List Expr} {ds : List D} (he : Ev w s0 A env h P e d) (hr : EvL w s0 A env h P pos es ds) (hs : starEach (e :: es) env = (false, eval e env) :: starEach es env) :
    EvL w s0 A env h P pos (e :: es) (d :: ds) := by
  unfold EvL
  rw [hs]
  show Go w s0 A h P (spliced ((false, eval e env) :: backTo pos (starEach es env))) _
  exact fun h₁ P₁ t ht g Q E k => Calls.spliced_cons (he h₁ P₁ t ht g _ E fun v h₂ P₂ t₂ ht₂ g₂ r => hr h₂ P₂ t₂ ht₂ (g.trans g₂) _ E fun vs h₃ P₃ t₃ ht₃ g₃ r₃ =>
    k (v :: vs) h₃ P₃ t₃ ht₃ (g₂.trans g₃) (.cons (r.mono g₃.ext) r₃))

theorem go_newTuple {ds : List D} {vs : List Value} (hs : Snd P h) (r : RepL P ds vs) (hz : ds.length ≤ sizeLine) : Go w s0 A h P (newTuple vs) (RepR (.tup ds)) :=
  fun h₁ P₁ t ht g _ _ q => wpAny_newObj_type (q _ _ _ t ht (.pushFrz g.snd _ rfl) ⟨_, _, vs, rfl, Pm.put_self .., ⟨_, rfl⟩, (r.mono g.ext).mono (Gr.pushFrz g.snd _ rfl).ext⟩)
    (by show vs.toArray.size ≤ sizeLine; rw [List.size_toArray, r.length]; exact hz)
theorem go_newList {ds : List D} {vs : List Value} (hs : Snd P h) (r : RepL P ds vs) (hz : ds.length ≤ sizeLine) : Go w s0 A h P (newList vs) (RepR (.lst ds)) :=
  fun h₁ P₁ t ht g _ _ q => wpAny_newObj_type (q _ _ _ t ht (.pushFrz g.snd _ rfl) ⟨_, _, vs, rfl, Pm.put_self .., ⟨_, rfl⟩, (r.mono g.ext).mono (Gr.pushFrz g.snd _ rfl).ext⟩)
    (by show vs.toArray.size ≤ sizeLine; rw [List.size_toArray, r.length]; exact hz)
theorem ev_tuple {es : List Expr} {k : Nat} {pos : Pos} {ds : List D} (he : EvL w s0 A env h P pos es ds) (hz : ds.length ≤ sizeLine) : Ev w s0 A env h P (.Tuple es k pos) (.tup ds) := by
  show Go w s0 A h P (do standAt pos; newTuple (← spliced (backTo pos (starEach es env)))) _
  exact Go.standAt.bind fun _ _ _ g _ => (he.mono g).bind fun vs _ _ g₂ r => go_newTuple g₂.snd r hz
theorem ev_list {es : List Expr} {pos : Pos} {ds : List D} (he : EvL w s0 A env h P pos es ds) (hz : ds.length ≤ sizeLine) : Ev w s0 A env h P (.List es pos) (.lst ds) := by
  show Go w s0 A h P (do standAt pos; newList (← spliced (backTo pos (starEach es env)))) _
  exact Go.standAt.bind fun _ _ _ g _ => (he.mono g).bind fun vs _ _ g₂ r => go_newList g₂.snd r hz
end

end IK
end

/-! part B4 -/
section
open PySem PySem.W PyProof.Rows
set_option Elab.async false
set_option linter.unusedVariables false
namespace IK

/-- a cut of a list, as Python clamps it -/
noncomputable def psl {α : Type} (l : List α) (a b : Option Int) : List α := (l.drop (a.elim 0 (clipAt l.length))).take (b.elim l.length (clipAt l.length) - a.elim 0 (clipAt l.length))
theorem psl_le {α : Type} (l : List α) (a b : Option Int) : (psl l a b).length ≤ l.length := by
  unfold psl; rw [List.length_take, List.length_drop]; omega
theorem psl_from {α : Type} (l : List α) (a : Nat) : psl l (some (a : Int)) none = l.drop a := by
  unfold psl
  simp only [Option.elim, clipAt_nat]
  rw [List.take_of_length_le (by rw [List.length_drop]; exact Nat.le_refl _)]
  rcases Nat.le_total a l.length with h | h
  · rw [Nat.min_eq_left h]
  · rw [Nat.min_eq_right h, List.drop_of_length_le (Nat.le_refl _), List.drop_of_length_le h]
theorem psl_upto {α : Type} (l : List α) (b : Nat) : psl l none (some (b : Int)) = l.take b := by
  unfold psl
  simp only [Option.elim, clipAt_nat, List.drop_zero, Nat.sub_zero]
  rcases Nat.le_total b l.length with h | h
  · rw [Nat.min_eq_left h]
  · rw [Nat.min_eq_right h, List.take_of_length_le (Nat.le_refl _), List.take_of_length_le h]
theorem psl_mid {α : Type} (l : List α) (a b : Nat) (hb : b ≤ l.length) (hab : a ≤ b) : psl l (some (a : Int)) (some (b : Int)) = (l.drop a).take (b - a) := by
  unfold psl
  simp only [Option.elim, clipAt_nat]
  rw [Nat.min_eq_left hb, Nat.min_eq_left (Nat.le_trans hab hb)]
theorem psl_butLast {α : Type} (l : List α) (k : Nat) (hk : 1 ≤ k) : psl l none (some (-(k : Int))) = l.take (l.length - k) := by
  unfold psl
  simp only [Option.elim, clipAt_neg _ _ hk, List.drop_zero, Nat.sub_zero]
theorem psl_last {α : Type} (l : List α) (k : Nat) (hk : 1 ≤ k) : psl l (some (-(k : Int))) none = l.drop (l.length - k) := by
  unfold psl
  simp only [Option.elim, clipAt_neg _ _ hk]
  rw [List.take_of_length_le (by rw [List.length_drop]; exact Nat.le_refl _)]
theorem psl_midNeg {α : Type} (l : List α) (a k : Nat) (hk : 1 ≤ k) : psl l (some (a : Int)) (some (-(k : Int))) = (l.take (l.length - k)).drop a := by
  unfold psl
  simp only [Option.elim, clipAt_nat, clipAt_neg _ _ hk]
  rw [List.drop_take]
  rcases Nat.le_total a l.length with h | h
  · rw [Nat.min_eq_left h]
  · rw [Nat.min_eq_right h, List.drop_of_length_le (Nat.le_refl _), List.drop_of_length_le h]; simp

theorem strIdx_plain (a b : Option Int) (n : Nat) : Builtin.Str.strSliceIndices a b 1 n = (List.range (b.elim n (clipAt n) - a.elim 0 (clipAt n))).map (a.elim 0 (clipAt n) + ·) := by
  rw [← sliceRange_one]
  unfold Builtin.Str.strSliceIndices
  cases a <;> cases b <;> simp [clipAt_cast]
theorem T_len (l : List Nat) : (T l).length = l.length := by show l.toArray.size = _; simp
theorem txt_slice (l : List Nat) (a b : Option Int) : Txt.slice (T l) a b = T (psl l a b) := by
  unfold Txt.slice
  have e : ((Builtin.Str.strSliceIndices a b 1 (T l).length).filterMap ((T l).cps[·]?)) = psl l a b := by
    rw [strIdx_plain, pick_run, T_len]
    rfl
  rw [e]
  split
  · rename_i h
    have hl : (psl l a b).length = l.length := by
      rw [strIdx_plain, T_len] at h
      simp only [beq_self_eq_true, Bool.true_and, List.length_map, List.length_range, beq_iff_eq] at h
      have h2 : (b.elim l.length (clipAt l.length)) ≤ l.length := by
        cases b with
        | none => exact Nat.le_refl _
        | some b => have := clipAt_cast l.length b; simp only [Option.elim]; omega
      unfold psl; rw [List.length_take, List.length_drop]; omega
    have : psl l a b = l := by
      have hs : (psl l a b).Sublist l := (List.take_sublist _ _).trans (List.drop_sublist _ _)
      exact hs.eq_of_length hl
    rw [this]
  · rfl

section
variable {w : World} {s0 : Shared} {A : Around} {S : Sta} {env : Env} {ρ : List (Str × D)} {h : Heap} {P : Pm} {d d' : D}

/-! operators -/
theorem op_addI {a b : Int} : Op2 w s0 A (binaryOp .Add) (.int a) (.int b) (.int (a + b)) := by
  rintro h P _ _ hs ⟨t, rfl⟩ ⟨u, rfl⟩ h₁ P₁ k ht g Q E q
  exact wpAny_add_int (q _ h₁ P₁ (k + 1) (Nat.succ_pos _) (.refl g.snd) ⟨_, rfl⟩)
theorem op_iaddI {a b : Int} : Op2 w s0 A (inplaceOp .Add) (.int a) (.int b) (.int (a + b)) := by
  rintro h P _ _ hs ⟨t, rfl⟩ ⟨u, rfl⟩ h₁ P₁ k ht g Q E q
  exact wpAny_iadd_int (q _ h₁ P₁ (k + 1) (Nat.succ_pos _) (.refl g.snd) ⟨_, rfl⟩)
theorem op_subI {a b : Int} : Op2 w s0 A (binaryOp .Sub) (.int a) (.int b) (.int (a - b)) := by
  rintro h P _ _ hs ⟨t, rfl⟩ ⟨u, rfl⟩ h₁ P₁ k ht g Q E q
  exact PySem.P.sub_int (q _ h₁ P₁ (k + 1) (Nat.succ_pos _) (.refl g.snd) ⟨_, rfl⟩)
theorem op_ltI {a b : Int} : Op2 w s0 A (compareOp .Lt) (.int a) (.int b) (.bool (decide (a < b))) := by
  rintro h P _ _ hs ⟨t, rfl⟩ ⟨u, rfl⟩ h₁ P₁ k ht g Q E q
  exact PySem.P.lt_int (q _ h₁ P₁ k ht (.refl g.snd) rfl)
theorem op_leI {a b : Int} : Op2 w s0 A (compareOp .LtE) (.int a) (.int b) (.bool (decide (a ≤ b))) := by
  rintro h P _ _ hs ⟨t, rfl⟩ ⟨u, rfl⟩ h₁ P₁ k ht g Q E q
  exact PySem.P.le_int (q _ h₁ P₁ k ht (.refl g.snd) rfl)
theorem op_gtI {a b : Int} : Op2 w s0 A (compareOp .Gt) (.int a) (.int b) (.bool (decide (a > b))) := by
  rintro h P _ _ hs ⟨t, rfl⟩ ⟨u, rfl⟩ h₁ P₁ k ht g Q E q
  exact PySem.P.gt_int (q _ h₁ P₁ k ht (.refl g.snd) rfl)
theorem op_geI {a b : Int} : Op2 w s0 A (compareOp .GtE) (.int a) (.int b) (.bool (decide (a ≥ b))) := by
  rintro h P _ _ hs ⟨t, rfl⟩ ⟨u, rfl⟩ h₁ P₁ k ht g Q E q
  exact PySem.P.ge_int (q _ h₁ P₁ k ht (.refl g.snd) rfl)
theorem op_eqI {a b : Int} : Op2 w s0 A (compareOp .Eq) (.int a) (.int b) (.bool (a == b)) := by
  rintro h P _ _ hs ⟨t, rfl⟩ ⟨u, rfl⟩ h₁ P₁ k ht g Q E q
  exact wpAny_eq_int (q _ h₁ P₁ k ht (.refl g.snd) rfl)
theorem op_neI {a b : Int} : Op2 w s0 A (compareOp .NotEq) (.int a) (.int b) (.bool (a != b)) := by
  rintro h P _ _ hs ⟨t, rfl⟩ ⟨u, rfl⟩ h₁ P₁ k ht g Q E q
  exact PySem.P.ne_int (q _ h₁ P₁ k ht (.refl g.snd) rfl)
theorem op_eqS {a b : List Nat} : Op2 w s0 A (compareOp .Eq) (.str a) (.str b) (.bool (a == b)) := by
  rintro h P _ _ hs ⟨t, rfl⟩ ⟨u, rfl⟩ h₁ P₁ k ht g Q E q
  exact PySem.P.eq_str (q _ h₁ P₁ k ht (.refl g.snd) rfl)
theorem op_neS {a b : List Nat} : Op2 w s0 A (compareOp .NotEq) (.str a) (.str b) (.bool (a != b)) := by
  rintro h P _ _ hs ⟨t, rfl⟩ ⟨u, rfl⟩ h₁ P₁ k ht g Q E q
  exact PySem.P.ne_str (q _ h₁ P₁ k ht (.refl g.snd) rfl)
theorem T_app (a b : List Nat) : T a ++ T b = T (a ++ b) := by
  apply Str.ext'; show _ = (a ++ b).toArray; rw [Str.cps_append]; simp
theorem op_addS {a b : List Nat} (hz : a.length + b.length ≤ sizeLine) : Op2 w s0 A (binaryOp .Add) (.str a) (.str b) (.str (a ++ b)) := by
  rintro h P _ _ hs ⟨t, rfl⟩ ⟨u, rfl⟩
  refine Go.mk fun h₁ P₁ k ht g Q E q => SB.add (fun t' k' => q _ h₁ P₁ k' (fun _ => .refl g.snd) fun _ => ⟨t', by rw [T_app]⟩) (by rw [T_len, T_len]; exact hz)
theorem op_inS {c : Nat} {l : List Nat} : Op2 w s0 A (compareOp .In) (.str [c]) (.str l) (.bool (decide (c ∈ l))) := by
  rintro h P _ _ hs ⟨t, rfl⟩ ⟨u, rfl⟩ h₁ P₁ k ht g Q E q
  exact PySem.P.in_str (q _ h₁ P₁ k ht (.refl g.snd) (by show Value.bool _ = _; rw [StrLaws.found_one (T l) c]))
theorem op_notInS {c : Nat} {l : List Nat} : Op2 w s0 A (compareOp .NotIn) (.str [c]) (.str l) (.bool (!decide (c ∈ l))) := by
  rintro h P _ _ hs ⟨t, rfl⟩ ⟨u, rfl⟩ h₁ P₁ k ht g Q E q
  exact PySem.P.notIn_str (q _ h₁ P₁ k ht (.refl g.snd) (by show Value.bool _ = _; rw [StrLaws.found_one (T l) c]))
theorem op_eqB {a b : Bool} : Op2 w s0 A (compareOp .Eq) (.bool a) (.bool b) (.bool (a == b)) := by
  rintro h P _ _ hs rfl rfl h₁ P₁ k ht g Q E q
  exact eq_bool (q _ h₁ P₁ k ht (.refl g.snd) rfl)

theorem op_neB {a b : Bool} : Op2 w s0 A (compareOp .NotEq) (.bool a) (.bool b) (.bool (a != b)) := by
  rintro h P _ _ hs rfl rfl h₁ P₁ k ht g Q E q
  exact ne_bool (q _ h₁ P₁ k ht (.refl g.snd) rfl)

/-! truth -/
theorem tru_bool {b : Bool} : Tru w s0 A (.bool b) b := by
  rintro h P _ hs rfl h₁ P₁ k ht g Q E q
  exact wpAny_truthy_bool (q _ h₁ P₁ k ht (.refl g.snd) rfl)
end

end IK
end

/-! part B5 -/
section
open PySem PySem.W PyProof.Rows
set_option Elab.async false
set_option linter.unusedVariables false
namespace IK

section
variable {P : Pm} {h : Heap} {ds : List D} {v : Value}
theorem Rep.isList (r : Rep P (.lst ds) v) (s : Snd P h) : ∃ a vs, v = .ref a ∧ h.IsList a vs.toArray ∧ RepL P ds vs := by
  obtain ⟨a, o, vs, e, p, ⟨n, rfl⟩, rl⟩ := r
  exact ⟨a, vs, e, ⟨_, s _ _ p, rfl, n, rfl⟩, rl⟩
theorem Rep.isTup (r : Rep P (.tup ds) v) (s : Snd P h) : ∃ a vs, v = .ref a ∧ IsTup h a vs.toArray ∧ RepL P ds vs := by
  obtain ⟨a, o, vs, e, p, ⟨n, rfl⟩, rl⟩ := r
  exact ⟨a, vs, e, ⟨_, s _ _ p, rfl, n, rfl⟩, rl⟩
end

noncomputable def D.pick : D → Option (String × String)
  | .str _ => .some ("str", "str.__getitem__")
  | .lst _ => .some ("list", "list.__getitem__")
  | .tup _ => .some ("tuple", "tuple.__getitem__")
  | _ => Option.none
theorem seqIndex_in {i : Int} {n j : Nat} (h : seqIndex? i n = some j) : -(n : Int) ≤ i ∧ i < n := by
  unfold seqIndex? at h
  by_cases hi : i < 0
  · simp only [hi, if_true, Bool.and_eq_true, decide_eq_true_eq] at h; split at h
    · omega
    · cases h
  · simp only [hi, if_false, Bool.and_eq_true, decide_eq_true_eq] at h; split at h
    · omega
    · cases h

theorem bigLine : sizeLine = 16777216 := by decide

section
variable {w : World} {s0 : Shared} {A : Around} {S : Sta} {env : Env} {ρ : List (Str × D)} {h : Heap} {P : Pm} {d d' : D}

theorem pick_type {d : D} {v : Value} {T id : String} {t : Nat} (hp : d.pick = some (T, id)) (s : Snd P h) (r : Rep P d v) :
    ∃ id', typeLookup (.type T) "__getitem__" = pure (some (.builtin id')) ∧ (stt s0 h t).TypeIs v T := by
  cases d with
  | str l => cases hp; obtain ⟨u, rfl⟩ := r; exact ⟨_, F.slot_str_getitem.lookup, typeIs_str _ _ _⟩
  | lst l => cases hp; obtain ⟨a, vs, rfl, hl, _⟩ := r.isList s; exact ⟨_, slot_list_getitem.lookup, Heap.IsList.typeIs (s := stt s0 h t) hl⟩
  | tup l => cases hp; obtain ⟨a, vs, rfl, hl, _⟩ := r.isTup s; obtain ⟨o, ho, hc, _⟩ := hl; exact ⟨_, F.slot_tuple_getitem.lookup, ⟨o, ho, hc⟩⟩
  | _ => cases hp

theorem ev_subG {value slice : Expr} {pos : Pos} {d₁ : D} {T id : String} {R₂ : Value → Heap → Pm → Prop} (hv : Ev w s0 A env h P value d₁) (hi : Go w s0 A h P (eval slice env) R₂) (hp : d₁.pick = some (T, id))
    (ho : ∀ h P v₁ v₂, Snd P h → Rep P d₁ v₁ → R₂ v₂ h P → Go w s0 A h P (getItem v₁ v₂) (RepR d))
    (hs : ∀ o i, ∃ ops, subscripted slice false o i = operate ops (getItem o i)) : Ev w s0 A env h P (.Subscript value slice pos) d := fun h₁ P₁ t ht g Q E k =>
  Subscript_ (hv h₁ P₁ t ht g _ E fun v₁ h₂ P₂ t₂ ht₂ g₂ r₁ => hi h₂ P₂ t₂ ht₂ (g.trans g₂) _ E fun v₂ h₃ P₃ t₃ ht₃ g₃ r₂ => by
    obtain ⟨id', hl, hT⟩ := pick_type (s0 := s0) (t := t₃) hp g₃.snd (r₁.mono g₃.ext)
    obtain ⟨ops, hs'⟩ := hs v₁ v₂
    exact tail_any hT hl (ho h₃ P₃ v₁ v₂ g₃.snd (r₁.mono g₃.ext) r₂ h₃ P₃ t₃ ht₃ (.refl g₃.snd) Q E fun v h₄ P₄ t₄ ht₄ g₄ r₄ => k v h₄ P₄ t₄ ht₄ (g₂.trans (g₃.trans g₄)) r₄) hs')
theorem ev_sub {value slice : Expr} {pos : Pos} {d₁ d₂ : D} {T id : String} (hv : Ev w s0 A env h P value d₁) (hi : Ev w s0 A env h P slice d₂) (ho : Op2 w s0 A getItem d₁ d₂ d) (hp : d₁.pick = some (T, id))
    (hs : ∀ o i, ∃ ops, subscripted slice false o i = operate ops (getItem o i)) : Ev w s0 A env h P (.Subscript value slice pos) d :=
  ev_subG hv hi hp (fun h P v₁ v₂ s r₁ r₂ => ho h P v₁ v₂ s r₁ r₂) hs

/-! items -/
theorem op_itemS {l : List Nat} {i : Int} {c j : Nat} (hz : l.length ≤ sizeLine) (hj : seqIndex? i l.length = some j) (hc : l[j]? = some c) : Op2 w s0 A getItem (.str l) (.int i) (.str [c]) := by
  rintro h P _ _ hs ⟨t, rfl⟩ ⟨u, rfl⟩ h₁ P₁ k ht g Q E q
  refine PySem.P.getItem_str (c := c) ?_ ?_ (q _ h₁ P₁ (k + 1) (Nat.succ_pos _) (.refl g.snd) ⟨_, rfl⟩)
  · rw [bigLine] at hz
    have := seqIndex_in hj
    simp only [Bool.or_eq_false_iff, decide_eq_false_iff_not]; omega
  · rw [T_len, hj]; show (T l).cps[j]? = some c; simpa using hc
theorem op_itemS' {l : List Nat} {i : Int} {c : Nat} (hz : l.length ≤ sizeLine) (h0 : 0 ≤ i) (hc : l[i.toNat]? = some c) : Op2 w s0 A getItem (.str l) (.int i) (.str [c]) :=
  op_itemS hz (seqIndex_of h0 (by have := (List.getElem?_eq_some_iff.mp hc).1; omega)) hc
theorem op_itemL {l : List D} {i : Int} (hz : l.length ≤ sizeLine) (h0 : 0 ≤ i) (hc : l[i.toNat]? = some d) : Op2 w s0 A getItem (.lst l) (.int i) d := by
  rintro h P v₁ _ hs r ⟨u, rfl⟩ h₁ P₁ k ht g Q E q
  obtain ⟨a, vs, rfl, hl, rl⟩ := (r.mono g.ext).isList g.snd
  obtain ⟨x, hx, rx⟩ := rl.get hc
  have hi := (List.getElem?_eq_some_iff.mp hc).1
  rw [bigLine] at hz
  exact wpAny_getItem_list (s := stt s0 h₁ k) hl h0 (by omega) (by simpa using hx) (q x h₁ P₁ k ht (.refl g.snd) rx)
theorem op_itemLneg {l : List D} {i : Int} (hz : l.length ≤ sizeLine) (h0 : i < 0) (h1 : -(l.length : Int) ≤ i) (hc : l[(i + l.length).toNat]? = some d) : Op2 w s0 A getItem (.lst l) (.int i) d := by
  rintro h P v₁ _ hs r ⟨u, rfl⟩ h₁ P₁ k ht g Q E q
  obtain ⟨a, vs, rfl, hl, rl⟩ := (r.mono g.ext).isList g.snd
  obtain ⟨x, hx, rx⟩ := rl.get hc
  rw [bigLine] at hz
  have hn := rl.length
  have hn' : vs.toArray.size = l.length := by rw [List.size_toArray, hn]
  have hx' : vs.toArray[(i + vs.toArray.size).toNat]? = some x := by rw [hn']; simpa using hx
  exact wpAny_getItem_list_neg (s := stt s0 h₁ k) hl h0 (by omega) (by omega) hx' (q x h₁ P₁ k ht (.refl g.snd) rx)
theorem op_itemT {l : List D} {i : Int} {j : Nat} (hz : l.length ≤ sizeLine) (hj : seqIndex? i l.length = some j) (hlo : -(2 ^ 63) ≤ i) (hhi : i < 2 ^ 63) (hc : l[j]? = some d) : Op2 w s0 A getItem (.tup l) (.int i) d := by
  rintro h P v₁ _ hs r ⟨u, rfl⟩ h₁ P₁ k ht g Q E q
  obtain ⟨a, vs, rfl, hl, rl⟩ := (r.mono g.ext).isTup g.snd
  obtain ⟨x, hx, rx⟩ := rl.get hc
  exact getItem_tuple (s := stt s0 h₁ k) hl hlo hhi (by simp only [List.size_toArray, rl.length]; exact hj) (by simpa using hx) (q x h₁ P₁ k ht (.refl g.snd) rx)

/-! cuts -/
noncomputable abbrev PartR (a : Option Int) : Value → Heap → Pm → Prop := fun v _ _ => ∃ p : Option (Int × Tok), v = partValue p ∧ p.map (·.1) = a
theorem part_none : Go w s0 A h P (evalPart none env) (PartR none) := Go.pure fun _ _ _ => ⟨none, rfl, rfl⟩
theorem part_some {e : Expr} {i : Int} (he : Ev w s0 A env h P e (.int i)) : Go w s0 A h P (evalPart (some e) env) (PartR (some i)) :=
  Go.weak he fun v _ _ _ ⟨t, e⟩ => ⟨some (i, t), e, rfl⟩
noncomputable abbrev SlR (a b c : Option Int) : Value → Heap → Pm → Prop := fun v h _ => ∃ ad pl pu ps, v = .ref ad ∧ pl.map (·.1) = a ∧ pu.map (·.1) = b ∧ ps.map (·.1) = c ∧ h.IsSliceOf ad (partValue pl) (partValue pu) (partValue ps)
theorem go_slice {lo up st : Option Expr} {p : Pos} {a b c : Option Int} (hl : Go w s0 A h P (evalPart lo env) (PartR a)) (hu : Go w s0 A h P (evalPart up env) (PartR b)) (hs : Go w s0 A h P (evalPart st env) (PartR c)) :
    Go w s0 A h P (eval (.Slice lo up st p) env) (SlR a b c) := fun h₁ P₁ t ht g Q E k =>
  wpAny_Slice (hl h₁ P₁ t ht g _ E fun v₁ h₂ P₂ t₂ ht₂ g₂ r₁ => hu h₂ P₂ t₂ ht₂ (g.trans g₂) _ E fun v₂ h₃ P₃ t₃ ht₃ g₃ r₂ => hs h₃ P₃ t₃ ht₃ (g.trans (g₂.trans g₃)) _ E fun v₃ h₄ P₄ t₄ ht₄ g₄ r₃ => by
    obtain ⟨pl, rfl, e1⟩ := r₁
    obtain ⟨pu, rfl, e2⟩ := r₂
    obtain ⟨ps, rfl, e3⟩ := r₃
    exact k _ (h₄.push _) P₄ t₄ ht₄ (g₂.trans (g₃.trans (g₄.trans (.push g₄.snd _)))) ⟨_, pl, pu, ps, rfl, e1, e2, e3, Heap.IsSliceOf.new ..⟩)
theorem sl_ok {lo up st : Option Expr} {p : Pos} : ∀ o i, ∃ ops, subscripted (.Slice lo up st p) false o i = operate ops (getItem o i) := fun o i => by
  cases st with
  | none => exact ⟨_, rfl⟩
  | some e => exact ⟨_, rfl⟩

theorem op_cutS {l : List Nat} {a b : Option Int} (hz : l.length ≤ sizeLine) (h : Heap) (P : Pm) (v₁ v₂ : Value) (s : Snd P h) (r : Rep P (.str l) v₁) (r₂ : SlR a b none v₂ h P) : Go w s0 A h P (getItem v₁ v₂) (RepR (.str (psl l a b))) := by
  obtain ⟨t, rfl⟩ := r
  obtain ⟨ad, pl, pu, ps, rfl, rfl, rfl, e3, hs⟩ := r₂
  cases ps with
  | some q => cases e3
  | none =>
    refine Go.mk fun h₁ P₁ k ht g Q E q => ?_
    have hs₁ : h₁.IsSlice ad pl pu none := by obtain ⟨o, ho, hc, hd⟩ := hs; exact ⟨o, g.up _ _ ho, hc, hd⟩
    have hle : (Txt.slice (T l) (pl.map (·.1)) (pu.map (·.1))).length ≤ sizeLine := Nat.le_trans (Txt.slice_le _ _ _) (by rw [T_len]; exact hz)
    exact wpAny_getItem_str_slice (s := stt s0 h₁ k) (st := none) hs₁ rfl (post_val_or_str ⟨hle, fun t' k' => q _ h₁ P₁ k' (fun _ => .refl g.snd) fun _ => ⟨t', congrArg (Value.str · t') (txt_slice l _ _)⟩⟩)
theorem ev_cutS {value : Expr} {lo up : Option Expr} {pos p : Pos} {l : List Nat} {a b : Option Int} (hv : Ev w s0 A env h P value (.str l)) (hl : Go w s0 A h P (evalPart lo env) (PartR a)) (hu : Go w s0 A h P (evalPart up env) (PartR b))
    (hz : l.length ≤ sizeLine) : Ev w s0 A env h P (.Subscript value (.Slice lo up none p) pos) (.str (psl l a b)) :=
  ev_subG (T := "str") (id := "str.__getitem__") hv (go_slice hl hu part_none) rfl (fun h P v₁ v₂ s r₁ r₂ => op_cutS hz h P v₁ v₂ s r₁ r₂) sl_ok

theorem isPart_of (p : Option (Int × Tok)) : IsPart (partValue p) (p.map (·.1)) := by
  cases p with
  | none => exact .none
  | some q => obtain ⟨i, t⟩ := q; constructor
theorem RepL.psl {P : Pm} {ds : List D} {vs : List Value} (a b : Option Int) (r : RepL P ds vs) : RepL P (psl ds a b) (psl vs a b) := by
  unfold IK.psl; rw [r.length]; exact (r.drop _).take _
theorem op_cutL {l : List D} {a b : Option Int} (hz : l.length ≤ sizeLine) (h : Heap) (P : Pm) (v₁ v₂ : Value) (s : Snd P h) (r : Rep P (.lst l) v₁) (r₂ : SlR a b none v₂ h P) : Go w s0 A h P (getItem v₁ v₂) (RepR (.lst (psl l a b))) := by
  obtain ⟨x, vs, rfl, hl, rl⟩ := r.isList s
  obtain ⟨ad, pl, pu, ps, rfl, rfl, rfl, e3, hs⟩ := r₂
  cases ps with
  | some q => cases e3
  | none =>
    intro h₁ P₁ k ht g Q E q
    have hl₁ : h₁.IsList x vs.toArray := by obtain ⟨o, ho, hc⟩ := hl; exact ⟨o, g.up _ _ ho, hc⟩
    have hs₁ : h₁.IsSliceOf ad (partValue pl) (partValue pu) .none := by obtain ⟨o, ho, hc, hd⟩ := hs; exact ⟨o, g.up _ _ ho, hc, hd⟩
    refine wpAny_getItem_list_slice (s := stt s0 h₁ k) hl₁ hs₁ (isPart_of pl) (isPart_of pu) IsPart.none (by simp) (q _ _ _ k ht (.pushFrz g.snd _ rfl) ?_) (by simp only [List.size_toArray, rl.length]; exact hz)
    refine ⟨_, _, IK.psl vs (pl.map (·.1)) (pu.map (·.1)), rfl, Pm.put_self .., ⟨_, by rw [slicePick_plain]; unfold IK.psl; simp; rfl⟩, ?_⟩
    exact (rl.psl _ _).mono fun b o e => (Gr.pushFrz g.snd _ rfl).ext b o (g.ext b o e)
theorem ev_cutL {value : Expr} {lo up : Option Expr} {pos p : Pos} {l : List D} {a b : Option Int} (hv : Ev w s0 A env h P value (.lst l)) (hl : Go w s0 A h P (evalPart lo env) (PartR a)) (hu : Go w s0 A h P (evalPart up env) (PartR b))
    (hz : l.length ≤ sizeLine) : Ev w s0 A env h P (.Subscript value (.Slice lo up none p) pos) (.lst (psl l a b)) :=
  ev_subG (T := "list") (id := "list.__getitem__") hv (go_slice hl hu part_none) rfl (fun h P v₁ v₂ s r₁ r₂ => op_cutL hz h P v₁ v₂ s r₁ r₂) sl_ok
end
end IK
end

/-! part B6 -/
section
open PySem PySem.W PyProof.Rows
set_option Elab.async false
set_option linter.unusedVariables false
namespace IK

section
variable {M : Model} {A : Around} {E : Value → Shared → Prop} {s : Shared}
theorem evalArgs_any {f : Value} {args : List (Bool × Sem Value)} {Q : Args → Shared → Prop} (hp : args.any (·.1) = false)
    (h : wpAny M A (spliced args) (fun vs s' => Q ⟨vs, []⟩ s') E s) : wpAny M A (evalArgs f true args []) Q E s := by
  cases args with
  | nil =>
    unfold evalArgs
    show wpAny M A (spliced [] >>= _) Q E s
    refine wpAny_bind (wpAny_mono h (fun vs s' h' => ?_) fun _ _ x => x)
    refine wpAny_holding ?_
    exact wpAny_bind (wpAny_pure (wpAny_bind (wpAny_pure (wpAny_pure h'))))
  | cons a r =>
    obtain ⟨b, x⟩ := a
    have hb : b = false := by
      simp only [List.any_cons, Bool.or_eq_false_iff] at hp
      exact hp.1
    subst hb
    exact Calls.evalArgs_plain h
end

/-- arguments without a star -/
noncomputable def plainArgs : List Expr → Bool
  | [] => true
  | .Starred .. :: _ => false
  | _ :: r => plainArgs r
theorem starEach_cons {e : Expr} {r : List Expr} {env : Env} (h : plainArgs (e :: r) = true) : starEach (e :: r) env = (false, eval e env) :: starEach r env ∧ plainArgs r = true := by
  cases e <;> first | exact ⟨rfl, h⟩ | cases h
theorem star_plain {env : Env} {pos : Pos} : ∀ {es : List Expr}, plainArgs es = true → (backTo pos (starEach es env)).any (·.1) = false
  | [], _ => rfl
  | e :: r, h => by
    obtain ⟨e1, h2⟩ := starEach_cons (env := env) h
    rw [e1]
    show (false || (backTo pos (starEach r env)).any (·.1)) = false
    rw [star_plain h2]; rfl

section
variable {w : World} {s0 : Shared} {A : Around} {S : Sta} {env : Env} {ρ : List (Str × D)} {h : Heap} {P : Pm} {d d' : D}

theorem evl_cons' {pos : Pos} {e : Expr} {es : List Expr} {ds : List D} (hp : plainArgs (e :: es) = true) (he : Ev w s0 A env h P e d) (hr : EvL w s0 A env h P pos es ds) :
    EvL w s0 A env h P pos (e :: es) (d :: ds) := evl_cons he hr (starEach_cons hp).1

/-- what a callable gives on data -/
noncomputable abbrev CallD (w : World) (s0 : Shared) (A : Around) (f : Value) (ds : List D) (d : D) : Prop :=
  ∀ (h : Heap) (P : Pm) vs, Snd P h → RepL P ds vs → Go w s0 A h P (call f vs) (RepR d)

theorem ev_callB {x : Str} {np pos : Pos} {args : List Expr} {ds : List D} {id : String} (I : In S env ρ h P) (hk : env.kindOf x = some .globalImplicit) (hm : S.mg x = none) (hv : S.mb x = some (.builtin id)) (hd : notDbg x)
    (ha : EvL w s0 A env h P pos args ds) (hp : plainArgs args = true) (hc : CallD w s0 A (.builtin id) ds d) : Ev w s0 A env h P (.Call (.Name x np) args [] pos) d := by
  have e : eval (.Call (.Name x np) args [] pos) env = (do callWith pos (← eval (.Name x np) env) [] (backTo pos (starEach args env)) (backToKw pos (keywordEach [] env))) := rfl
  unfold Ev
  rw [e]
  refine Go.bind (R := fun v _ _ => v = .builtin id) (fun h₁ P₁ t ht g Q E k => Calls.Name_function_global I.fk hk (Calls.loadGlobal_builtin (I.eg ▸ S.g.keeps (I.gr g).top) hm (I.eb ▸ S.b.keeps (I.gr g).top) hv (k _ h₁ P₁ t ht (.refl g.snd) rfl)) hd) fun v h₁ P₁ g r => ?_
  subst r
  intro h₂ P₂ t ht g₂ Q E k
  exact Calls.callWith_builtin (star_plain hp) (evalArgs_any (star_plain hp) (ha h₂ P₂ t ht (g.trans g₂) _ E fun vs h₃ P₃ t₃ ht₃ g₃ r₃ =>
    hc h₃ P₃ vs g₃.snd r₃ h₃ P₃ t₃ ht₃ (.refl g₃.snd) Q E fun v h₄ P₄ t₄ ht₄ g₄ r₄ => k v h₄ P₄ t₄ ht₄ (g₃.trans g₄) r₄))

theorem ev_callT {x : Str} {np pos : Pos} {args : List Expr} {ds : List D} {id : String} {R : Value → Heap → Pm → Prop} (I : In S env ρ h P) (hk : env.kindOf x = some .globalImplicit) (hm : S.mg x = none) (hv : S.mb x = some (.type id)) (hd : notDbg x)
    (ha : EvL w s0 A env h P pos args ds) (hp : plainArgs args = true) (hc : ∀ (h : Heap) (P : Pm) vs, Snd P h → RepL P ds vs → Go w s0 A h P (call (.type id) vs) R) : Go w s0 A h P (eval (.Call (.Name x np) args [] pos) env) R := by
  have e : eval (.Call (.Name x np) args [] pos) env = (do callWith pos (← eval (.Name x np) env) [] (backTo pos (starEach args env)) (backToKw pos (keywordEach [] env))) := rfl
  rw [e]
  refine Go.bind (R := fun v _ _ => v = .type id) (fun h₁ P₁ t ht g Q E k => Calls.Name_function_global I.fk hk (Calls.loadGlobal_builtin (I.eg ▸ S.g.keeps (I.gr g).top) hm (I.eb ▸ S.b.keeps (I.gr g).top) hv (k _ h₁ P₁ t ht (.refl g.snd) rfl)) hd) fun v h₁ P₁ g r => ?_
  subst r
  intro h₂ P₂ t ht g₂ Q E k
  exact PyProof.Rows.callWith_type (star_plain hp) (evalArgs_any (star_plain hp) (ha h₂ P₂ t ht (g.trans g₂) _ E fun vs h₃ P₃ t₃ ht₃ g₃ r₃ =>
    hc h₃ P₃ vs g₃.snd r₃ h₃ P₃ t₃ ht₃ (.refl g₃.snd) Q E fun v h₄ P₄ t₄ ht₄ g₄ r₄ => k v h₄ P₄ t₄ ht₄ (g₃.trans g₄) r₄))

/-- a def of the text's own, called by its name -/
theorem ev_callF {x : Str} {np pos : Pos} {args : List Expr} {ds : List D} {a : Addr} {o : Obj} {fd : FuncData} {R : Value → Heap → Pm → Prop} (I : In S env ρ h P) (hk : env.kindOf x = some .globalImplicit) (hv : S.mg x = some (.ref a)) (hd : notDbg x)
    (ho : S.hb.get? a = some o) (hf : o.data = .func fd) (ha : EvL w s0 A env h P pos args ds) (hp : plainArgs args = true)
    (hc : ∀ (h₁ : Heap) (P₁ : Pm) vs, Gr h P h₁ P₁ → RepL P₁ ds vs → Go w s0 A h₁ P₁ (call (.ref a) vs) R) : Go w s0 A h P (eval (.Call (.Name x np) args [] pos) env) R := by
  have e : eval (.Call (.Name x np) args [] pos) env = (do callWith pos (← eval (.Name x np) env) [] (backTo pos (starEach args env)) (backToKw pos (keywordEach [] env))) := rfl
  rw [e]
  refine Go.bind (R := fun v _ _ => v = .ref a) (fun h₁ P₁ t ht g Q E k => Calls.Name_function_global I.fk hk (Calls.loadGlobal_global (I.eg ▸ S.g.keeps (I.gr g).top) hv (k _ h₁ P₁ t ht (.refl g.snd) rfl)) hd) fun v h₁ P₁ g r => ?_
  subst r
  intro h₂ P₂ t ht g₂ Q E k
  exact Calls.callWith_function (o := o) (fd := fd) (evalArgs_any (star_plain hp) (ha h₂ P₂ t ht (g.trans g₂) _ E fun vs h₃ P₃ t₃ ht₃ g₃ r₃ =>
    ⟨⟨(I.gr (g.trans (g₂.trans g₃))).top _ _ ho, hf⟩, hc h₃ P₃ vs (g.trans (g₂.trans g₃)) r₃ h₃ P₃ t₃ ht₃ (.refl g₃.snd) Q E fun v h₄ P₄ t₄ ht₄ g₄ r₄ => k v h₄ P₄ t₄ ht₄ (g₃.trans g₄) r₄⟩))

/-! methods of texts and lists -/
structure MethOf (d₁ : D) (name : Str) (id : String) : Prop where
  go : ∀ (P : Pm) (h : Heap) (v : Value) (s0 : Shared) (t : Nat), Snd P h → Rep P d₁ v → ∃ T, PlainAttrs T ∧ Slot T name id ∧ typeOf (.builtin id) = pure (.type "method_descriptor") ∧ (stt s0 h t).TypeIs v T ∧ ∀ a, v = .ref a → ∃ ob, h.get? a = some ob ∧ ob.dict = none
theorem MethOf.str {l : List Nat} {name : Str} {id : String} (s : Slot "str" name id) (ty : typeOf (.builtin id) = pure (.type "method_descriptor")) : MethOf (.str l) name id :=
  ⟨fun P h v s0 t hs ⟨u, e⟩ => by subst e; exact ⟨"str", F.plainAttrs_str, s, ty, typeIs_str _ _ _, fun a e => nomatch e⟩⟩
theorem MethOf.lst {l : List D} {name : Str} {id : String} (s : Slot "list" name id) (ty : typeOf (.builtin id) = pure (.type "method_descriptor")) : MethOf (.lst l) name id :=
  ⟨fun P h v s0 t hs ⟨a, o, vs, e, p, ⟨n, eo⟩, _⟩ => by subst e eo; exact ⟨"list", F.plainAttrs_list, s, ty, ⟨_, hs _ _ p, rfl⟩, fun b e => by cases e; exact ⟨_, hs _ _ p, rfl⟩⟩⟩

theorem ev_meth {o : Expr} {name : Str} {apos pos : Pos} {args : List Expr} {d₁ : D} {ds : List D} {id : String} (ho : Ev w s0 A env h P o d₁) (hM : MethOf d₁ name id) (ha : EvL w s0 A env h P pos args ds) (hp : plainArgs args = true)
    (hc : CallD w s0 A (.builtin id) (d₁ :: ds) d) (hbase : attributeBase o name env (eval o env) = eval o env)
    (hfew : ((backTo pos (starEach args env)).all (fun x => !x.1) && (backToKw pos (keywordEach [] env)).all (fun x => x.1.isSome) && decide (args.length + ([] : List Keyword).length + (if ([] : List Keyword).isEmpty then 0 else 1) < 30)) = true)
    (hline : (apos.endLine == pos.line) = true) : Ev w s0 A env h P (.Call (.Attribute o name apos) args [] pos) d := fun h₁ P₁ t ht g Q E k =>
  wpAny_Call_method_lateS hbase hfew hline (ho h₁ P₁ t ht g _ E fun v h₂ P₂ t₂ ht₂ g₂ r => by
    obtain ⟨T, pa, sl, ty, hT, hdict⟩ := hM.go P₂ h₂ v s0 t₂ g₂.snd r
    refine ⟨T, id, pa, sl, ty, hT, hdict, ?_⟩
    exact Calls.callWith_builtin (star_plain hp) (evalArgs_any (star_plain hp) (ha h₂ P₂ t₂ ht₂ (g.trans g₂) _ E fun vs h₃ P₃ t₃ ht₃ g₃ r₃ =>
      hc h₃ P₃ (v :: vs) g₃.snd (.cons (r.mono g₃.ext) r₃) h₃ P₃ t₃ ht₃ (.refl g₃.snd) Q E fun v h₄ P₄ t₄ ht₄ g₄ r₄ => k v h₄ P₄ t₄ ht₄ (g₂.trans (g₃.trans g₄)) r₄)))

/-! the built-ins -/
theorem RepL.one {P : Pm} {d : D} {vs : List Value} (r : RepL P [d] vs) : ∃ v, vs = [v] ∧ Rep P d v := by
  obtain ⟨v, q, e, a, b⟩ := r; cases b; exact ⟨v, e, a⟩
theorem RepL.two {P : Pm} {d e : D} {vs : List Value} (r : RepL P [d, e] vs) : ∃ v u, vs = [v, u] ∧ Rep P d v ∧ Rep P e u := by
  obtain ⟨v, q, eq, a, b⟩ := r; obtain ⟨u, rfl, c⟩ := b.one; exact ⟨v, u, eq, a, c⟩
theorem RepL.three {P : Pm} {d e f : D} {vs : List Value} (r : RepL P [d, e, f] vs) : ∃ v u x, vs = [v, u, x] ∧ Rep P d v ∧ Rep P e u ∧ Rep P f x := by
  obtain ⟨v, q, eq, a, b⟩ := r; obtain ⟨u, x, rfl, c⟩ := b.two; exact ⟨v, u, x, eq, a, c⟩

theorem c_lenS {l : List Nat} (hz : l.length ≤ sizeLine) : CallD w s0 A (.builtin "len") [.str l] (.int l.length) := by
  intro h P vs hs r
  obtain ⟨v, rfl, u, rfl⟩ := r.one
  intro h₁ P₁ k ht g Q E q
  rw [bigLine] at hz
  exact PySem.P.len_str (by rw [T_len]; omega) (q _ h₁ P₁ (k + 1 + 1) (Nat.succ_pos _) (.refl g.snd) ⟨_, by rw [T_len]⟩)
theorem c_lenL {l : List D} (hz : l.length ≤ sizeLine) : CallD w s0 A (.builtin "len") [.lst l] (.int l.length) := by
  intro h P vs hs r
  obtain ⟨v, rfl, r'⟩ := r.one
  intro h₁ P₁ k ht g Q E q
  obtain ⟨a, vs, rfl, hl, rl⟩ := (r'.mono g.ext).isList g.snd
  rw [bigLine] at hz
  have hn : vs.toArray.size = l.length := by rw [List.size_toArray, rl.length]
  exact Calls.call_len_list (s := stt s0 h₁ k) hl (by omega) (q _ h₁ P₁ (k + 1 + 1) (Nat.succ_pos _) (.refl g.snd) ⟨_, by rw [hn]⟩)
theorem c_lenT {l : List D} (hz : l.length ≤ sizeLine) : CallD w s0 A (.builtin "len") [.tup l] (.int l.length) := by
  intro h P vs hs r
  obtain ⟨v, rfl, r'⟩ := r.one
  intro h₁ P₁ k ht g Q E q
  obtain ⟨a, vs, rfl, hl, rl⟩ := (r'.mono g.ext).isTup g.snd
  rw [bigLine] at hz
  have hn : vs.toArray.size = l.length := by rw [List.size_toArray, rl.length]
  exact len_tuple (s := stt s0 h₁ k) hl (by omega) (q _ h₁ P₁ (k + 1 + 1) (Nat.succ_pos _) (.refl g.snd) ⟨_, by rw [hn]⟩)
theorem c_chr {i : Int} (h0 : 0 ≤ i) (h1 : i ≤ 0x10FFFF) : CallD w s0 A (.builtin "chr") [.int i] (.str [i.toNat]) := by
  intro h P vs hs r
  obtain ⟨v, rfl, u, rfl⟩ := r.one
  intro h₁ P₁ k ht g Q E q
  exact PySem.P.chr_of_int (by simp only [Bool.or_eq_false_iff, decide_eq_false_iff_not]; omega) (q _ h₁ P₁ (k + 1) (Nat.succ_pos _) (.refl g.snd) ⟨_, rfl⟩)
theorem c_divmod {a b : Int} (hb : b ≠ 0) (hs : b.natAbs < 1073741824) : CallD w s0 A (.builtin "divmod") [.int a, .int b] (.tup [.int (a.fdiv b), .int (a.fmod b)]) := by
  intro h P vs hs' r
  obtain ⟨v, u, rfl, ⟨t, rfl⟩, ⟨t', rfl⟩⟩ := r.two
  intro h₁ P₁ k ht g Q E q
  refine divmod_int hb (q _ _ _ (k + 1 + 1) (Nat.succ_pos _) (.pushFrz g.snd _ rfl) ⟨_, _, [.int (a.fdiv b) k, .int (a.fmod b) (k + 1)], rfl, Pm.put_self .., ⟨0, rfl⟩, .cons ⟨_, rfl⟩ (.cons ⟨_, rfl⟩ .nil)⟩) (.inl (PyProof.noPylong_small hs))
theorem op_modI {a b : Int} (hb : b ≠ 0) : Op2 w s0 A (binaryOp .Mod) (.int a) (.int b) (.int (a.fmod b)) := by
  rintro h P _ _ hs ⟨t, rfl⟩ ⟨u, rfl⟩ h₁ P₁ k ht g Q E q
  exact PyProof.Rows.mod_int hb (q _ h₁ P₁ (k + 1) (Nat.succ_pos _) (.refl g.snd) ⟨_, rfl⟩)
theorem c_max {a b : Int} (hh : A.handled = none) : CallD w s0 A (.builtin "max") [.int a, .int b] (.int (max a b)) := by
  intro h P vs hs' r
  obtain ⟨v, u, rfl, ⟨t, rfl⟩, ⟨t', rfl⟩⟩ := r.two
  refine Go.mk fun h₁ P₁ k ht g Q E q => max_two_ints hh fun h' tk up => q _ h' P₁ tk (fun sz => .same g.snd up sz) fun _ => ?_
  by_cases c : b > a
  · rw [if_pos c]; exact ⟨t', by rw [Int.max_eq_right (Int.le_of_lt c)]⟩
  · rw [if_neg c]; exact ⟨t, by rw [Int.max_eq_left (by omega)]⟩
theorem c_isalnum {l : List Nat} : CallD w s0 A (.builtin "str.isalnum") [.str l] (.bool (decide (l.length > 0) && l.all Unicode.isAlnum)) := by
  intro h P vs hs r
  obtain ⟨v, rfl, u, rfl⟩ := r.one
  intro h₁ P₁ k ht g Q E q
  refine SC.isalnum (q _ h₁ P₁ k ht (.refl g.snd) ?_)
  show Value.bool (decide ((T l).length > 0) && l.toArray.all Unicode.isAlnum) = _
  rw [T_len]; simp
theorem c_startswith {l p : List Nat} : CallD w s0 A (.builtin "str.startswith") [.str l, .str p] (.bool (Txt.startswith (T l) (T p))) := by
  intro h P vs hs r
  obtain ⟨v, u, rfl, ⟨t, rfl⟩, ⟨t', rfl⟩⟩ := r.two
  intro h₁ P₁ k ht g Q E q
  exact SC.startswith (q _ h₁ P₁ k ht (.refl g.snd) rfl)
theorem c_rfind {l p : List Nat} : CallD w s0 A (.builtin "str.rfind") [.str l, .str p] (.int (Txt.rfind (T l) (T p))) := by
  intro h P vs hs r
  obtain ⟨v, u, rfl, ⟨t, rfl⟩, ⟨t', rfl⟩⟩ := r.two
  intro h₁ P₁ k ht g Q E q
  exact SC.rfind (q _ h₁ P₁ (k + 1) (Nat.succ_pos _) (.refl g.snd) ⟨_, rfl⟩)
theorem c_find3 {l p : List Nat} {i : Int} : CallD w s0 A (.builtin "str.find") [.str l, .str p, .int i] (.int (Txt.find3 (T l) (T p) i)) := by
  intro h P vs hs r
  obtain ⟨v, u, x, rfl, ⟨t, rfl⟩, ⟨t', rfl⟩, ⟨t'', rfl⟩⟩ := r.three
  intro h₁ P₁ k ht g Q E q
  exact SC.find3 (q _ h₁ P₁ (k + 1) (Nat.succ_pos _) (.refl g.snd) ⟨_, rfl⟩)

/-! truth -/
theorem tru_str {l : List Nat} (hz : l.length ≤ sizeLine) : Tru w s0 A (.str l) (!l.isEmpty) := by
  rintro h P _ hs ⟨t, rfl⟩ h₁ P₁ k ht g Q E q
  rw [bigLine] at hz
  refine PySem.P.truthy_str (by rw [T_len]; omega) (q _ h₁ P₁ (k + 1 + 1) (Nat.succ_pos _) (.refl g.snd) ?_)
  rw [T_len]; cases l <;> simp [bne]
  omega
theorem tru_lst {l : List D} (hz : l.length ≤ sizeLine) : Tru w s0 A (.lst l) (!l.isEmpty) := by
  intro h P v hs r h₁ P₁ k ht g Q E q
  obtain ⟨a, vs, rfl, hl, rl⟩ := (r.mono g.ext).isList g.snd
  rw [bigLine] at hz
  have hn : vs.length = l.length := rl.length
  refine wpAny_truthy_list (s := stt s0 h₁ k) hl (by simp only [List.size_toArray, hn]; omega) (q _ h₁ P₁ (k + 1 + 1) (Nat.succ_pos _) (.refl g.snd) ?_)
  cases l <;> cases vs <;> simp at hn ⊢
theorem tru_none : Tru w s0 A .none false := by
  rintro h P _ hs rfl h₁ P₁ k ht g Q E q
  exact wpAny_pure (q _ h₁ P₁ k ht (.refl g.snd) rfl)

/-! identity -/
theorem op_isNone {v : D} (hv : v = .none ∨ (∃ l, v = .str l) ∨ (∃ i, v = .int i) ∨ (∃ l, v = .lst l) ∨ (∃ l, v = .tup l) ∨ ∃ b, v = .bool b) : Op2 w s0 A (compareOp .Is) v .none (.bool (match v with | .none => true | _ => false)) := by
  intro h P v₁ _ hs r e h₁ P₁ k ht g Q E q
  cases e
  refine is_none_gen (q _ h₁ P₁ k ht (.refl g.snd) ?_)
  rcases hv with rfl | ⟨l, rfl⟩ | ⟨i, rfl⟩ | ⟨l, rfl⟩ | ⟨l, rfl⟩ | ⟨b, rfl⟩
  · cases r; rfl
  · obtain ⟨t, rfl⟩ := r; rfl
  · obtain ⟨t, rfl⟩ := r; rfl
  · obtain ⟨a, o, vs, rfl, _⟩ := r; rfl
  · obtain ⟨a, o, vs, rfl, _⟩ := r; rfl
  · cases r; rfl
theorem op_isTyp {a b : String} : Op2 w s0 A (compareOp .Is) (.typ a) (.typ b) (.bool (a == b)) := by
  rintro h P _ _ hs rfl rfl h₁ P₁ k ht g Q E q
  refine wpAny_is_plain rfl (q _ h₁ P₁ k ht (.refl g.snd) ?_)
  show Value.bool _ = _
  congr 1
  by_cases e : a = b
  · subst e; simp
  · have : (Value.type a == Value.type b) = false := beq_eq_false_iff_ne.mpr fun q => e (by cases q; rfl)
    rw [this]; simpa using e
theorem op_isNotSelf {a : Addr} : Op2 w s0 A (compareOp .IsNot) (.ref a) (.ref a) (.bool false) := by
  rintro h P _ _ hs rfl rfl h₁ P₁ k ht g Q E q
  exact wpAny_isNot_ref_self (q _ h₁ P₁ k ht (.refl g.snd) rfl)
theorem op_isSelf {a : Addr} : Op2 w s0 A (compareOp .Is) (.ref a) (.ref a) (.bool true) := by
  rintro h P _ _ hs rfl rfl h₁ P₁ k ht g Q E q
  exact wpAny_is_ref_self (q _ h₁ P₁ k ht (.refl g.snd) rfl)
theorem op_isNotStrRef {a : Addr} {l : List Nat} : Op2 w s0 A (compareOp .IsNot) (.str l) (.ref a) (.bool true) := by
  rintro h P _ _ hs ⟨t, rfl⟩ rfl h₁ P₁ k ht g Q E q
  exact wpAny_isNot_other rfl (fun e => nomatch e) (q _ h₁ P₁ k ht (.refl g.snd) rfl)
end
end IK
end

/-! part B7 -/
section
open PySem PySem.W PyProof.Rows
set_option Elab.async false
set_option linter.unusedVariables false
namespace IK

/-- a thing that the frame may change: a list with what its items mean, or an object as it is -/
inductive Mo where
  | lst (ds : List D)
  | is (p : Obj → Prop)
noncomputable def MoIs (P : Pm) (o : Obj) : Mo → Prop
  | .lst ds => ∃ vs, LO o vs ∧ RepL P ds vs
  | .is p => p o
theorem MoIs.mono {P P' : Pm} (k : ∀ b o, P b = some o → P' b = some o) {o : Obj} : ∀ {m : Mo}, MoIs P o m → MoIs P' o m
  | .lst _, ⟨vs, a, b⟩ => ⟨vs, a, b.mono k⟩
  | .is _, e => e

/-- what a frame may change was not there at its start -/
noncomputable def MoNew (h₀ : Heap) (a : Addr) : Mo → Prop
  | .lst _ => h₀.objs.size ≤ a
  | .is _ => h₀.get? a = none
theorem get_none {h : Heap} {a : Addr} (ha : h.objs.size ≤ a) : h.get? a = none := by
  cases q : h.get? a with
  | none => rfl
  | some o => exact absurd (Heap.lt_size q) (Nat.not_lt.mpr ha)
theorem MoNew.of {h₀ : Heap} {a : Addr} (ha : h₀.objs.size ≤ a) : ∀ m : Mo, MoNew h₀ a m
  | .lst _ => ha
  | .is _ => get_none ha
theorem MoNew.none {h₀ : Heap} {a : Addr} : ∀ {m : Mo}, MoNew h₀ a m → h₀.get? a = none
  | .lst _, h => get_none h
  | .is _, h => h

structure Frm (S : Sta) (env : Env) (ow : List Str) (h₀ : Heap) (P₀ : Pm) (n : List (Addr × Mo)) (ρ : List (Str × D)) (h : Heap) (P : Pm) : Prop where
  gr : Gr h₀ P₀ h P
  inn : In S env ρ h P
  ns : ∃ m, h.Ns env.locals m
  lnew : h₀.objs.size ≤ env.locals
  lP : P env.locals = none
  own : ∀ x ∈ ow, ∃ c, env.cells.lookup x = some c ∧ env.kindOf x = some .cell ∧ (∃ v, h.IsCell c v) ∧ h₀.objs.size ≤ c ∧ P c = none
  clo : ∀ x c, env.cells.lookup x = some c → c ≠ env.locals ∧ c < h.objs.size
  inj : ∀ x y c, env.cells.lookup x = some c → env.cells.lookup y = some c → x = y
  led : ∀ p ∈ n, (∃ o, h.get? p.1 = some o ∧ MoIs P o p.2) ∧ MoNew h₀ p.1 p.2 ∧ P p.1 = none ∧ p.1 ≠ env.locals ∧ ∀ x c, env.cells.lookup x = some c → c ≠ p.1
  dist : (n.map (·.1)).Nodup

theorem Gr.none {h h' : Heap} {P P' : Pm} (g : Gr h P h' P') {a : Addr} (ha : a < h.objs.size) (e : P a = none) : P' a = none := by
  cases q : P' a with
  | none => rfl
  | some o =>
    rcases g.new a o q with k | k
    · rw [e] at k; cases k
    · exact absurd ha (Nat.not_lt.mpr k)

section
variable {w : World} {s0 : Shared} {A : Around} {S : Sta} {env : Env} {ow : List Str} {h₀ h h' : Heap} {P₀ P P' : Pm} {n : List (Addr × Mo)} {ρ : List (Str × D)} {d : D}

theorem Frm.grow (F : Frm S env ow h₀ P₀ n ρ h P) (g : Gr h P h' P') : Frm S env ow h₀ P₀ n ρ h' P' := by
  obtain ⟨m, hm⟩ := F.ns
  exact ⟨F.gr.trans g, F.inn.gr g, ⟨m, hm.keeps g.up⟩, F.lnew, g.none hm.lt F.lP,
    fun x hx => let ⟨c, e, k, ⟨v, hc⟩, l, q⟩ := F.own x hx; ⟨c, e, k, ⟨v, hc.keeps g.up⟩, l, g.none hc.lt q⟩, fun x c e => ⟨(F.clo x c e).1, Nat.lt_of_lt_of_le (F.clo x c e).2 g.sz⟩, F.inj,
    fun p hp => let ⟨⟨o, e, r⟩, l, q, a, b⟩ := F.led p hp; ⟨⟨o, g.up _ _ e, r.mono g.ext⟩, l, g.none (Heap.lt_size e) q, a, b⟩, F.dist⟩
theorem Frm.refl' (F : Frm S env ow h₀ P₀ n ρ h P) : Gr h P h P := .refl F.gr.snd

/-- a change of one owned thing: what else stands -/
theorem gr_but {a : Addr} (g : Gr h₀ P₀ h P) (hs : Heap.SameBut a h h') (ha : h₀.get? a = Option.none) (hP : P a = none) : Gr h₀ P₀ h' P :=
  ⟨fun b o e => hs.extBut b o (fun q => by subst q; rw [ha] at e; cases e) (g.up b o e), g.ext, g.new,
   fun b o e => hs.extBut b o (fun q => by subst q; rw [hP] at e; cases e) (g.snd b o e), by rw [hs.1]; exact g.sz⟩

theorem lookup_cons_ne {ρ : List (Str × D)} {x y : Str} {d e : D} (hy : y ≠ x) (q : ((x, d) :: ρ).lookup y = some e) : ρ.lookup y = some e := by
  rw [List.lookup_cons] at q
  have : (y == x) = false := beq_eq_false_iff_ne.mpr hy
  simpa only [this] using q
theorem lookup_cons_eq {ρ : List (Str × D)} {x : Str} {d e : D} (q : ((x, d) :: ρ).lookup x = some e) : e = d := by
  rw [List.lookup_cons] at q
  simpa using q.symm

theorem Frm.setLoc {x : Str} {v : Value} {m : Str → Option Value} (F : Frm S env ow h₀ P₀ n ρ h P) (hk : env.kindOf x = some .local) (r : Rep P d v) (hm : h.Ns env.locals m)
    (hn : h'.Ns env.locals (fun y => if y = x then some v else m y)) (hs : Heap.SameBut env.locals h h') : Frm S env ow h₀ P₀ n ((x, d) :: ρ) h' P := by
  have g := gr_but F.gr hs (get_none F.lnew) F.lP
  refine ⟨g, ⟨fun y e q => ?_, F.inn.base, g.snd, F.inn.fk, F.inn.eg, F.inn.eb⟩, ⟨_, hn⟩, F.lnew, F.lP, fun y hy => ?_, fun x c e => ⟨(F.clo x c e).1, by rw [hs.1]; exact (F.clo x c e).2⟩, F.inj, fun p hp => ?_, F.dist⟩
  · by_cases hy : y = x
    · subst hy
      rw [lookup_cons_eq q]
      exact ⟨v, r, .inl ⟨hk, _, hn, by simp⟩⟩
    · obtain ⟨u, ru, rd⟩ := F.inn.loc y e (lookup_cons_ne hy q)
      refine ⟨u, ru, ?_⟩
      rcases rd with ⟨a, m', n', e'⟩ | ⟨a, c, e', n'⟩
      · refine .inl ⟨a, _, hn, ?_⟩
        rw [if_neg hy]
        obtain ⟨o1, es1, ep1, g1, d1, _, f1⟩ := hm
        obtain ⟨o2, es2, ep2, g2, d2, _, f2⟩ := n'
        rw [g1] at g2; cases g2; rw [d1] at d2; cases d2
        rw [← f1, f2]; exact e'
      · exact .inr ⟨a, c, e', n'.sameBut hs (F.clo _ _ e').1⟩
  · obtain ⟨c, e, k, ⟨u, hc⟩, l, q⟩ := F.own y hy
    exact ⟨c, e, k, ⟨u, hc.sameBut hs (F.clo _ _ e).1⟩, l, q⟩
  · obtain ⟨⟨o, e, r⟩, l, q, a, b⟩ := F.led p hp
    exact ⟨⟨o, (hs.2 _ a).trans e, r⟩, l, q, a, b⟩

theorem Frm.setCell {x : Str} {v : Value} {c : Addr} (F : Frm S env ow h₀ P₀ n ρ h P) (hx : x ∈ ow) (hc : env.cells.lookup x = some c) (r : Rep P d v)
    (hn : h'.IsCell c (some v)) (hs : Heap.SameBut c h h') : Frm S env ow h₀ P₀ n ((x, d) :: ρ) h' P := by
  obtain ⟨c', e', k', ⟨u', hc'⟩, l', q'⟩ := F.own x hx
  rw [hc] at e'; cases e'
  have g := gr_but F.gr hs (get_none l') q'
  have hcl : env.locals ≠ c := Ne.symm (F.clo _ _ hc).1
  obtain ⟨m, hm⟩ := F.ns
  refine ⟨g, ⟨fun y e q => ?_, F.inn.base, g.snd, F.inn.fk, F.inn.eg, F.inn.eb⟩, ⟨m, hm.sameBut hs hcl⟩, F.lnew, F.lP, fun y hy => ?_, fun x c e => ⟨(F.clo x c e).1, by rw [hs.1]; exact (F.clo x c e).2⟩, F.inj, fun p hp => ?_, F.dist⟩
  · by_cases hy : y = x
    · subst hy
      rw [lookup_cons_eq q]
      exact ⟨v, r, .inr ⟨.inl k', c, hc, hn⟩⟩
    · obtain ⟨u, ru, rd⟩ := F.inn.loc y e (lookup_cons_ne hy q)
      refine ⟨u, ru, ?_⟩
      rcases rd with ⟨a, m', n', e'⟩ | ⟨a, c2, e2, n'⟩
      · exact .inl ⟨a, m', n'.sameBut hs hcl, e'⟩
      · exact .inr ⟨a, c2, e2, n'.sameBut hs fun q => by subst q; exact hy (F.inj _ _ _ e2 hc)⟩
  · obtain ⟨c2, e, k, ⟨u, h2⟩, l, q⟩ := F.own y hy
    refine ⟨c2, e, k, ?_, l, q⟩
    by_cases hy : c2 = c
    · subst hy; exact ⟨_, hn⟩
    · exact ⟨u, h2.sameBut hs hy⟩
  · obtain ⟨⟨o, e, r⟩, l, q, a, b⟩ := F.led p hp
    exact ⟨⟨o, (hs.2 _ (fun z => b _ _ hc z.symm)).trans e, r⟩, l, q, a, b⟩

theorem In.kindOf_fn (I : In S env ρ h P) : (env.scope.kind == .class || (env.scope.kind == .module && env.locals != env.globals)) = false := by rw [I.fk]; rfl

/-- a name is bound -/
theorem f_store {x : Str} {v : Value} {t : Nat} {Q : Unit → Shared → Prop} {E : Value → Shared → Prop} (F : Frm S env ow h₀ P₀ n ρ h P) (hk : env.kindOf x = some .local ∨ (env.kindOf x = some .cell ∧ x ∈ ow)) (r : Rep P d v) (ht : 1 ≤ t)
    (k : ∀ h' t', 1 ≤ t' → Frm S env ow h₀ P₀ n ((x, d) :: ρ) h' P → Q () (stt s0 h' t')) : wpAny (model pg w) A (storeName env x v) Q E (stt s0 h t) := by
  rcases hk with hk | ⟨hk, hx⟩
  · obtain ⟨m, hm⟩ := F.ns
    exact wpAny_storeName_local hk hm (fun h' hn hs => k h' (t + 1) (Nat.succ_pos _) (F.setLoc hk r hm hn hs)) F.inn.kindOf_fn
  · obtain ⟨c, e, _, ⟨u, hc⟩, _, _⟩ := F.own x hx
    exact wpAny_storeName_cell F.inn.fk hk e hc fun h' hn hs => k h' t ht (F.setCell hx e r hn hs)

/-! the ledger -/
theorem Frm.perm {n' : List (Addr × Mo)} (F : Frm S env ow h₀ P₀ n ρ h P) (p : n.Perm n') : Frm S env ow h₀ P₀ n' ρ h P :=
  ⟨F.gr, F.inn, F.ns, F.lnew, F.lP, F.own, F.clo, F.inj, fun q hq => F.led q (p.mem_iff.mpr hq), (p.map _).nodup_iff.mp F.dist⟩
theorem Frm.forget {p : Addr × Mo} (F : Frm S env ow h₀ P₀ (p :: n) ρ h P) : Frm S env ow h₀ P₀ n ρ h P :=
  ⟨F.gr, F.inn, F.ns, F.lnew, F.lP, F.own, F.clo, F.inj, fun q hq => F.led q (.tail _ hq), (List.nodup_cons.mp F.dist).2⟩
theorem Frm.vars {ρ' : List (Str × D)} (F : Frm S env ow h₀ P₀ n ρ h P) (k : ∀ x d, ρ'.lookup x = some d → ρ.lookup x = some d) : Frm S env ow h₀ P₀ n ρ' h P :=
  ⟨F.gr, ⟨fun x d e => F.inn.loc x d (k x d e), F.inn.base, F.inn.snd, F.inn.fk, F.inn.eg, F.inn.eb⟩, F.ns, F.lnew, F.lP, F.own, F.clo, F.inj, F.led, F.dist⟩
/-- a new thing that the frame keeps for changing -/
theorem Frm.alloc {o : Obj} {m : Mo} (F : Frm S env ow h₀ P₀ n ρ h P) (hm : MoIs P o m) (hf : o.isFreed = false) : Frm S env ow h₀ P₀ ((h.objs.size, m) :: n) ρ (h.push o) P := by
  have G := F.grow (.push F.gr.snd o)
  obtain ⟨m', hm'⟩ := F.ns
  have hnP : P h.objs.size = none := by
    cases q : P h.objs.size with
    | none => rfl
    | some o' => exact absurd (Heap.lt_size (F.gr.snd _ _ q)) (Nat.lt_irrefl _)
  refine ⟨G.gr, G.inn, G.ns, G.lnew, G.lP, G.own, G.clo, G.inj, fun p hp => ?_, ?_⟩
  · rcases List.mem_cons.mp hp with rfl | hp
    · refine ⟨⟨o, Heap.get?_push_size _ hf, hm⟩, .of F.gr.sz _, hnP, Nat.ne_of_gt hm'.lt, fun x c e z => by have := (F.clo x c e).2; rw [z] at this; exact Nat.lt_irrefl _ this⟩
    · exact G.led p hp
  · refine List.nodup_cons.mpr ⟨fun hq => ?_, F.dist⟩
    obtain ⟨p, hp, e⟩ := List.mem_map.mp hq
    obtain ⟨⟨o', e', _⟩, _⟩ := F.led p hp
    rw [e] at e'
    exact absurd (Heap.lt_size e') (Nat.lt_irrefl _)
/-- the first thing of the ledger is changed -/
theorem Frm.change {a : Addr} {m m' : Mo} {o' : Obj} (F : Frm S env ow h₀ P₀ ((a, m) :: n) ρ h P) (hw : MoNew h₀ a m → MoNew h₀ a m') (hs : Heap.SameBut a h h') (ho : h'.get? a = some o') (hm : MoIs P o' m') : Frm S env ow h₀ P₀ ((a, m') :: n) ρ h' P := by
  obtain ⟨⟨o, e, _⟩, l, q, aL, ac⟩ := F.led _ (.head _)
  have g := gr_but F.gr hs l.none q
  have hd := List.nodup_cons.mp F.dist
  obtain ⟨mm, hmm⟩ := F.ns
  refine ⟨g, ⟨fun y e q => ?_, F.inn.base, g.snd, F.inn.fk, F.inn.eg, F.inn.eb⟩, ⟨mm, hmm.sameBut hs (Ne.symm aL)⟩, F.lnew, F.lP, fun y hy => ?_,
    fun x c e => ⟨(F.clo x c e).1, by rw [hs.1]; exact (F.clo x c e).2⟩, F.inj, fun p hp => ?_, F.dist⟩
  · obtain ⟨u, ru, rd⟩ := F.inn.loc y e q
    refine ⟨u, ru, ?_⟩
    rcases rd with ⟨k, m', n', e'⟩ | ⟨k, c2, e2, n'⟩
    · exact .inl ⟨k, m', n'.sameBut hs (Ne.symm aL), e'⟩
    · exact .inr ⟨k, c2, e2, n'.sameBut hs (ac _ _ e2)⟩
  · obtain ⟨c2, e, k, ⟨u, h2⟩, l, q⟩ := F.own y hy
    exact ⟨c2, e, k, ⟨u, h2.sameBut hs (ac _ _ e)⟩, l, q⟩
  · rcases List.mem_cons.mp hp with rfl | hp
    · exact ⟨⟨o', ho, hm⟩, hw l, q, aL, ac⟩
    · obtain ⟨⟨o2, e2, r2⟩, l2, q2, a2, b2⟩ := F.led p (.tail _ hp)
      exact ⟨⟨o2, (hs.2 _ fun z => hd.1 (List.mem_map.mpr ⟨p, hp, z⟩)).trans e2, r2⟩, l2, q2, a2, b2⟩
/-- the first list of the ledger will not be changed any more -/
theorem Frm.freeze {a : Addr} {ds : List D} (F : Frm S env ow h₀ P₀ ((a, .lst ds) :: n) ρ h P) : ∃ P', Frm S env ow h₀ P₀ n ρ h P' ∧ (∀ b o, P b = some o → P' b = some o) ∧ Rep P' (.lst ds) (.ref a) := by
  obtain ⟨⟨o, e, vs, lo, rl⟩, l, q, aL, ac⟩ := F.led _ (.head _)
  have hext : ∀ b o', P b = some o' → (P.put a o) b = some o' := fun b o' eb => by
    unfold Pm.put
    rw [if_neg fun z => by subst z; rw [q] at eb; cases eb]; exact eb
  have hne : ∀ b, b ≠ a → (P.put a o) b = P b := fun b hb => by unfold Pm.put; rw [if_neg hb]
  have hsnd : Snd (P.put a o) h := fun b o' eb => by
    by_cases z : b = a
    · subst z; rw [Pm.put_self] at eb; rw [e]; exact eb
    · rw [hne b z] at eb; exact F.gr.snd b o' eb
  have hd := List.nodup_cons.mp F.dist
  refine ⟨P.put a o, ⟨⟨F.gr.up, fun b o' eb => hext _ _ (F.gr.ext b o' eb), fun b o' eb => ?_, hsnd, F.gr.sz⟩, ⟨fun y e q => ?_, fun b o' eb => hext _ _ (F.inn.base b o' eb), hsnd, F.inn.fk, F.inn.eg, F.inn.eb⟩,
    F.ns, F.lnew, ?_, fun y hy => ?_, F.clo, F.inj, fun p hp => ?_, hd.2⟩, hext, ⟨a, o, vs, rfl, Pm.put_self .., lo, rl.mono hext⟩⟩
  · by_cases z : b = a
    · subst z; exact .inr l
    · rw [hne b z] at eb; exact F.gr.new b o' eb
  · obtain ⟨u, ru, rd⟩ := F.inn.loc y e q; exact ⟨u, ru.mono hext, rd⟩
  · rw [hne _ (Ne.symm aL)]; exact F.lP
  · obtain ⟨c2, e, k, ⟨u, h2⟩, l, q⟩ := F.own y hy
    exact ⟨c2, e, k, ⟨u, h2⟩, l, by rw [hne _ (ac _ _ e)]; exact q⟩
  · obtain ⟨⟨o2, e2, r2⟩, l2, q2, a2, b2⟩ := F.led p (.tail _ hp)
    exact ⟨⟨o2, e2, r2.mono hext⟩, l2, by rw [hne _ fun z => hd.1 (List.mem_map.mpr ⟨p, hp, z⟩)]; exact q2, a2, b2⟩
end
end IK
end

/-! part B8 -/
section
open PySem PySem.W PyProof.Rows
set_option Elab.async false
set_option linter.unusedVariables false
namespace IK

/-- room to call: no exception at hand, frames and C units left -/
structure Rm (k : Nat) (A : Around) : Prop where
  hh : A.handled = none
  dp : A.depth + k < 900
  un : A.units + 3 * k < 9000
theorem Rm.deeper {k : Nat} {A : Around} (r : Rm (k + 1) A) (env : Env) : Rm k (A.deeper env) :=
  ⟨r.hh, by have := r.dp; show A.depth + 1 + k < 900; omega, by have := r.un; show A.units + 3 + 3 * k < 9000; omega⟩
theorem Rm.less {k l : Nat} {A : Around} (r : Rm k A) (h : l ≤ k) : Rm l A := ⟨r.hh, by have := r.dp; omega, by have := r.un; omega⟩
theorem Rm.room {k : Nat} {A : Around} (r : Rm k A) : A.depth < recursionLimit := by have := r.dp; unfold recursionLimit; omega
theorem Rm.units {k : Nat} {A : Around} (r : Rm k A) : A.units + 64 < cLine := by have := r.un; unfold cLine; omega
theorem Rm.units' {k : Nat} {A : Around} (r : Rm k A) : A.units < cLine := by have := r.un; unfold cLine; omega

/-! statements -/
noncomputable def Xs (w : World) (s0 : Shared) (A : Around) (env : Env) (sts : List Stmt) (h : Heap) (K : Flow → Heap → Prop) : Prop :=
  ∀ t, 1 ≤ t → ∀ (Q : Flow → Shared → Prop) (E : Value → Shared → Prop), (∀ f h' t', 1 ≤ t' → K f h' → Q f (stt s0 h' t')) → wpAny (model pg w) A (execs sts env) Q E (stt s0 h t)
noncomputable def X1 (w : World) (s0 : Shared) (A : Around) (env : Env) (st : Stmt) (h : Heap) (K : Flow → Heap → Prop) : Prop :=
  ∀ t, 1 ≤ t → ∀ (Q : Flow → Shared → Prop) (E : Value → Shared → Prop), (∀ f h' t', 1 ≤ t' → K f h' → Q f (stt s0 h' t')) → wpAny (model pg w) A (exec st env) Q E (stt s0 h t)

section
variable {w : World} {s0 : Shared} {A : Around} {S : Sta} {env : Env} {ow : List Str} {h₀ h h' : Heap} {P₀ P P' : Pm} {n : List (Addr × Mo)} {ρ : List (Str × D)} {d : D} {K K' : Flow → Heap → Prop}

theorem Xs.nil (k : K .next h) : Xs w s0 A env [] h K := fun t ht Q E q => wpAny_execs_nil (q _ h t ht k)
theorem Xs.cons {st : Stmt} {rest : List Stmt} (x : X1 w s0 A env st h (fun f h' => match f with | .next => Xs w s0 A env rest h' K | f => K f h')) : Xs w s0 A env (st :: rest) h K :=
  fun t ht Q E q => wpAny_execs_cons (x t ht _ E fun f h' t' ht' k => by
    cases f with
    | next => exact k t' ht' Q E q
    | brk => exact q _ h' t' ht' k
    | cont => exact q _ h' t' ht' k
    | ret v => exact q _ h' t' ht' k)
theorem X1.mono {st : Stmt} (x : X1 w s0 A env st h K) (k : ∀ f h', K f h' → K' f h') : X1 w s0 A env st h K' := fun t ht Q E q => x t ht Q E fun f h' t' ht' y => q f h' t' ht' (k f h' y)
theorem Xs.mono {sts : List Stmt} (x : Xs w s0 A env sts h K) (k : ∀ f h', K f h' → K' f h') : Xs w s0 A env sts h K' := fun t ht Q E q => x t ht Q E fun f h' t' ht' y => q f h' t' ht' (k f h' y)

theorem x_ret {e : Expr} {pos : Pos} {R : Value → Heap → Pm → Prop} (g : Gr h P h P) (he : Go w s0 A h P (eval e env) R) (k : ∀ v h' P', Gr h P h' P' → R v h' P' → K (.ret v) h') : X1 w s0 A env (.Return (some e) pos) h K :=
  fun t ht Q E q => wpAny_Return_some (he h P t ht g _ E fun v h' P' t' ht' g' r => q _ h' t' ht' (k v h' P' g' r))
theorem x_if {c : Expr} {body orelse : List Stmt} {pos : Pos} {b : Bool} (g : Gr h P h P) (hc : Tst w s0 A env h P c b)
    (kt : b = true → ∀ h' P', Gr h P h' P' → Xs w s0 A env body h' K) (kf : b = false → ∀ h' P', Gr h P h' P' → Xs w s0 A env orelse h' K) : X1 w s0 A env (.If c body orelse pos) h K :=
  fun t ht Q E q => wpAny_If (hc h P t ht g _ E fun v h' P' t' ht' g' r => by
    cases r
    cases b with
    | true => rw [if_pos rfl]; exact kt rfl h' P' g' t' ht' Q E q
    | false => rw [if_neg Bool.false_ne_true]; exact kf rfl h' P' g' t' ht' Q E q)
theorem x_asg {x : Str} {e : Expr} {np pos : Pos} (F : Frm S env ow h₀ P₀ n ρ h P) (hk : env.kindOf x = some .local ∨ (env.kindOf x = some .cell ∧ x ∈ ow)) (he : Ev w s0 A env h P e d)
    (k : ∀ h' P', (∀ b o, P b = some o → P' b = some o) → Frm S env ow h₀ P₀ n ((x, d) :: ρ) h' P' → K .next h') (hs : swapsWith e (some (.Name x np)) pos.line env = pure false) : X1 w s0 A env (.Assign [.Name x np] e pos) h K :=
  fun t ht Q E q => wpAny_Assign_Name (he h P t ht F.refl' _ E fun v h' P' t' ht' g' r => f_store (F.grow g') hk r ht' fun h'' t'' ht'' F' => q _ h'' t'' ht'' (k h'' P' g'.ext F')) hs
theorem x_aug {x : Str} {e : Expr} {np pos : Pos} {op : Operator} {d₁ d₂ : D} (F : Frm S env ow h₀ P₀ n ρ h P) (hk : env.kindOf x = some .local ∨ (env.kindOf x = some .cell ∧ x ∈ ow)) (hx : ρ.lookup x = some d₁) (hc : notDbg x ∧ (x == ("__classdict__" : Str)) = false)
    (he : Ev w s0 A env h P e d₂) (ho : Op2 w s0 A (inplaceOp op) d₁ d₂ d) (k : ∀ h' P', (∀ b o, P b = some o → P' b = some o) → Frm S env ow h₀ P₀ n ((x, d) :: ρ) h' P' → K .next h') : X1 w s0 A env (.AugAssign (.Name x np) op e pos) h K :=
  fun t ht Q E q => wpAny_AugAssign_Name (go_loadName F.inn hx hc h P t ht F.refl' _ E fun v₁ h₁ P₁ t₁ ht₁ g₁ r₁ => he h₁ P₁ t₁ ht₁ g₁ _ E fun v₂ h₂ P₂ t₂ ht₂ g₂ r₂ =>
    ho h₂ P₂ v₁ v₂ g₂.snd (r₁.mono g₂.ext) r₂ h₂ P₂ t₂ ht₂ (.refl g₂.snd) _ E fun v₃ h₃ P₃ t₃ ht₃ g₃ r₃ =>
      f_store (F.grow (g₁.trans (g₂.trans g₃))) hk r₃ ht₃ fun h'' t'' ht'' F' => q _ h'' t'' ht'' (k h'' P₃ (g₁.trans (g₂.trans g₃)).ext F'))
theorem x_assert {c : Expr} {msg : Option Expr} {pos : Pos} (g : Gr h P h P) (hc : Tst w s0 A env h P c true) (k : ∀ h' P', Gr h P h' P' → K .next h') : X1 w s0 A env (.Assert c msg pos) h K := by
  intro t ht Q E q
  show wpAny (model pg w) A (do standAt pos; if ← isTrue c env (eval c env) then pure Flow.next else assertFails c.pos (evalOpt msg env)) Q E (stt s0 h t)
  refine wpAny_bind (wpAny_standAt (wpAny_bind (hc h P t ht g _ E fun v h' P' t' ht' g' r => ?_)))
  cases r
  rw [if_pos rfl]
  exact wpAny_pure (q _ h' t' ht' (k h' P' g'))
theorem x_brk {pos : Pos} (k : K .brk h) : X1 w s0 A env (.Break pos) h K := fun t ht Q E q => wpAny_bind (wpAny_standAt (wpAny_pure (q _ h t ht k)))
theorem x_cont {pos : Pos} (k : K .cont h) : X1 w s0 A env (.Continue pos) h K := fun t ht Q E q => wpAny_bind (wpAny_standAt (wpAny_pure (q _ h t ht k)))
theorem x_while {c : Expr} {body : List Stmt} {pos : Pos} (I : Nat → Heap → Prop) (m : Nat) (h0 : I m h)
    (turn : ∀ m h, I m h → ∃ P b, Gr h P h P ∧ Tst w s0 A env h P c b ∧
      (b = true → ∀ h' P', Gr h P h' P' → Xs w s0 A env body h' (fun f h'' => match f with | .next | .cont => ∃ m', m' < m ∧ I m' h'' | .brk => K .next h'' | .ret v => K (.ret v) h'')) ∧
      (b = false → ∀ h' P', Gr h P h' P' → K .next h')) : X1 w s0 A env (.While c body [] pos) h K := by
  intro t ht Q E q
  refine wpAny_While (codeAny_mono (codeAny_whileLoop (R := fun r s' => match r with | .ok f => Q f s' | .error e => False) (fun m s => ∃ h t, s = stt s0 h t ∧ 1 ≤ t ∧ I m h) ?_ m ⟨h, t, rfl, ht, h0⟩) fun r s' x => by
    cases r with
    | ok f => exact x
    | error e => exact x.elim)
  rintro m _ ⟨h, t, rfl, ht, hI⟩
  obtain ⟨P, b, g, hc, kt, kf⟩ := turn m h hI
  refine hc h P t ht g _ _ fun v h' P' t' ht' g' r => ?_
  cases r
  cases b with
  | true =>
    rw [if_pos rfl]
    refine kt rfl h' P' g' t' ht' _ _ fun f h'' t'' ht'' y => ?_
    cases f with
    | next => obtain ⟨m', a, b⟩ := y; exact ⟨m', a, h'', t'', rfl, ht'', b⟩
    | cont => obtain ⟨m', a, b⟩ := y; exact ⟨m', a, h'', t'', rfl, ht'', b⟩
    | brk => exact q _ h'' t'' ht'' y
    | ret v => exact q _ h'' t'' ht'' y
  | false =>
    rw [if_neg Bool.false_ne_true]
    exact wpAny_execs_nil (q _ h' t' ht' (kf rfl h' P' g'))

/-! tuples taken apart -/
theorem go_unpack {ds : List D} {v : Value} (hh : A.handled = none) (r : Rep P (.tup ds) v) : Go w s0 A h P (unpackItems v ds.length none) (RepRL ds) :=
  Go.mk fun h₁ P₁ t ht g Q E q => by
    obtain ⟨a, vs, rfl, hl, rl⟩ := (r.mono g.ext).isTup g.snd
    have hn : ds.length = vs.toArray.size := by rw [List.size_toArray, rl.length]
    rw [hn]
    refine unpackItems_tuple (s := stt s0 h₁ t) hh hl fun h' he => ?_
    exact q _ h' P₁ t (fun sz => .same g.snd (fun b o e => he b o (Nat.ne_of_lt (Heap.lt_size e)) e) sz) fun _ => rl

theorem x_unpack2 {x y : Str} {px py tpos pos : Pos} {k0 : Nat} {e : Expr} {dx dy : D} (hh : A.handled = none) (F : Frm S env ow h₀ P₀ n ρ h P) (hx : env.kindOf x = some .local ∨ (env.kindOf x = some .cell ∧ x ∈ ow)) (hy : env.kindOf y = some .local ∨ (env.kindOf y = some .cell ∧ y ∈ ow))
    (he : Ev w s0 A env h P e (.tup [dx, dy])) (k : ∀ h' P', (∀ b o, P b = some o → P' b = some o) → Frm S env ow h₀ P₀ n ((y, dy) :: (x, dx) :: ρ) h' P' → K .next h')
    (hs : swapsWithSole [.Tuple [.Name x px, .Name y py] k0 tpos] e pos.line env = pure false) (hw : swappedStores [.Tuple [.Name x px, .Name y py] k0 tpos] e env = pure none) :
    X1 w s0 A env (.Assign [.Tuple [.Name x px, .Name y py] k0 tpos] e pos) h K := fun t ht Q E q =>
  Assign_Tuple (he h P t ht F.refl' _ E fun v h₁ P₁ t₁ ht₁ g₁ r₁ => by
    rw [assign_Tuple]
    refine wpAny_bind (wpAny_standAt ?_)
    show wpAny (model pg w) A (do assignInOrder [assign (.Name x px) env, assign (.Name y py) env] (← holding [v] (unpackItems v 2 none))) _ E _
    refine wpAny_bind (wpAny_holding (go_unpack hh r₁ h₁ P₁ t₁ ht₁ (.refl g₁.snd) _ E fun vs h₂ P₂ t₂ ht₂ g₂ r₂ => ?_))
    obtain ⟨u, z, rfl, ru, rz⟩ := r₂.two
    show wpAny (model pg w) A (do holding [z] (assign (.Name x px) env u); holding [] (assign (.Name y py) env z); pure ()) _ E _
    refine wpAny_bind (wpAny_holding (wpAny_assign_Name (f_store (F.grow (g₁.trans g₂)) hx ru ht₂ fun h₃ t₃ ht₃ F₃ => ?_)))
    exact wpAny_bind (wpAny_holding (wpAny_assign_Name (f_store F₃ hy rz ht₃ fun h₄ t₄ ht₄ F₄ => wpAny_pure (q _ h₄ t₄ ht₄ (k h₄ P₂ (g₁.trans g₂).ext F₄)))))) hs hw
theorem x_unpack3 {x y z : Str} {px py pz tpos pos : Pos} {k0 : Nat} {e : Expr} {dx dy dz : D} (hh : A.handled = none) (F : Frm S env ow h₀ P₀ n ρ h P) (hx : env.kindOf x = some .local ∨ (env.kindOf x = some .cell ∧ x ∈ ow)) (hy : env.kindOf y = some .local ∨ (env.kindOf y = some .cell ∧ y ∈ ow))
    (hz : env.kindOf z = some .local ∨ (env.kindOf z = some .cell ∧ z ∈ ow))
    (he : Ev w s0 A env h P e (.tup [dx, dy, dz])) (k : ∀ h' P', (∀ b o, P b = some o → P' b = some o) → Frm S env ow h₀ P₀ n ((z, dz) :: (y, dy) :: (x, dx) :: ρ) h' P' → K .next h')
    (hs : swapsWithSole [.Tuple [.Name x px, .Name y py, .Name z pz] k0 tpos] e pos.line env = pure false) (hw : swappedStores [.Tuple [.Name x px, .Name y py, .Name z pz] k0 tpos] e env = pure none) :
    X1 w s0 A env (.Assign [.Tuple [.Name x px, .Name y py, .Name z pz] k0 tpos] e pos) h K := fun t ht Q E q =>
  Assign_Tuple (he h P t ht F.refl' _ E fun v h₁ P₁ t₁ ht₁ g₁ r₁ => by
    rw [assign_Tuple]
    refine wpAny_bind (wpAny_standAt ?_)
    show wpAny (model pg w) A (do assignInOrder [assign (.Name x px) env, assign (.Name y py) env, assign (.Name z pz) env] (← holding [v] (unpackItems v 3 none))) _ E _
    refine wpAny_bind (wpAny_holding (go_unpack hh r₁ h₁ P₁ t₁ ht₁ (.refl g₁.snd) _ E fun vs h₂ P₂ t₂ ht₂ g₂ r₂ => ?_))
    obtain ⟨u, v', q', rfl, ru, rv, rq⟩ := r₂.three
    show wpAny (model pg w) A (do holding [v', q'] (assign (.Name x px) env u); holding [q'] (assign (.Name y py) env v'); holding [] (assign (.Name z pz) env q'); pure ()) _ E _
    refine wpAny_bind (wpAny_holding (wpAny_assign_Name (f_store (F.grow (g₁.trans g₂)) hx ru ht₂ fun h₃ t₃ ht₃ F₃ => ?_)))
    refine wpAny_bind (wpAny_holding (wpAny_assign_Name (f_store F₃ hy rv ht₃ fun h₄ t₄ ht₄ F₄ => ?_)))
    exact wpAny_bind (wpAny_holding (wpAny_assign_Name (f_store F₄ hz rq ht₄ fun h₅ t₅ ht₅ F₅ => wpAny_pure (q _ h₅ t₅ ht₅ (k h₅ P₂ (g₁.trans g₂).ext F₅)))))) hs hw
/-- x, y = a, b: the stores are swapped -/
theorem x_swap2 {x y : Str} {px py tpos pos : Pos} {k0 : Nat} {e : Expr} {dx dy : D} (hh : A.handled = none) (F : Frm S env ow h₀ P₀ n ρ h P) (hx : env.kindOf x = some .local) (hy : env.kindOf y = some .local)
    (he : Ev w s0 A env h P e (.tup [dx, dy])) (k : ∀ h' P', (∀ b o, P b = some o → P' b = some o) → Frm S env ow h₀ P₀ n ((x, dx) :: (y, dy) :: ρ) h' P' → K .next h')
    (hs : swapsWithSole [.Tuple [.Name x px, .Name y py] k0 tpos] e pos.line env = pure false) (hw : swappedStores [.Tuple [.Name x px, .Name y py] k0 tpos] e env = pure (some [x, y])) :
    X1 w s0 A env (.Assign [.Tuple [.Name x px, .Name y py] k0 tpos] e pos) h K := fun t ht Q E q =>
  Assign_Tuple_swapped (he h P t ht F.refl' _ E fun v h₁ P₁ t₁ ht₁ g₁ r₁ => by
    refine go_unpack hh r₁ h₁ P₁ t₁ ht₁ (.refl g₁.snd) _ E fun vs h₂ P₂ t₂ ht₂ g₂ r₂ => ?_
    obtain ⟨u, z, rfl, ru, rz⟩ := r₂.two
    show wpAny (model pg w) A (do holding [u] (bindName env y z); holding [] (bindName env x u); pure ()) _ E _
    refine wpAny_bind (wpAny_holding (wpAny_bindName (f_store (F.grow (g₁.trans g₂)) (.inl hy) rz ht₂ fun h₃ t₃ ht₃ F₃ => ?_)))
    exact wpAny_bind (wpAny_holding (wpAny_bindName (f_store F₃ (.inl hx) ru ht₃ fun h₄ t₄ ht₄ F₄ => wpAny_pure (q _ h₄ t₄ ht₄ (k h₄ P₂ (g₁.trans g₂).ext F₄)))))) hs hw

end
end IK
end

/-! part B9 -/
section
open PySem PySem.W PyProof.Rows
set_option Elab.async false
set_option linter.unusedVariables false
namespace IK

/-! the defs of the text, by their place in it -/
noncomputable def defAt (n : Nat) : Stmt := pg.main.body.getD n (.Pass ⟨0, 0, 0, 0⟩)
noncomputable def bodyOf : Stmt → List Stmt
  | .FunctionDef _ _ b _ _ _ _ _ _ _ => b
  | _ => []
noncomputable def parOf : Stmt → Arguments
  | .FunctionDef _ a _ _ _ _ _ _ _ _ => a
  | _ => ⟨[], [], none, [], [], none, []⟩
noncomputable def scoOf : Stmt → Scope
  | .FunctionDef _ _ _ _ _ _ s _ _ _ => s
  | _ => { kind := .function, names := [], isGenerator := false, isCoroutine := false }
/-- a method of a class of the text -/
noncomputable def mthAt (n : Nat) : Stmt := match defAt 23 with
  | .ClassDef _ _ _ b _ _ _ _ _ _ _ => b.getD n (.Pass ⟨0, 0, 0, 0⟩)
  | _ => .Pass ⟨0, 0, 0, 0⟩
noncomputable abbrev fenv (name : Str) (st : Stmt) (L a : Addr) (cd : Value) : Env := newEnv (scoOf st) L mainGlobals (cellsFrom (L + 1) (scoOf st).names []) (name ++ ".<locals>.") (some a) cd none builtinsNs

structure FnAt (S : Sta) (name : Str) (st : Stmt) (a : Addr) (cd : Value) : Prop where
  mg : S.mg name = some (.ref a)
  ob : ∃ o pm doc, S.hb.get? a = some o ∧ o.data = .func (Calls.docDef name (parOf st) (bodyOf st) (scoOf st) pm cd doc)
  cr : S.hb.CodeRec cd name

theorem bindL_out {kd : Str → Option NameKind} {x : Str} : ∀ (r : List (Str × Value)) (m : Str → Option Value), x ∉ r.map (·.1) → bindL kd r m x = m x
  | [], _, _ => rfl
  | (n, v) :: r, m, h => by
    unfold bindL
    rw [bindL_out r _ fun q => h (List.mem_cons_of_mem _ q)]
    have hx : x ≠ n := fun e => h (by rw [e]; exact .head _)
    split
    · simp [hx]
    · rfl
theorem bindC_out {kd : Str → Option NameKind} {x : Str} : ∀ (r : List (Str × Value)) (m : Str → Option Value), x ∉ r.map (·.1) → bindC kd r m x = m x
  | [], _, _ => rfl
  | (n, v) :: r, m, h => by
    unfold bindC
    rw [bindC_out r _ fun q => h (List.mem_cons_of_mem _ q)]
    have hx : x ≠ n := fun e => h (by rw [e]; exact .head _)
    split
    · rfl
    · simp [hx]
theorem bindL_in {kd : Str → Option NameKind} {x : Str} {v : Value} : ∀ (r : List (Str × Value)) (m : Str → Option Value), (r.map (·.1)).Nodup → r.lookup x = some v → kd x = some .local → bindL kd r m x = some v
  | [], _, _, h, _ => by cases h
  | (n, u) :: r, m, hn, h, hk => by
    unfold bindL
    have hn' := List.nodup_cons.mp hn
    by_cases hx : x = n
    · subst hx
      rw [List.lookup_cons] at h
      simp at h; subst h
      rw [bindL_out r _ hn'.1, if_pos hk]; simp
    · have : (x == n) = false := beq_eq_false_iff_ne.mpr hx
      rw [List.lookup_cons, this] at h
      exact bindL_in r _ hn'.2 h hk
theorem bindC_in {kd : Str → Option NameKind} {x : Str} {v : Value} : ∀ (r : List (Str × Value)) (m : Str → Option Value), (r.map (·.1)).Nodup → r.lookup x = some v → kd x = some .cell → bindC kd r m x = some v
  | [], _, _, h, _ => by cases h
  | (n, u) :: r, m, hn, h, hk => by
    unfold bindC
    have hn' := List.nodup_cons.mp hn
    by_cases hx : x = n
    · subst hx
      rw [List.lookup_cons] at h
      simp at h; subst h
      rw [bindC_out r _ hn'.1, if_neg (by rw [hk]; decide)]; simp
    · have : (x == n) = false := beq_eq_false_iff_ne.mpr hx
      rw [List.lookup_cons, this] at h
      exact bindC_in r _ hn'.2 h hk
theorem zip_lookup {P : Pm} {x : Str} {d : D} : ∀ {names : List Str} {ds : List D} {vs : List Value}, RepL P ds vs → (names.zip ds).lookup x = some d → ∃ v, (names.zip vs).lookup x = some v ∧ Rep P d v
  | [], _, _, _, h => by cases h
  | _ :: _, [], _, _, h => by cases h
  | n :: ns, e :: ds, vs, ⟨v, r, q, a, b⟩, h => by
    subst q
    simp only [List.zip_cons_cons, List.lookup_cons] at h ⊢
    cases hx : x == n with
    | true => rw [hx] at h; simp only at h ⊢; cases h; exact ⟨v, rfl, a⟩
    | false => rw [hx] at h; simp only at h ⊢; exact zip_lookup b h
theorem lookup_mem_names {x : Str} {d : D} : ∀ {names : List Str} {ds : List D}, (names.zip ds).lookup x = some d → x ∈ names
  | [], _, h => by cases h
  | _ :: _, [], h => by cases h
  | n :: ns, e :: ds, h => by
    simp only [List.zip_cons_cons, List.lookup_cons] at h
    cases hx : x == n with
    | true => rw [eq_of_beq hx]; exact .head _
    | false => rw [hx] at h; exact .tail _ (lookup_mem_names h)
theorem map_zip_fst {names : List Str} {vs : List Value} (h : vs.length = names.length) : (names.zip vs).map (·.1) = names := by
  rw [List.map_fst_zip (by omega)]

section
variable {w : World} {s0 : Shared} {A : Around} {S : Sta} {h : Heap} {P : Pm}

/-- what a def must be looked at for -/
structure DefOk (st : Stmt) (names : List Str) (ow : List Str) : Prop where
  nd : names.Nodup
  kinds : ∀ x ∈ names, (scoOf st).names.lookup x = some .local ∨ ((scoOf st).names.lookup x = some .cell ∧ x ∈ ow)
  cells : ∀ x ∈ ow, (scoOf st).names.lookup x = some .cell
  co : (scoOf st).isCoroutine = false
  gen : (scoOf st).isGenerator = false
  fk : (scoOf st).kind = .function

theorem go_call {name : Str} {st : Stmt} {a : Addr} {cd : Value} {names ow : List Str} {ds : List D} {vs : List Value} {k : Nat} {R : Value → Heap → Pm → Prop} (f : FnAt S name st a cd) (ok : DefOk st names ow) (rm : Rm (k + 1) A)
    (base : ∀ b o, S.hb.get? b = some o → P b = some o) (r : RepL P ds vs) (hl : ds.length = names.length)
    (hb : ∀ pm doc, bindArgs (Calls.docDef name (parOf st) (bodyOf st) (scoOf st) pm cd doc) ⟨vs, []⟩ = pure (names.zip vs))
    (body : ∀ h₁ P₁ L h₂, Gr h P h₁ P₁ → Frm S (fenv name st L a cd) ow h₁ P₁ [] (names.zip ds) h₂ P₁ → Rm k (A.deeper (fenv name st L a cd)) →
      Xs w s0 (A.deeper (fenv name st L a cd)) (fenv name st L a cd) (bodyOf st) h₂ (fun fl h' => ∃ P', Gr h₁ P₁ h' P' ∧ R (match fl with | .ret v => v | _ => .none) h' P')) :
    Go w s0 A h P (call (.ref a) vs) R := by
  intro h₁ P₁ t ht g Q E q
  obtain ⟨o, pm, doc, ho, hd⟩ := f.ob
  have top : ∀ b o, S.hb.get? b = some o → h₁.get? b = some o := fun b o e => g.snd b o (g.ext b o (base b o e))
  have hvl : vs.length = names.length := r.length.trans hl
  have hcr : h₁.CodeRec cd name := by obtain ⟨c, oc, vs', tq, e1, e2, e3⟩ := f.cr; exact ⟨c, oc, vs', tq, e1, top _ _ e2, e3⟩
  refine wpAny_call (codeAny_call_function (s := stt s0 h₁ t) rm.room (top _ _ ho) hd ok.co ok.gen rfl hcr ?_)
  rw [hb pm doc]
  refine wpAny_pure (any_late (wpAny_newFunctionEnv_cells ok.fk ?_ fun env he s₁ ic late => ?_))
  · intro x hx
    have hx' : x.1 ∈ names := by rw [← map_zip_fst hvl]; exact List.mem_map_of_mem hx
    rcases ok.kinds _ hx' with e | ⟨e, _⟩
    · exact .inl e
    · exact .inr ⟨e, cellsFrom_some _ _ _ (.inl e)⟩
  · subst he
    obtain ⟨⟨⟨h₂, t₂, rfl⟩, ns, keep, fresh⟩, cell, apart, above⟩ := ic
    have ht₂ : 1 ≤ t₂ := Nat.le_trans ht late.1
    have hsz : h₁.objs.size ≤ h₂.objs.size := late.2
    have noneP : ∀ b, h₁.objs.size ≤ b → P₁ b = none := fun b hb => by
      cases e : P₁ b with
      | none => rfl
      | some o' => exact absurd (Heap.lt_size (g.snd _ _ e)) (Nat.not_lt.mpr hb)
    have gg : Gr h₁ P₁ h₂ P₁ := .same g.snd keep hsz
    have hnames : ((names.zip vs).map (·.1)).Nodup := by rw [map_zip_fst hvl]; exact ok.nd
    refine ⟨S.lim.keeps fun b o e => keep _ _ (top b o e), codeAny_func ?_⟩
    have F : Frm S (fenv name st h₁.objs.size a cd) ow h₁ P₁ [] (names.zip ds) h₂ P₁ := by
      refine ⟨gg, ⟨fun x d e => ?_, fun b o e => g.ext b o (base b o e), gg.snd, ok.fk, rfl, rfl⟩, ⟨_, ns⟩, Nat.le_refl _, noneP _ (Nat.le_refl _), fun x hx => ?_, fun x c e => ?_, fun x y c e1 e2 => ?_, fun p hp => (nomatch hp), List.nodup_nil⟩
      · obtain ⟨v, hv, rv⟩ := zip_lookup (r.mono g.ext) e
        refine ⟨v, rv, ?_⟩
        rcases ok.kinds x (lookup_mem_names e) with k1 | ⟨k1, hxo⟩
        · exact .inl ⟨k1, _, ns, bindL_in _ _ hnames hv k1⟩
        · obtain ⟨c, hc⟩ := Option.isSome_iff_exists.mp (cellsFrom_some (x := x) (scoOf st).names (h₁.objs.size + 1) [] (.inl k1))
          have := cell x c hc
          rw [bindC_in (names.zip vs) (fun _ => none) hnames hv k1] at this
          exact .inr ⟨.inl k1, c, hc, this⟩
      · obtain ⟨c, hc⟩ := Option.isSome_iff_exists.mp (cellsFrom_some (x := x) (scoOf st).names (h₁.objs.size + 1) [] (.inl (ok.cells x hx)))
        have hlt : h₁.objs.size ≤ c := Nat.le_of_lt (above x c (mem_of_lookup hc))
        exact ⟨c, hc, ok.cells x hx, ⟨_, cell x c hc⟩, hlt, noneP _ hlt⟩
      · exact ⟨Nat.ne_of_gt (above x c (mem_of_lookup e)), (cell x c e).lt⟩
      · exact name_of_addr apart (mem_of_lookup e1) (mem_of_lookup e2)
    refine wpAny_mono (body h₁ P₁ h₁.objs.size h₂ g F (rm.deeper _) t₂ ht₂ (fun fl s' => ∃ h' t', s' = stt s0 h' t' ∧ 1 ≤ t' ∧ ∃ P', Gr h₁ P₁ h' P' ∧ R (match fl with | .ret v => v | _ => .none) h' P') (fun _ _ => False) fun fl h' t' ht' y => ⟨h', t', rfl, ht', y⟩) (fun fl s' y => ?_) fun _ _ y => y.elim
    obtain ⟨h', t', rfl, ht', P', g', rr⟩ := y
    exact q _ h' P' t' ht' g' rr

/-- a def's contract: what it gives on data (k: how deep it calls) -/
noncomputable def FnSpec (w : World) (s0 : Shared) (S : Sta) (k : Nat) (name : Str) (ds : List D) (R : Value → Heap → Pm → Prop) : Prop :=
  ∃ st a cd, FnAt S name st a cd ∧ ∀ (A : Around), Rm k A → ∀ (h : Heap) (P : Pm) vs, (∀ b o, S.hb.get? b = some o → P b = some o) → RepL P ds vs → Go w s0 A h P (call (.ref a) vs) R

theorem ev_call {env : Env} {ρ : List (Str × D)} {x : Str} {np pos : Pos} {args : List Expr} {ds : List D} {k : Nat} {R : Value → Heap → Pm → Prop} (f : FnSpec w s0 S k x ds R) (rm : Rm k A) (I : In S env ρ h P) (hk : env.kindOf x = some .globalImplicit) (hd : notDbg x)
    (ha : EvL w s0 A env h P pos args ds) (hp : plainArgs args = true) : Go w s0 A h P (eval (.Call (.Name x np) args [] pos) env) R := by
  obtain ⟨st, a, cd, fa, go⟩ := f
  obtain ⟨o, pm, doc, ho, hf⟩ := fa.ob
  exact ev_callF I hk fa.mg hd ho hf ha hp fun h₁ P₁ vs g r => go A rm h₁ P₁ vs (fun b o e => g.ext b o (I.base b o e)) r
end
end IK
end

/-! part H0 -/
section
open PySem PySem.W PyProof.Rows
set_option Elab.async false
set_option linter.unusedVariables false
set_option maxRecDepth 100000
namespace IK
noncomputable def ent (P : Params) (x : String) (t : Nat) (v : Value) : DictEntry := { hash := PyData.keyHash P (Str.ofString x), key := .str (Str.ofString x) t, val := v }
noncomputable def es3 (P : Params) : Array DictEntry := #[ent P "__name__" 165 (.str (Str.ofString "law_ik0035_01") 673), ent P "__doc__" 166 (.none), ent P "__package__" 167 (.none), ent P "__loader__" 168 (.builtin "__main__.__loader__#opaque"), ent P "__spec__" 169 (.none), ent P "__annotations__" 170 (.ref 6), ent P "__builtins__" 171 (.ref 4), ent P "__file__" 173 (.str (Str.ofString "/claim/cut.py") 172), ent P "__cached__" 174 (.none), ent P "_sre" 275 (.ref 12), ent P "_wall" 288 (.ref 38), ent P "_twin_re_1" 328 (.ref 43), ent P "translate" 337 (.ref 50), ent P "_special_chars_map" 485 (.ref 52), ent P "escape" 492 (.ref 62), ent P "_translate" 513 (.ref 69), ent P "_join_translated_parts" 526 (.ref 76), ent P "sep" 528 (.str (Str.ofString "/") 527), ent P "_kind" 539 (.ref 83), ent P "_fspath" 548 (.ref 90), ent P "splitext" 560 (.ref 97), ent P "_c_path" 573 (.ref 104), ent P "_shelf_fresh" 580 (.ref 111), ent P "_splitroot" 589 (.ref 118), ent P "basename" 597 (.ref 125), ent P "_normpath" 612 (.ref 132), ent P "normpath" 620 (.ref 139), ent P "_Ignore" 662 (.ref 162), ent P "_modname" 672 (.ref 173), ent P "_law_drawn" 680 (.ref 178), ent P "_law_takes" 686 (.ref 183), ent P "_law_read" 693 (.ref 190), ent P "_law_items" 703 (.ref 197), ent P "_law_rows" 709 (.ref 202), ent P "_law_matches" 715 (.ref 207), ent P "_law_crooked" 723 (.ref 214), ent P "_law_stem" 731 (.ref 221), ent P "law" 737 (.ref 226)]
noncomputable def es161 (P : Params) : Array DictEntry := #[ent P "__module__" 630 (.str (Str.ofString "cpy313.trace") 621), ent P "__firstlineno__" 634 (.int 200 633), ent P "__init__" 640 (.ref 152), ent P "names" 651 (.ref 159), ent P "__static_attributes__" 655 (.ref 160), ent P "__dict__" 657 (.ref 163), ent P "__weakref__" 659 (.ref 164), ent P "__doc__" 660 (.none)]
noncomputable def esc1 (c : Nat) (t u : Nat) : DictEntry := { hash := (c : Int), key := .int (c : Int) t, val := .str ⟨#[92, c]⟩ u }
noncomputable def es52 : Array DictEntry := #[esc1 40 341 345, esc1 41 347 351, esc1 91 353 357, esc1 93 359 363, esc1 123 365 369, esc1 125 371 375, esc1 63 377 381, esc1 42 383 387, esc1 43 389 393, esc1 45 395 399, esc1 124 401 405, esc1 94 407 411, esc1 36 413 417, esc1 92 419 423, esc1 46 425 429, esc1 38 431 435, esc1 126 437 441, esc1 35 443 447, esc1 32 449 453, esc1 9 455 459, esc1 10 461 465, esc1 13 467 471, esc1 11 473 477, esc1 12 479 483]
noncomputable def ob3 (P : Params) : Obj := { cls := .type "dict", data := .dict (es3 P) 38 }
noncomputable def ob161 (P : Params) : Obj := { cls := .type "dict", data := .dict (es161 P) 4 }
noncomputable def ob52 : Obj := { cls := .type "dict", data := .dict es52 24 }
noncomputable def ob42 : Obj := { cls := .type "tuple", data := .seq #[.int 14 0, .int 14 0, .int 4 0, .int 1 0, .int 1 0, .int 9 0, .int 0 0, .int 64 0, .int 0 0, .int 1342177280 0, .int 0 0, .int 0 0, .int 0 0, .int 0 0, .int 0 0, .int 17 0, .int 0 0, .int 13 0, .int 11 0, .int 9 0, .int 0 0, .int 64 0, .int 0 0, .int 1342177280 0, .int 0 0, .int 0 0, .int 0 0, .int 0 0, .int 0 0, .int 17 0, .int 1 0, .int 1 0] }
noncomputable def ob43 : Obj := { cls := .type "re.Pattern", data := .fields #[.str (Str.ofString "([&~|])") 292, .int 32 327, .int 1 0, .none, .none, .ref 42, .int 0 0] }
noncomputable def ob147 : Obj := { cls := .type "tuple", data := .seq #[.none, .none] }
noncomputable def ob151 : Obj := { cls := .type "code", data := .fields #[.str (Str.ofString "__init__") 635, .str (Str.ofString "_Ignore.__init__") 636, .str (Str.ofString "/claim/cut.py") 637, .int 202 0, .int 3 0, .int 0 0, .int 0 0, .int 3 0, .ref 148, .bool true, .int 276 0, .ref 149, .none, .none, .none, .ref 150, .int 638 0, .int 202 0, .str (Str.ofString "/claim/cut.py") 639] }
noncomputable def ob158 : Obj := { cls := .type "code", data := .fields #[.str (Str.ofString "names") 641, .str (Str.ofString "_Ignore.names") 642, .str (Str.ofString "/claim/cut.py") 643, .int 207 0, .int 3 0, .int 0 0, .int 0 0, .int 3 0, .ref 153, .bool true, .int 276 0, .ref 154, .none, .ref 155, .ref 156, .ref 157, .int 649 0, .int 207 0, .str (Str.ofString "/claim/cut.py") 650] }
noncomputable def ob162 : Obj := { cls := .type "type", data := .cls { name := Str.ofString "_Ignore", bases := [.type "object"], mro := [.ref 162, .type "object"], ns := 161, qualname := Str.ofString "_Ignore" }, slots := #[none, none, some (.str (Str.ofString "_Ignore") 623), some (.str (Str.ofString "_Ignore") 631), some (.builtin "object.__new__"), some (.bool true)] }
noncomputable def ob152 : Obj := { cls := .type "function", data := .func { name := Str.ofString "__init__", qualname := Str.ofString "_Ignore.__init__", params := parOf (mthAt 0), body := .stmts (bodyOf (mthAt 0)), scope := scoOf (mthAt 0), globals := 3, closure := [], defaults := .ref 147, kwdefaults := .none, pyModule := .str (Str.ofString "cpy313.trace") 621, code := .ref 151 } }
noncomputable def ob159 : Obj := { cls := .type "function", data := .func { name := Str.ofString "names", qualname := Str.ofString "_Ignore.names", params := parOf (mthAt 1), body := .stmts (bodyOf (mthAt 1)), scope := scoOf (mthAt 1), globals := 3, closure := [], defaults := .none, kwdefaults := .none, pyModule := .str (Str.ofString "cpy313.trace") 621, code := .ref 158 } }
noncomputable def kfr (P : Params) : Frag := [(3, ob3 P), (42, ob42), (43, ob43), (52, ob52), (147, ob147), (151, ob151), (152, ob152), (158, ob158), (159, ob159), (161, ob161 P), (162, ob162)]
noncomputable abbrev kas : List Addr := [3, 42, 43, 52, 147, 151, 152, 158, 159, 161, 162]
end IK
end

/-! part H1 -/
section
open PySem PySem.W PyProof.Rows
set_option Elab.async false
set_option linter.unusedVariables false
set_option maxRecDepth 1000000
set_option maxHeartbeats 8000000
namespace IK
noncomputable def vw : Program := view pg [0,1,3,4,6,7,9,10,11,13,14,15,16,17,18,19,20,21,23,24,26,27,28,29,30,31,32,33,34]
noncomputable abbrev lse : List Str := ["_twin_re_1", "_special_chars_map"]
noncomputable abbrev recs : WRecords := RowW.records PySem.Challenge.rw_ik0035_01.row.toRowW
noncomputable abbrev seenX (s : Shared) : Bool := xlAt vw [] s && recOk recs s
noncomputable abbrev kH : Hook := kHook kfr kas (fun _ => rfl)
/-! the library's quick forms of what the head runs -/
noncomputable def topFromQ (p : Program) (w : World) (N : Nat) (s₀ : Shared) : Option Shared :=
  match s₀.heap.isNs mainGlobals && s₀.gens.size == 0 with
  | true => (PySem.W.Fast.tw14082659384304107361 PySem.W.Fast.tw14364793385576792824 p w s₀.heap.objs.size (s₀.heap.nsMap mainGlobals "__annotations__") N s₀ (topStub p)).bind fun s₁ => match staticsOk (importedModules p.main.body) s₀.heap s₁.heap && namesBound p s₁.heap && gensDone s₁ && laidKept s₀.heap s₁.heap with
      | true => some s₁
      | false => none
  | false => none
noncomputable def openQ (p : Program) (w : World) (N : Nat) : Option Shared :=
  ((PySem.W.Fast.tw10274390034422433532 PySem.W.Fast.tw14364793385576792824 (opening p) w N (PySem.W.Fast.tw1435165496053646825 (opening p)).1 (PySem.W.Fast.tw1435165496053646825 (opening p)).2).bind (PySem.W.Fast.tw14289696077712309145 p)).bind (topFromQ p w N)
theorem openQ_eq (p : Program) (w : World) (N : Nat) : openEnds treeTable p w N = openQ p w N := by
  unfold openEnds fencedOpening openQ
  rw [← PySem.W.Fast.te14364793385576792824, ← PySem.W.Fast.te10274390034422433532, ← PySem.W.Fast.te1435165496053646825, ← PySem.W.Fast.te14289696077712309145]
  congr 1
  funext s₀
  unfold topFrom topFromQ
  rw [← PySem.W.Fast.te14364793385576792824, ← PySem.W.Fast.te14082659384304107361]
  rfl
theorem way00 (w : World) : (openQ pg ((w.withFollow "special-get-raises" false).withFollow "comprehension-iter-twice" false) 4902).map (fun s => (openSeen vw lse (importedModules pg.main.body) seenX true s, kas.map s.heap.get?)) = some (openGood vw lse, (kfr ((w.withFollow "special-get-raises" false).withFollow "comprehension-iter-twice" false).params).map fun p => some p.2) := by kernel_rfl
theorem way01 (w : World) : (openQ pg ((w.withFollow "special-get-raises" false).withFollow "comprehension-iter-twice" true) 4902).map (fun s => (openSeen vw lse (importedModules pg.main.body) seenX true s, kas.map s.heap.get?)) = some (openGood vw lse, (kfr ((w.withFollow "special-get-raises" false).withFollow "comprehension-iter-twice" true).params).map fun p => some p.2) := by kernel_rfl
theorem way10 (w : World) : (openQ pg ((w.withFollow "special-get-raises" true).withFollow "comprehension-iter-twice" false) 4902).map (fun s => (openSeen vw lse (importedModules pg.main.body) seenX true s, kas.map s.heap.get?)) = some (openGood vw lse, (kfr ((w.withFollow "special-get-raises" true).withFollow "comprehension-iter-twice" false).params).map fun p => some p.2) := by kernel_rfl
theorem way11 (w : World) : (openQ pg ((w.withFollow "special-get-raises" true).withFollow "comprehension-iter-twice" true) 4902).map (fun s => (openSeen vw lse (importedModules pg.main.body) seenX true s, kas.map s.heap.get?)) = some (openGood vw lse, (kfr ((w.withFollow "special-get-raises" true).withFollow "comprehension-iter-twice" true).params).map fun p => some p.2) := by kernel_rfl
noncomputable def LP (w : World) : Prop := (openQ pg w 4902).map (fun s => (openSeen vw lse (importedModules pg.main.body) seenX true s, kas.map s.heap.get?)) = some (openGood vw lse, (kfr w.params).map fun p => some p.2)
theorem allWays : ∀ w, LP w :=
  byRow2 (P := LP) "comprehension-iter-twice" (byRow2 (P := fun w => LP (w.withFollow "comprehension-iter-twice" false)) "special-get-raises" way00 way10) (byRow2 (P := fun w => LP (w.withFollow "comprehension-iter-twice" true)) "special-get-raises" way01 way11)
theorem left : LeftO PySem.Challenge.rw_ik0035_01.row.prog vw lse seenX (Hook.obs kH) (Hook.val kH) 4902 := fun w => by
  have h := allWays w
  unfold LP at h
  rw [← openQ_eq] at h
  exact h
theorem wellSaidQ : PySem.W.Fast.tw9446332074065402090 PySem.Challenge.rw_ik0035_01 = true := by kernel_rfl
theorem wellSaid : PySem.Challenge.rw_ik0035_01.wellSaid = true := (congrFun PySem.W.Fast.te9446332074065402090 _).trans wellSaidQ
end IK
end

/-! part B10 -/
section
open PySem PySem.W PyProof.Rows
set_option Elab.async false
set_option linter.unusedVariables false
namespace IK

/-! ## things that are iterated -/
noncomputable def It (w : World) (A : Around) (I : Addr) (wr : List Addr) (P₀ : Pm) (xs : List D) (St : Nat → Heap → Prop) : Prop :=
  ∃ fp Pv, Walks pg w A I fp wr xs.length Pv St ∧ (∀ b ∈ fp, b ∈ wr ∨ ∃ o, P₀ b = some o) ∧
    (∀ i v (P : Pm) d, (∀ b o, P₀ b = some o → P b = some o) → Pv i v → xs[i]? = some d → Rep P d v) ∧ wr.Nodup ∧ (∀ i h, St i h → ∀ b ∈ wr, ∃ o, h.get? b = some o)

/-- e is iterated over xs -/
noncomputable def Ibl (w : World) (s0 : Shared) (A : Around) (env : Env) (h : Heap) (P : Pm) (e : Expr) (xs : List D) : Prop :=
  ∀ h₁ P₁ t, 1 ≤ t → Gr h P h₁ P₁ → ∀ (Q : Value → Shared → Prop) (E : Value → Shared → Prop),
    (∀ I wr St h₂ P₂ t₂, 1 ≤ t₂ → Gr h₁ P₁ h₂ P₂ → It w A I wr P₂ xs St → St 0 h₂ → (∀ b ∈ wr, h₁.objs.size ≤ b ∧ P₂ b = none) → Q (.ref I) (stt s0 h₂ t₂)) →
    wpAny (model pg w) A (eval e env) (fun x s₁ => wpAny (model pg w) A (pyIter x) Q E s₁) E (stt s0 h₁ t)

section
variable {w : World} {s0 : Shared} {A : Around} {S : Sta} {env : Env} {ρ : List (Str × D)} {h : Heap} {P : Pm}

theorem none_new {h : Heap} {P : Pm} (s : Snd P h) {b : Addr} (hb : h.objs.size ≤ b) : P b = none := by
  cases e : P b with
  | none => rfl
  | some o' => exact absurd (Heap.lt_size (s _ _ e)) (Nat.not_lt.mpr hb)

theorem ibl_list {e : Expr} {xs : List D} (hh : A.handled = none) (he : Ev w s0 A env h P e (.lst xs)) : Ibl w s0 A env h P e xs := by
  intro h₁ P₁ t ht g Q E q
  refine he h₁ P₁ t ht g _ E fun v h₂ P₂ t₂ ht₂ g₂ r => ?_
  obtain ⟨a, o, vs, rfl, hp, ⟨n, rfl⟩, rl⟩ := r
  have hl : h₂.IsList a vs.toArray := ⟨_, g₂.snd _ _ hp, rfl, n, rfl⟩
  have halt : a < h₂.objs.size := Heap.lt_size (g₂.snd _ _ hp)
  refine wpAny_pyIter_list (s := stt s0 h₂ t₂) hl (q h₂.objs.size [h₂.objs.size] (fun i h => h.IsListIter h₂.objs.size a i ∧ h.IsList a vs.toArray) _ P₂ t₂ ht₂ (g₂.trans (.push g₂.snd _)) ?_ ?_ ?_)
  · have hn : xs.length = vs.toArray.size := by rw [List.size_toArray, rl.length]
    refine ⟨[h₂.objs.size, a], fun i v => vs.toArray[i]? = some v, hn ▸ Walks.list hh h₂.objs.size a (Nat.ne_of_lt halt) vs.toArray, fun b hb => ?_, fun i v P' d hle hv hd => ?_, by simp, fun i h st b hb => ?_⟩
    · rcases List.mem_cons.mp hb with rfl | hb
      · exact .inl (by simp)
      · rcases List.mem_cons.mp hb with rfl | hb
        · exact .inr ⟨_, hp⟩
        · cases hb
    · obtain ⟨d', hd', r'⟩ := rl.get' (by simpa using hv)
      rw [hd] at hd'; cases hd'
      exact r'.mono hle
    · obtain ⟨o, ho, _⟩ := st.1
      rcases List.mem_cons.mp hb with rfl | hb
      · exact ⟨o, ho⟩
      · cases hb
  · exact ⟨⟨_, Heap.get?_push_size _ rfl, rfl, rfl⟩, hl.push _⟩
  · intro b hb
    rcases List.mem_cons.mp hb with rfl | hb
    · exact ⟨g₂.sz, none_new g₂.snd (Nat.le_refl _)⟩
    · cases hb

theorem ibl_str {e : Expr} {l : List Nat} (hh : A.handled = none) (he : Ev w s0 A env h P e (.str l)) : Ibl w s0 A env h P e (l.map fun c => .str [c]) := by
  intro h₁ P₁ t ht g Q E q
  refine he h₁ P₁ t ht g _ E fun v h₂ P₂ t₂ ht₂ g₂ r => ?_
  obtain ⟨u, rfl⟩ := r
  have key : ∀ (ty : String) (St : Nat → Heap → Prop), (St = fun i h => h.IsStrIter h₂.objs.size ty (T l) u i) → Walks pg w A h₂.objs.size [h₂.objs.size] [h₂.objs.size] (T l).cps.size (SignAt (T l)) St →
      Q (.ref h₂.objs.size) (stt s0 (h₂.push { cls := .type ty, data := .fields #[.str (T l) u, .int 0 0] }) t₂) := by
    intro ty St eSt W
    refine q h₂.objs.size [h₂.objs.size] St _ P₂ t₂ ht₂ (g₂.trans (.push g₂.snd _)) ⟨[h₂.objs.size], SignAt (T l), ?_, fun b hb => .inl hb, fun i v P' d hle hv hd => ?_, by simp, fun i h st' b hb => ?_⟩ ?_ ?_
    · have : (l.map fun c => D.str [c]).length = (T l).cps.size := by simp
      rw [this]; exact W
    · obtain ⟨c, u', hc, rfl⟩ := hv
      have hc' : l[i]? = some c := by simpa using hc
      rw [List.getElem?_map, hc'] at hd; cases hd
      exact ⟨u', rfl⟩
    · subst eSt
      obtain ⟨o, ho, _⟩ := st'
      rcases List.mem_cons.mp hb with rfl | hb
      · exact ⟨o, ho⟩
      · cases hb
    · subst eSt; exact ⟨_, Heap.get?_push_size _ rfl, rfl, rfl⟩
    · intro b hb
      rcases List.mem_cons.mp hb with rfl | hb
      · exact ⟨g₂.sz, none_new g₂.snd (Nat.le_refl _)⟩
      · cases hb
  cases ha : (T l).cps.all (· < 128)
  · exact wpAny_pyIter_wide (s := stt s0 h₂ t₂) ha (key _ _ rfl (Walks.strWide hh _ _ _))
  · exact wpAny_pyIter_ascii (s := stt s0 h₂ t₂) ha (key _ _ rfl (Walks.strAscii hh _ _ _))

noncomputable def rng (a b : Int) : List D := (List.range (b - a).toNat).map fun i => .int (a + (i : Nat))
theorem ibl_rangeV {lo hi : Int} {a : Addr} {x y z : Tok} {h₁ : Heap} {P₁ : Pm} {t : Nat} (hh : A.handled = none) (s : Snd P₁ h₁) (ht : 1 ≤ t) (hr : IsRange h₁ a lo hi 1 x y z) (h1 : -(2 ^ 62) ≤ lo) (h2 : lo < 2 ^ 62) (h3 : -(2 ^ 62) ≤ hi) (h4 : hi < 2 ^ 62)
    {Q : Value → Shared → Prop} {E : Value → Shared → Prop}
    (q : ∀ I wr St h₂ P₂ t₂, 1 ≤ t₂ → Gr h₁ P₁ h₂ P₂ → It w A I wr P₂ (rng lo hi) St → St 0 h₂ → (∀ b ∈ wr, h₁.objs.size ≤ b ∧ P₂ b = none) → Q (.ref I) (stt s0 h₂ t₂)) : wpAny (model pg w) A (pyIter (.ref a)) Q E (stt s0 h₁ t) := by
  have hsz : Builtin.Range.rangeSize lo hi 1 = ((hi - lo).toNat : Int) := by rw [rangeSize_one]; split <;> omega
  refine wpAny_pyIter_range (s := stt s0 h₁ t) hr (small_one h1 h2 h3 h4) (q h₁.objs.size [h₁.objs.size] (fun i h => IsRangeIter h h₁.objs.size (lo + (i : Nat) * 1) (((hi - lo).toNat : Int) - (i : Nat)) 1) _ P₁ t ht (.push s _) ?_ ?_ ?_)
  · have hl : (rng lo hi).length = (hi - lo).toNat := by simp [rng]
    refine ⟨[h₁.objs.size], fun i v => ∃ t, v = .int (lo + (i : Nat) * 1) t, by rw [hl]; exact Walks.range hh _ lo 1 (hi - lo).toNat, fun b hb => .inl hb, fun i v P' d hle hv hd => ?_, by simp, fun i h st b hb => ?_⟩
    · obtain ⟨t', rfl⟩ := hv
      unfold rng at hd
      rw [List.getElem?_map] at hd
      by_cases hi' : i < (hi - lo).toNat
      · rw [List.getElem?_range hi'] at hd
        cases hd
        exact ⟨t', by rw [Int.mul_one]⟩
      · rw [List.getElem?_eq_none (by simpa using hi')] at hd; cases hd
    · rcases List.mem_cons.mp hb with rfl | hb
      · exact ⟨_, st⟩
      · cases hb
  · have e1 : (lo + ((0 : Nat) : Int) * 1) = lo := by simp
    have e2 : (((hi - lo).toNat : Int) - ((0 : Nat) : Int)) = Builtin.Range.rangeSize lo hi 1 := by rw [hsz]; simp
    show IsRangeIter _ _ (lo + ((0 : Nat) : Int) * 1) (((hi - lo).toNat : Int) - ((0 : Nat) : Int)) 1
    rw [e1, e2]
    exact Heap.get?_push_size _ rfl
  · intro b hb
    rcases List.mem_cons.mp hb with rfl | hb
    · exact ⟨Nat.le_refl _, none_new s (Nat.le_refl _)⟩
    · cases hb

theorem ibl_range1 {np pos : Pos} {e : Expr} {n : Int} (hh : A.handled = none) (I : In S env ρ h P) (hk : env.kindOf "range" = some .globalImplicit) (hm : S.mg "range" = none) (hv : S.mb "range" = some (.type "range"))
    (he : Ev w s0 A env h P e (.int n)) (hp : plainArgs [e] = true) (h3 : -(2 ^ 62) ≤ n) (h4 : n < 2 ^ 62) : Ibl w s0 A env h P (.Call (.Name "range" np) [e] [] pos) (rng 0 n) := by
  intro h₁ P₁ t ht g Q E q
  refine ev_callT (R := fun v h P => ∃ a x y z, v = .ref a ∧ IsRange h a 0 n 1 x y z) (id := "range") I hk hm hv (by decide) (evl_cons' hp he evl_nil) hp ?_ h₁ P₁ t ht g _ E fun v h₂ P₂ t₂ ht₂ g₂ r => ?_
  · intro h P vs s r
    obtain ⟨v, rfl, u, rfl⟩ := r.one
    exact Go.mk fun h₁ P₁ k ht g Q E q => call_range_1 (s := stt s0 h₁ k) (q _ _ P₁ (k + 1 + 1) (fun _ => .push g.snd _) fun _ => ⟨_, _, _, _, rfl, Heap.get?_push_size _ rfl⟩)
  · obtain ⟨a, x, y, z, rfl, hr⟩ := r
    exact ibl_rangeV hh g₂.snd ht₂ hr (by decide) (by decide) h3 h4 fun I wr St h₃ P₃ t₃ ht₃ g₃ it st hwr => q I wr St h₃ P₃ t₃ ht₃ (g₂.trans g₃) it st fun b hb => ⟨Nat.le_trans g₂.sz (hwr b hb).1, (hwr b hb).2⟩
theorem ibl_range2 {np pos : Pos} {e f : Expr} {m n : Int} (hh : A.handled = none) (I : In S env ρ h P) (hk : env.kindOf "range" = some .globalImplicit) (hm : S.mg "range" = none) (hv : S.mb "range" = some (.type "range"))
    (he : Ev w s0 A env h P e (.int m)) (hf : Ev w s0 A env h P f (.int n)) (hp : plainArgs [e, f] = true) (h1 : -(2 ^ 62) ≤ m) (h2 : m < 2 ^ 62) (h3 : -(2 ^ 62) ≤ n) (h4 : n < 2 ^ 62) : Ibl w s0 A env h P (.Call (.Name "range" np) [e, f] [] pos) (rng m n) := by
  intro h₁ P₁ t ht g Q E q
  have hp' : plainArgs [f] = true := (starEach_cons (env := env) hp).2
  refine ev_callT (R := fun v h P => ∃ a x y z, v = .ref a ∧ IsRange h a m n 1 x y z) (id := "range") I hk hm hv (by decide) (evl_cons' hp he (evl_cons' hp' hf evl_nil)) hp ?_ h₁ P₁ t ht g _ E fun v h₂ P₂ t₂ ht₂ g₂ r => ?_
  · intro h P vs s r
    obtain ⟨v, v', rfl, ⟨u, rfl⟩, ⟨u', rfl⟩⟩ := r.two
    exact Go.mk fun h₁ P₁ k ht g Q E q => call_range_2 (s := stt s0 h₁ k) (q _ _ P₁ (k + 1) (fun _ => .push g.snd _) fun _ => ⟨_, _, _, _, rfl, Heap.get?_push_size _ rfl⟩)
  · obtain ⟨a, x, y, z, rfl, hr⟩ := r
    exact ibl_rangeV hh g₂.snd ht₂ hr h1 h2 h3 h4 fun I wr St h₃ P₃ t₃ ht₃ g₃ it st hwr => q I wr St h₃ P₃ t₃ ht₃ (g₂.trans g₃) it st fun b hb => ⟨Nat.le_trans g₂.sz (hwr b hb).1, (hwr b hb).2⟩
end
end IK
end

/-! part B11 -/
section
open PySem PySem.W PyProof.Rows
set_option Elab.async false
set_option linter.unusedVariables false
namespace IK

noncomputable abbrev itl (L : List (Addr × Obj)) : List (Addr × Mo) := L.map fun p => (p.1, .is (· = p.2))
theorem itl_fst (L : List (Addr × Obj)) : (itl L).map (·.1) = L.map (·.1) := by simp [itl]
noncomputable abbrev PLe (P P' : Pm) : Prop := ∀ b o, P b = some o → P' b = some o

section
variable {w : World} {s0 : Shared} {A : Around} {S : Sta} {env : Env} {ow : List Str} {h₀ h h' : Heap} {P₀ P P' : Pm} {n m : List (Addr × Mo)} {ρ : List (Str × D)} {d : D} {K K' : Flow → Heap → Prop}

/-- the last things of the ledger are changed, all else grows -/
structure GrB (m : List Addr) (h : Heap) (P : Pm) (h' : Heap) (P' : Pm) : Prop where
  up : ∀ b o, b ∉ m → h.get? b = some o → h'.get? b = some o
  ext : PLe P P'
  new : ∀ b o, P' b = some o → P b = some o ∨ h.objs.size ≤ b
  snd : Snd P' h'
  sz : h.objs.size ≤ h'.objs.size
theorem GrB.none {m : List Addr} {h h' : Heap} {P P' : Pm} (g : GrB m h P h' P') {a : Addr} (ha : a < h.objs.size) (e : P a = none) : P' a = none := by
  cases q : P' a with
  | none => rfl
  | some o =>
    rcases g.new a o q with k | k
    · rw [e] at k; cases k
    · exact absurd ha (Nat.not_lt.mpr k)
theorem Frm.butG {m' : List (Addr × Mo)} (F : Frm S env ow h₀ P₀ (n ++ m) ρ h P) (g' : GrB (m.map (·.1)) h P h' P')
    (hm : m'.map (·.1) = m.map (·.1)) (hm' : ∀ p ∈ m', MoNew h₀ p.1 p.2 ∧ ∃ o, h'.get? p.1 = some o ∧ MoIs P' o p.2) : Frm S env ow h₀ P₀ (n ++ m') ρ h' P' := by
  have up := g'.up
  have hin : ∀ b, b ∈ m.map (·.1) → ∃ q ∈ n ++ m, q.1 = b := fun b hb => by
    obtain ⟨q, hq, rfl⟩ := List.mem_map.mp hb; exact ⟨q, List.mem_append_right _ hq, rfl⟩
  have hL : env.locals ∉ m.map (·.1) := fun hb => by obtain ⟨q, hq, e⟩ := hin _ hb; exact (F.led q hq).2.2.2.1 e
  have hC : ∀ x c, env.cells.lookup x = some c → c ∉ m.map (·.1) := fun x c e hb => by obtain ⟨q, hq, e'⟩ := hin _ hb; exact (F.led q hq).2.2.2.2 x c e e'.symm
  have h0 : ∀ b o, h₀.get? b = some o → b ∉ m.map (·.1) := fun b o e hb => by
    obtain ⟨q, hq, e'⟩ := hin _ hb; have := (F.led q hq).2.1.none; rw [e', e] at this; cases this
  have g : Gr h₀ P₀ h' P' := ⟨fun b o e => up b o (h0 b o e) (F.gr.up b o e), fun b o e => g'.ext b o (F.gr.ext b o e), fun b o e => (g'.new b o e).elim (F.gr.new b o) fun k => .inr (Nat.le_trans F.gr.sz k), g'.snd, Nat.le_trans F.gr.sz g'.sz⟩
  have hdis : (n ++ m').map (·.1) = (n ++ m).map (·.1) := by rw [List.map_append, List.map_append, hm]
  obtain ⟨mm, o1, es, ep, ho1, r1⟩ := F.ns
  have cellUp : ∀ {x c v}, env.cells.lookup x = some c → h.IsCell c v → h'.IsCell c v := fun e ⟨o, ho, hd⟩ => ⟨o, up _ _ (hC _ _ e) ho, hd⟩
  refine ⟨g, ⟨fun y e q => ?_, fun b o e => g'.ext b o (F.inn.base b o e), g.snd, F.inn.fk, F.inn.eg, F.inn.eb⟩, ⟨mm, o1, es, ep, up _ _ hL ho1, r1⟩, F.lnew, g'.none (Heap.lt_size ho1) F.lP, fun y hy => ?_, fun x c e => ⟨(F.clo x c e).1, Nat.lt_of_lt_of_le (F.clo x c e).2 g'.sz⟩, F.inj, fun p hp => ?_, by rw [hdis]; exact F.dist⟩
  · obtain ⟨u, ru, rd⟩ := F.inn.loc y e q
    refine ⟨u, ru.mono g'.ext, ?_⟩
    rcases rd with ⟨k, m', ⟨o2, es2, ep2, ho2, r2⟩, e'⟩ | ⟨k, c2, e2, n'⟩
    · exact .inl ⟨k, m', ⟨o2, es2, ep2, up _ _ hL ho2, r2⟩, e'⟩
    · exact .inr ⟨k, c2, e2, cellUp e2 n'⟩
  · obtain ⟨c2, e, k, ⟨u, h2⟩, l, q⟩ := F.own y hy
    exact ⟨c2, e, k, ⟨u, cellUp e h2⟩, l, g'.none h2.lt q⟩
  · have hp1 : p.1 ∈ (n ++ m).map (·.1) := by rw [← hdis]; exact List.mem_map_of_mem hp
    obtain ⟨q, hq, e⟩ := List.mem_map.mp hp1
    obtain ⟨⟨o, eo, ro⟩, l1, l2, l3, l4⟩ := F.led q hq
    rw [e] at l2 l3 l4 eo
    have l2' := g'.none (Heap.lt_size eo) l2
    rcases List.mem_append.mp hp with hp | hp
    · obtain ⟨⟨o, eo, ro⟩, l1, _⟩ := F.led p (List.mem_append_left _ hp)
      refine ⟨⟨o, up _ _ (fun hb => ?_) eo, ro.mono g'.ext⟩, l1, l2', l3, l4⟩
      have hd := F.dist
      rw [List.map_append] at hd
      exact (List.nodup_append.mp hd).2.2 _ (List.mem_map_of_mem hp) _ hb rfl
    · exact ⟨(hm' p hp).2, (hm' p hp).1, l2', l3, l4⟩
theorem Frm.but {m' : List (Addr × Mo)} (F : Frm S env ow h₀ P₀ (n ++ m) ρ h P) (up : ∀ b o, b ∉ m.map (·.1) → h.get? b = some o → h'.get? b = some o) (sz : h.objs.size ≤ h'.objs.size)
    (hm : m'.map (·.1) = m.map (·.1)) (hm' : ∀ p ∈ m', MoNew h₀ p.1 p.2 ∧ ∃ o, h'.get? p.1 = some o ∧ MoIs P o p.2) : Frm S env ow h₀ P₀ (n ++ m') ρ h' P :=
  F.butG ⟨up, fun _ _ e => e, fun _ _ e => .inl e, fun b o e => up b o (fun hb => by
    obtain ⟨q, hq, e'⟩ := List.mem_map.mp hb
    rw [← e', (F.led q (List.mem_append_right _ hq)).2.2.1] at e; cases e) (F.gr.snd b o e), sz⟩ hm hm'
theorem Frm.drop (F : Frm S env ow h₀ P₀ (n ++ m) ρ h P) (up : ∀ b o, b ∉ m.map (·.1) → h.get? b = some o → h'.get? b = some o) (sz : h.objs.size ≤ h'.objs.size) : Frm S env ow h₀ P₀ n ρ h' P := by
  -- what is left of the ledger
  have key : ∀ (k : List (Addr × Mo)), (∀ p ∈ k, p ∈ m) → True := fun _ _ => trivial
  have hin : ∀ b, b ∈ m.map (·.1) → ∃ q ∈ n ++ m, q.1 = b := fun b hb => by
    obtain ⟨q, hq, rfl⟩ := List.mem_map.mp hb; exact ⟨q, List.mem_append_right _ hq, rfl⟩
  have hL : env.locals ∉ m.map (·.1) := fun hb => by obtain ⟨q, hq, e⟩ := hin _ hb; exact (F.led q hq).2.2.2.1 e
  have hC : ∀ x c, env.cells.lookup x = some c → c ∉ m.map (·.1) := fun x c e hb => by obtain ⟨q, hq, e'⟩ := hin _ hb; exact (F.led q hq).2.2.2.2 x c e e'.symm
  have hP : ∀ b o, P b = some o → b ∉ m.map (·.1) := fun b o e hb => by obtain ⟨q, hq, e'⟩ := hin _ hb; rw [← e', (F.led q hq).2.2.1] at e; cases e
  have h0 : ∀ b o, h₀.get? b = some o → b ∉ m.map (·.1) := fun b o e hb => by
    obtain ⟨q, hq, e'⟩ := hin _ hb; have := (F.led q hq).2.1.none; rw [e', e] at this; cases this
  have g : Gr h₀ P₀ h' P := ⟨fun b o e => up b o (h0 b o e) (F.gr.up b o e), F.gr.ext, F.gr.new, fun b o e => up b o (hP b o e) (F.gr.snd b o e), Nat.le_trans F.gr.sz sz⟩
  have hd := F.dist
  rw [List.map_append] at hd
  obtain ⟨mm, o1, es, ep, ho1, r1⟩ := F.ns
  have cellUp : ∀ {x c v}, env.cells.lookup x = some c → h.IsCell c v → h'.IsCell c v := fun e ⟨o, ho, hd⟩ => ⟨o, up _ _ (hC _ _ e) ho, hd⟩
  refine ⟨g, ⟨fun y e q => ?_, F.inn.base, g.snd, F.inn.fk, F.inn.eg, F.inn.eb⟩, ⟨mm, o1, es, ep, up _ _ hL ho1, r1⟩, F.lnew, F.lP, fun y hy => ?_, fun x c e => ⟨(F.clo x c e).1, Nat.lt_of_lt_of_le (F.clo x c e).2 sz⟩, F.inj, fun p hp => ?_, (List.nodup_append.mp hd).1⟩
  · obtain ⟨u, ru, rd⟩ := F.inn.loc y e q
    refine ⟨u, ru, ?_⟩
    rcases rd with ⟨k, m', ⟨o2, es2, ep2, ho2, r2⟩, e'⟩ | ⟨k, c2, e2, n'⟩
    · exact .inl ⟨k, m', ⟨o2, es2, ep2, up _ _ hL ho2, r2⟩, e'⟩
    · exact .inr ⟨k, c2, e2, cellUp e2 n'⟩
  · obtain ⟨c2, e, k, ⟨u, h2⟩, l, q⟩ := F.own y hy
    exact ⟨c2, e, k, ⟨u, cellUp e h2⟩, l, q⟩
  · obtain ⟨⟨o, eo, ro⟩, l⟩ := F.led p (List.mem_append_left _ hp)
    exact ⟨⟨o, up _ _ (fun hb => (List.nodup_append.mp hd).2.2 _ (List.mem_map_of_mem hp) _ hb rfl) eo, ro⟩, l⟩
/-- things that were made since are taken into the ledger -/
theorem Frm.addNew {L : List (Addr × Mo)} (F : Frm S env ow h₀ P₀ n ρ h P) (g : Gr h P h' P') (hn : (L.map (·.1)).Nodup) (hL : ∀ p ∈ L, h.objs.size ≤ p.1 ∧ P' p.1 = none ∧ ∃ o, h'.get? p.1 = some o ∧ MoIs P' o p.2) : Frm S env ow h₀ P₀ (n ++ L) ρ h' P' := by
  have G := F.grow g
  obtain ⟨mm, hmm⟩ := F.ns
  refine ⟨G.gr, G.inn, G.ns, G.lnew, G.lP, G.own, G.clo, G.inj, fun p hp => ?_, ?_⟩
  · rcases List.mem_append.mp hp with hp | hp
    · exact G.led p hp
    · obtain ⟨a, b, c⟩ := hL p hp
      exact ⟨c, .of (Nat.le_trans F.gr.sz a) _, b, fun e => by rw [e] at a; exact absurd hmm.lt (Nat.not_lt.mpr a), fun x c e z => by rw [← z] at a; exact absurd (F.clo x c e).2 (Nat.not_lt.mpr a)⟩
  · rw [List.map_append]
    refine List.nodup_append.mpr ⟨F.dist, hn, fun a ha b hb e => ?_⟩
    subst e
    obtain ⟨p, hp, rfl⟩ := List.mem_map.mp ha
    obtain ⟨q, hq, e⟩ := List.mem_map.mp hb
    obtain ⟨⟨o, eo, _⟩, _⟩ := F.led p hp
    have := (hL q hq).1
    rw [e] at this
    exact absurd (Heap.lt_size eo) (Nat.not_lt.mpr this)

/-- the objects of an iterator, as they stand -/
theorem it_objs {wr : List Addr} {h : Heap} (hl : ∀ b ∈ wr, ∃ o, h.get? b = some o) : ∃ L : List (Addr × Obj), L.map (·.1) = wr ∧ ∀ p ∈ L, h.get? p.1 = some p.2 := by
  induction wr with
  | nil => exact ⟨[], rfl, fun _ h => nomatch h⟩
  | cons b r ih =>
    obtain ⟨L, e, k⟩ := ih fun b hb => hl b (.tail _ hb)
    obtain ⟨o, ho⟩ := hl b (.head _)
    exact ⟨(b, o) :: L, by simp [e], fun p hp => by
      rcases List.mem_cons.mp hp with rfl | hp
      · exact ho
      · exact k p hp⟩

/-- the next item of what is iterated -/
theorem it_next {I : Addr} {wr : List Addr} {Pi : Pm} {xs : List D} {St : Nat → Heap → Prop} {i t : Nat} {L : List (Addr × Obj)} {Q : Option Value → Shared → Prop} {E : Value → Shared → Prop} (W : It w A I wr Pi xs St) (hP : PLe Pi P) (st : St i h) (ht : 1 ≤ t) (hi : i < xs.length)
    (hL : L.map (·.1) = wr) (F : Frm S env ow h₀ P₀ (n ++ itl L) ρ h P)
    (q : ∀ v h' t' L' d, 1 ≤ t' → xs[i]? = some d → Rep P d v → St (i + 1) h' → L'.map (·.1) = wr → Frm S env ow h₀ P₀ (n ++ itl L') ρ h' P → Q (some v) (stt s0 h' t')) : wpAny (model pg w) A (pyNext (.ref I)) Q E (stt s0 h t) := by
  obtain ⟨fp, Pv, W, hfp, hrep, hnd, hlive⟩ := W
  refine any_late (W.item i (stt s0 h t) _ _ hi st fun v h' tk hv st' up late => ?_)
  obtain ⟨L', e', k'⟩ := it_objs (hlive _ _ st')
  refine q v h' tk L' _ (Nat.le_trans ht late.1) (List.getElem?_eq_getElem hi) (hrep i v P _ hP hv (List.getElem?_eq_getElem hi)) st' e' ?_
  refine F.but (by rw [itl_fst, hL]; exact up) late.2 (by rw [itl_fst, itl_fst, hL, e']) fun p hp => ?_
  obtain ⟨p', hp', rfl⟩ := List.mem_map.mp hp
  refine ⟨?_, _, k' p' hp', rfl⟩
  have hx : p'.1 ∈ L.map (·.1) := by rw [hL, ← e']; exact List.mem_map_of_mem hp'
  obtain ⟨q', hq', eq'⟩ := List.mem_map.mp hx
  have := (F.led (q'.1, .is (· = q'.2)) (List.mem_append_right _ (List.mem_map.mpr ⟨q', hq', rfl⟩))).2.1.none
  rw [← eq']; exact this
theorem it_stop {I : Addr} {wr : List Addr} {Pi : Pm} {xs : List D} {St : Nat → Heap → Prop} {t : Nat} {L : List (Addr × Obj)} {Q : Option Value → Shared → Prop} {E : Value → Shared → Prop} (W : It w A I wr Pi xs St) (st : St xs.length h) (ht : 1 ≤ t)
    (hL : L.map (·.1) = wr) (F : Frm S env ow h₀ P₀ (n ++ itl L) ρ h P)
    (q : ∀ h' t', 1 ≤ t' → Frm S env ow h₀ P₀ n ρ h' P → Q none (stt s0 h' t')) : wpAny (model pg w) A (pyNext (.ref I)) Q E (stt s0 h t) := by
  obtain ⟨fp, Pv, W, hfp, hrep, hnd, hlive⟩ := W
  refine any_late (W.done (stt s0 h t) _ _ st fun h' tk up late => ?_)
  exact q h' tk (Nat.le_trans ht late.1) (F.drop (by rw [itl_fst, hL]; exact up) late.2)
/-- behind a turn's body the iterator stands as it stood -/
theorem it_kept {I : Addr} {wr : List Addr} {Pi : Pm} {xs : List D} {St : Nat → Heap → Prop} {i : Nat} {L : List (Addr × Obj)} {h₁ h₂ : Heap} {n' : List (Addr × Mo)} {ρ' : List (Str × D)} (W : It w A I wr Pi xs St) (hP : PLe Pi P') (st : St i h₁) (hL : L.map (·.1) = wr)
    (hs : Snd P h₁) (hP₁ : PLe Pi P) (h1 : ∀ p ∈ L, h₁.get? p.1 = some p.2) (F : Frm S env ow h₀ P₀ (n' ++ itl L) ρ' h₂ P') : St i h₂ := by
  obtain ⟨fp, Pv, W, hfp, hrep, hnd, hlive⟩ := W
  refine W.frame i h₁ h₂ st fun b hb o e => ?_
  rcases hfp b hb with hb | ⟨o', ho'⟩
  · rw [← hL] at hb
    obtain ⟨p, hp, rfl⟩ := List.mem_map.mp hb
    obtain ⟨⟨o2, e2, r2⟩, _⟩ := F.led (p.1, .is (· = p.2)) (List.mem_append_right _ (List.mem_map.mpr ⟨p, hp, rfl⟩))
    have r2' : o2 = p.2 := r2
    rw [h1 p hp] at e; cases e
    rw [e2, r2']
  · have a := hs b o' (hP₁ b o' ho')
    rw [e] at a; cases a
    exact F.gr.snd b _ (hP b _ ho')

theorem it_ledger {L : List (Addr × Obj)} (F : Frm S env ow h₀ P₀ (n ++ itl L) ρ h P) : ∀ p ∈ L, h.get? p.1 = some p.2 := fun p hp => by
  obtain ⟨⟨o2, e2, r2⟩, _⟩ := F.led (p.1, .is (· = p.2)) (List.mem_append_right _ (List.mem_map.mpr ⟨p, hp, rfl⟩))
  have r2' : o2 = p.2 := r2
  rw [e2, r2']

theorem x_for {x : Str} {px pos : Pos} {e : Expr} {body : List Stmt} (xs : List D) (nn : Nat → List (Addr × Mo)) (rr : Nat → List (Str × D)) (F : Frm S env ow h₀ P₀ (nn 0) (rr 0) h P) (hi : Ibl w s0 A env h P e xs)
    (hx : env.kindOf x = some .local ∨ (env.kindOf x = some .cell ∧ x ∈ ow)) (hs : ∀ y, foldedSetIterable e env y = pure y)
    (turn : ∀ i d m h P', xs[i]? = some d → PLe P P' → Frm S env ow h₀ P₀ (nn i ++ m) ((x, d) :: rr i) h P' → Xs w s0 A env body h (fun f h' => match f with
      | .next | .cont => ∃ P'', PLe P' P'' ∧ Frm S env ow h₀ P₀ (nn (i + 1) ++ m) (rr (i + 1)) h' P''
      | .brk => K .next h'
      | .ret v => K (.ret v) h'))
    (done : ∀ h P', PLe P P' → Frm S env ow h₀ P₀ (nn xs.length) (rr xs.length) h P' → K .next h) : X1 w s0 A env (.For (.Name x px) e body [] pos) h K := by
  intro t ht Q E q
  refine wpAny_For (hi h P t ht F.refl' _ E fun I wr St h₂ P₂ t₂ ht₂ g₂ W st hwr => ?_) hs
  have hlive : ∀ i h, St i h → ∀ b ∈ wr, ∃ o, h.get? b = some o := let ⟨_, _, _, _, _, _, k⟩ := W; k
  have hnd : wr.Nodup := let ⟨_, _, _, _, _, k, _⟩ := W; k
  obtain ⟨L, eL, kL⟩ := it_objs (hlive _ _ st)
  have F₂ : Frm S env ow h₀ P₀ (nn 0 ++ itl L) (rr 0) h₂ P₂ := F.addNew g₂ (by rw [itl_fst, eL]; exact hnd) fun p hp => by
    obtain ⟨p', hp', rfl⟩ := List.mem_map.mp hp
    have := hwr p'.1 (by rw [← eL]; exact List.mem_map_of_mem hp')
    exact ⟨this.1, this.2, _, kL p' hp', rfl⟩
  refine codeAny_mono (codeAny_forLoop (R := fun r s' => match r with | .ok f => Q f s' | .error e => False)
    (fun k s => ∃ i h t P' L, s = stt s0 h t ∧ 1 ≤ t ∧ k = xs.length + 1 - i ∧ i ≤ xs.length ∧ St i h ∧ PLe P₂ P' ∧ L.map (·.1) = wr ∧ Frm S env ow h₀ P₀ (nn i ++ itl L) (rr i) h P') ?_ (xs.length + 1)
    ⟨0, h₂, t₂, P₂, L, rfl, ht₂, rfl, Nat.zero_le _, st, fun _ _ e => e, eL, F₂⟩) fun r s' y => by
      cases r with
      | ok f => exact y
      | error e => exact y.elim
  rintro k _ ⟨i, h, t, P', L, rfl, ht, rfl, hile, st, hP, eL, F⟩
  by_cases hlt : i < xs.length
  · refine it_next W hP st ht hlt eL F fun v h₃ t₃ L₃ d ht₃ hd rv st₃ eL₃ F₃ => ?_
    refine wpAny_assign_Name (f_store F₃ hx rv ht₃ fun h₄ t₄ ht₄ F₄ => ?_)
    have st₄ : St (i + 1) h₄ := it_kept W hP st₃ eL₃ F₃.gr.snd hP (it_ledger F₃) F₄
    refine turn i d _ h₄ P' hd (fun b o e => hP b o (g₂.ext b o e)) F₄ t₄ ht₄ _ _ fun f h₅ t₅ ht₅ y => ?_
    cases f with
    | next =>
      obtain ⟨P'', hP'', F₅⟩ := y
      exact ⟨xs.length + 1 - (i + 1), by omega, i + 1, h₅, t₅, P'', L₃, rfl, ht₅, rfl, hlt, it_kept W (fun b o e => hP'' b o (hP b o e)) st₄ eL₃ F₄.gr.snd hP (it_ledger F₄) F₅, fun b o e => hP'' b o (hP b o e), eL₃, F₅⟩
    | cont =>
      obtain ⟨P'', hP'', F₅⟩ := y
      exact ⟨xs.length + 1 - (i + 1), by omega, i + 1, h₅, t₅, P'', L₃, rfl, ht₅, rfl, hlt, it_kept W (fun b o e => hP'' b o (hP b o e)) st₄ eL₃ F₄.gr.snd hP (it_ledger F₄) F₅, fun b o e => hP'' b o (hP b o e), eL₃, F₅⟩
    | brk => exact q _ h₅ t₅ ht₅ y
    | ret v => exact q _ h₅ t₅ ht₅ y
  · have hin : i = xs.length := by omega
    subst hin
    refine it_stop W st ht eL F fun h₃ t₃ ht₃ F₃ => ?_
    exact wpAny_execs_nil (q _ h₃ t₃ ht₃ (done h₃ P' (fun b o e => hP b o (g₂.ext b o e)) F₃))
end
end IK
end

/-! part B12 -/
section
open PySem PySem.W PyProof.Rows
set_option Elab.async false
set_option linter.unusedVariables false
namespace IK

/-! ## comprehensions: their own frame -/
noncomputable def clOf (env : Env) : List (Str × NameKind) → List (Str × Addr) → List (Str × Addr)
  | [], acc => acc
  | (n, k) :: r, acc => if k == .free then clOf env r ((n, (env.cells.lookup n).getD 0) :: acc) else clOf env r acc
noncomputable def freesOk (env : Env) (names : List (Str × NameKind)) : Bool := names.all fun x => x.2 != .free || (env.cells.lookup x.1).isSome
theorem closureFor_pure {scope : Scope} {env : Env} (h : freesOk env scope.names = true) : closureFor scope env = pure (clOf env scope.names []) := by
  unfold closureFor
  have key : ∀ (names : List (Str × NameKind)) (acc : List (Str × Addr)), freesOk env names = true →
      (forIn names acc fun (x : Str × NameKind) (r : List (Str × Addr)) => if x.2 == .free then (do let a ← cellOf env x.1; pure (ForInStep.yield ((x.1, a) :: r)) : Sem (ForInStep (List (Str × Addr)))) else pure (ForInStep.yield r)) = pure (clOf env names acc) := by
    intro names
    induction names with
    | nil => intro acc _; rw [List.forIn_nil]; rfl
    | cons x r ih =>
      intro acc hf
      obtain ⟨n, k⟩ := x
      unfold freesOk at hf
      rw [List.all_cons, Bool.and_eq_true] at hf
      rw [List.forIn_cons]
      unfold clOf
      by_cases hk : (k == NameKind.free) = true
      · have hs : (env.cells.lookup n).isSome = true := by
          have := hf.1; simp only [bne, hk, Bool.not_true, Bool.false_or] at this; exact this
        obtain ⟨c, hc⟩ := Option.isSome_iff_exists.mp hs
        simp only [hk, if_true, cellOf, hc, pure_bind, Option.getD_some]
        exact ih _ hf.2
      · simp only [hk, Bool.false_eq_true, if_false, pure_bind]
        exact ih _ hf.2
  have e := key scope.names [] h
  simp only [bind_pure]
  rw [← e]

theorem clOf_mem {env : Env} {x : Str} {c : Addr} : ∀ {names : List (Str × NameKind)} {acc : List (Str × Addr)}, (x, c) ∈ clOf env names acc → (x, c) ∈ acc ∨ ∃ k, (x, k) ∈ names ∧ k = .free ∧ c = (env.cells.lookup x).getD 0
  | [], _, h => .inl h
  | (n, k) :: r, acc, h => by
    unfold clOf at h
    split at h
    · rename_i hk
      rcases clOf_mem h with h | ⟨k', a, b, e⟩
      · rcases List.mem_cons.mp h with h | h
        · cases h; exact .inr ⟨k, .head _, eq_of_beq hk, rfl⟩
        · exact .inl h
      · exact .inr ⟨k', .tail _ a, b, e⟩
    · rcases clOf_mem h with h | ⟨k', a, b, e⟩
      · exact .inl h
      · exact .inr ⟨k', .tail _ a, b, e⟩
theorem clOf_env {env : Env} {names : List (Str × NameKind)} (h : freesOk env names = true) {x : Str} {c : Addr} (e : (clOf env names []).lookup x = some c) : env.cells.lookup x = some c := by
  rcases clOf_mem (mem_of_lookup e) with q | ⟨k, a, rfl, rfl⟩
  · cases q
  · have := List.all_eq_true.mp h _ a
    obtain ⟨c, hc⟩ := Option.isSome_iff_exists.mp (by simpa using this : (env.cells.lookup x).isSome = true)
    rw [hc]; rfl
theorem cellsFrom_app : ∀ (names : List (Str × NameKind)) (n : Nat) (acc : List (Str × Addr)), cellsFrom n names acc = cellsFrom n names [] ++ acc
  | [], _, _ => rfl
  | (x, k) :: r, n, acc => by
    unfold cellsFrom
    split
    · rw [cellsFrom_app r (n + 1) ((x, n) :: acc), cellsFrom_app r (n + 1) [(x, n)], List.append_assoc]; rfl
    · exact cellsFrom_app r n acc

noncomputable abbrev cEnv (scope : Scope) (env : Env) (L : Addr) : Env :=
  { scope := relabel scope env, locals := L, globals := env.globals, cells := cellsFrom (L + 1) scope.names (clOf env scope.names []), qual := env.qual, func := none, code := env.code, frame := env.frame, builtins := env.builtins }

theorem lookup_relabel_cell {env : Env} : ∀ {names : List (Str × NameKind)} {x : Str}, names.lookup x = some .cell →
    (names.map fun (n, k) => if (k == NameKind.free && env.scope.kind == .function && env.kindOf n == some .cell) then (n, NameKind.cell) else (n, k)).lookup x = some .cell
  | [], _, h => by simp at h
  | (n, k) :: r, x, h => by
    have ih := @lookup_relabel_cell env r x
    show List.lookup x ((if (k == NameKind.free && env.scope.kind == .function && env.kindOf n == some .cell) = true then (n, NameKind.cell) else (n, k)) :: _) = _
    cases hx : x == n with
    | true =>
      simp only [List.lookup_cons, hx] at h
      cases h
      simp [List.lookup_cons, hx]
    | false =>
      simp only [List.lookup_cons, hx] at h
      by_cases hc : (k == NameKind.free && env.scope.kind == .function && env.kindOf n == some .cell) = true
      · rw [if_pos hc]; simp only [List.lookup_cons, hx]; exact ih h
      · rw [if_neg hc]; simp only [List.lookup_cons, hx]; exact ih h

/-- what a comprehension's scope must be looked at for -/
structure CompOk (scope : Scope) (env : Env) (cow : List Str) : Prop where
  fk : scope.kind = .function
  names : (scope.names.all fun y => y.2 != .local || scope.names.lookup y.1 == some .local) = true
  frees : freesOk env scope.names = true
  own : ∀ x ∈ cow, scope.names.lookup x = some .cell
/-- the names that a comprehension takes from around -/
noncomputable def Frees (scope : Scope) (env : Env) (ρ : List (Str × D)) : List (Str × D) → Prop
  | [] => True
  | (x, d) :: r => (ρ.lookup x = some d ∧ (env.kindOf x = some .cell ∨ env.kindOf x = some .free) ∧ (∀ L, (cEnv scope env L).kindOf x = some .cell ∨ (cEnv scope env L).kindOf x = some .free) ∧ ∀ L, (cEnv scope env L).cells.lookup x = env.cells.lookup x) ∧ Frees scope env ρ r
theorem Frees.get {scope : Scope} {env : Env} {ρ : List (Str × D)} {x : Str} {d : D} : ∀ {ρc : List (Str × D)}, Frees scope env ρ ρc → ρc.lookup x = some d →
    ρ.lookup x = some d ∧ (env.kindOf x = some .cell ∨ env.kindOf x = some .free) ∧ (∀ L, (cEnv scope env L).kindOf x = some .cell ∨ (cEnv scope env L).kindOf x = some .free) ∧ ∀ L, (cEnv scope env L).cells.lookup x = env.cells.lookup x
  | [], _, h => by cases h
  | (y, e) :: r, ⟨a, b⟩, h => by
    rw [List.lookup_cons] at h
    cases hx : x == y with
    | true => rw [hx] at h; cases h; rw [eq_of_beq hx]; exact a
    | false => rw [hx] at h; exact b.get h

section
variable {w : World} {s0 : Shared} {A : Around} {S : Sta} {env : Env} {ow cow : List Str} {h₀ hx h h₁ : Heap} {P₀ P P₁ : Pm} {n nn : List (Addr × Mo)} {ρ ρc : List (Str × D)} {scope : Scope} {wr : List Addr}

/-- the comprehension's frame and the list that it fills are laid -/
theorem comp_enter {t : Nat} {RR : Value → Addr → Result → Shared → Prop} {E : Value → Shared → Prop} {e : Expr} {it : Value} {L : List (Addr × Obj)} (ok : CompOk scope env cow) (fr : Frees scope env ρ ρc)
    (F₁ : Frm S env ow h₀ P₀ n ρ h₁ P₁) (g₁ : Gr h₁ P₁ h P) (hsub : ∀ b o, hx.get? b = some o → h₁.get? b = some o) (hsz : hx.objs.size = h₁.objs.size) (hnn : ∀ p ∈ nn, p ∈ n ∧ MoNew hx p.1 p.2) (hnd : (nn.map (·.1)).Nodup)
    (hL : (L.map (·.1)).Nodup) (hLL : ∀ p ∈ L, h₁.objs.size ≤ p.1 ∧ P p.1 = none ∧ h.get? p.1 = some p.2) (ht : 1 ≤ t)
    (k : ∀ C a h' t', h.objs.size ≤ a → 1 ≤ t' → Frm S (cEnv scope env C) cow hx P₁ (nn ++ ((a, .lst []) :: itl L)) ρc h' P → codeAny (model pg w) A (.compStart e 0 it (.ref a) (cEnv scope env C)) (RR (.ref a) C) (stt s0 h' t')) :
    wpAny (model pg w) A (newList []) (fun acc s₃ => wpAny (model pg w) A (newFunctionEnv scope env.globals (clOf env scope.names []) [] env.qual none .none (some env)) (fun cenv s₄ =>
      codeAny (model pg w) A (.compStart e 0 it acc { cenv with scope := relabel scope env }) (RR acc cenv.locals) s₄) E s₃) E (stt s0 h t) := by
  refine wpAny_newObj_type ?_
  simp only [newFunctionEnv, Option.isSome_some, if_true]
  refine wpAny_bind (wpAny_alloc ?_)
  refine wpAny_bind (wpAny_layCells _ (fun name kind cells => by cases hkc : kind == NameKind.cell <;> simp [hkc]) _ _ _ _ ?_)
  refine wpAny_bind ?_
  rw [List.forIn_nil]
  refine wpAny_pure (wpAny_pure ?_)
  dsimp only
  generalize hH1 : (stt s0 h t).heap.push { cls := .type "list", dict := none, data := .seq ([] : List Value).toArray } = H1
  generalize hH2 : H1.push { cls := .type "dict", data := .dict #[] } = H2
  have hH1' : h.push { cls := .type "list", dict := none, data := .seq ([] : List Value).toArray } = H1 := hH1
  have s1 : H1.objs.size = h.objs.size + 1 := by rw [← hH1', Heap.size_push]
  have s2 : H2.objs.size = H1.objs.size + 1 := by rw [← hH2, Heap.size_push]
  rw [s2]
  show codeAny (model pg w) A (.compStart e 0 it (.ref h.objs.size) (cEnv scope env H1.objs.size)) (RR (.ref h.objs.size) H1.objs.size) (stt s0 (pushCells H2 scope.names) t)
  have okc := cellsFrom_ok scope.names H2 (H1.objs.size + 1) [] ⟨fun _ _ hm => (nomatch hm), List.Pairwise.nil⟩ (Nat.le_of_eq s2.symm)
  rw [s2] at okc
  have up : ∀ b o, h.get? b = some o → (pushCells H2 scope.names).get? b = some o := fun b o e => pushCells_keeps _ _ b o (hH2 ▸ Heap.get?_push_of_some _ (hH1' ▸ Heap.get?_push_of_some _ e))
  have hns : (pushCells H2 scope.names).Ns H1.objs.size (fun _ => none) := by rw [← hH2]; exact (Heap.Ns.new H1 (.type "dict")).keeps (pushCells_keeps _ _)
  have szz : h.objs.size ≤ (pushCells H2 scope.names).objs.size := Nat.le_of_lt (Nat.lt_trans (by rw [s1]; exact Nat.lt_succ_self _) hns.lt)
  have g : Gr h P (pushCells H2 scope.names) P := .same g₁.snd up szz
  have I₁ := (F₁.grow g₁).inn
  have nn1 : ∀ b, h.objs.size ≤ b → P b = none := fun b hb => none_new g₁.snd hb
  have newle : ∀ x c, (x, c) ∈ cellsFrom (H1.objs.size + 1) scope.names [] → h.objs.size ≤ c ∧ H1.objs.size < c ∧ h₁.objs.size ≤ c := fun x c hm => by
    have := (okc.empty x c hm).2
    have := g₁.sz
    omega
  have splitc : ∀ x c, (cEnv scope env H1.objs.size).cells.lookup x = some c → (x, c) ∈ cellsFrom (H1.objs.size + 1) scope.names [] ∨ env.cells.lookup x = some c := fun x c e => by
    have e' : (cellsFrom (H1.objs.size + 1) scope.names (clOf env scope.names [])).lookup x = some c := e
    rw [cellsFrom_app] at e'
    have := mem_of_lookup e'
    rcases List.mem_append.mp this with q | q
    · exact .inl q
    · refine .inr ?_
      rcases clOf_mem q with q | ⟨k', a, rfl, rfl⟩
      · cases q
      · have := List.all_eq_true.mp ok.frees _ a
        obtain ⟨c, hc⟩ := Option.isSome_iff_exists.mp (by simpa using this : (env.cells.lookup x).isSome = true)
        rw [hc]; rfl
  have oldlt : ∀ x c, env.cells.lookup x = some c → c < h₁.objs.size := fun x c e => (F₁.clo x c e).2
  have below : ∀ {c : Nat}, c < h₁.objs.size → c < h.objs.size ∧ c < H1.objs.size ∧ c < (pushCells H2 scope.names).objs.size := fun {c} l => by
    have := g₁.sz
    refine ⟨?_, ?_, ?_⟩ <;> omega
  have below' : ∀ {c : Nat}, c < h.objs.size → c < H1.objs.size := fun {c} l => by omega
  have hltH : h.objs.size < H1.objs.size := by omega
  refine k H1.objs.size h.objs.size _ t (Nat.le_refl _) ht ⟨⟨fun b o e => up b o (g₁.up b o (hsub b o e)), g₁.ext, fun b o e => by rw [hsz]; exact g₁.new b o e, g.snd, by rw [hsz]; exact Nat.le_trans g₁.sz g.sz⟩, ⟨fun x d e => ?_, I₁.base, g.snd, ok.fk, I₁.eg, I₁.eb⟩, ⟨_, hns⟩,
    by rw [hsz]; show h₁.objs.size ≤ H1.objs.size; have := g₁.sz; omega, nn1 _ (by show h.objs.size ≤ H1.objs.size; omega), fun x hx' => ?_, fun x c e => ?_, fun x y c e1 e2 => ?_, fun p hp => ?_, ?_⟩
  · obtain ⟨a, b, c, dd⟩ := fr.get e
    obtain ⟨v, rv, rd⟩ := I₁.loc x d a
    refine ⟨v, rv, .inr ⟨c _, ?_⟩⟩
    rcases rd with ⟨q, _⟩ | ⟨_, cc, ec, hc⟩
    · rcases b with b | b <;> rw [q] at b <;> cases b
    · exact ⟨cc, (dd _).trans ec, hc.keeps up⟩
  · have hc1 := ok.own x hx'
    obtain ⟨c, hc⟩ := Option.isSome_iff_exists.mp (cellsFrom_some (x := x) scope.names (H1.objs.size + 1) [] (.inl hc1))
    have hm := mem_of_lookup hc
    refine ⟨c, ?_, lookup_relabel_cell hc1, ⟨_, (okc.empty x c hm).1⟩, by rw [hsz]; exact (newle x c hm).2.2, nn1 _ (newle x c hm).1⟩
    show (cellsFrom (H1.objs.size + 1) scope.names (clOf env scope.names [])).lookup x = some c
    rw [cellsFrom_app, List.lookup_append, hc]; rfl
  · rcases splitc x c e with q | q
    · exact ⟨Nat.ne_of_gt (newle x c q).2.1, (okc.empty x c q).1.lt⟩
    · exact ⟨Nat.ne_of_lt (below (oldlt x c q)).2.1, (below (oldlt x c q)).2.2⟩
  · rcases splitc x c e1 with q | q <;> rcases splitc y c e2 with q' | q'
    · exact name_of_addr okc.apart q q'
    · exact absurd (oldlt _ _ q') (Nat.not_lt.mpr (newle _ _ q).2.2)
    · exact absurd (oldlt _ _ q) (Nat.not_lt.mpr (newle _ _ q').2.2)
    · exact F₁.inj _ _ _ q q'
  · have cells_ne : ∀ b, (h.objs.size = b ∨ b < h.objs.size ∧ (∀ x c, env.cells.lookup x = some c → c ≠ b)) → ∀ x c, (cEnv scope env H1.objs.size).cells.lookup x = some c → c ≠ b := fun b hb x c e => by
      rcases splitc x c e with q | q
      · have h1 : H1.objs.size < c := (newle x c q).2.1
        rcases hb with hb | ⟨hb, _⟩
        · exact Nat.ne_of_gt (hb ▸ Nat.lt_trans hltH h1)
        · exact Nat.ne_of_gt (Nat.lt_trans hb (Nat.lt_trans hltH h1))
      · have h3 := oldlt x c q
        rcases hb with hb | ⟨_, hb⟩
        · exact Nat.ne_of_lt (hb ▸ (below h3).1)
        · exact hb x c q
    rcases List.mem_append.mp hp with hp | hp
    · obtain ⟨h1, h2⟩ := hnn p hp
      obtain ⟨⟨o, eo, ro⟩, _, l2, l3, l4⟩ := (F₁.grow g₁).led p h1
      have hlt := Heap.lt_size eo
      exact ⟨⟨o, up _ _ eo, ro⟩, h2, l2, Nat.ne_of_lt (below' hlt), cells_ne _ (.inr ⟨hlt, l4⟩)⟩
    · rcases List.mem_cons.mp hp with rfl | hp
      · refine ⟨⟨_, pushCells_keeps _ _ _ _ (hH2 ▸ Heap.get?_push_of_some _ (hH1' ▸ Heap.get?_push_size _ rfl)), [], ⟨_, rfl⟩, RepL.nil⟩, ?_, nn1 _ (Nat.le_refl _), Nat.ne_of_lt hltH, cells_ne _ (.inl rfl)⟩
        show hx.objs.size ≤ h.objs.size
        rw [hsz]; exact g₁.sz
      · obtain ⟨p', hp', rfl⟩ := List.mem_map.mp hp
        obtain ⟨a1, a2, a3⟩ := hLL p' hp'
        have hlt := Heap.lt_size a3
        refine ⟨⟨_, up _ _ a3, rfl⟩, get_none (by rw [hsz]; exact a1), a2, Nat.ne_of_lt (below' hlt), cells_ne _ (.inr ⟨hlt, fun x c e => ?_⟩)⟩
        have l1 := oldlt x c e
        exact Nat.ne_of_lt (Nat.lt_of_lt_of_le l1 a1)
  · rw [List.map_append, List.map_cons, itl_fst]
    refine List.nodup_append.mpr ⟨hnd, List.nodup_cons.mpr ⟨fun hb => ?_, hL⟩, fun b hb c hc e => ?_⟩
    · obtain ⟨p, hp, e⟩ := List.mem_map.mp hb
      have := Heap.lt_size (hLL p hp).2.2
      rw [e] at this; exact Nat.lt_irrefl _ this
    · subst e
      obtain ⟨p, hp, rfl⟩ := List.mem_map.mp hb
      obtain ⟨⟨o, eo, _⟩, _⟩ := F₁.led p (hnn p hp).1
      have hlt := Heap.lt_size eo
      rcases List.mem_cons.mp hc with hc | hc
      · have hc' : p.1 = h.objs.size := hc; rw [hc'] at hlt; exact Nat.lt_irrefl _ (Nat.lt_of_lt_of_le hlt g₁.sz)
      · obtain ⟨q, hq, e⟩ := List.mem_map.mp hc
        have l1 := (hLL q hq).1
        rw [e] at l1; exact absurd hlt (Nat.not_lt.mpr l1)
end
end IK
end

/-! part B13 -/
section
open PySem PySem.W PyProof.Rows
set_option Elab.async false
set_option linter.unusedVariables false
namespace IK

noncomputable abbrev Tsts (w : World) (s0 : Shared) (A : Around) (env : Env) (h : Heap) (P : Pm) (ifs : List Expr) (b : Bool) : Prop :=
  Go w s0 A h P (forIn ifs true fun c r => if r = true then do let ok ← isTrue c env (eval c env); pure (ForInStep.yield ok) else pure (ForInStep.yield r)) (BoolR b)

section
variable {w : World} {s0 : Shared} {A : Around} {S : Sta} {env : Env} {ow : List Str} {h₀ h : Heap} {P₀ P : Pm} {n : List (Addr × Mo)} {ρ : List (Str × D)} {d : D}

theorem tsts_nil : Tsts w s0 A env h P [] true := by
  unfold Tsts
  rw [List.forIn_nil]
  exact Go.pure fun _ _ _ => rfl
theorem tsts_one {c : Expr} {b : Bool} (hc : Tst w s0 A env h P c b) : Tsts w s0 A env h P [c] b :=
  fun h₁ P₁ t ht g Q E q => wpAny_tests_one (hc h₁ P₁ t ht g Q E q)

/-- the next item is bound, or there is none -/
theorem comp_next {I : Addr} {wr : List Addr} {Pi : Pm} {xs : List D} {St : Nat → Heap → Prop} {i t : Nat} {L : List (Addr × Obj)} {x : Str} {px : Pos} {K : Shared → Prop} {K2 : Unit → Shared → Prop} {E : Value → Shared → Prop} (W : It w A I wr Pi xs St) (hP : PLe Pi P) (st : St i h) (ht : 1 ≤ t) (hi : i ≤ xs.length)
    (hL : L.map (·.1) = wr) (F : Frm S env ow h₀ P₀ (n ++ itl L) ρ h P) (hx : env.kindOf x = some .local ∨ (env.kindOf x = some .cell ∧ x ∈ ow))
    (stop : i = xs.length → ∀ h' t', 1 ≤ t' → Frm S env ow h₀ P₀ n ρ h' P → K (stt s0 h' t'))
    (item : ∀ d L' h' t', 1 ≤ t' → xs[i]? = some d → i < xs.length → L'.map (·.1) = wr → St (i + 1) h' → Frm S env ow h₀ P₀ (n ++ itl L') ((x, d) :: ρ) h' P → K2 () (stt s0 h' t')) :
    wpAny (model pg w) A (pyNext (.ref I)) (fun r s₁ => match r with | none => K s₁ | some v => wpAny (model pg w) A (assign (.Name x px) env v) K2 E s₁) E (stt s0 h t) := by
  by_cases hlt : i < xs.length
  · refine it_next W hP st ht hlt hL F fun v h₃ t₃ L₃ d ht₃ hd rv st₃ eL₃ F₃ => ?_
    refine wpAny_assign_Name (f_store F₃ hx rv ht₃ fun h₄ t₄ ht₄ F₄ => ?_)
    exact item d L₃ h₄ t₄ ht₄ hd hlt eL₃ (it_kept W hP st₃ eL₃ F₃.gr.snd hP (it_ledger F₃) F₄) F₄
  · have hin : i = xs.length := by omega
    subst hin
    exact it_stop W st ht hL F fun h₃ t₃ ht₃ F₃ => stop rfl h₃ t₃ ht₃ F₃

/-- append, to a list of the frame -/
theorem app_led {a : Addr} {ds : List D} {v : Value} {t : Nat} {Q : Value → Shared → Prop} {E : Value → Shared → Prop} (F : Frm S env ow h₀ P₀ ((a, .lst ds) :: n) ρ h P) (r : Rep P d v) (ht : 1 ≤ t) (hz : ds.length ≤ sizeLine)
    (k : ∀ h' t', 1 ≤ t' → Frm S env ow h₀ P₀ ((a, .lst (ds ++ [d])) :: n) ρ h' P → Q .none (stt s0 h' t')) : wpAny (model pg w) A (call (.builtin "list.append") [.ref a, v]) Q E (stt s0 h t) := by
  obtain ⟨⟨o, e, vs, ⟨m, rfl⟩, rl⟩, l, q, aL, ac⟩ := F.led _ (.head _)
  refine wpAny_list_append_plain (s := stt s0 h t) ⟨m, e⟩ (fun h' hp hs => ?_) (by rw [List.size_toArray, rl.length]; exact hz)
  obtain ⟨m', e'⟩ := hp
  refine k h' t ht (F.change id hs e' ⟨vs ++ [v], ⟨m', by rw [List.push_toArray]⟩, rl.snoc r⟩)

/-- one turn's end: the item's tests, and what is put down -/
noncomputable def Turn (w : World) (s0 : Shared) (A : Around) (S : Sta) (env : Env) (ow : List Str) (h₀ : Heap) (P₀ : Pm) (n n' : List (Addr × Mo)) (ρ : List (Str × D)) (h : Heap) (P : Pm) (ifs : List Expr) (elt : Expr) (r r' : List D) : Prop :=
  ∃ b, Tsts w s0 A env h P ifs b ∧ (b = false → r' = r ∧ n' = n) ∧
    (b = true → ∃ g, r' = r ++ [g] ∧ ∀ h₁ P₁ t (Q : Value → Shared → Prop) (E : Value → Shared → Prop), 1 ≤ t → Gr h P h₁ P₁ →
      (∀ v h₂ P₂ t₂, 1 ≤ t₂ → PLe P₁ P₂ → Rep P₂ g v → Frm S env ow h₀ P₀ n' ρ h₂ P₂ → Q v (stt s0 h₂ t₂)) → wpAny (model pg w) A (eval elt env) Q E (stt s0 h₁ t))
theorem Turn.pure {ifs : List Expr} {elt : Expr} {b : Bool} {g : D} {r : List D} (F : Frm S env ow h₀ P₀ n ρ h P) (ht : Tsts w s0 A env h P ifs b) (he : b = true → Ev w s0 A env h P elt g) :
    Turn w s0 A S env ow h₀ P₀ n n ρ h P ifs elt r (if b then r ++ [g] else r) :=
  ⟨b, ht, fun e => by rw [e]; exact ⟨rfl, rfl⟩, fun e => ⟨g, by rw [e]; rfl, fun h₁ P₁ t Q E ht g₁ q => he e h₁ P₁ t ht g₁ Q E fun v h₂ P₂ t₂ ht₂ g₂ r => q v h₂ P₂ t₂ ht₂ g₂.ext r (F.grow (g₁.trans g₂))⟩⟩
theorem Turn.ledger {n₁ n₂ m : List (Addr × Mo)} {ifs : List Expr} {elt : Expr} {r r' : List D} (x : Turn w s0 A S env ow h₀ P₀ (n₁ ++ m) (n₂ ++ m) ρ h P ifs elt r r') : Turn w s0 A S env ow h₀ P₀ (n₁ ++ m) (n₂ ++ m) ρ h P ifs elt r r' := x

theorem comp_one {I a : Addr} {wr : List Addr} {xs : List D} {St : Nat → Heap → Prop} {t : Nat} {L : List (Addr × Obj)} {x : Str} {px pos : Pos} {elt iter : Expr} {ifs : List Expr} {scope : Scope} {R : Result → Shared → Prop}
    (nn : Nat → List (Addr × Mo)) (rs : Nat → List D) (W : It w A I wr P xs St) (st : St 0 h) (ht : 1 ≤ t) (hL : L.map (·.1) = wr) (F : Frm S env ow h₀ P₀ (nn 0 ++ ((a, .lst (rs 0)) :: itl L)) ρ h P)
    (hx : env.kindOf x = some .local ∨ (env.kindOf x = some .cell ∧ x ∈ ow)) (hz : ∀ i, i ≤ xs.length → (rs i).length ≤ sizeLine) (hxρ : ρ.lookup x = none)
    (turn : ∀ i d m h P', xs[i]? = some d → PLe P P' → Frm S env ow h₀ P₀ (nn i ++ m) ((x, d) :: ρ) h P' → Turn w s0 A S env ow h₀ P₀ (nn i ++ m) (nn (i + 1) ++ m) ((x, d) :: ρ) h P' ifs elt (rs i) (rs (i + 1)))
    (done : ∀ h' t' P', 1 ≤ t' → PLe P P' → Frm S env ow h₀ P₀ (nn xs.length ++ [(a, .lst (rs xs.length))]) ρ h' P' → R (.ok .next) (stt s0 h' t')) :
    codeAny (model pg w) A (.compLoop (.ListComp elt [⟨.Name x px, iter, ifs, 0⟩] scope pos) 0 (.ref I) (.ref a) env) R (stt s0 h t) := by
  refine codeAny_compLoop_tests (fun k s => ∃ i h t P' L, s = stt s0 h t ∧ 1 ≤ t ∧ k = xs.length + 1 - i ∧ i ≤ xs.length ∧ St i h ∧ PLe P P' ∧ L.map (·.1) = wr ∧ Frm S env ow h₀ P₀ (nn i ++ ((a, .lst (rs i)) :: itl L)) ρ h P') ?_ (xs.length + 1)
    ⟨0, h, t, P, L, rfl, ht, rfl, Nat.zero_le _, st, fun _ _ e => e, hL, F⟩
  rintro k _ ⟨i, h, t, P', L, rfl, ht, rfl, hile, st, hP, eL, F⟩
  have assoc : ∀ (j i : Nat) (l : List (Addr × Mo)), nn j ++ ((a, .lst (rs i)) :: l) = (nn j ++ [(a, .lst (rs i))]) ++ l := fun j i l => by simp
  rw [assoc] at F
  refine comp_next W hP st ht hile eL F hx (fun hi h' t' ht' F' => ?_) fun d L' h' t' ht' hd hlt eL' st' F' => ?_
  · rw [hi] at F'; exact done h' t' P' ht' hP F'
  · rw [← assoc] at F'
    obtain ⟨b, hts, hno, hyes⟩ := turn i d _ h' P' hd hP F'
    refine hts h' P' t' ht' F'.refl' _ _ fun v h₂ P₂ t₂ ht₂ g₂ r => ?_
    cases r
    have hP₂ : PLe P P₂ := fun b o e => g₂.ext b o (hP b o e)
    have F₂ := F'.grow g₂
    have st₂ : St (i + 1) h₂ := by rw [assoc] at F' F₂; exact it_kept W hP₂ st' eL' F'.gr.snd hP (it_ledger F') F₂
    have drop : ∀ {n : List (Addr × Mo)} {h : Heap} {P : Pm}, Frm S env ow h₀ P₀ n ((x, d) :: ρ) h P → Frm S env ow h₀ P₀ n ρ h P := fun F => F.vars fun y e q => by
      rw [List.lookup_cons]
      have : (y == x) = false := beq_eq_false_iff_ne.mpr fun z => by subst z; rw [hxρ] at q; cases q
      rw [this]; exact q
    cases b with
    | false =>
      obtain ⟨e1, e2⟩ := hno rfl
      rw [if_neg Bool.false_ne_true]
      refine ⟨xs.length + 1 - (i + 1), by omega, i + 1, h₂, t₂, P₂, L', rfl, ht₂, rfl, hlt, st₂, hP₂, eL', ?_⟩
      rw [List.append_cancel_right e2, e1]
      exact drop F₂
    | true =>
      obtain ⟨g, e1, he⟩ := hyes rfl
      rw [if_pos rfl]
      refine he h₂ P₂ t₂ _ _ ht₂ g₂ fun v h₃ P₃ t₃ ht₃ hP₃ r₃ F₃ => ?_
      have hP₃' : PLe P P₃ := fun b o e => hP₃ b o (hP₂ b o e)
      have st₃ : St (i + 1) h₃ := by rw [assoc] at F₂ F₃; exact it_kept W hP₃' st₂ eL' F₂.gr.snd hP₂ (it_ledger F₂) F₃
      have F₃' := F₃.perm List.perm_middle
      refine app_led F₃' r₃ ht₃ (hz i hile) fun h₄ t₄ ht₄ F₄ => ?_
      have F₄' : Frm S env ow h₀ P₀ (nn (i + 1) ++ ((a, .lst (rs (i + 1))) :: itl L')) ((x, d) :: ρ) h₄ P₃ := by rw [e1]; exact F₄.perm List.perm_middle.symm
      refine ⟨xs.length + 1 - (i + 1), by omega, i + 1, h₄, t₄, P₃, L', rfl, ht₄, rfl, hlt, ?_, hP₃', eL', drop F₄'⟩
      have e2 : ∀ l, nn (i + 1) ++ ((a, .lst (rs (i + 1))) :: l) = (nn (i + 1) ++ [(a, .lst (rs (i + 1)))]) ++ l := fun l => by simp
      rw [assoc] at F₃
      rw [e2] at F₄'
      exact it_kept W hP₃' st₃ eL' F₃.gr.snd hP₃' (it_ledger F₃) F₄'
end
end IK
end

/-! part B14 -/
section
open PySem PySem.W PyProof.Rows
set_option Elab.async false
set_option linter.unusedVariables false
namespace IK

theorem kind_rel_local {scope : Scope} {env : Env} {C : Addr} {x : Str} (h : scope.names.lookup x = some .local) : (cEnv scope env C).kindOf x = some .local := lookup_relabel_local h
theorem kind_rel_cell {scope : Scope} {env : Env} {C : Addr} {x : Str} (h : scope.names.lookup x = some .cell) : (cEnv scope env C).kindOf x = some .cell := lookup_relabel_cell h

section
variable {w : World} {s0 : Shared} {A : Around} {S : Sta} {env : Env} {ow cow : List Str} {h₀ hx h h₁ : Heap} {P₀ P P₁ : Pm} {n : List (Addr × Mo)} {ρ ρc : List (Str × D)} {scope : Scope} {d : D}

theorem Ibl.mono {e : Expr} {xs : List D} (i : Ibl w s0 A env h P e xs) (g : Gr h P h₁ P₁) : Ibl w s0 A env h₁ P₁ e xs := fun h₂ P₂ t ht g₂ => i h₂ P₂ t ht (g.trans g₂)

theorem comp_run {t : Nat} {Q : Value → Shared → Prop} {E : Value → Shared → Prop} {x : Str} {px pos pos' : Pos} {elt iter : Expr} {ifs : List Expr} {use : Option (Value → Sem Unit)} {xs : List D} (nn : Nat → List (Addr × Mo)) (rs : Nat → List D)
    (ok : CompOk scope env cow) (fr : Frees scope env ρ ρc) (F : Frm S env ow h₀ P₀ (n ++ nn 0) ρ h P) (hsub : ∀ b o, hx.get? b = some o → h.get? b = some o) (hsz : hx.objs.size = h.objs.size) (hnn : ∀ p ∈ nn 0, MoNew hx p.1 p.2)
    (hi : Ibl w s0 A env h P iter xs) (ht : 1 ≤ t) (h0 : rs 0 = []) (hx' : scope.names.lookup x = some .local ∨ (scope.names.lookup x = some .cell ∧ x ∈ cow)) (hz : ∀ i, i ≤ xs.length → (rs i).length ≤ sizeLine) (hxρ : ρc.lookup x = none) (hs : ∀ y, foldedSetIterable iter env y = pure y)
    (turn : ∀ C i d m h' P', xs[i]? = some d → PLe P P' → Frm S (cEnv scope env C) cow hx P (nn i ++ m) ((x, d) :: ρc) h' P' → Turn w s0 A S (cEnv scope env C) cow hx P (nn i ++ m) (nn (i + 1) ++ m) ((x, d) :: ρc) h' P' ifs elt (rs i) (rs (i + 1)))
    (fin : ∀ C a h' t' P', 1 ≤ t' → PLe P P' → Frm S (cEnv scope env C) cow hx P (nn xs.length ++ [(a, .lst (rs xs.length))]) ρc h' P' → compPost (model pg w) A E use Q (.ref a) C (.ok .next) (stt s0 h' t')) :
    wpAny (model pg w) A (comprehension (.ListComp elt [⟨.Name x px, iter, ifs, 0⟩] scope pos) scope env pos' (newList []) false (eval iter env) use) Q E (stt s0 h t) := by
  have hnm : ∀ y ∈ scope.names, y.2 = .local → scope.names.lookup y.1 = some .local := fun y hy e => by
    have := List.all_eq_true.mp ok.names y hy
    rw [e] at this
    simpa using this
  refine wpAny_comprehension_free rfl hs (closureFor_pure ok.frees) ok.fk hnm (hi h P t ht F.refl' _ E fun I wr St h₂ P₂ t₂ ht₂ g₂ W st hwr => ?_)
  have hlive : ∀ i h, St i h → ∀ b ∈ wr, ∃ o, h.get? b = some o := let ⟨_, _, _, _, _, _, k⟩ := W; k
  have hnd : wr.Nodup := let ⟨_, _, _, _, _, k, _⟩ := W; k
  obtain ⟨L, eL, kL⟩ := it_objs (hlive _ _ st)
  have hd0 : ((nn 0).map (·.1)).Nodup := by have := F.dist; rw [List.map_append] at this; exact (List.nodup_append.mp this).2.1
  refine comp_enter (RR := fun acc C => compPost (model pg w) A E use Q acc C) (hx := hx) (nn := nn 0) (L := L) ok fr F g₂ hsub hsz (fun p hp => ⟨List.mem_append_right _ hp, hnn p hp⟩) hd0 (by rw [eL]; exact hnd) (fun p hp => ?_) ht₂ fun C a h₃ t₃ ha ht₃ F₃ => ?_
  · have := hwr p.1 (by rw [← eL]; exact List.mem_map_of_mem hp)
    exact ⟨this.1, this.2, kL p hp⟩
  · -- the iterator stands
    have up₃ : ∀ b ∈ wr, ∀ o, h₂.get? b = some o → h₃.get? b = some o := fun b hb o e => by
      rw [← eL] at hb
      obtain ⟨p, hp, rfl⟩ := List.mem_map.mp hb
      have := it_ledger (n := nn 0 ++ [(a, .lst [])]) (L := L) (by simpa using F₃) p hp
      rw [kL p hp] at e; cases e
      exact this
    have st₃ : St 0 h₃ := by
      refine it_kept (n' := nn 0 ++ [(a, .lst [])]) (L := L) W (P := P₂) (P' := P₂) (fun _ _ e => e) st eL g₂.snd (fun _ _ e => e) kL (by simpa using F₃)
    have body : ∀ h₃ t₃ (L : List (Addr × Obj)), 1 ≤ t₃ → St 0 h₃ → L.map (·.1) = wr → Frm S (cEnv scope env C) cow hx P (nn 0 ++ ((a, .lst []) :: itl L)) ρc h₃ P₂ → codeAny (model pg w) A (.compLoop (.ListComp elt [⟨.Name x px, iter, ifs, 0⟩] scope pos) 0 (.ref I) (.ref a) (cEnv scope env C)) (compPost (model pg w) A E use Q (.ref a) C) (stt s0 h₃ t₃) :=
      fun h₃ t₃ L ht₃ st₃ eL F₃ => comp_one nn rs W st₃ ht₃ eL (by rw [h0]; exact F₃) (hx'.imp kind_rel_local fun ⟨p, q⟩ => ⟨kind_rel_cell p, q⟩) hz hxρ
        (fun i d m h' P' hd hP F' => turn C i d m h' P' hd (fun b o e => hP b o (g₂.ext b o e)) F')
        (fun h' t' P' ht' hP F' => fin C a h' t' P' ht' (fun b o e => hP b o (g₂.ext b o e)) F')
    refine codeAny_compStart_list (body _ _ L ht₃ st₃ eL F₃) ?_
    obtain ⟨fp, Pv, W', _⟩ := id W
    exact W'.self 0 (stt s0 h₃ t₃) _ _ st₃ (body _ _ L ht₃ st₃ eL F₃)

/-- a list made item by item, nothing else changed -/
theorem ev_comp {α : Type} {x : Str} {px pos : Pos} {elt iter : Expr} {ifs : List Expr} (ys : List α) (φ : α → D) (b : α → Bool) (g : α → D) (cow : List Str) (ρc : List (Str × D)) (F : Frm S env ow h₀ P₀ n ρ h P) (ok : CompOk scope env cow) (fr : Frees scope env ρ ρc)
    (hi : Ibl w s0 A env h P iter (ys.map φ)) (hx' : scope.names.lookup x = some .local ∨ (scope.names.lookup x = some .cell ∧ x ∈ cow)) (hxρ : ρc.lookup x = none) (hz : ys.length ≤ sizeLine)
    (ht : ∀ y ∈ ys, ∀ C hb Pb m h' P', Frm S (cEnv scope env C) cow hb Pb m ((x, φ y) :: ρc) h' P' → Tsts w s0 A (cEnv scope env C) h' P' ifs (b y))
    (he : ∀ y ∈ ys, b y = true → ∀ C hb Pb m h' P', Frm S (cEnv scope env C) cow hb Pb m ((x, φ y) :: ρc) h' P' → Ev w s0 A (cEnv scope env C) h' P' elt (g y))
    (hs : ∀ y, foldedSetIterable iter env y = pure y := by intro _; rfl) :
    Ev w s0 A env h P (.ListComp elt [⟨.Name x px, iter, ifs, 0⟩] scope pos) (.lst ((ys.filter b).map g)) := by
  intro h₁ P₁ t ht' g₁ Q E q
  rw [eval_ListComp]
  have F₁ := F.grow g₁
  have hzr : ∀ i, (((ys.take i).filter b).map g).length ≤ sizeLine := fun i => by
    rw [List.length_map]
    refine Nat.le_trans (List.length_filter_le ..) (Nat.le_trans ?_ hz)
    rw [List.length_take]; exact Nat.min_le_right ..
  refine comp_run (hx := h₁) (xs := ys.map φ) (use := none) (fun _ => []) (fun i => ((ys.take i).filter b).map g) ok fr (by simpa using F₁) (fun _ _ e => e) rfl (fun p hp => nomatch hp) (hi.mono g₁) ht' rfl hx' (fun i _ => hzr i) hxρ hs
    (fun C i d m h' P' hd hP F' => ?_) fun C a h' t' P' ht'' hP F' => ?_
  · rw [List.getElem?_map] at hd
    obtain ⟨y, hy, rfl⟩ := Option.map_eq_some_iff.mp hd
    have hm : y ∈ ys := List.mem_of_getElem? hy
    have := Turn.pure (r := ((ys.take i).filter b).map g) F' (ht y hm C _ _ _ _ _ F') (fun e => he y hm e C _ _ _ _ _ F')
    have e2 : ((ys.take (i + 1)).filter b).map g = if b y then ((ys.take i).filter b).map g ++ [g y] else ((ys.take i).filter b).map g := by
      rw [take_succ_filter b ys i y hy, List.map_append]
      cases b y <;> simp
    rw [e2]
    exact this
  · obtain ⟨P₂, F₂, hP₂, rp⟩ := Frm.freeze (n := []) F'
    obtain ⟨m, hm⟩ := F₂.ns
    refine ⟨m, hm, fun h'' hs => ?_⟩
    have e : (ys.map φ).length = ys.length := List.length_map ..
    rw [e, List.take_length] at rp
    have gg : Gr h₁ P₁ h'' P₂ := gr_but F₂.gr hs (get_none F₂.lnew) F₂.lP
    exact q _ h'' P₂ t' ht'' gg rp
end
end IK
end

/-! part B15 -/
section
open PySem PySem.W PyProof.Rows
set_option Elab.async false
set_option linter.unusedVariables false
namespace IK
section
variable {w : World} {s0 : Shared} {A : Around} {S : Sta} {env : Env} {ow cow : List Str} {h₀ hx h h' h₁ : Heap} {P₀ P P' P₁ : Pm} {n nn nk : List (Addr × Mo)} {ρ ρc : List (Str × D)} {scope : Scope} {d : D} {K : Flow → Heap → Prop}

theorem Frm.addOne {a : Addr} {m : Mo} (F : Frm S env ow h₀ P₀ n ρ h P) (hn : MoNew h₀ a m) (hP : P a = none) (hl : a ≠ env.locals) (hc : ∀ x c, env.cells.lookup x = some c → c ≠ a) (hd : ∀ p ∈ n, p.1 ≠ a)
    (ho : ∃ o, h.get? a = some o ∧ MoIs P o m) : Frm S env ow h₀ P₀ (n ++ [(a, m)]) ρ h P :=
  ⟨F.gr, F.inn, F.ns, F.lnew, F.lP, F.own, F.clo, F.inj, fun p hp => by
    rcases List.mem_append.mp hp with hp | hp
    · exact F.led p hp
    · cases List.mem_singleton.mp hp; exact ⟨ho, hn, hP, hl, hc⟩, by
    rw [List.map_append]
    refine List.nodup_append.mpr ⟨F.dist, by simp, fun b hb c hc' e => ?_⟩
    obtain ⟨p, hp, rfl⟩ := List.mem_map.mp hb
    cases List.mem_singleton.mp hc'
    exact hd p hp e⟩

/-- back in the frame around, the comprehension's own frame kept as it stands -/
theorem comp_back {C a : Addr} {l : List D} (F : Frm S env ow h₀ P₀ (n ++ nn) ρ h P) (hsub : ∀ b o, b ∉ nn.map (·.1) → h.get? b = some o → hx.get? b = some o) (hsz : hx.objs.size = h.objs.size)
    (Fc : Frm S (cEnv scope env C) cow hx P (nk ++ [(a, .lst l)]) ρc h' P') (hm : nk.map (·.1) = nn.map (·.1)) (hmo : ∀ p ∈ nk, MoNew h₀ p.1 p.2) :
    ∃ P₂ o, PLe P' P₂ ∧ Rep P₂ (.lst l) (.ref a) ∧ (∀ h'' : Heap, h''.get? C = some o → ∃ m, h''.Ns C m) ∧ Frm S env ow h₀ P₀ ((n ++ nk) ++ [(C, .is (· = o))]) ρ h' P₂ := by
  obtain ⟨P₂, F₂, hP₂, rp⟩ := Frm.freeze (Fc.perm (n' := (a, .lst l) :: nk) (by simpa using List.perm_middle (l₁ := nk) (l₂ := []) (a := (a, Mo.lst l))))
  obtain ⟨mm, o, es, ep, ho, r⟩ := F₂.ns
  have hC : h.objs.size ≤ C := by rw [← hsz]; exact F₂.lnew
  have G : GrB (nn.map (·.1)) h P h' P₂ := ⟨fun b o hb e => F₂.gr.up b o (hsub b o hb e), F₂.gr.ext, fun b o e => by rw [← hsz]; exact F₂.gr.new b o e, F₂.gr.snd, by rw [← hsz]; exact F₂.gr.sz⟩
  have F₃ := F.butG (m' := nk) G hm fun p hp => ⟨hmo p hp, (F₂.led p hp).1⟩
  refine ⟨P₂, o, hP₂, rp, fun h'' e => ⟨mm, o, es, ep, e, r⟩, F₃.addOne (get_none (Nat.le_trans F.gr.sz hC)) F₂.lP (fun e => ?_) (fun x c e z => ?_) (fun p hp e => ?_) ⟨o, ho, rfl⟩⟩
  · obtain ⟨_, q⟩ := F.ns
    exact absurd q.lt (Nat.not_lt.mpr (e ▸ hC))
  · subst z; exact absurd (F.clo x c e).2 (Nat.not_lt.mpr hC)
  · have : p.1 ∈ (n ++ nn).map (·.1) := by
      rw [List.map_append, ← hm, ← List.map_append]; exact List.mem_map_of_mem hp
    obtain ⟨q, hq, e'⟩ := List.mem_map.mp this
    obtain ⟨⟨oo, eo, _⟩, _⟩ := F.led q hq
    rw [e', e] at eo
    exact absurd (Heap.lt_size eo) (Nat.not_lt.mpr hC)

/-- the kept frame is let go -/
theorem comp_drop {C : Addr} {o : Obj} (F : Frm S env ow h₀ P₀ (n ++ [(C, .is (· = o))]) ρ h P) (hs : Heap.SameBut C h h') : Frm S env ow h₀ P₀ n ρ h' P :=
  F.drop (fun b o hb e => hs.extBut b o (fun q => hb (by rw [q]; exact .head _)) e) (by rw [hs.1]; exact Nat.le_refl _)

/-- y = [...], y local: the stores are exchanged -/
theorem x_comp {xs : List D} {x y : Str} {px py pos spos : Pos} {elt iter : Expr} {ifs : List Expr} (nn : Nat → List (Addr × Mo)) (rs : Nat → List D) (cow : List Str) (ρc : List (Str × D))
    (ok : CompOk scope env cow) (fr : Frees scope env ρ ρc) (F : Frm S env ow h₀ P₀ (n ++ nn 0) ρ h P) (hsub : ∀ b o, hx.get? b = some o → h.get? b = some o) (hsub' : ∀ b o, b ∉ (nn 0).map (·.1) → h.get? b = some o → hx.get? b = some o) (hsz : hx.objs.size = h.objs.size) (hnn : ∀ p ∈ nn 0, MoNew hx p.1 p.2)
    (hm : (nn xs.length).map (·.1) = (nn 0).map (·.1)) (hmo : ∀ p ∈ nn xs.length, MoNew h₀ p.1 p.2)
    (hi : Ibl w s0 A env h P iter xs) (h0 : rs 0 = []) (hx' : scope.names.lookup x = some .local ∨ (scope.names.lookup x = some .cell ∧ x ∈ cow)) (hz : ∀ i, i ≤ xs.length → (rs i).length ≤ sizeLine) (hxρ : ρc.lookup x = none)
    (hsw : swapsWith (.ListComp elt [⟨.Name x px, iter, ifs, 0⟩] scope pos) (some (.Name y py)) spos.line env = pure true) (hk : env.kindOf y = some .local)
    (turn : ∀ C i d m h' P', xs[i]? = some d → PLe P P' → Frm S (cEnv scope env C) cow hx P (nn i ++ m) ((x, d) :: ρc) h' P' → Turn w s0 A S (cEnv scope env C) cow hx P (nn i ++ m) (nn (i + 1) ++ m) ((x, d) :: ρc) h' P' ifs elt (rs i) (rs (i + 1)))
    (k : ∀ h' P', PLe P P' → Frm S env ow h₀ P₀ (n ++ nn xs.length) ((y, .lst (rs xs.length)) :: ρ) h' P' → K .next h')
    (hs : ∀ y, foldedSetIterable iter env y = pure y := by intro _; rfl) :
    X1 w s0 A env (.Assign [.Name y py] (.ListComp elt [⟨.Name x px, iter, ifs, 0⟩] scope pos) spos) h K := by
  intro t ht Q E q
  rw [exec_Assign_Name_used _ _ _ _ hsw]
  refine wpAny_bind (wpAny_standAt (wpAny_bind ?_))
  show wpAny _ A (do let _ ← comprehension (.ListComp elt [⟨.Name x px, iter, ifs, 0⟩] scope pos) scope env _ (newList []) false (eval iter env) (some (assign (.Name y py) env))) _ _ _
  refine wpAny_bind (wpAny_mono (comp_run (Q := fun _ s' => Q .next s') (use := some (assign (.Name y py) env)) nn rs ok fr F hsub hsz hnn hi ht h0 hx' hz hxρ hs turn fun C a h' t' P' ht' hP Fc => ?_) (fun _ s' hq => wpAny_pure (wpAny_pure hq)) fun _ _ e => e)
  obtain ⟨P₂, o, hP₂, rp, hC, F₂⟩ := comp_back F hsub' hsz Fc hm hmo
  show wpAny _ A (assign (.Name y py) env (.ref a)) _ _ _
  refine wpAny_assign_Name (f_store F₂ (.inl hk) rp ht' fun h₃ t₃ ht₃ F₃ => ?_)
  obtain ⟨⟨o', eo', ro'⟩, _⟩ := F₃.led (C, .is (· = o)) (List.mem_append_right _ (.head _))
  have ro'' : o' = o := ro'
  subst ro''
  obtain ⟨m, hm'⟩ := hC h₃ eo'
  exact ⟨m, hm', fun h₄ hs₄ => q .next h₄ t₃ ht₃ (k h₄ P₂ (fun b o e => hP₂ b o (hP b o e)) (comp_drop F₃ hs₄))⟩

theorem x_comp_pure {α : Type} {x y : Str} {px py pos spos : Pos} {elt iter : Expr} {ifs : List Expr} (ys : List α) (φ : α → D) (b : α → Bool) (g : α → D) (cow : List Str) (ρc : List (Str × D)) (F : Frm S env ow h₀ P₀ n ρ h P) (ok : CompOk scope env cow) (fr : Frees scope env ρ ρc)
    (hi : Ibl w s0 A env h P iter (ys.map φ)) (hx' : scope.names.lookup x = some .local ∨ (scope.names.lookup x = some .cell ∧ x ∈ cow)) (hxρ : ρc.lookup x = none) (hz : ys.length ≤ sizeLine)
    (hsw : swapsWith (.ListComp elt [⟨.Name x px, iter, ifs, 0⟩] scope pos) (some (.Name y py)) spos.line env = pure true) (hk : env.kindOf y = some .local)
    (ht : ∀ y ∈ ys, ∀ C hb Pb m h' P', Frm S (cEnv scope env C) cow hb Pb m ((x, φ y) :: ρc) h' P' → Tsts w s0 A (cEnv scope env C) h' P' ifs (b y))
    (he : ∀ y ∈ ys, b y = true → ∀ C hb Pb m h' P', Frm S (cEnv scope env C) cow hb Pb m ((x, φ y) :: ρc) h' P' → Ev w s0 A (cEnv scope env C) h' P' elt (g y))
    (k : ∀ h' P', PLe P P' → Frm S env ow h₀ P₀ n ((y, .lst ((ys.filter b).map g)) :: ρ) h' P' → K .next h')
    (hs : ∀ y, foldedSetIterable iter env y = pure y := by intro _; rfl) :
    X1 w s0 A env (.Assign [.Name y py] (.ListComp elt [⟨.Name x px, iter, ifs, 0⟩] scope pos) spos) h K := by
  have hzr : ∀ i, (((ys.take i).filter b).map g).length ≤ sizeLine := fun i => by
    rw [List.length_map]
    refine Nat.le_trans (List.length_filter_le ..) (Nat.le_trans ?_ hz)
    rw [List.length_take]; exact Nat.min_le_right ..
  refine x_comp (n := n) (hx := h) (xs := ys.map φ) (fun _ => []) (fun i => ((ys.take i).filter b).map g) cow ρc ok fr (by simpa using F) (fun _ _ e => e) (fun _ _ _ e => e) rfl (fun p hp => nomatch hp) rfl (fun p hp => nomatch hp) hi rfl hx' (fun i _ => hzr i) hxρ hsw hk
    (fun C i d m h' P' hd hP F' => ?_) (fun h' P' hP F' => ?_) hs
  · rw [List.getElem?_map] at hd
    obtain ⟨y, hy, rfl⟩ := Option.map_eq_some_iff.mp hd
    have hm : y ∈ ys := List.mem_of_getElem? hy
    have := Turn.pure (r := ((ys.take i).filter b).map g) F' (ht y hm C _ _ _ _ _ F') (fun e => he y hm e C _ _ _ _ _ F')
    have e2 : ((ys.take (i + 1)).filter b).map g = if b y then ((ys.take i).filter b).map g ++ [g y] else ((ys.take i).filter b).map g := by
      rw [take_succ_filter b ys i y hy, List.map_append]
      cases b y <;> simp
    rw [e2]
    exact this
  · have e : (ys.map φ).length = ys.length := List.length_map ..
    rw [e, List.take_length] at F'
    exact k h' P' hP (by simpa using F')
end
end IK
end

/-! part B16 -/
section
open PySem PySem.W PyProof.Rows
set_option Elab.async false
set_option linter.unusedVariables false
namespace IK

/-! ## texts cut, glued, replaced: the plain side -/
noncomputable def spl (c : Nat) : List Nat → List (List Nat)
  | [] => [[]]
  | a :: r => if a = c then [] :: spl c r else match spl c r with
    | [] => [[a]]
    | p :: q => (a :: p) :: q
noncomputable def jn (sep : List Nat) : List (List Nat) → List Nat
  | [] => []
  | [x] => x
  | x :: y :: r => x ++ sep ++ jn sep (y :: r)
noncomputable def rep (c : Nat) (z : List Nat) (l : List Nat) : List Nat := l.flatMap fun a => if a = c then z else [a]

theorem spl_ne (c : Nat) (l : List Nat) : spl c l ≠ [] := by
  cases l with
  | nil => simp [spl]
  | cons a r =>
    unfold spl
    split
    · simp
    · split <;> simp
theorem spl_free (c : Nat) : ∀ l, ∀ p ∈ spl c l, c ∉ p
  | [], p, h => by simp [spl] at h; subst h; simp
  | a :: r, p, h => by
    unfold spl at h
    split at h
    · rcases List.mem_cons.mp h with rfl | h
      · simp
      · exact spl_free c r p h
    · rename_i ha
      have ih := spl_free c r
      split at h
      · simp at h; subst h; simpa using Ne.symm ha
      · rename_i q s e
        rw [e] at ih
        rcases List.mem_cons.mp h with rfl | h
        · have := ih q (.head _)
          simp only [List.mem_cons, not_or]
          exact ⟨Ne.symm ha, this⟩
        · exact ih p (.tail _ h)
theorem jn_cons (sep x : List Nat) {r : List (List Nat)} (h : r ≠ []) : jn sep (x :: r) = x ++ sep ++ jn sep r := by
  cases r with
  | nil => exact absurd rfl h
  | cons y r => rfl
theorem spl_app (c : Nat) : ∀ (p : List Nat), c ∉ p → ∀ l, spl c (p ++ c :: l) = p :: spl c l
  | [], _, l => by simp [spl]
  | a :: p, h, l => by
    simp only [List.mem_cons, not_or] at h
    show spl c (a :: (p ++ c :: l)) = _
    rw [spl, if_neg (Ne.symm h.1), spl_app c p h.2 l]
theorem spl_whole (c : Nat) : ∀ (p : List Nat), c ∉ p → spl c p = [p]
  | [], _ => rfl
  | a :: p, h => by
    simp only [List.mem_cons, not_or] at h
    rw [spl, if_neg (Ne.symm h.1), spl_whole c p h.2]
theorem spl_jn (c : Nat) : ∀ (ps : List (List Nat)), ps ≠ [] → (∀ p ∈ ps, c ∉ p) → spl c (jn [c] ps) = ps
  | [], h, _ => absurd rfl h
  | [p], _, h => spl_whole c p (h p (.head _))
  | p :: q :: r, _, h => by
    rw [jn_cons _ _ (by simp), List.append_assoc]
    show spl c (p ++ c :: jn [c] (q :: r)) = _
    rw [spl_app c p (h p (.head _)), spl_jn c (q :: r) (by simp) fun x hx => h x (.tail _ hx)]
theorem jn_rep (c : Nat) (z : List Nat) : ∀ l, jn z (spl c l) = rep c z l
  | [] => rfl
  | a :: r => by
    have ih := jn_rep c z r
    unfold spl
    split
    · rename_i h
      rw [jn_cons _ _ (spl_ne c r), ih]
      simp [rep, h]
    · rename_i h
      split
      · rename_i e; exact absurd e (spl_ne c r)
      · rename_i p q e
        rw [e] at ih
        have : jn z ((a :: p) :: q) = a :: jn z (p :: q) := by
          cases q <;> rfl
        rw [this, ih]
        simp [rep, h]
theorem rep_self (c : Nat) : ∀ l, rep c [c] l = l
  | [] => rfl
  | a :: r => by
    have ih := rep_self c r
    unfold rep at ih ⊢
    rw [List.flatMap_cons, ih]
    by_cases h : a = c
    · subst h; simp
    · simp [h]
theorem jn_spl (c : Nat) (l : List Nat) : jn [c] (spl c l) = l := by rw [jn_rep, rep_self]

theorem strjoin_T (z : List Nat) : ∀ (ps : List (List Nat)), Str.join (T z) (ps.map T) = T (jn z ps)
  | [] => rfl
  | [p] => rfl
  | p :: q :: r => by
    rw [jn_cons _ _ (by simp), List.map_cons]
    show T p ++ T z ++ Str.join (T z) ((q :: r).map T) = _
    rw [strjoin_T z (q :: r), T_app, T_app]
theorem T_inj {a b : List Nat} (h : T a = T b) : a = b := by
  have := congrArg (fun s : Str => s.cps.toList) h
  simpa using this
theorem T_back (x : Str) : T x.cps.toList = x := rfl
theorem map_T_back (xs : List Str) : (xs.map fun x => x.cps.toList).map T = xs := by
  rw [List.map_map]
  conv => rhs; rw [← List.map_id xs]
  rfl
theorem split_T (l : List Nat) (c : Nat) : Txt.split (T l) (T [c]) = (spl c l).map T := by
  have h1 := StrLaws.join_split (T l) (T [c])
  have h2 := StrLaws.split_free (T l) c
  have h3 := split_pos (T l) (T [c])
  rw [← map_T_back (Txt.split (T l) (T [c])), strjoin_T] at h1
  have h4 := T_inj h1
  have h5 : spl c l = (Txt.split (T l) (T [c])).map fun x => x.cps.toList := by
    refine (congrArg (spl c) h4).symm.trans (spl_jn c _ (fun e => ?_) fun p hp => ?_)
    · rw [List.map_eq_nil_iff] at e; rw [e] at h3; exact absurd h3 (by simp)
    · obtain ⟨x, hx, rfl⟩ := List.mem_map.mp hp
      exact h2 x hx
  rw [h5, map_T_back]
theorem replace_T (l z : List Nat) (c : Nat) : Txt.replace (T l) (T [c]) (T z) = T (rep c z l) := by
  have := StrLaws.replace_one (T l) (T z) c
  rw [show (⟨#[c]⟩ : Str) = T [c] from rfl] at this
  rw [this, split_T, strjoin_T, jn_rep]
theorem join_T (z : List Nat) (ps : List (List Nat)) : Txt.join (T z) (ps.map T) = T (jn z ps) := by
  show Builtin.Str.glued _ _ = _
  rw [StrLaws.glued_eq_join, strjoin_T]
theorem spl_len (c : Nat) : ∀ l, (spl c l).length ≤ l.length + 1
  | [] => by simp [spl]
  | a :: r => by
    have ih := spl_len c r
    unfold spl
    split
    · simp; exact ih
    · split
      · simp
      · rename_i p q e
        rw [e] at ih
        simp at ih ⊢; omega

theorem repL_strs {P : Pm} : ∀ {l : List (Str × Tok)}, RepL P (l.map fun p => D.str p.1.cps.toList) (strValues l)
  | [] => RepL.nil
  | p :: r => RepL.cons ⟨p.2, rfl⟩ repL_strs
theorem strs_repL {P : Pm} : ∀ {ls : List (List Nat)} {vs : List Value}, RepL P (ls.map D.str) vs → ∃ l : List (Str × Tok), vs = strValues l ∧ l.map (·.1) = ls.map T
  | [], vs, h => by cases h; exact ⟨[], rfl, rfl⟩
  | x :: r, vs, ⟨v, q, e, ⟨t, hv⟩, b⟩ => by
    subst e hv
    obtain ⟨l, e1, e2⟩ := strs_repL b
    exact ⟨(T x, t) :: l, by rw [e1]; rfl, by rw [List.map_cons, e2, List.map_cons]⟩

section
variable {w : World} {s0 : Shared} {A : Around} {S : Sta} {env : Env} {ρ : List (Str × D)} {h : Heap} {P : Pm} {d d' : D}

theorem c_split {l p : List Nat} (hp : p ≠ []) (hz : l.length + 2 ≤ sizeLine) : CallD w s0 A (.builtin "str.split") [.str l, .str p] (.lst ((Txt.split (T l) (T p)).map fun x => .str x.cps.toList)) := by
  intro h P vs hs r
  obtain ⟨v, u, rfl, ⟨t, rfl⟩, ⟨t', rfl⟩⟩ := r.two
  refine Go.mk fun h₁ P₁ k ht g Q E q => ?_
  have hy : ((T p).length == 0) = false := by
    rw [T_len]; cases p with
    | nil => exact absurd rfl hp
    | cons => rfl
  have hx : (T l).length ≤ sizeLine := by rw [T_len]; omega
  have fin : ∀ (m : List (Str × Tok)) (t₂ : Nat), m.map (·.1) = Txt.split (T l) (T p) → Q (.ref h₁.objs.size) (stt s0 (h₁.push { cls := .type "list", data := .seq (strValues m).toArray }) t₂) := fun m t₂ e => by
    refine q _ _ _ t₂ (fun _ => .pushFrz g.snd _ rfl) fun _ => ⟨_, _, strValues m, rfl, Pm.put_self .., ⟨0, rfl⟩, ?_⟩
    rw [← e, List.map_map]
    exact repL_strs
  have hn := split_le (T l) (T p)
  rw [T_len] at hn
  cases h1 : (decide ((T l).length < (T p).length) || decide (Builtin.Str.strKind (T l) < Builtin.Str.strKind (T p)))
  · cases hf : (Builtin.Str.occurrences (T l) (T p) 0 (T l).length ((T l).length + 1)).isEmpty
    · have e : Txt.split (T l) (T p) = Builtin.Str.partsBetween (T l) (Builtin.Str.occurrences (T l) (T p) 0 (T l).length ((T l).length + 1)) (T p).length := (if_neg (ne_true_of_eq_false h1)).trans (if_neg (ne_true_of_eq_false hf))
      refine call_meets F.slot_str_split (typeIs_str _ _ _) F.entry_str_split (F.args_str_split_2 _ _) (meets_str_split_sep (T l) (T p) t t' h1 hy hf hx (by rw [← e]; omega)) ?_
      show wants Q E _ (stt s0 (h₁.push { cls := .type "list", data := .seq (strsFrom k _).toArray }) _)
      rw [strsFrom_eq]
      exact fin (numbered k _) _ ((numbered_texts _ _).trans e.symm)
    · exact call_meets F.slot_str_split (typeIs_str _ _ _) F.entry_str_split (F.args_str_split_2 _ _) (meets_str_split_not_found (T l) (T p) t t' h1 hy hf)
        (fin [(T l, t)] k ((if_neg (ne_true_of_eq_false h1)).trans (if_pos hf)).symm)
  · exact call_meets F.slot_str_split (typeIs_str _ _ _) F.entry_str_split (F.args_str_split_2 _ _) (meets_str_split_cannot_occur (T l) (T p) t t' h1)
      (fin [(T l, t)] k (if_pos h1).symm)
theorem c_split1 {l : List Nat} {c : Nat} (hz : l.length + 2 ≤ sizeLine) : CallD w s0 A (.builtin "str.split") [.str l, .str [c]] (.lst ((spl c l).map .str)) := by
  have := c_split (w := w) (s0 := s0) (A := A) (l := l) (p := [c]) (by simp) hz
  rw [split_T, List.map_map] at this
  exact this

theorem c_join {z : List Nat} {ls : List (List Nat)} {B : Nat} (hB : ∀ y ∈ ls, y.length ≤ B) (hz : ls.length * B + ls.length * z.length ≤ 16777216) : CallD w s0 A (.builtin "str.join") [.str z, .lst (ls.map .str)] (.str (jn z ls)) := by
  intro h P vs hs r
  obtain ⟨v, u, rfl, ⟨t, rfl⟩, r2⟩ := r.two
  refine Go.mk fun h₁ P₁ k ht g Q E q => ?_
  obtain ⟨a, vs, rfl, hl, rl⟩ := (r2.mono g.ext).isList g.snd
  obtain ⟨m, rfl, e⟩ := strs_repL rl
  refine SC.join (s := stt s0 h₁ k) hl e ?_ fun t' k' => ?_
  · unfold JoinOk
    rw [StrLaws.joinFits (B := B) (fun y hy => by
      obtain ⟨x, hx, rfl⟩ := List.mem_map.mp hy
      rw [T_len]; exact hB x hx) (by rw [List.length_map, T_len]; exact hz)]
    rfl
  · rw [join_T]
    exact q _ h₁ P₁ k' (fun _ => .refl g.snd) fun _ => ⟨t', rfl⟩

/-- x.replace('c', 'z') with two literals -/
theorem ev_replace {o : Expr} {apos pos p1 p2 : Pos} {k1 k2 : Nat} {y z : Str} {l : List Nat} {c : Nat} (ho : Ev w s0 A env h P o (.str l)) (hy : y = T [c]) (hyz : (y == z) = false) (hb : l.length + (l.length + 1) * z.length ≤ 16777216)
    (hbase : attributeBase o "replace" env (eval o env) = eval o env)
    (hfew : ((backTo pos (starEach [.Constant (.str y) k1 p1, .Constant (.str z) k2 p2] env)).all (fun x => !x.1) && (backToKw pos (keywordEach [] env)).all (fun x => x.1.isSome) && decide (([.Constant (.str y) k1 p1, .Constant (.str z) k2 p2] : List Expr).length + ([] : List Keyword).length + (if ([] : List Keyword).isEmpty then 0 else 1) < 30)) = true)
    (hline : (apos.endLine == pos.line) = true) : Ev w s0 A env h P (.Call (.Attribute o "replace" apos) [.Constant (.str y) k1 p1, .Constant (.str z) k2 p2] [] pos) (.str (rep c z.cps.toList l)) := fun h₁ P₁ t ht g Q E k =>
  wpAny_Call_method_lateS hbase hfew hline (ho h₁ P₁ t ht g _ E fun v h₂ P₂ t₂ ht₂ g₂ r => by
    obtain ⟨u, rfl⟩ := r
    refine ⟨"str", "str.replace", F.plainAttrs_str, F.slot_str_replace, F.type_str_replace, typeIs_str _ _ _, (fun a e => nomatch e), ?_⟩
    have hp : plainArgs [.Constant (.str y) k1 p1, .Constant (.str z) k2 p2] = true := rfl
    refine Calls.callWith_builtin (star_plain hp) (evalArgs_any (star_plain hp) ?_)
    show wpAny (model pg w) A (spliced [(false, eval (.Constant (.str y) k1 p1) env), (false, eval (.Constant (.str z) k2 p2) env)]) _ E _
    refine Calls.spliced_cons (Calls.Constant_str (Calls.spliced_cons (Calls.Constant_str (Calls.spliced_nil ?_))))
    show wpAny (model pg w) A (call (.builtin "str.replace") [.str (T l) u, .str y t₂, .str z (t₂ + 1)]) Q E (stt s0 h₂ (t₂ + 1 + 1))
    refine any_late (SC.replace (Nat.ne_of_gt ht₂) (Nat.succ_ne_zero _) (Nat.ne_of_lt (Nat.lt_succ_self _)) hyz (by rw [T_len]; exact hb) fun t' k' late => ?_)
    subst hy
    have e : Txt.replace (T l) (T [c]) z = T (rep c z.cps.toList l) := by
      have := replace_T l z.cps.toList c
      exact this
    rw [e]
    exact k _ h₂ P₂ k' (Nat.le_trans (Nat.le_trans ht₂ (Nat.le_add_right t₂ 2)) late.1) g₂ ⟨t', rfl⟩)
end
end IK
end

/-! part B17 -/
section
open PySem PySem.W PyProof.Rows
set_option Elab.async false
set_option linter.unusedVariables false
namespace IK
section
variable {w : World} {s0 : Shared} {A : Around} {S : Sta} {env : Env} {ow : List Str} {h₀ h h' : Heap} {P₀ P P' : Pm} {n : List (Addr × Mo)} {ρ : List (Str × D)} {d : D} {K : Flow → Heap → Prop} {a : Addr} {ds : List D}

/-- a list of the frame, looked at: for a while it is as if it were frozen -/
theorem Frm.peek {x : Str} (F : Frm S env ow h₀ P₀ ((a, .lst ds) :: n) ρ h P) (hx : ρ.lookup x = some (.ref a)) :
    ∃ Pq, In S env ((x, .lst ds) :: ρ) h Pq ∧ PLe P Pq ∧ (∀ h' P', Gr h Pq h' P' → ∃ P'', Frm S env ow h₀ P₀ ((a, .lst ds) :: n) ρ h' P'' ∧ PLe P P'' ∧ ∀ b o, b ≠ a → P' b = some o → P'' b = some o) := by
  obtain ⟨⟨o, e, vs, lo, rl⟩, l, q, aL, ac⟩ := F.led _ (.head _)
  have hext : PLe P (P.put a o) := fun b o' eb => by
    unfold Pm.put
    rw [if_neg fun z => by subst z; rw [q] at eb; cases eb]; exact eb
  have hsnd : Snd (P.put a o) h := fun b o' eb => by
    by_cases z : b = a
    · subst z; rw [Pm.put_self] at eb; rw [e]; exact eb
    · unfold Pm.put at eb; rw [if_neg z] at eb; exact F.gr.snd b o' eb
  refine ⟨P.put a o, ⟨fun y d' q' => ?_, fun b o' eb => hext _ _ (F.inn.base b o' eb), hsnd, F.inn.fk, F.inn.eg, F.inn.eb⟩, hext, fun h' P' g => ?_⟩
  · by_cases hy : y = x
    · subst hy
      rw [lookup_cons_eq q']
      obtain ⟨u, ru, rd⟩ := F.inn.loc y _ hx
      cases ru
      exact ⟨_, ⟨a, o, vs, rfl, Pm.put_self .., lo, rl.mono hext⟩, rd⟩
    · obtain ⟨u, ru, rd⟩ := F.inn.loc y d' (lookup_cons_ne hy q')
      exact ⟨u, ru.mono hext, rd⟩
  · let P'' : Pm := fun b => if b = a then none else P' b
    have hP : ∀ b o, b ≠ a → P' b = some o → P'' b = some o := fun b o hb eb => by show (if b = a then none else P' b) = _; rw [if_neg hb]; exact eb
    have hne : ∀ b o, P b = some o → b ≠ a := fun b o eb z => by subst z; rw [q] at eb; cases eb
    have hPP : PLe P P'' := fun b o eb => hP b o (hne b o eb) (g.ext b o (hext b o eb))
    have hback : ∀ b o, P'' b = some o → P' b = some o ∧ b ≠ a := fun b o eb => by
      have eb' : (if b = a then none else P' b) = some o := eb
      split at eb'
      · cases eb'
      · rename_i z; exact ⟨eb', z⟩
    have G : Gr h P h' P'' := ⟨g.up, hPP, fun b o eb => by
      obtain ⟨eb', hb⟩ := hback b o eb
      refine (g.new b o eb').imp (fun z => ?_) id
      unfold Pm.put at z; rw [if_neg hb] at z; exact z, fun b o eb => g.snd b o (hback b o eb).1, g.sz⟩
    exact ⟨P'', F.grow G, hPP, hP⟩

/-- data that holds no reference to what is thawed -/
noncomputable def D.flat : D → Bool
  | .none | .bool _ | .int _ | .str _ | .typ _ | .bi _ => true
  | _ => false
theorem Rep.flat {d : D} (hf : d.flat = true) {v : Value} (r : Rep P d v) : Rep P' d v := by
  cases d <;> first | exact r | cases hf

theorem flat_noref {d : D} (hf : d.flat = true) {b : Addr} (r : Rep P d (.ref b)) : False := by
  cases d with
  | none => exact nomatch (show Value.ref b = .none from r)
  | bool c => exact nomatch (show Value.ref b = .bool c from r)
  | int i => obtain ⟨t, e⟩ := (show ∃ t, Value.ref b = .int i t from r); cases e
  | str l => obtain ⟨t, e⟩ := (show ∃ t, Value.ref b = .str (T l) t from r); cases e
  | typ n => exact nomatch (show Value.ref b = .type n from r)
  | bi n => exact nomatch (show Value.ref b = .builtin n from r)
  | ref a => cases hf
  | tup l => cases hf
  | lst l => cases hf

theorem x_if_peek {x : Str} {c : Expr} {body orelse : List Stmt} {pos : Pos} {b : Bool} (F : Frm S env ow h₀ P₀ ((a, .lst ds) :: n) ρ h P) (hx : ρ.lookup x = some (.ref a))
    (hc : ∀ Pq, In S env ((x, .lst ds) :: ρ) h Pq → PLe P Pq → Tst w s0 A env h Pq c b)
    (kt : b = true → ∀ h' P', PLe P P' → Frm S env ow h₀ P₀ ((a, .lst ds) :: n) ρ h' P' → Xs w s0 A env body h' K) (kf : b = false → ∀ h' P', PLe P P' → Frm S env ow h₀ P₀ ((a, .lst ds) :: n) ρ h' P' → Xs w s0 A env orelse h' K) : X1 w s0 A env (.If c body orelse pos) h K := by
  obtain ⟨Pq, I, hP, back⟩ := F.peek hx
  refine x_if (P := Pq) (.refl I.snd) (hc Pq I hP) (fun e h' P' g => ?_) fun e h' P' g => ?_
  · obtain ⟨P'', F', hP', _⟩ := back h' P' g
    exact kt e h' P'' hP' F'
  · obtain ⟨P'', F', hP', _⟩ := back h' P' g
    exact kf e h' P'' hP' F'

/-- a name bound to a flat datum that is read off a list of the frame -/
theorem x_asg_peek {x y : Str} {e : Expr} {np pos : Pos} (F : Frm S env ow h₀ P₀ ((a, .lst ds) :: n) ρ h P) (hx : ρ.lookup x = some (.ref a)) (hk : env.kindOf y = some .local ∨ (env.kindOf y = some .cell ∧ y ∈ ow)) (hf : d.flat = true)
    (he : ∀ Pq, In S env ((x, .lst ds) :: ρ) h Pq → PLe P Pq → Ev w s0 A env h Pq e d)
    (k : ∀ h' P', PLe P P' → Frm S env ow h₀ P₀ ((a, .lst ds) :: n) ((y, d) :: ρ) h' P' → K .next h') (hs : swapsWith e (some (.Name y np)) pos.line env = pure false) : X1 w s0 A env (.Assign [.Name y np] e pos) h K := by
  obtain ⟨Pq, I, hP, back⟩ := F.peek hx
  intro t ht Q E q
  refine wpAny_Assign_Name (he Pq I hP h Pq t ht (.refl I.snd) _ E fun v h' P' t' ht' g' r => ?_) hs
  obtain ⟨P'', F', hP', _⟩ := back h' P' g'
  exact f_store F' hk (r.flat hf) ht' fun h'' t'' ht'' F'' => q _ h'' t'' ht'' (k h'' P'' hP' F'')

/-- x = [..]: a list that the frame may change -/
theorem x_newlist {x : Str} {es : List Expr} {np lp pos : Pos} (F : Frm S env ow h₀ P₀ n ρ h P) (hk : env.kindOf x = some .local ∨ (env.kindOf x = some .cell ∧ x ∈ ow)) (he : EvL w s0 A env h P lp es ds) (hz : ds.length ≤ sizeLine)
    (k : ∀ a h' P', PLe P P' → Frm S env ow h₀ P₀ ((a, .lst ds) :: n) ((x, .ref a) :: ρ) h' P' → K .next h') (hs : swapsWith (.List es lp) (some (.Name x np)) pos.line env = pure false) : X1 w s0 A env (.Assign [.Name x np] (.List es lp) pos) h K := by
  intro t ht Q E q
  refine wpAny_Assign_Name ?_ hs
  show wpAny _ A (do standAt lp; newList (← spliced (backTo lp (starEach es env)))) _ E _
  refine wpAny_bind (wpAny_standAt (wpAny_bind (he h P t ht F.refl' _ E fun vs h' P' t' ht' g r => ?_)))
  have hn : vs.length = ds.length := r.length
  refine wpAny_newObj_type ?_ (by show vs.toArray.size ≤ sizeLine; rw [List.size_toArray, hn]; exact hz)
  have F₂ := (F.grow g).alloc (o := { cls := .type "list", data := .seq vs.toArray }) (m := .lst ds) ⟨vs, ⟨0, rfl⟩, r⟩ rfl
  exact f_store (d := .ref h'.objs.size) F₂ hk rfl ht' fun h'' t'' ht'' F' => q _ h'' t'' ht'' (k _ h'' P' g.ext F')

/-- x.m(e) as a statement, x a list of the frame -/
theorem x_meth {x name : Str} {np apos pos spos : Pos} {args : List Expr} {es : List D} {id : String} (F : Frm S env ow h₀ P₀ ((a, .lst ds) :: n) ρ h P) (hx : ρ.lookup x = some (.ref a)) (hd : notDbg x ∧ (x == ("__classdict__" : Str)) = false)
    (sl : Slot "list" name id) (ty : typeOf (.builtin id) = pure (.type "method_descriptor")) (ha : EvL w s0 A env h P pos args es) (hp : plainArgs args = true) {ds' : List D}
    (go : ∀ h' P' vs t (Q : Value → Shared → Prop) (E : Value → Shared → Prop), 1 ≤ t → PLe P P' → RepL P' es vs → Frm S env ow h₀ P₀ ((a, .lst ds) :: n) ρ h' P' →
      (∀ v h'' t', (∀ b, v ≠ .ref b) → 1 ≤ t' → Frm S env ow h₀ P₀ ((a, .lst ds') :: n) ρ h'' P' → Q v (stt s0 h'' t')) → wpAny (model pg w) A (call (.builtin id) (.ref a :: vs)) Q E (stt s0 h' t))
    (k : ∀ h' P', PLe P P' → Frm S env ow h₀ P₀ ((a, .lst ds') :: n) ρ h' P' → K .next h')
    (hbase : attributeBase (.Name x np) name env (eval (.Name x np) env) = eval (.Name x np) env)
    (hfew : ((backTo pos (starEach args env)).all (fun x => !x.1) && (backToKw pos (keywordEach [] env)).all (fun x => x.1.isSome) && decide (args.length + ([] : List Keyword).length + (if ([] : List Keyword).isEmpty then 0 else 1) < 30)) = true)
    (hline : (apos.endLine == pos.line) = true) (hi : interactive env = false) (hs : swapsWith (.Call (.Attribute (.Name x np) name apos) args [] pos) none spos.line env = pure false) :
    X1 w s0 A env (.Expr (.Call (.Attribute (.Name x np) name apos) args [] pos) spos) h K := by
  intro t ht Q E q
  refine wpAny_Expr ?_ hi hs
  refine wpAny_Call_method_lateS hbase hfew hline (ev_name F.inn hx hd h P t ht F.refl' _ E fun v h₂ P₂ t₂ ht₂ g₂ r => ?_)
  cases r
  obtain ⟨⟨o, e, vs0, ⟨m, rfl⟩, rl⟩, _⟩ := F.led _ (.head _)
  refine ⟨"list", id, PySem.F.plainAttrs_list, sl, ty, ⟨_, g₂.up _ _ e, rfl⟩, (fun b e' => by cases e'; exact ⟨_, g₂.up _ _ e, rfl⟩), ?_⟩
  refine Calls.callWith_builtin (star_plain hp) (evalArgs_any (star_plain hp) (ha h₂ P₂ t₂ ht₂ g₂ _ E fun vs h₃ P₃ t₃ ht₃ g₃ r₃ => ?_))
  refine go h₃ P₃ vs t₃ _ E ht₃ (fun b o e => g₃.ext b o (g₂.ext b o e)) r₃ (F.grow (g₂.trans g₃)) fun v h₄ t₄ hv ht₄ F₄ => ?_
  have := q .next h₄ t₄ ht₄ (k h₄ P₃ (fun b o e => g₃.ext b o (g₂.ext b o e)) F₄)
  cases v <;> first | exact this | exact absurd rfl (hv _)
theorem x_append {x : Str} {np apos pos spos : Pos} {e : Expr} (F : Frm S env ow h₀ P₀ ((a, .lst ds) :: n) ρ h P) (hx : ρ.lookup x = some (.ref a)) (hd : notDbg x ∧ (x == ("__classdict__" : Str)) = false)
    (ha : Ev w s0 A env h P e d) (hp : plainArgs [e] = true) (hz : ds.length ≤ sizeLine)
    (k : ∀ h' P', PLe P P' → Frm S env ow h₀ P₀ ((a, .lst (ds ++ [d])) :: n) ρ h' P' → K .next h')
    (hbase : attributeBase (.Name x np) "append" env (eval (.Name x np) env) = eval (.Name x np) env)
    (hfew : ((backTo pos (starEach [e] env)).all (fun x => !x.1) && (backToKw pos (keywordEach [] env)).all (fun x => x.1.isSome) && decide (([e] : List Expr).length + ([] : List Keyword).length + (if ([] : List Keyword).isEmpty then 0 else 1) < 30)) = true)
    (hline : (apos.endLine == pos.line) = true) (hi : interactive env = false) (hs : swapsWith (.Call (.Attribute (.Name x np) "append" apos) [e] [] pos) none spos.line env = pure false) :
    X1 w s0 A env (.Expr (.Call (.Attribute (.Name x np) "append" apos) [e] [] pos) spos) h K :=
  x_meth F hx hd PySem.F.slot_list_append PySem.F.type_list_append (evl_cons' hp ha evl_nil) hp (fun h' P' vs t Q E ht hP r F' q => by
    obtain ⟨v, rfl, rv⟩ := r.one
    exact app_led F' rv ht hz fun h'' t' ht' F'' => q .none h'' t' (fun _ e => nomatch e) ht' F'') k hbase hfew hline hi hs
theorem x_pop {x : Str} {np apos pos spos : Pos} (F : Frm S env ow h₀ P₀ ((a, .lst ds) :: n) ρ h P) (hx : ρ.lookup x = some (.ref a)) (hd : notDbg x ∧ (x == ("__classdict__" : Str)) = false)
    (hz : ds.length ≤ sizeLine) (hne : ds ≠ []) (hfl : ∀ d ∈ ds, d.flat = true)
    (k : ∀ h' P', PLe P P' → Frm S env ow h₀ P₀ ((a, .lst ds.dropLast) :: n) ρ h' P' → K .next h')
    (hbase : attributeBase (.Name x np) "pop" env (eval (.Name x np) env) = eval (.Name x np) env)
    (hfew : ((backTo pos (starEach [] env)).all (fun x => !x.1) && (backToKw pos (keywordEach [] env)).all (fun x => x.1.isSome) && decide (([] : List Expr).length + ([] : List Keyword).length + (if ([] : List Keyword).isEmpty then 0 else 1) < 30)) = true)
    (hline : (apos.endLine == pos.line) = true) (hi : interactive env = false) (hs : swapsWith (.Call (.Attribute (.Name x np) "pop" apos) [] [] pos) none spos.line env = pure false) :
    X1 w s0 A env (.Expr (.Call (.Attribute (.Name x np) "pop" apos) [] [] pos) spos) h K :=
  x_meth F hx hd PySem.F.slot_list_pop PySem.F.type_list_pop evl_nil rfl (fun h' P' vs t Q E ht hP r F' q => by
    cases r
    obtain ⟨⟨o, e, us, ⟨m, rfl⟩, rl⟩, l, qq, aL, ac⟩ := F'.led _ (.head _)
    have hlen := rl.length
    have hpos : 0 < us.length := by rw [hlen]; exact List.length_pos_iff.mpr hne
    have hy : us.toArray[us.toArray.size - 1]? = some (us[us.length - 1]'(by omega)) := by simp [List.getElem?_eq_getElem (show us.length - 1 < us.length by omega)]
    have hz' : us.toArray.size ≤ sizeLine := by rw [List.size_toArray, hlen]; exact hz
    have hyr : ∀ b, us[us.length - 1]'(by omega) ≠ .ref b := fun b eb => by
      obtain ⟨d', hd', r'⟩ := rl.get' (List.getElem?_eq_getElem (show us.length - 1 < us.length by omega))
      have hf := hfl d' (List.mem_of_getElem? hd')
      exact flat_noref hf (eb ▸ r')
    refine call_meets PySem.F.slot_list_pop ⟨_, e, rfl⟩ PySem.F.entry_list_pop (PySem.F.args_list_pop_1 _) (MeetsSeq.list_pop_last a us.toArray m _ hy hz') ⟨e, ?_⟩
    have e2 : us.toArray.eraseIdxIfInBounds (us.toArray.size - 1) = us.dropLast.toArray := by
      rw [List.eraseIdxIfInBounds_toArray, List.size_toArray]
      congr 1
      exact List.eraseIdx_eq_dropLast (by omega)
    have rl' : RepL P' ds.dropLast us.dropLast := by
      rw [List.dropLast_eq_take, List.dropLast_eq_take, hlen]; exact rl.take _
    refine q _ _ t hyr ht (F'.change id (Heap.SameBut.update ..) (IsL.update e _) ⟨us.dropLast, ⟨_, by rw [e2]⟩, rl'⟩)) k hbase hfew hline hi hs
end
end IK
end

/-! part B18 -/
section
open PySem PySem.W PyProof.Rows
set_option Elab.async false
set_option linter.unusedVariables false
namespace IK

/-- the built-in names -/
structure Bis (S : Sta) : Prop where
  fn : ∀ x ∈ (["len", "chr", "divmod", "max", "isinstance"] : List String), S.mg (Str.ofString x) = none ∧ S.mb (Str.ofString x) = some (.builtin x)
  ty : ∀ x ∈ (["range", "enumerate", "object", "set", "str", "bool", "int", "float", "list", "tuple", "dict", "type"] : List String), S.mg (Str.ofString x) = none ∧ S.mb (Str.ofString x) = some (.type x)

noncomputable def notSuper : Expr → Bool
  | .Call (.Name id _) [] [] _ => id != ("super" : Str)
  | _ => true
theorem base_ok {o : Expr} {attr : Str} {env : Env} {m : Sem Value} (h : notSuper o = true) : attributeBase o attr env m = m := by
  unfold attributeBase
  split
  · rename_i id p pos
    have h' : (id != ("super" : Str)) = true := h
    simp only [h', Bool.true_or, if_true, bind_pure]
  · rfl
noncomputable abbrev few (args : List Expr) (pos : Pos) (env : Env) : Prop := ((backTo pos (starEach args env)).all (fun x => !x.1) && (backToKw pos (keywordEach [] env)).all (fun x => x.1.isSome) && decide (args.length + ([] : List Keyword).length + (if ([] : List Keyword).isEmpty then 0 else 1) < 30)) = true
theorem few_ok {args : List Expr} {pos : Pos} {env : Env} (hp : plainArgs args = true) (hl : args.length < 30) : few args pos env := by
  have h1 : (backTo pos (starEach args env)).all (fun x => !x.1) = true := by
    have := star_plain (env := env) (pos := pos) hp
    rw [List.any_eq_false] at this
    rw [List.all_eq_true]
    intro x hx
    have := this x hx
    simpa using this
  unfold few
  rw [h1, show (backToKw pos (keywordEach [] env)).all (fun x => x.1.isSome) = true from rfl]
  simpa using hl

noncomputable abbrev plainName (x : Str) : Prop := notDbg x ∧ (x == ("__classdict__" : Str)) = false

section
variable {w : World} {s0 : Shared} {A : Around} {S : Sta} {env : Env} {ow : List Str} {h₀ h h' : Heap} {P₀ P P' : Pm} {n : List (Addr × Mo)} {ρ : List (Str × D)} {d d₁ d₂ d₃ : D} {K : Flow → Heap → Prop}

theorem nm {x : Str} {pos : Pos} (I : In S env ρ h P) (hx : ρ.lookup x = some d := by rfl) (hc : plainName x := by decide) : Ev w s0 A env h P (.Name x pos) d := ev_name I hx hc
theorem ss {x : Str} {k : Nat} {pos : Pos} (l : List Nat) (e : x.cps.toList = l := by decide +kernel) : Ev w s0 A env h P (.Constant (.str x) k pos) (.str l) := ev_str.cast (congrArg D.str e)
theorem bin {l r : Expr} {op : Operator} {pos : Pos} (hl : Ev w s0 A env h P l d₁) (hr : Ev w s0 A env h P r d₂) (ho : Op2 w s0 A (binaryOp op) d₁ d₂ d) : Ev w s0 A env h P (.BinOp l op r pos) d := ev_bin hl hr ho
theorem cmp {l r : Expr} {op : CmpOp} {pos : Pos} (hl : Ev w s0 A env h P l d₁) (hr : Ev w s0 A env h P r d₂) (ho : Op2 w s0 A (compareOp op) d₁ d₂ d) (hm : behindInMarks op r = false := by rfl) : Ev w s0 A env h P (.Compare l [op] [r] pos) d := ev_cmp hl hr ho hm
theorem tcmp {l r : Expr} {op : CmpOp} {pos : Pos} {b : Bool} (hl : Ev w s0 A env h P l d₁) (hr : Ev w s0 A env h P r d₂) (ho : Op2 w s0 A (compareOp op) d₁ d₂ (.bool b)) (hm : behindInMarks op r = false := by rfl) : Tst w s0 A env h P (.Compare l [op] [r] pos) b := tst_cmp hl hr ho hm
theorem tpl {e : Expr} {b : Bool} (he : Ev w s0 A env h P e d) (ht : Tru w s0 A d b) (hp : ∀ whole, isTrue e env whole = (do let v ← whole; standAt e.pos; holding [v] (truthy v)) := by intro _; rfl) : Tst w s0 A env h P e b := tst_plain he ht hp
theorem sub {value slice : Expr} {pos : Pos} {T id : String} (hv : Ev w s0 A env h P value d₁) (hi : Ev w s0 A env h P slice d₂) (ho : Op2 w s0 A getItem d₁ d₂ d) (hp : d₁.pick = some (T, id) := by rfl) (hs : ∀ o i, ∃ ops, subscripted slice false o i = operate ops (getItem o i) := by intro _ _; exact ⟨_, rfl⟩) :
    Ev w s0 A env h P (.Subscript value slice pos) d := ev_sub hv hi ho hp hs
/-- slices -/
theorem cutS_from {value lo : Expr} {pos p : Pos} {l : List Nat} {a : Int} (hv : Ev w s0 A env h P value (.str l)) (hl : Ev w s0 A env h P lo (.int a)) (hz : l.length ≤ sizeLine) : Ev w s0 A env h P (.Subscript value (.Slice (some lo) none none p) pos) (.str (psl l (some a) none)) := ev_cutS hv (part_some hl) part_none hz
theorem cutS_to {value up : Expr} {pos p : Pos} {l : List Nat} {b : Int} (hv : Ev w s0 A env h P value (.str l)) (hu : Ev w s0 A env h P up (.int b)) (hz : l.length ≤ sizeLine) : Ev w s0 A env h P (.Subscript value (.Slice none (some up) none p) pos) (.str (psl l none (some b))) := ev_cutS hv part_none (part_some hu) hz
theorem cutS_mid {value lo up : Expr} {pos p : Pos} {l : List Nat} {a b : Int} (hv : Ev w s0 A env h P value (.str l)) (hl : Ev w s0 A env h P lo (.int a)) (hu : Ev w s0 A env h P up (.int b)) (hz : l.length ≤ sizeLine) : Ev w s0 A env h P (.Subscript value (.Slice (some lo) (some up) none p) pos) (.str (psl l (some a) (some b))) := ev_cutS hv (part_some hl) (part_some hu) hz
theorem cutL_from {value lo : Expr} {pos p : Pos} {l : List D} {a : Int} (hv : Ev w s0 A env h P value (.lst l)) (hl : Ev w s0 A env h P lo (.int a)) (hz : l.length ≤ sizeLine) : Ev w s0 A env h P (.Subscript value (.Slice (some lo) none none p) pos) (.lst (psl l (some a) none)) := ev_cutL hv (part_some hl) part_none hz
theorem cutL_to {value up : Expr} {pos p : Pos} {l : List D} {b : Int} (hv : Ev w s0 A env h P value (.lst l)) (hu : Ev w s0 A env h P up (.int b)) (hz : l.length ≤ sizeLine) : Ev w s0 A env h P (.Subscript value (.Slice none (some up) none p) pos) (.lst (psl l none (some b))) := ev_cutL hv part_none (part_some hu) hz
/-- methods -/
theorem meth0 {o : Expr} {name : Str} {apos pos : Pos} {id : String} (ho : Ev w s0 A env h P o d₁) (hM : MethOf d₁ name id) (hc : CallD w s0 A (.builtin id) [d₁] d) (hbase : notSuper o = true := by rfl) (hline : (apos.endLine == pos.line) = true := by rfl) :
    Ev w s0 A env h P (.Call (.Attribute o name apos) [] [] pos) d := ev_meth ho hM evl_nil rfl hc (base_ok hbase) (few_ok rfl (by decide)) hline
theorem meth1 {o e : Expr} {name : Str} {apos pos : Pos} {id : String} (ho : Ev w s0 A env h P o d₁) (hM : MethOf d₁ name id) (he : Ev w s0 A env h P e d₂) (hc : CallD w s0 A (.builtin id) [d₁, d₂] d) (hp : plainArgs [e] = true := by rfl) (hbase : notSuper o = true := by rfl) (hline : (apos.endLine == pos.line) = true := by rfl) :
    Ev w s0 A env h P (.Call (.Attribute o name apos) [e] [] pos) d := ev_meth ho hM (evl_cons' hp he evl_nil) hp hc (base_ok hbase) (few_ok hp (by simp)) hline
theorem meth2 {o e f : Expr} {name : Str} {apos pos : Pos} {id : String} (ho : Ev w s0 A env h P o d₁) (hM : MethOf d₁ name id) (he : Ev w s0 A env h P e d₂) (hf : Ev w s0 A env h P f d₃) (hc : CallD w s0 A (.builtin id) [d₁, d₂, d₃] d) (hp : plainArgs [e, f] = true := by rfl) (hp' : plainArgs [f] = true := by rfl) (hbase : notSuper o = true := by rfl) (hline : (apos.endLine == pos.line) = true := by rfl) :
    Ev w s0 A env h P (.Call (.Attribute o name apos) [e, f] [] pos) d := ev_meth ho hM (evl_cons' hp he (evl_cons' hp' hf evl_nil)) hp hc (base_ok hbase) (few_ok hp (by simp)) hline
theorem mReplace {o : Expr} {apos pos p1 p2 : Pos} {k1 k2 : Nat} {y z : Str} {l : List Nat} (c : Nat) (zl : List Nat) (ho : Ev w s0 A env h P o (.str l)) (hb : l.length + (l.length + 1) * 16 ≤ 16777216) (hy : y = T [c] := by decide +kernel) (hzl : z.cps.toList = zl := by decide +kernel) (hz : z.length ≤ 16 := by decide +kernel) (hyz : (y == z) = false := by decide +kernel)
    (hbase : notSuper o = true := by rfl)
    (hline : (apos.endLine == pos.line) = true := by rfl) : Ev w s0 A env h P (.Call (.Attribute o "replace" apos) [.Constant (.str y) k1 p1, .Constant (.str z) k2 p2] [] pos) (.str (rep c zl l)) :=
  (ev_replace ho hy hyz (by have := Nat.mul_le_mul_left (l.length + 1) hz; omega) (base_ok hbase) (few_ok rfl (by decide : (2 : Nat) < 30)) hline).cast (by rw [hzl])
/-- built-in functions by name -/
theorem bcall1 {x : String} {np pos : Pos} {e : Expr} (B : Bis S) (I : In S env ρ h P) (hx : x ∈ (["len", "chr", "divmod", "max", "isinstance"] : List String)) (he : Ev w s0 A env h P e d₁) (hc : CallD w s0 A (.builtin x) [d₁] d) (hk : env.kindOf (Str.ofString x) = some .globalImplicit := by rfl) (hp : plainArgs [e] = true := by rfl) (hd : notDbg (Str.ofString x) := by decide) :
    Ev w s0 A env h P (.Call (.Name (Str.ofString x) np) [e] [] pos) d := ev_callB I hk (B.fn x hx).1 (B.fn x hx).2 hd (evl_cons' hp he evl_nil) hp hc
theorem bcall2 {x : String} {np pos : Pos} {e f : Expr} (B : Bis S) (I : In S env ρ h P) (hx : x ∈ (["len", "chr", "divmod", "max", "isinstance"] : List String)) (he : Ev w s0 A env h P e d₁) (hf : Ev w s0 A env h P f d₂) (hc : CallD w s0 A (.builtin x) [d₁, d₂] d) (hk : env.kindOf (Str.ofString x) = some .globalImplicit := by rfl) (hp : plainArgs [e, f] = true := by rfl) (hp' : plainArgs [f] = true := by rfl) (hd : notDbg (Str.ofString x) := by decide) :
    Ev w s0 A env h P (.Call (.Name (Str.ofString x) np) [e, f] [] pos) d := ev_callB I hk (B.fn x hx).1 (B.fn x hx).2 hd (evl_cons' hp he (evl_cons' hp' hf evl_nil)) hp hc
theorem len_in : "len" ∈ (["len", "chr", "divmod", "max", "isinstance"] : List String) := by simp
theorem lenS {np pos : Pos} {e : Expr} {l : List Nat} (B : Bis S) (I : In S env ρ h P) (he : Ev w s0 A env h P e (.str l)) (hz : l.length ≤ sizeLine) (hk : env.kindOf (Str.ofString "len") = some .globalImplicit := by rfl) (hp : plainArgs [e] = true := by rfl) :
    Ev w s0 A env h P (.Call (.Name (Str.ofString "len") np) [e] [] pos) (.int l.length) := bcall1 B I len_in he (c_lenS hz) hk hp (by decide)
theorem lenL {np pos : Pos} {e : Expr} {l : List D} (B : Bis S) (I : In S env ρ h P) (he : Ev w s0 A env h P e (.lst l)) (hz : l.length ≤ sizeLine) (hk : env.kindOf (Str.ofString "len") = some .globalImplicit := by rfl) (hp : plainArgs [e] = true := by rfl) :
    Ev w s0 A env h P (.Call (.Name (Str.ofString "len") np) [e] [] pos) (.int l.length) := bcall1 B I len_in he (c_lenL hz) hk hp (by decide)
theorem range1 {np pos : Pos} {e : Expr} {m : Int} (B : Bis S) (hh : A.handled = none) (I : In S env ρ h P) (he : Ev w s0 A env h P e (.int m)) (h3 : -(2 ^ 62) ≤ m) (h4 : m < 2 ^ 62) (hk : env.kindOf (Str.ofString "range") = some .globalImplicit := by rfl) (hp : plainArgs [e] = true := by rfl) :
    Ibl w s0 A env h P (.Call (.Name (Str.ofString "range") np) [e] [] pos) (rng 0 m) := ibl_range1 hh I hk (B.ty "range" (by simp)).1 (B.ty "range" (by simp)).2 he hp h3 h4
theorem range2 {np pos : Pos} {e f : Expr} {m m' : Int} (B : Bis S) (hh : A.handled = none) (I : In S env ρ h P) (he : Ev w s0 A env h P e (.int m)) (hf : Ev w s0 A env h P f (.int m')) (h1 : -(2 ^ 62) ≤ m) (h2 : m < 2 ^ 62) (h3 : -(2 ^ 62) ≤ m') (h4 : m' < 2 ^ 62) (hk : env.kindOf (Str.ofString "range") = some .globalImplicit := by rfl) (hp : plainArgs [e, f] = true := by rfl) :
    Ibl w s0 A env h P (.Call (.Name (Str.ofString "range") np) [e, f] [] pos) (rng m m') := ibl_range2 hh I hk (B.ty "range" (by simp)).1 (B.ty "range" (by simp)).2 he hf hp h1 h2 h3 h4
/-- statements -/
theorem asg {x : Str} {e : Expr} {np pos : Pos} (F : Frm S env ow h₀ P₀ n ρ h P) (he : Ev w s0 A env h P e d) (k : ∀ h' P', PLe P P' → Frm S env ow h₀ P₀ n ((x, d) :: ρ) h' P' → K .next h')
    (hk : env.kindOf x = some .local ∨ (env.kindOf x = some .cell ∧ x ∈ ow) := by exact .inl rfl) (hs : swapsWith e (some (.Name x np)) pos.line env = pure false := by rfl) : X1 w s0 A env (.Assign [.Name x np] e pos) h K := x_asg F hk he k hs
end

theorem mSplit {l : List Nat} : MethOf (.str l) "split" "str.split" := .str F.slot_str_split F.type_str_split
theorem mJoin {l : List Nat} : MethOf (.str l) "join" "str.join" := .str F.slot_str_join F.type_str_join
theorem mFind {l : List Nat} : MethOf (.str l) "find" "str.find" := .str F.slot_str_find F.type_str_find
theorem mRfind {l : List Nat} : MethOf (.str l) "rfind" "str.rfind" := .str F.slot_str_rfind F.type_str_rfind
theorem mIsalnum {l : List Nat} : MethOf (.str l) "isalnum" "str.isalnum" := .str F.slot_str_isalnum F.type_str_isalnum
theorem mStartswith {l : List Nat} : MethOf (.str l) "startswith" "str.startswith" := .str F.slot_str_startswith F.type_str_startswith
theorem psl_dropLast {α : Type} (l : List α) : psl l none (some (-1)) = l.dropLast := by
  have := psl_butLast l 1 (Nat.le_refl _)
  rw [show (-(1 : Int)) = -((1 : Nat) : Int) from rfl, this, List.dropLast_eq_take]
end IK
end

/-! part B19 -/
section
open PySem PySem.W PyProof.Rows
set_option Elab.async false
set_option linter.unusedVariables false
namespace IK

/-! ## lists compared -/
noncomputable def pdI (l : List Int) : List PyData := l.map .int
noncomputable def pdB (l : List Bool) : List PyData := l.map .bool
theorem eqv_ints : ∀ a b : List Int, PyData.eqvAll (pdI a) (pdI b) = (a == b)
  | [], [] => rfl
  | [], _ :: _ => rfl
  | _ :: _, [] => rfl
  | x :: a, y :: b => by
    show (PyData.eqv (.int x) (.int y) && PyData.eqvAll (pdI a) (pdI b)) = _
    rw [eqv_ints a b]; rfl
theorem eqv_bools : ∀ a b : List Bool, PyData.eqvAll (pdB a) (pdB b) = (a == b)
  | [], [] => rfl
  | [], _ :: _ => rfl
  | _ :: _, [] => rfl
  | x :: a, y :: b => by
    show (PyData.eqv (.bool x) (.bool y) && PyData.eqvAll (pdB a) (pdB b)) = _
    rw [eqv_bools a b]; rfl
theorem lay_ints : ∀ l : List Int, PyData.canLayAll0 (pdI l) = true
  | [] => rfl
  | x :: l => by show (true && PyData.canLayAll0 (pdI l)) = true; rw [lay_ints l]; rfl
theorem lay_bools : ∀ l : List Bool, PyData.canLayAll0 (pdB l) = true
  | [] => rfl
  | x :: l => by show (true && PyData.canLayAll0 (pdB l)) = true; rw [lay_bools l]; rfl
theorem dep_ints : ∀ l : List Int, PyData.depthAll (pdI l) = 0
  | [] => rfl
  | x :: l => by show max 0 (PyData.depthAll (pdI l)) = 0; rw [dep_ints l]; rfl
theorem dep_bools : ∀ l : List Bool, PyData.depthAll (pdB l) = 0
  | [] => rfl
  | x :: l => by show max 0 (PyData.depthAll (pdB l)) = 0; rw [dep_bools l]; rfl
theorem shaped_ints (l : List Int) : SeqAt.shaped (.list (pdI l)) = true := by
  show (PyData.canLayAll0 (pdI l) && decide (PyData.depthAll (pdI l) + 1 ≤ 64)) = true
  rw [lay_ints, dep_ints]; rfl
theorem shaped_bools (l : List Bool) : SeqAt.shaped (.list (pdB l)) = true := by
  show (PyData.canLayAll0 (pdB l) && decide (PyData.depthAll (pdB l) + 1 ≤ 64)) = true
  rw [lay_bools, dep_bools]; rfl
theorem reads_ints {h : Heap} {P : Pm} : ∀ {l : List Int} {vs : List Value}, RepL P (l.map D.int) vs → ReadsAll h vs (pdI l) []
  | [], vs, r => by cases r; exact .nil
  | i :: l, vs, ⟨v, q, e, ⟨t, ev⟩, b⟩ => by subst e ev; exact .cons (as := []) (.int i t) (reads_ints b)
theorem reads_bools {h : Heap} {P : Pm} : ∀ {l : List Bool} {vs : List Value}, RepL P (l.map D.bool) vs → ReadsAll h vs (pdB l) []
  | [], vs, r => by cases r; exact .nil
  | i :: l, vs, ⟨v, q, e, ev, b⟩ => by cases ev; subst e; exact .cons (as := []) (.bool i) (reads_bools b)
theorem Rep.readsI {h : Heap} {P : Pm} {l : List Int} {v : Value} (s : Snd P h) (r : Rep P (.lst (l.map D.int)) v) : ∃ as, Reads h v (.list (pdI l)) as := by
  obtain ⟨a, o, vs, rfl, hp, ⟨n, rfl⟩, rl⟩ := r
  exact ⟨_, .list (s _ _ hp) rfl rfl (reads_ints rl)⟩
theorem Rep.readsB {h : Heap} {P : Pm} {l : List Bool} {v : Value} (s : Snd P h) (r : Rep P (.lst (l.map D.bool)) v) : ∃ as, Reads h v (.list (pdB l)) as := by
  obtain ⟨a, o, vs, rfl, hp, ⟨n, rfl⟩, rl⟩ := r
  exact ⟨_, .list (s _ _ hp) rfl rfl (reads_bools rl)⟩

section
variable {w : World} {s0 : Shared} {A : Around} {k : Nat}
theorem op_eqLi (rm : Rm k A) {a b : List Int} : Op2 w s0 A (compareOp .Eq) (.lst (a.map .int)) (.lst (b.map .int)) (.bool (a == b)) := by
  intro h P v₁ v₂ hs r₁ r₂ h₁ P₁ t ht g Q E q
  obtain ⟨_, ra⟩ := (r₁.mono g.ext).readsI g.snd
  obtain ⟨_, rb⟩ := (r₂.mono g.ext).readsI g.snd
  exact eq_dataH (s := stt s0 h₁ t) ra rb (shaped_ints a) (shaped_ints b) rm.units (q _ h₁ P₁ t ht (.refl g.snd) (congrArg Value.bool (eqv_ints a b)))
theorem op_neLi (rm : Rm k A) {a b : List Int} : Op2 w s0 A (compareOp .NotEq) (.lst (a.map .int)) (.lst (b.map .int)) (.bool (a != b)) := by
  intro h P v₁ v₂ hs r₁ r₂ h₁ P₁ t ht g Q E q
  obtain ⟨_, ra⟩ := (r₁.mono g.ext).readsI g.snd
  obtain ⟨_, rb⟩ := (r₂.mono g.ext).readsI g.snd
  exact ne_dataH (s := stt s0 h₁ t) ra rb (shaped_ints a) (shaped_ints b) rm.units (q _ h₁ P₁ t ht (.refl g.snd) (congrArg (fun x => Value.bool (!x)) (eqv_ints a b)))
theorem op_neLb (rm : Rm k A) {a b : List Bool} : Op2 w s0 A (compareOp .NotEq) (.lst (a.map .bool)) (.lst (b.map .bool)) (.bool (a != b)) := by
  intro h P v₁ v₂ hs r₁ r₂ h₁ P₁ t ht g Q E q
  obtain ⟨_, ra⟩ := (r₁.mono g.ext).readsB g.snd
  obtain ⟨_, rb⟩ := (r₂.mono g.ext).readsB g.snd
  exact ne_dataH (s := stt s0 h₁ t) ra rb (shaped_bools a) (shaped_bools b) rm.units (q _ h₁ P₁ t ht (.refl g.snd) (congrArg (fun x => Value.bool (!x)) (eqv_bools a b)))
theorem op_eqNilI (rm : Rm k A) {a : List Int} : Op2 w s0 A (compareOp .Eq) (.lst (a.map .int)) (.lst []) (.bool a.isEmpty) := by
  have := op_eqLi (w := w) (s0 := s0) rm (a := a) (b := [])
  have e : (a == []) = a.isEmpty := by cases a <;> rfl
  rw [e] at this; exact this
theorem op_neNilI (rm : Rm k A) {a : List Int} : Op2 w s0 A (compareOp .NotEq) (.lst (a.map .int)) (.lst []) (.bool (!a.isEmpty)) := by
  have := op_neLi (w := w) (s0 := s0) rm (a := a) (b := [])
  have e : (a != []) = !a.isEmpty := by cases a <;> rfl
  rw [e] at this; exact this
theorem op_inLi {i : Int} {l : List Int} : Op2 w s0 A (compareOp .In) (.int i) (.lst (l.map .int)) (.bool (decide (i ∈ l))) := by
  intro h P v₁ v₂ hs r₁ r₂ h₁ P₁ t ht g Q E q
  obtain ⟨u, rfl⟩ := r₁
  obtain ⟨a, vs, rfl, hl, rl⟩ := (r₂.mono g.ext).isList g.snd
  have hi : ∀ {l : List Int} {vs : List Value}, RepL P₁ (l.map D.int) vs → IntsAre vs l := fun {l} => by
    induction l with
    | nil => intro vs r; cases r; exact .nil
    | cons x l ih => rintro vs ⟨v, q, e, ⟨t, ev⟩, b⟩; subst e ev; exact .cons _ _ (ih b)
  refine in_list_ints (s := stt s0 h₁ t) hl (hi rl) (q _ h₁ P₁ t ht (.refl g.snd) ?_)
  show Value.bool _ = _
  congr 1
  rw [Bool.eq_iff_iff]; simp
end
end IK
namespace IK
/-- fewer names -/
noncomputable def Sub (ρ' ρ : List (Str × D)) : Prop := ∀ x d, ρ'.lookup x = some d → ρ.lookup x = some d
theorem Sub.nil {ρ : List (Str × D)} : Sub [] ρ := fun _ _ h => by cases h
theorem Sub.cons {ρ ρ' : List (Str × D)} {x : Str} {d : D} (h : ρ.lookup x = some d) (s : Sub ρ' ρ) : Sub ((x, d) :: ρ') ρ := fun y e q => by
  by_cases hy : y = x
  · subst hy; rw [lookup_cons_eq q]; exact h
  · exact s y e (lookup_cons_ne hy q)
theorem Frm.sub {S : Sta} {env : Env} {ow : List Str} {h₀ h : Heap} {P₀ P : Pm} {n : List (Addr × Mo)} {ρ ρ' : List (Str × D)} (F : Frm S env ow h₀ P₀ n ρ h P) (s : Sub ρ' ρ) : Frm S env ow h₀ P₀ n ρ' h P := F.vars s
theorem PLe.refl {P : Pm} : PLe P P := fun _ _ e => e
theorem PLe.trans {P P' P'' : Pm} (a : PLe P P') (b : PLe P' P'') : PLe P P'' := fun x o e => b x o (a x o e)
end IK
namespace IK
theorem Ibl.cast {w : World} {s0 : Shared} {A : Around} {env : Env} {h : Heap} {P : Pm} {e : Expr} {xs ys : List D} (i : Ibl w s0 A env h P e xs) (q : xs = ys) : Ibl w s0 A env h P e ys := q ▸ i
theorem rng_nat (n : Nat) : rng 0 (n : Int) = ((List.range n).map fun i : Nat => (i : Int)).map .int := by
  unfold rng
  rw [List.map_map]
  simp
theorem ev_nil {w : World} {s0 : Shared} {A : Around} {env : Env} {h : Heap} {P : Pm} {pos : Pos} : Ev w s0 A env h P (.List [] pos) (.lst []) := ev_list evl_nil (Nat.zero_le _)
end IK
end

/-! part B20 -/
section
open PySem PySem.W PyProof.Rows
set_option Elab.async false
set_option linter.unusedVariables false
namespace IK
section
variable {w : World} {s0 : Shared} {A : Around} {S : Sta} {env : Env} {ow : List Str} {h₀ h h' : Heap} {P₀ P P' : Pm} {n : List (Addr × Mo)} {ρ : List (Str × D)} {d : D} {K : Flow → Heap → Prop}

/-- a new list, not frozen -/
noncomputable def NewL (n0 : Nat) (ds : List D) (a : Addr) (h' : Heap) (P' : Pm) : Prop := n0 ≤ a ∧ P' a = none ∧ ∃ o, h'.get? a = some o ∧ MoIs P' o (.lst ds)
theorem NewL.gr {n0 : Nat} {ds : List D} {a : Addr} (x : NewL n0 ds a h P) (g : Gr h P h' P') : NewL n0 ds a h' P' :=
  ⟨x.1, by obtain ⟨_, q, o, e, _⟩ := x; exact g.none (Heap.lt_size e) q, by obtain ⟨_, q, o, e, m⟩ := x; exact ⟨o, g.up _ _ e, m.mono g.ext⟩⟩
theorem go_newL {es : List Expr} {ds : List D} {pos : Pos} (he : EvL w s0 A env h P pos es ds) (hz : ds.length ≤ sizeLine) : Go w s0 A h P (eval (.List es pos) env) (fun v h' P' => ∃ a, v = .ref a ∧ NewL h.objs.size ds a h' P') := by
  show Go w s0 A h P (do standAt pos; newList (← spliced (backTo pos (starEach es env)))) _
  refine Go.standAt.bind fun _ h₁ P₁ g _ => (he.mono g).bind fun vs h₂ P₂ g₂ r => fun h₃ P₃ t ht g₃ Q E q => ?_
  refine wpAny_newObj_type (q _ _ P₃ t ht (.push g₃.snd _) ⟨_, rfl, Nat.le_trans g.sz (Nat.le_trans g₂.sz g₃.sz), none_new g₃.snd (Nat.le_refl _), _, Heap.get?_push_size _ rfl, vs, ⟨0, rfl⟩, r.mono g₃.ext⟩) (by show vs.toArray.size ≤ sizeLine; rw [List.size_toArray, r.length]; exact hz)

theorem Frm.take {a : Addr} {ds : List D} (F : Frm S env ow h₀ P₀ n ρ h P) (g : Gr h P h' P') (x : NewL h.objs.size ds a h' P') : Frm S env ow h₀ P₀ ((a, .lst ds) :: n) ρ h' P' :=
  (F.addNew (L := [(a, .lst ds)]) g (by simp) fun p hp => by cases List.mem_singleton.mp hp; exact ⟨x.1, x.2.1, x.2.2⟩).perm (by exact List.perm_append_comm (l₁ := n) (l₂ := [(a, Mo.lst ds)]))

/-- x, y = [..], e -/
theorem x_swap2N {x y : Str} {px py tpos pos vp lp : Pos} {k0 k1 : Nat} {es : List Expr} {e : Expr} {ds : List D} {dy : D} (hh : A.handled = none) (F : Frm S env ow h₀ P₀ n ρ h P) (hx : env.kindOf x = some .local) (hy : env.kindOf y = some .local)
    (hl : EvL w s0 A env h P lp es ds) (hz : ds.length ≤ sizeLine) (he : Ev w s0 A env h P e dy) (hp : plainArgs [e] = true)
    (k : ∀ a h' P', PLe P P' → Frm S env ow h₀ P₀ ((a, .lst ds) :: n) ((x, .ref a) :: (y, dy) :: ρ) h' P' → K .next h')
    (hs : swapsWithSole [.Tuple [.Name x px, .Name y py] k0 tpos] (.Tuple [.List es lp, e] k1 vp) pos.line env = pure false) (hw : swappedStores [.Tuple [.Name x px, .Name y py] k0 tpos] (.Tuple [.List es lp, e] k1 vp) env = pure (some [x, y])) :
    X1 w s0 A env (.Assign [.Tuple [.Name x px, .Name y py] k0 tpos] (.Tuple [.List es lp, e] k1 vp) pos) h K := fun t ht Q E q => by
  have hT : Go w s0 A h P (eval (.Tuple [.List es lp, e] k1 vp) env) (fun v h' P' => ∃ a, Rep P' (.tup [.ref a, dy]) v ∧ NewL h.objs.size ds a h' P') := by
    show Go w s0 A h P (do standAt vp; newTuple (← spliced (backTo vp (starEach [.List es lp, e] env)))) _
    have e1 : starEach [.List es lp, e] env = (false, eval (.List es lp) env) :: starEach [e] env := rfl
    have hv : Go w s0 A h P (spliced (backTo vp (starEach [.List es lp, e] env))) (fun vs h' P' => ∃ a, RepL P' [.ref a, dy] vs ∧ NewL h.objs.size ds a h' P') := by
      rw [e1]
      show Go w s0 A h P (spliced ((false, eval (.List es lp) env) :: backTo vp (starEach [e] env))) _
      exact fun h₁ P₁ t ht g Q E k => Calls.spliced_cons (go_newL hl hz h₁ P₁ t ht g _ E fun v h₂ P₂ t₂ ht₂ g₂ ⟨a, ea, r⟩ => (evl_cons' hp he evl_nil) h₂ P₂ t₂ ht₂ (g.trans g₂) _ E fun vs h₃ P₃ t₃ ht₃ g₃ r₃ => by
        subst ea
        exact k _ h₃ P₃ t₃ ht₃ (g₂.trans g₃) ⟨a, .cons rfl r₃, r.gr g₃⟩)
    refine Go.standAt.bind fun _ h₁ P₁ g _ => (hv.mono g).bind fun vs h₂ P₂ g₂ ⟨a, r, x⟩ => ?_
    refine Go.weak (go_newTuple g₂.snd r (by show 2 ≤ sizeLine; decide)) fun v h₃ P₃ g₃ r₃ => ⟨a, r₃, x.gr g₃⟩
  refine Assign_Tuple_swapped (hT h P t ht F.refl' _ E fun v h₁ P₁ t₁ ht₁ g₁ ⟨a, r₁, na⟩ => ?_) hs hw
  refine go_unpack hh r₁ h₁ P₁ t₁ ht₁ (.refl g₁.snd) _ E fun vs h₂ P₂ t₂ ht₂ g₂ r₂ => ?_
  obtain ⟨u, z, rfl, ru, rz⟩ := r₂.two
  show wpAny (model pg w) A (do holding [u] (bindName env y z); holding [] (bindName env x u); pure ()) _ E _
  refine wpAny_bind (wpAny_holding (wpAny_bindName (f_store (F.take (g₁.trans g₂) (na.gr g₂)) (.inl hy) rz ht₂ fun h₃ t₃ ht₃ F₃ => ?_)))
  exact wpAny_bind (wpAny_holding (wpAny_bindName (f_store F₃ (.inl hx) ru ht₃ fun h₄ t₄ ht₄ F₄ => wpAny_pure (q _ h₄ t₄ ht₄ (k a h₄ P₂ (g₁.trans g₂).ext F₄)))))

/-- x, y, z = e, [], [..] -/
theorem x_swap3N {x y z : Str} {px py pz tpos pos vp lp mp : Pos} {k0 k1 : Nat} {fs : List Expr} {e : Expr} {ds : List D} {dx : D} (hh : A.handled = none) (F : Frm S env ow h₀ P₀ n ρ h P) (hx : env.kindOf x = some .local) (hy : env.kindOf y = some .local) (hz' : env.kindOf z = some .local)
    (he : Ev w s0 A env h P e dx) (hl : EvL w s0 A env h P mp fs ds) (hz : ds.length ≤ sizeLine) (hp : plainArgs [e, .List [] lp, .List fs mp] = true)
    (k : ∀ a b h' P', PLe P P' → Frm S env ow h₀ P₀ ((b, .lst ds) :: (a, .lst []) :: n) ((x, dx) :: (y, .ref a) :: (z, .ref b) :: ρ) h' P' → K .next h')
    (hs : swapsWithSole [.Tuple [.Name x px, .Name y py, .Name z pz] k0 tpos] (.Tuple [e, .List [] lp, .List fs mp] k1 vp) pos.line env = pure false) (hw : swappedStores [.Tuple [.Name x px, .Name y py, .Name z pz] k0 tpos] (.Tuple [e, .List [] lp, .List fs mp] k1 vp) env = pure (some [x, y, z])) :
    X1 w s0 A env (.Assign [.Tuple [.Name x px, .Name y py, .Name z pz] k0 tpos] (.Tuple [e, .List [] lp, .List fs mp] k1 vp) pos) h K := fun t ht Q E q => by
  have hT : Go w s0 A h P (eval (.Tuple [e, .List [] lp, .List fs mp] k1 vp) env) (fun v h' P' => ∃ a b, Rep P' (.tup [dx, .ref a, .ref b]) v ∧ NewL h.objs.size [] a h' P' ∧ NewL h.objs.size ds b h' P' ∧ a ≠ b) := by
    show Go w s0 A h P (do standAt vp; newTuple (← spliced (backTo vp (starEach [e, .List [] lp, .List fs mp] env)))) _
    have hv : Go w s0 A h P (spliced (backTo vp (starEach [e, .List [] lp, .List fs mp] env))) (fun vs h' P' => ∃ a b, RepL P' [dx, .ref a, .ref b] vs ∧ NewL h.objs.size [] a h' P' ∧ NewL h.objs.size ds b h' P' ∧ a ≠ b) := by
      rw [(starEach_cons (env := env) hp).1]
      show Go w s0 A h P (spliced ((false, eval e env) :: (false, eval (.List [] lp) env) :: (false, eval (.List fs mp) env) :: [])) _
      exact fun h₁ P₁ t ht g Q E k => Calls.spliced_cons (he h₁ P₁ t ht g _ E fun v h₂ P₂ t₂ ht₂ g₂ r₂ => Calls.spliced_cons (go_newL (evl_nil (h := h₂) (P := P₂)) (Nat.zero_le _) h₂ P₂ t₂ ht₂ (.refl g₂.snd) _ E fun v h₃ P₃ t₃ ht₃ g₃ ⟨a, ea, ra⟩ =>
        Calls.spliced_cons (go_newL (hl.mono (g.trans (g₂.trans g₃))) hz h₃ P₃ t₃ ht₃ (.refl g₃.snd) _ E fun v' h₄ P₄ t₄ ht₄ g₄ ⟨b, eb, rb⟩ => Calls.spliced_nil (by
          subst ea eb
          have hsz : h.objs.size ≤ h₂.objs.size := Nat.le_trans g.sz g₂.sz
          refine k _ h₄ P₄ t₄ ht₄ (g₂.trans (g₃.trans g₄)) ⟨a, b, .cons (r₂.mono (g₃.trans g₄).ext) (.cons rfl (.cons rfl .nil)), ?_, ?_, ?_⟩
          · have := ra.gr g₄
            exact ⟨Nat.le_trans hsz this.1, this.2⟩
          · exact ⟨Nat.le_trans hsz (Nat.le_trans g₃.sz rb.1), rb.2⟩
          · obtain ⟨_, _, o, eo, _⟩ := ra
            have := Heap.lt_size eo
            exact Nat.ne_of_lt (Nat.lt_of_lt_of_le this rb.1)))))
    refine Go.standAt.bind fun _ h₁ P₁ g _ => (hv.mono g).bind fun vs h₂ P₂ g₂ ⟨a, b, r, x, y, ne⟩ => ?_
    refine Go.weak (go_newTuple g₂.snd r (by show 3 ≤ sizeLine; decide)) fun v h₃ P₃ g₃ r₃ => ⟨a, b, r₃, x.gr g₃, y.gr g₃, ne⟩
  refine Assign_Tuple_swapped (hT h P t ht F.refl' _ E fun v h₁ P₁ t₁ ht₁ g₁ ⟨a, b, r₁, na, nb, hne⟩ => ?_) hs hw
  refine go_unpack hh r₁ h₁ P₁ t₁ ht₁ (.refl g₁.snd) _ E fun vs h₂ P₂ t₂ ht₂ g₂ r₂ => ?_
  obtain ⟨u, v', q', rfl, ru, rv, rq⟩ := r₂.three
  have F₂ : Frm S env ow h₀ P₀ ((b, .lst ds) :: (a, .lst []) :: n) ρ h₂ P₂ :=
    (F.addNew (L := [(b, .lst ds), (a, .lst [])]) (g₁.trans g₂) (by simpa using Ne.symm hne) fun p hp => by
      rcases List.mem_cons.mp hp with rfl | hp
      · exact nb.gr g₂
      · cases List.mem_singleton.mp hp; exact na.gr g₂).perm (by exact List.perm_append_comm (l₁ := n) (l₂ := [(b, Mo.lst ds), (a, Mo.lst [])]))
  show wpAny (model pg w) A (do holding [v', u] (bindName env z q'); holding [u] (bindName env y v'); holding [] (bindName env x u); pure ()) _ E _
  refine wpAny_bind (wpAny_holding (wpAny_bindName (f_store F₂ (.inl hz') rq ht₂ fun h₃ t₃ ht₃ F₃ => ?_)))
  refine wpAny_bind (wpAny_holding (wpAny_bindName (f_store F₃ (.inl hy) rv ht₃ fun h₄ t₄ ht₄ F₄ => ?_)))
  exact wpAny_bind (wpAny_holding (wpAny_bindName (f_store F₄ (.inl hx) ru ht₄ fun h₅ t₅ ht₅ F₅ => wpAny_pure (q _ h₅ t₅ ht₅ (k a b h₅ P₂ (g₁.trans g₂).ext F₅)))))

theorem aug {x : Str} {e : Expr} {np pos : Pos} {op : Operator} {d₁ d₂ : D} (F : Frm S env ow h₀ P₀ n ρ h P) (hx : ρ.lookup x = some d₁) (he : Ev w s0 A env h P e d₂) (ho : Op2 w s0 A (inplaceOp op) d₁ d₂ d)
    (k : ∀ h' P', PLe P P' → Frm S env ow h₀ P₀ n ((x, d) :: ρ) h' P' → K .next h') (hk : env.kindOf x = some .local ∨ (env.kindOf x = some .cell ∧ x ∈ ow) := by exact .inl rfl) (hc : plainName x := by decide) : X1 w s0 A env (.AugAssign (.Name x np) op e pos) h K :=
  x_aug F hk hx hc he ho k
theorem append {x : Str} {np apos pos spos : Pos} {e : Expr} {a : Addr} {ds : List D} (F : Frm S env ow h₀ P₀ ((a, .lst ds) :: n) ρ h P) (hx : ρ.lookup x = some (.ref a)) (ha : Ev w s0 A env h P e d) (hz : ds.length ≤ sizeLine)
    (k : ∀ h' P', PLe P P' → Frm S env ow h₀ P₀ ((a, .lst (ds ++ [d])) :: n) ρ h' P' → K .next h')
    (hd : plainName x := by decide) (hp : plainArgs [e] = true := by rfl) (hline : (apos.endLine == pos.line) = true := by rfl) (hi : interactive env = false := by rfl) (hs : swapsWith (.Call (.Attribute (.Name x np) "append" apos) [e] [] pos) none spos.line env = pure false := by rfl) :
    X1 w s0 A env (.Expr (.Call (.Attribute (.Name x np) "append" apos) [e] [] pos) spos) h K := x_append F hx hd ha hp hz k (base_ok rfl) (few_ok hp (by simp)) hline hi hs
/-- freezing for the return of a list of the frame -/
theorem ret_list {x : Str} {np pos : Pos} {a : Addr} {ds : List D} (F : Frm S env ow h₀ P₀ ((a, .lst ds) :: n) ρ h P) (hx : ρ.lookup x = some (.ref a)) (k : ∀ v h' P', Gr h₀ P₀ h' P' → Rep P' (.lst ds) v → K (.ret v) h') (hd : plainName x := by decide) :
    X1 w s0 A env (.Return (some (.Name x np)) pos) h K := by
  obtain ⟨P', F', hP, r⟩ := F.freeze
  refine x_ret (R := RepR (.ref a)) F'.refl' (ev_name F'.inn hx hd) fun v h'' P'' g r' => ?_
  cases r'
  exact k _ h'' P'' (F'.gr.trans g) (r.mono g.ext)
end
end IK
end

/-! part B21 -/
section
open PySem PySem.W PyProof.Rows
set_option Elab.async false
set_option linter.unusedVariables false
namespace IK

noncomputable abbrev enL (e it l : Addr) (i : Nat) : List (Addr × Mo) :=
  [(e, .is fun o => ∃ old, o = { cls := .type "enumerate", dict := none, data := .fields #[.none, .bool false, .ref it, rawInt (i : Int), .none, old], slots := #[] }),
   (it, .is fun o => o.cls = .type "list_iterator" ∧ o.data = .fields #[.ref l, .int (i : Int) 0])]

section
variable {w : World} {s0 : Shared} {A : Around} {S : Sta} {env : Env} {ow : List Str} {h₀ h h' : Heap} {P₀ P P' : Pm} {n : List (Addr × Mo)} {ρ : List (Str × D)} {d : D} {K : Flow → Heap → Prop}

theorem ev_callTg {x : Str} {np pos : Pos} {args : List Expr} {ds : List D} {id : String} {R : Value → Heap → Pm → Prop} (I : In S env ρ h P) (hk : env.kindOf x = some .globalImplicit) (hm : S.mg x = none) (hv : S.mb x = some (.type id)) (hd : notDbg x)
    (ha : EvL w s0 A env h P pos args ds) (hp : plainArgs args = true) (hc : ∀ (h₁ : Heap) (P₁ : Pm) vs, Gr h P h₁ P₁ → RepL P₁ ds vs → Go w s0 A h₁ P₁ (call (.type id) vs) R) : Go w s0 A h P (eval (.Call (.Name x np) args [] pos) env) R := by
  have e : eval (.Call (.Name x np) args [] pos) env = (do callWith pos (← eval (.Name x np) env) [] (backTo pos (starEach args env)) (backToKw pos (keywordEach [] env))) := rfl
  rw [e]
  refine Go.bind (R := fun v _ _ => v = .type id) (fun h₁ P₁ t ht g Q E k => Calls.Name_function_global I.fk hk (Calls.loadGlobal_builtin (I.eg ▸ S.g.keeps (I.gr g).top) hm (I.eb ▸ S.b.keeps (I.gr g).top) hv (k _ h₁ P₁ t ht (.refl g.snd) rfl)) hd) fun v h₁ P₁ g r => ?_
  subst r
  intro h₂ P₂ t ht g₂ Q E k
  exact PyProof.Rows.callWith_type (star_plain hp) (evalArgs_any (star_plain hp) (ha h₂ P₂ t ht (g.trans g₂) _ E fun vs h₃ P₃ t₃ ht₃ g₃ r₃ =>
    hc h₃ P₃ vs (g.trans (g₂.trans g₃)) r₃ h₃ P₃ t₃ ht₃ (.refl g₃.snd) Q E fun v h₄ P₄ t₄ ht₄ g₄ r₄ => k v h₄ P₄ t₄ ht₄ (g₃.trans g₄) r₄))

/-- for k, x in enumerate(e), e a list that stays as it is -/
theorem x_forE {xi xv : Str} {pi pv tp pos np cp : Pos} {x1 : Nat} {e : Expr} {body : List Stmt} (B : Bis S) (hh : A.handled = none) (ds : List D) (nn : Nat → List (Addr × Mo)) (rr : Nat → List (Str × D)) (F : Frm S env ow h₀ P₀ (nn 0) (rr 0) h P)
    (he : Ev w s0 A env h P e (.lst ds))
    (hx : env.kindOf xi = some .local ∨ (env.kindOf xi = some .cell ∧ xi ∈ ow)) (hy : env.kindOf xv = some .local ∨ (env.kindOf xv = some .cell ∧ xv ∈ ow))
    (turn : ∀ (i : Nat) d m h P', ds[i]? = some d → PLe P P' → Frm S env ow h₀ P₀ (nn i ++ m) ((xv, d) :: (xi, .int (i : Int)) :: rr i) h P' → Xs w s0 A env body h (fun f h' => match f with
      | .next | .cont => ∃ P'', PLe P' P'' ∧ Frm S env ow h₀ P₀ (nn (i + 1) ++ m) (rr (i + 1)) h' P''
      | .brk => K .next h'
      | .ret v => K (.ret v) h'))
    (done : ∀ h P', PLe P P' → Frm S env ow h₀ P₀ (nn ds.length) (rr ds.length) h P' → K .next h)
    (hk : env.kindOf (Str.ofString "enumerate") = some .globalImplicit := by rfl) (hp : plainArgs [e] = true := by rfl) (hs : ∀ y, foldedSetIterable (.Call (.Name (Str.ofString "enumerate") np) [e] [] cp) env y = pure y := by intro _; rfl) :
    X1 w s0 A env (.For (.Tuple [.Name xi pi, .Name xv pv] x1 tp) (.Call (.Name (Str.ofString "enumerate") np) [e] [] cp) body [] pos) h K := by
  intro t ht Q E q
  have hE : Go w s0 A h P (eval (.Call (.Name (Str.ofString "enumerate") np) [e] [] cp) env) (fun v h' P' => ∃ e it l, v = .ref e ∧ e ≠ it ∧ h.objs.size ≤ e ∧ h.objs.size ≤ it ∧ P' e = none ∧ P' it = none ∧ IsEnum h' e it 0 .none ∧ h'.IsListIter it l 0 ∧ Rep P' (.lst ds) (.ref l)) := by
    refine ev_callTg F.inn hk (B.ty "enumerate" (by simp)).1 (B.ty "enumerate" (by simp)).2 (by decide) (evl_cons' hp he evl_nil) hp fun h₁ P₁ vs g r => ?_
    obtain ⟨v, rfl, r'⟩ := r.one
    intro h₂ P₂ t ht g₂ Q E q
    obtain ⟨l, o, us, rfl, hpl, ⟨n0, rfl⟩, rl⟩ := r'.mono g₂.ext
    refine call_enumerate_1 (s := stt s0 h₂ t) (g₂.snd _ _ hpl) fun h' a b c up => ?_
    have hsz : h.objs.size ≤ h₂.objs.size := Nat.le_trans g.sz g₂.sz
    have c' : h'.objs.size = h₂.objs.size + 2 := c
    exact q _ h' P₂ t ht (.same g₂.snd up (by rw [c']; exact Nat.le_add_right _ 2)) ⟨h₂.objs.size + 1, h₂.objs.size, l, rfl, Nat.succ_ne_self _, Nat.le_succ_of_le hsz, hsz, none_new g₂.snd (Nat.le_succ _), none_new g₂.snd (Nat.le_refl _), a, b, l, _, us, rfl, hpl, ⟨n0, rfl⟩, rl⟩
  refine wpAny_For (hE h P t ht F.refl' _ E fun v h₂ P₂ t₂ ht₂ g₂ ⟨e, it, l, ev, hne, s1, s2, p1, p2, e1, e2, rl⟩ => ?_) hs
  subst ev
  refine wpAny_pyIter_enum (s := stt s0 h₂ t₂) e1 ?_
  have F₂ : Frm S env ow h₀ P₀ (nn 0 ++ enL e it l 0) (rr 0) h₂ P₂ := F.addNew g₂ (by simpa using hne) fun p hp => by
    rcases List.mem_cons.mp hp with rfl | hp
    · exact ⟨s1, p1, _, e1, _, rfl⟩
    · cases List.mem_singleton.mp hp
      obtain ⟨o, ho, hc, hd⟩ := e2
      exact ⟨s2, p2, o, ho, hc, hd⟩
  refine codeAny_mono (codeAny_forLoop_any (R := fun r s' => match r with | .ok f => Q f s' | .error e => False)
    (fun k s => ∃ i h t P', s = stt s0 h t ∧ 1 ≤ t ∧ k = ds.length + 1 - i ∧ i ≤ ds.length ∧ PLe P₂ P' ∧ Frm S env ow h₀ P₀ (nn i ++ enL e it l i) (rr i) h P') ?_ (ds.length + 1)
    ⟨0, h₂, t₂, P₂, rfl, ht₂, rfl, Nat.zero_le _, fun _ _ e => e, F₂⟩) fun r s' y => by
      cases r with
      | ok f => exact y
      | error e => exact y.elim
  rintro k _ ⟨i, h, t, P', rfl, ht, rfl, hile, hP, F⟩
  obtain ⟨⟨oe, eoe, old, eoo⟩, _, qe, _⟩ := F.led _ (List.mem_append_right _ (.head _))
  obtain ⟨⟨oi, eoi, hoi⟩, _, qi, _⟩ := F.led _ (List.mem_append_right _ (.tail _ (.head _)))
  simp only at eoe eoi qe qi
  subst eoo
  obtain ⟨l', ol, us, el, hpl, ⟨n0, rfl⟩, rlu⟩ := rl.mono hP
  cases el
  have hl : h.IsList l us.toArray := ⟨_, F.gr.snd _ _ hpl, rfl, n0, rfl⟩
  have hlen : us.length = ds.length := rlu.length
  by_cases hlt : i < ds.length
  · have hlt' : i < us.length := by omega
    obtain ⟨d, hd, rd⟩ := rlu.get' (List.getElem?_eq_getElem hlt')
    refine wpAny_pyNext_enum_item (s := stt s0 h t) (i := i) (x := us[i]) eoe ⟨oi, eoi, hoi⟩ hl (by simpa using List.getElem?_eq_getElem hlt') hne fun h₃ heo hit htu hz₃ hk₃ => ?_
    refine wpAny_letOwnedTupleGo_enum (s := stt s0 h₃ (t + 1)) heo fun h₄ he₄ hs₄ => ?_
    have hs₄' : Heap.SameBut e h₃ h₄ := hs₄
    have hz₃' : h₃.objs.size = h.objs.size + 1 := hz₃
    have hz₄ : h₄.objs.size = h.objs.size + 1 := hs₄'.1.trans hz₃'
    have hee : e ≠ h.objs.size := Nat.ne_of_lt (Heap.lt_size eoe)
    let to : Obj := { cls := .type "tuple", data := .seq #[.int i t, us[i]] }
    have htu₄ : h₄.get? h.objs.size = some to := (hs₄'.2 _ (Ne.symm hee)).trans htu
    have hput : ∀ b o, P' b = some o → (P'.put h.objs.size to) b = some o := fun b o eb => by
      have : b ≠ h.objs.size := Nat.ne_of_lt (Heap.lt_size (F.gr.snd _ _ eb))
      unfold Pm.put; rw [if_neg this]; exact eb
    have G : GrB ((enL e it l i).map (·.1)) h P' h₄ (P'.put h.objs.size to) := by
      refine ⟨fun b o hb eb => ?_, hput, fun b o eb => ?_, fun b o eb => ?_, by omega⟩
      · have hbe : b ≠ e := fun z => hb (by rw [z]; exact .head _)
        have hbi : b ≠ it := fun z => hb (by rw [z]; exact .tail _ (.head _))
        exact (hs₄'.2 b hbe).trans (hk₃ b o hbe hbi eb)
      · unfold Pm.put at eb
        split at eb
        · rename_i z; exact .inr (Nat.le_of_eq z.symm)
        · exact .inl eb
      · by_cases z : b = h.objs.size
        · subst z; rw [Pm.put_self] at eb; rw [htu₄]; exact eb
        · unfold Pm.put at eb; rw [if_neg z] at eb
          have hbe : b ≠ e := fun q => by rw [q, qe] at eb; cases eb
          have hbi : b ≠ it := fun q => by rw [q, qi] at eb; cases eb
          exact (hs₄'.2 b hbe).trans (hk₃ b o hbe hbi (F.gr.snd b o eb))
    have hcast : ((i + 1 : Nat) : Int) = (i : Int) + 1 := by push_cast; rfl
    have F₄ : Frm S env ow h₀ P₀ (nn i ++ enL e it l (i + 1)) (rr i) h₄ (P'.put h.objs.size to) := by
      refine F.butG (m' := enL e it l (i + 1)) G rfl fun p hp => ?_
      have hm1 : h₀.get? e = none := (F.led _ (List.mem_append_right (nn i) (List.Mem.head _ : _ ∈ enL e it l i))).2.1
      have hm2 : h₀.get? it = none := (F.led _ (List.mem_append_right (nn i) (List.Mem.tail _ (List.Mem.head _) : _ ∈ enL e it l i))).2.1
      rcases List.mem_cons.mp hp with rfl | hp
      · exact ⟨hm1, _, he₄, us[i], by rw [hcast]⟩
      · cases List.mem_singleton.mp hp
        obtain ⟨o, ho, hc, hdd⟩ := hit
        exact ⟨hm2, o, (hs₄'.2 it (Ne.symm hne)).trans ho, hc, hdd⟩
    have rt : Rep (P'.put h.objs.size to) (.tup [.int i, d]) (.ref h.objs.size) := ⟨_, to, [.int i t, us[i]], rfl, Pm.put_self .., ⟨0, rfl⟩, .cons ⟨t, rfl⟩ (.cons (rd.mono hput) .nil)⟩
    rw [assign_Tuple]
    refine wpAny_bind (wpAny_standAt ?_)
    show wpAny (model pg w) A (do assignInOrder [assign (.Name xi pi) env, assign (.Name xv pv) env] (← holding [.ref h.objs.size] (unpackItems (.ref h.objs.size) 2 none))) _ _ (stt s0 h₄ (t + 1))
    refine wpAny_bind (wpAny_holding (go_unpack hh rt h₄ _ (t + 1) (Nat.succ_pos _) (.refl F₄.gr.snd) _ _ fun vs h₅ P₅ t₅ ht₅ g₅ r₅ => ?_))
    obtain ⟨u, z, rfl, ru, rz⟩ := r₅.two
    show wpAny (model pg w) A (do holding [z] (assign (.Name xi pi) env u); holding [] (assign (.Name xv pv) env z); pure ()) _ _ _
    refine wpAny_bind (wpAny_holding (wpAny_assign_Name (f_store (F₄.grow g₅) hx ru ht₅ fun h₆ t₆ ht₆ F₆ => ?_)))
    refine wpAny_bind (wpAny_holding (wpAny_assign_Name (f_store F₆ hy rz ht₆ fun h₇ t₇ ht₇ F₇ => wpAny_pure ?_)))
    have hP₅ : PLe P' P₅ := fun b o eb => g₅.ext b o (hput b o eb)
    refine turn i d _ h₇ P₅ hd (fun b o eb => hP₅ b o (hP b o (g₂.ext b o eb))) F₇ t₇ ht₇ _ _ fun f h₈ t₈ ht₈ y => ?_
    cases f with
    | next =>
      obtain ⟨P₈, hP₈, F₈⟩ := y
      exact ⟨ds.length + 1 - (i + 1), by omega, i + 1, h₈, t₈, P₈, rfl, ht₈, rfl, hlt, fun b o eb => hP₈ b o (hP₅ b o (hP b o eb)), F₈⟩
    | cont =>
      obtain ⟨P₈, hP₈, F₈⟩ := y
      exact ⟨ds.length + 1 - (i + 1), by omega, i + 1, h₈, t₈, P₈, rfl, ht₈, rfl, hlt, fun b o eb => hP₈ b o (hP₅ b o (hP b o eb)), F₈⟩
    | brk => exact q _ h₈ t₈ ht₈ y
    | ret v => exact q _ h₈ t₈ ht₈ y
  · have hin : i = ds.length := by omega
    subst hin
    refine any_late (wpAny_pyNext_enum_end (s := stt s0 h t) (i := ds.length) hh eoe ⟨oi, eoi, hoi⟩ hl (by rw [List.getElem?_toArray]; exact List.getElem?_eq_none (by omega)) fun h₃ hx₃ late => ?_)
    refine wpAny_execs_nil (q _ h₃ t ht (done h₃ P' (fun b o eb => hP b o (g₂.ext b o eb)) ?_))
    exact F.drop (fun b o hb eb => hx₃ b o (fun z => hb (by rw [z]; exact .tail _ (.head _))) eb) late.2
end
end IK
end

/-! part BM -/
section
open PySem PySem.W PyProof.Rows
set_option Elab.async false
set_option linter.unusedVariables false
set_option maxRecDepth 100000
namespace IK
namespace F2
theorem slot_md_get : Slot "method_descriptor" "__get__" "method_descriptor.__get__" :=
  .of (owner := "method_descriptor") (n := "__get__") (by rw [typeLookup_type, builtinLookup_eq_fast]; kernel_rfl) (by decide +kernel) (by decide +kernel) (by decide +kernel)
    (by first | exact .inl (by decide +kernel) | exact .inr (by decide +kernel)) (by rw [isSubtype_type]; kernel_rfl)
theorem entry_md_get : entryFor table "method_descriptor.__get__" = some Builtin.«method_descriptor.__get__» := entryFor_of_tree (by kernel_rfl)
theorem args_md_get (a b c : Value) : argsOk "method_descriptor.__get__" ⟨[a, b, c], []⟩ := by unfold argsOk; kernel_rfl
theorem lk_md_set : typeLookup (.type "method_descriptor") "__set__" = pure none := by rw [typeLookup_type, builtinLookup_eq_fast]; kernel_rfl
theorem lk_md_del : typeLookup (.type "method_descriptor") "__delete__" = pure none := by rw [typeLookup_type, builtinLookup_eq_fast]; kernel_rfl
theorem told_append : Manifest.toldItsClass.contains "list.append" = false := by decide +kernel
end F2

theorem owner_append : (".".intercalate ("list.append".cutAt '.').dropLast) = "list" := by
  have e0 : "list.append".cutAt '.' = ["list", "append"] := by first | rfl | decide +kernel
  rw [e0]; decide +kernel
theorem sub_list_list : isSubtype (.type "list") (.type (".".intercalate ("list.append".cutAt '.').dropLast)) = pure true := by
  rw [owner_append, isSubtype_type]; kernel_rfl

section
variable {w : World} {A : Around} {E : Value → Shared → Prop} {h : Heap} {g : Array GenState} {d : Drawn} {t : Nat} {os : OsState} {a : Addr} {o : Obj}
noncomputable abbrev bmObj (a : Addr) : Obj := { cls := .type "builtin_function_or_method", data := .fields #[.builtin "list.append", .ref a] }

theorem bm_get {R : Result → Shared → Prop} (hx : h.get? a = some o) (hc : o.cls = .type "list") (hq : R (.ok (.ret (.ref h.objs.size))) ⟨h.push (bmObj a), g, d, t, os⟩) :
    codeAny (model pg w) A (.call (.builtin "method_descriptor.__get__") ⟨[.builtin "list.append", .ref a, .type "list"], []⟩) R ⟨h, g, d, t, os⟩ := by
  have hT : (⟨h, g, d, t, os⟩ : Shared).TypeIs (.ref a) "list" := ⟨_, hx, hc⟩
  have hT5 : (⟨h, g, d, t, os⟩ : Shared).TypeIs (.builtin "list.append") "method_descriptor" := F.type_list_append
  have f8 := sub_list_list
  have f9 := F2.told_append
  refine codeAny_call_builtin F2.slot_md_get.plain F2.entry_md_get (F2.slot_md_get.check _ _ _ _ _ _ _ _ hT5 (F2.args_md_get _ _ _) ?_)
  obtain ⟨err, e⟩ : ∃ err, Builtin.«method_descriptor.__get__» ⟨[.builtin "list.append", .ref a, .type "list"], []⟩ = ((do let b ← isInstance (.ref a) (.type (".".intercalate ("list.append".cutAt '.').dropLast)); if (!b) = true then err else pure ()) >>= fun _ => newFields "builtin_function_or_method" [.builtin "list.append", .ref a] >>= fun v => ret v) := ⟨_, rfl⟩
  rw [e]
  refine wpAny_bind (wpAny_bind (wpAny_isInstance hT f8 (wpAny_ite_false rfl (wpAny_pure (wpAny_bind ?_)))))
  exact wpAny_newObj_type (wpAny_pure hq)

theorem bm_entry {tk : Tok} {Q : Fin → Shared → Prop} {its : Array Value} {n : Nat} (hx : h.get? a = some { cls := .type "list", data := .seq its n }) (hq : Q (.done (.ret (.ref h.objs.size))) ⟨h.push (bmObj a), g, d, t, os⟩) :
    wpAny (model pg w) A (Builtin.«object.__getattribute__» ⟨[.ref a, .str "append" tk], []⟩) Q E ⟨h, g, d, t, os⟩ := by
  have hT : (⟨h, g, d, t, os⟩ : Shared).TypeIs (.ref a) "list" := ⟨_, hx, rfl⟩
  have hT5 : (⟨h, g, d, t, os⟩ : Shared).TypeIs (.builtin "list.append") "method_descriptor" := F.type_list_append
  have f4 := F.slot_list_append.lookup
  have f5 := F.type_list_append
  have f6 := F2.slot_md_get.lookup
  have f7 := F2.lk_md_set
  have f8 := F2.lk_md_del
  repeat (any_goals (first | assumption | wp_step))
  refine bm_get hx rfl ?_
  repeat (any_goals (first | assumption | wp_step))

theorem bm_call {tk : Tok} {R : Result → Shared → Prop} {its : Array Value} {n : Nat} (hx : h.get? a = some { cls := .type "list", data := .seq its n }) (hq : R (.ok (.ret (.ref h.objs.size))) ⟨h.push (bmObj a), g, d, t, os⟩) :
    codeAny (model pg w) A (.call (.builtin "list.__getattribute__") ⟨[.ref a, .str "append" tk], []⟩) R ⟨h, g, d, t, os⟩ :=
  codeAny_call_builtin F.slot_list_getattribute.plain F.entry_list_ga (F.slot_list_getattribute.check _ _ _ _ _ _ _ _ (show (⟨h, g, d, t, os⟩ : Shared).TypeIs (.ref a) "list" from ⟨_, hx, rfl⟩) (F.args_list_getattribute_2 _ _) (bm_entry hx hq))

theorem bm_by {tk : Tok} {Q : Value → Shared → Prop} {its : Array Value} {n : Nat} (hx : h.get? a = some { cls := .type "list", data := .seq its n }) (hq : Q (.ref h.objs.size) ⟨h.push (bmObj a), g, d, t, os⟩) :
    wpAny (model pg w) A (getAttrBy (.ref a) (.str "append" tk) true true) Q E ⟨h, g, d, t, os⟩ := by
  have hT : (⟨h, g, d, t, os⟩ : Shared).TypeIs (.ref a) "list" := ⟨_, hx, rfl⟩
  have f2 := F.slot_list_getattribute.lookup
  have f3 := F.slot_list_getattribute.bind (.ref a)
  repeat (any_goals (first | assumption | wp_step))
  refine bm_call hx ?_
  repeat (any_goals (first | assumption | wp_step))
end
end IK
end

/-! part BM2 -/
section
open PySem PySem.W PyProof.Rows
set_option Elab.async false
set_option linter.unusedVariables false
set_option maxRecDepth 100000
namespace IK
theorem sub_list_module : isSubtype (.type "list") (.type "module") = pure false := by rw [isSubtype_type]; kernel_rfl
noncomputable def sigA : Manifest.Signature := (Manifest.signature? "list.append").getD ⟨.hand, "", "", .none, []⟩
theorem sig_append : Manifest.signature? "list.append" = some sigA := by
  have h : (Manifest.signature? "list.append").isSome = true := by kernel_rfl
  obtain ⟨x, hx⟩ := Option.isSome_iff_exists.mp h
  unfold sigA
  rw [hx]; rfl
theorem chk_append (a x : Value) : Bind.checkArgs "list.append" { sigA with full := s!"{Bind.lastOf "list"}.{Bind.lastOf "list.append"}" } ⟨[a, x], []⟩ = pure () := by kernel_rfl
theorem kind_append : builtinKind "list.append" = some .method := by kernel_rfl
theorem var_append : Manifest.varargsMethods.contains "list.append" = false := by kernel_rfl
section
variable {w : World} {A : Around} {E : Value → Shared → Prop} {h : Heap} {g : Array GenState} {d : Drawn} {t : Nat} {os : OsState} {a : Addr} {o : Obj}
theorem cb_append {x : Value} {Q : Unit → Shared → Prop} {its : Array Value} {n : Nat} (hx : h.get? a = some { cls := .type "list", data := .seq its n }) (hq : Q () ⟨h, g, d, t, os⟩) :
    wpAny (model pg w) A (checkBoundCall "list.append" ⟨[.ref a, x], []⟩) Q E ⟨h, g, d, t, os⟩ := by
  have hT : (⟨h, g, d, t, os⟩ : Shared).TypeIs (.ref a) "list" := ⟨_, hx, rfl⟩
  unfold checkBoundCall
  rw [sig_append, kind_append, var_append]
  have f1 := sub_list_module
  have f2 := chk_append (.ref a) x
  repeat (any_goals (first | assumption | wp_step))
  all_goals trace_state
end
end IK
end

/-! part B22 -/
section
open PySem PySem.W PyProof.Rows
set_option Elab.async false
set_option linter.unusedVariables false
set_option maxRecDepth 100000
namespace IK
section
variable {w : World} {s0 : Shared} {A : Around} {S : Sta} {env : Env} {ow : List Str} {h₀ h h' : Heap} {P₀ P P' : Pm} {n : List (Addr × Mo)} {ρ : List (Str × D)} {d : D} {K : Flow → Heap → Prop} {a b : Addr} {ds : List D}

theorem plain_append : plainId "list.append" = true := by decide +kernel
/-- the bound append, called -/
theorem call_bm {v : Value} {t : Nat} {Q : Value → Shared → Prop} {E : Value → Shared → Prop} (F : Frm S env ow h₀ P₀ ((a, .lst ds) :: n) ρ h P) (hb : P b = some (bmObj a)) (r : Rep P d v) (ht : 1 ≤ t) (hz : ds.length ≤ sizeLine)
    (k : ∀ h' t', 1 ≤ t' → Frm S env ow h₀ P₀ ((a, .lst (ds ++ [d])) :: n) ρ h' P → Q .none (stt s0 h' t')) : wpAny (model pg w) A (call (.ref b) [v]) Q E (stt s0 h t) := by
  obtain ⟨⟨o, e, vs, ⟨m, rfl⟩, rl⟩, l, q, aL, ac⟩ := F.led _ (.head _)
  refine wpAny_call (codeAny_of_tree ?_)
  show wpAny _ _ (callAny (.ref b) _) _ _ _
  simp only [callAny]
  refine wpAny_bind (wpAny_load (F.gr.snd _ _ hb) ?_)
  show wpAny _ _ (checkBoundCall "list.append" ⟨[.ref a, v], []⟩ >>= fun _ => again (.builtin "list.append" ⟨[.ref a, v], []⟩)) _ _ _
  refine wpAny_bind (cb_append (g := s0.gens) e (wpAny_pure ⟨plainId_quiet plain_append _, codeAny_builtin PySem.F.entry_list_append ?_⟩))
  rw [Around.under_plainId plain_append _]
  have hsz : vs.toArray.size ≤ sizeLine := by rw [List.size_toArray, rl.length]; exact hz
  refine (list_append a vs.toArray m v hsz) pg w A (wants Q E) _ ⟨e, ?_⟩
  have e2 : vs.toArray.push v = (vs ++ [v]).toArray := by rw [List.push_toArray]
  exact k _ t ht (F.change id (Heap.SameBut.update ..) (IsL.update e _) ⟨vs ++ [v], ⟨_, by rw [e2]⟩, rl.snoc r⟩)
/-- add(e), add being the bound append of a list of the frame -/
theorem x_add {x : Str} {np pos spos : Pos} {e : Expr} (F : Frm S env ow h₀ P₀ ((a, .lst ds) :: n) ρ h P) (hx : ρ.lookup x = some (.ref b)) (hb : P b = some (bmObj a)) (he : Ev w s0 A env h P e d) (hz : ds.length ≤ sizeLine)
    (k : ∀ h' P', PLe P P' → Frm S env ow h₀ P₀ ((a, .lst (ds ++ [d])) :: n) ρ h' P' → K .next h')
    (hc : plainName x := by decide) (hp : plainArgs [e] = true := by rfl) (hi : interactive env = false := by rfl) (hs : swapsWith (.Call (.Name x np) [e] [] pos) none spos.line env = pure false := by rfl) :
    X1 w s0 A env (.Expr (.Call (.Name x np) [e] [] pos) spos) h K := by
  intro t ht Q E q
  refine wpAny_Expr ?_ hi hs
  have e1 : eval (.Call (.Name x np) [e] [] pos) env = (do callWith pos (← eval (.Name x np) env) [] (backTo pos (starEach [e] env)) (backToKw pos (keywordEach [] env))) := rfl
  rw [e1]
  refine wpAny_bind (ev_name F.inn hx hc h P t ht F.refl' _ E fun v h₁ P₁ t₁ ht₁ g₁ r₁ => ?_)
  cases r₁
  unfold callWith
  refine wpAny_bind (wpAny_holding (evalArgs_any (star_plain hp) ((evl_cons' hp he evl_nil) h₁ P₁ t₁ ht₁ g₁ _ E fun vs h₂ P₂ t₂ ht₂ g₂ r₂ => ?_)))
  obtain ⟨v, rfl, rv⟩ := r₂.one
  refine wpAny_bind (wpAny_standAt ?_)
  have g := g₁.trans g₂
  have hb₂ := g.ext _ _ hb
  have F₂ := F.grow g
  have hst : (backTo pos (starEach [e] env)).any (·.1) = false := star_plain hp
  simp only [hst, keeperOf, show (backToKw pos (keywordEach [] env)).any (·.1.isNone) = false from rfl, Bool.or_false]
  refine wpAny_bind (wpAny_bind (wpAny_load (F₂.gr.snd _ _ hb₂) ?_))
  refine wpAny_pure ?_
  show wpAny (model pg w) A (call (.ref b) [v] >>= fun r => holding [r] point >>= fun _ => pure r) _ E _
  refine wpAny_bind (call_bm F₂ hb₂ rv ht₂ hz fun h₃ t₃ ht₃ F₃ => wpAny_bind (wpAny_holding (wpAny_point (wpAny_pure (q .next h₃ t₃ ht₃ (k h₃ P₂ g.ext F₃))))))

/-- add = x.append -/
theorem x_bm {x y : Str} {np ap pos yp : Pos} (F : Frm S env ow h₀ P₀ ((a, .lst ds) :: n) ρ h P) (hx : ρ.lookup x = some (.ref a)) (hy : env.kindOf y = some .local)
    (k : ∀ b h' P', PLe P P' → P' b = some (bmObj a) → Frm S env ow h₀ P₀ ((a, .lst ds) :: n) ((y, .ref b) :: ρ) h' P' → K .next h')
    (hc : plainName x := by decide) (hs : swapsWith (.Attribute (.Name x np) "append" ap) (some (.Name y yp)) pos.line env = pure false := by rfl) :
    X1 w s0 A env (.Assign [.Name y yp] (.Attribute (.Name x np) "append" ap) pos) h K := by
  intro t ht Q E q
  refine wpAny_Assign_Name ?_ hs
  rw [arm_eval_Attribute, base_ok rfl]
  refine wpAny_bind (ev_name F.inn hx hc h P t ht F.refl' _ E fun v h₁ P₁ t₁ ht₁ g₁ r₁ => ?_)
  cases r₁
  have F₁ := F.grow g₁
  obtain ⟨⟨o, e, vs, ⟨m, rfl⟩, rl⟩, l, qq, aL, ac⟩ := F₁.led _ (.head _)
  refine wpAny_bind (wpAny_standAt (wpAny_bind (wpAny_holding ?_)))
  unfold getAttr
  refine wpAny_bind (wpAny_mkText (bm_by (g := s0.gens) e ?_))
  have F₂ := F₁.grow (.pushFrz F₁.gr.snd (bmObj a) rfl)
  refine wpAny_bind ?_
  show wpAny (model pg w) A (letTemporaryGo (.Name x np) (.ref a) (.ref h₁.objs.size)) _ E (stt s0 (h₁.push (bmObj a)) (t₁ + 1))
  refine wpAny_letTemporaryGo (wpAny_pure ?_)
  exact f_store (d := .ref h₁.objs.size) F₂ (.inl hy) rfl (Nat.succ_pos _) fun h₂ t₂ ht₂ F₃ => q .next h₂ t₂ ht₂ (k h₁.objs.size h₂ _ (fun b o eb => (Gr.pushFrz F₁.gr.snd (bmObj a) rfl).ext b o (g₁.ext b o eb)) (Pm.put_self ..) F₃)
end
end IK
end

/-! part B23 -/
section
open PySem PySem.W PyProof.Rows
set_option Elab.async false
set_option linter.unusedVariables false
set_option maxRecDepth 100000
namespace IK
section
variable {w : World} {s0 : Shared} {A : Around} {S : Sta} {env : Env} {h : Heap} {P : Pm}
/-- f'..{e}..' -/
theorem fstr {x y : Str} {k1 k2 : Nat} {p1 p2 p3 pos : Pos} {e : Expr} {l : List Nat} (a b : List Nat) (he : Ev w s0 A env h P e (.str l)) (hz : a.length + l.length + b.length ≤ 100000) (ha : x.cps.toList = a := by decide +kernel) (hb : y.cps.toList = b := by decide +kernel) :
    Ev w s0 A env h P (.JoinedStr [.Constant (.str x) k1 p1, .FormattedValue e (-1) none p2, .Constant (.str y) k2 p3] pos) (.str (a ++ l ++ b)) := by
  have hx : x = T a := by rw [← ha]
  have hy : y = T b := by rw [← hb]
  subst hx hy
  have hb' := bigLine
  refine Go.mk fun h₁ P₁ t ht g Q E q => ?_
  refine JoinedStr_many (joinParts_cons (Calls.Constant_str ?_))
  have e0 : Str.empty ++ T a = T a := T_app [] a
  dsimp only
  rw [e0]
  refine ⟨by rw [T_len]; omega, ?_⟩
  refine joinParts_cons (FormattedValue_plain (he h₁ P₁ (t + 1) (Nat.succ_pos _) g _ E fun v h₂ P₂ t₂ ht₂ g₂ r => ?_))
  obtain ⟨u, rfl⟩ := r
  refine formatField_str (fun t' tk => ?_) (by rw [T_len]; omega)
  dsimp only
  rw [T_app]
  refine ⟨by rw [T_len, List.length_append]; omega, ?_⟩
  refine joinParts_cons (Calls.Constant_str ?_)
  dsimp only
  rw [T_app]
  refine ⟨by rw [T_len, List.length_append, List.length_append]; omega, ?_⟩
  refine joinParts_nil (q _ h₂ P₂ _ (fun _ => g₂) fun _ => ⟨_, rfl⟩) (by rw [T_len, List.length_append, List.length_append]; omega)
end
end IK
end

/-! part B24 -/
section
open PySem PySem.W PyProof.Rows
set_option Elab.async false
set_option linter.unusedVariables false
set_option maxRecDepth 100000
namespace IK
/-- some objects hidden -/
noncomputable def hideAll (h : Heap) : List Addr → Heap
  | [] => h
  | a :: r => (hideAll h r).hide a
theorem hideAll_size (h : Heap) : ∀ l, (hideAll h l).objs.size = h.objs.size
  | [] => rfl
  | a :: r => by rw [hideAll, Heap.hide_size, hideAll_size h r]
theorem hideAll_ne (h : Heap) : ∀ l {b : Addr}, b ∉ l → (hideAll h l).get? b = h.get? b
  | [], _, _ => rfl
  | a :: r, b, hb => by
    simp only [List.mem_cons, not_or] at hb
    rw [hideAll, Heap.hide_ne _ hb.1, hideAll_ne h r hb.2]
theorem hideAll_in (h : Heap) : ∀ l {b : Addr}, b ∈ l → (hideAll h l).get? b = none
  | a :: r, b, hb => by
    rw [hideAll]
    by_cases e : b = a
    · subst e; exact Heap.hide_self _ _
    · rw [Heap.hide_ne _ e]
      rcases List.mem_cons.mp hb with q | q
      · exact absurd q e
      · exact hideAll_in h r q
theorem hideAll_sub (h : Heap) (l : List Addr) {b : Addr} {o : Obj} (e : (hideAll h l).get? b = some o) : h.get? b = some o := by
  by_cases hb : b ∈ l
  · rw [hideAll_in h l hb] at e; cases e
  · rw [hideAll_ne h l hb] at e; exact e
noncomputable def allIs (m : List (Addr × Mo)) : Prop := ∀ p ∈ m, ∃ q, p.2 = .is q

section
variable {w : World} {s0 : Shared} {A : Around} {S : Sta} {env₀ : Env} {ow₀ : List Str} {h₀ h : Heap} {P₀ P : Pm} {n m : List (Addr × Mo)} {ρ₀ : List (Str × D)}

/-- what a call leaves behind that may change the things m -/
noncomputable def Left (S : Sta) (h : Heap) (P : Pm) (m : List (Addr × Mo)) (m' : List (Addr × Mo)) (h' : Heap) (P' : Pm) : Prop :=
  m'.map (·.1) = m.map (·.1) ∧ allIs m' ∧ Gr (hideAll h (m.map (·.1))) P h' P' ∧ ∀ p ∈ m', ∃ o, h'.get? p.1 = some o ∧ MoIs P' o p.2
theorem Left.of {env : Env} {ow : List Str} {ρ : List (Str × D)} {m' : List (Addr × Mo)} {h' : Heap} {P' : Pm} (F : Frm S env ow (hideAll h (m.map (·.1))) P m' ρ h' P') (e : m'.map (·.1) = m.map (·.1)) (i : allIs m') : Left S h P m m' h' P' :=
  ⟨e, i, F.gr, fun p hp => (F.led p hp).1⟩
theorem Left.gr {m' : List (Addr × Mo)} {h' h'' : Heap} {P' P'' : Pm} (x : Left S h P m m' h' P') (g : Gr h' P' h'' P'') : Left S h P m m' h'' P'' :=
  ⟨x.1, x.2.1, x.2.2.1.trans g, fun p hp => let ⟨o, e, r⟩ := x.2.2.2 p hp; ⟨o, g.up _ _ e, r.mono g.ext⟩⟩
theorem Frm.left {m' : List (Addr × Mo)} {h' : Heap} {P' : Pm} (F : Frm S env₀ ow₀ h₀ P₀ (n ++ m) ρ₀ h P) (x : Left S h P m m' h' P') : Frm S env₀ ow₀ h₀ P₀ (n ++ m') ρ₀ h' P' := by
  obtain ⟨e, i, g, l⟩ := x
  have sz : (hideAll h (m.map (·.1))).objs.size = h.objs.size := hideAll_size ..
  refine F.butG ⟨fun b o hb eb => g.up b o (by rw [hideAll_ne _ _ hb]; exact eb), g.ext, fun b o eb => by rw [← sz]; exact g.new b o eb, g.snd, by rw [← sz]; exact g.sz⟩ e fun p hp => ⟨?_, l p hp⟩
  obtain ⟨q, hq⟩ := i p hp
  have : p.1 ∈ m.map (·.1) := by rw [← e]; exact List.mem_map_of_mem hp
  obtain ⟨p', hp', e'⟩ := List.mem_map.mp this
  have := (F.led p' (List.mem_append_right _ hp')).2.1.none
  rw [hq, ← e']; exact this

theorem go_callE {name : Str} {st : Stmt} {a : Addr} {cd : Value} {names ow : List Str} {ds : List D} {vs : List Value} {k t : Nat} {R : Value → Heap → Pm → Prop} {Q : Value → Shared → Prop} {E : Value → Shared → Prop} (f : FnAt S name st a cd) (ok : DefOk st names ow) (rm : Rm (k + 1) A)
    (F₀ : Frm S env₀ ow₀ h₀ P₀ (n ++ m) ρ₀ h P) (hm : allIs m) (r : RepL P ds vs) (hl : ds.length = names.length)
    (hb : ∀ pm doc, bindArgs (Calls.docDef name (parOf st) (bodyOf st) (scoOf st) pm cd doc) ⟨vs, []⟩ = pure (names.zip vs)) (ht : 1 ≤ t)
    (body : ∀ L h₂, Frm S (fenv name st L a cd) ow (hideAll h (m.map (·.1))) P m (names.zip ds) h₂ P → Rm k (A.deeper (fenv name st L a cd)) →
      Xs w s0 (A.deeper (fenv name st L a cd)) (fenv name st L a cd) (bodyOf st) h₂ (fun fl h' => ∃ P' m', Left S h P m m' h' P' ∧ R (match fl with | .ret v => v | _ => .none) h' P'))
    (q : ∀ v h' P' m' t', 1 ≤ t' → Left S h P m m' h' P' → R v h' P' → Q v (stt s0 h' t')) : wpAny (model pg w) A (call (.ref a) vs) Q E (stt s0 h t) := by
  obtain ⟨o, pm, doc, ho, hd⟩ := f.ob
  have base : ∀ b o, S.hb.get? b = some o → P b = some o := F₀.inn.base
  have hsnd : Snd P h := F₀.gr.snd
  have top : ∀ b o, S.hb.get? b = some o → h.get? b = some o := fun b o e => hsnd b o (base b o e)
  have hvl : vs.length = names.length := r.length.trans hl
  have hcr : h.CodeRec cd name := by obtain ⟨c, oc, vs', tq, e1, e2, e3⟩ := f.cr; exact ⟨c, oc, vs', tq, e1, top _ _ e2, e3⟩
  refine wpAny_call (codeAny_call_function (s := stt s0 h t) rm.room (top _ _ ho) hd ok.co ok.gen rfl hcr ?_)
  rw [hb pm doc]
  refine wpAny_pure (any_late (wpAny_newFunctionEnv_cells ok.fk ?_ fun env he s₁ ic late => ?_))
  · intro x hx
    have hx' : x.1 ∈ names := by rw [← map_zip_fst hvl]; exact List.mem_map_of_mem hx
    rcases ok.kinds _ hx' with e | ⟨e, _⟩
    · exact .inl e
    · exact .inr ⟨e, cellsFrom_some _ _ _ (.inl e)⟩
  · subst he
    obtain ⟨⟨⟨h₂, t₂, rfl⟩, ns, keep, fresh⟩, cell, apart, above⟩ := ic
    have ht₂ : 1 ≤ t₂ := Nat.le_trans ht late.1
    have hsz : h.objs.size ≤ h₂.objs.size := late.2
    have noneP : ∀ b, h.objs.size ≤ b → P b = none := fun b hb => none_new hsnd hb
    have szx : (hideAll h (m.map (·.1))).objs.size = h.objs.size := hideAll_size ..
    have gg : Gr (hideAll h (m.map (·.1))) P h₂ P := ⟨fun b o e => keep b o (hideAll_sub _ _ e), fun _ _ e => e, fun _ _ e => .inl e, fun b o e => keep b o (hsnd b o e), by rw [szx]; exact hsz⟩
    have hnames : ((names.zip vs).map (·.1)).Nodup := by rw [map_zip_fst hvl]; exact ok.nd
    refine ⟨S.lim.keeps fun b o e => keep _ _ (top b o e), codeAny_func ?_⟩
    have hled : ∀ p ∈ m, ∃ o, h.get? p.1 = some o ∧ MoIs P o p.2 := fun p hp => (F₀.led p (List.mem_append_right _ hp)).1
    have F : Frm S (fenv name st h.objs.size a cd) ow (hideAll h (m.map (·.1))) P m (names.zip ds) h₂ P := by
      refine ⟨gg, ⟨fun x d e => ?_, base, gg.snd, ok.fk, rfl, rfl⟩, ⟨_, ns⟩, by rw [szx]; exact Nat.le_refl _, noneP _ (Nat.le_refl _), fun x hx => ?_, fun x c e => ?_, fun x y c e1 e2 => ?_, fun p hp => ?_, ?_⟩
      · obtain ⟨v, hv, rv⟩ := zip_lookup r e
        refine ⟨v, rv, ?_⟩
        rcases ok.kinds x (lookup_mem_names e) with k1 | ⟨k1, hxo⟩
        · exact .inl ⟨k1, _, ns, bindL_in _ _ hnames hv k1⟩
        · obtain ⟨c, hc⟩ := Option.isSome_iff_exists.mp (cellsFrom_some (x := x) (scoOf st).names (h.objs.size + 1) [] (.inl k1))
          have := cell x c hc
          rw [bindC_in (names.zip vs) (fun _ => none) hnames hv k1] at this
          exact .inr ⟨.inl k1, c, hc, this⟩
      · obtain ⟨c, hc⟩ := Option.isSome_iff_exists.mp (cellsFrom_some (x := x) (scoOf st).names (h.objs.size + 1) [] (.inl (ok.cells x hx)))
        have hlt : h.objs.size ≤ c := Nat.le_of_lt (above x c (mem_of_lookup hc))
        exact ⟨c, hc, ok.cells x hx, ⟨_, cell x c hc⟩, by rw [szx]; exact hlt, noneP _ hlt⟩
      · exact ⟨Nat.ne_of_gt (above x c (mem_of_lookup e)), (cell x c e).lt⟩
      · exact name_of_addr apart (mem_of_lookup e1) (mem_of_lookup e2)
      · obtain ⟨o, eo, ro⟩ := hled p hp
        have hlt : p.1 < h.objs.size := Heap.lt_size eo
        obtain ⟨q, hq⟩ := hm p hp
        refine ⟨⟨o, keep _ _ eo, ro⟩, ?_, (F₀.led p (List.mem_append_right _ hp)).2.2.1, Nat.ne_of_lt hlt, fun x c e => Nat.ne_of_gt (Nat.lt_trans hlt (above x c (mem_of_lookup e)))⟩
        rw [hq]
        exact hideAll_in _ _ (List.mem_map_of_mem hp)
      · have := F₀.dist
        rw [List.map_append] at this
        exact (List.nodup_append.mp this).2.1
    refine wpAny_mono (body h.objs.size h₂ F (rm.deeper _) t₂ ht₂ (fun fl s' => ∃ h' t', s' = stt s0 h' t' ∧ 1 ≤ t' ∧ ∃ P' m', Left S h P m m' h' P' ∧ R (match fl with | .ret v => v | _ => .none) h' P') (fun _ _ => False) fun fl h' t' ht' y => ⟨h', t', rfl, ht', y⟩) (fun fl s' y => ?_) fun _ _ y => y.elim
    obtain ⟨h', t', rfl, ht', P', m', ll, rr⟩ := y
    exact q _ h' P' m' t' ht' ll rr
end
end IK
end

/-! part B25 -/
section
open PySem PySem.W PyProof.Rows
set_option Elab.async false
set_option linter.unusedVariables false
set_option maxRecDepth 100000
namespace IK
noncomputable def TabP (o : Obj) : Prop := ∃ ps : Array Value, o = { cls := .none, data := .fields ps } ∧ TriplesOk ps.toList
/-- the code object of a def, its table apart -/
structure CodeSt (S : Sta) (c Pl : Addr) : Prop where
  code : ∃ o vs file tf flags tg inF text tt, S.hb.get? c = some o ∧ o.cls = .type "code" ∧ o.data = .fields vs ∧ vs.getD 11 .none = .ref Pl ∧ vs[11]? = some (.ref Pl) ∧ vs.getD 18 .none = .str file tf ∧
    vs.getD 7 .none = .int flags tg ∧ vs.getD 9 .none = .bool inF ∧ vs.getD 10 .none = .int text tt
  ne : c ≠ Pl
  bm : ∃ bm ob, S.mg "__builtins__" = some (.ref bm) ∧ bm ≠ builtinsNs ∧ S.hb.get? bm = some ob ∧ ob.cls = .type "module" ∧ ob.dict = some builtinsNs ∧ ob.data = .plain

theorem IsCode_triples {h : Heap} {c P : Addr} {ps : Array Value} (x : h.IsCode c P ps) : TriplesOk ps.toList := by
  obtain ⟨_, _, _, _, _, _, _, _, _, _, _, _, _, _, _, _, _, _, _, r, _⟩ := x
  exact r
section
variable {w : World} {s0 : Shared} {A : Around} {S : Sta} {env : Env} {ow : List Str} {h₀ h h' : Heap} {P₀ P P' : Pm} {n : List (Addr × Mo)} {ρ : List (Str × D)} {c Pl : Addr}
theorem go_lam {args : Arguments} {body : Expr} {scope : Scope} {pos : Pos} {t : Nat} {Q : Value → Shared → Prop} {E : Value → Shared → Prop} (F : Frm S env ow h₀ P₀ (n ++ [(Pl, .is TabP)]) ρ h P) (st : CodeSt S c Pl) (hc : env.code = .ref c) (hfree : ∀ x ∈ scope.names, x.2 ≠ .free)
    (hd : defaultsOf args env = ([], [])) (hkw : args.kwonlyargs = []) (ht : 1 ≤ t)
    (q : ∀ f h' P' t' fd, 1 ≤ t' → PLe P P' → P' f = some { cls := .type "function", data := .func fd } → Frm S env ow h₀ P₀ (n ++ [(Pl, .is TabP)]) ρ h' P' → Q (.ref f) (stt s0 h' t')) : wpAny (model pg w) A (eval (.Lambda args body scope pos) env) Q E (stt s0 h t) := by
  rw [arm_eval_Lambda, hd]
  have hcl : closureFor scope env = pure [] := closureFor_none hfree
  obtain ⟨o, vs, file, tf, flags, tg, inF, text, tt, e1, e2, e3, e4, e5, e6, e7, e8, e9⟩ := st.code
  obtain ⟨bm, ob, b1, b2, b3, b4, b5, b6⟩ := st.bm
  obtain ⟨⟨op, eop, ps, eps, htr⟩, _, qP, _⟩ := F.led _ (List.mem_append_right n (.head _))
  simp only at eop qP
  subst eps
  have top : ∀ b o, S.hb.get? b = some o → h.get? b = some o := F.inn.top
  have hne : ∀ b o, S.hb.get? b = some o → b ≠ Pl := fun b o e z => by have := F.inn.base b o e; rw [z, qP] at this; cases this
  have hok : h.IsCode c Pl ps := ⟨o, vs, file, tf, flags, tg, inF, text, tt, _, top _ _ e1, e3, e4, e6, e7, e8, e9, eop, rfl, htr, st.ne⟩
  have htab : h.TableAt c Pl ps := ⟨⟨o, vs, top _ _ e1, e2, e3, e5⟩, eop⟩
  simp only [evalAll, evalAllOpt, makeFunction, hkw, List.zip_nil_left, List.filterMap_nil, List.isEmpty_nil, if_true, pure_bind, hcl]
  -- behind the code object
  have fin : ∀ (cv : Value) (h₁ : Heap) (t₁ : Nat), 1 ≤ t₁ → h.objs.size ≤ h₁.objs.size → (∀ b o, b ≠ Pl → h.get? b = some o → h₁.get? b = some o) → (∃ ps', h₁.get? Pl = some { cls := .none, data := .fields ps' } ∧ TriplesOk ps'.toList) →
      wpAny (model pg w) A (do
        let b ← builtinsFor env.globals env.builtins
        let nm ← nsGet env.globals "__name__"
        newObj (.type "function") (.func ({ name := "<lambda>", qualname := env.qual ++ "<lambda>", params := args, body := .expr body, scope, globals := env.globals, closure := [], closureTuple := .none, code := cv, builtins := b, defaults := .none, kwdefaults := .none, annotations := none, pyModule := nm.getD .none, doc := .none } : FuncData))) Q E (stt s0 h₁ t₁) := fun cv h₁ t₁ ht₁ sz up ⟨ps', e', tr'⟩ => by
    have hup : ∀ b o, S.hb.get? b = some o → h₁.get? b = some o := fun b o e => up b o (hne b o e) (top b o e)
    have hg : h₁.Ns env.globals S.mg := F.inn.eg ▸ S.g.keeps hup
    refine wpAny_bind (wpAny_builtinsFor (s := stt s0 h₁ t₁) hg b1 b2 (hup _ _ b3) b4 b5 b6 ?_)
    refine wpAny_bind (wpAny_nsGet (s := stt s0 h₁ t₁) hg ?_)
    have F₁ : Frm S env ow h₀ P₀ (n ++ [(Pl, .is TabP)]) ρ h₁ P := by
      refine F.but (m' := [(Pl, .is TabP)]) (fun b o hb e => up b o (fun z => hb (by rw [z]; exact .head _)) e) sz rfl fun p hp => ?_
      cases List.mem_singleton.mp hp
      exact ⟨(F.led _ (List.mem_append_right n (.head _))).2.1, _, e', ps', rfl, tr'⟩
    refine wpAny_newObj_type (q h₁.objs.size _ _ t₁ _ ht₁ (fun b o e => (Gr.pushFrz F₁.gr.snd _ rfl).ext b o e) (Pm.put_self ..) (F₁.grow (.pushFrz F₁.gr.snd _ rfl))) (by size_fits)
  refine wpAny_bind (wpAny_holding (wpAny_pure ?_))
  refine wpAny_bind ?_
  cases hf : codeAmong pos ps.toList with
  | some c' => exact wpAny_functionCode_hit (s := stt s0 h t) hc hok hf (fin c' h t ht (Nat.le_refl _) (fun _ _ _ e => e) ⟨ps, eop, htr⟩)
  | none =>
    refine any_late (wpAny_functionCodeX (s := stt s0 h t) hc hok htab hf fun c' h' tk ext _ _ hok' _ htab' _ => fun late => ?_)
    have tr' := IsCode_triples hok'
    exact fin (.ref c') h' tk (Nat.le_trans ht late.1) late.2 ext ⟨_, htab'.2, tr'⟩
end
end IK
end

/-! part B26 -/
section
open PySem PySem.W PyProof.Rows PySem.Builtin.Re
set_option Elab.async false
set_option linter.unusedVariables false
set_option maxRecDepth 100000
namespace IK
/-- the machine, driven to its end -/
noncomputable def drv : Nat → Sre.M → Option Sre.M
  | 0, _ => none
  | n + 1, m => if (m.runFor reTurnSteps).outcome.isSome then some (m.runFor reTurnSteps) else drv n (m.runFor reTurnSteps)
section
variable {w : World} {s0 : Shared} {A : Around} {h : Heap} {P : Pm}
theorem go_reDrive : ∀ (n turns : Nat) (m m' : Sre.M) {h : Heap} {P : Pm}, n ≤ turns → drv n m = some m' → Go w s0 A h P (reDrive turns m) (fun v _ _ => v = m')
  | 0, _, _, _, _, _, _, e => nomatch e
  | n + 1, 0, _, _, _, _, l, _ => absurd l (Nat.not_succ_le_zero _)
  | n + 1, turns + 1, m, m', h, P, l, e => by
    unfold drv at e
    unfold reDrive
    show Go w s0 A h P (if (m.runFor reTurnSteps).outcome.isSome = true then pure (m.runFor reTurnSteps) else do rule "sre.turn"; reDrive turns (m.runFor reTurnSteps)) _
    split at e
    · rename_i hs
      rw [if_pos hs]; cases e
      exact Go.pure fun _ _ _ => rfl
    · rename_i hs
      rw [if_neg hs]
      exact Go.bind Go.rule fun _ h₁ P₁ g _ => go_reDrive n turns _ _ (Nat.le_of_succ_le_succ l) e
theorem go_rules {m : Sre.M} {names : Array String} : ∀ (l : List Nat) {h : Heap} {P : Pm}, Go w s0 A h P (forIn l PUnit.unit fun i (_ : PUnit) => do
      if m.seen.has i then rule (names.getD i "")
      pure (ForInStep.yield PUnit.unit)) (fun _ _ _ => True)
  | [], h, P => by rw [List.forIn_nil]; exact Go.pure fun _ _ _ => trivial
  | i :: l, h, P => by
    rw [List.forIn_cons]
    refine Go.bind (R := fun v _ _ => v = ForInStep.yield PUnit.unit) ?_ fun v h₁ P₁ g e => ?_
    · by_cases hi : m.seen.has i = true
      · rw [if_pos hi]; exact Go.bind (R := fun _ _ _ => True) Go.rule fun _ _ _ _ _ => Go.pure (R := fun v _ _ => v = ForInStep.yield PUnit.unit) fun _ _ _ => rfl
      · rw [if_neg hi]; exact Go.pure (R := fun v _ _ => v = ForInStep.yield PUnit.unit) fun _ _ _ => rfl
    · cases e; exact go_rules l
theorem go_runFail {m m' : Sre.M} {n : Nat} (hn : n ≤ 2 ^ 64) (e : drv n m = some m') (hf : m'.outcome = some .failed) : Go w s0 A h P (reRunToEnd m) (fun v _ _ => v = none) := by
  unfold reRunToEnd
  refine Go.bind (go_reDrive n _ m m' hn e) fun v h₁ P₁ g ev => ?_
  cases ev
  refine Go.bind (go_rules _) fun _ h₂ P₂ g₂ _ => ?_
  rw [hf]
  exact Go.pure fun _ _ _ => rfl
end
end IK
end

/-! part B27 -/
section
open PySem PySem.W PyProof.Rows PySem.Builtin.Re
set_option Elab.async false
set_option linter.unusedVariables false
set_option maxRecDepth 100000
namespace IK
theorem slot_sub : Slot "re.Pattern" "sub" "re.Pattern.sub" :=
  .of (owner := "re.Pattern") (n := "sub") (by rw [typeLookup_type, builtinLookup_eq_fast]; kernel_rfl) (by decide +kernel) (by decide +kernel) (by decide +kernel)
    (by first | exact .inl (by decide +kernel) | exact .inr (by decide +kernel)) (by rw [isSubtype_type]; kernel_rfl)
theorem plain_sub_loop : plainId "re.Pattern.sub.loop" = true := by decide +kernel
theorem entry_sub : entryFor table "re.Pattern.sub" = some Builtin.«re.Pattern.sub» := entryFor_of_fast (by kernel_rfl)
theorem entry_sub_loop : entryFor table "re.Pattern.sub.loop" = some Builtin.«re.Pattern.sub.loop» := entryFor_of_fast (by kernel_rfl)
theorem plainAttrs_pat : PlainAttrs "re.Pattern" :=
  ⟨⟨"object.__getattribute__", by rw [typeLookup_type, builtinLookup_eq_fast]; kernel_rfl, by decide +kernel⟩, by rw [typeLookup_type, builtinLookup_eq_fast]; kernel_rfl⟩
theorem type_sub : typeOf (.builtin "re.Pattern.sub") = pure (.type "method_descriptor") := by show builtinType _ = _; rw [builtinType_eq_fast]; kernel_rfl
theorem args_sub (a b c : Value) : argsOk "re.Pattern.sub" ⟨[a, b, c], []⟩ := by unfold argsOk; kernel_rfl
theorem look_fcall : typeLookup (.type "function") "__call__" = pure (some (.builtin "function.__call__")) := by rw [typeLookup_type, builtinLookup_eq_fast]; kernel_rfl

section
variable {w : World} {s0 : Shared} {A : Around} {h : Heap} {P : Pm} {E : Value → Shared → Prop}
/-- the pattern and its code -/
structure PatIn (h : Heap) (pa ca : Addr) (fs items : Array Value) : Prop where
  po : ∃ o, h.get? pa = some o ∧ o.cls = .type "re.Pattern" ∧ o.data = .fields fs
  co : ∃ o n, h.get? ca = some o ∧ o.data = .seq items n
  at5 : fs.getD 5 .none = .ref ca
  at6 : reRawNat (fs.getD 6 .none) = 0
noncomputable def tgt (pa : Addr) (fs items : Array Value) (s : Str) (m : Tok) : ReTarget :=
  { pattern := .ref pa, string := .str s m, code := (items.map reRawOf).map (·.toNat), text := s.cps, kind := 0, groups := reRawNat (fs.getD 2 .none), pos := 0, lim := s.cps.size }
theorem any_whole {pa ca : Addr} {fs items : Array Value} {x : Str} {m : Tok} {s : Shared} {Q : ReTarget → Shared → Prop} (p : PatIn s.heap pa ca fs items) (q : Q (tgt pa fs items x m) s) :
    wpAny (model pg w) A (reWholeTarget (.ref pa) (.str x m)) Q E s := by
  obtain ⟨o, e1, _, e2⟩ := p.po
  obtain ⟨oc, n, e3, e4⟩ := p.co
  unfold reWholeTarget
  refine wpAny_bind (wpAny_fieldsOf e1 e2 ?_)
  refine wpAny_bind (wpAny_of_eq (a := (x.cps, 0)) rfl ?_)
  show wpAny _ A (do
    if reRawNat (fs.getD 6 .none) == 0 && (0 : Nat) == 1 then raiseError "TypeError" "cannot use a string pattern on a bytes-like object"
    if reRawNat (fs.getD 6 .none) == 1 && (0 : Nat) == 0 then raiseError "TypeError" "cannot use a bytes pattern on a string-like object"
    reNoCollectionInside (.str x m) 0
    pure { pattern := .ref pa, string := .str x m, code := (← reRawItems (fs.getD 5 .none)).map (·.toNat), text := x.cps, kind := 0, groups := reRawNat (fs.getD 2 .none), pos := 0, lim := x.cps.size }) Q E s
  rw [p.at6, p.at5]
  refine wpAny_bind (wpAny_of_eq (a := ()) rfl ?_)
  unfold reRawItems
  refine wpAny_bind (wpAny_bind (wpAny_seqItems e3 e4 ?_))
  exact wpAny_pure (wpAny_pure q)
theorem T_ext (l : List Nat) : (⟨(T l).cps.extract 0 (T l).cps.size⟩ : Str) = T l := by rw [Array.extract_size]
theorem any_sub_loop {pa ca a : Addr} {fs items : Array Value} {l : List Nat} {m k : Tok} {repl : Value} {N : Nat} {m' : Sre.M} {Q : Fin → Shared → Prop} (p : PatIn h pa ca fs items) (ea : h.get? a = some { cls := .type "list", data := .seq #[] }) (hl : l ≠ []) (hz : l.length ≤ 1000)
    (hN : N ≤ 2 ^ 64) (hm : drv N (Sre.forSearch ((items.map reRawOf).map (·.toNat)) (T l).cps (reRawNat (fs.getD 2 .none)) 0 (T l).cps.size false) = some m') (hf : m'.outcome = some .failed) (hk : 1 ≤ k)
    (q : ∀ t' h' k', (∀ b o, b ≠ a → h.get? b = some o → h'.get? b = some o) → Q (.done (.ret (.str (T l) t'))) (stt s0 h' k')) :
    wpAny (model pg w) A (Builtin.«re.Pattern.sub.loop» ⟨[.ref pa, .str (T l) m, repl, rawInt 1, rawInt 0, rawInt 0, rawInt 0, rawInt 0, .bool false, .ref a, .bool false], []⟩) Q E (stt s0 h k) := by
  unfold Builtin.«re.Pattern.sub.loop»
  refine wpAny_bind (any_whole (s := stt s0 h k) p ?_)
  refine wpAny_ite_false rfl ?_
  refine wpAny_bind (wpAny_ite_false rfl ?_)
  show wpAny _ A (reRunToEnd _) _ E _
  refine go_runFail (s0 := s0) (P := fun _ => none) hN hm hf h _ k hk (.refl fun _ _ e => nomatch e) _ E fun v h₂ P₂ t₂ ht₂ g₂ e => ?_
  cases e
  have hs : (T l).cps.size = l.length := T_len l
  have hlt : 0 < (T l).cps.size := by rw [hs]; exact List.length_pos_iff.mpr hl
  have e₂ := g₂.up _ _ ea
  have hs1 : (T l).cps.size ≤ sizeLine := by rw [hs, sizeLine_eq]; omega
  have hx : (⟨(tgt pa fs items (T l) m).text.extract (Int.toNat 0) (tgt pa fs items (T l) m).lim⟩ : Str) = T l := T_ext l
  have hx0 : (⟨(tgt pa fs items (T l) m).text.extract 0 0⟩ : Str) = T [] := by
    show (⟨(T l).cps.extract 0 0⟩ : Str) = _
    rw [Array.extract_zero]
  refine wpAny_ite_true (decide_eq_true hlt) ?_
  refine wpAny_bind (wpAny_mkStr (s := stt s0 h₂ t₂) ?_ (by rw [hx]; exact hs1))
  rw [hx]
  refine wpAny_bind (wpAny_updateSeq (s := stt s0 h₂ _) e₂ rfl ?_)
  refine wpAny_bind (wpAny_mkStr (s := stt s0 _ _) ?_ (by rw [hx0]; exact Nat.zero_le _))
  rw [hx0]
  have e₃ := Heap.get?_update_self (h := h₂) (Obj.mapSeq fun xs => xs.push (.str (T l) (stt s0 h₂ t₂).toks)) e₂ rfl
  refine wpAny_bind (wpAny_seqItems (s := stt s0 _ _) e₃ rfl ?_)
  refine wpAny_ite_false rfl ?_
  refine wpAny_bind (SC.join (s := stt s0 _ _) (l := [(T l, (stt s0 h₂ t₂).toks)]) (texts := [T l]) ?_ rfl ?_ fun t' k' => ?_)
  · exact ⟨_, e₃, rfl, _, rfl⟩
  · unfold JoinOk
    rw [StrLaws.joinFits (B := 1000) (fun y hy => by cases List.mem_singleton.mp hy; rw [T_len]; exact hz) (by rw [T_len]; show 1 * 1000 + 1 * 0 ≤ _; decide)]
    rfl
  · refine wpAny_ite_false rfl ?_
    have hj : Txt.join (T []) [T l] = T l := by exact strjoin_T [] [l]
    rw [hj]
    refine wpAny_pure (q t' _ k' fun b o hb e => ?_)
    exact Heap.get?_update_of_ne _ (Ne.symm hb) (g₂.up _ _ e)
end
end IK
end

/-! part B28 -/
section
open PySem PySem.W PyProof.Rows PySem.Builtin.Re
set_option Elab.async false
set_option linter.unusedVariables false
set_option maxRecDepth 100000
namespace IK
theorem str_not_bytearray : isSubtype (.type "str") (.type "bytearray") = pure false := by rw [isSubtype_type]; kernel_rfl
theorem PatIn.keeps {h h' : Heap} {pa ca : Addr} {fs items : Array Value} (p : PatIn h pa ca fs items) (up : ∀ b o, h.get? b = some o → h'.get? b = some o) : PatIn h' pa ca fs items :=
  let ⟨o, a, b, c⟩ := p.po
  let ⟨o', n, a', b'⟩ := p.co
  ⟨⟨o, up _ _ a, b, c⟩, ⟨o', n, up _ _ a', b'⟩, p.at5, p.at6⟩
/-- the text holds nothing that the pattern finds -/
noncomputable def Clean (fs items : Array Value) (l : List Nat) : Prop :=
  l ≠ [] ∧ l.length ≤ 1000 ∧ ∃ N m', N ≤ 2 ^ 64 ∧ drv N (Sre.forSearch ((items.map reRawOf).map (·.toNat)) (T l).cps (reRawNat (fs.getD 2 .none)) 0 (T l).cps.size false) = some m' ∧ m'.outcome = some .failed
section
variable {w : World} {s0 : Shared} {A : Around} {h : Heap} {P : Pm} {E : Value → Shared → Prop} {S : Sta}
theorem go_sub {pa ca f : Addr} {fs items : Array Value} {l : List Nat} {m : Tok} {fd : FuncData} (p : PatIn S.hb pa ca fs items) (base : ∀ b o, S.hb.get? b = some o → P b = some o) (pf : P f = some { cls := .type "function", data := .func fd }) (cl : Clean fs items l) :
    Go w s0 A h P (call (.builtin "re.Pattern.sub") [.ref pa, .ref f, .str (T l) m]) (RepR (.str l)) := by
  obtain ⟨hl, hz, N, m', hN, hm, hf⟩ := cl
  refine Go.mk fun h₁ P₁ k hk g Q E q => ?_
  have p₁ : PatIn h₁ pa ca fs items := p.keeps fun b o e => g.snd b o (g.ext b o (base b o e))
  have ef := g.snd _ _ (g.ext _ _ pf)
  obtain ⟨o, e1, e2, e3⟩ := p₁.po
  refine wpAny_call (codeAny_call_builtin slot_sub.plain entry_sub (slot_sub.check _ _ _ _ (.ref pa) _ _ _ ⟨o, e1, e2⟩ (args_sub ..) ?_))
  unfold Builtin.«re.Pattern.sub» reSubstitute
  refine wpAny_bind (wpAny_of_eq (a := [some (.ref f), some (.str (T l) m), none]) rfl ?_)
  refine wpAny_bind (wpAny_of_eq (a := (0 : Int)) rfl ?_)
  refine wpAny_bind (wpAny_specialOf (s := stt s0 h₁ k) (T := "function") ⟨_, ef, rfl⟩ look_fcall ?_)
  refine wpAny_bind (wpAny_of_eq (a := false) rfl ?_)
  refine wpAny_ite_true rfl ?_
  refine wpAny_bind (wpAny_pure ?_)
  refine wpAny_bind (wpAny_holding (any_whole (s := stt s0 h₁ k) p₁ ?_))
  refine wpAny_ite_true rfl ?_
  refine wpAny_bind ?_
  unfold reNotHeld
  refine wpAny_bind (wpAny_isInstance (s := stt s0 h₁ k) (typeIs_str _ _ _) str_not_bytearray ?_)
  refine wpAny_ite_false rfl ?_
  refine wpAny_of_eq (a := ()) rfl ?_
  refine wpAny_bind (wpAny_newList (s := stt s0 h₁ k) ?_ (Nat.zero_le _))
  refine wpAny_pure ⟨plainId_quiet plain_sub_loop _, codeAny_builtin entry_sub_loop ?_⟩
  rw [Around.under_plainId plain_sub_loop]
  have up : ∀ b o, h₁.get? b = some o → (h₁.push { cls := .type "list", data := .seq #[] }).get? b = some o := fun b o e => Heap.get?_push_of_some _ e
  refine any_sub_loop (s0 := s0) (h := h₁.push { cls := .type "list", data := .seq #[] }) (a := h₁.objs.size) (k := k) (p₁.keeps up) (Heap.get?_push_size _ rfl) hl hz hN hm hf hk fun t' h' k' up' => ?_
  have up2 : ∀ b o, h₁.get? b = some o → h'.get? b = some o := fun b o e => up' b o (Nat.ne_of_lt (Heap.lt_size e)) (up b o e)
  exact q _ h' P₁ k' (fun sz => .same g.snd up2 sz) fun _ => ⟨t', rfl⟩
end
end IK
end

/-! part B29 -/
section
open PySem PySem.W PyProof.Rows PySem.Builtin.Re
set_option Elab.async false
set_option linter.unusedVariables false
set_option maxRecDepth 100000
namespace IK
/-- the words of `([&~|])` -/
noncomputable def reWords : List Nat := [14, 14, 4, 1, 1, 9, 0, 64, 0, 1342177280, 0, 0, 0, 0, 0, 17, 0, 13, 11, 9, 0, 64, 0, 1342177280, 0, 0, 0, 0, 0, 17, 1, 1]
noncomputable def reItems : Array Value := (reWords.map fun (n : Nat) => Value.int (n : Int) 0).toArray
theorem clean_of {fs : Array Value} {l : List Nat} (h2 : reRawNat (fs.getD 2 .none) = 1) (hl : l ≠ []) (hz : l.length ≤ 1000)
    (e : (drv 30 (Sre.forSearch ((reItems.map reRawOf).map (·.toNat)) (T l).cps 1 0 (T l).cps.size false)).map (·.outcome) = some (some .failed)) : Clean fs reItems l := by
  cases hd : drv 30 (Sre.forSearch ((reItems.map reRawOf).map (·.toNat)) (T l).cps 1 0 (T l).cps.size false) with
  | none => rw [hd] at e; cases e
  | some m' =>
    rw [hd] at e
    exact ⟨hl, hz, 30, m', by decide, by rw [h2]; exact hd, by simpa using e⟩
theorem clean_na {fs : Array Value} (h2 : reRawNat (fs.getD 2 .none) = 1) : Clean fs reItems [33, 97] := clean_of h2 (by decide) (by decide) (by kernel_rfl)
theorem clean_star {fs : Array Value} (h2 : reRawNat (fs.getD 2 .none) = 1) : Clean fs reItems [42] := clean_of h2 (by decide) (by decide) (by kernel_rfl)
theorem clean_quest {fs : Array Value} (h2 : reRawNat (fs.getD 2 .none) = 1) : Clean fs reItems [63] := clean_of h2 (by decide) (by decide) (by kernel_rfl)
theorem clean_open {fs : Array Value} (h2 : reRawNat (fs.getD 2 .none) = 1) : Clean fs reItems [91] := clean_of h2 (by decide) (by decide) (by kernel_rfl)
end IK
end

/-! part B30 -/
section
open PySem PySem.W PyProof.Rows PySem.Builtin.Re
set_option Elab.async false
set_option linter.unusedVariables false
set_option maxRecDepth 100000
namespace IK
section
variable {w : World} {s0 : Shared} {A : Around} {S : Sta} {env : Env} {ow : List Str} {h₀ h h' : Heap} {P₀ P P' : Pm} {n : List (Addr × Mo)} {ρ : List (Str × D)} {c Pl : Addr} {K : Flow → Heap → Prop}
/-- y = re.sub(lambda .., y) on a text that holds nothing to turn -/
theorem x_sub {x y : Str} {args : Arguments} {body : Expr} {scope : Scope} {np ap lp yp tp pos spos : Pos} {pa ca : Addr} {fs items : Array Value} {l : List Nat}
    (F : Frm S env ow h₀ P₀ (n ++ [(Pl, .is TabP)]) ρ h P) (st : CodeSt S c Pl) (pp : PatIn S.hb pa ca fs items) (pd : ∀ o, S.hb.get? pa = some o → o.dict = none) (mx : S.mg x = some (.ref pa)) (cl : Clean fs items l) (hy : ρ.lookup y = some (.str l))
    (hc : env.code = .ref c) (hfree : ∀ x ∈ scope.names, x.2 ≠ .free) (hd : defaultsOf args env = ([], [])) (hkw : args.kwonlyargs = []) (hky : env.kindOf y = some .local ∨ (env.kindOf y = some .cell ∧ y ∈ ow))
    (hkx : env.kindOf x = some .globalImplicit) (hdx : notDbg x) (hdy : plainName y)
    (k : ∀ h' P', PLe P P' → Frm S env ow h₀ P₀ (n ++ [(Pl, .is TabP)]) ((y, .str l) :: ρ) h' P' → K .next h')
    (hline : (ap.endLine == pos.line) = true := by rfl)
    (hs : swapsWith (.Call (.Attribute (.Name x np) "sub" ap) [.Lambda args body scope lp, .Name y yp] [] pos) (some (.Name y tp)) spos.line env = pure false := by rfl) :
    X1 w s0 A env (.Assign [.Name y tp] (.Call (.Attribute (.Name x np) "sub" ap) [.Lambda args body scope lp, .Name y yp] [] pos) spos) h K := by
  intro t ht Q E q
  refine wpAny_Assign_Name ?_ hs
  have hp : plainArgs [.Lambda args body scope lp, .Name y yp] = true := rfl
  have hn : notSuper (.Name x np) = true := rfl
  refine wpAny_Call_method_lateS (base_ok hn) (few_ok hp (by simp)) hline (ev_global (d := .ref pa) F.inn hkx mx (fun _ => rfl) hdx h P t ht F.refl' _ E fun v h₂ P₂ t₂ ht₂ g₂ r => ?_)
  cases r
  have F₂ := F.grow g₂
  obtain ⟨o, e1, e2, e3⟩ := pp.po
  have e1' : h₂.get? pa = some o := F₂.inn.top _ _ e1
  refine ⟨"re.Pattern", "re.Pattern.sub", plainAttrs_pat, slot_sub, type_sub, ⟨o, e1', e2⟩, (fun b e' => by cases e'; exact ⟨_, e1', pd _ e1⟩), ?_⟩
  refine Calls.callWith_builtin (star_plain hp) (evalArgs_any (star_plain hp) ?_)
  show wpAny (model pg w) A (spliced [(false, eval (.Lambda args body scope lp) env), (false, eval (.Name y yp) env)]) _ E _
  refine Calls.spliced_cons (go_lam F₂ st hc hfree hd hkw ht₂ fun f h₃ P₃ t₃ fd ht₃ hP pf F₃ => ?_)
  refine Calls.spliced_cons (nm F₃.inn hy hdy h₃ P₃ t₃ ht₃ F₃.refl' _ E fun v h₄ P₄ t₄ ht₄ g₄ r => Calls.spliced_nil ?_)
  obtain ⟨m, rfl⟩ := r
  have F₄ := F₃.grow g₄
  refine go_sub pp F₄.inn.base (g₄.ext _ _ pf) cl h₄ P₄ t₄ ht₄ F₄.refl' _ E fun v h₅ P₅ t₅ ht₅ g₅ r => ?_
  exact f_store (F₄.grow g₅) hky r ht₅ fun h₆ t₆ ht₆ F₆ => q _ h₆ t₆ ht₆ (k h₆ P₅ (fun b o e => g₅.ext _ _ (g₄.ext _ _ (hP _ _ (g₂.ext _ _ e)))) F₆)
end
end IK
end

/-! part B31 -/
section
open PySem PySem.W PyProof.Rows
set_option Elab.async false
set_option linter.unusedVariables false
set_option maxRecDepth 100000
namespace IK
section
variable {w : World} {s0 : Shared} {A : Around}
theorem op_inTup2 {c a b : List Nat} : Op2 w s0 A (compareOp .In) (.str c) (.tup [.str a, .str b]) (.bool (c == a || c == b)) := by
  intro h P v₁ v₂ hs r₁ r₂ h₁ P₁ t ht g Q E q
  obtain ⟨u, rfl⟩ := r₁
  obtain ⟨ad, o, vs, rfl, ep, ⟨n, rfl⟩, rl⟩ := r₂.mono g.ext
  obtain ⟨x, y, rfl, ⟨ta, rfl⟩, ⟨tb, rfl⟩⟩ := RepL.two rl
  refine SeqRoads2.in_tuple (s := stt s0 h₁ t) (fun v => match v with | .str z _ => z.cps.toList == c | _ => false) (fun y hy => ?_) (g.snd _ _ ep) (q _ h₁ P₁ t ht (.refl g.snd) ?_)
  · simp only [List.mem_toArray, List.mem_cons, List.not_mem_nil, or_false] at hy
    rcases hy with rfl | rfl
    · exact SeqRoads2.EqGives.str _ _ _ _
    · exact SeqRoads2.EqGives.str _ _ _ _
  · show Value.bool _ = _
    congr 1
    simp only [List.any_toArray, List.any_cons, List.any_nil, Bool.or_false]
    show (a == c || b == c) = _
    rw [Bool.beq_comm (a := a), Bool.beq_comm (a := b)]
end
end IK
end

/-! part B32 -/
section
open PySem PySem.W PyProof.Rows
set_option Elab.async false
set_option linter.unusedVariables false
set_option maxRecDepth 100000
namespace IK
section
variable {w : World} {s0 : Shared} {A : Around} {S : Sta} {env : Env} {ow : List Str} {h₀ h h' : Heap} {P₀ P P' : Pm} {n m : List (Addr × Mo)} {ρ : List (Str × D)} {d : D} {K : Flow → Heap → Prop}
theorem Frm.reIs {mE : List (Addr × Mo)} (F : Frm S env ow h₀ P₀ (n ++ m) ρ h P) (e : mE.map (·.1) = m.map (·.1)) (i : allIs mE) (hk : ∀ p ∈ mE, ∃ o, h.get? p.1 = some o ∧ MoIs P o p.2) : Frm S env ow h₀ P₀ (n ++ mE) ρ h P := by
  refine F.but (m' := mE) (fun b o _ eb => eb) (Nat.le_refl _) e fun p hp => ⟨?_, hk p hp⟩
  obtain ⟨q, hq⟩ := i p hp
  have : p.1 ∈ m.map (·.1) := by rw [← e]; exact List.mem_map_of_mem hp
  obtain ⟨p', hp', e'⟩ := List.mem_map.mp this
  have := (F.led p' (List.mem_append_right _ hp')).2.1.none
  rw [hq, ← e']; exact this
/-- y = f(..), f changing the things m -/
theorem x_callE {x y : Str} {np pos yp spos : Pos} {args : List Expr} {st : Stmt} {a : Addr} {cd : Value} {names ow' : List Str} {ds : List D} {k : Nat} {mE : List (Addr × Mo)} (hE : mE.map (·.1) = m.map (·.1)) (iE : allIs mE) (f : FnAt S x st a cd) (ok : DefOk st names ow') (rm : Rm (k + 1) A)
    (F : Frm S env ow h₀ P₀ (n ++ m) ρ h P) (hm : allIs m) (ha : EvL w s0 A env h P pos args ds) (hl : ds.length = names.length)
    (hb : ∀ vs : List Value, vs.length = names.length → ∀ pm doc, bindArgs (Calls.docDef x (parOf st) (bodyOf st) (scoOf st) pm cd doc) ⟨vs, []⟩ = pure (names.zip vs))
    (body : ∀ h P L h₂, PLe P₀ P → Frm S (fenv x st L a cd) ow' (hideAll h (m.map (·.1))) P m (names.zip ds) h₂ P → Rm k (A.deeper (fenv x st L a cd)) →
      Xs w s0 (A.deeper (fenv x st L a cd)) (fenv x st L a cd) (bodyOf st) h₂ (fun fl h' => ∃ P', Left S h P m mE h' P' ∧ RepR d (match fl with | .ret v => v | _ => .none) h' P'))
    (hkx : env.kindOf x = some .globalImplicit) (hdx : notDbg x) (hky : env.kindOf y = some .local ∨ (env.kindOf y = some .cell ∧ y ∈ ow))
    (q : ∀ h' P', PLe P P' → Frm S env ow h₀ P₀ (n ++ mE) ((y, d) :: ρ) h' P' → K .next h')
    (hp : plainArgs args = true := by rfl) (hs : swapsWith (.Call (.Name x np) args [] pos) (some (.Name y yp)) spos.line env = pure false := by rfl) :
    X1 w s0 A env (.Assign [.Name y yp] (.Call (.Name x np) args [] pos) spos) h K := by
  intro t ht Q E qq
  refine wpAny_Assign_Name ?_ hs
  have e1 : eval (.Call (.Name x np) args [] pos) env = (do callWith pos (← eval (.Name x np) env) [] (backTo pos (starEach args env)) (backToKw pos (keywordEach [] env))) := rfl
  rw [e1]
  obtain ⟨o, pm, doc, ho, hd⟩ := f.ob
  refine wpAny_bind (ev_global (d := .ref a) F.inn hkx f.mg (fun _ => rfl) hdx h P t ht F.refl' _ E fun v h₁ P₁ t₁ ht₁ g₁ r₁ => ?_)
  cases r₁
  refine Calls.callWith_function (o := o) (fd := Calls.docDef x (parOf st) (bodyOf st) (scoOf st) pm cd doc) (evalArgs_any (star_plain hp) (ha h₁ P₁ t₁ ht₁ g₁ _ E fun vs h₂ P₂ t₂ ht₂ g₂ r₂ => ?_))
  have g := g₁.trans g₂
  have F₂ := F.grow g
  refine ⟨⟨F₂.inn.top _ _ ho, hd⟩, ?_⟩
  refine go_callE (R := fun v h' P' => Rep P' d v ∧ ∀ p ∈ mE, ∃ o, h'.get? p.1 = some o ∧ MoIs P' o p.2) f ok rm F₂ hm r₂ hl (hb vs (r₂.length.trans hl)) ht₂ (fun L h₃ F₃ rm' => (body h₂ P₂ L h₃ (fun b o e => F₂.gr.ext b o e) F₃ rm').mono fun fl h' ⟨P', lf, r⟩ => ⟨P', mE, lf, r, lf.2.2.2⟩) fun v h₃ P₃ m' t₃ ht₃ lf ⟨r, rk⟩ => ?_
  have F₃ := (F₂.left lf).reIs (hE.trans lf.1.symm) iE rk
  exact f_store F₃ hky r ht₃ fun h₄ t₄ ht₄ F₄ => qq _ h₄ t₄ ht₄ (q h₄ P₃ (fun b o e => lf.2.2.1.ext b o (g.ext b o e)) F₄)
end
end IK
end

/-! part B33 -/
section
open PySem PySem.W PyProof.Rows
set_option Elab.async false
set_option linter.unusedVariables false
set_option maxRecDepth 100000
namespace IK
theorem meets_object_new : Meets (Builtin.«object.__new__» ⟨[.type "object"], []⟩) (fun _ R s => R (.ok (.ret (.ref s.heap.objs.size))) { s with heap := s.heap.push { cls := .type "object" } }) := by
  refine Meets.of_wp fun prog w A R s hs => ?_
  have h1 : isType (.type "object") = pure true := by kernel_rfl
  have h2 : Bind.madeHere "object.__new__" (.type "object") = pure () := by kernel_rfl
  unfold Builtin.«object.__new__»
  refine wpAny_bind (wpAny_of_eq h1 ?_)
  refine wpAny_ite_false rfl ?_
  refine wpAny_ite_false (by kernel_rfl) ?_
  refine wpAny_bind (wpAny_of_eq h2 ?_)
  refine wpAny_ite_false rfl ?_
  refine wpAny_bind (wpAny_of_eq (a := (none : Option Addr)) (by kernel_rfl) ?_)
  refine wpAny_bind (wpAny_newObj_type ?_ (by size_fits))
  refine wpAny_ite_false (by kernel_rfl) ?_
  exact wpAny_pure ⟨_, rfl, hs⟩
theorem lookup_object_new : typeLookup (.type "object") "__new__" = pure (some (.builtin "object.__new__")) := by rw [typeLookup_type, builtinLookup_eq_fast]; kernel_rfl
theorem called_object : TypeCalled "object" "object.__new__" "object.__init__" :=
  ⟨by decide +kernel, by decide +kernel, ⟨_, _, PySem.F.mro_object⟩, madeBy_type PySem.F.mro_object lookup_object_new (by decide +kernel), by decide +kernel, by rw [isSubtype_type]; kernel_rfl, PySem.F.slot_object_init⟩
theorem typeCall_object_0 : checkTypeCall "object" ⟨[], []⟩ = pure () := by kernel_rfl
theorem newCall_object_0 : checkBuiltinCall "object.__new__" ⟨[.type "object"], []⟩ = pure () := by kernel_rfl
theorem entry_object_new : entryFor table "object.__new__" = some Builtin.«object.__new__» := entryFor_of_fast (by kernel_rfl)
theorem args_object_init (o : Value) : argsOk "object.__init__" ⟨[o], []⟩ := by unfold argsOk; kernel_rfl
section
variable {w : World} {s0 : Shared} {A : Around} {h : Heap} {P : Pm}
theorem go_object : Go w s0 A h P (call (.type "object") []) (fun v h' P' => ∃ a, v = .ref a ∧ P' a = some { cls := .type "object" }) := by
  refine Go.mk fun h₁ P₁ k hk g Q E q => ?_
  refine callType_meets (Q₁ := fun v s' => v = .ref h₁.objs.size ∧ s' = stt s0 (h₁.push { cls := .type "object" }) k) called_object typeCall_object_0 newCall_object_0 entry_object_new PySem.F.entry_object_init meets_object_new ⟨rfl, rfl⟩ fun obj s₁ ⟨e1, e2⟩ => ?_
  subst e1 e2
  have hT : (stt s0 (h₁.push { cls := .type "object" }) k).TypeIs (.ref h₁.objs.size) "object" := ⟨_, Heap.get?_push_size _ rfl, rfl⟩
  refine ⟨hT, args_object_init _, fun A R s => R (.ok (.ret .none)) s, ?_, rfl, ?_⟩
  · exact Meets.of_wp fun prog w A R s hs => wpAny_pure ⟨_, rfl, hs⟩
  · exact q _ _ (P₁.put h₁.objs.size { cls := .type "object" }) k (fun _ => .pushFrz g.snd _ rfl) fun _ => ⟨_, rfl, Pm.put_self ..⟩
end
end IK
end

/-! part B34 -/
section
open PySem PySem.W PyProof.Rows
set_option Elab.async false
set_option linter.unusedVariables false
set_option maxRecDepth 100000
namespace IK
section
variable {prog : Program} {w : World} {A : Around} {E : Value → Shared → Prop} {s : Shared}
theorem setItem_neg {l : Addr} {items : Array Value} {m : Nat} {k : Int} {t : Tok} {v : Value} {Q : Unit → Shared → Prop} (e : IsL s.heap l items m)
    (h0 : k < 0) (h1 : -(items.size : Int) ≤ k) (hfit : -(2 ^ 63) ≤ k)
    (hQ : Q () { s with heap := s.heap.update l (Obj.mapSeq (·.setIfInBounds (k + items.size).toNat v)) }) : wpAny (model prog w) A (setItem (.ref l) (.int k t) v) Q E s := by
  have hl := IsL.isList e
  have ho : s.heap.get? l = some { cls := .type "list", dict := none, data := .seq items m, slots := #[] } := e
  unfold setItem
  try with_reducible refine wpAny_holding ?_
  first | refine wpAny_bind (wpAny_pure ?_) | skip
  refine wpAny_bind (wpAny_sequenceKey hl.typeIs (by decide) ?_)
  refine wpAny_bind (wpAny_callSpecial?_slot (name := Str.ofString "__setitem__") hl.typeIs slot_list_setitem
    (wpAny_call_entry slot_list_setitem hl.typeIs entry_list_setitem ?_ (args_list_setitem _ _ _)))
  show wpAny _ _ (Builtin.List.listSubscript? (.int k t) >>= _) _ _ s
  refine wpAny_bind (wpAny_listSubscript_int (fitsIndex_neg h0 hfit) ?_)
  clear hfit
  have hidx := seqIndex_neg h0 h1
  have hj : (k + items.size).toNat < items.size := by omega
  have hx : items[(k + items.size).toNat]? = some items[(k + items.size).toNat] := Array.getElem?_eq_getElem hj
  revert hidx hx hQ
  generalize (k + items.size).toNat = jj at hj ⊢
  intro hQ hidx hx
  obtain ⟨j, rfl⟩ : ∃ j : Nat, k = Int.negSucc j := by
    cases k with
    | ofNat n => exact absurd h0 (Int.not_lt.mpr (Int.natCast_nonneg n))
    | negSucc n => exact ⟨n, rfl⟩
  show wpAny _ _ ((Builtin.List.listItems (.ref l) >>= fun xs => pure ((seqIndex? (Int.negSucc j) xs.size).bind fun i => xs[i]?.map (i, ·))) >>= _) _ _ s
  refine wpAny_bind (wpAny_bind ?_)
  show wpAny _ _ (seqItems? (.ref l) >>= _) _ _ s
  refine wpAny_bind (wpAny_seqItems ho rfl (wpAny_pure (wpAny_pure ?_)))
  rw [hidx]
  simp only [Option.bind_some, hx, Option.map_some]
  show wpAny _ _ (setSeqItemAt l jj v >>= _) _ _ s
  refine wpAny_bind (wpAny_setSeqItemAt ho rfl ?_)
  first
    | exact wpAny_bind (wpAny_pure (wpAny_pure ⟨.none, rfl, wpAny_pure hQ⟩))
    | exact wpAny_pure ⟨.none, rfl, wpAny_pure hQ⟩
end
theorem RepL.set {P : Pm} : ∀ {ds : List D} {vs : List Value} (i : Nat) {d v}, RepL P ds vs → Rep P d v → RepL P (ds.set i d) (vs.set i v)
  | [], _, _, _, _, h, _ => by cases h; exact RepL.nil
  | _ :: _, _, 0, _, _, ⟨v, r, e, a, b⟩, x => by subst e; exact .cons x b
  | _ :: _, _, i + 1, _, _, ⟨v, r, e, a, b⟩, x => by subst e; exact .cons a (RepL.set i b x)
section
variable {w : World} {s0 : Shared} {A : Around} {S : Sta} {env : Env} {ow : List Str} {h₀ h h' : Heap} {P₀ P P' : Pm} {n : List (Addr × Mo)} {ρ : List (Str × D)} {d : D} {K : Flow → Heap → Prop} {a : Addr} {ds : List D}
/-- x[-1] = e, where e looks at the list -/
theorem x_setLast {x : Str} {np spos pos ip jp : Pos} {k1 : Nat} {e : Expr} (F : Frm S env ow h₀ P₀ ((a, .lst ds) :: n) ρ h P) (hx : ρ.lookup x = some (.ref a)) (hne : ds ≠ []) (hf : d.flat = true)
    (he : ∀ Pq, In S env ((x, .lst ds) :: ρ) h Pq → PLe P Pq → Ev w s0 A env h Pq e d)
    (k : ∀ h' P', PLe P P' → Frm S env ow h₀ P₀ ((a, .lst (ds.set (ds.length - 1) d)) :: n) ρ h' P' → K .next h') (hc : plainName x := by decide)
    (hs : swapsWith e (some (.Subscript (.Name x np) (.UnaryOp .USub (.Constant (.int 1) k1 ip) jp) spos)) pos.line env = pure false := by rfl) :
    X1 w s0 A env (.Assign [.Subscript (.Name x np) (.UnaryOp .USub (.Constant (.int 1) k1 ip) jp) spos] e pos) h K := by
  intro t ht Q E q
  refine wpAny_Assign_Subscript ?_ hs
  obtain ⟨Pq, I, hP, back⟩ := F.peek hx
  refine he Pq I hP h Pq t ht (.refl I.snd) _ E fun v h₁ P₁ t₁ ht₁ g₁ r₁ => ?_
  obtain ⟨P₂, F₂, p₂, _⟩ := back _ _ g₁
  have r₂ : Rep P₂ d v := Rep.flat hf r₁
  refine ev_name F₂.inn hx hc h₁ P₂ t₁ ht₁ F₂.refl' _ E fun v₂ h₂ P₃ t₂ ht₂ g₂ rr => ?_
  cases rr
  refine ev_neg (ev_int (h := h₂) (P := P₃)) h₂ P₃ t₂ ht₂ (.refl g₂.snd) _ E fun v₃ h₃ P₄ t₃ ht₃ g₃ r₃ => ?_
  obtain ⟨u, rfl⟩ := r₃
  have F₄ := F₂.grow (g₂.trans g₃)
  have r₄ : Rep P₄ d v := r₂.mono (g₂.trans g₃).ext
  obtain ⟨⟨o, eo, us, ⟨m, rfl⟩, rl⟩, l, qq, aL, ac⟩ := F₄.led _ (.head _)
  have hlen := rl.length
  have hpos : 0 < ds.length := List.length_pos_iff.mpr hne
  refine setItem_neg (s := stt s0 h₃ t₃) (items := us.toArray) (m := m) eo (by decide) (by rw [List.size_toArray, hlen]; omega) (by decide) ?_
  have e2 : (-1 + (us.toArray.size : Int)).toNat = ds.length - 1 := by rw [List.size_toArray, hlen]; omega
  refine q .next _ t₃ ht₃ (k _ P₄ (fun b o e => (g₂.trans g₃).ext b o (p₂ b o e)) (F₄.change id (Heap.SameBut.update ..) (IsL.update eo (·.setIfInBounds (-1 + (us.toArray.size : Int)).toNat v)) ⟨us.set (ds.length - 1) v, ⟨_, by rw [e2, List.setIfInBounds_toArray]⟩, rl.set _ r₄⟩))
/-- x.extend(e) -/
theorem x_extend {x : Str} {np apos pos spos : Pos} {e : Expr} {es : List D} (F : Frm S env ow h₀ P₀ ((a, .lst ds) :: n) ρ h P) (hx : ρ.lookup x = some (.ref a)) (he : Ev w s0 A env h P e (.lst es)) (hz : ds.length + es.length ≤ 100000)
    (k : ∀ h' P', PLe P P' → Frm S env ow h₀ P₀ ((a, .lst (ds ++ es)) :: n) ρ h' P' → K .next h') (hd : plainName x := by decide) (hp : plainArgs [e] = true := by rfl)
    (hline : (apos.endLine == pos.line) = true := by rfl) (hi : interactive env = false := by rfl) (hs : swapsWith (.Call (.Attribute (.Name x np) "extend" apos) [e] [] pos) none spos.line env = pure false := by rfl) :
    X1 w s0 A env (.Expr (.Call (.Attribute (.Name x np) "extend" apos) [e] [] pos) spos) h K :=
  x_meth F hx hd PySem.F.slot_list_extend PySem.F.type_list_extend (evl_cons' hp he evl_nil) hp (fun h' P' vs t Q E ht hP r F' q => by
    obtain ⟨v, rfl, rv⟩ := r.one
    obtain ⟨b, o, vs2, rfl, hb, ⟨m2, rfl⟩, rl2⟩ := rv
    obtain ⟨⟨o1, e1, us, ⟨m, rfl⟩, rl⟩, l, qq, aL, ac⟩ := F'.led _ (.head _)
    have hlen := rl.length
    have hlen2 := rl2.length
    have hz1 : us.toArray.size + vs2.toArray.size ≤ sizeLine := by rw [List.size_toArray, List.size_toArray, hlen, hlen2, bigLine]; omega
    refine call_meets PySem.F.slot_list_extend ⟨_, e1, rfl⟩ PySem.F.entry_list_extend (PySem.F.args_list_extend_2 _ _) (AutoSeq1.list_extend_list_list_0 a us.toArray m b vs2.toArray m2 (extend_door hz1) (by omega) (by omega)) ⟨e1, F'.gr.snd _ _ hb, ?_⟩
    refine q _ _ t (fun _ e => nomatch e) ht (F'.change id (Heap.SameBut.update ..) (IsL.update e1 (· ++ vs2.toArray)) ⟨us ++ vs2, ⟨_, by rw [List.append_toArray]⟩, rl.append rl2⟩)) k (base_ok rfl) (few_ok hp (by simp)) hline hi hs
end
end IK
end

/-! part C3 -/
section
open PySem PySem.W PyProof.Rows
set_option Elab.async false
set_option linter.unusedVariables false
namespace IK
variable {w : World} {s0 : Shared} {S : Sta}
set_option maxRecDepth 100000

noncomputable abbrev It1 := Option (Bool × List Nat)
noncomputable def itD : It1 → D
  | none => .none
  | some (b, s) => .tup [.bool b, .str s]
noncomputable def tk (name : List Nat) (ps : List Int) : It1 → List Int
  | none => ((List.range (name.length + 1)).map fun n : Nat => (n : Int)).filter fun p => !ps.isEmpty && decide (p ≥ ps.headD 0)
  | some (b, s) => (ps.filter fun p : Int => decide (p < name.length) && (decide (name.getD p.toNat 0 ∈ s) != b)).map (· + 1)
noncomputable def takes (row : List It1) (name : List Nat) : Bool := decide ((name.length : Int) ∈ row.foldl (tk name) [0])

theorem tk_bound (name : List Nat) : ∀ (row : List It1) (ps : List Int), (∀ p ∈ ps, 0 ≤ p ∧ p ≤ name.length) → ps.length ≤ name.length + 1 → (∀ p ∈ row.foldl (tk name) ps, 0 ≤ p ∧ p ≤ name.length) ∧ (row.foldl (tk name) ps).length ≤ name.length + 1
  | [], ps, h, hl => ⟨h, hl⟩
  | o :: row, ps, h, hl => by
    refine tk_bound name row _ (fun p hp => ?_) ?_
    · cases o with
      | none =>
        have := (List.mem_filter.mp hp).1
        obtain ⟨n, hn, rfl⟩ := List.mem_map.mp this
        have := List.mem_range.mp hn
        omega
      | some q =>
        obtain ⟨b, s⟩ := q
        obtain ⟨p', hp', rfl⟩ := List.mem_map.mp hp
        obtain ⟨h1, h2⟩ := List.mem_filter.mp hp'
        have h3 := of_decide_eq_true (Bool.and_eq_true_iff.mp h2).1
        have := h p' h1
        omega
    · cases o with
      | none => exact Nat.le_trans (List.length_filter_le ..) (by simp)
      | some q =>
        obtain ⟨b, s⟩ := q
        show (List.map _ _).length ≤ _
        rw [List.length_map]
        exact Nat.le_trans (List.length_filter_le ..) hl

theorem ok_takes : DefOk (defAt 27) ["row", "name"] ["name", "places", "one"] := ⟨by decide, by decide, by decide, rfl, rfl, rfl⟩
theorem sp_takes (B : Bis S) {a : Addr} {cd : Value} (f : FnAt S "_law_takes" (defAt 27) a cd) {row : List It1} {name : List Nat} (hz : name.length ≤ 1000) (hr : row.length ≤ 1000) :
    FnSpec w s0 S 1 "_law_takes" [.lst (row.map itD), .str name] (RepR (.bool (takes row name))) := by
  refine ⟨_, a, cd, f, fun A rm h P vs base r => ?_⟩
  obtain ⟨v, u, rfl, _⟩ := RepL.two r
  refine go_call (k := 0) (ds := [.lst (row.map itD), .str name]) f ok_takes rm base r rfl (fun _ _ => rfl) fun h₁ P₁ L h₂ g F rm' => ?_
  have hb := bigLine
  have hh := rm'.hh
  let ps : Nat → List Int := fun i => (row.take i).foldl (tk name) [0]
  have hps : ∀ i, (∀ p ∈ ps i, 0 ≤ p ∧ p ≤ name.length) ∧ (ps i).length ≤ name.length + 1 := fun i => tk_bound name _ _ (by simp) (by simp)
  refine Xs.cons (asg (d := .lst ((ps 0).map .int)) F (ev_list (evl_cons' rfl ev_int evl_nil) (by show 1 ≤ sizeLine; decide)) (fun h₃ P₃ p₃ F₃ => ?_) (.inr ⟨rfl, by simp⟩))
  refine Xs.cons (x_for (row.map itD) (fun _ => []) (fun i => [("places", .lst ((ps i).map .int)), ("row", .lst (row.map itD)), ("name", .str name)]) (F₃.sub (.cons rfl (.cons rfl (.cons rfl .nil)))) (ibl_list hh (nm F₃.inn)) (.inr ⟨rfl, by simp⟩) (fun _ => rfl) (fun i d m h₄ P₄ hd hP F₄ => ?_) fun h₄ P₄ hP F₄ => ?_)
  · rw [List.getElem?_map] at hd
    obtain ⟨one, hone, rfl⟩ := Option.map_eq_some_iff.mp hd
    have hstep : ps (i + 1) = tk name (ps i) one := by
      show (row.take (i + 1)).foldl (tk name) [0] = _
      rw [List.take_add_one, hone, List.foldl_append]; rfl
    have hok : ∀ env : Env, True := fun _ => trivial
    have hne : ∀ (p : Int), 0 ≤ p → p < name.length → name[p.toNat]? = some (name.getD p.toNat 0) := fun p h0 h1 => by
      rw [List.getD_eq_getElem?_getD, List.getElem?_eq_getElem (by omega)]; rfl
    cases one with
    | none =>
      refine Xs.cons (x_if (b := true) F₄.refl' (tcmp (nm F₄.inn) ev_none (op_isNone (.inl rfl))) (fun _ h₅ P₅ g₅ => ?_) (fun e => nomatch e))
      have F₅ := F₄.grow g₅
      refine Xs.cons (asg (d := .lst ((tk name (ps i) none).map .int)) F₅ ?_ (fun h₆ P₆ p₆ F₆ => ?_) (.inr ⟨rfl, by simp⟩))
      · refine Ev.cast (ev_comp ((List.range (name.length + 1)).map fun n : Nat => (n : Int)) .int (fun p => !(ps i).isEmpty && decide (p ≥ (ps i).headD 0)) .int [] [("places", .lst ((ps i).map .int))] F₅ ⟨rfl, rfl, rfl, fun x hx => nomatch hx⟩ ⟨⟨rfl, .inl rfl, fun _ => .inl rfl, fun _ => rfl⟩, trivial⟩ ?_ (.inl rfl) rfl ?_ (fun p hp C hb Pb m h' P' F' => ?_) (fun p hp hb C hb Pb m h' P' F' => ?_)) rfl
        · refine (range1 B hh F₅.inn (bin (lenS B F₅.inn (nm F₅.inn) (by omega)) ev_int op_addI) (by omega) (by omega)).cast ?_
          exact rng_nat (name.length + 1)
        · simp; omega
        · refine tsts_one (tst_and (tcmp (nm F'.inn) ev_nil (op_neNilI rm')) fun hne' => tcmp (nm F'.inn) (sub (nm F'.inn) ev_int (op_itemL (d := .int ((ps i).headD 0)) ?_ (by decide) ?_)) op_geI)
          · rw [List.length_map]; have := (hps i).2; omega
          · rw [List.getElem?_map]
            cases hq : ps i with
            | nil => rw [hq] at hne'; cases hne'
            | cons => rfl
        · exact nm F'.inn
      · exact Xs.nil (Xs.nil ⟨P₆, PLe.trans g₅.ext p₆, F₆.sub (.cons (by rw [hstep]; rfl) (.cons rfl (.cons rfl .nil)))⟩)
    | some q =>
      obtain ⟨b, s⟩ := q
      refine Xs.cons (x_if (b := false) F₄.refl' (tcmp (nm F₄.inn) ev_none (op_isNone (.inr (.inr (.inr (.inr (.inl ⟨_, rfl⟩))))))) (fun e => nomatch e) (fun _ h₅ P₅ g₅ => ?_))
      have F₅ := F₄.grow g₅
      refine Xs.cons (asg (d := .lst ((tk name (ps i) (some (b, s))).map .int)) F₅ ?_ (fun h₆ P₆ p₆ F₆ => ?_) (.inr ⟨rfl, by simp⟩))
      · refine Ev.cast (ev_comp (ps i) .int (fun p => decide (p < name.length) && (decide (name.getD p.toNat 0 ∈ s) != b)) (fun p => .int (p + 1)) [] [("name", .str name), ("one", .tup [.bool b, .str s])] F₅ ⟨rfl, rfl, rfl, fun x hx => nomatch hx⟩ ⟨⟨rfl, .inl rfl, fun _ => .inl rfl, fun _ => rfl⟩, ⟨rfl, .inl rfl, fun _ => .inl rfl, fun _ => rfl⟩, trivial⟩ ?_ (.inl rfl) rfl ?_ (fun p hp C hb Pb m h' P' F' => ?_) (fun p hp hb C hb Pb m h' P' F' => ?_)) ?_
        · exact ibl_list hh (nm F₅.inn)
        · have := (hps i).2; omega
        · have hp0 := (hps i).1 p hp
          refine tsts_one (tst_and (tcmp (nm F'.inn) (lenS B F'.inn (nm F'.inn) (by omega)) op_ltI) fun hlt => tcmp (d₁ := .bool (decide (name.getD p.toNat 0 ∈ s))) (d₂ := .bool b) (cmp (sub (nm F'.inn) (nm F'.inn) (op_itemS' (by omega) hp0.1 (hne p hp0.1 (of_decide_eq_true hlt)))) (sub (nm F'.inn) ev_int (op_itemT (d := .str s) (j := 1) (by show 2 ≤ sizeLine; decide) (by rfl) (by decide) (by decide) rfl)) op_inS) (sub (nm F'.inn) ev_int (op_itemT (d := .bool b) (j := 0) (by show 2 ≤ sizeLine; decide) (by rfl) (by decide) (by decide) rfl)) op_neB)
        · exact bin (nm F'.inn) ev_int op_addI
        · show D.lst (List.map _ _) = D.lst (List.map _ (List.map _ _))
          rw [List.map_map]; rfl
      · exact Xs.nil (Xs.nil ⟨P₆, PLe.trans g₅.ext p₆, F₆.sub (.cons (by rw [hstep]; rfl) (.cons rfl (.cons rfl .nil)))⟩)
  · refine Xs.cons (x_ret F₄.refl' (R := RepR (.bool (takes row name))) (Ev.cast (cmp (lenS B F₄.inn (nm F₄.inn) (by omega)) (nm F₄.inn) op_inLi) ?_) fun v h' P' g' r => ⟨P', F₄.gr.trans g', r⟩)
    show D.bool _ = D.bool _
    congr 1
    unfold takes
    simp [ps]
end IK
end

/-! part C4 -/
section
open PySem PySem.W PyProof.Rows
set_option Elab.async false
set_option linter.unusedVariables false
namespace IK
variable {w : World} {s0 : Shared} {S : Sta}
set_option maxRecDepth 100000

theorem lineLe {n : Nat} (h : n ≤ 100000) : n ≤ sizeLine := by rw [bigLine]; omega

/-! _law_crooked -/
noncomputable def crookeds (p : List Nat) : List (List Nat) := [p, [46, 47] ++ p, p ++ [47, 47], rep 47 [47, 46, 47] p, [98, 47, 46, 46, 47] ++ p, p ++ [47, 97, 47, 46, 46]]
noncomputable def crooked (p : List Nat) (t : Nat) : List Nat := (crookeds p).getD (t % 6) []

theorem ok_crooked : DefOk (defAt 32) ["place", "turn"] [] := ⟨by decide, by decide, by decide, rfl, rfl, rfl⟩
theorem sp_crooked {a : Addr} {cd : Value} (f : FnAt S "_law_crooked" (defAt 32) a cd) {p : List Nat} {t : Nat} (hz : p.length ≤ 1000) :
    FnSpec w s0 S 1 "_law_crooked" [.str p, .int t] (RepR (.str (crooked p t))) := by
  refine ⟨_, a, cd, f, fun A rm h P vs base r => ?_⟩
  obtain ⟨v, u, rfl, _⟩ := RepL.two r
  refine go_call (k := 0) (ds := [.str p, .int t]) f ok_crooked rm base r rfl (fun _ _ => rfl) fun h₁ P₁ L h₂ g F rm' => ?_
  refine Xs.cons (x_ret F.refl' (R := RepR (.str (crooked p t))) ?_ fun v h' P' g' r => ⟨P', F.gr.trans g', r⟩)
  refine sub (d₁ := .lst ((crookeds p).map .str)) (d₂ := .int ((t : Int).fmod 6)) ?_ (bin (nm F.inn) ev_int (op_modI (by decide))) (op_itemL (by exact lineLe (by simp [crookeds])) ?_ ?_)
  · refine ev_list (evl_cons' rfl (nm F.inn) (evl_cons' rfl (bin (ss [46, 47]) (nm F.inn) (op_addS (lineLe ?_))) (evl_cons' rfl (bin (nm F.inn) (ss [47, 47]) (op_addS (lineLe ?_)))
      (evl_cons' rfl (mReplace 47 [47, 46, 47] (nm F.inn) (by omega)) (evl_cons' rfl (bin (ss [98, 47, 46, 46, 47]) (nm F.inn) (op_addS (lineLe ?_))) (evl_cons' rfl (bin (nm F.inn) (ss [47, 97, 47, 46, 46]) (op_addS (lineLe ?_))) evl_nil)))))) (lineLe (by simp [crookeds]))
    all_goals (simp only [List.length_cons, List.length_nil]; omega)
  · rw [Int.fmod_eq_emod_of_nonneg _ (by decide)]; omega
  · have e : ((t : Int).fmod 6).toNat = t % 6 := by rw [Int.fmod_eq_emod_of_nonneg _ (by decide)]; omega
    rw [e, List.getElem?_map]
    unfold crooked
    have : t % 6 < (crookeds p).length := by simp [crookeds]; omega
    rw [List.getElem?_eq_getElem this, List.getD_eq_getElem?_getD, List.getElem?_eq_getElem this]; rfl

/-! _law_read -/
noncomputable def alnum (l : List Nat) : Bool := decide (l.length > 0) && l.all Unicode.isAlnum
noncomputable def rd (p : List Nat) : Bool × List Nat :=
  if p = [46] then (true, []) else
  if p.headD 0 = 92 then (false, if alnum (p.drop 1) then [] else p.drop 1) else
  if p.take 2 = [91, 94] then (true, psl p (some 2) (some (-1))) else
  if p.headD 0 = 91 then (false, rep 92 [] (psl p (some 1) (some (-1)))) else
  (false, if p.headD 0 ∈ [36, 40, 41, 42, 43, 63, 94, 123, 124, 125] then [] else p)
noncomputable def rdD (q : Bool × List Nat) : D := .tup [.bool q.1, .str q.2]

theorem ok_read : DefOk (defAt 28) ["part"] [] := ⟨by decide, by decide, by decide, rfl, rfl, rfl⟩
theorem sp_read {a : Addr} {cd : Value} (f : FnAt S "_law_read" (defAt 28) a cd) {c : Nat} {r : List Nat} (hz : r.length ≤ 1000) (hr : c ≠ 92 → c ≠ 91 → r = []) :
    FnSpec w s0 S 1 "_law_read" [.str (c :: r)] (RepR (rdD (rd (c :: r)))) := by
  refine ⟨_, a, cd, f, fun A rm h P vs base rr => ?_⟩
  obtain ⟨v, rfl, _⟩ := RepL.one rr
  refine go_call (k := 0) (ds := [.str (c :: r)]) f ok_read rm base rr rfl (fun _ _ => rfl) fun h₁ P₁ L h₂ g F rm' => ?_
  have hz1 : (c :: r).length ≤ sizeLine := lineLe (by simp; omega)
  have hd0 : ∀ {A : Around} {h : Heap} {P : Pm}, Op2 w s0 A getItem (.str (c :: r)) (.int 0) (.str [c]) := fun {_ _ _} => op_itemS' hz1 (by decide) rfl
  refine Xs.cons (x_if (b := (c :: r) == [46]) F.refl' (tcmp (nm F.inn) (ss [46]) op_eqS) (fun e h₃ P₃ g₃ => ?_) (fun e h₃ P₃ g₃ => Xs.nil ?_))
  · have F₃ := F.grow g₃
    have e' : (c :: r) = [46] := by simpa using e
    refine Xs.cons (x_ret F₃.refl' (R := RepR (rdD (rd (c :: r)))) (Ev.cast (ev_tuple (evl_cons' rfl ev_bool (evl_cons' rfl (ss []) evl_nil)) (by show 2 ≤ sizeLine; decide)) ?_) fun v h' P' g' r => ⟨P', F₃.gr.trans g', r⟩)
    unfold rd; rw [if_pos e']; rfl
  have F₃ := F.grow g₃
  have n1 : ¬ (c :: r) = [46] := by simpa using e
  refine Xs.cons (x_if (b := [c] == [92]) F₃.refl' (tcmp (sub (nm F₃.inn) ev_int (hd0 (h := h₃) (P := P₃))) (ss [92]) op_eqS) (fun e h₄ P₄ g₄ => ?_) (fun e h₄ P₄ g₄ => Xs.nil ?_))
  · have F₄ := F₃.grow g₄
    have e' : c = 92 := by simpa using e
    refine Xs.cons (x_ret F₄.refl' (R := RepR (rdD (rd (c :: r)))) (Ev.cast (ev_tuple (evl_cons' rfl ev_bool (evl_cons' rfl (d := .str (if alnum r then [] else r)) (ev_ifexp (b := alnum r) ?_ (fun q => ?_) (fun q => ?_)) evl_nil)) (by show 2 ≤ sizeLine; decide)) ?_) fun v h' P' g' r => ⟨P', F₄.gr.trans g', r⟩)
    · refine Tst.cast (tpl (meth0 (cutS_from (nm F₄.inn) ev_int hz1) mIsalnum c_isalnum) tru_bool) ?_
      have h1 : psl (c :: r) (some 1) none = r := psl_from (c :: r) 1
      rw [h1]; rfl
    · rw [if_pos q]; exact ss []
    · rw [if_neg (by rw [q]; exact Bool.false_ne_true)]
      refine Ev.cast (cutS_from (nm F₄.inn) ev_int hz1) ?_
      have h1 : psl (c :: r) (some 1) none = r := psl_from (c :: r) 1
      rw [h1]
    · unfold rd; rw [if_neg n1, if_pos (show (c :: r).headD 0 = 92 from e')]; rfl
  have F₄ := F₃.grow g₄
  have n2 : ¬ c = 92 := by simpa using e
  refine Xs.cons (x_if (b := (c :: r).take 2 == [91, 94]) F₄.refl' (Tst.cast (tcmp (cutS_to (nm F₄.inn) ev_int hz1) (ss [91, 94]) op_eqS) (by rw [show psl (c :: r) none (some 2) = (c :: r).take 2 from psl_upto (c :: r) 2])) (fun e h₅ P₅ g₅ => ?_) (fun e h₅ P₅ g₅ => Xs.nil ?_))
  · have F₅ := F₄.grow g₅
    have e' : (c :: r).take 2 = [91, 94] := by simpa using e
    refine Xs.cons (x_ret F₅.refl' (R := RepR (rdD (rd (c :: r)))) (Ev.cast (ev_tuple (evl_cons' rfl ev_bool (evl_cons' rfl (cutS_mid (nm F₅.inn) ev_int (ev_neg ev_int) hz1) evl_nil)) (by show 2 ≤ sizeLine; decide)) ?_) fun v h' P' g' r => ⟨P', F₅.gr.trans g', r⟩)
    unfold rd; rw [if_neg n1, if_neg (show ¬ (c :: r).headD 0 = 92 from n2), if_pos e']; rfl
  have F₅ := F₄.grow g₅
  have n3 : ¬ (c :: r).take 2 = [91, 94] := by simpa using e
  refine Xs.cons (x_if (b := [c] == [91]) F₅.refl' (tcmp (sub (nm F₅.inn) ev_int (hd0 (h := h₃) (P := P₃))) (ss [91]) op_eqS) (fun e h₆ P₆ g₆ => ?_) (fun e h₆ P₆ g₆ => Xs.nil ?_))
  · have F₆ := F₅.grow g₆
    have e' : c = 91 := by simpa using e
    refine Xs.cons (x_ret F₆.refl' (R := RepR (rdD (rd (c :: r)))) (Ev.cast (ev_tuple (evl_cons' rfl ev_bool (evl_cons' rfl (mReplace 92 [] (cutS_mid (nm F₆.inn) ev_int (ev_neg ev_int) hz1) ?_) evl_nil)) (by show 2 ≤ sizeLine; decide)) ?_) fun v h' P' g' r => ⟨P', F₆.gr.trans g', r⟩)
    · have := psl_le (c :: r) (some 1) (some (-1))
      simp only [List.length_cons] at this; omega
    · unfold rd; rw [if_neg n1, if_neg (show ¬ (c :: r).headD 0 = 92 from n2), if_neg n3, if_pos (show (c :: r).headD 0 = 91 from e')]; rfl
  have F₆ := F₅.grow g₆
  have n4 : ¬ c = 91 := by simpa using e
  cases hr n2 n4
  refine Xs.cons (x_ret F₆.refl' (R := RepR (rdD (rd [c]))) (Ev.cast (ev_tuple (evl_cons' rfl ev_bool (evl_cons' rfl (d := .str (if c ∈ [36, 40, 41, 42, 43, 63, 94, 123, 124, 125] then [] else [c])) (ev_ifexp (b := decide (c ∈ [36, 40, 41, 42, 43, 63, 94, 123, 124, 125])) (tcmp (nm F₆.inn) (ss [36, 40, 41, 42, 43, 63, 94, 123, 124, 125]) op_inS) (fun q => ?_) (fun q => ?_)) evl_nil)) (by show 2 ≤ sizeLine; decide)) ?_) fun v h' P' g' r => ⟨P', F₆.gr.trans g', r⟩)
  · rw [if_pos (of_decide_eq_true q)]; exact ss []
  · rw [if_neg (of_decide_eq_false q)]; exact nm F₆.inn
  · unfold rd; rw [if_neg n1, if_neg (show ¬ ([c] : List Nat).headD 0 = 92 from n2), if_neg n3, if_neg (show ¬ ([c] : List Nat).headD 0 = 91 from n4)]; rfl
end IK
end

/-! part C5 -/
section
open PySem PySem.W PyProof.Rows
set_option Elab.async false
set_option linter.unusedVariables false
namespace IK
variable {w : World} {s0 : Shared} {S : Sta}
set_option maxRecDepth 100000

/-- the first place of c -/
noncomputable def idx (c : Nat) (l : List Nat) : Nat := l.findIdx (· == c)
theorem find3_T (l : List Nat) (c k : Nat) (hk : k ≤ l.length) : Txt.find3 (T l) (T [c]) k = if idx c (l.drop k) < (l.drop k).length then (k : Int) + idx c (l.drop k) else -1 := by
  have hlen : (T l).length = l.length := T_len l
  have hfi : fromIndex (T l).length k = k := by
    rw [hlen]; unfold fromIndex; omega
  have hget : ∀ v (h : v < l.length), (T l).cps.getD v 0 = l[v] := fun v h => by
    show (l.toArray).getD v 0 = _
    simp [Array.getD, h]
  rcases StrLaws.find3_spec (T l) c k with ⟨h1, h2⟩ | ⟨j, h1, h2, h3, h4, h5⟩
  · rw [show (⟨#[c]⟩ : Str) = T [c] from rfl] at h1
    rw [h1, if_neg]
    intro hlt
    unfold idx at hlt
    have := List.findIdx_getElem (w := hlt)
    rw [List.getElem_drop] at this
    have hlt' : k + List.findIdx (fun x => x == c) (l.drop k) < l.length := by rw [List.length_drop] at hlt; omega
    refine h2 (k + List.findIdx (fun x => x == c) (l.drop k)) (by rw [hfi]; omega) (by rw [hlen]; exact hlt') ?_
    rw [hget _ hlt']
    exact eq_of_beq this
  · rw [show (⟨#[c]⟩ : Str) = T [c] from rfl] at h1
    rw [hfi] at h2 h5
    rw [hlen] at h3
    have e : idx c (l.drop k) = j - k := by
      unfold idx
      rw [List.findIdx_eq (by rw [List.length_drop]; omega)]
      refine ⟨?_, fun i hi => ?_⟩
      · rw [List.getElem_drop]
        have := hget j h3
        rw [h4] at this
        have e2 : k + (j - k) = j := by omega
        simp only [e2]
        rw [← this]; simp
      · rw [List.getElem_drop]
        have := h5 (k + i) (by omega) (by omega)
        rw [hget _ (by omega)] at this
        simpa using this
    rw [h1, e, if_pos (by rw [List.length_drop]; omega)]
    omega

/-- how long the item at the front is -/
noncomputable def sz : List Nat → Nat
  | 92 :: _ => 2
  | 91 :: r => let i := idx 93 (91 :: r); if i < (91 :: r).length then i + 1 else 1
  | _ => 1
noncomputable def itm : Nat → List Nat → List (Bool × List Nat)
  | 0, _ => []
  | n + 1, [] => []
  | n + 1, c :: r => rd ((c :: r).take (sz (c :: r))) :: itm n ((c :: r).drop (sz (c :: r)))
theorem sz_pos (l : List Nat) : 1 ≤ sz l := by
  unfold sz
  split
  · omega
  · dsimp only; split <;> omega
  · omega
theorem itm_fuel : ∀ (m n : Nat) (l : List Nat), l.length ≤ m → l.length ≤ n → itm m l = itm n l
  | 0, n, [], _, _ => by cases n <;> rfl
  | 0, n, _ :: _, h, _ => by simp at h
  | m + 1, 0, [], _, _ => rfl
  | m + 1, 0, _ :: _, _, h => by simp at h
  | m + 1, n + 1, [], _, _ => rfl
  | m + 1, n + 1, c :: r, h, h' => by
    have hp := sz_pos (c :: r)
    unfold itm
    rw [itm_fuel m n _ (by rw [List.length_drop]; simp only [List.length_cons] at h ⊢; omega) (by rw [List.length_drop]; simp only [List.length_cons] at h' ⊢; omega)]
noncomputable def items (l : List Nat) : List (Bool × List Nat) := itm l.length l
theorem items_nil : items [] = [] := rfl
theorem items_cons (c : Nat) (r : List Nat) : items (c :: r) = rd ((c :: r).take (sz (c :: r))) :: items ((c :: r).drop (sz (c :: r))) := by
  have hp := sz_pos (c :: r)
  show itm (r.length + 1) (c :: r) = _
  unfold itm items
  rw [itm_fuel _ _ _ (by rw [List.length_drop]; simp only [List.length_cons]; omega) (Nat.le_refl _)]
theorem items_len : ∀ (n : Nat) (l : List Nat), l.length ≤ n → (items l).length ≤ l.length
  | _, [], _ => Nat.le_refl _
  | 0, _ :: _, h => by simp at h
  | n + 1, c :: r, h => by
    have hp := sz_pos (c :: r)
    have hd : ((c :: r).drop (sz (c :: r))).length ≤ n := by rw [List.length_drop]; simp only [List.length_cons] at h ⊢; omega
    rw [items_cons, List.length_cons]
    have := items_len n _ hd
    rw [List.length_drop] at this
    simp only [List.length_cons] at this ⊢; omega

theorem psl_mid' {α : Type} (l : List α) (a b : Nat) (ha : a ≤ l.length) : psl l (some (a : Int)) (some (b : Int)) = (l.drop a).take (b - a) := by
  unfold psl
  simp only [Option.elim, clipAt_nat]
  rw [Nat.min_eq_left ha]
  rcases Nat.le_total b l.length with h | h
  · rw [Nat.min_eq_left h]
  · rw [Nat.min_eq_right h, List.take_of_length_le (by rw [List.length_drop]; exact Nat.le_refl _), List.take_of_length_le (by rw [List.length_drop]; omega)]

theorem ok_items : DefOk (defAt 29) ["text"] [] := ⟨by decide, by decide, by decide, rfl, rfl, rfl⟩
theorem sp_items (B : Bis S) {a b : Addr} {cd ce : Value} (f : FnAt S "_law_items" (defAt 29) a cd) (f2 : FnAt S "_law_read" (defAt 28) b ce) {l : List Nat} (hz : l.length ≤ 1000) :
    FnSpec w s0 S 2 "_law_items" [.str l] (RepR (.lst ((items l).map rdD))) := by
  refine ⟨_, a, cd, f, fun A rm h P vs base rr => ?_⟩
  obtain ⟨v, rfl, _⟩ := RepL.one rr
  refine go_call (k := 1) (ds := [.str l]) f ok_items rm base rr rfl (fun _ _ => rfl) fun h₁ P₁ L h₂ g F rm' => ?_
  have hh := rm'.hh
  have hz1 : l.length ≤ sizeLine := lineLe (by omega)
  refine Xs.cons (x_swap2N (dy := .int 0) (ds := []) hh F rfl rfl evl_nil (Nat.zero_le _) ev_int rfl (fun a' h₃ P₃ p₃ F₃ => ?_) rfl rfl)
  refine Xs.cons (x_while (fun m h => ∃ (P : Pm) (k : Nat) (its : List (Bool × List Nat)), m = l.length - k ∧ its ++ items (l.drop k) = items l ∧ Frm S (fenv "_law_items" (defAt 29) L a cd) [] h₁ P₁ [(a', .lst (its.map rdD))] [("items", .ref a'), ("k", .int k), ("text", .str l)] h P) l.length
    ⟨P₃, 0, [], by simp, by simp, F₃.sub (.cons rfl (.cons rfl (.cons rfl .nil)))⟩ fun m h xx => ?_)
  obtain ⟨P, k, its, em, ei, F⟩ := xx
  refine ⟨P, decide ((k : Int) < l.length), F.refl', tcmp (nm F.inn) (lenS B F.inn (nm F.inn) hz1) op_ltI, fun e h₄ P₄ g₄ => ?_, fun e h₄ P₄ g₄ => ?_⟩
  · have hk : k < l.length := by have := of_decide_eq_true e; omega
    have F₄ := F.grow g₄
    obtain ⟨c, r, hcr⟩ : ∃ c r, l.drop k = c :: r := by
      cases q : l.drop k with
      | nil => have := congrArg List.length q; rw [List.length_drop] at this; simp at this; omega
      | cons c r => exact ⟨c, r, rfl⟩
    have hgk : l[k]? = some c := by
      have := congrArg (·[0]?) hcr
      simpa using this
    have hcl : (c :: r).length = l.length - k := by rw [← hcr, List.length_drop]
    refine Xs.cons (asg F₄ ev_int fun h₅ P₅ p₅ F₅ => ?_)
    -- the size
    have getk : ∀ {A : Around}, Op2 w s0 A getItem (.str l) (.int k) (.str [c]) := fun {_} => op_itemS' hz1 (by omega) (by simpa using hgk)
    refine Xs.cons (X1.mono (K := fun f h' => f = .next ∧ ∃ P', PLe P₅ P' ∧ Frm S (fenv "_law_items" (defAt 29) L a cd) [] h₁ P₁ [(a', .lst (its.map rdD))] [("size", .int (sz (c :: r))), ("items", .ref a'), ("k", .int k), ("text", .str l)] h' P') ?_ fun f h₆ xx => ?_)
    · refine x_if (b := [c] == [92]) F₅.refl' (tcmp (sub (nm F₅.inn) (nm F₅.inn) getk) (ss [92]) op_eqS) (fun e h₆ P₆ g₆ => ?_) (fun e h₆ P₆ g₆ => ?_)
      · have F₆ := F₅.grow g₆
        have e' : c = 92 := by simpa using e
        refine Xs.cons (asg F₆ ev_int fun h₇ P₇ p₇ F₇ => Xs.nil ⟨rfl, P₇, PLe.trans g₆.ext p₇, F₇.sub (.cons (by subst e'; rfl) (.cons rfl (.cons rfl (.cons rfl .nil))))⟩)
      · have F₆ := F₅.grow g₆
        have n92 : ¬ c = 92 := by simpa using e
        refine Xs.cons (x_if (b := [c] == [91]) F₆.refl' (tcmp (sub (nm F₆.inn) (nm F₆.inn) getk) (ss [91]) op_eqS) (fun e h₇ P₇ g₇ => ?_) (fun e h₇ P₇ g₇ => ?_))
        · have F₇ := F₆.grow g₇
          have e' : c = 91 := by simpa using e
          refine Xs.cons (asg (d := .int (sz (c :: r))) F₇ ?_ fun h₈ P₈ p₈ F₈ => Xs.nil (Xs.nil ⟨rfl, P₈, PLe.trans g₆.ext (PLe.trans g₇.ext p₈), F₈.sub (.cons rfl (.cons rfl (.cons rfl (.cons rfl .nil))))⟩))
          refine Ev.cast (bcall2 B F₇.inn (by simp) ev_int (bin (bin (meth2 (nm F₇.inn) mFind (ss [93]) (nm F₇.inn) c_find3) (nm F₇.inn) op_subI) ev_int op_addI) (c_max hh)) ?_
          subst e'
          rw [find3_T l 93 k (by omega), hcr]
          congr 1
          unfold sz
          dsimp only
          by_cases hc : idx 93 (91 :: r) < (91 :: r).length
          · simp only [if_pos hc]
            omega
          · simp only [if_neg hc]
            omega
        · have F₇ := F₆.grow g₇
          have n91 : ¬ c = 91 := by simpa using e
          refine Xs.nil (Xs.nil ⟨rfl, P₇, PLe.trans g₆.ext g₇.ext, F₇.sub (.cons ?_ (.cons rfl (.cons rfl (.cons rfl .nil))))⟩)
          have : sz (c :: r) = 1 := by
            unfold sz
            split
            · rename_i q; exact absurd (List.cons.inj q).1 n92
            · rename_i q; exact absurd (List.cons.inj q).1 n91
            · rfl
          rw [this]; rfl
    · obtain ⟨e, P₆, p₆, F₆⟩ := xx
      subst e
      have hp := sz_pos (c :: r)
      have hsl : psl l (some (k : Int)) (some ((k : Int) + (sz (c :: r) : Int))) = (c :: r).take (sz (c :: r)) := by
        rw [show ((k : Int) + (sz (c :: r) : Int)) = ((k + sz (c :: r) : Nat) : Int) by omega, psl_mid' l k _ (by omega), hcr]
        congr 1; omega
      obtain ⟨r', hr'⟩ : ∃ r', (c :: r).take (sz (c :: r)) = c :: r' := by
        obtain ⟨m, hm⟩ : ∃ m, sz (c :: r) = m + 1 := ⟨sz (c :: r) - 1, by omega⟩
        rw [hm]; exact ⟨_, rfl⟩
      have hr'l : r'.length ≤ 1000 := by
        have := congrArg List.length hr'
        rw [List.length_take] at this
        simp only [List.length_cons] at this hcl; omega
      have hr'e : c ≠ 92 → c ≠ 91 → r' = [] := fun n92 n91 => by
        have : sz (c :: r) = 1 := by
          unfold sz
          split
          · rename_i q; exact absurd (List.cons.inj q).1 n92
          · rename_i q; exact absurd (List.cons.inj q).1 n91
          · rfl
        rw [this] at hr'
        cases hr'; rfl
      have hil : its.length ≤ sizeLine := by
        have := items_len l.length l (Nat.le_refl _)
        rw [← ei, List.length_append] at this
        exact lineLe (by omega)
      refine Xs.cons (append (d := rdD (rd (c :: r'))) F₆ rfl ?_ (by rw [List.length_map]; exact hil) fun h₇ P₇ p₇ F₇ => ?_)
      · refine ev_call (sp_read f2 hr'l hr'e) (rm'.less (by omega)) F₆.inn rfl (by decide) (evl_cons' rfl ?_ evl_nil) rfl
        refine Ev.cast (cutS_mid (nm F₆.inn) (nm F₆.inn) (bin (nm F₆.inn) (nm F₆.inn) op_addI) hz1) ?_
        rw [hsl, hr']
      · refine Xs.cons (asg F₇ (bin (nm F₇.inn) (nm F₇.inn) op_addI) fun h₈ P₈ p₈ F₈ => Xs.nil ?_)
        refine ⟨l.length - (k + sz (c :: r)), by omega, P₈, k + sz (c :: r), its ++ [rd (c :: r')], rfl, ?_, ?_⟩
        · rw [← ei, hcr, items_cons, hr', List.append_assoc]
          congr 1
          rw [← List.drop_drop, hcr]; rfl
        · rw [List.map_append]
          exact F₈.sub (.cons rfl (.cons (by rfl) (.cons rfl .nil)))
  · have hk : ¬ k < l.length := by have := of_decide_eq_false e; omega
    have F₄ := F.grow g₄
    have e2 : its = items l := by
      rw [List.drop_of_length_le (by omega), items_nil, List.append_nil] at ei; exact ei
    subst e2
    exact Xs.cons (ret_list F₄ rfl fun v h' P' g' r => ⟨P', g', r⟩)
end IK
end

/-! part C6 -/
section
open PySem PySem.W PyProof.Rows
set_option Elab.async false
set_option linter.unusedVariables false
namespace IK
section
variable {w : World} {s0 : Shared} {A : Around}
theorem op_addL {a b : List D} (hz : a.length + b.length ≤ sizeLine) : Op2 w s0 A (binaryOp .Add) (.lst a) (.lst b) (.lst (a ++ b)) := by
  intro h P v₁ v₂ hs r₁ r₂ h₁ P₁ t ht g Q E q
  obtain ⟨x, o, vs, rfl, hp, ⟨n, rfl⟩, rl⟩ := r₁.mono g.ext
  obtain ⟨y, o', us, rfl, hp', ⟨n', rfl⟩, rl'⟩ := r₂.mono g.ext
  refine PySem.P.add_list (s := stt s0 h₁ t) (g.snd _ _ hp) (g.snd _ _ hp') (q _ _ _ t ht (.pushFrz g.snd _ rfl) ⟨_, _, vs ++ us, rfl, Pm.put_self .., ⟨0, by rw [List.append_toArray]⟩, (rl.append rl').mono (Gr.pushFrz g.snd _ rfl).ext⟩) (by simp only [List.size_toArray, rl.length, rl'.length]; exact hz)
end
variable {w : World} {s0 : Shared} {S : Sta}
set_option maxRecDepth 100000

noncomputable def rowD (r : List (Bool × List Nat)) : D := .lst (r.map rdD)
theorem split_len_le (x y : Str) : (Txt.split x y).length ≤ x.length + 2 := split_le x y

theorem ok_rows : DefOk (defAt 30) ["text"] [] := ⟨by decide, by decide, by decide, rfl, rfl, rfl⟩
theorem sp_rows (B : Bis S) {a b c : Addr} {cd ce cf : Value} (f : FnAt S "_law_rows" (defAt 30) a cd) (f2 : FnAt S "_law_items" (defAt 29) b ce) (f3 : FnAt S "_law_read" (defAt 28) c cf) {t R0 : List Nat} {Rs : List (List Nat)} (hz : t.length ≤ 900)
    (h1 : t.take 4 = [40, 63, 115, 58]) (h2 : t.drop (t.length - 5) = [46, 42, 41, 92, 90]) (h3 : Txt.split (T (psl t (some 4) (some (-5)))) (T [40, 63, 62, 46, 42, 63]) = (R0 :: Rs.map (· ++ [41])).map T) :
    FnSpec w s0 S 3 "_law_rows" [.str t] (RepR (.lst ((R0 :: Rs).map fun r => rowD (items r)))) := by
  refine ⟨_, a, cd, f, fun A rm h P vs base rr => ?_⟩
  obtain ⟨v, rfl, _⟩ := RepL.one rr
  refine go_call (k := 2) (ds := [.str t]) f ok_rows rm base rr rfl (fun _ _ => rfl) fun h₁ P₁ L h₂ g F rm' => ?_
  have hh := rm'.hh
  have hz1 : t.length ≤ sizeLine := lineLe (by omega)
  have e4 : psl t none (some 4) = t.take 4 := psl_upto t 4
  have e5 : psl t (some (-5)) none = t.drop (t.length - 5) := psl_last t 5 (by decide)
  have hcut := psl_le t (some 4) (some (-5))
  have hn : (R0 :: Rs.map (· ++ [41])).length ≤ t.length + 2 := by
    have := split_le (T (psl t (some 4) (some (-5)))) (T [40, 63, 62, 46, 42, 63])
    rw [h3, List.length_map, T_len] at this; omega
  have hmem : ∀ r ∈ (R0 :: Rs.map (· ++ [41])), r.length ≤ 1000 := fun r hr => by
    have : T r ∈ Txt.split (T (psl t (some 4) (some (-5)))) (T [40, 63, 62, 46, 42, 63]) := by rw [h3]; exact List.mem_map_of_mem hr
    have := part_short this
    rw [T_len, T_len] at this; omega
  simp only [List.length_cons, List.length_map] at hn
  refine Xs.cons (x_if (b := false) F.refl' ((tst_or (b := false) (c := false) (Tst.cast (tcmp (cutS_to (nm F.inn) ev_int hz1) (ss [40, 63, 115, 58]) op_neS) (by rw [e4, h1]; rfl)) fun _ => Tst.cast (tcmp (cutS_from (nm F.inn) (ev_neg ev_int) hz1) (ss [46, 42, 41, 92, 90]) op_neS) (by rw [e5, h2]; rfl)))
    (fun e => nomatch e) (fun _ h₃ P₃ g₃ => Xs.nil ?_))
  have F₃ := F.grow g₃
  refine Xs.cons (asg (d := .lst ((R0 :: Rs.map (· ++ [41])).map .str)) F₃ ?_ fun h₄ P₄ p₄ F₄ => ?_)
  · refine Ev.cast (meth1 (cutS_mid (nm F₃.inn) ev_int (ev_neg ev_int) hz1) mSplit (ss [40, 63, 62, 46, 42, 63]) (c_split (by simp) (lineLe (by omega)))) ?_
    rw [h3, List.map_map]
    congr 1
  have hfrom : psl ((R0 :: Rs.map (· ++ [41])).map D.str) (some 1) none = (Rs.map (· ++ [41])).map D.str := psl_from ((R0 :: Rs.map (· ++ [41])).map D.str) 1
  have hlz : ((R0 :: Rs.map (· ++ [41])).map D.str).length ≤ sizeLine := lineLe (by simp; omega)
  have hrs : ∀ r ∈ Rs.map (· ++ [41]), r.length ≤ sizeLine := fun r hr => lineLe (by have := hmem r (.tail _ hr); omega)
  refine Xs.cons (x_if (b := false) F₄.refl' (Tst.cast (tcmp (d₁ := .lst (([] : List Int).map .int)) (Ev.cast (ev_comp (Rs.map (· ++ [41])) .str (fun _ => false) .str [] [] F₄ ⟨rfl, rfl, rfl, fun x hx => nomatch hx⟩ trivial ((ibl_list hh (cutL_from (nm F₄.inn) ev_int hlz)).cast hfrom) (.inl rfl) rfl (lineLe (by rw [List.length_map]; omega)) (fun y hy C hb Pb m h' P' F' => ?_) (fun y hy hb C hb' Pb m h' P' F' => nomatch hb)) (by simp)) ev_nil (op_neNilI rm')) rfl)
    (fun e => nomatch e) (fun _ h₅ P₅ g₅ => Xs.nil ?_))
  · obtain ⟨r, hr, rfl⟩ := List.mem_map.mp hy
    refine tsts_one (Tst.cast (tcmp (cutS_from (nm F'.inn) (ev_neg ev_int) (hrs _ hy)) (ss [41]) op_neS) ?_)
    have : psl (r ++ [41]) (some (-1)) none = [41] := by
      have := psl_last (r ++ [41]) 1 (by decide)
      rw [show (-(1 : Int)) = -((1 : Nat) : Int) from rfl, this]; simp
    rw [this]; rfl
  have F₅ := F₄.grow g₅
  refine Xs.cons (x_ret F₅.refl' (R := RepR (.lst ((R0 :: Rs).map fun r => rowD (items r)))) ?_ fun v h' P' g' r => ⟨P', F₅.gr.trans g', r⟩)
  refine Ev.cast (bin (d₁ := .lst [rowD (items R0)]) (d₂ := .lst ((Rs.map (· ++ [41])).map fun r => rowD (items r.dropLast))) (ev_list (evl_cons' rfl (ev_call (sp_items B f2 f3 (hmem R0 (.head _))) rm' F₅.inn rfl (by decide) (evl_cons' rfl (sub (nm F₅.inn) ev_int (op_itemL hlz (by decide) rfl)) evl_nil) rfl) evl_nil) (by show 1 ≤ sizeLine; decide))
    (Ev.cast (ev_comp (Rs.map (· ++ [41])) .str (fun _ => true) (fun r => rowD (items r.dropLast)) [] [] F₅ ⟨rfl, rfl, rfl, fun x hx => nomatch hx⟩ trivial ((ibl_list hh (cutL_from (nm F₅.inn) ev_int hlz)).cast hfrom) (.inl rfl) rfl (lineLe (by rw [List.length_map]; omega)) (fun y hy C hb Pb m h' P' F' => tsts_nil) (fun y hy hb C hb' Pb m h' P' F' => ?_)) (by rw [List.filter_eq_self.mpr (fun _ _ => rfl)])) (op_addL (lineLe (by simp; omega)))) ?_
  · have hle := hmem y (.tail _ hy)
    refine ev_call (sp_items B f2 f3 (l := y.dropLast) (by rw [List.length_dropLast]; omega)) rm' F'.inn rfl (by decide) (evl_cons' rfl ?_ evl_nil) rfl
    refine Ev.cast (cutS_to (nm F'.inn) (ev_neg ev_int) (hrs _ hy)) ?_
    rw [show (-(1 : Int)) = -1 from rfl, psl_dropLast]
  · rw [List.map_map, List.map_cons]
    show D.lst ([_] ++ _) = _
    congr 1
    rw [List.singleton_append]
    congr 1
    refine List.map_congr_left fun r _ => ?_
    simp
end IK
end

/-! part C7 -/
section
open PySem PySem.W PyProof.Rows
set_option Elab.async false
set_option linter.unusedVariables false
namespace IK
variable {w : World} {s0 : Shared} {S : Sta}
set_option maxRecDepth 100000

noncomputable abbrev Row := List (Bool × List Nat)
noncomputable def fitAt (name : List Nat) (row : Row) (p : Nat) : Bool :=
  ((List.range row.length).filter fun j => decide (name.getD (p + j) 0 ∈ (row.getD j (false, [])).2) == (row.getD j (false, [])).1).isEmpty
noncomputable def fitsL (name : List Nat) (row : Row) (at' : Nat) : List Nat := (List.range' at' (name.length + 1 - row.length - at')).filter (fitAt name row)
noncomputable def mst (name : List Nat) (rows : List Row) : Nat → Option Nat
  | 0 => some 0
  | i + 1 => (mst name rows i).bind fun at' => (rows[i]?).bind fun row => match fitsL name row at' with
    | [] => none
    | p :: _ => if i = 0 ∧ p ≠ 0 then none else some (p + row.length)
noncomputable def mats (rows : List Row) (name : List Nat) : Bool := (mst name rows rows.length).isSome
theorem mst_none (name : List Nat) (rows : List Row) {i j : Nat} (h : mst name rows i = none) (hij : i ≤ j) : mst name rows j = none := by
  induction hij with
  | refl => exact h
  | step _ ih => unfold mst; rw [ih]; rfl
theorem fitsL_mem {name : List Nat} {row : Row} {a p : Nat} (h : p ∈ fitsL name row a) : a ≤ p ∧ p + row.length ≤ name.length := by
  have := (List.mem_filter.mp h).1
  rw [List.mem_range'_1] at this
  omega
theorem mst_le (name : List Nat) (rows : List Row) : ∀ i a, mst name rows i = some a → a ≤ name.length
  | 0, a, h => by cases h; exact Nat.zero_le _
  | i + 1, a, h => by
    unfold mst at h
    obtain ⟨a0, h0, h⟩ := Option.bind_eq_some_iff.mp h
    obtain ⟨row, hr, h⟩ := Option.bind_eq_some_iff.mp h
    split at h
    · cases h
    · rename_i p q e
      split at h
      · cases h
      · cases h
        exact (fitsL_mem (by rw [e]; exact .head _)).2
noncomputable def mrr (rows : List Row) (name : List Nat) : Option Nat → List (Str × D)
  | some a => [("at", .int a), ("rows", .lst (rows.map rowD)), ("name", .str name)]
  | none => [("zz", .none)]
theorem no_zz {env : Env} {ow : List Str} {h₀ h : Heap} {P₀ P : Pm} {n : List (Addr × Mo)} {ρ : List (Str × D)} {d : D} (F : Frm S env ow h₀ P₀ n ρ h P) (e : ρ.lookup (Str.ofString "zz") = some d) (hk : env.kindOf (Str.ofString "zz") = none) : False := by
  obtain ⟨v, _, r⟩ := F.inn.loc _ _ e
  rcases r with ⟨q, _⟩ | ⟨q | q, _⟩ <;> rw [hk] at q <;> cases q

theorem rng_nat3 (a : Nat) (b : Int) (n : Nat) (e : (b - a).toNat = n) : rng (a : Int) b = (List.range' a n).map fun i : Nat => D.int (i : Int) := by
  unfold rng
  rw [List.range'_eq_map_range, List.map_map, e]
  refine List.map_congr_left fun i _ => ?_
  simp
theorem rng_nat0 (b : Int) (n : Nat) (e : b.toNat = n) : rng 0 b = (List.range n).map fun i : Nat => D.int (i : Int) := by
  unfold rng
  rw [show (b - 0).toNat = n by omega]
  refine List.map_congr_left fun i _ => ?_
  simp

theorem ok_matches : DefOk (defAt 31) ["rows", "name"] ["name", "row"] := ⟨by decide, by decide, by decide, rfl, rfl, rfl⟩
theorem sp_matches (B : Bis S) {a : Addr} {cd : Value} (f : FnAt S "_law_matches" (defAt 31) a cd) {rows : List Row} {name : List Nat} (hz : name.length ≤ 1000) (hr : rows.length ≤ 1000) (hrr : ∀ r ∈ rows, r.length ≤ 1000) :
    FnSpec w s0 S 1 "_law_matches" [.lst (rows.map rowD), .str name] (RepR (.bool (mats rows name))) := by
  refine ⟨_, a, cd, f, fun A rm h P vs base rr => ?_⟩
  obtain ⟨v, u, rfl, _⟩ := RepL.two rr
  refine go_call (k := 0) (ds := [.lst (rows.map rowD), .str name]) f ok_matches rm base rr rfl (fun _ _ => rfl) fun h₁ P₁ L h₂ g F rm' => ?_
  have hh := rm'.hh
  have hz1 : name.length ≤ sizeLine := lineLe (by omega)
  refine Xs.cons (asg F ev_int fun h₃ P₃ p₃ F₃ => ?_)
  refine Xs.cons (x_forE B hh (rows.map rowD) (fun _ => []) (fun i => mrr rows name (mst name rows i)) (F₃.sub (.cons rfl (.cons rfl (.cons rfl .nil)))) (nm F₃.inn) (.inl rfl) (.inr ⟨rfl, by simp⟩) (fun i d m h₄ P₄ hd hP F₄ => ?_) fun h₄ P₄ hP F₄ => ?_)
  · rw [List.getElem?_map] at hd
    obtain ⟨row, hrow, rfl⟩ := Option.map_eq_some_iff.mp hd
    have hrl : row.length ≤ 1000 := hrr row (List.mem_of_getElem? hrow)
    have hrz : (row.map rdD).length ≤ sizeLine := lineLe (by rw [List.length_map]; omega)
    cases hm : mst name rows i with
    | none => rw [hm] at F₄; exact (no_zz F₄ rfl rfl).elim
    | some at' =>
      rw [hm] at F₄
      have hat := mst_le name rows i at' hm
      have F₄' : Frm S (fenv "_law_matches" (defAt 31) L a cd) ["name", "row"] h₁ P₁ ([] ++ m) [("row", rowD row), ("k", .int i), ("at", .int at'), ("rows", .lst (rows.map rowD)), ("name", .str name)] h₄ P₄ := F₄
      have hstep : mst name rows (i + 1) = match fitsL name row at' with
          | [] => none
          | p :: _ => if i = 0 ∧ p ≠ 0 then none else some (p + row.length) := by
        show (mst name rows i).bind _ = _
        rw [hm]
        show (rows[i]?).bind _ = _
        rw [hrow]; rfl
      have hfl : fitsL name row at' = (List.range' at' (name.length + 1 - row.length - at')).filter (fitAt name row) := rfl
      refine Xs.cons (X1.mono (K := fun f h' => f = .next ∧ ∃ P', PLe P₄ P' ∧ Frm S (fenv "_law_matches" (defAt 31) L a cd) ["name", "row"] h₁ P₁ ([] ++ m) [("fits", .lst (((fitsL name row at').map fun n : Nat => (n : Int)).map .int)), ("row", rowD row), ("k", .int i), ("at", .int at'), ("rows", .lst (rows.map rowD)), ("name", .str name)] h' P') ?_ fun f h₅ xx => ?_)
      · refine x_comp_pure (List.range' at' (name.length + 1 - row.length - at')) (fun n : Nat => .int n) (fitAt name row) (fun n : Nat => .int n) ["p"] [("name", .str name), ("row", rowD row)] F₄'
          ⟨rfl, rfl, rfl, fun x hx => by cases List.mem_singleton.mp hx; rfl⟩ ⟨⟨rfl, .inl rfl, fun _ => .inl rfl, fun _ => rfl⟩, ⟨rfl, .inl rfl, fun _ => .inl rfl, fun _ => rfl⟩, trivial⟩ ?_ (.inr ⟨rfl, by simp⟩) rfl ?_ rfl rfl (fun p hp C hb Pb m h' P' F' => ?_) (fun p hp hb C hb' Pb m h' P' F' => nm F'.inn) (fun h' P' hP' F' => ⟨rfl, P', hP', F'.sub (.cons (by rw [List.map_map]; rfl) (.cons rfl (.cons rfl (.cons rfl (.cons rfl (.cons rfl .nil))))))⟩)
        · refine (range2 B hh F₄'.inn (nm F₄'.inn) (bin (bin (lenS B F₄'.inn (nm F₄'.inn) hz1) (lenL B F₄'.inn (nm F₄'.inn) hrz) op_subI) ev_int op_addI) (by omega) (by omega) (by rw [List.length_map]; omega) (by rw [List.length_map]; omega)).cast ?_
          refine rng_nat3 at' _ _ ?_
          rw [List.length_map]; omega
        · exact lineLe (by rw [List.length_range']; omega)
        · have hpm := List.mem_range'_1.mp hp
          refine tsts_one (Tst.cast (tcmp (d₁ := .lst ((((List.range row.length).filter fun j => decide (name.getD (p + j) 0 ∈ (row.getD j (false, [])).2) == (row.getD j (false, [])).1).map fun n : Nat => (n : Int)).map .int)) (Ev.cast (ev_comp (List.range row.length) (fun n : Nat => .int n) (fun j => decide (name.getD (p + j) 0 ∈ (row.getD j (false, [])).2) == (row.getD j (false, [])).1) (fun n : Nat => .int n) [] [("name", .str name), ("p", .int p), ("row", rowD row)] F'
            ⟨rfl, rfl, rfl, fun x hx => nomatch hx⟩ ⟨⟨rfl, .inl rfl, fun _ => .inl rfl, fun _ => rfl⟩, ⟨rfl, .inl rfl, fun _ => .inl rfl, fun _ => rfl⟩, ⟨rfl, .inl rfl, fun _ => .inl rfl, fun _ => rfl⟩, trivial⟩ ?_ (.inl rfl) rfl ?_ (fun j hj C2 hb2 Pb2 m2 h2 P2 F2 => ?_) (fun j hj hbj C2 hb2 Pb2 m2 h2 P2 F2 => nm F2.inn)) (by rw [List.map_map]; rfl)) ev_nil (op_eqNilI rm')) (by rw [List.isEmpty_map]; rfl))
          · exact (range1 B hh F'.inn (lenL B F'.inn (nm F'.inn) hrz) (by omega) (by rw [List.length_map]; omega)).cast (rng_nat0 _ _ (by rw [List.length_map]; omega))
          · exact lineLe (by rw [List.length_range]; omega)
          · have hjl := List.mem_range.mp hj
            have hrow' : (row.map rdD)[((j : Int)).toNat]? = some (rdD (row.getD j (false, []))) := by
              rw [show ((j : Int)).toNat = j by omega, List.getElem?_map, List.getD_eq_getElem?_getD, List.getElem?_eq_getElem hjl]; rfl
            have hnm : name[((p : Int) + (j : Int)).toNat]? = some (name.getD (p + j) 0) := by
              rw [show ((p : Int) + (j : Int)).toNat = p + j by omega, List.getD_eq_getElem?_getD, List.getElem?_eq_getElem (by omega)]; rfl
            exact tsts_one (tcmp (d₁ := .bool (decide (name.getD (p + j) 0 ∈ (row.getD j (false, [])).2))) (d₂ := .bool (row.getD j (false, [])).1)
              (cmp (sub (nm F2.inn) (bin (nm F2.inn) (nm F2.inn) op_addI) (op_itemS' hz1 (by omega) hnm))
                (sub (sub (nm F2.inn) (nm F2.inn) (op_itemL hrz (by omega) hrow')) ev_int (op_itemT (d := .str (row.getD j (false, [])).2) (j := 1) (by show 2 ≤ sizeLine; decide) (by rfl) (by decide) (by decide) rfl)) op_inS)
              (sub (sub (nm F2.inn) (nm F2.inn) (op_itemL hrz (by omega) hrow')) ev_int (op_itemT (d := .bool (row.getD j (false, [])).1) (j := 0) (by show 2 ≤ sizeLine; decide) (by rfl) (by decide) (by decide) rfl)) op_eqB)
      · obtain ⟨e, P₅, p₅, F₅⟩ := xx
        subst e
        have hfz : (((fitsL name row at').map fun n : Nat => (n : Int)).map D.int).length ≤ sizeLine := by
          rw [List.length_map, List.length_map]
          refine lineLe (Nat.le_trans (List.length_filter_le ..) ?_)
          rw [List.length_range']; omega
        have fin0 : mst name rows (i + 1) = none → mats rows name = false := fun e => by
          unfold mats
          have hil := (List.getElem?_eq_some_iff.mp hrow).1
          rw [mst_none name rows e (by omega)]; rfl
        cases hf : fitsL name row at' with
        | nil =>
          rw [hf] at F₅
          refine Xs.cons (x_if (b := true) F₅.refl' (tst_or (b := true) (c := true) (tcmp (nm F₅.inn) ev_nil (op_eqNilI (a := []) rm')) (fun e => nomatch e)) (fun _ h₆ P₆ g₆ => ?_) (fun e => nomatch e))
          have F₆ := F₅.grow g₆
          refine Xs.cons (x_ret F₆.refl' (R := RepR (.bool (mats rows name))) (Ev.cast ev_bool ?_) fun v h' P' g' r => ⟨P', F₆.gr.trans g', r⟩)
          rw [fin0 (by rw [hstep, hf])]
        | cons p q =>
          rw [hf] at F₅
          have hpm := fitsL_mem (name := name) (row := row) (a := at') (p := p) (by rw [hf]; exact .head _)
          have item0 : ∀ {A : Around}, Op2 w s0 A getItem (.lst (((p :: q).map fun n : Nat => (n : Int)).map D.int)) (.int 0) (.int p) := fun {_} => op_itemL (by rw [← hf]; exact hfz) (by decide) rfl
          refine Xs.cons (x_if (b := ((i : Int) == 0) && ((p : Int) != 0)) F₅.refl' (Tst.cast (tst_or (b := false) (c := ((i : Int) == 0) && ((p : Int) != 0)) (tcmp (nm F₅.inn) ev_nil (op_eqNilI rm')) (fun _ => tst_and (tcmp (nm F₅.inn) ev_int op_eqI) fun _ => tcmp (sub (nm F₅.inn) ev_int item0) ev_int op_neI)) (by rw [Bool.false_or])) (fun e h₆ P₆ g₆ => ?_) (fun e h₆ P₆ g₆ => Xs.nil ?_))
          · have F₆ := F₅.grow g₆
            refine Xs.cons (x_ret F₆.refl' (R := RepR (.bool (mats rows name))) (Ev.cast ev_bool ?_) fun v h' P' g' r => ⟨P', F₆.gr.trans g', r⟩)
            have e' : i = 0 ∧ p ≠ 0 := by
              rw [Bool.and_eq_true] at e
              have e1 : (i : Int) = 0 := by simpa using e.1
              have e2 : (p : Int) ≠ 0 := by simpa using e.2
              omega
            rw [fin0 (by rw [hstep, hf]; exact if_pos e')]
          · have F₆ := F₅.grow g₆
            have e' : ¬ (i = 0 ∧ p ≠ 0) := fun ⟨e1, e2⟩ => by
              have : (((i : Int) == 0) && ((p : Int) != 0)) = true := by subst e1; simpa using e2
              rw [this] at e; cases e
            refine Xs.cons (asg F₆ (bin (sub (nm F₆.inn) ev_int item0) (lenL B F₆.inn (nm F₆.inn) hrz) op_addI) fun h₇ P₇ p₇ F₇ => Xs.nil ⟨P₇, PLe.trans p₅ (PLe.trans g₆.ext p₇), ?_⟩)
            have : mst name rows (i + 1) = some (p + row.length) := by rw [hstep, hf]; exact if_neg e'
            rw [this]
            exact F₇.sub (.cons (by rw [List.length_map]; rfl) (.cons rfl (.cons rfl .nil)))
  · rw [List.length_map] at F₄
    refine Xs.cons (x_ret F₄.refl' (R := RepR (.bool (mats rows name))) (Ev.cast ev_bool ?_) fun v h' P' g' r => ⟨P', F₄.gr.trans g', r⟩)
    cases hm : mst name rows rows.length with
    | none => rw [hm] at F₄; exact (no_zz F₄ rfl rfl).elim
    | some a' => unfold mats; rw [hm]; rfl
end IK
end

/-! part P1 -/
section
open PySem PySem.W PyProof.Rows
set_option Elab.async false
set_option linter.unusedVariables false
namespace IK
theorem spl_append (c : Nat) (b : List Nat) : ∀ a, spl c (a ++ c :: b) = spl c a ++ spl c b
  | [] => by simp [spl]
  | x :: a => by
    have ih := spl_append c b a
    have e1 : ∀ r, spl c (x :: r) = if x = c then [] :: spl c r else match spl c r with
      | [] => [[x]]
      | p :: q => (x :: p) :: q := fun _ => rfl
    show spl c (x :: (a ++ c :: b)) = _
    rw [e1, e1, ih]
    by_cases h : x = c
    · rw [if_pos h, if_pos h]; rfl
    · rw [if_neg h, if_neg h]
      cases hs : spl c a with
      | nil => exact absurd hs (spl_ne c a)
      | cons p q => rfl
theorem last_cut {c : Nat} : ∀ {l : List Nat}, c ∈ l → ∃ a b, l = a ++ c :: b ∧ c ∉ b
  | x :: r, h => by
    by_cases hr : c ∈ r
    · obtain ⟨a, b, e, hb⟩ := last_cut hr
      exact ⟨x :: a, b, by rw [e]; rfl, hb⟩
    · rcases List.mem_cons.mp h with rfl | h
      · exact ⟨[], r, rfl, hr⟩
      · exact absurd h hr
theorem first_cut {c : Nat} : ∀ {l : List Nat}, c ∈ l → ∃ a b, l = a ++ c :: b ∧ c ∉ a
  | x :: r, h => by
    by_cases hx : x = c
    · exact ⟨[], r, by rw [hx]; rfl, by simp⟩
    · rcases List.mem_cons.mp h with h | h
      · exact absurd h.symm hx
      · obtain ⟨a, b, e, ha⟩ := first_cut h
        refine ⟨x :: a, b, by rw [e]; rfl, ?_⟩
        simp only [List.mem_cons, not_or]
        exact ⟨Ne.symm hx, ha⟩
theorem spl_cut {c : Nat} {a b : List Nat} (hb : c ∉ b) : spl c (a ++ c :: b) = spl c a ++ [b] := by rw [spl_append, spl_whole c b hb]
/-- the last name -/
noncomputable def lastc (c : Nat) (l : List Nat) : List Nat := (spl c l).getLastD []
theorem lastc_cut {c : Nat} {a b : List Nat} (hb : c ∉ b) : lastc c (a ++ c :: b) = b := by
  unfold lastc; rw [spl_cut hb]; simp
theorem lastc_none {c : Nat} {l : List Nat} (h : c ∉ l) : lastc c l = l := by
  unfold lastc; rw [spl_whole c l h]; rfl
theorem rfind_T (l : List Nat) (c : Nat) : Txt.rfind (T l) (T [c]) = (l.length : Int) - (lastc c l).length - 1 := by
  have hat : ∀ i, StrLaws.At (T l) (T [c]) (T l).length i ↔ l[i]? = some c := fun i => by
    have := StrLaws.subAt_one (T l) c i
    exact this
  by_cases hc : c ∈ l
  · obtain ⟨a, b, rfl, hb⟩ := last_cut hc
    have h0 : (a ++ c :: b)[a.length]? = some c := by simp
    rcases rfind_whole (T (a ++ c :: b)) (T [c]) with ⟨_, h⟩ | ⟨i, h1, h2, h3⟩
    · exact absurd ((hat _).mpr h0) (h _)
    · have hi : i = a.length := by
        rcases Nat.lt_trichotomy i a.length with q | q | q
        · exact absurd ((hat _).mpr h0) (h3 _ q)
        · exact q
        · have := (hat i).mp h2
          rw [List.getElem?_append_right (by omega)] at this
          obtain ⟨j, hj⟩ : ∃ j, i - a.length = j + 1 := ⟨i - a.length - 1, by omega⟩
          rw [hj, List.getElem?_cons_succ] at this
          exact absurd (List.mem_of_getElem? this) hb
      rw [h1, hi, lastc_cut hb]
      simp only [List.length_append, List.length_cons]; omega
  · rw [lastc_none hc]
    rcases rfind_whole (T l) (T [c]) with ⟨h, _⟩ | ⟨i, h1, h2, h3⟩
    · rw [h]; omega
    · exact absurd (List.mem_of_getElem? ((hat i).mp h2)) hc
theorem lastc_len (c : Nat) (l : List Nat) : (lastc c l).length ≤ l.length := by
  by_cases hc : c ∈ l
  · obtain ⟨a, b, rfl, hb⟩ := last_cut hc
    rw [lastc_cut hb]; simp; omega
  · rw [lastc_none hc]; exact Nat.le_refl _
theorem lastc_drop (c : Nat) (l : List Nat) : l.drop (l.length - (lastc c l).length) = lastc c l := by
  by_cases hc : c ∈ l
  · obtain ⟨a, b, rfl, hb⟩ := last_cut hc
    rw [lastc_cut hb, show (a ++ c :: b).length - b.length = (a ++ [c]).length by simp; omega, show a ++ c :: b = (a ++ [c]) ++ b by simp, List.drop_left]
  · rw [lastc_none hc]; simp
theorem lastc_free (c : Nat) (l : List Nat) : c ∉ lastc c l := by
  by_cases hc : c ∈ l
  · obtain ⟨a, b, rfl, hb⟩ := last_cut hc
    rw [lastc_cut hb]; exact hb
  · rw [lastc_none hc]; exact hc
end IK
end

/-! part C2 -/
section
open PySem PySem.W PyProof.Rows
set_option Elab.async false
set_option linter.unusedVariables false
namespace IK
variable {w : World} {s0 : Shared} {S : Sta}
set_option maxRecDepth 100000

noncomputable def stem (l : List Nat) : List Nat :=
  let cuts := spl 46 ((spl 47 l).getLastD [])
  if cuts.length > 1 then jn [46] cuts.dropLast else cuts.headD []

theorem spl_mem_len (c : Nat) : ∀ (l : List Nat), ∀ p ∈ spl c l, p.length ≤ l.length
  | [], p, h => by simp [spl] at h; subst h; exact Nat.le_refl _
  | a :: r, p, h => by
    have ih := spl_mem_len c r
    unfold spl at h
    split at h
    · rcases List.mem_cons.mp h with rfl | h
      · exact Nat.zero_le _
      · exact Nat.le_succ_of_le (ih p h)
    · split at h
      · simp at h; subst h; simp
      · rename_i q s e
        rw [e] at ih
        rcases List.mem_cons.mp h with rfl | h
        · exact Nat.succ_le_succ (ih q (.head _))
        · exact Nat.le_succ_of_le (ih p (.tail _ h))
theorem getLastD_mem {α : Type} {l : List α} {d : α} (h : l ≠ []) : l.getLastD d ∈ l := by
  rw [List.getLastD_eq_getLast?, List.getLast?_eq_some_getLast h]; exact List.getLast_mem h
theorem item_last {α : Type} {l : List α} {d : α} (h : l ≠ []) : l[((-1 : Int) + l.length).toNat]? = some (l.getLastD d) := by
  have : 0 < l.length := List.length_pos_iff.mpr h
  rw [show ((-1 : Int) + l.length).toNat = l.length - 1 by omega, List.getLastD_eq_getLast?, List.getLast?_eq_getElem?]
  rw [List.getElem?_eq_getElem (by omega)]; rfl

theorem ok_stem : DefOk (defAt 33) ["path"] [] := ⟨by decide, by decide, by decide, rfl, rfl, rfl⟩
theorem sp_stem (B : Bis S) {a : Addr} {cd : Value} (f : FnAt S "_law_stem" (defAt 33) a cd) {l : List Nat} (hz : l.length ≤ 1000) : FnSpec w s0 S 1 "_law_stem" [.str l] (RepR (.str (stem l))) := by
  refine ⟨_, a, cd, f, fun A rm h P vs base r => ?_⟩
  obtain ⟨v, rfl, _⟩ := RepL.one r
  refine go_call (k := 0) (ds := [.str l]) f ok_stem rm base r rfl (fun _ _ => rfl) fun h₁ P₁ L h₂ g F rm' => ?_
  have hb := bigLine
  have hL : (spl 47 l).length ≤ l.length + 1 := spl_len 47 l
  have hne : spl 47 l ≠ [] := spl_ne 47 l
  have hm := spl_mem_len 47 l _ (getLastD_mem (d := []) hne)
  have hL2 := spl_len 46 ((spl 47 l).getLastD [])
  have hM2 := spl_mem_len 46 ((spl 47 l).getLastD [])
  refine Xs.cons (asg (d := .lst ((spl 46 ((spl 47 l).getLastD [])).map .str)) F ?_ fun h₃ P₃ p₃ F₃ => ?_)
  · refine meth1 (d₁ := .str ((spl 47 l).getLastD [])) (sub (meth1 (nm F.inn) mSplit (ss [47]) (c_split1 (by omega))) (ev_neg ev_int) (op_itemLneg ?_ (by decide) ?_ ?_)) mSplit (ss [46]) (c_split1 (by omega))
    · rw [List.length_map]; omega
    · rw [List.length_map]; have := List.length_pos_iff.mpr hne; omega
    · rw [List.length_map, List.getElem?_map, item_last hne (d := [])]; rfl
  · refine Xs.cons (x_ret F₃.refl' (R := RepR (.str (stem l))) ?_ fun v h' P' g' r => ⟨P', F₃.gr.trans g', r⟩)
    refine ev_ifexp (b := decide ((spl 46 ((spl 47 l).getLastD [])).length > 1)) ?_ (fun e => ?_) (fun e => ?_)
    · refine Tst.cast (tcmp (lenL B F₃.inn (nm F₃.inn) ?_) ev_int op_gtI) ?_
      · rw [List.length_map]; omega
      · rw [List.length_map]; congr 1; simp; omega
    · have hgt : (spl 46 ((spl 47 l).getLastD [])).length > 1 := of_decide_eq_true e
      refine Ev.cast (d := .str (jn [46] ((spl 46 ((spl 47 l).getLastD [])).dropLast))) (meth1 (ss [46]) mJoin (cutL_to (nm F₃.inn) (ev_neg ev_int) ?_) ?_) ?_
      · rw [List.length_map]; omega
      · rw [psl_dropLast, ← List.map_dropLast]
        refine c_join (B := 1000) (fun y hy => ?_) ?_
        · have := hM2 y (List.dropLast_subset _ hy); omega
        · rw [List.length_dropLast, List.length_singleton]; omega
      · unfold stem; rw [if_pos hgt]
    · have hgt : ¬ (spl 46 ((spl 47 l).getLastD [])).length > 1 := of_decide_eq_false e
      have hne2 := spl_ne 46 ((spl 47 l).getLastD [])
      refine Ev.cast (sub (nm F₃.inn) ev_int (op_itemL (d := .str ((spl 46 ((spl 47 l).getLastD [])).headD [])) ?_ (by decide) ?_)) ?_
      · rw [List.length_map]; omega
      · rw [List.getElem?_map]
        cases q : spl 46 ((spl 47 l).getLastD []) with
        | nil => exact absurd q hne2
        | cons => rfl
      · unfold stem; rw [if_neg hgt]
end IK
end

/-! part C8 -/
section
open PySem PySem.W PyProof.Rows
set_option Elab.async false
set_option linter.unusedVariables false
namespace IK
section
variable {w : World} {s0 : Shared} {A : Around} {S : Sta} {env : Env} {ow : List Str} {h₀ h h' : Heap} {P₀ P P' : Pm} {n : List (Addr × Mo)} {ρ : List (Str × D)} {d : D}
theorem btyp {x : String} {pos : Pos} (B : Bis S) (I : In S env ρ h P) (hx : x ∈ (["range", "enumerate", "object", "set", "str", "bool", "int", "float", "list", "tuple", "dict", "type"] : List String)) (hk : env.kindOf (Str.ofString x) = some .globalImplicit := by rfl) (hd : notDbg (Str.ofString x) := by decide) :
    Ev w s0 A env h P (.Name (Str.ofString x) pos) (.typ x) := ev_builtin I hk (B.ty x hx).1 (B.ty x hx).2 (fun _ => rfl) hd
theorem typeOfS {np pos : Pos} {e : Expr} {l : List Nat} (B : Bis S) (I : In S env ρ h P) (he : Ev w s0 A env h P e (.str l)) (hk : env.kindOf (Str.ofString "type") = some .globalImplicit := by rfl) (hp : plainArgs [e] = true := by rfl) :
    Ev w s0 A env h P (.Call (.Name (Str.ofString "type") np) [e] [] pos) (.typ "str") :=
  ev_callT I hk (B.ty "type" (by simp)).1 (B.ty "type" (by simp)).2 (by decide) (evl_cons' hp he evl_nil) hp fun h P vs s r => by
    obtain ⟨v, rfl, u, rfl⟩ := r.one
    intro h₁ P₁ t ht g Q E q
    exact call_type_of (typeIs_str _ _ _) (by decide) (q _ h₁ P₁ t ht (.refl g.snd) rfl)
end
variable {w : World} {s0 : Shared} {S : Sta}
set_option maxRecDepth 100000

theorem ok_kind : DefOk (defAt 13) ["name", "x"] [] := ⟨by decide, by decide, by decide, rfl, rfl, rfl⟩
theorem sp_kind (B : Bis S) {a : Addr} {cd : Value} (f : FnAt S "_kind" (defAt 13) a cd) {m l : List Nat} : FnSpec w s0 S 1 "_kind" [.str m, .str l] (RepR (.str [])) := by
  refine ⟨_, a, cd, f, fun A rm h P vs base rr => ?_⟩
  obtain ⟨v, u, rfl, _⟩ := RepL.two rr
  refine go_call (k := 0) (ds := [.str m, .str l]) f ok_kind rm base rr rfl (fun _ _ => rfl) fun h₁ P₁ L h₂ g F rm' => ?_
  refine Xs.cons (asg F (typeOfS B F.inn (nm F.inn)) fun h₃ P₃ p₃ F₃ => ?_)
  refine Xs.cons (x_if (b := true) F₃.refl' (tcmp (nm F₃.inn) (btyp B F₃.inn (by simp)) op_isTyp) (fun _ h₄ P₄ g₄ => ?_) (fun e => nomatch e))
  have F₄ := F₃.grow g₄
  exact Xs.cons (x_ret F₄.refl' (R := RepR (.str [])) (ss []) fun v h' P' g' r => ⟨P', F₄.gr.trans g', r⟩)

theorem ok_fspath : DefOk (defAt 14) ["name", "x"] [] := ⟨by decide, by decide, by decide, rfl, rfl, rfl⟩
theorem sp_fspath (B : Bis S) {a b : Addr} {cd ce : Value} (f : FnAt S "_fspath" (defAt 14) a cd) (f2 : FnAt S "_kind" (defAt 13) b ce) {m l : List Nat} : FnSpec w s0 S 2 "_fspath" [.str m, .str l] (RepR (.str l)) := by
  refine ⟨_, a, cd, f, fun A rm h P vs base rr => ?_⟩
  obtain ⟨v, u, rfl, _⟩ := RepL.two rr
  refine go_call (k := 1) (ds := [.str m, .str l]) f ok_fspath rm base rr rfl (fun _ _ => rfl) fun h₁ P₁ L h₂ g F rm' => ?_
  refine Xs.cons (asg F (ev_call (sp_kind B f2) rm' F.inn rfl (by decide) (evl_cons' rfl (nm F.inn) (evl_cons' rfl (nm F.inn) evl_nil)) rfl) fun h₃ P₃ p₃ F₃ => ?_)
  refine Xs.cons (x_if (b := false) F₃.refl' (tpl (nm F₃.inn) (tru_str (Nat.zero_le _))) (fun e => nomatch e) (fun _ h₄ P₄ g₄ => Xs.nil ?_))
  have F₄ := F₃.grow g₄
  exact Xs.cons (x_ret F₄.refl' (R := RepR (.str l)) (nm F₄.inn) fun v h' P' g' r => ⟨P', F₄.gr.trans g', r⟩)

theorem ok_basename : DefOk (defAt 19) ["p"] [] := ⟨by decide, by decide, by decide, rfl, rfl, rfl⟩
theorem sp_basename (B : Bis S) {a b c : Addr} {cd ce cf : Value} (f : FnAt S "basename" (defAt 19) a cd) (f2 : FnAt S "_fspath" (defAt 14) b ce) (f3 : FnAt S "_kind" (defAt 13) c cf) {l : List Nat} (hz : l.length ≤ 1000) :
    FnSpec w s0 S 3 "basename" [.str l] (RepR (.str (lastc 47 l))) := by
  refine ⟨_, a, cd, f, fun A rm h P vs base rr => ?_⟩
  obtain ⟨v, rfl, _⟩ := RepL.one rr
  refine go_call (k := 2) (ds := [.str l]) f ok_basename rm base rr rfl (fun _ _ => rfl) fun h₁ P₁ L h₂ g F rm' => ?_
  refine Xs.cons (asg F (ev_call (sp_fspath B f2 f3) rm' F.inn rfl (by decide) (evl_cons' rfl (ss [98, 97, 115, 101, 110, 97, 109, 101]) (evl_cons' rfl (nm F.inn) evl_nil)) rfl) fun h₃ P₃ p₃ F₃ => ?_)
  refine Xs.cons (asg F₃ (bin (meth1 (nm F₃.inn) mRfind (ss [47]) c_rfind) ev_int op_addI) fun h₄ P₄ p₄ F₄ => ?_)
  refine Xs.cons (x_ret F₄.refl' (R := RepR (.str (lastc 47 l))) (Ev.cast (cutS_from (nm F₄.inn) (nm F₄.inn) (lineLe (by omega))) ?_) fun v h' P' g' r => ⟨P', F₄.gr.trans g', r⟩)
  have := lastc_len 47 l
  rw [rfind_T, show ((l.length : Int) - (lastc 47 l).length - 1 + 1) = ((l.length - (lastc 47 l).length : Nat) : Int) by omega, psl_from, lastc_drop]

/-- the part before the last dot -/
noncomputable def stem0 (b : List Nat) : List Nat := if 46 ∈ b then b.take (b.length - (lastc 46 b).length - 1) else b
noncomputable def ext0 (b : List Nat) : List Nat := if 46 ∈ b then psl b (some ((b.length - (lastc 46 b).length - 1 : Nat) : Int)) none else psl b none (some 0)
theorem ok_splitext : DefOk (defAt 15) ["p"] [] := ⟨by decide, by decide, by decide, rfl, rfl, rfl⟩
theorem sp_splitext (B : Bis S) {a b c : Addr} {cd ce cf : Value} (f : FnAt S "splitext" (defAt 15) a cd) (f2 : FnAt S "_fspath" (defAt 14) b ce) (f3 : FnAt S "_kind" (defAt 13) c cf) {l : List Nat} (hz : l.length ≤ 1000) (hs : 47 ∉ l) (hd : l.head? ≠ some 46) :
    FnSpec w s0 S 3 "splitext" [.str l] (RepR (.tup [.str (stem0 l), .str (ext0 l)])) := by
  refine ⟨_, a, cd, f, fun A rm h P vs base rr => ?_⟩
  obtain ⟨v, rfl, _⟩ := RepL.one rr
  refine go_call (k := 2) (ds := [.str l]) f ok_splitext rm base rr rfl (fun _ _ => rfl) fun h₁ P₁ L h₂ g F rm' => ?_
  have hz1 : l.length ≤ sizeLine := lineLe (by omega)
  refine Xs.cons (asg F (ev_call (sp_fspath B f2 f3) rm' F.inn rfl (by decide) (evl_cons' rfl (ss [115, 112, 108, 105, 116, 101, 120, 116]) (evl_cons' rfl (nm F.inn) evl_nil)) rfl) fun h₃ P₃ p₃ F₃ => ?_)
  refine Xs.cons (asg F₃ (ss [47]) fun h₄ P₄ p₄ F₄ => ?_)
  refine Xs.cons (asg F₄ (ss [46]) fun h₅ P₅ p₅ F₅ => ?_)
  refine Xs.cons (asg (d := .int (-1)) F₅ (Ev.cast (meth1 (nm F₅.inn) mRfind (nm F₅.inn) c_rfind) (by rw [rfind_T, lastc_none hs]; congr 1; omega)) fun h₆ P₆ p₆ F₆ => ?_)
  refine Xs.cons (asg F₆ (meth1 (nm F₆.inn) mRfind (nm F₆.inn) c_rfind) fun h₇ P₇ p₇ F₇ => ?_)
  have hrf := rfind_T l 46
  have hll := lastc_len 46 l
  by_cases hm : 46 ∈ l
  · obtain ⟨p, q, e, hq⟩ := last_cut hm
    have hlc : lastc 46 l = q := by rw [e]; exact lastc_cut hq
    have hlen : l.length = p.length + 1 + q.length := by rw [e]; simp; omega
    have hdot : Txt.rfind (T l) (T [46]) = p.length := by rw [hrf, hlc]; omega
    have hp : 0 < p.length := by
      cases p with
      | nil => rw [e] at hd; exact absurd rfl hd
      | cons x p => simp
    rw [hdot] at F₇
    have hst : stem0 l = l.take p.length := by unfold stem0; rw [if_pos hm, hlc]; congr 1; omega
    refine Xs.cons (x_if (b := true) F₇.refl' (Tst.cast (tcmp (nm F₇.inn) (nm F₇.inn) op_gtI) (by simp; omega)) (fun _ h₈ P₈ g₈ => ?_) (fun e => nomatch e))
    have F₈ := F₇.grow g₈
    refine Xs.cons (asg (d := .int 0) F₈ (bin (nm F₈.inn) ev_int op_addI) fun h₉ P₉ p₉ F₉ => ?_)
    refine Xs.cons (x_while (fun m h' => m = 0 ∧ h' = h₉) 0 ⟨rfl, rfl⟩ fun m h' ⟨em, eh⟩ => ?_)
    subst em eh
    refine ⟨P₉, true, F₉.refl', Tst.cast (tcmp (nm F₉.inn) (nm F₉.inn) op_ltI) (by simp; omega), fun _ h' P' g' => ?_, fun e => nomatch e⟩
    have F' := F₉.grow g'
    obtain ⟨x, r, hx⟩ : ∃ x r, l = x :: r := by
      cases l with
      | nil => simp at hm
      | cons x r => exact ⟨x, r, rfl⟩
    have hx46 : x ≠ 46 := fun z => hd (by rw [hx, z]; rfl)
    refine Xs.cons (x_if (b := true) F'.refl' (Tst.cast (tcmp (cutS_mid (nm F'.inn) (nm F'.inn) (bin (nm F'.inn) ev_int op_addI) hz1) (nm F'.inn) op_neS) ?_) (fun _ h₁₀ P₁₀ g₁₀ => ?_) (fun e => nomatch e))
    · have : psl l (some 0) (some (0 + 1)) = [x] := by
        have := psl_mid' l 0 1 (Nat.zero_le _)
        rw [hx] at this ⊢
        exact this
      rw [this]
      simpa using hx46
    · have F₁₀ := F'.grow g₁₀
      refine Xs.cons (x_ret F₁₀.refl' (R := RepR (.tup [.str (stem0 l), .str (ext0 l)])) (ev_tuple (evl_cons' rfl (Ev.cast (cutS_to (nm F₁₀.inn) (nm F₁₀.inn) hz1) ?_) (evl_cons' rfl (Ev.cast (cutS_from (nm F₁₀.inn) (nm F₁₀.inn) hz1) ?_) evl_nil)) (by show 2 ≤ sizeLine; decide)) fun v h' P' g' r => ⟨P', F₁₀.gr.trans g', r⟩)
      · rw [hst, psl_upto]
      · unfold ext0; rw [if_pos hm, hlc, show l.length - q.length - 1 = p.length by omega]
  · have hdot : Txt.rfind (T l) (T [46]) = -1 := by rw [hrf, lastc_none hm]; omega
    rw [hdot] at F₇
    have hst : stem0 l = l := by unfold stem0; rw [if_neg hm]
    refine Xs.cons (x_if (b := false) F₇.refl' (tcmp (nm F₇.inn) (nm F₇.inn) op_gtI) (fun e => nomatch e) (fun _ h₈ P₈ g₈ => Xs.nil ?_))
    have F₈ := F₇.grow g₈
    refine Xs.cons (x_ret F₈.refl' (R := RepR (.tup [.str (stem0 l), .str (ext0 l)])) (ev_tuple (evl_cons' rfl (Ev.cast (nm F₈.inn) (by rw [hst])) (evl_cons' rfl (Ev.cast (cutS_to (nm F₈.inn) ev_int hz1) (by unfold ext0; rw [if_neg hm])) evl_nil)) (by show 2 ≤ sizeLine; decide)) fun v h' P' g' r => ⟨P', F₈.gr.trans g', r⟩)

theorem ok_modname : DefOk (defAt 24) ["path"] [] := ⟨by decide, by decide, by decide, rfl, rfl, rfl⟩
theorem sp_modname (B : Bis S) {a b c d e : Addr} {cd ce cf cg ch : Value} (f : FnAt S "_modname" (defAt 24) a cd) (f1 : FnAt S "basename" (defAt 19) b ce) (f2 : FnAt S "splitext" (defAt 15) c cf) (f3 : FnAt S "_fspath" (defAt 14) d cg) (f4 : FnAt S "_kind" (defAt 13) e ch) {l : List Nat} (hz : l.length ≤ 1000) (hd : (lastc 47 l).head? ≠ some 46) :
    FnSpec w s0 S 4 "_modname" [.str l] (RepR (.str (stem0 (lastc 47 l)))) := by
  refine ⟨_, a, cd, f, fun A rm h P vs base rr => ?_⟩
  obtain ⟨v, rfl, _⟩ := RepL.one rr
  refine go_call (k := 3) (ds := [.str l]) f ok_modname rm base rr rfl (fun _ _ => rfl) fun h₁ P₁ L h₂ g F rm' => ?_
  have hll := lastc_len 47 l
  refine Xs.cons (asg F (ev_call (sp_basename B f1 f3 f4 hz) rm' F.inn rfl (by decide) (evl_cons' rfl (nm F.inn) evl_nil) rfl) fun h₃ P₃ p₃ F₃ => ?_)
  refine Xs.cons (x_unpack2 rm'.hh F₃ (.inl rfl) (.inl rfl) (ev_call (sp_splitext B f2 f3 f4 (l := lastc 47 l) (by omega) (lastc_free 47 l) hd) rm' F₃.inn rfl (by decide) (evl_cons' rfl (nm F₃.inn) evl_nil) rfl) (fun h₄ P₄ p₄ F₄ => ?_) rfl rfl)
  exact Xs.cons (x_ret F₄.refl' (R := RepR (.str (stem0 (lastc 47 l)))) (nm F₄.inn) fun v h' P' g' r => ⟨P', F₄.gr.trans g', r⟩)

theorem stem_eq (l : List Nat) : stem l = stem0 (lastc 47 l) := by
  unfold stem stem0
  show (if (spl 46 (lastc 47 l)).length > 1 then jn [46] (spl 46 (lastc 47 l)).dropLast else (spl 46 (lastc 47 l)).headD []) = _
  generalize lastc 47 l = b
  by_cases hm : 46 ∈ b
  · obtain ⟨p, q, rfl, hq⟩ := last_cut hm
    have h1 : 1 ≤ (spl 46 p).length := by
      have := List.length_pos_iff.mpr (spl_ne 46 p); omega
    rw [if_pos hm, lastc_cut hq, spl_cut hq, if_pos (by rw [List.length_append]; simp; omega), List.dropLast_concat, jn_spl, show (p ++ 46 :: q).length - q.length - 1 = p.length by simp; omega, List.take_left]
  · rw [if_neg hm, spl_whole 46 b hm]; rfl
end IK
end

/-! part C9 -/
section
open PySem PySem.W PyProof.Rows
set_option Elab.async false
set_option linter.unusedVariables false
namespace IK
section
variable {w : World} {s0 : Shared} {A : Around} {S : Sta} {env : Env} {ow : List Str} {h₀ h h' : Heap} {P₀ P P' : Pm} {n : List (Addr × Mo)} {ρ : List (Str × D)} {d : D} {a : Addr} {ds : List D} {K : Flow → Heap → Prop}
theorem ev_frozen {x : Str} {pos : Pos} (I : In S env ρ h P) (hx : ρ.lookup x = some (.ref a)) (r : Rep P (.lst ds) (.ref a)) (hc : plainName x := by decide) : Ev w s0 A env h P (.Name x pos) (.lst ds) :=
  Go.weak (ev_name I hx hc) fun v h₁ P₁ g rv => by cases rv; exact r.mono g.ext
theorem if_peek {x : Str} {c : Expr} {body orelse : List Stmt} {pos : Pos} (b : Bool) (F : Frm S env ow h₀ P₀ ((a, .lst ds) :: n) ρ h P) (hx : ρ.lookup x = some (.ref a))
    (hc : ∀ Pq, In S env ((x, .lst ds) :: ρ) h Pq → PLe P Pq → Tst w s0 A env h Pq c b)
    (kt : b = true → ∀ h' P', PLe P P' → Frm S env ow h₀ P₀ ((a, .lst ds) :: n) ρ h' P' → Xs w s0 A env body h' K) (kf : b = false → ∀ h' P', PLe P P' → Frm S env ow h₀ P₀ ((a, .lst ds) :: n) ρ h' P' → Xs w s0 A env orelse h' K) : X1 w s0 A env (.If c body orelse pos) h K := x_if_peek F hx hc kt kf
theorem pop {x : Str} {np apos pos spos : Pos} (F : Frm S env ow h₀ P₀ ((a, .lst ds) :: n) ρ h P) (hx : ρ.lookup x = some (.ref a)) (hz : ds.length ≤ sizeLine) (hne : ds ≠ []) (hfl : ∀ d ∈ ds, d.flat = true)
    (k : ∀ h' P', PLe P P' → Frm S env ow h₀ P₀ ((a, .lst ds.dropLast) :: n) ρ h' P' → K .next h')
    (hd : plainName x := by decide) (hline : (apos.endLine == pos.line) = true := by rfl) (hi : interactive env = false := by rfl) (hs : swapsWith (.Call (.Attribute (.Name x np) "pop" apos) [] [] pos) none spos.line env = pure false := by rfl) :
    X1 w s0 A env (.Expr (.Call (.Attribute (.Name x np) "pop" apos) [] [] pos) spos) h K := x_pop F hx hd hz hne hfl k (base_ok rfl) (few_ok rfl (by simp)) hline hi hs
end
variable {w : World} {s0 : Shared} {S : Sta}
set_option maxRecDepth 100000

theorem ok_shelf : DefOk (defAt 17) ["s"] [] := ⟨by decide, by decide, by decide, rfl, rfl, rfl⟩
theorem sp_shelf {a : Addr} {cd : Value} (f : FnAt S "_shelf_fresh" (defAt 17) a cd) {l : List Nat} (hz : l.length ≤ 2000) : FnSpec w s0 S 1 "_shelf_fresh" [.str l] (RepR (.str l)) := by
  refine ⟨_, a, cd, f, fun A rm h P vs base r => ?_⟩
  obtain ⟨v, rfl, _⟩ := RepL.one r
  refine go_call (k := 0) (ds := [.str l]) f ok_shelf rm base r rfl (fun _ _ => rfl) fun h₁ P₁ L h₂ g F rm' => ?_
  refine Xs.cons (x_ret F.refl' (R := RepR (.str l)) (Ev.cast (cutS_to (bin (nm F.inn) (ss [47]) (op_addS (lineLe (by simp; omega)))) (ev_neg ev_int) (lineLe (by simp; omega))) ?_) fun v h' P' g' r => ⟨P', F.gr.trans g', r⟩)
  rw [psl_dropLast, List.dropLast_concat]

theorem ok_splitroot : DefOk (defAt 18) ["p"] [] := ⟨by decide, by decide, by decide, rfl, rfl, rfl⟩
theorem sp_splitroot {a b : Addr} {cd ce : Value} (f : FnAt S "_splitroot" (defAt 18) a cd) (f2 : FnAt S "_shelf_fresh" (defAt 17) b ce) {l : List Nat} (hz : l.length ≤ 2000) (h47 : l.take 1 ≠ [47]) :
    FnSpec w s0 S 2 "_splitroot" [.str l] (RepR (.tup [.str [], .str [], .str l])) := by
  refine ⟨_, a, cd, f, fun A rm h P vs base r => ?_⟩
  obtain ⟨v, rfl, _⟩ := RepL.one r
  refine go_call (k := 1) (ds := [.str l]) f ok_splitroot rm base r rfl (fun _ _ => rfl) fun h₁ P₁ L h₂ g F rm' => ?_
  refine Xs.cons (asg F (ss [47]) fun h₃ P₃ p₃ F₃ => ?_)
  refine Xs.cons (asg F₃ (ss []) fun h₄ P₄ p₄ F₄ => ?_)
  refine Xs.cons (x_if (b := true) F₄.refl' (Tst.cast (tcmp (cutS_to (nm F₄.inn) ev_int (lineLe (by omega))) (nm F₄.inn) op_neS) ?_) (fun _ h₅ P₅ g₅ => ?_) (fun e => nomatch e))
  · rw [show psl l none (some 1) = l.take 1 from psl_upto l 1]; simpa using h47
  have F₅ := F₄.grow g₅
  exact Xs.cons (x_ret F₅.refl' (R := RepR (.tup [.str [], .str [], .str l])) (ev_tuple (evl_cons' rfl (nm F₅.inn) (evl_cons' rfl (nm F₅.inn) (evl_cons' rfl (ev_call (sp_shelf f2 hz) rm' F₅.inn rfl (by decide) (evl_cons' rfl (nm F₅.inn) evl_nil) rfl) evl_nil))) (by show 3 ≤ sizeLine; decide)) fun v h' P' g' r => ⟨P', F₅.gr.trans g', r⟩)

/-! _normpath -/
noncomputable def nstep (acc : List (List Nat)) (c : List Nat) : List (List Nat) :=
  if c = [] ∨ c = [46] then acc else if c ≠ [46, 46] ∨ acc = [] ∨ acc.getLastD [] = [46, 46] then acc ++ [c] else acc.dropLast
noncomputable def norm (p : List Nat) : List Nat := let q := jn [47] ((spl 47 p).foldl nstep []); if q = [] then [46] else q
theorem nstep_len (acc : List (List Nat)) (c : List Nat) : (nstep acc c).length ≤ acc.length + 1 := by
  unfold nstep
  split
  · omega
  · split
    · simp
    · rw [List.length_dropLast]; omega
theorem nfold_len : ∀ (cs acc : List (List Nat)), (cs.foldl nstep acc).length ≤ acc.length + cs.length
  | [], acc => Nat.le_refl _
  | c :: cs, acc => by
    have := nfold_len cs (nstep acc c)
    have h2 := nstep_len acc c
    simp only [List.foldl_cons, List.length_cons]; omega
theorem nstep_mem {acc : List (List Nat)} {c x : List Nat} (h : x ∈ nstep acc c) : x ∈ acc ∨ x = c := by
  unfold nstep at h
  split at h
  · exact .inl h
  · split at h
    · rcases List.mem_append.mp h with h | h
      · exact .inl h
      · exact .inr (List.mem_singleton.mp h)
    · exact .inl (List.dropLast_subset _ h)
theorem nfold_mem : ∀ (cs acc : List (List Nat)) {x : List Nat}, x ∈ cs.foldl nstep acc → x ∈ acc ∨ x ∈ cs
  | [], acc, x, h => .inl h
  | c :: cs, acc, x, h => by
    rcases nfold_mem cs (nstep acc c) h with h | h
    · rcases nstep_mem h with h | h
      · exact .inl h
      · exact .inr (h ▸ .head _)
    · exact .inr (.tail _ h)

theorem ok_norm : DefOk (defAt 20) ["path"] [] := ⟨by decide, by decide, by decide, rfl, rfl, rfl⟩
theorem sp_norm {a b c : Addr} {cd ce cf : Value} (f : FnAt S "_normpath" (defAt 20) a cd) (f1 : FnAt S "_splitroot" (defAt 18) b ce) (f2 : FnAt S "_shelf_fresh" (defAt 17) c cf) {l : List Nat} (hz : l.length ≤ 1200) (h47 : l.take 1 ≠ [47]) (hne : l ≠ []) (hnl : (norm l).length ≤ 2000) :
    FnSpec w s0 S 3 "_normpath" [.str l] (RepR (.str (norm l))) := by
  refine ⟨_, a, cd, f, fun A rm h P vs base r => ?_⟩
  obtain ⟨v, rfl, _⟩ := RepL.one r
  refine go_call (k := 2) (ds := [.str l]) f ok_norm rm base r rfl (fun _ _ => rfl) fun h₁ P₁ L h₂ g F rm' => ?_
  have hh := rm'.hh
  refine Xs.cons (asg F (ss [47]) fun h₃ P₃ p₃ F₃ => ?_)
  refine Xs.cons (asg F₃ (ss [46]) fun h₄ P₄ p₄ F₄ => ?_)
  refine Xs.cons (asg F₄ (ss [46, 46]) fun h₅ P₅ p₅ F₅ => ?_)
  refine Xs.cons (x_if (b := false) F₅.refl' (Tst.cast (tst_not (tpl (nm F₅.inn) (tru_str (lineLe (by omega))))) (by cases l <;> simp at hne ⊢)) (fun e => nomatch e) (fun _ h₆ P₆ g₆ => Xs.nil ?_))
  have F₆ := F₅.grow g₆
  refine Xs.cons (x_unpack3 hh F₆ (.inl rfl) (.inl rfl) (.inl rfl) (ev_call (sp_splitroot f1 f2 (by omega) h47) rm' F₆.inn rfl (by decide) (evl_cons' rfl (nm F₆.inn) evl_nil) rfl) (fun h₇ P₇ p₇ F₇ => ?_) rfl rfl)
  refine Xs.cons (asg F₇ (meth1 (nm F₇.inn) mSplit (nm F₇.inn) (c_split1 (lineLe (by omega)))) fun h₈ P₈ p₈ F₈ => ?_)
  refine Xs.cons (x_newlist F₈ (.inl rfl) evl_nil (Nat.zero_le _) (fun a' h₉ P₉ p₉ F₉ => ?_) rfl)
  let ac : Nat → List (List Nat) := fun i => ((spl 47 l).take i).foldl nstep []
  have hsl := spl_len 47 l
  have hac : ∀ i, (ac i).length ≤ 1300 := fun i => by
    have := nfold_len ((spl 47 l).take i) []
    simp only [List.length_nil, List.length_take] at this
    show (((spl 47 l).take i).foldl nstep []).length ≤ 1300
    omega
  refine Xs.cons (x_for ((spl 47 l).map .str) (fun i => [(a', .lst ((ac i).map .str))]) (fun _ => [("new_comps", .ref a'), ("initial_slashes", .str []), ("dotdot", .str [46, 46]), ("dot", .str [46]), ("sep", .str [47])])
    (F₉.sub (.cons rfl (.cons rfl (.cons rfl (.cons rfl (.cons rfl .nil)))))) (ibl_list hh (nm F₉.inn)) (.inl rfl) (fun _ => rfl) (fun i d m hA PA hd hP FA => ?_) fun hA PA hP FA => ?_)
  · rw [List.getElem?_map] at hd
    obtain ⟨c, hc, rfl⟩ := Option.map_eq_some_iff.mp hd
    have hcl : c.length ≤ 1300 := Nat.le_trans (spl_mem_len 47 l c (List.mem_of_getElem? hc)) (by omega)
    have hstep : ac (i + 1) = nstep (ac i) c := by
      show ((spl 47 l).take (i + 1)).foldl nstep [] = _
      rw [List.take_add_one, hc, List.foldl_append]; rfl
    have hfz : ((ac i).map D.str).length ≤ sizeLine := lineLe (by have := hac i; rw [List.length_map]; omega)
    refine Xs.cons (x_if (b := c.isEmpty || (c == [46])) FA.refl' (Tst.cast (tst_or (tst_not (tpl (nm FA.inn) (tru_str (lineLe (by omega))))) fun _ => tcmp (nm FA.inn) (nm FA.inn) op_eqS) (by rw [Bool.not_not])) (fun e hB PB gB => ?_) (fun e hB PB gB => Xs.nil ?_))
    · have FB := FA.grow gB
      refine Xs.cons (x_cont ⟨PB, gB.ext, ?_⟩)
      have e' : c = [] ∨ c = [46] := by
        rcases Bool.or_eq_true_iff.mp e with q | q
        · exact .inl (List.isEmpty_iff.mp q)
        · exact .inr (eq_of_beq q)
      have : ac (i + 1) = ac i := by rw [hstep]; unfold nstep; rw [if_pos e']
      rw [this]
      exact FB.sub (.cons rfl (.cons rfl (.cons rfl (.cons rfl (.cons rfl .nil)))))
    · have FB : Frm S (fenv "_normpath" (defAt 20) L a cd) [] h₁ P₁ ((a', .lst ((ac i).map .str)) :: m) [("comp", .str c), ("new_comps", .ref a'), ("initial_slashes", .str []), ("dotdot", .str [46, 46]), ("dot", .str [46]), ("sep", .str [47])] hB PB := FA.grow gB
      have e' : ¬ (c = [] ∨ c = [46]) := fun q => by
        have : (c.isEmpty || (c == [46])) = true := by
          rcases q with q | q <;> subst q <;> rfl
        rw [this] at e; cases e
      refine Xs.cons (if_peek (x := "new_comps") (decide (c ≠ [46, 46] ∨ ac i = [] ∨ (ac i).getLastD [] = [46, 46])) FB rfl (fun Pq I hq => ?_) (fun e2 hC PC pC FC => ?_) (fun e2 hC PC pC FC => ?_))
      · refine Tst.cast (tst_or3 (b := c != [46, 46]) (c := (ac i).isEmpty) (a := !(ac i).isEmpty && (ac i).getLastD [] == [46, 46]) (tcmp (nm I) (nm I) op_neS) (fun _ => Tst.cast (tst_and (b := true) (c := (ac i).isEmpty) (Tst.cast (tst_not (tpl (nm I) (tru_str (Nat.zero_le _)))) rfl) fun _ => Tst.cast (tst_not (tpl (nm I) (tru_lst hfz))) (by rw [Bool.not_not, List.isEmpty_map])) (by rw [Bool.true_and]))
          (fun _ _ => tst_and (Tst.cast (tpl (nm I) (tru_lst hfz)) (by rw [List.isEmpty_map])) fun hne' => tcmp (d₁ := .str ((ac i).getLastD [])) (sub (nm I) (ev_neg ev_int) (op_itemLneg hfz (by decide) ?_ ?_)) (nm I) op_eqS)) ?_
        · have : ac i ≠ [] := fun z => by rw [z] at hne'; cases hne'
          have := List.length_pos_iff.mpr this
          rw [List.length_map]; omega
        · have : ac i ≠ [] := fun z => by rw [z] at hne'; cases hne'
          rw [List.length_map, List.getElem?_map, item_last this (d := [])]; rfl
        · rw [Bool.eq_iff_iff]
          simp only [Bool.or_eq_true, Bool.and_eq_true, decide_eq_true_eq, bne_iff_ne, Bool.not_eq_true', beq_iff_eq, List.isEmpty_iff]
          constructor
          · rintro (h | h | ⟨_, h⟩)
            · exact .inl h
            · exact .inr (.inl h)
            · exact .inr (.inr h)
          · rintro (h | h | h)
            · exact .inl h
            · exact .inr (.inl h)
            · by_cases z : ac i = []
              · exact .inr (.inl z)
              · exact .inr (.inr ⟨by cases hq : ac i with
                  | nil => exact absurd hq z
                  | cons => rfl, h⟩)
      · have e2' := of_decide_eq_true e2
        refine Xs.cons (append FC rfl (nm FC.inn) hfz fun hD PD pD FD => Xs.nil (Xs.nil ⟨PD, PLe.trans gB.ext (PLe.trans pC pD), ?_⟩))
        have : (ac (i + 1)).map D.str = (ac i).map D.str ++ [.str c] := by rw [hstep]; unfold nstep; rw [if_neg e', if_pos e2', List.map_append]; rfl
        rw [this]
        exact FD.sub (.cons rfl (.cons rfl (.cons rfl (.cons rfl (.cons rfl .nil)))))
      · have e2' := of_decide_eq_false e2
        have hne' : ac i ≠ [] := fun z => e2' (.inr (.inl z))
        have : (ac (i + 1)).map D.str = ((ac i).map D.str).dropLast := by rw [hstep]; unfold nstep; rw [if_neg e', if_neg e2', List.map_dropLast]
        refine Xs.cons (if_peek (x := "new_comps") true FC rfl (fun Pq I hq => Tst.cast (tpl (nm I) (tru_lst hfz)) (by rw [List.isEmpty_map]; cases hq : ac i with
          | nil => exact absurd hq hne'
          | cons => rfl)) (fun _ hD PD pD FD => ?_) (fun e => nomatch e))
        refine Xs.cons (pop FD rfl hfz (by simpa using hne') (fun d hd => by obtain ⟨x, _, rfl⟩ := List.mem_map.mp hd; rfl) fun hE PE pE FE => Xs.nil (Xs.nil (Xs.nil ⟨PE, PLe.trans gB.ext (PLe.trans pC (PLe.trans pD pE)), ?_⟩)))
        rw [this]
        exact FE.sub (.cons rfl (.cons rfl (.cons rfl (.cons rfl (.cons rfl .nil)))))
  · rw [List.length_map] at FA
    have eall : ac (spl 47 l).length = (spl 47 l).foldl nstep [] := by show ((spl 47 l).take _).foldl nstep [] = _; rw [List.take_length]
    obtain ⟨PB, FB, hPB, rB⟩ := Frm.freeze (n := []) FA
    refine Xs.cons (asg FB (ev_frozen FB.inn rfl rB) fun hC PC pC FC => ?_)
    have hlq := hac (spl 47 l).length
    rw [eall] at hlq FC
    have hmem : ∀ y ∈ (spl 47 l).foldl nstep [], y.length ≤ 1300 := fun y hy => by
      rcases nfold_mem _ _ hy with q | q
      · cases q
      · exact Nat.le_trans (spl_mem_len 47 l y q) (by omega)
    refine Xs.cons (asg (d := .str (jn [47] ((spl 47 l).foldl nstep []))) FC (Ev.cast (bin (nm FC.inn) (meth1 (nm FC.inn) mJoin (nm FC.inn) (c_join (B := 1300) hmem ?_)) (op_addS ?_)) rfl) fun hD PD pD FD => ?_)
    · simp only [List.length_cons, List.length_nil]; omega
    · unfold norm at hnl
      dsimp only at hnl
      refine lineLe ?_
      split at hnl
      · rename_i z; rw [z]; simp
      · simp only [List.length_nil]; omega
    have hql : (jn [47] ((spl 47 l).foldl nstep [])).length ≤ 2000 := by
      unfold norm at hnl
      dsimp only at hnl
      split at hnl
      · rename_i z; rw [z]; simp
      · exact hnl
    by_cases hq : jn [47] ((spl 47 l).foldl nstep []) = []
    · refine Xs.cons (x_if (b := true) FD.refl' (Tst.cast (tst_not (tpl (nm FD.inn) (tru_str (lineLe (by omega))))) (by rw [hq]; rfl)) (fun _ hE PE gE => ?_) (fun e => nomatch e))
      have FE := FD.grow gE
      exact Xs.cons (x_ret FE.refl' (R := RepR (.str (norm l))) (Ev.cast (nm FE.inn) (by unfold norm; dsimp only; rw [if_pos hq])) fun v h' P' g' r => ⟨P', FE.gr.trans g', r⟩)
    · refine Xs.cons (x_if (b := false) FD.refl' (Tst.cast (tst_not (tpl (nm FD.inn) (tru_str (lineLe (by omega))))) (by cases z : jn [47] ((spl 47 l).foldl nstep []) with
        | nil => exact absurd z hq
        | cons => rfl)) (fun e => nomatch e) (fun _ hE PE gE => Xs.nil ?_))
      have FE := FD.grow gE
      exact Xs.cons (x_ret FE.refl' (R := RepR (.str (norm l))) (Ev.cast (d := .str (jn [47] ((spl 47 l).foldl nstep []))) (ev_call (sp_shelf f2 hql) (rm'.less (by omega)) FE.inn rfl (by decide) (evl_cons' rfl (nm FE.inn) evl_nil) rfl) (by unfold norm; dsimp only; rw [if_neg hq])) fun v h' P' g' r => ⟨P', FE.gr.trans g', r⟩)
end IK
end

/-! part C10 -/
section
open PySem PySem.W PyProof.Rows
set_option Elab.async false
set_option linter.unusedVariables false
namespace IK
noncomputable abbrev emptyDict : Obj := { cls := .type "dict", data := .dict #[] }
section
variable {w : World} {s0 : Shared} {A : Around} {S : Sta} {h : Heap} {P : Pm}

/-- a call whose arguments are bound by more than a look -/
theorem go_callG {name : Str} {st : Stmt} {a : Addr} {cd : Value} {names ow : List Str} {vs : List Value} {k : Nat} {R : Value → Heap → Pm → Prop} {ds : Addr → List D} {X : Addr → Heap → Pm → Prop} {fd : FuncData}
    (hmg : ∃ o, S.hb.get? a = some o ∧ o.data = .func fd) (hfd : fd.scope = scoOf st ∧ fd.globals = mainGlobals ∧ fd.closure = [] ∧ fd.qualname = name ∧ fd.code = cd ∧ fd.builtins = builtinsNs ∧ fd.body = .stmts (bodyOf st)) (hcr : S.hb.CodeRec cd name) (ok : DefOk st names ow) (rm : Rm (k + 1) A)
    (base : ∀ b o, S.hb.get? b = some o → P b = some o) (hl : ∀ b, (ds b).length = names.length)
    (hb : ∀ A : Around, Go w s0 A h P (bindArgs fd ⟨vs, []⟩) (fun binds h' P' => ∃ us b, binds = names.zip us ∧ RepL P' (ds b) us ∧ X b h' P'))
    (body : ∀ b h₁ P₁ L h₂, Gr h P h₁ P₁ → X b h₁ P₁ → Frm S (fenv name st L a cd) ow h₁ P₁ [] (names.zip (ds b)) h₂ P₁ → Rm k (A.deeper (fenv name st L a cd)) →
      Xs w s0 (A.deeper (fenv name st L a cd)) (fenv name st L a cd) (bodyOf st) h₂ (fun fl h' => ∃ P', Gr h₁ P₁ h' P' ∧ R (match fl with | .ret v => v | _ => .none) h' P')) :
    Go w s0 A h P (call (.ref a) vs) R := by
  intro h₀ P₀ t₀ ht₀ g₀ Q E q
  obtain ⟨o, ho, hd⟩ := hmg
  obtain ⟨f1, f2, f3, f4, f5, f6, f7⟩ := hfd
  have top₀ : ∀ b o, S.hb.get? b = some o → h₀.get? b = some o := fun b o e => g₀.snd b o (g₀.ext b o (base b o e))
  have hcr' : h₀.CodeRec fd.code fd.qualname := by rw [f4, f5]; obtain ⟨c, oc, vs', tq, e1, e2, e3⟩ := hcr; exact ⟨c, oc, vs', tq, e1, top₀ _ _ e2, e3⟩
  refine wpAny_call (codeAny_call_function (s := stt s0 h₀ t₀) rm.room (top₀ _ _ ho) hd (by rw [f1]; exact ok.co) (by rw [f1]; exact ok.gen) f7 hcr' ?_)
  refine hb _ h₀ P₀ t₀ ht₀ g₀ _ _ fun binds h₁ P₁ t₁ ht₁ g₁ ⟨us, bb, eb, r, hX⟩ => ?_
  subst eb
  have g := g₀.trans g₁
  have top : ∀ b o, S.hb.get? b = some o → h₁.get? b = some o := fun b o e => g.snd b o (g.ext b o (base b o e))
  have hvl : us.length = names.length := r.length.trans (hl bb)
  rw [f1, f2, f3, f4, f5, f6]
  refine any_late (wpAny_newFunctionEnv_cells ok.fk ?_ fun env he s₁ ic late => ?_)
  · intro x hx
    have hx' : x.1 ∈ names := by rw [← map_zip_fst hvl]; exact List.mem_map_of_mem hx
    rcases ok.kinds _ hx' with e | ⟨e, _⟩
    · exact .inl e
    · exact .inr ⟨e, cellsFrom_some _ _ _ (.inl e)⟩
  · subst he
    obtain ⟨⟨⟨h₂, t₂, rfl⟩, ns, keep, fresh⟩, cell, apart, above⟩ := ic
    have ht₂ : 1 ≤ t₂ := Nat.le_trans ht₁ late.1
    have hsz : h₁.objs.size ≤ h₂.objs.size := late.2
    have noneP : ∀ b, h₁.objs.size ≤ b → P₁ b = none := fun b hb => none_new g.snd hb
    have gg : Gr h₁ P₁ h₂ P₁ := .same g.snd keep hsz
    have hnames : ((names.zip us).map (·.1)).Nodup := by rw [map_zip_fst hvl]; exact ok.nd
    refine ⟨S.lim.keeps fun b o e => keep _ _ (top b o e), codeAny_func ?_⟩
    have F : Frm S (fenv name st h₁.objs.size a cd) ow h₁ P₁ [] (names.zip (ds bb)) h₂ P₁ := by
      refine ⟨gg, ⟨fun x d e => ?_, fun b o e => g.ext b o (base b o e), gg.snd, ok.fk, rfl, rfl⟩, ⟨_, ns⟩, Nat.le_refl _, noneP _ (Nat.le_refl _), fun x hx => ?_, fun x c e => ?_, fun x y c e1 e2 => ?_, fun p hp => (nomatch hp), List.nodup_nil⟩
      · obtain ⟨v, hv, rv⟩ := zip_lookup r e
        refine ⟨v, rv, ?_⟩
        rcases ok.kinds x (lookup_mem_names e) with k1 | ⟨k1, hxo⟩
        · exact .inl ⟨k1, _, ns, bindL_in _ _ hnames hv k1⟩
        · obtain ⟨c, hc⟩ := Option.isSome_iff_exists.mp (cellsFrom_some (x := x) (scoOf st).names (h₁.objs.size + 1) [] (.inl k1))
          have := cell x c hc
          rw [bindC_in (names.zip us) (fun _ => none) hnames hv k1] at this
          exact .inr ⟨.inl k1, c, hc, this⟩
      · obtain ⟨c, hc⟩ := Option.isSome_iff_exists.mp (cellsFrom_some (x := x) (scoOf st).names (h₁.objs.size + 1) [] (.inl (ok.cells x hx)))
        have hlt : h₁.objs.size ≤ c := Nat.le_of_lt (above x c (mem_of_lookup hc))
        exact ⟨c, hc, ok.cells x hx, ⟨_, cell x c hc⟩, hlt, noneP _ hlt⟩
      · exact ⟨Nat.ne_of_gt (above x c (mem_of_lookup e)), (cell x c e).lt⟩
      · exact name_of_addr apart (mem_of_lookup e1) (mem_of_lookup e2)
    refine wpAny_mono (body bb h₁ P₁ h₁.objs.size h₂ g hX F (rm.deeper _) t₂ ht₂ (fun fl s' => ∃ h' t', s' = stt s0 h' t' ∧ 1 ≤ t' ∧ ∃ P', Gr h₁ P₁ h' P' ∧ R (match fl with | .ret v => v | _ => .none) h' P') (fun _ _ => False) fun fl h' t' ht' y => ⟨h', t', rfl, ht', y⟩) (fun fl s' y => ?_) fun _ _ y => y.elim
    obtain ⟨h', t', rfl, ht', P', g', rr⟩ := y
    exact q _ h' P' t' ht' (g₁.trans g') rr

theorem tru_emptyDict {b : Addr} (h2 : 2 ≤ b) (hP : P b = some emptyDict) : Go w s0 A h P (truthy (.ref b)) (BoolR false) := fun h₁ P₁ t ht g Q E q => by
  refine wpAny_truthy_dict (knd := PySem.strKind pg w) (kvs := []) (s := stt s0 h₁ t) (beq_eq_false_iff_ne.mpr fun z => by rw [z] at h2; exact absurd h2 (by decide)) ⟨_, #[], 0, g.snd _ _ (g.ext _ _ hP), ⟨rfl, rfl, rfl⟩, rfl, fun _ he => by simp at he, Pairs.nil, List.nodup_nil⟩ (by decide) (q _ h₁ P₁ (t + 1 + 1) (Nat.succ_pos _) (.refl g.snd) rfl)
end
end IK
end

/-! part C11 -/
section
open PySem PySem.W PyProof.Rows
set_option Elab.async false
set_option linter.unusedVariables false
namespace IK
variable {w : World} {s0 : Shared} {S : Sta}
set_option maxRecDepth 100000

section
variable {A : Around} {env : Env} {h : Heap} {P : Pm} {ρ : List (Str × D)}
theorem tst_empty {x : Str} {b : Addr} {pos : Pos} (I : In S env ρ h P) (hx : ρ.lookup x = some (.ref b)) (h2 : 2 ≤ b) (hP : P b = some emptyDict) (hc : plainName x := by decide) : Tst w s0 A env h P (.Name x pos) false := by
  show Go w s0 A h P (do let v ← eval (.Name x pos) env; standAt pos; holding [v] (truthy v)) _
  exact (ev_name I hx hc).bind fun v h₁ P₁ g r => Go.standAt.bind fun _ h₂ P₂ g₂ _ => Go.holding (by cases r; exact tru_emptyDict h2 (g₂.ext _ _ (g.ext _ _ hP)))
theorem go_bindStar {fd : FuncData} {l : List Nat} {v : Value} (hs : Snd P h) (r : Rep P (.str l) v) (hfd : ∀ v, bindArgs fd ⟨[v], []⟩ = (newTuple [v] >>= fun t => alloc emptyDict >>= fun d => pure [(Str.ofString "args", t), (Str.ofString "kwargs", .ref d)])) (h2 : 2 ≤ h.objs.size) :
    Go w s0 A h P (bindArgs fd ⟨[v], []⟩) (fun binds h' P' => ∃ us b, binds = (["args", "kwargs"] : List Str).zip us ∧ RepL P' [.tup [.str l], .ref b] us ∧ (2 ≤ b ∧ P' b = some emptyDict)) := by
  rw [hfd]
  refine (go_newTuple (ds := [.str l]) hs (.cons r .nil) (by show 1 ≤ sizeLine; decide)).bind fun t h₁ P₁ g₁ r₁ => fun h₂ P₂ k hk g₂ Q E q => ?_
  refine wpAny_bind (wpAny_alloc (wpAny_pure (q _ _ (P₂.put h₂.objs.size emptyDict) k hk (.pushFrz g₂.snd _ rfl) ⟨[t, .ref h₂.objs.size], h₂.objs.size, rfl, .cons ((r₁.mono g₂.ext).mono (Gr.pushFrz g₂.snd emptyDict rfl).ext) (.cons rfl .nil), ?_, Pm.put_self ..⟩)))
  exact Nat.le_trans h2 (Nat.le_trans g₁.sz g₂.sz)
end

theorem ok_cpath : DefOk (defAt 16) ["name", "cname", "argname", "args", "kwargs"] [] := ⟨by decide, by decide, by decide, rfl, rfl, rfl⟩
theorem go_cpath (B : Bis S) {a c : Addr} {cd ce : Value} (f : FnAt S "_c_path" (defAt 16) a cd) (f2 : FnAt S "_kind" (defAt 13) c ce) {A : Around} {h : Heap} {P : Pm} {vs : List Value} {n1 n2 n3 l : List Nat} {b : Addr} (rm : Rm 2 A) (base : ∀ b o, S.hb.get? b = some o → P b = some o)
    (r : RepL P [.str n1, .str n2, .str n3, .tup [.str l], .ref b] vs) (h2 : 2 ≤ b) (hb : P b = some emptyDict) : Go w s0 A h P (call (.ref a) vs) (RepR (.str l)) := by
  obtain ⟨v1, q1, e1, _, r1⟩ := r
  obtain ⟨v2, q2, rfl, _, r2⟩ := id r1
  obtain ⟨v3, q3, rfl, _, r3⟩ := id r2
  obtain ⟨v4, v5, rfl, _⟩ := r3.two
  subst e1
  refine go_call (k := 1) (ds := [.str n1, .str n2, .str n3, .tup [.str l], .ref b]) f ok_cpath rm base ⟨_, _, rfl, by assumption, r1⟩ rfl (fun _ _ => rfl) fun h₁ P₁ L h₂ g F rm' => ?_
  have hb₁ := g.ext _ _ hb
  refine Xs.cons (x_if (b := true) F.refl' (Tst.cast (tst_and (b := true) (c := true) (tcmp (bcall1 B F.inn len_in (nm F.inn) (c_lenT (by show 1 ≤ sizeLine; decide))) ev_int op_eqI) (fun _ => Tst.cast (tst_not (tst_empty F.inn rfl h2 hb₁)) rfl)) rfl) (fun _ h₃ P₃ g₃ => ?_) (fun e => nomatch e))
  have F₃ := F.grow g₃
  refine Xs.cons (asg (d := .str l) F₃ (sub (nm F₃.inn) ev_int (op_itemT (j := 0) (by show 1 ≤ sizeLine; decide) (by rfl) (by decide) (by decide) rfl)) fun h₄ P₄ p₄ F₄ => Xs.nil ?_)
  refine Xs.cons (asg F₄ (ev_call (sp_kind B f2) rm' F₄.inn rfl (by decide) (evl_cons' rfl (nm F₄.inn) (evl_cons' rfl (nm F₄.inn) evl_nil)) rfl) fun h₅ P₅ p₅ F₅ => ?_)
  refine Xs.cons (x_if (b := false) F₅.refl' (tpl (nm F₅.inn) (tru_str (Nat.zero_le _))) (fun e => nomatch e) (fun _ h₆ P₆ g₆ => Xs.nil ?_))
  have F₆ := F₅.grow g₆
  exact Xs.cons (x_ret F₆.refl' (R := RepR (.str l)) (nm F₆.inn) fun v h' P' g' r => ⟨P', F₆.gr.trans g', r⟩)

theorem base_two {h : Heap} {P : Pm} (s : Snd P h) (base : ∀ b o, S.hb.get? b = some o → P b = some o) : 2 ≤ h.objs.size := by
  obtain ⟨o, es, ep, e, _⟩ := S.g
  have := Heap.lt_size (s _ _ (base _ _ e))
  exact Nat.le_trans (by decide) (Nat.le_of_lt this)

theorem ok_normpath : DefOk (defAt 21) ["args", "kwargs"] [] := ⟨by decide, by decide, by decide, rfl, rfl, rfl⟩
theorem sp_normpath (B : Bis S) {a c d e x : Addr} {cd ce cf cg ch : Value} (f : FnAt S "normpath" (defAt 21) a cd) (f1 : FnAt S "_c_path" (defAt 16) c ce) (f2 : FnAt S "_kind" (defAt 13) d cf) (f3 : FnSpec w s0 S 3 "_normpath" [.str l] (RepR (.str (norm l)))) :
    FnSpec w s0 S 4 "normpath" [.str l] (RepR (.str (norm l))) := by
  refine ⟨_, a, cd, f, fun A rm h P vs base rr => ?_⟩
  obtain ⟨v, rfl, rv⟩ := RepL.one rr
  intro h₀ P₀ t₀ ht₀ g₀
  have base₀ : ∀ b o, S.hb.get? b = some o → P₀ b = some o := fun b o e => g₀.ext b o (base b o e)
  obtain ⟨o, pm, doc, ho, hd⟩ := f.ob
  refine go_callG (k := 3) (ds := fun b => [.tup [.str l], .ref b]) (X := fun b h' P' => 2 ≤ b ∧ P' b = some emptyDict) ⟨o, ho, hd⟩ ⟨rfl, rfl, rfl, rfl, rfl, rfl, rfl⟩ f.cr ok_normpath rm base₀ (fun _ => rfl)
    (fun A => go_bindStar g₀.snd (rv.mono g₀.ext) (fun v => rfl) (base_two g₀.snd base₀)) (fun b h₁ P₁ L h₂ g ⟨h2, hP⟩ F rm' => ?_) h₀ P₀ t₀ ht₀ (.refl g₀.snd)
  refine Xs.cons (x_ret F.refl' (R := RepR (.str (norm l))) (ev_call f3 rm' F.inn rfl (by decide) (evl_cons' rfl ?_ evl_nil) rfl) fun v h' P' g' r => ⟨P', F.gr.trans g', r⟩)
  obtain ⟨o1, pm1, doc1, ho1, hd1⟩ := f1.ob
  exact ev_callF (ds := [.str [110, 111, 114, 109, 112, 97, 116, 104], .str [95, 112, 97, 116, 104, 95, 110, 111, 114, 109, 112, 97, 116, 104], .str [112, 97, 116, 104], .tup [.str l], .ref b]) F.inn rfl f1.mg (by decide) ho1 hd1
    (evl_cons' rfl (ss _) (evl_cons' rfl (ss _) (evl_cons' rfl (ss _) (evl_cons' rfl (nm F.inn) (evl_cons' rfl (nm F.inn) evl_nil))))) rfl fun h₃ P₃ vs g₃ r₃ => go_cpath B f1 f2 (rm'.less (by omega)) (fun b o e => g₃.ext _ _ (F.inn.base b o e)) r₃ h2 (g₃.ext _ _ hP)
end IK
end

/-! part B35 -/
section
open PySem PySem.W PyProof.Rows
set_option Elab.async false
set_option linter.unusedVariables false
set_option maxRecDepth 100000
namespace IK
structure MethAt (S : Sta) (q : Str) (st : Stmt) (a : Addr) (cd : Value) : Prop where
  ob : ∃ o fd, S.hb.get? a = some o ∧ o.cls = .type "function" ∧ o.data = .func fd ∧ (fd.scope = scoOf st ∧ fd.globals = mainGlobals ∧ fd.closure = [] ∧ fd.qualname = q ∧ fd.code = cd ∧ fd.builtins = builtinsNs ∧ fd.body = .stmts (bodyOf st)) ∧
    fd.params = parOf st ∧ fd.kwdefaults = .none ∧ (fd.defaults = .none ∨ ∃ dT oT, fd.defaults = .ref dT ∧ S.hb.get? dT = some oT ∧ TO oT [.none, .none])
  cr : S.hb.CodeRec cd q

/-! Frm seen through objects that are as they are -/
section
variable {w : World} {s0 : Shared} {A : Around} {S : Sta} {env : Env} {ow : List Str} {h₀ h h' : Heap} {P₀ P P' : Pm} {n m : List (Addr × Mo)} {ρ : List (Str × D)} {d : D} {K : Flow → Heap → Prop} {a : Addr} {p : Obj → Prop}
theorem Frm.peekIs (F : Frm S env ow h₀ P₀ ((a, .is p) :: n) ρ h P) :
    ∃ o Pq, p o ∧ h.get? a = some o ∧ Pq a = some o ∧ In S env ρ h Pq ∧ PLe P Pq ∧ (∀ h' P', Gr h Pq h' P' → ∃ P'', Frm S env ow h₀ P₀ ((a, .is p) :: n) ρ h' P'' ∧ PLe P P'' ∧ ∀ b o, b ≠ a → P' b = some o → P'' b = some o) := by
  obtain ⟨⟨o, e, lo⟩, l, q, aL, ac⟩ := F.led _ (.head _)
  have hext : PLe P (P.put a o) := fun b o' eb => by
    unfold Pm.put
    rw [if_neg fun z => by subst z; rw [q] at eb; cases eb]; exact eb
  have hsnd : Snd (P.put a o) h := fun b o' eb => by
    by_cases z : b = a
    · subst z; rw [Pm.put_self] at eb; rw [e]; exact eb
    · unfold Pm.put at eb; rw [if_neg z] at eb; exact F.gr.snd b o' eb
  refine ⟨o, P.put a o, lo, e, Pm.put_self .., ⟨fun y d' q' => ?_, fun b o' eb => hext _ _ (F.inn.base b o' eb), hsnd, F.inn.fk, F.inn.eg, F.inn.eb⟩, hext, fun h' P' g => ?_⟩
  · obtain ⟨u, ru, rd⟩ := F.inn.loc y d' q'
    exact ⟨u, ru.mono hext, rd⟩
  · let P'' : Pm := fun b => if b = a then none else P' b
    have hP : ∀ b o, b ≠ a → P' b = some o → P'' b = some o := fun b o hb eb => by show (if b = a then none else P' b) = _; rw [if_neg hb]; exact eb
    have hne : ∀ b o, P b = some o → b ≠ a := fun b o eb z => by subst z; rw [q] at eb; cases eb
    have hPP : PLe P P'' := fun b o eb => hP b o (hne b o eb) (g.ext b o (hext b o eb))
    have hback : ∀ b o, P'' b = some o → P' b = some o ∧ b ≠ a := fun b o eb => by
      have eb' : (if b = a then none else P' b) = some o := eb
      split at eb'
      · cases eb'
      · rename_i z; exact ⟨eb', z⟩
    have G : Gr h P h' P'' := ⟨g.up, hPP, fun b o eb => by
      obtain ⟨eb', hb⟩ := hback b o eb
      refine (g.new b o eb').imp (fun z => ?_) id
      unfold Pm.put at z; rw [if_neg hb] at z; exact z, fun b o eb => g.snd b o (hback b o eb).1, g.sz⟩
    exact ⟨P'', F.grow G, hPP, hP⟩
/-- an object of the ledger will not be changed any more -/
theorem Frm.freezeIs (F : Frm S env ow h₀ P₀ ((a, .is p) :: n) ρ h P) (hl : h₀.objs.size ≤ a) : ∃ P' o, Frm S env ow h₀ P₀ n ρ h P' ∧ PLe P P' ∧ P' a = some o ∧ p o := by
  obtain ⟨⟨o, e, lo⟩, l, q, aL, ac⟩ := F.led _ (.head _)
  have hext : ∀ b o', P b = some o' → (P.put a o) b = some o' := fun b o' eb => by
    unfold Pm.put
    rw [if_neg fun z => by subst z; rw [q] at eb; cases eb]; exact eb
  have hne : ∀ b, b ≠ a → (P.put a o) b = P b := fun b hb => by unfold Pm.put; rw [if_neg hb]
  have hsnd : Snd (P.put a o) h := fun b o' eb => by
    by_cases z : b = a
    · subst z; rw [Pm.put_self] at eb; rw [e]; exact eb
    · rw [hne b z] at eb; exact F.gr.snd b o' eb
  have hd := List.nodup_cons.mp F.dist
  refine ⟨P.put a o, o, ⟨⟨F.gr.up, fun b o' eb => hext _ _ (F.gr.ext b o' eb), fun b o' eb => ?_, hsnd, F.gr.sz⟩, ⟨fun y e q => ?_, fun b o' eb => hext _ _ (F.inn.base b o' eb), hsnd, F.inn.fk, F.inn.eg, F.inn.eb⟩,
    F.ns, F.lnew, ?_, fun y hy => ?_, F.clo, F.inj, fun p hp => ?_, hd.2⟩, hext, Pm.put_self .., lo⟩
  · by_cases z : b = a
    · subst z; exact .inr hl
    · rw [hne b z] at eb; exact F.gr.new b o' eb
  · obtain ⟨u, ru, rd⟩ := F.inn.loc y e q; exact ⟨u, ru.mono hext, rd⟩
  · rw [hne _ (Ne.symm aL)]; exact F.lP
  · obtain ⟨c2, e, k, ⟨u, h2⟩, l, q⟩ := F.own y hy
    exact ⟨c2, e, k, ⟨u, h2⟩, l, by rw [hne _ (ac _ _ e)]; exact q⟩
  · obtain ⟨⟨o2, e2, r2⟩, l2, q2, a2, b2⟩ := F.led p (.tail _ hp)
    exact ⟨⟨o2, e2, r2.mono hext⟩, l2, by rw [hne _ fun z => hd.1 (List.mem_map.mpr ⟨p, hp, z⟩)]; exact q2, a2, b2⟩
/-- behind a call that left a new object to the caller -/
theorem Frm.leftNew {m' : List (Addr × Mo)} {q : Obj → Prop} (F : Frm S env ow h₀ P₀ (n ++ m) ρ h P) (x : Left S h P m m' h' P') (ha : h.objs.size ≤ a) (hP : P' a = none) (ho : ∃ o, h'.get? a = some o ∧ q o) : Frm S env ow h₀ P₀ ((a, .is q) :: (n ++ m')) ρ h' P' := by
  have G := F.left x
  obtain ⟨mm, hmm⟩ := F.ns
  have hlt : ∀ b, b < h.objs.size → b ≠ a := fun b hb e => by rw [e] at hb; exact Nat.lt_irrefl _ (Nat.lt_of_lt_of_le hb ha)
  refine ⟨G.gr, G.inn, G.ns, G.lnew, G.lP, G.own, G.clo, G.inj, fun p hp => ?_, List.nodup_cons.mpr ⟨fun hq => ?_, G.dist⟩⟩
  · rcases List.mem_cons.mp hp with rfl | hp
    · exact ⟨ho, .of (Nat.le_trans F.gr.sz ha) _, hP, fun e => hlt _ hmm.lt e.symm, fun x c e => hlt _ (F.clo x c e).2⟩
    · exact G.led p hp
  · have e1 : (n ++ m').map (·.1) = (n ++ m).map (·.1) := by rw [List.map_append, List.map_append, x.1]
    rw [e1] at hq
    obtain ⟨p, hp, e⟩ := List.mem_map.mp hq
    obtain ⟨⟨o', e', _⟩, _⟩ := F.led p hp
    exact hlt _ (Heap.lt_size e') e

variable {env₀ : Env} {ow₀ : List Str} {ρ₀ : List (Str × D)}
theorem code_callM {q : Str} {st : Stmt} {a : Addr} {cd : Value} {names ow : List Str} {ds : List D} {vs : List Value} {k t : Nat} {R : Value → Heap → Pm → Prop} {Q : Value → Shared → Prop} {E : Value → Shared → Prop} (f : MethAt S q st a cd) (ok : DefOk st names ow) (rm : Rm (k + 1) A)
    (F₀ : Frm S env₀ ow₀ h₀ P₀ (n ++ m) ρ₀ h P) (hm : allIs m) (r : RepL P ds vs) (hl : ds.length = names.length)
    (hb : ∀ (fd : FuncData) (A : Around) (E : Value → Shared → Prop) (Q : List (Str × Value) → Shared → Prop), fd.params = parOf st → fd.kwdefaults = .none → (fd.defaults = .none ∨ ∃ dT oT, fd.defaults = .ref dT ∧ h.get? dT = some oT ∧ TO oT [.none, .none]) → Q (names.zip vs) (stt s0 h t) → wpAny (model pg w) A (bindArgs fd ⟨vs, []⟩) Q E (stt s0 h t)) (ht : 1 ≤ t)
    (body : ∀ L h₂, Frm S (fenv q st L a cd) ow (hideAll h (m.map (·.1))) P m (names.zip ds) h₂ P → h.objs.size ≤ h₂.objs.size → Rm k (A.deeper (fenv q st L a cd)) →
      Xs w s0 (A.deeper (fenv q st L a cd)) (fenv q st L a cd) (bodyOf st) h₂ (fun fl h' => ∃ P' m', Left S h P m m' h' P' ∧ R (match fl with | .ret v => v | _ => .none) h' P'))
    (kq : ∀ v h' P' m' t', 1 ≤ t' → Left S h P m m' h' P' → R v h' P' → Q v (stt s0 h' t')) : codeAny (model pg w) A (.call (.ref a) ⟨vs, []⟩) (fun r s' => match r with | .ok (.ret v) => Q v s' | .ok _ => False | .error e => E e s') (stt s0 h t) := by
  obtain ⟨o, fd, ho, _, hd, ⟨f1, f2, f3, f4, f5, f6, f7⟩, f8, f9, f10⟩ := f.ob
  have base : ∀ b o, S.hb.get? b = some o → P b = some o := F₀.inn.base
  have hsnd : Snd P h := F₀.gr.snd
  have top : ∀ b o, S.hb.get? b = some o → h.get? b = some o := fun b o e => hsnd b o (base b o e)
  have hvl : vs.length = names.length := r.length.trans hl
  have hcr : h.CodeRec fd.code fd.qualname := by rw [f4, f5]; obtain ⟨c, oc, vs', tq, e1, e2, e3⟩ := f.cr; exact ⟨c, oc, vs', tq, e1, top _ _ e2, e3⟩
  refine codeAny_call_function (s := stt s0 h t) rm.room (top _ _ ho) hd (by rw [f1]; exact ok.co) (by rw [f1]; exact ok.gen) f7 hcr ?_
  refine hb fd _ _ _ f8 f9 (f10.imp id fun ⟨dT, oT, e1, e2, e3⟩ => ⟨dT, oT, e1, top _ _ e2, e3⟩) ?_
  rw [f1, f2, f3, f4, f5, f6]
  refine any_late (wpAny_newFunctionEnv_cells ok.fk ?_ fun env he s₁ ic late => ?_)
  · intro x hx
    have hx' : x.1 ∈ names := by rw [← map_zip_fst hvl]; exact List.mem_map_of_mem hx
    rcases ok.kinds _ hx' with e | ⟨e, _⟩
    · exact .inl e
    · exact .inr ⟨e, cellsFrom_some _ _ _ (.inl e)⟩
  · subst he
    obtain ⟨⟨⟨h₂, t₂, rfl⟩, ns, keep, fresh⟩, cell, apart, above⟩ := ic
    have ht₂ : 1 ≤ t₂ := Nat.le_trans ht late.1
    have hsz : h.objs.size ≤ h₂.objs.size := late.2
    have noneP : ∀ b, h.objs.size ≤ b → P b = none := fun b hb => none_new hsnd hb
    have szx : (hideAll h (m.map (·.1))).objs.size = h.objs.size := hideAll_size ..
    have gg : Gr (hideAll h (m.map (·.1))) P h₂ P := ⟨fun b o e => keep b o (hideAll_sub _ _ e), fun _ _ e => e, fun _ _ e => .inl e, fun b o e => keep b o (hsnd b o e), by rw [szx]; exact hsz⟩
    have hnames : ((names.zip vs).map (·.1)).Nodup := by rw [map_zip_fst hvl]; exact ok.nd
    refine ⟨S.lim.keeps fun b o e => keep _ _ (top b o e), codeAny_func ?_⟩
    have hled : ∀ p ∈ m, ∃ o, h.get? p.1 = some o ∧ MoIs P o p.2 := fun p hp => (F₀.led p (List.mem_append_right _ hp)).1
    have F : Frm S (fenv q st h.objs.size a cd) ow (hideAll h (m.map (·.1))) P m (names.zip ds) h₂ P := by
      refine ⟨gg, ⟨fun x d e => ?_, base, gg.snd, ok.fk, rfl, rfl⟩, ⟨_, ns⟩, by rw [szx]; exact Nat.le_refl _, noneP _ (Nat.le_refl _), fun x hx => ?_, fun x c e => ?_, fun x y c e1 e2 => ?_, fun p hp => ?_, ?_⟩
      · obtain ⟨v, hv, rv⟩ := zip_lookup r e
        refine ⟨v, rv, ?_⟩
        rcases ok.kinds x (lookup_mem_names e) with k1 | ⟨k1, hxo⟩
        · exact .inl ⟨k1, _, ns, bindL_in _ _ hnames hv k1⟩
        · obtain ⟨c, hc⟩ := Option.isSome_iff_exists.mp (cellsFrom_some (x := x) (scoOf st).names (h.objs.size + 1) [] (.inl k1))
          have := cell x c hc
          rw [bindC_in (names.zip vs) (fun _ => none) hnames hv k1] at this
          exact .inr ⟨.inl k1, c, hc, this⟩
      · obtain ⟨c, hc⟩ := Option.isSome_iff_exists.mp (cellsFrom_some (x := x) (scoOf st).names (h.objs.size + 1) [] (.inl (ok.cells x hx)))
        have hlt : h.objs.size ≤ c := Nat.le_of_lt (above x c (mem_of_lookup hc))
        exact ⟨c, hc, ok.cells x hx, ⟨_, cell x c hc⟩, by rw [szx]; exact hlt, noneP _ hlt⟩
      · exact ⟨Nat.ne_of_gt (above x c (mem_of_lookup e)), (cell x c e).lt⟩
      · exact name_of_addr apart (mem_of_lookup e1) (mem_of_lookup e2)
      · obtain ⟨o, eo, ro⟩ := hled p hp
        have hlt : p.1 < h.objs.size := Heap.lt_size eo
        obtain ⟨qq, hq⟩ := hm p hp
        refine ⟨⟨o, keep _ _ eo, ro⟩, ?_, (F₀.led p (List.mem_append_right _ hp)).2.2.1, Nat.ne_of_lt hlt, fun x c e => Nat.ne_of_gt (Nat.lt_trans hlt (above x c (mem_of_lookup e)))⟩
        rw [hq]
        exact hideAll_in _ _ (List.mem_map_of_mem hp)
      · have := F₀.dist
        rw [List.map_append] at this
        exact (List.nodup_append.mp this).2.1
    refine wpAny_mono (body h.objs.size h₂ F hsz (rm.deeper _) t₂ ht₂ (fun fl s' => ∃ h' t', s' = stt s0 h' t' ∧ 1 ≤ t' ∧ ∃ P' m', Left S h P m m' h' P' ∧ R (match fl with | .ret v => v | _ => .none) h' P') (fun _ _ => False) fun fl h' t' ht' y => ⟨h', t', rfl, ht', y⟩) (fun fl s' y => ?_) fun _ _ y => y.elim
    obtain ⟨h', t', rfl, ht', P', m', ll, rr⟩ := y
    exact kq _ h' P' m' t' ht' ll rr
end
end IK
end

/-! part B36 -/
section
open PySem PySem.W PyProof.Rows
set_option Elab.async false
set_option linter.unusedVariables false
set_option maxRecDepth 100000
namespace IK
/-! the class _Ignore, its objects -/
noncomputable def rdNames : List String := ["__getattribute__", "__getattr__", "__setattr__", "_mods", "_dirs", "_ignore"]
structure RdC (w : World) (S : Sta) (C N fI fN : Addr) (cI cN : Value) (mN : Str → Option Value) : Prop where
  mg : S.mg "_Ignore" = some (.ref C)
  cls : PyProof.Rows.ClsAt S.hb C N mN
  i : mN "__init__" = some (.ref fI)
  n : mN "names" = some (.ref fN)
  no : ∀ x ∈ rdNames, mN (Str.ofString x) = none
  fi : MethAt S "_Ignore.__init__" (mthAt 0) fI cI
  fn : MethAt S "_Ignore.names" (mthAt 1) fN cN
  makes : ∀ h, (∀ b o, S.hb.get? b = some o → h.get? b = some o) → Makes (model pg w) h C
noncomputable def NsO (o : Obj) (m : Str → Option Value) : Prop := ∃ es ep, o.data = .dict es ep ∧ StrKeys es ∧ UniqKeys es ∧ ∀ name, nsFind es name = m name
noncomputable abbrev ixO (C dx : Addr) : Obj := { cls := .ref C, dict := some dx, data := .plain }
noncomputable def InstF (P : Pm) (a C : Addr) (mA : Str → Option Value) : Prop := ∃ dx od, P a = some (ixO C dx) ∧ dx ≠ a ∧ P dx = some od ∧ NsO od mA
theorem InstF.mono {P P' : Pm} {a C : Addr} {mA : Str → Option Value} (I : InstF P a C mA) (k : PLe P P') : InstF P' a C mA := let ⟨dx, od, x, y, z, v⟩ := I; ⟨dx, od, k _ _ x, y, k _ _ z, v⟩
theorem inst_of {h : Heap} {a C dx : Addr} {od : Obj} {mA : Str → Option Value} (e : h.get? a = some (ixO C dx)) (ne : dx ≠ a) (ed : h.get? dx = some od) (n : NsO od mA) : h.Inst a C mA := by
  obtain ⟨es, ep, d, k, u, f⟩ := n
  exact ⟨_, e, rfl, (fun c => nofun), .inr ⟨dx, rfl, ne, od, es, ep, ed, d, k, u, f⟩⟩
theorem InstF.inst {P : Pm} {h : Heap} {a C : Addr} {mA : Str → Option Value} (I : InstF P a C mA) (s : Snd P h) : h.Inst a C mA := by
  obtain ⟨dx, od, x, ne, y, n⟩ := I
  exact inst_of (s _ _ x) ne (s _ _ y) n

theorem lk_mods : typeLookup (.type "object") "_mods" = pure none := by rw [typeLookup_type, builtinLookup_eq_fast]; kernel_rfl
theorem lk_dirs : typeLookup (.type "object") "_dirs" = pure none := by rw [typeLookup_type, builtinLookup_eq_fast]; kernel_rfl
theorem lk_ignore : typeLookup (.type "object") "_ignore" = pure none := by rw [typeLookup_type, builtinLookup_eq_fast]; kernel_rfl
theorem lk_names : typeLookup (.type "object") "names" = pure none := by rw [typeLookup_type, builtinLookup_eq_fast]; kernel_rfl
theorem lk_init : typeLookup (.type "object") "__init__" = pure (some (.builtin "object.__init__")) := by rw [typeLookup_type, builtinLookup_eq_fast]; kernel_rfl
theorem lk_rd : ∀ x ∈ (["_mods", "_dirs", "_ignore"] : List String), typeLookup (.type "object") (Str.ofString x) = pure none := by
  intro x hx
  simp only [List.mem_cons, List.not_mem_nil, or_false] at hx
  rcases hx with rfl | rfl | rfl
  · exact lk_mods
  · exact lk_dirs
  · exact lk_ignore

section
variable {w : World} {s0 : Shared} {A : Around} {S : Sta} {env : Env} {ow : List Str} {h₀ h h' : Heap} {P₀ P P' : Pm} {n : List (Addr × Mo)} {ρ : List (Str × D)} {d : D} {K : Flow → Heap → Prop} {a : Addr} {C N fI fN : Addr} {cI cN : Value} {mN mA : Str → Option Value}
/-- x.attr, looked up in an object that is as it is -/
theorem ev_attr {x : Str} {attr : String} {xp pos : Pos} {v : Value} (R : RdC w S C N fI fN cI cN mN) (I : In S env ρ h P) (hx : ρ.lookup x = some (.ref a)) (hI : InstF P a C mA) (ha : attr ∈ (["_mods", "_dirs", "_ignore"] : List String)) (hv : mA (Str.ofString attr) = some v) (hh : handedOut v = pure v) (r : Rep P d v) (hc : plainName x := by decide) :
    Ev w s0 A env h P (.Attribute (.Name x xp) (Str.ofString attr) pos) d := by
  intro h₁ P₁ t ht g Q E q
  refine Attribute_Name_ ?_
  refine ev_name I hx hc h₁ P₁ t ht g _ E fun v' h₂ P₂ t₂ ht₂ g₂ r₂ => ?_
  cases r₂
  have top : ∀ b o, S.hb.get? b = some o → h₂.get? b = some o := fun b o e => (g.trans g₂).snd b o ((g.trans g₂).ext b o (I.base b o e))
  obtain ⟨nm, q', bs, sn, sub, col, dd, k0, k1, k2, k3, k5, hC⟩ := R.cls.obj
  have hr : attr ∈ rdNames := by
    simp only [List.mem_cons, List.not_mem_nil, or_false] at ha
    rcases ha with rfl | rfl | rfl <;> decide
  exact load_attr (h := h₂) (top _ _ hC) (R.cls.ns.keeps top) (R.no "__getattribute__" (by decide)) (R.no _ hr) (lk_rd _ ha) ((hI.mono (fun b o e => (g.trans g₂).ext b o e)).inst (g.trans g₂).snd) hv hh
    (q v h₂ P₂ (t₂ + 1) (Nat.succ_pos _) g₂ (r.mono (g.trans g₂).ext))
/-- self.attr = e, where self is the frame's -/
theorem x_setattrL {x : Str} {attr : String} {xp ap pos : Pos} {e : Expr} {dx : Addr} {ns : List Str} {RR : Value → Pm → Prop} (R : RdC w S C N fI fN cI cN mN) (ha : attr ∈ (["_mods", "_dirs", "_ignore"] : List String)) (hm : ∀ v P P', PLe P P' → RR v P → RR v P')
    (hx : ρ.lookup x = some (.ref a)) {n' : List (Addr × Mo)} (he : ∀ t, 1 ≤ t → ∀ (Q : Value → Shared → Prop) (E : Value → Shared → Prop), (∀ v h₁ P₁ t₁, 1 ≤ t₁ → PLe P P₁ → RR v P₁ → Frm S env ow h₀ P₀ ((a, .is (· = ixO C dx)) :: (dx, .is fun o => NsO o mA) :: n') ρ h₁ P₁ → Q v (stt s0 h₁ t₁)) → wpAny (model pg w) A (eval e env) Q E (stt s0 h t)) (hw : Within mA ns) (hz : ns.length ≤ 1000)
    (k : ∀ v h' P', PLe P P' → RR v P' → Frm S env ow h₀ P₀ ((a, .is (· = ixO C dx)) :: (dx, .is fun o => NsO o (fun y => if y = Str.ofString attr then some v else mA y)) :: n') ρ h' P' → K .next h') (hc : plainName x := by decide)
    (hs : swapsWith e (some (.Attribute (.Name x xp) (Str.ofString attr) ap)) pos.line env = pure false := by rfl) : X1 w s0 A env (.Assign [.Attribute (.Name x xp) (Str.ofString attr) ap] e pos) h K := by
  intro t ht Q E q
  refine plainObj_wpAny_Assign_Attribute ?_ hs
  refine he t ht _ E fun v h₁ P₁ t₁ ht₁ p₁ r₁ F => ?_
  refine ev_name F.inn hx hc h₁ P₁ t₁ ht₁ F.refl' _ E fun v' h₂ P₂ t₂ ht₂ g₂ r₂ => ?_
  cases r₂
  have F₂ := F.grow g₂
  have top : ∀ b o, S.hb.get? b = some o → h₂.get? b = some o := F₂.inn.top
  obtain ⟨nm, q', bs, sn, sub, col, dd, k0, k1, k2, k3, k5, hC⟩ := R.cls.obj
  obtain ⟨⟨ox, ex, rfl⟩, mx, px, _, _⟩ := F₂.led _ (.head _)
  obtain ⟨⟨od, ed, nd⟩, md, pd, _, _⟩ := F₂.led _ (.tail _ (.head _))
  have hd := List.nodup_cons.mp F₂.dist
  have hne : dx ≠ a := fun z => hd.1 (by simp [z])
  have hr : attr ∈ rdNames := by
    simp only [List.mem_cons, List.not_mem_nil, or_false] at ha
    rcases ha with rfl | rfl | rfl <;> decide
  have hxC : a ≠ C := fun z => by have := F₂.inn.base _ _ hC; rw [← z, px] at this; cases this
  refine any_late (store_attr (h := h₂) (ns := ns) PySem.F.store_object (top _ _ hC) (R.cls.ns.keeps top) (R.no "__setattr__" (by decide)) (R.no _ hr) (lk_rd _ ha) hxC (inst_of ex hne ed nd) (fun h' tk' I' keep same => fun late => ?_) hw (lineLe (by omega)))
  have ht' : 1 ≤ tk' := Nat.le_trans ht₂ late.1
  obtain ⟨o₁, e₁, c₁, dt₁, sl₁, dk₁⟩ := same _ ex
  have eo : o₁ = ixO C dx := by
    obtain ⟨oc, odi, oda, osl⟩ := o₁
    dsimp only at c₁ dt₁ sl₁ dk₁
    subst c₁ dt₁ sl₁
    rw [dk₁ dx rfl]
  subst eo
  have F₃ : Frm S env ow h₀ P₀ ((a, .is (· = ixO C dx)) :: (dx, .is fun o => NsO o (fun y => if y = Str.ofString attr then some v else mA y)) :: n') ρ h' P₂ := by
    have F' := F₂.perm (List.perm_append_comm (l₁ := [(a, Mo.is (· = ixO C dx)), (dx, Mo.is fun o => NsO o mA)]) (l₂ := n'))
    refine (Frm.but (m' := [(a, Mo.is (· = ixO C dx)), (dx, Mo.is fun o => NsO o (fun y => if y = Str.ofString attr then some v else mA y))]) F' (fun b o hb eb => ?_) late.2 rfl fun p hp => ?_).perm List.perm_append_comm
    · simp only [List.map_cons, List.map_nil, List.mem_cons, List.not_mem_nil, or_false, not_or] at hb
      exact keep b o hb.1 (fun o₀ d' e₀ ed' => by rw [ex] at e₀; cases e₀; cases ed'; exact hb.2) eb
    · simp only [List.mem_cons, List.not_mem_nil, or_false] at hp
      rcases hp with rfl | rfl
      · exact ⟨mx, _, e₁, rfl⟩
      · obtain ⟨o', e', _, _, hd'⟩ := I'
        rw [e₁] at e'; cases e'
        rcases hd' with ⟨hn0, _⟩ | ⟨d', hd', _, o2, es, ep, z1, z2, z3, z4, z5⟩
        · cases hn0
        · cases hd'
          exact ⟨md, o2, z1, es, ep, z2, z3, z4, z5⟩
  exact q .next h' tk' ht' (k v h' P₂ (fun b o e => g₂.ext b o (p₁ b o e)) (hm _ _ _ (fun b o e => g₂.ext b o e) r₁) F₃)
theorem x_setattr {x : Str} {attr : String} {xp ap pos : Pos} {e : Expr} {dx : Addr} {ns : List Str} {RR : Value → Pm → Prop} (R : RdC w S C N fI fN cI cN mN) (ha : attr ∈ (["_mods", "_dirs", "_ignore"] : List String)) (hm : ∀ v P P', PLe P P' → RR v P → RR v P')
    (F : Frm S env ow h₀ P₀ ((a, .is (· = ixO C dx)) :: (dx, .is fun o => NsO o mA) :: n) ρ h P) (hx : ρ.lookup x = some (.ref a)) (he : Go w s0 A h P (eval e env) (fun v _ P' => RR v P')) (hw : Within mA ns) (hz : ns.length ≤ 1000)
    (k : ∀ v h' P', PLe P P' → RR v P' → Frm S env ow h₀ P₀ ((a, .is (· = ixO C dx)) :: (dx, .is fun o => NsO o (fun y => if y = Str.ofString attr then some v else mA y)) :: n) ρ h' P' → K .next h') (hc : plainName x := by decide)
    (hs : swapsWith e (some (.Attribute (.Name x xp) (Str.ofString attr) ap)) pos.line env = pure false := by rfl) : X1 w s0 A env (.Assign [.Attribute (.Name x xp) (Str.ofString attr) ap] e pos) h K :=
  x_setattrL R ha hm hx (fun t ht Q E q => he h P t ht F.refl' Q E fun v h₁ P₁ t₁ ht₁ g₁ r₁ => q v h₁ P₁ t₁ ht₁ (fun b o e => g₁.ext b o e) r₁ (F.grow g₁)) hw hz k hc hs
/-- an object is made -/
theorem go_make {vs : List Value} {t : Nat} {Q : Value → Shared → Prop} {E : Value → Shared → Prop} (R : RdC w S C N fI fN cI cN mN) (F : Frm S env ow h₀ P₀ n ρ h P) (ht : 1 ≤ t)
    (k : ∀ x dx h' A', A'.depth ≤ A.depth + 1 → A'.units ≤ A.units + 1 → A'.handled = A.handled → h.objs.size ≤ x → h.objs.size ≤ dx → Frm S env ow h₀ P₀ ((x, .is (· = ixO C dx)) :: (dx, .is fun o => NsO o fun _ => none) :: n) ρ h' P →
      codeAny (model pg w) A' (.call (.ref fI) ⟨.ref x :: vs, []⟩) (fun r s' => match r with | .ok (.ret v) => v = .none ∧ Q (.ref x) s' | .ok _ => False | .error e => E e s') (stt s0 h' t)) : wpAny (model pg w) A (call (.ref C) vs) Q E (stt s0 h t) := by
  have top : ∀ b o, S.hb.get? b = some o → h.get? b = some o := F.inn.top
  obtain ⟨nm, q', bs, sn, sub, col, dd, k0, k1, k2, k3, k5, hC⟩ := R.cls.obj
  obtain ⟨oI, fd, eI, cI', _⟩ := R.fi.ob
  refine wpAny_call (make_core (init := .ref fI) (h := h) (R.makes h top) ?_ ?_ (.inl rfl) ?_)
  · intro A Q E s kk q
    obtain ⟨hh, g, d, t', os⟩ := s
    refine wpAny_typeLookup_exc (kk _ _ (top _ _ hC)) (R.cls.ns.keeps fun b o e => kk _ _ (top b o e)) PySem.F.mro_object lk_init ?_
    rw [R.i]; exact q
  · intro self A Q E s kk q
    unfold bindSpecial
    refine wpAny_bind (wpAny_typeOf ⟨oI, kk _ _ (top _ _ eI), cI'⟩ ?_)
    exact (show Looks (model pg w) h _ _ from Looks.of_pure (by kernel_rfl)) A Q E s kk q
  · have hw : (Code.builtin "type.__call__" ⟨.ref C :: vs, []⟩).weight = 1 := by rfl
    have hu : (Code.builtin "type.__call__" ⟨.ref C :: vs, []⟩).cUnits = 1 := by rfl
    have F1 := F.alloc (m := .is fun o => NsO o fun _ => none) (o := emptyDict) ⟨#[], 0, rfl, by intro e he; simp at he, by unfold UniqKeys; simp, fun _ => rfl⟩ rfl
    have F2 := F1.alloc (m := .is (· = ixO C h.objs.size)) (o := ixO C h.objs.size) rfl rfl
    rw [Heap.size_push] at F2
    exact k (h.objs.size + 1) h.objs.size _ _ (by show A.depth + _ ≤ _; rw [hw]; exact Nat.le_refl _) (by show A.units + _ ≤ _; rw [hu]; exact Nat.le_refl _) rfl (Nat.le_succ _) (Nat.le_refl _) F2
end
end IK
end

/-! part B37 -/
section
open PySem PySem.W PyProof.Rows
set_option Elab.async false
set_option linter.unusedVariables false
set_option maxRecDepth 100000
namespace IK
noncomputable abbrev setO (led : Bool) : Obj := { cls := .type "set", dict := none, data := .set #[] 0 (.fresh 0 0 led) }
noncomputable abbrev sitO (a : Addr) : Obj := { cls := .type "set_iterator", data := .fields #[rawInt 0, rawInt 0, .ref a, rawInt 0, rawInt 0] }
theorem meets_set_iter (a : Addr) (led : Bool) : Meets (Builtin.«frozenset.__iter__» ⟨[.ref a], []⟩) (fun _ R s => s.heap.get? a = some (setO led) ∧ R (.ok (.ret (.ref s.heap.objs.size))) { s with heap := s.heap.push (sitO a), toks := s.toks }) :=
  .of_wp fun prog w A R s h => by
    obtain ⟨hp, g, d, tk, os⟩ := s; obtain ⟨hl, h⟩ := h
    wp_walk using wpAny_loadPart' hl
    refine wpAny_askSetting ?_
    generalize Params.followText _ _ = b
    cases b
    all_goals (wp_walk using wpAny_loadPart' hl)
    all_goals exact ⟨_, rfl, h⟩
theorem slot_sit_next : Slot "set_iterator" "__next__" "set_iterator.__next__" :=
  .of (owner := "set_iterator") (n := "__next__") (by rw [typeLookup_type, builtinLookup_eq_fast]; kernel_rfl) (by decide +kernel) (by decide +kernel) (by decide +kernel)
    (by first | exact .inl (by decide +kernel) | exact .inr (by decide +kernel)) (by rw [isSubtype_type]; kernel_rfl)
theorem entry_sit_next : entryFor table "set_iterator.__next__" = some Builtin.«set_iterator.__next__» := entryFor_of_tree (by kernel_rfl)
theorem args_sit_next (a : Value) : argsOk "set_iterator.__next__" ⟨[a], []⟩ := by unfold argsOk; kernel_rfl
section
variable {w : World} {A : Around} {E : Value → Shared → Prop} {s : Shared}
set_option maxHeartbeats 4000000 in
theorem next_empty {it a : Addr} {led : Bool} {Q : Option Value → Shared → Prop} (hh : A.handled = none) (e1 : s.heap.get? it = some (sitO a)) (e2 : s.heap.get? a = some (setO led))
    (hQ : ∀ h', Heap.ExtBut it s.heap h' → Q none { s with heap := h' }) : wpAny (model pg w) A (pyNext (.ref it)) Q E s := by
  have hT : s.TypeIs (.ref it) "set_iterator" := ⟨_, e1, rfl⟩
  unfold pyNext
  refine wpAny_bind (wpAny_attempt (wpAny_callSpecial?_slot (name := Str.ofString "__next__") hT slot_sit_next
    (wpAny_call_entry slot_sit_next hT entry_sit_next ?_ (args_sit_next _))))
  obtain ⟨hp, g, d, tk, os⟩ := s
  dsimp only at e1 e2 hQ ⊢
  unfold Builtin.«set_iterator.__next__»
  wp_walk using wpAny_loadPart' e1, wpAny_loadPart' e2
  refine wpAny_askSetting ?_
  generalize Params.followText _ _ = b
  cases b
  · wp_walk using wpAny_loadPart' e1, wpAny_loadPart' e2
    simp only [raiseNew]
    refine wpAny_bind (wpAny_handled ?_)
    rw [show A.in1.handled = none from hh]
    refine wpAny_bind (wpAny_pure (wpAny_throw ?_))
    refine wpAny_bind (wpAny_isInstance (T := "StopIteration") (b := true) ⟨_, Heap.get?_push_size _ rfl, rfl⟩ isSubtype_stop ?_)
    exact wpAny_pure (hQ _ (((Heap.SameBut.update ..).extBut.push _).push _))
  · wp_walk using wpAny_loadPart' e1, wpAny_loadPart' e2
    refine wpAny_askSetting ?_
    generalize Params.followText _ _ = b
    have hp0 : ∀ f, pickOrder f (#[] : Array (Int × Value)) = #[] := fun _ => rfl
    cases b
    · wp_walk using wpAny_loadPart' e1, wpAny_loadPart' e2
      simp only [raiseNew]
      refine wpAny_bind (wpAny_handled ?_)
      rw [show A.in1.handled = none from hh]
      refine wpAny_bind (wpAny_pure (wpAny_throw ?_))
      refine wpAny_bind (wpAny_isInstance (T := "StopIteration") (b := true) ⟨_, Heap.get?_push_size _ rfl, rfl⟩ isSubtype_stop ?_)
      exact wpAny_pure (hQ _ (((Heap.SameBut.update ..).extBut.push _).push _))
    · refine wpAny_pure (wpAny_ite_true rfl ?_)
      refine wpAny_bind (wpAny_askSetting (wpAny_pure ?_))
      wp_walk using wpAny_loadPart' e1, wpAny_loadPart' e2
      simp only [raiseNew]
      refine wpAny_bind (wpAny_handled ?_)
      rw [show A.in1.handled = none from hh]
      refine wpAny_bind (wpAny_pure (wpAny_throw ?_))
      refine wpAny_bind (wpAny_isInstance (T := "StopIteration") (b := true) ⟨_, Heap.get?_push_size _ rfl, rfl⟩ isSubtype_stop ?_)
      exact wpAny_pure (hQ _ (((Heap.SameBut.update ..).extBut.push _).push _))
end
end IK
end

/-! part B38 -/
section
open PySem PySem.W PyProof.Rows
set_option Elab.async false
set_option linter.unusedVariables false
set_option maxRecDepth 100000
namespace IK
theorem entry_set_iter0 : entryFor table "set.__iter__" = some Builtin.«frozenset.__iter__» := entryFor_alias (id' := "frozenset.__iter__") (by kernel_rfl) rfl (by decide +kernel) (by kernel_rfl)
/-! what an object says of a text table -/
noncomputable def DcO (w : World) (kvs : List (Str × Value)) (o : Obj) : Prop := o.ExactDict ∧ ∃ es ep, o.data = .dict es ep ∧ KeysOf (strKind pg w) es ∧ Pairs (strKind pg w) es.toList kvs ∧ (kvs.map (·.1)).Nodup
theorem DcO.at {w : World} {kvs : List (Str × Value)} {o : Obj} {h : Heap} {a : Addr} (x : DcO w kvs o) (e : h.get? a = some o) : h.DictOf (strKind pg w) a kvs := let ⟨a, es, ep, b⟩ := x; ⟨o, es, ep, e, a, b⟩
theorem DcO.of {w : World} {kvs : List (Str × Value)} {h : Heap} {a : Addr} (x : h.DictOf (strKind pg w) a kvs) : ∃ o, h.get? a = some o ∧ DcO w kvs o := let ⟨o, es, ep, e, a, b⟩ := x; ⟨o, e, a, es, ep, b⟩
noncomputable def Kv : List (Str × Value) → List (List Nat × Int) → Prop
  | [], [] => True
  | (k, v) :: r, (l, i) :: c => k = T l ∧ (∃ t, v = .int i t) ∧ Kv r c
  | _, _ => False
theorem Kv.val : ∀ {kvs : List (Str × Value)} {c : List (List Nat × Int)} {l : List Nat}, Kv kvs c → match c.lookup l with | some i => ∃ t, valueAt kvs (T l) = some (.int i t) | none => valueAt kvs (T l) = none
  | [], [], l, _ => rfl
  | (k, v) :: r, (m, i) :: c, l, ⟨e1, ⟨t, e2⟩, e3⟩ => by
    subst e1 e2
    have ih := Kv.val (l := l) e3
    rw [List.lookup_cons]
    by_cases hl : l = m
    · subst hl
      simp only [beq_self_eq_true]
      exact ⟨t, by unfold valueAt; simp⟩
    · have : (l == m) = false := beq_eq_false_iff_ne.mpr hl
      have hT : ¬ (T m = T l) := fun e => hl (T_inj e).symm
      rw [this]
      have e : valueAt ((T m, Value.int i t) :: r) (T l) = valueAt r (T l) := by unfold valueAt; rw [List.find?_cons_of_neg (by simpa using hT)]
      rw [e]; exact ih
  | [], _ :: _, _, h => h.elim
  | _ :: _, [], _, h => h.elim
theorem Kv.length : ∀ {kvs : List (Str × Value)} {c : List (List Nat × Int)}, Kv kvs c → kvs.length = c.length
  | [], [], _ => rfl
  | _ :: _, _ :: _, ⟨_, _, e⟩ => by simp [Kv.length e]
  | [], _ :: _, h => h.elim
  | _ :: _, [], h => h.elim
theorem Kv.snoc : ∀ {kvs : List (Str × Value)} {c : List (List Nat × Int)} {l : List Nat} {i : Int} {t : Tok}, Kv kvs c → Kv (kvs ++ [(T l, .int i t)]) (c ++ [(l, i)])
  | [], [], _, _, t, _ => ⟨rfl, ⟨t, rfl⟩, trivial⟩
  | (_, _) :: _, (_, _) :: _, _, _, _, ⟨a, b, e⟩ => ⟨a, b, Kv.snoc e⟩
  | [], _ :: _, _, _, _, h => h.elim
  | _ :: _, [], _, _, _, h => h.elim
theorem stored_new {kvs : List (Str × Value)} {k : Str} {v : Value} (h : valueAt kvs k = none) : stored kvs k v = kvs ++ [(k, v)] := by
  unfold stored
  rw [if_neg]
  intro e
  obtain ⟨kv, hkv, e2⟩ := List.any_eq_true.mp e
  unfold valueAt at h
  have hn := List.find?_eq_none.mp (Option.map_eq_none_iff.mp h) kv hkv
  exact hn e2
noncomputable def CaO (w : World) (c : List (List Nat × Int)) (o : Obj) : Prop := ∃ kvs, DcO w kvs o ∧ Kv kvs c

section
variable {w : World} {s0 : Shared} {A : Around} {S : Sta} {env : Env} {ow : List Str} {h₀ h h' : Heap} {P₀ P P' : Pm} {n : List (Addr × Mo)} {ρ : List (Str × D)} {d d₁ d₂ : D} {K : Flow → Heap → Prop} {a ig : Addr} {l : List Nat} {i : Int} {c : List (List Nat × Int)}
/-- a test by an operator that looks at things that are as they are -/
theorem tcmpP {l r : Expr} {op : CmpOp} {pos : Pos} {b : Bool} (hl : Ev w s0 A env h P l d₁) (hr : Ev w s0 A env h P r d₂)
    (ho : ∀ h₁ P₁ v₁ v₂, Gr h P h₁ P₁ → Rep P₁ d₁ v₁ → Rep P₁ d₂ v₂ → Go w s0 A h₁ P₁ (compareOp op v₁ v₂) (RepR (.bool b))) (hm : behindInMarks op r = false := by rfl) : Tst w s0 A env h P (.Compare l [op] [r] pos) b := fun h₁ P₁ t ht g Q E k =>
  wpAny_isTrue_Compare1 (hl h₁ P₁ t ht g _ E fun v₁ h₂ P₂ t₂ ht₂ g₂ r₁ => hr h₂ P₂ t₂ ht₂ (g.trans g₂) _ E fun v₂ h₃ P₃ t₃ ht₃ g₃ r₂ =>
    ho h₃ P₃ v₁ v₂ (g.trans (g₂.trans g₃)) (r₁.mono g₃.ext) r₂ h₃ P₃ t₃ ht₃ (.refl g₃.snd) _ E fun v h₄ P₄ t₄ ht₄ g₄ r₄ => by
      cases r₄
      exact wpAny_truthy_bool (k b h₄ P₄ t₄ ht₄ (g₂.trans (g₃.trans g₄)) rfl)) hm
theorem in_empty {led : Bool} {v₁ v₂ : Value} (hP : P a = some (setO led)) (r₁ : Rep P (.str l) v₁) (r₂ : Rep P (.ref a) v₂) : Go w s0 A h P (compareOp .In v₁ v₂) (RepR (.bool false)) := fun h₁ P₁ t ht g Q E q => by
  obtain ⟨u, rfl⟩ := r₁
  cases r₂
  exact wpAny_inSet_of (s := stt s0 h₁ t) (knd := strKind pg w) (k := T l) (strKind_is _ _ _ _) rfl ((setObjOf_fresh led).setOf (g.snd _ _ (g.ext _ _ hP)) (by decide)) (q _ h₁ P₁ (t + 1) (Nat.succ_pos _) (.refl g.snd) rfl)
theorem in_dict {kvs : List (Str × Value)} {o : Obj} {v₁ v₂ : Value} (h2 : 2 ≤ a) (hP : P a = some o) (hd : DcO w kvs o) (r₁ : Rep P (.str l) v₁) (r₂ : Rep P (.ref a) v₂) : Go w s0 A h P (compareOp .In v₁ v₂) (RepR (.bool (valueAt kvs (T l)).isSome)) := fun h₁ P₁ t ht g Q E q => by
  obtain ⟨u, rfl⟩ := r₁
  cases r₂
  exact wpAny_in_of (s := stt s0 h₁ t) (knd := strKind pg w) (k := T l) (strKind_is _ _ _ _) (beq_eq_false_iff_ne.mpr (fun e => by rw [e] at h2; exact absurd h2 (by decide))) (hd.at (g.snd _ _ (g.ext _ _ hP))).mapOf (q _ h₁ P₁ (t + 1) (Nat.succ_pos _) (.refl g.snd) rfl)
/-- a look-up that hits -/
theorem ev_subD {value slice : Expr} {pos : Pos} {kvs : List (Str × Value)} {o : Obj} {v : Value} (hP : P a = some o) (hd : DcO w kvs o) (hv : Ev w s0 A env h P value (.ref a)) (hi : Ev w s0 A env h P slice (.str l)) (e : valueAt kvs (T l) = some v) (r : Rep P d v)
    (hs : ∀ o i, ∃ ops, subscripted slice false o i = operate ops (getItem o i) := by intro _ _; exact ⟨_, rfl⟩) : Ev w s0 A env h P (.Subscript value slice pos) d := fun h₁ P₁ t ht g Q E k =>
  Subscript_ (hv h₁ P₁ t ht g _ E fun v₁ h₂ P₂ t₂ ht₂ g₂ r₁ => hi h₂ P₂ t₂ ht₂ (g.trans g₂) _ E fun v₂ h₃ P₃ t₃ ht₃ g₃ r₂ => by
    cases r₁
    obtain ⟨u, rfl⟩ := r₂
    have G := g.trans (g₂.trans g₃)
    have hh := hd.at (G.snd _ _ (G.ext _ _ hP))
    obtain ⟨ops, hs'⟩ := hs (.ref a) (.str (T l) u)
    exact tail_any (s := stt s0 h₃ t₃) (T := "dict") hh.mapOf.typeIs PySem.slot_dict_getitem.lookup (wpAny_getItem_of (s := stt s0 h₃ t₃) (knd := strKind pg w) (k := T l) (strKind_is _ _ _ _) hh.mapOf e
      (k v h₃ P₃ (t₃ + 1) (Nat.succ_pos _) (g₂.trans g₃) (r.mono G.ext))) hs')
/-- for x in an empty set -/
theorem x_forNo {x : Str} {px pos : Pos} {e : Expr} {body : List Stmt} {led : Bool} (hh : A.handled = none) (F : Frm S env ow h₀ P₀ n ρ h P) (hP : P a = some (setO led)) (he : Ev w s0 A env h P e (.ref a)) (hs : ∀ y, foldedSetIterable e env y = pure y)
    (k : ∀ h' P', PLe P P' → Frm S env ow h₀ P₀ n ρ h' P' → K .next h') : X1 w s0 A env (.For (.Name x px) e body [] pos) h K := by
  intro t ht Q E q
  refine wpAny_For (he h P t ht F.refl' _ E fun v h₂ P₂ t₂ ht₂ g₂ r => ?_) hs
  cases r
  have e2 : h₂.get? a = some (setO led) := g₂.snd _ _ (g₂.ext _ _ hP)
  have hT : (stt s0 h₂ t₂).TypeIs (.ref a) "set" := ⟨_, e2, rfl⟩
  refine wpAny_pyIter_slot hT PySem.F.slot_set_iter (call_meets PySem.F.slot_set_iter hT entry_set_iter0 (PySem.F.args_set_iter_1 _) (meets_set_iter a led) ⟨e2, ?_⟩)
  refine ⟨"set_iterator", _, ⟨_, Heap.get?_push_size _ rfl, rfl⟩, slot_sit_next.lookup, ?_⟩
  refine codeAny_mono (codeAny_forLoop (R := fun r s' => match r with | .ok f => Q f s' | .error e => False) (fun m s => s = stt s0 (h₂.push (sitO a)) t₂) ?_ 0 rfl) fun r s' y => by
    cases r with
    | ok f => exact y
    | error e => exact y.elim
  rintro m _ rfl
  refine any_late (next_empty hh (s := stt s0 (h₂.push (sitO a)) t₂) (Heap.get?_push_size _ rfl) (Heap.get?_push_of_some _ e2) fun h' hx => fun late => ?_)
  refine wpAny_execs_nil (q _ h' t₂ ht₂ (k h' P₂ (fun b o e => g₂.ext b o e) (F.grow (g₂.trans (.same g₂.snd (fun b o e => hx b o (Nat.ne_of_lt (Heap.lt_size e)) (Heap.get?_push_of_some _ e)) (Nat.le_trans (Nat.le_trans (Nat.le_succ _) (Nat.le_of_eq (Heap.size_push h₂ (sitO a)).symm)) late.2))))))
/-- set() -/
theorem go_set0 {np pos : Pos} (I : In S env ρ h P) (hk : env.kindOf "set" = some .globalImplicit) (B : Bis S) : Go w s0 A h P (eval (.Call (.Name "set" np) [] [] pos) env) (fun v _ P' => ∃ aS led, v = .ref aS ∧ P' aS = some (setO led)) := by
  have ob := B.ty "set" (by simp)
  refine ev_callT (id := "set") I hk ob.1 ob.2 (by decide) evl_nil rfl fun h P vs s r => ?_
  cases r
  exact fun h₁ P₁ t ht g Q E q => call_set_0 (s := stt s0 h₁ t) fun led => q _ _ (P₁.put h₁.objs.size (setO led)) t ht (.pushFrz g.snd _ rfl) ⟨_, led, rfl, Pm.put_self ..⟩
theorem go_ifexpT {R : Value → Heap → Pm → Prop} {t e f : Expr} {pos : Pos} (ht : Tst w s0 A env h P t true) (he : Go w s0 A h P (eval e env) R) : Go w s0 A h P (eval (.IfExp t e f pos) env) R := by
  show Go w s0 A h P (isTrue t env (eval t env) >>= fun x => if x = true then eval e env else eval f env) _
  refine ht.bind fun v h₁ P₁ g r => ?_
  subst r
  rw [if_pos rfl]; exact he.mono g
end
end IK
end

/-! part C12 -/
section
open PySem PySem.W PyProof.Rows
set_option Elab.async false
set_option linter.unusedVariables false
namespace IK
variable {w : World} {s0 : Shared} {S : Sta}
set_option maxRecDepth 100000

noncomputable def pD (st : Addr) : Option (List Nat) → D
  | none => .ref st
  | some l => .str l
noncomputable def tl (gs : List (List (List Nat))) : List (Option (List Nat)) := gs.flatMap (fun g => none :: g.map some) ++ [none]
noncomputable def gtxt (g : List (List Nat)) : List Nat := [40, 63, 62, 46, 42, 63] ++ g.flatten ++ [41]
noncomputable def out0 (f0 : List (List Nat)) (gs : List (List (List Nat))) : List (List Nat) := f0 ++ gs.map gtxt ++ [[46, 42]]
theorem jn_nil : ∀ ls : List (List Nat), jn [] ls = ls.flatten
  | [] => rfl
  | [x] => by simp [jn]
  | x :: y :: r => by rw [jn_cons _ _ (by simp), jn_nil (y :: r)]; simp
theorem get_drop {α : Type} {l : List α} {i : Nat} {x : α} {r : List α} (h : l.drop i = x :: r) : l[i]? = some x ∧ l.drop (i + 1) = r ∧ i < l.length := by
  have h1 : l[i]? = some x := by have := congrArg (·[0]?) h; simpa using this
  refine ⟨h1, ?_, (List.getElem?_eq_some_iff.mp h1).1⟩
  rw [← List.drop_drop, h]; rfl

section
variable {A : Around} {env : Env} {h : Heap} {P : Pm} {ρ : List (Str × D)} {st : Addr} {parts : List (Option (List Nat))} {i : Nat}
theorem isStar {pos : Pos} (p : Option (List Nat)) (e : Expr) (he : Ev w s0 A env h P e (pD st p)) {x : Str} {px : Pos} (hs : Ev w s0 A env h P (.Name x px) (.ref st)) : Tst w s0 A env h P (.Compare e [.IsNot] [.Name x px] pos) p.isSome := by
  cases p with
  | none => exact tcmp he hs op_isNotSelf
  | some l => exact tcmp he hs op_isNotStrRef
end

theorem ok_join : DefOk (defAt 10) ["inp", "STAR"] [] := ⟨by decide, by decide, by decide, rfl, rfl, rfl⟩
set_option maxHeartbeats 4000000 in
theorem sp_join (B : Bis S) {a : Addr} {cd : Value} (f : FnAt S "_join_translated_parts" (defAt 10) a cd) {st : Addr} {f0 : List (List Nat)} {gs : List (List (List Nat))} (hz : (f0.map some ++ tl gs).length ≤ 1000) (hg : ∀ g ∈ gs, g ≠ [] ∧ g.length ≤ 1000 ∧ g.flatten.length ≤ 10000 ∧ ∀ x ∈ g, x.length ≤ 10)
    (hl : ∀ x ∈ out0 f0 gs, x.length ≤ 10100) (hf : (out0 f0 gs).flatten.length ≤ 90000) (hol : (out0 f0 gs).length ≤ 1400) :
    FnSpec w s0 S 1 "_join_translated_parts" [.lst ((f0.map some ++ tl gs).map (pD st)), .ref st] (RepR (.str ([40, 63, 115, 58] ++ (out0 f0 gs).flatten ++ [41, 92, 90]))) := by
  refine ⟨_, a, cd, f, fun A rm h P vs base rr => ?_⟩
  obtain ⟨v, u, rfl, _⟩ := RepL.two rr
  generalize hparts : f0.map some ++ tl gs = parts at hz rr
  refine go_call (k := 0) (ds := [.lst (parts.map (pD st)), .ref st]) f ok_join rm base rr rfl (fun _ _ => rfl) fun h₁ P₁ L h₂ g F rm' => ?_
  have hh := rm'.hh
  have hpz : (parts.map (pD st)).length ≤ sizeLine := lineLe (by rw [List.length_map]; exact Nat.le_trans hz (by decide))
  have item : ∀ {A : Around} (i : Nat) p, parts[i]? = some p → Op2 w s0 A getItem (.lst (parts.map (pD st))) (.int i) (pD st p) := fun {_} i p e => op_itemL hpz (by omega) (by rw [show ((i : Int)).toNat = i by omega, List.getElem?_map, e]; rfl)
  refine Xs.cons (x_newlist F (.inl rfl) evl_nil (Nat.zero_le _) (fun a' h₃ P₃ p₃ F₃ => ?_) rfl)
  refine Xs.cons (x_bm F₃ rfl rfl fun b h₄ P₄ p₄ hb₄ F₄ => ?_)
  refine Xs.cons (x_swap2 hh F₄ rfl rfl (ev_tuple (evl_cons' rfl ev_int (evl_cons' rfl (lenL B F₄.inn (nm F₄.inn) hpz) evl_nil)) (by show 2 ≤ sizeLine; decide)) (fun h₅ P₅ p₅ F₅ => ?_) rfl rfl)
  let ρ0 : Nat → List (Str × D) := fun i => [("i", .int i), ("n", .int parts.length), ("add", .ref b), ("res", .ref a'), ("inp", .lst (parts.map (pD st))), ("STAR", .ref st)]
  let FR := fun (i : Nat) (res : List (List Nat)) h P => P b = some (bmObj a') ∧ Frm S (fenv "_join_translated_parts" (defAt 10) L a cd) [] h₁ P₁ [(a', .lst (res.map .str))] (ρ0 i) h P
  have hplen : parts.length = f0.length + (tl gs).length := by rw [← hparts]; simp
  have hf0 : f0.length ≤ 1000 := by omega
  have F5 : FR 0 [] h₅ P₅ := ⟨p₅ _ _ hb₄, F₅.sub (.cons rfl (.cons (by rw [List.length_map]; rfl) (.cons rfl (.cons rfl (.cons rfl (.cons rfl .nil))))))⟩
  -- the front
  refine Xs.cons (x_while (fun m h => ∃ P k, m = f0.length - k ∧ k ≤ f0.length ∧ FR k (f0.take k) h P) f0.length ⟨P₅, 0, rfl, Nat.zero_le _, F5⟩ fun m h xx => ?_)
  obtain ⟨P, k, em, hk, hb, F⟩ := xx
  have hkp : k < parts.length := by
    have : 1 ≤ (tl gs).length := by unfold tl; simp
    omega
  have hget : parts[k]? = some (if hk' : k < f0.length then some f0[k] else none) := by
    by_cases hk' : k < f0.length
    · rw [dif_pos hk']
      rw [← hparts]
      rw [List.getElem?_append_left (by simpa using hk'), List.getElem?_map, List.getElem?_eq_getElem hk']; rfl
    · rw [dif_neg hk']
      rw [← hparts]
      rw [List.getElem?_append_right (by simpa using hk'), List.length_map, show k - f0.length = 0 by omega]
      unfold tl
      cases gs with
      | nil => rfl
      | cons g gs => rfl
  refine ⟨P, decide (k < f0.length), F.refl', ?_, fun e h₆ P₆ g₆ => ?_, fun e h₆ P₆ g₆ => ?_⟩
  · refine Tst.cast (tst_and (b := true) (c := decide (k < f0.length)) (Tst.cast (tcmp (nm F.inn) (nm F.inn) op_ltI) (by simp; omega)) fun _ => ?_) (by rw [Bool.true_and])
    refine Tst.cast (isStar _ _ (sub (nm F.inn) (nm F.inn) (item k _ hget)) (nm F.inn)) ?_
    by_cases hk' : k < f0.length
    · rw [dif_pos hk']; simp [hk']
    · rw [dif_neg hk']; simp [hk']
  · have hk' := of_decide_eq_true e
    have F₆ := F.grow g₆
    have hb₆ := g₆.ext _ _ hb
    rw [dif_pos hk'] at hget
    refine Xs.cons (x_add F₆ rfl hb₆ (sub (nm F₆.inn) (nm F₆.inn) (item k _ hget)) (lineLe (by rw [List.length_map, List.length_take]; omega)) fun h₇ P₇ p₇ F₇ => ?_)
    refine Xs.cons (aug F₇ rfl ev_int op_iaddI fun h₈ P₈ p₈ F₈ => Xs.nil ?_)
    refine ⟨f0.length - (k + 1), by omega, P₈, k + 1, rfl, hk', p₈ _ _ (p₇ _ _ hb₆), ?_⟩
    have : (f0.take (k + 1)).map D.str = (f0.take k).map D.str ++ [pD st (some f0[k])] := by
      rw [List.take_add_one, List.getElem?_eq_getElem hk', List.map_append]; rfl
    rw [this]
    exact F₈.sub (.cons rfl (.cons rfl (.cons rfl (.cons rfl (.cons rfl (.cons rfl .nil))))))
  · have hk' := of_decide_eq_false e
    have hkk : k = f0.length := by omega
    subst hkk
    have F₆ : FR f0.length f0 h₆ P₆ := ⟨g₆.ext _ _ hb, by have := F.grow g₆; rw [List.take_length] at this; exact this⟩
    -- the groups
    refine Xs.cons (X1.mono (K := fun fl h => fl = .next ∧ ∃ P, FR parts.length (out0 f0 gs) h P) (x_while (fun m h => ∃ (P : Pm) (i : Nat) (gr : List (List (List Nat))) (acc : List (List Nat)), m = gr.length ∧ parts.drop i = tl gr ∧ (∀ g ∈ gr, g ∈ gs) ∧ acc.length + gr.length ≤ 1400 ∧ acc ++ gr.map gtxt ++ [[46, 42]] = out0 f0 gs ∧ FR i acc h P) gs.length
      ⟨P₆, f0.length, gs, f0, rfl, by rw [← hparts, List.drop_left' (by simp)], fun _ h => h, by have := hol; unfold out0 at this; simp at this; omega, rfl, F₆⟩ fun m h xx => ?_) fun fl h xx => ?_)
    · obtain ⟨P, i, gr, acc, em, hdr, hgr, hacc, htot, hb, F⟩ := xx
      obtain ⟨r, hr⟩ : ∃ r, parts.drop i = none :: r := by
        rw [hdr]; unfold tl
        cases gr with
        | nil => exact ⟨[], rfl⟩
        | cons g gr => exact ⟨_, rfl⟩
      obtain ⟨hi0, hdr1, hip⟩ := get_drop hr
      have haccz : (acc.map D.str).length ≤ sizeLine := lineLe (by rw [List.length_map]; omega)
      refine ⟨P, true, F.refl', Tst.cast (tcmp (nm F.inn) (nm F.inn) op_ltI) (by simp; omega), fun _ h₇ P₇ g₇ => ?_, fun e => nomatch e⟩
      have F₇ := F.grow g₇
      refine Xs.cons (x_assert F₇.refl' (Tst.cast (tcmp (sub (nm F₇.inn) (nm F₇.inn) (item i none hi0)) (nm F₇.inn) op_isSelf) rfl) fun h₈ P₈ g₈ => ?_)
      have F₈ := F₇.grow g₈
      refine Xs.cons (aug F₈ rfl ev_int op_iaddI fun h₉ P₉ p₉ F₉ => ?_)
      have hb₉ := p₉ _ _ (g₈.ext _ _ (g₇.ext _ _ hb))
      have F₉' : Frm S (fenv "_join_translated_parts" (defAt 10) L a cd) [] h₁ P₁ [(a', .lst (acc.map .str))] (ρ0 (i + 1)) h₉ P₉ := F₉.sub (.cons rfl (.cons rfl (.cons rfl (.cons rfl (.cons rfl (.cons rfl .nil))))))
      cases gr with
      | nil =>
        have hr0 : r = [] := by rw [hdr] at hr; unfold tl at hr; simpa using hr.symm
        have hin : i + 1 = parts.length := by
          rw [hr0] at hdr1
          have := List.drop_eq_nil_iff.mp hdr1
          omega
        refine Xs.cons (x_if (b := true) F₉'.refl' (Tst.cast (tcmp (nm F₉'.inn) (nm F₉'.inn) op_eqI) (by rw [hin]; simp)) (fun _ h₁₀ P₁₀ g₁₀ => ?_) (fun e => nomatch e))
        have F₁₀ := F₉'.grow g₁₀
        refine Xs.cons (x_add F₁₀ rfl (g₁₀.ext _ _ hb₉) (ss [46, 42]) haccz fun h₁₁ P₁₁ p₁₁ F₁₁ => ?_)
        refine Xs.cons (x_brk ⟨rfl, P₁₁, p₁₁ _ _ (g₁₀.ext _ _ hb₉), ?_⟩)
        have : acc ++ [[46, 42]] = out0 f0 gs := by rw [← htot]; simp
        rw [← this, List.map_append, ← hin]
        exact F₁₁
      | cons g gr =>
        obtain ⟨hgne, hglen, hgfl, hgel⟩ := hg g (hgr g (.head _))
        have hr0 : r = g.map some ++ tl gr := by rw [hdr] at hr; unfold tl at hr ⊢; simpa using hr.symm
        subst hr0
        have hlt2 : i + 1 + g.length < parts.length := by
          have e1 := congrArg List.length hdr1
          rw [List.length_drop, List.length_append, List.length_map] at e1
          have h1 : 1 ≤ (tl gr).length := by unfold tl; simp
          omega
        have hgk : ∀ k (hk : k < g.length), parts[i + 1 + k]? = some (some g[k]) := fun k hk => by
          have : (parts.drop (i + 1))[k]? = some (some g[k]) := by
            rw [hdr1, List.getElem?_append_left (by simpa using hk), List.getElem?_map, List.getElem?_eq_getElem hk]; rfl
          rwa [List.getElem?_drop] at this
        have hgpos : 0 < g.length := List.length_pos_iff.mpr hgne
        refine Xs.cons (x_if (b := false) F₉'.refl' (Tst.cast (tcmp (nm F₉'.inn) (nm F₉'.inn) op_eqI) (by simp; omega)) (fun e => nomatch e) (fun _ h₁₀ P₁₀ g₁₀ => Xs.nil ?_))
        have F₁₀ := F₉'.grow g₁₀
        refine Xs.cons (x_assert F₁₀.refl' (Tst.cast (isStar _ _ (sub (nm F₁₀.inn) (nm F₁₀.inn) (item (i + 1) _ (hgk 0 hgpos))) (nm F₁₀.inn)) rfl) fun h₁₁ P₁₁ g₁₁ => ?_)
        have F₁₁ := F₁₀.grow g₁₁
        have hb₁₁ := g₁₁.ext _ _ (g₁₀.ext _ _ hb₉)
        refine Xs.cons (x_newlist F₁₁ (.inl rfl) evl_nil (Nat.zero_le _) (fun fa h₁₂ P₁₂ p₁₂ F₁₂ => ?_) rfl)
        let ρ1 : Nat → List (Str × D) := fun k => [("i", .int ((i + 1 + k : Nat) : Int)), ("fixed", .ref fa), ("n", .int parts.length), ("add", .ref b), ("res", .ref a'), ("inp", .lst (parts.map (pD st))), ("STAR", .ref st)]
        refine Xs.cons (X1.mono (K := fun fl h => fl = .next ∧ ∃ P, P b = some (bmObj a') ∧ Frm S (fenv "_join_translated_parts" (defAt 10) L a cd) [] h₁ P₁ [(fa, .lst (g.map .str)), (a', .lst (acc.map .str))] (ρ1 g.length) h P)
          (x_while (fun m h => ∃ (P : Pm) (k : Nat), m = g.length - k ∧ k ≤ g.length ∧ P b = some (bmObj a') ∧ Frm S (fenv "_join_translated_parts" (defAt 10) L a cd) [] h₁ P₁ [(fa, .lst ((g.take k).map .str)), (a', .lst (acc.map .str))] (ρ1 k) h P) g.length
            ⟨P₁₂, 0, rfl, Nat.zero_le _, p₁₂ _ _ hb₁₁, F₁₂.sub (.cons rfl (.cons rfl (.cons rfl (.cons rfl (.cons rfl (.cons rfl (.cons rfl .nil)))))))⟩ fun m h xx => ?_) fun fl h₁₃ xx => ?_)
        · obtain ⟨P, k, em, hk, hb, F⟩ := xx
          refine ⟨P, decide (k < g.length), F.refl', ?_, fun e h₆ P₆ g₆ => ?_, fun e h₆ P₆ g₆ => ?_⟩
          · refine Tst.cast (tst_and (b := true) (c := decide (k < g.length)) (Tst.cast (tcmp (nm F.inn) (nm F.inn) op_ltI) (by simp; omega)) fun _ => ?_) (by rw [Bool.true_and])
            by_cases hk' : k < g.length
            · exact Tst.cast (isStar _ _ (sub (nm F.inn) (nm F.inn) (item (i + 1 + k) _ (hgk k hk'))) (nm F.inn)) (by simp [hk'])
            · have hkk : k = g.length := by omega
              have : parts[i + 1 + k]? = some none := by
                have : (parts.drop (i + 1))[k]? = some none := by
                  rw [hdr1, List.getElem?_append_right (by simp; omega), List.length_map, show k - g.length = 0 by omega]
                  unfold tl
                  cases gr <;> rfl
                rwa [List.getElem?_drop] at this
              exact Tst.cast (isStar _ _ (sub (nm F.inn) (nm F.inn) (item (i + 1 + k) _ this)) (nm F.inn)) (by simp [hk'])
          · have hk' := of_decide_eq_true e
            have F₆ := F.grow g₆
            refine Xs.cons (append F₆ rfl (sub (nm F₆.inn) (nm F₆.inn) (item (i + 1 + k) _ (hgk k hk'))) (lineLe (by rw [List.length_map, List.length_take]; omega)) fun h₇ P₇ p₇ F₇ => ?_)
            refine Xs.cons (aug F₇ rfl ev_int op_iaddI fun h₈ P₈ p₈ F₈ => Xs.nil ?_)
            refine ⟨g.length - (k + 1), by omega, P₈, k + 1, rfl, hk', p₈ _ _ (p₇ _ _ (g₆.ext _ _ hb)), ?_⟩
            have : (g.take (k + 1)).map D.str = (g.take k).map D.str ++ [pD st (some g[k])] := by
              rw [List.take_add_one, List.getElem?_eq_getElem hk', List.map_append]; rfl
            rw [this]
            exact F₈.sub (.cons rfl (.cons rfl (.cons rfl (.cons rfl (.cons rfl (.cons rfl (.cons rfl .nil)))))))
          · have hk' := of_decide_eq_false e
            have hkk : k = g.length := by omega
            subst hkk
            have := F.grow g₆
            rw [List.take_length] at this
            exact ⟨rfl, P₆, g₆.ext _ _ hb, this⟩
        · obtain ⟨efl, P₁₃, hb₁₃, F₁₃⟩ := xx
          subst efl
          obtain ⟨P₁₄, F₁₄, hP₁₄, r₁₄⟩ := Frm.freeze F₁₃
          refine Xs.cons (asg (d := .str g.flatten) F₁₄ (Ev.cast (meth1 (ss []) mJoin (ev_frozen F₁₄.inn rfl r₁₄) (c_join (B := 10) hgel (by simp; omega))) (by rw [jn_nil])) fun h₁₅ P₁₅ p₁₅ F₁₅ => ?_)
          have hb₁₅ := p₁₅ _ _ (hP₁₄ _ _ hb₁₃)
          refine Xs.cons (x_if (b := false) F₁₅.refl' (Tst.cast (tcmp (nm F₁₅.inn) (nm F₁₅.inn) op_eqI) (by simp; omega)) (fun e => nomatch e) (fun _ h₁₆ P₁₆ g₁₆ => ?_))
          have F₁₆ := F₁₅.grow g₁₆
          refine Xs.cons (x_add F₁₆ rfl (g₁₆.ext _ _ hb₁₅) (fstr [40, 63, 62, 46, 42, 63] [41] (nm F₁₆.inn) (by simp only [List.length_cons, List.length_nil]; omega)) haccz fun h₁₇ P₁₇ p₁₇ F₁₇ => Xs.nil (Xs.nil ?_))
          refine ⟨gr.length, by simp at em; omega, P₁₇, i + 1 + g.length, gr, acc ++ [gtxt g], rfl, ?_, fun x hx => hgr x (.tail _ hx), by simp at hacc ⊢; omega, by rw [← htot]; simp, p₁₇ _ _ (g₁₆.ext _ _ hb₁₅), ?_⟩
          · rw [← List.drop_drop, hdr1, List.drop_left' (by simp)]
          · rw [List.map_append]
            exact F₁₇.sub (.cons rfl (.cons rfl (.cons rfl (.cons rfl (.cons rfl (.cons rfl .nil))))))
    · obtain ⟨efl, P, hb, F⟩ := xx
      subst efl
      refine Xs.cons (x_assert F.refl' (Tst.cast (tcmp (nm F.inn) (nm F.inn) op_eqI) (by simp)) fun h₇ P₇ g₇ => ?_)
      have F₇ := F.grow g₇
      obtain ⟨P₈, F₈, hP₈, r₈⟩ := Frm.freeze F₇
      refine Xs.cons (asg (d := .str (out0 f0 gs).flatten) F₈ (Ev.cast (meth1 (ss []) mJoin (ev_frozen F₈.inn rfl r₈) (c_join (B := 10100) hl (by simp; omega))) (by rw [jn_nil])) fun h₉ P₉ p₉ F₉ => ?_)
      exact Xs.cons (x_ret F₉.refl' (R := RepR (.str ([40, 63, 115, 58] ++ (out0 f0 gs).flatten ++ [41, 92, 90]))) (fstr [40, 63, 115, 58] [41, 92, 90] (nm F₉.inn) (by simp only [List.length_cons, List.length_nil]; omega)) fun v h' P' g' r => ⟨P', F₉.gr.trans g', r⟩)
end IK
end

/-! part C13 -/
section
open PySem PySem.W PyProof.Rows
open Builtin.Str (tableLookup)
set_option Elab.async false
set_option linter.unusedVariables false
set_option maxRecDepth 100000
namespace IK
theorem sub_key_lookup : isSubtype (.type "KeyError") (.type "LookupError") = pure true := by rw [isSubtype_type]; kernel_rfl
section
variable {w : World} {A : Around} {E : Value → Shared → Prop} {s : Shared} {d : Addr} {f : Int → Option Value} {c : Nat}
theorem tl_found {x : Str} {u : Tok} {Q : Builtin.Str.Mapped → Shared → Prop} (hm : s.heap.MapOf (PySem.intKind pg w) d f) (hf : f c = some (.str x u)) (h : ∀ t, Q (.text x) { s with toks := t }) : wpAny (model pg w) A (tableLookup (.ref d) c) Q E s := by
  unfold tableLookup
  refine wpAny_bind (wpAny_attempt (wpAny_bind (wpAny_mkInt ?_)))
  refine wpAny_getItem_of (knd := PySem.intKind pg w) (k := (c : Int)) (by simp [PySem.intKind, Value.isInt]) hm hf ?_
  exact wpAny_pure (h _)
theorem tl_miss {Q : Builtin.Str.Mapped → Shared → Prop} (hm : s.heap.MapOf (PySem.intKind pg w) d f) (hf : f c = none) (hh : A.handled = none) (hd : (d == sysModules) = false) (h : ∀ h' t, (∀ b o, s.heap.get? b = some o → h'.get? b = some o) → Q .keep { s with heap := h', toks := t }) : wpAny (model pg w) A (tableLookup (.ref d) c) Q E s := by
  unfold tableLookup
  refine wpAny_bind (wpAny_attempt (wpAny_bind (wpAny_mkInt ?_)))
  refine wpAny_getItem_missing_of (knd := PySem.intKind pg w) (k := (c : Int)) (by simp [PySem.intKind, Value.isInt]) hd hh hm hf fun h' e ne => ?_
  obtain ⟨up, _, o, a0, ho, hc, _⟩ := ne
  refine wpAny_bind (wpAny_isInstance (T := "KeyError") ⟨o, ho, hc⟩ sub_key_lookup ?_)
  exact wpAny_bind (wpAny_rule (wpAny_pure (h h' _ up)))
theorem tr_miss {t : Tok} {Q : Fin → Shared → Prop} (hm : s.heap.MapOf (PySem.intKind pg w) d f) (hf : f c = none) (hh : A.handled = none) (hd : (d == sysModules) = false)
    (h : ∀ h' t' k, (∀ b o, s.heap.get? b = some o → h'.get? b = some o) → Q (.done (.ret (.str (T [c]) t'))) { s with heap := h', toks := k }) : wpAny (model pg w) A (Builtin.«str.translate» ⟨[.str (T [c]) t, .ref d], []⟩) Q E s := by
  unfold Builtin.«str.translate»
  refine wpAny_bind (wpAny_pure ?_)
  show wpAny (model pg w) A _ Q E s
  have hfast : (T [c]).cps.all (fun x => decide (x < 128)) = decide (c < 128) := by simp [T]
  dsimp only
  rw [if_neg (show ¬ ((T [c]).length == 0) = true by rw [T_len]; simp), hfast, show (#[c] : Array Nat) = [c].toArray from rfl, List.forIn_toArray, List.forIn_cons]
  refine wpAny_bind (wpAny_bind ?_)
  have h0 : ¬ Builtin.Str.tooLong 0 = true := by decide
  have h1 : ¬ Builtin.Str.tooLong (0 + 1) = true := by decide
  have fin : ∀ h' k, (∀ b o, s.heap.get? b = some o → h'.get? b = some o) → wpAny (model pg w) A (PySem.retStr (⟨(([] : List Str).foldl (fun acc p => acc ++ p.cps) (#[] ++ (⟨#[c]⟩ : Str).cps))⟩)) Q E { s with heap := h', toks := k } := fun h' k up => by
    unfold PySem.retStr
    refine wpAny_bind (wpAny_mkStr (wpAny_pure ?_) ?_)
    · have := h h' k (k + 1) up
      simpa using this
    · show (#[] ++ (#[c] : Array Nat)).size ≤ sizeLine
      simp; decide
  rw [if_neg h0]
  by_cases hc : c < 128
  · rw [decide_eq_true hc, if_pos rfl]
    simp only [List.lookup_nil]
    refine wpAny_bind (tl_miss hm hf hh hd fun h' t' up => ?_)
    dsimp only
    refine wpAny_bind (wpAny_pure ?_)
    dsimp only
    refine wpAny_pure ?_
    dsimp only
    rw [List.forIn_nil]
    refine wpAny_pure ?_
    dsimp only
    rw [if_neg h1]
    exact fin h' t' up
  · rw [decide_eq_false hc, if_neg Bool.false_ne_true, if_neg Bool.false_ne_true]
    refine wpAny_bind (tl_miss hm hf hh hd fun h' t' up => wpAny_pure ?_)
    dsimp only
    rw [List.forIn_nil]
    refine wpAny_pure ?_
    dsimp only
    rw [if_neg h1]
    exact fin h' t' up
theorem tr_found {t u : Tok} {Q : Fin → Shared → Prop} (hm : s.heap.MapOf (PySem.intKind pg w) d f) (hf : f c = some (.str (T [92, c]) u)) (hc : c < 128)
    (h : ∀ t' k, Q (.done (.ret (.str (T [92, c]) t'))) { s with toks := k }) : wpAny (model pg w) A (Builtin.«str.translate» ⟨[.str (T [c]) t, .ref d], []⟩) Q E s := by
  unfold Builtin.«str.translate»
  refine wpAny_bind (wpAny_pure ?_)
  have hfast : (T [c]).cps.all (fun x => decide (x < 128)) = decide (c < 128) := by simp [T]
  dsimp only
  rw [if_neg (show ¬ ((T [c]).length == 0) = true by rw [T_len]; simp), hfast, show (#[c] : Array Nat) = [c].toArray from rfl, List.forIn_toArray, List.forIn_cons]
  refine wpAny_bind (wpAny_bind ?_)
  have h0 : ¬ Builtin.Str.tooLong 0 = true := by decide
  have h2 : ¬ Builtin.Str.tooLong (0 + (T [92, c]).length) = true := by rw [T_len]; show ¬ Builtin.Str.tooLong 2 = true; decide
  have hl : ((T [92, c]).length == 1) = false := by rw [T_len]; rfl
  rw [if_neg h0, decide_eq_true hc, if_pos rfl]
  simp only [List.lookup_nil]
  refine wpAny_bind (tl_found hm hf fun t' => ?_)
  dsimp only
  simp only [hl, Bool.false_and, Bool.false_eq_true, if_false]
  refine wpAny_bind (wpAny_pure ?_)
  dsimp only
  refine wpAny_bind (wpAny_rule ?_)
  refine wpAny_bind (tl_found (s := { s with toks := t' }) hm hf fun t'' => ?_)
  dsimp only
  refine wpAny_pure ?_
  dsimp only
  rw [List.forIn_nil]
  refine wpAny_pure ?_
  dsimp only
  rw [if_neg h2]
  unfold PySem.retStr
  refine wpAny_bind (wpAny_mkStr (wpAny_pure ?_) ?_)
  · have := h t'' (t'' + 1)
    simpa using this
  · show (#[] ++ (#[92, c] : Array Nat)).size ≤ sizeLine
    simp; decide
end
end IK
end

/-! part C14 -/
section
open PySem PySem.W PyProof.Rows
set_option Elab.async false
set_option linter.unusedVariables false
set_option maxRecDepth 100000
namespace IK
noncomputable def spec : List Nat := [40, 41, 91, 93, 123, 125, 63, 42, 43, 45, 124, 94, 36, 92, 46, 38, 126, 35, 32, 9, 10, 13, 11, 12]
noncomputable def esc (c : Nat) : List Nat := if c ∈ spec then [92, c] else [c]
structure EscAt (w : World) (S : Sta) (dm : Addr) : Prop where
  mg : S.mg "_special_chars_map" = some (.ref dm)
  two : 2 ≤ dm
  map : ∃ f : Int → Option Value, S.hb.MapOf (PySem.intKind pg w) dm f ∧ (∀ c ∈ spec, ∃ u, f (c : Int) = some (.str (T [92, c]) u)) ∧ ∀ c : Nat, c ∉ spec → f (c : Int) = none
theorem spec_small : ∀ c ∈ spec, c < 128 := by decide
section
variable {w : World} {s0 : Shared} {A : Around} {S : Sta} {env : Env} {ρ : List (Str × D)} {h : Heap} {P : Pm} {d d₁ d₂ : D}
theorem meth1G {o e : Expr} {name : Str} {apos pos : Pos} {id : String} (ho : Ev w s0 A env h P o d₁) (hM : MethOf d₁ name id) (he : Ev w s0 A env h P e d₂) (hc : ∀ h₁ P₁ vs, Gr h P h₁ P₁ → RepL P₁ [d₁, d₂] vs → Go w s0 A h₁ P₁ (call (.builtin id) vs) (RepR d)) (hp : plainArgs [e] = true := by rfl) (hbase : notSuper o = true := by rfl) (hline : (apos.endLine == pos.line) = true := by rfl) :
    Ev w s0 A env h P (.Call (.Attribute o name apos) [e] [] pos) d := fun h₁ P₁ t ht g Q E k =>
  wpAny_Call_method_lateS (base_ok hbase) (few_ok hp (by simp)) hline (ho h₁ P₁ t ht g _ E fun v h₂ P₂ t₂ ht₂ g₂ r => by
    obtain ⟨T, pa, sl, ty, hT, hdict⟩ := hM.go P₂ h₂ v s0 t₂ g₂.snd r
    refine ⟨T, id, pa, sl, ty, hT, hdict, ?_⟩
    exact Calls.callWith_builtin (star_plain hp) (evalArgs_any (star_plain hp) ((evl_cons' hp he evl_nil) h₂ P₂ t₂ ht₂ (g.trans g₂) _ E fun vs h₃ P₃ t₃ ht₃ g₃ r₃ =>
      hc h₃ P₃ (v :: vs) (g.trans (g₂.trans g₃)) (.cons (r.mono g₃.ext) r₃) h₃ P₃ t₃ ht₃ (.refl g₃.snd) Q E fun v h₄ P₄ t₄ ht₄ g₄ r₄ => k v h₄ P₄ t₄ ht₄ (g₂.trans (g₃.trans g₄)) r₄)))
theorem go_translate {dm : Addr} (M : EscAt w S dm) (hh : A.handled = none) (base : ∀ b o, S.hb.get? b = some o → P b = some o) {c : Nat} {vs : List Value} (r : RepL P [.str [c], .ref dm] vs) : Go w s0 A h P (call (.builtin "str.translate") vs) (RepR (.str (esc c))) := by
  obtain ⟨v, u, rfl, ⟨t, rfl⟩, ru⟩ := r.two
  cases ru
  obtain ⟨f, hm, h1, h2⟩ := M.map
  refine Go.mk fun h₁ P₁ k hk g Q E q => ?_
  have hm' : h₁.MapOf (PySem.intKind pg w) dm f := by obtain ⟨o, es, ep, e, rest⟩ := hm; exact ⟨o, es, ep, g.snd _ _ (g.ext _ _ (base _ _ e)), rest⟩
  refine wpAny_call_entry F.slot_str_translate (typeIs_str _ _ _) F.entry_str_translate ?_ (F.args_str_translate_2 _ _)
  by_cases hc : c ∈ spec
  · obtain ⟨u, hu⟩ := h1 c hc
    exact tr_found (s := stt s0 h₁ k) hm' hu (spec_small c hc) fun t' k' => ⟨_, rfl, q _ h₁ P₁ k' (fun _ => .refl g.snd) fun _ => ⟨t', by unfold esc; rw [if_pos hc]⟩⟩
  · exact tr_miss (s := stt s0 h₁ k) hm' (h2 c hc) hh (beq_eq_false_iff_ne.mpr fun z => by have := M.two; rw [z] at this; exact absurd this (by decide)) fun h' t' k' up => ⟨_, rfl, q _ h' P₁ k' (fun sz => .same g.snd up sz) fun _ => ⟨t', by unfold esc; rw [if_neg hc]⟩⟩
theorem isStr {np pos : Pos} {e : Expr} {l : List Nat} (B : Bis S) (I : In S env ρ h P) (he : Ev w s0 A env h P e (.str l)) (hk : env.kindOf (Str.ofString "isinstance") = some .globalImplicit := by rfl) (hk2 : env.kindOf (Str.ofString "str") = some .globalImplicit := by rfl) {p2 : Pos} (hp : plainArgs [e, .Name (Str.ofString "str") p2] = true := by rfl) :
    Ev w s0 A env h P (.Call (.Name (Str.ofString "isinstance") np) [e, .Name (Str.ofString "str") p2] [] pos) (.bool true) :=
  bcall2 B I (by simp) he (btyp B I (by simp) hk2) (fun h P vs s r => by
    obtain ⟨v, u, rfl, ⟨t, rfl⟩, ru⟩ := r.two
    cases ru
    intro h₁ P₁ k hk g Q E q
    exact IsiPair.str_str (q _ h₁ P₁ k hk (.refl g.snd) rfl)) hk hp rfl
end
variable {w : World} {s0 : Shared} {S : Sta}
theorem ok_escape : DefOk (defAt 7) ["pattern"] [] := ⟨by decide, by decide, by decide, rfl, rfl, rfl⟩
theorem sp_escape (B : Bis S) {a dm : Addr} {cd : Value} (f : FnAt S "escape" (defAt 7) a cd) (M : EscAt w S dm) {c : Nat} : FnSpec w s0 S 1 "escape" [.str [c]] (RepR (.str (esc c))) := by
  refine ⟨_, a, cd, f, fun A rm h P vs base rr => ?_⟩
  obtain ⟨v, rfl, _⟩ := RepL.one rr
  refine go_call (k := 0) (ds := [.str [c]]) f ok_escape rm base rr rfl (fun _ _ => rfl) fun h₁ P₁ L h₂ g F rm' => ?_
  refine Xs.cons (x_if (b := true) F.refl' (tpl (isStr B F.inn (nm F.inn)) tru_bool) (fun _ h₃ P₃ g₃ => ?_) (fun e => nomatch e))
  have F₃ := F.grow g₃
  refine Xs.cons (x_ret F₃.refl' (R := RepR (.str (esc c))) (meth1G (nm F₃.inn) (.str PySem.F.slot_str_translate PySem.F.type_str_translate) (ev_global (d := .ref dm) F₃.inn rfl M.mg (fun _ => rfl) (by decide)) fun h₄ P₄ vs g₄ r₄ => go_translate M rm'.hh (fun b o e => g₄.ext _ _ (F₃.inn.base b o e)) r₄) fun v h' P' g' r => ⟨P', F₃.gr.trans g', r⟩)
end IK
end

/-! part C15 -/
section
open PySem PySem.W PyProof.Rows
set_option Elab.async false
set_option linter.unusedVariables false
set_option maxRecDepth 100000
namespace IK
inductive Tk
  | star | quest | lit (c : Nat) | set (c : Nat) | notA
noncomputable def src : Tk → List Nat
  | .star => [42]
  | .quest => [63]
  | .lit c => [c]
  | .set c => [91, c, 93]
  | .notA => [91, 33, 97, 93]
noncomputable def okT : Tk → Prop
  | .lit c => c ≠ 42 ∧ c ≠ 63 ∧ c ≠ 91
  | .set c => c = 42 ∨ c = 63 ∨ c = 91
  | _ => True
noncomputable def pushT (res : List (Option (List Nat))) : Tk → List (Option (List Nat))
  | .star => if res.getLast? = some none then res else res ++ [none]
  | .quest => res ++ [some [46]]
  | .lit c => res ++ [some (esc c)]
  | .set c => res ++ [some (if c = 91 then [91, 92, 91, 93] else [91, c, 93])]
  | .notA => res ++ [some [91, 94, 97, 93]]
theorem src_pos (k : Tk) : 1 ≤ (src k).length := by cases k <;> simp [src]
theorem pushT_len (res : List (Option (List Nat))) (k : Tk) : (pushT res k).length ≤ res.length + 1 := by
  cases k <;> simp only [pushT] <;> first | (split <;> simp) | simp
/-- the pattern object's place -/
structure ReAt (S : Sta) (pa ca : Addr) (fs : Array Value) : Prop where
  mg : S.mg "_twin_re_1" = some (.ref pa)
  pat : PatIn S.hb pa ca fs reItems
  dict : ∀ o, S.hb.get? pa = some o → o.dict = none
  g1 : PySem.Builtin.Re.reRawNat (fs.getD 2 .none) = 1

section
variable {w : World} {s0 : Shared} {A : Around} {S : Sta} {h₀ h h' : Heap} {P₀ P P' : Pm} {ρ : List (Str × D)} {st b a' L a : Addr} {cd : Value} {m : List (Addr × Mo)} {K : Flow → Heap → Prop}
noncomputable abbrev eT (L a : Addr) (cd : Value) : Env := fenv "_translate" (defAt 9) L a cd
noncomputable def ρT (b a' st : Addr) (pat : List Nat) (i : Nat) : List (Str × D) := [("i", .int i), ("n", .int pat.length), ("add", .ref b), ("res", .ref a'), ("pat", .str pat), ("STAR", .ref st), ("QUESTION_MARK", .str [46])]
noncomputable abbrev FT (S : Sta) (L a : Addr) (cd : Value) (h₀ : Heap) (P₀ : Pm) (m : List (Addr × Mo)) (b a' st : Addr) (pat : List Nat) (i : Nat) (res : List (Option (List Nat))) (h : Heap) (P : Pm) : Prop :=
  P b = some (bmObj a') ∧ Frm S (eT L a cd) [] h₀ P₀ ((a', .lst (res.map (pD st))) :: m) (ρT b a' st pat i) h P
theorem tk_set {k : Tk} (ok : okT k) (h1 : ∀ c, k ≠ .lit c) (h2 : k ≠ .star) (h3 : k ≠ .quest) : ∃ s o, src k = 91 :: (s ++ [93]) ∧ (∀ res, pushT res k = res ++ [some ([91] ++ o ++ [93])]) ∧ ((s = [42] ∧ o = [42]) ∨ (s = [63] ∧ o = [63]) ∨ (s = [91] ∧ o = [92, 91]) ∨ (s = [33, 97] ∧ o = [94, 97])) := by
  cases k with
  | star => exact absurd rfl h2
  | quest => exact absurd rfl h3
  | lit c => exact absurd rfl (h1 c)
  | notA => exact ⟨[33, 97], [94, 97], rfl, fun _ => rfl, .inr (.inr (.inr ⟨rfl, rfl⟩))⟩
  | set c =>
    rcases ok with rfl | rfl | rfl
    · exact ⟨[42], [42], rfl, fun _ => rfl, .inl ⟨rfl, rfl⟩⟩
    · exact ⟨[63], [63], rfl, fun _ => rfl, .inr (.inl ⟨rfl, rfl⟩)⟩
    · exact ⟨[91], [92, 91], rfl, fun _ => rfl, .inr (.inr (.inl ⟨rfl, rfl⟩))⟩
theorem pushT_mem {res : List (Option (List Nat))} : True := trivial
theorem ok_tr : DefOk (defAt 9) ["pat", "STAR", "QUESTION_MARK"] [] := ⟨by decide, by decide, by decide, rfl, rfl, rfl⟩
set_option maxHeartbeats 4000000 in
theorem body_tr {pa ca dm c Pl : Addr} {fs : Array Value} {ad cde} (B : Bis S) (R : ReAt S pa ca fs) (M : EscAt w S dm) (fe : FnAt S "escape" (defAt 7) ad cde) (hst : CodeSt S c Pl) (hcd : cd = .ref c) {ts : List Tk} (hok : ∀ k ∈ ts, okT k) {pat : List Nat} (hpat : pat = ts.flatMap src) (hz : pat.length ≤ 1000)
    (rm : Rm 1 A) (F : Frm S (eT L a cd) [] h₀ P₀ [(Pl, .is TabP)] ([("pat", .str pat), ("STAR", .ref st), ("QUESTION_MARK", .str [46])]) h P)
    (k : ∀ v h' P', Frm S (eT L a cd) [] h₀ P₀ [(Pl, .is TabP)] [] h' P' → Rep P' (.lst ((ts.foldl pushT []).map (pD st))) v → K (.ret v) h') :
    Xs w s0 A (eT L a cd) (bodyOf (defAt 9)) h K := by
  have hh := rm.hh
  have hpz : pat.length ≤ sizeLine := lineLe (Nat.le_trans hz (by decide))
  refine Xs.cons (x_newlist F (.inl rfl) evl_nil (Nat.zero_le _) (fun a' h₃ P₃ p₃ F₃ => ?_) rfl)
  refine Xs.cons (x_bm F₃ rfl rfl fun b h₄ P₄ p₄ hb₄ F₄ => ?_)
  refine Xs.cons (x_swap2 hh F₄ rfl rfl (ev_tuple (evl_cons' rfl ev_int (evl_cons' rfl (lenS B F₄.inn (nm F₄.inn) hpz) evl_nil)) (by show 2 ≤ sizeLine; decide)) (fun h₅ P₅ p₅ F₅ => ?_) rfl rfl)
  have F5 : FT S L a cd h₀ P₀ [(Pl, .is TabP)] b a' st pat 0 [] h₅ P₅ := ⟨p₅ _ _ hb₄, F₅.sub (.cons rfl (.cons rfl (.cons rfl (.cons rfl (.cons rfl (.cons rfl (.cons rfl .nil)))))))⟩
  refine Xs.cons (X1.mono (K := fun fl h => fl = .next ∧ ∃ P, FT S L a cd h₀ P₀ [(Pl, .is TabP)] b a' st pat pat.length (ts.foldl pushT []) h P) (x_while (fun m h => ∃ (P : Pm) (i : Nat) (tr : List Tk) (res : List (Option (List Nat))), m = tr.length ∧ pat.drop i = tr.flatMap src ∧ i ≤ pat.length ∧ (∀ k ∈ tr, okT k) ∧ res.length ≤ i ∧ tr.foldl pushT res = ts.foldl pushT [] ∧ FT S L a cd h₀ P₀ [(Pl, .is TabP)] b a' st pat i res h P) ts.length
    ⟨P₅, 0, ts, [], rfl, by rw [hpat]; rfl, Nat.zero_le _, hok, Nat.zero_le _, rfl, F5⟩ fun m h xx => ?_) fun fl h xx => ?_)
  · obtain ⟨P, i, tr, res, em, hdr, hi, hok, hres, htot, hb, F⟩ := xx
    refine ⟨P, decide (i < pat.length), F.refl', Tst.cast (tcmp (nm F.inn) (nm F.inn) op_ltI) (by simp), fun e h₇ P₇ g₇ => ?_, fun e h₇ P₇ g₇ => ?_⟩
    · have hip := of_decide_eq_true e
      cases tr with
      | nil => exact absurd (List.drop_eq_nil_iff.mp hdr) (Nat.not_le.mpr hip)
      | cons k tr =>
        have F₇ := F.grow g₇
        have hb₇ := g₇.ext _ _ hb
        have hrz : (res.map (pD st)).length ≤ sizeLine := lineLe (by rw [List.length_map]; exact Nat.le_trans hres (Nat.le_trans hi (Nat.le_trans hz (by decide))))
        have hdk : pat.drop i = src k ++ tr.flatMap src := hdr
        have hkl : i + (src k).length ≤ pat.length := by
          have := congrArg List.length hdk
          rw [List.length_drop, List.length_append] at this
          omega
        have hat : ∀ q (hq : q < (src k).length), pat[i + q]? = some (src k)[q] := fun q hq => by
          have : (pat.drop i)[q]? = some (src k)[q] := by rw [hdk, List.getElem?_append_left hq, List.getElem?_eq_getElem hq]
          rwa [List.getElem?_drop] at this
        have hdr' : pat.drop (i + (src k).length) = tr.flatMap src := by rw [← List.drop_drop, hdk, List.drop_left]
        have hsp := src_pos k
        -- the turn's end
        have fin : ∀ (res' : List (Option (List Nat))) h' P', res' = pushT res k → FT S L a cd h₀ P₀ [(Pl, .is TabP)] b a' st pat (i + (src k).length) res' h' P' →
            ∃ m', m' < m ∧ ∃ (P : Pm) (i : Nat) (tr : List Tk) (res : List (Option (List Nat))), m' = tr.length ∧ pat.drop i = tr.flatMap src ∧ i ≤ pat.length ∧ (∀ k ∈ tr, okT k) ∧ res.length ≤ i ∧ tr.foldl pushT res = ts.foldl pushT [] ∧ FT S L a cd h₀ P₀ [(Pl, .is TabP)] b a' st pat i res h' P := fun res' h' P' er F' =>
          ⟨tr.length, by rw [em]; exact Nat.lt_succ_self _, P', _, tr, res', rfl, hdr', hkl, fun q hq => hok q (.tail _ hq), by have := pushT_len res k; rw [er]; omega, by rw [er]; exact htot, F'⟩
        have okk := hok k (.head _)
        generalize hc0 : (src k)[0] = c0 at *
        have hat0 : pat[i]? = some c0 := by rw [← hc0]; exact hat 0 hsp
        refine Xs.cons (asg F₇ (sub (nm F₇.inn) (nm F₇.inn) (op_itemS' hpz (by omega) (by rw [show ((i : Int)).toNat = i by omega]; exact hat0))) fun h₈ P₈ p₈ F₈ => ?_)
        refine Xs.cons (asg F₈ (bin (nm F₈.inn) ev_int op_addI) fun h₉ P₉ p₉ F₉ => ?_)
        have hb₉ := p₉ _ _ (p₈ _ _ hb₇)
        by_cases h2 : k = .star
        · subst h2
          have e0 : c0 = 42 := hc0.symm
          subst e0
          refine Xs.cons (x_if (b := true) F₉.refl' (tcmp (nm F₉.inn) (ss [42]) op_eqS) (fun _ h P g => ?_) (fun e => nomatch e))
          have F := F₉.grow g
          have hb := g.ext _ _ hb₉
          refine Xs.cons (if_peek (x := "res") (!decide (res.getLast? = some none)) F rfl (fun Pq I hP => ?_) (fun e h' P' hP F' => ?_) (fun e h' P' hP F' => ?_))
          · by_cases hne : res = []
            · subst hne
              exact Tst.cast (tst_or (b := true) (c := true) (tst_not (tpl (nm I) (tru_lst hrz))) fun e => nomatch e) rfl
            · refine Tst.cast (tst_or (b := false) (c := (res.getLast hne).isSome) (Tst.cast (tst_not (tpl (nm I) (tru_lst hrz))) ?_) fun _ => isStar _ _ (sub (nm I) (ev_neg ev_int) (op_itemLneg hrz (by decide) ?_ ?_)) (nm I)) ?_
              · simp [hne]
              · have : 1 ≤ res.length := List.length_pos_iff.mpr hne
                rw [List.length_map]; omega
              · have : 1 ≤ res.length := List.length_pos_iff.mpr hne
                rw [List.length_map, show ((-(1 : Int)) + (res.length : Int)).toNat = res.length - 1 by omega, List.getElem?_map, ← List.getLast?_eq_getElem?, List.getLast?_eq_some_getLast hne]; rfl
              · rw [List.getLast?_eq_some_getLast hne]
                cases res.getLast hne <;> simp
          · have e' : ¬ res.getLast? = some none := by simpa using e
            refine Xs.cons (x_add F' rfl (hP _ _ hb) (nm F'.inn) hrz fun h'' P'' hP'' F'' => Xs.nil (Xs.nil (Xs.nil ?_)))
            refine fin (res ++ [none]) h'' P'' (by unfold pushT; rw [if_neg e']) ⟨hP'' _ _ (hP _ _ hb), ?_⟩
            rw [List.map_append]
            exact F''.sub (.cons rfl (.cons rfl (.cons rfl (.cons rfl (.cons rfl (.cons rfl (.cons rfl .nil)))))))
          · have e' : res.getLast? = some none := by simpa using e
            exact Xs.nil (Xs.nil (Xs.nil (fin res h' P' (by unfold pushT; rw [if_pos e']) ⟨hP _ _ hb, F'.sub (.cons rfl (.cons rfl (.cons rfl (.cons rfl (.cons rfl (.cons rfl (.cons rfl .nil)))))))⟩)))
        have n42 : c0 ≠ 42 := fun z => by
          subst z
          cases k with
          | star => exact h2 rfl
          | quest => cases hc0
          | lit c => exact okk.1 hc0
          | set c => cases hc0
          | notA => cases hc0
        refine Xs.cons (x_if (b := false) F₉.refl' (Tst.cast (tcmp (nm F₉.inn) (ss [42]) op_eqS) (by simp [n42])) (fun e => nomatch e) (fun _ h₁₀ P₁₀ g₁₀ => ?_))
        have F₁₀ := F₉.grow g₁₀
        have hb₁₀ := g₁₀.ext _ _ hb₉
        by_cases h3 : k = .quest
        · subst h3
          have e0 : c0 = 63 := hc0.symm
          subst e0
          refine Xs.cons (x_if (b := true) F₁₀.refl' (tcmp (nm F₁₀.inn) (ss [63]) op_eqS) (fun _ h P g => ?_) (fun e => nomatch e))
          have F := F₁₀.grow g
          have hb := g.ext _ _ hb₁₀
          refine Xs.cons (x_add F rfl hb (nm F.inn) hrz fun h'' P'' hP'' F'' => Xs.nil (Xs.nil (Xs.nil ?_)))
          refine fin (res ++ [some [46]]) h'' P'' rfl ⟨hP'' _ _ hb, ?_⟩
          rw [List.map_append]
          exact F''.sub (.cons rfl (.cons rfl (.cons rfl (.cons rfl (.cons rfl (.cons rfl (.cons rfl .nil)))))))
        have n63 : c0 ≠ 63 := fun z => by
          subst z
          cases k with
          | star => exact h2 rfl
          | quest => exact h3 rfl
          | lit c => exact okk.2.1 hc0
          | set c => cases hc0
          | notA => cases hc0
        refine Xs.cons (x_if (b := false) F₁₀.refl' (Tst.cast (tcmp (nm F₁₀.inn) (ss [63]) op_eqS) (by simp [n63])) (fun e => nomatch e) (fun _ h₁₁ P₁₁ g₁₁ => ?_))
        have F₁₁ := F₁₀.grow g₁₁
        have hb₁₁ := g₁₁.ext _ _ hb₁₀
        by_cases h1 : ∃ c, k = .lit c
        · obtain ⟨c, rfl⟩ := h1
          have e0 : c0 = c := hc0.symm
          subst e0
          refine Xs.cons (x_if (b := false) F₁₁.refl' (Tst.cast (tcmp (nm F₁₁.inn) (ss [91]) op_eqS) (by simp [okk.2.2])) (fun e => nomatch e) (fun _ h P g => ?_))
          have F := F₁₁.grow g
          have hb := g.ext _ _ hb₁₁
          refine Xs.cons (x_add F rfl hb (ev_call (sp_escape B fe M) rm F.inn rfl (by decide) (evl_cons' rfl (nm F.inn) evl_nil) rfl) hrz fun h'' P'' hP'' F'' => Xs.nil (Xs.nil (Xs.nil (Xs.nil ?_))))
          refine fin (res ++ [some (esc c0)]) h'' P'' rfl ⟨hP'' _ _ hb, ?_⟩
          rw [List.map_append]
          exact F''.sub (.cons rfl (.cons rfl (.cons rfl (.cons rfl (.cons rfl (.cons rfl (.cons rfl .nil)))))))
        obtain ⟨s, o, hsrc, hpush, hso⟩ := tk_set okk (fun c e => h1 ⟨c, e⟩) h2 h3
        have hslen : (src k).length = s.length + 2 := by rw [hsrc]; simp
        have e0 : c0 = 91 := by
          rw [← hc0]; simp only [hsrc]; rfl
        subst e0
        have hats : ∀ q (hq : q < s.length), pat[i + 1 + q]? = some s[q] := fun q hq => by
          have := hat (1 + q) (by omega)
          rw [← Nat.add_assoc] at this
          rw [this]
          simp only [hsrc, Nat.add_comm 1 q, List.getElem_cons_succ, List.getElem_append_left hq]
        have hatc : pat[i + 1 + s.length]? = some 93 := by
          have := hat (1 + s.length) (by omega)
          rw [← Nat.add_assoc] at this
          rw [this]
          simp only [hsrc, Nat.add_comm 1 s.length, List.getElem_cons_succ]
          simp
        obtain ⟨x, hx, hx93, hpre⟩ : ∃ x, pat[i + s.length]? = some x ∧ x ≠ 93 ∧ ((s = [x] ∧ x ≠ 33) ∨ s = [33, x]) := by
          rcases hso with ⟨rfl, _⟩ | ⟨rfl, _⟩ | ⟨rfl, _⟩ | ⟨rfl, _⟩
          · exact ⟨42, hats 0 (by decide), by decide, .inl ⟨rfl, by decide⟩⟩
          · exact ⟨63, hats 0 (by decide), by decide, .inl ⟨rfl, by decide⟩⟩
          · exact ⟨91, hats 0 (by decide), by decide, .inl ⟨rfl, by decide⟩⟩
          · exact ⟨97, hats 1 (by decide), by decide, .inr rfl⟩
        have itm : ∀ {A : Around} (q c : Nat), pat[q]? = some c → Op2 w s0 A getItem (.str pat) (.int q) (.str [c]) := fun {_} q c e => op_itemS' hpz (by omega) (by rw [show ((q : Int)).toNat = q by omega]; exact e)
        refine Xs.cons (x_if (b := true) F₁₁.refl' (tcmp (nm F₁₁.inn) (ss [91]) op_eqS) (fun _ h₁₂ P₁₂ g₁₂ => ?_) (fun e => nomatch e))
        have F₁₂ := F₁₁.grow g₁₂
        refine Xs.cons (asg F₁₂ (nm F₁₂.inn) fun h₁₃ P₁₃ p₁₃ F₁₃ => ?_)
        have hb₁₃ := p₁₃ _ _ (g₁₂.ext _ _ hb₁₁)
        let ρS : Nat → List (Str × D) := fun j => ("j", .int j) :: ("i", .int ((i + 1 : Nat) : Int)) :: (ρT b a' st pat i).tail
        let FS := fun (j : Nat) (h : Heap) (P : Pm) => P b = some (bmObj a') ∧ Frm S (eT L a cd) [] h₀ P₀ ((a', .lst (res.map (pD st))) :: [(Pl, .is TabP)]) (ρS j) h P
        have hips : i + s.length < pat.length := by omega
        refine Xs.cons (X1.mono (K := fun fl h => fl = .next ∧ ∃ P, FS (i + s.length) h P) ?_ fun fl h xx => ?_)
        · rcases hpre with ⟨rfl, h33⟩ | rfl
          · refine x_if (b := false) F₁₃.refl' (tst_and (b := true) (c := false) (Tst.cast (tcmp (nm F₁₃.inn) (nm F₁₃.inn) op_ltI) (by simp at hips ⊢; omega)) fun _ => Tst.cast (tcmp (sub (nm F₁₃.inn) (nm F₁₃.inn) (itm (i + 1) x hx)) (ss [33]) op_eqS) (by simp [h33])) (fun e => nomatch e) (fun _ h P g => Xs.nil ⟨rfl, P, g.ext _ _ hb₁₃, ?_⟩)
            exact (F₁₃.grow g).sub (.cons rfl (.cons rfl (.cons rfl (.cons rfl (.cons rfl (.cons rfl (.cons rfl (.cons rfl .nil))))))))
          · refine x_if (b := true) F₁₃.refl' (tst_and (b := true) (c := true) (Tst.cast (tcmp (nm F₁₃.inn) (nm F₁₃.inn) op_ltI) (by simp at hips ⊢; omega)) fun _ => Tst.cast (tcmp (sub (nm F₁₃.inn) (nm F₁₃.inn) (itm (i + 1) 33 (hats 0 (Nat.succ_pos _)))) (ss [33]) op_eqS) rfl) (fun _ h P g => ?_) (fun e => nomatch e)
            have F := F₁₃.grow g
            refine Xs.cons (asg F (bin (nm F.inn) ev_int op_addI) fun h' P' p' F' => Xs.nil ⟨rfl, P', p' _ _ (g.ext _ _ hb₁₃), ?_⟩)
            exact F'.sub (.cons rfl (.cons rfl (.cons rfl (.cons rfl (.cons rfl (.cons rfl (.cons rfl (.cons rfl .nil))))))))
        obtain ⟨efl, P, hb, F⟩ := xx
        subst efl
        refine Xs.cons (x_if (b := false) F.refl' (tst_and (b := true) (c := false) (Tst.cast (tcmp (nm F.inn) (nm F.inn) op_ltI) (by simp at hips ⊢; omega)) fun _ => Tst.cast (tcmp (sub (nm F.inn) (nm F.inn) (itm _ x hx)) (ss [93]) op_eqS) (by simp [hx93])) (fun e => nomatch e) (fun _ h₁₄ P₁₄ g₁₄ => Xs.nil ?_))
        have F₁₄ : FS (i + s.length) h₁₄ P₁₄ := ⟨g₁₄.ext _ _ hb, F.grow g₁₄⟩
        have hic : i + s.length + 1 < pat.length := by omega
        refine Xs.cons (X1.mono (K := fun fl h => fl = .next ∧ ∃ P, FS (i + s.length + 1) h P) (x_while (fun m h => ∃ (P : Pm) (q : Nat), m = 1 - q ∧ q ≤ 1 ∧ FS (i + s.length + q) h P) 1 ⟨P₁₄, 0, rfl, by decide, F₁₄⟩ fun m h xx => ?_) fun fl h xx => ?_)
        · obtain ⟨P, q, em, hq, hb, F⟩ := xx
          have hxq : pat[i + s.length + q]? = some (if q = 0 then x else 93) := by
            rcases Nat.le_one_iff_eq_zero_or_eq_one.mp hq with rfl | rfl
            · exact hx
            · rw [show i + s.length + 1 = i + 1 + s.length by omega]; exact hatc
          refine ⟨P, decide (q = 0), F.refl', Tst.cast (tst_and (b := true) (c := decide (q = 0)) (Tst.cast (tcmp (nm F.inn) (nm F.inn) op_ltI) (by simp; omega)) fun _ => Tst.cast (tcmp (sub (nm F.inn) (nm F.inn) (itm _ _ hxq)) (ss [93]) op_neS) ?_) (Bool.true_and _), fun e h' P' g => ?_, fun e h' P' g => ?_⟩
          · by_cases hq0 : q = 0 <;> simp [hq0, hx93]
          · have hq0 := of_decide_eq_true e
            subst hq0
            have F' := F.grow g
            refine Xs.cons (asg F' (bin (nm F'.inn) ev_int op_addI) fun h'' P'' p'' F'' => Xs.nil ⟨0, by omega, P'', 1, rfl, Nat.le_refl _, p'' _ _ (g.ext _ _ hb), ?_⟩)
            exact F''.sub (.cons rfl (.cons rfl (.cons rfl (.cons rfl (.cons rfl (.cons rfl (.cons rfl (.cons rfl .nil))))))))
          · have hq1 : q = 1 := by have := of_decide_eq_false e; omega
            subst hq1
            exact ⟨rfl, P', g.ext _ _ hb, F.grow g⟩
        obtain ⟨efl, P, hb, F⟩ := xx
        subst efl
        have hcut : psl pat (some ((i + 1 : Nat) : Int)) (some ((i + s.length + 1 : Nat) : Int)) = s := by
          rw [psl_mid _ _ _ (by omega) (by omega), show i + s.length + 1 - (i + 1) = s.length by omega, ← List.drop_drop, hdk, hsrc]
          simp
        have hs2 : s.length ≤ 2 := by rcases hso with ⟨rfl, _⟩ | ⟨rfl, _⟩ | ⟨rfl, _⟩ | ⟨rfl, _⟩ <;> decide
        refine Xs.cons (x_if (b := false) F.refl' (Tst.cast (tcmp (nm F.inn) (nm F.inn) op_geI) (by simp; omega)) (fun e => nomatch e) (fun _ h₁₅ P₁₅ g₁₅ => ?_))
        have F₁₅ := F.grow g₁₅
        refine Xs.cons (asg (d := .str s) F₁₅ (Ev.cast (cutS_mid (nm F₁₅.inn) (nm F₁₅.inn) (nm F₁₅.inn) hpz) (by rw [hcut])) fun h₁₆ P₁₆ p₁₆ F₁₆ => ?_)
        refine Xs.cons (x_if (b := true) F₁₆.refl' (Tst.cast (tcmp (ss [45]) (nm F₁₆.inn) op_notInS) (by rcases hso with ⟨rfl, _⟩ | ⟨rfl, _⟩ | ⟨rfl, _⟩ | ⟨rfl, _⟩ <;> rfl)) (fun _ h₁₇ P₁₇ g₁₇ => ?_) (fun e => nomatch e))
        have F₁₇ := F₁₆.grow g₁₇
        refine Xs.cons (asg (d := .str s) F₁₇ (Ev.cast (mReplace 92 [92, 92] (nm F₁₇.inn) (by omega)) (by rcases hso with ⟨rfl, _⟩ | ⟨rfl, _⟩ | ⟨rfl, _⟩ | ⟨rfl, _⟩ <;> rfl)) fun h₁₈ P₁₈ p₁₈ F₁₈ => Xs.nil ?_)
        have hb₁₈ := p₁₈ _ _ (g₁₇.ext _ _ (p₁₆ _ _ (g₁₅.ext _ _ hb)))
        have hcl : Clean fs reItems s := by
          rcases hso with ⟨rfl, _⟩ | ⟨rfl, _⟩ | ⟨rfl, _⟩ | ⟨rfl, _⟩
          · exact clean_star R.g1
          · exact clean_quest R.g1
          · exact clean_open R.g1
          · exact clean_na R.g1
        refine Xs.cons (x_sub (n := [(a', .lst (res.map (pD st)))]) F₁₈ hst R.pat R.dict R.mg hcl rfl hcd (by decide) rfl rfl (.inl rfl) rfl (by decide) (by decide) fun h₁₉ P₁₉ p₁₉ F₁₉ => ?_)
        refine Xs.cons (asg F₁₉ (bin (nm F₁₉.inn) ev_int op_addI) fun h₂₀ P₂₀ p₂₀ F₂₀ => ?_)
        have hb₂₀ := p₂₀ _ _ (p₁₉ _ _ hb₁₈)
        have hne : s ≠ [] := hcl.1
        have hsz : s.length ≤ sizeLine := lineLe (by omega)
        refine Xs.cons (x_if (b := false) F₂₀.refl' (Tst.cast (tst_not (tpl (nm F₂₀.inn) (tru_str hsz))) (by simp [hne])) (fun e => nomatch e) (fun _ h₂₁ P₂₁ g₂₁ => ?_))
        have F₂₁ := F₂₀.grow g₂₁
        refine Xs.cons (x_if (b := false) F₂₁.refl' (Tst.cast (tcmp (nm F₂₁.inn) (ss [33]) op_eqS) (by rcases hso with ⟨rfl, _⟩ | ⟨rfl, _⟩ | ⟨rfl, _⟩ | ⟨rfl, _⟩ <;> rfl)) (fun e => nomatch e) (fun _ h₂₂ P₂₂ g₂₂ => ?_))
        have F₂₂ := F₂₁.grow g₂₂
        have hb₂₂ := g₂₂.ext _ _ (g₂₁.ext _ _ hb₂₀)
        refine Xs.cons (X1.mono (K := fun fl h => fl = .next ∧ ∃ P, P b = some (bmObj a') ∧ Frm S (eT L a cd) [] h₀ P₀ ((a', .lst (res.map (pD st))) :: [(Pl, .is TabP)]) (("stuff", .str o) :: ρT b a' st pat (i + s.length + 2)) h P) ?_ fun fl h xx => ?_)
        · rcases hso with ⟨rfl, rfl⟩ | ⟨rfl, rfl⟩ | ⟨rfl, rfl⟩ | ⟨rfl, rfl⟩
          · refine x_if (b := false) F₂₂.refl' (Tst.cast (tcmp (sub (nm F₂₂.inn) ev_int (op_itemS' (c := 42) hsz (by decide) rfl)) (ss [33]) op_eqS) rfl) (fun e => nomatch e) (fun _ h P g => ?_)
            have F := F₂₂.grow g
            refine Xs.cons (x_if (b := false) F.refl' (Tst.cast (tcmp (sub (nm F.inn) ev_int (op_itemS' (c := 42) hsz (by decide) rfl)) (ev_tuple (evl_cons' rfl (ss [94]) (evl_cons' rfl (ss [91]) evl_nil)) (by show 2 ≤ sizeLine; decide)) op_inTup2) rfl) (fun e => nomatch e) (fun _ h' P' g' => Xs.nil (Xs.nil ⟨rfl, P', g'.ext _ _ (g.ext _ _ hb₂₂), (F.grow g').sub (.cons rfl (.cons rfl (.cons rfl (.cons rfl (.cons rfl (.cons rfl (.cons rfl (.cons rfl .nil))))))))⟩)))
          · refine x_if (b := false) F₂₂.refl' (Tst.cast (tcmp (sub (nm F₂₂.inn) ev_int (op_itemS' (c := 63) hsz (by decide) rfl)) (ss [33]) op_eqS) rfl) (fun e => nomatch e) (fun _ h P g => ?_)
            have F := F₂₂.grow g
            refine Xs.cons (x_if (b := false) F.refl' (Tst.cast (tcmp (sub (nm F.inn) ev_int (op_itemS' (c := 63) hsz (by decide) rfl)) (ev_tuple (evl_cons' rfl (ss [94]) (evl_cons' rfl (ss [91]) evl_nil)) (by show 2 ≤ sizeLine; decide)) op_inTup2) rfl) (fun e => nomatch e) (fun _ h' P' g' => Xs.nil (Xs.nil ⟨rfl, P', g'.ext _ _ (g.ext _ _ hb₂₂), (F.grow g').sub (.cons rfl (.cons rfl (.cons rfl (.cons rfl (.cons rfl (.cons rfl (.cons rfl (.cons rfl .nil))))))))⟩)))
          · refine x_if (b := false) F₂₂.refl' (Tst.cast (tcmp (sub (nm F₂₂.inn) ev_int (op_itemS' (c := 91) hsz (by decide) rfl)) (ss [33]) op_eqS) rfl) (fun e => nomatch e) (fun _ h P g => ?_)
            have F := F₂₂.grow g
            refine Xs.cons (x_if (b := true) F.refl' (Tst.cast (tcmp (sub (nm F.inn) ev_int (op_itemS' (c := 91) hsz (by decide) rfl)) (ev_tuple (evl_cons' rfl (ss [94]) (evl_cons' rfl (ss [91]) evl_nil)) (by show 2 ≤ sizeLine; decide)) op_inTup2) rfl) (fun _ h' P' g' => ?_) (fun e => nomatch e))
            have F' := F.grow g'
            refine Xs.cons (asg F' (bin (ss [92]) (nm F'.inn) (op_addS (by decide))) fun h'' P'' p'' F'' => Xs.nil (Xs.nil ⟨rfl, P'', p'' _ _ (g'.ext _ _ (g.ext _ _ hb₂₂)), F''.sub (.cons rfl (.cons rfl (.cons rfl (.cons rfl (.cons rfl (.cons rfl (.cons rfl (.cons rfl .nil))))))))⟩))
          · refine x_if (b := true) F₂₂.refl' (Tst.cast (tcmp (sub (nm F₂₂.inn) ev_int (op_itemS' (c := 33) hsz (by decide) rfl)) (ss [33]) op_eqS) rfl) (fun _ h P g => ?_) (fun e => nomatch e)
            have F := F₂₂.grow g
            refine Xs.cons (asg (d := .str [94, 97]) F (bin (ss [94]) (Ev.cast (cutS_from (nm F.inn) ev_int hsz) rfl) (op_addS (by decide))) fun h'' P'' p'' F'' => Xs.nil ⟨rfl, P'', p'' _ _ (g.ext _ _ hb₂₂), F''.sub (.cons rfl (.cons rfl (.cons rfl (.cons rfl (.cons rfl (.cons rfl (.cons rfl (.cons rfl .nil))))))))⟩)
        obtain ⟨efl, P, hb, F⟩ := xx
        subst efl
        have ho2 : o.length ≤ 2 := by rcases hso with ⟨_, rfl⟩ | ⟨_, rfl⟩ | ⟨_, rfl⟩ | ⟨_, rfl⟩ <;> decide
        refine Xs.cons (x_add F rfl hb (fstr [91] [93] (nm F.inn) (by simp only [List.length_cons, List.length_nil]; omega)) hrz fun h'' P'' hP'' F'' => Xs.nil (Xs.nil (Xs.nil (Xs.nil (Xs.nil (Xs.nil (Xs.nil ?_)))))))
        refine fin (res ++ [some ([91] ++ o ++ [93])]) h'' P'' (hpush res).symm ⟨hP'' _ _ hb, ?_⟩
        rw [List.map_append, hslen]
        exact F''.sub (.cons rfl (.cons rfl (.cons rfl (.cons rfl (.cons rfl (.cons rfl (.cons rfl .nil)))))))
    · have hip := of_decide_eq_false e
      have hin : i = pat.length := by omega
      subst hin
      have htr : tr = [] := by
        cases tr with
        | nil => rfl
        | cons k tr =>
          rw [List.drop_length] at hdr
          have := congrArg List.length hdr
          have := src_pos k
          simp at *
          omega
      subst htr
      have ht' : res = ts.foldl pushT [] := htot
      subst ht'
      exact ⟨rfl, P₇, g₇.ext _ _ hb, F.grow g₇⟩
  · obtain ⟨efl, P, hb, F⟩ := xx
    subst efl
    refine Xs.cons (x_assert F.refl' (Tst.cast (tcmp (nm F.inn) (nm F.inn) op_eqI) (by simp)) fun h₇ P₇ g₇ => ?_)
    obtain ⟨P', F', hP, r⟩ := (F.grow g₇).freeze
    refine Xs.cons (x_ret (R := RepR (.ref a')) F'.refl' (nm F'.inn) fun v h'' P'' g r' => ?_)
    cases r'
    exact k _ h'' P'' ((F'.grow g).sub .nil) (r.mono g.ext)
end
end IK
end

/-! part C16 -/
section
open PySem PySem.W PyProof.Rows
set_option Elab.async false
set_option linter.unusedVariables false
set_option maxRecDepth 100000
namespace IK
theorem ok_trans : DefOk (defAt 4) ["pat"] [] := ⟨by decide, by decide, by decide, rfl, rfl, rfl⟩
section
variable {w : World} {s0 : Shared} {A : Around} {S : Sta} {h₀ h h' : Heap} {P₀ P P' : Pm} {n : List (Addr × Mo)} {ρ : List (Str × D)} {L a : Addr} {cd : Value} {K : Flow → Heap → Prop}
/-- y = object() -/
theorem x_object {env : Env} {ow : List Str} {y : Str} {np pos yp spos : Pos} (F : Frm S env ow h₀ P₀ n ρ h P) (hm : S.mg "object" = none) (hv : S.mb "object" = some (.type "object")) (hk : env.kindOf "object" = some .globalImplicit) (hky : env.kindOf y = some .local ∨ (env.kindOf y = some .cell ∧ y ∈ ow))
    (k : ∀ st h' P', PLe P P' → Frm S env ow h₀ P₀ n ((y, .ref st) :: ρ) h' P' → K .next h') (hs : swapsWith (.Call (.Name "object" np) [] [] pos) (some (.Name y yp)) spos.line env = pure false := by rfl) : X1 w s0 A env (.Assign [.Name y yp] (.Call (.Name "object" np) [] [] pos) spos) h K := by
  intro t ht Q E qq
  refine wpAny_Assign_Name ?_ hs
  have e1 : eval (.Call (.Name "object" np) [] [] pos) env = (do callWith pos (← eval (.Name "object" np) env) [] (backTo pos (starEach [] env)) (backToKw pos (keywordEach [] env))) := rfl
  rw [e1]
  refine wpAny_bind (ev_builtin (d := .typ "object") F.inn hk hm hv (fun _ => rfl) (by decide) h P t ht F.refl' _ E fun v h₁ P₁ t₁ ht₁ g₁ r₁ => ?_)
  cases r₁
  refine PySem.callWith_type rfl (evalArgs_any rfl (Calls.spliced_nil ?_))
  refine go_object h₁ P₁ t₁ ht₁ (.refl g₁.snd) _ E fun v h₂ P₂ t₂ ht₂ g₂ ⟨st, ev, es⟩ => ?_
  subst ev
  exact f_store (d := .ref st) (F.grow (g₁.trans g₂)) hky rfl ht₂ fun h₃ t₃ ht₃ F₃ => qq _ h₃ t₃ ht₃ (k st h₃ P₂ (fun b o e => (g₁.trans g₂).ext b o e) F₃)
/-- what translate leans on -/
structure TrAt (w : World) (S : Sta) (c Pl : Addr) : Prop where
  B : Bis S
  re : ∃ pa ca fs, ReAt S pa ca fs
  map : ∃ dm, EscAt w S dm
  fe : ∃ ad cde, FnAt S "escape" (defAt 7) ad cde
  ft : ∃ aT, FnAt S "_translate" (defAt 9) aT (.ref c)
  fj : ∃ aJ cdJ, FnAt S "_join_translated_parts" (defAt 10) aJ cdJ
  code : CodeSt S c Pl
noncomputable abbrev eR (L a : Addr) (cd : Value) : Env := fenv "translate" (defAt 4) L a cd
theorem body_trans {c Pl : Addr} (X : TrAt w S c Pl) {ts : List Tk} (hok : ∀ k ∈ ts, okT k) {pat : List Nat} (hpat : pat = ts.flatMap src) (hz : pat.length ≤ 1000)
    {f0 : List (List Nat)} {gs : List (List (List Nat))} (hp : ts.foldl pushT [] = f0.map some ++ tl gs) (hz' : (f0.map some ++ tl gs).length ≤ 1000) (hg : ∀ g ∈ gs, g ≠ [] ∧ g.length ≤ 1000 ∧ g.flatten.length ≤ 10000 ∧ ∀ x ∈ g, x.length ≤ 10)
    (hl : ∀ x ∈ out0 f0 gs, x.length ≤ 10100) (hf : (out0 f0 gs).flatten.length ≤ 90000) (hol : (out0 f0 gs).length ≤ 1400)
    (rm : Rm 2 A) (F : Frm S (eR L a cd) [] h₀ P₀ [(Pl, .is TabP)] [("pat", .str pat)] h P)
    (k : ∀ v h' P', Frm S (eR L a cd) [] h₀ P₀ [(Pl, .is TabP)] [] h' P' → RepR (.str ([40, 63, 115, 58] ++ (out0 f0 gs).flatten ++ [41, 92, 90])) v h' P' → K (.ret v) h') :
    Xs w s0 A (eR L a cd) (bodyOf (defAt 4)) h K := by
  obtain ⟨pa, ca, fs, R⟩ := X.re
  obtain ⟨dm, M⟩ := X.map
  obtain ⟨ad, cde, fe⟩ := X.fe
  obtain ⟨aT, ft⟩ := X.ft
  obtain ⟨aJ, cdJ, fj⟩ := X.fj
  have B := X.B
  have ob := B.ty "object" (by simp)
  refine Xs.cons (x_object F ob.1 ob.2 rfl (.inl rfl) fun st h₁ P₁ p₁ F₁ => ?_)
  refine Xs.cons (x_callE (k := 1) (n := []) (m := [(Pl, .is TabP)]) (mE := [(Pl, .is TabP)]) rfl (fun p hp => by cases List.mem_singleton.mp hp; exact ⟨_, rfl⟩) (d := .lst ((ts.foldl pushT []).map (pD st))) (ds := [.str pat, .ref st, .str [46]]) ft ok_tr rm F₁ (fun p hp => by cases List.mem_singleton.mp hp; exact ⟨_, rfl⟩)
    (evl_cons' rfl (nm F₁.inn) (evl_cons' rfl (nm F₁.inn) (evl_cons' rfl (ss [46]) evl_nil))) rfl (fun vs hv pm doc => ?_) (fun h₂ P₂ L₂ h₃ hP F₂ rm' => ?_) rfl (by decide) (.inl rfl) fun h₂ P₂ p₂ F₂ => ?_)
  · match vs, hv with
    | [x, y, z], _ => rfl
  · exact body_tr B R M fe X.code rfl hok hpat hz rm' F₂ fun v h' P' F' r => ⟨P', Left.of F' rfl (fun p hp => by cases List.mem_singleton.mp hp; exact ⟨_, rfl⟩), r⟩
  · refine Xs.cons (x_ret F₂.refl' (R := RepR (.str ([40, 63, 115, 58] ++ (out0 f0 gs).flatten ++ [41, 92, 90]))) ?_ fun v h' P' g r => k v h' P' ((F₂.grow g).sub .nil) r)
    rw [hp] at F₂
    exact ev_call (sp_join B fj hz' hg hl hf hol) (rm.less (by decide)) F₂.inn rfl (by decide) (evl_cons' rfl (nm F₂.inn) (evl_cons' rfl (nm F₂.inn) evl_nil)) rfl
end
end IK
end

/-! part P2 -/
section
open PySem PySem.W PyProof.Rows
set_option Elab.async false
set_option linter.unusedVariables false
namespace IK
/-! what _law_drawn reads off a number -/
@[irreducible] noncomputable def kd (x : Int) : Nat := ((x.fmod 884736).fmod 16).toNat
@[irreducible] noncomputable def rs (x : Int) : Nat := ((x.fmod 884736).fdiv 16).toNat
@[irreducible] noncomputable def fr (x : Int) : Nat := if 42 + rs x % 55254 = 47 then 97 else 42 + rs x % 55254
noncomputable def ptk (k f : Nat) : List Tk :=
  match k with
  | 0 => [.star] | 1 => [.quest] | 2 => [.lit 97] | 3 => [.lit 98] | 4 => [.lit 46] | 5 => [.lit 47] | 6 => [.notA]
  | 12 => [if f ∈ [42, 63, 91] then .set f else .lit f] | 13 => [.lit 47, .lit 98] | 15 => [.star] | _ => []
noncomputable def suf (k f : Nat) : List Nat :=
  match k with
  | 7 => [97] | 8 => [98] | 9 => [47, 97] | 10 => [47, 98] | 11 => [46, 97] | 12 => [f] | 13 => [47, 98] | 15 => [47, 98] | _ => []
noncomputable def beg (r : Nat) : List Nat := ([[97], [98], [97, 47, 98], [98, 47, 97]] : List (List Nat)).getD (r % 4) []
noncomputable def told1 : Tk → It1
  | .star => none | .quest => some (true, []) | .lit c => some (false, [c]) | .set c => some (false, [c]) | .notA => some (true, [97])
@[irreducible] noncomputable def addF (fs : List (List Nat)) (x : Int) : List (List Nat) := if kd x = 14 then fs ++ [beg (rs x)] else fs
@[irreducible] noncomputable def stepF (fs : List (List Nat)) (x : Int) : List (List Nat) := (addF fs x).set ((addF fs x).length - 1) ((addF fs x).getLastD [] ++ suf (kd x) (fr x))
noncomputable def dToks (l : List Int) : List Tk := (l.take 10).flatMap fun x => ptk (kd x) (fr x)
noncomputable def dFiles (l : List Int) : List (List Nat) := (l.take 10).foldl stepF [[98, 47, 98], [97, 47, 98]]
theorem kd_eq (x : Int) : (x.fmod 884736).fmod 16 = (kd x : Int) ∧ kd x < 16 := by
  have h1 := Int.fmod_nonneg_of_pos (x.fmod 884736) (b := 16) (by decide)
  have h2 := Int.fmod_lt_of_pos (x.fmod 884736) (b := 16) (by decide)
  unfold kd; omega
theorem rs_eq (x : Int) : (x.fmod 884736).fdiv 16 = (rs x : Int) := by
  have h1 := Int.fmod_nonneg_of_pos x (b := 884736) (by decide)
  have := Int.fdiv_nonneg h1 (show (0 : Int) ≤ 16 by decide)
  unfold rs; omega
theorem fmod_nat (a b : Nat) : (a : Int).fmod (b : Int) = ((a % b : Nat) : Int) := by
  rw [Int.fmod_eq_emod_of_nonneg _ (by omega)]; omega
theorem fr_rep (x : Int) : rep 47 [97] [42 + rs x % 55254] = [fr x] := by
  unfold rep fr
  simp only [List.flatMap_cons, List.flatMap_nil, List.append_nil]
  split <;> rfl
theorem suf_len (k f : Nat) : (suf k f).length ≤ 2 := by unfold suf; split <;> simp
theorem beg_len (r : Nat) : (beg r).length ≤ 3 := by
  unfold beg
  have : r % 4 = 0 ∨ r % 4 = 1 ∨ r % 4 = 2 ∨ r % 4 = 3 := by omega
  rcases this with e | e | e | e <;> rw [e] <;> simp
theorem ptk_len (k f : Nat) : (ptk k f).length ≤ 2 := by unfold ptk; split <;> simp
theorem src_len (k : Tk) : (src k).length ≤ 4 := by cases k <;> simp [src]
theorem ptk_src (k f : Nat) : ((ptk k f).flatMap src).length ≤ 4 := by
  unfold ptk; split <;> (try simp [src])
  split <;> simp
theorem addF_len (fs : List (List Nat)) (x : Int) : (addF fs x).length ≤ fs.length + 1 ∧ fs.length ≤ (addF fs x).length := by unfold addF; split <;> simp
theorem addF_ne {fs : List (List Nat)} (x : Int) (h : fs ≠ []) : addF fs x ≠ [] := by unfold addF; split <;> simp [h]
theorem stepF_len (fs : List (List Nat)) (x : Int) : (stepF fs x).length = (addF fs x).length := by unfold stepF; simp
/-- no file is long -/
theorem addF_mem {fs : List (List Nat)} {x : Int} {B : Nat} (h : ∀ f ∈ fs, f.length ≤ B) (hB : 3 ≤ B) : ∀ f ∈ addF fs x, f.length ≤ B := by
  unfold addF
  split
  · intro f hf
    rcases List.mem_append.mp hf with hf | hf
    · exact h f hf
    · cases List.mem_singleton.mp hf; exact Nat.le_trans (beg_len _) hB
  · exact h
theorem getLastD_len {fs : List (List Nat)} {B : Nat} (h : ∀ f ∈ fs, f.length ≤ B) : (fs.getLastD []).length ≤ B := by
  cases hf : fs with
  | nil => simp
  | cons a r => rw [← hf]; exact h _ (getLastD_mem (by rw [hf]; simp))
theorem stepF_mem {fs : List (List Nat)} {x : Int} {B : Nat} (h : ∀ f ∈ fs, f.length ≤ B) (hB : 3 ≤ B) : ∀ f ∈ stepF fs x, f.length ≤ B + 2 := by
  intro f hf
  have ha := addF_mem (x := x) h hB
  unfold stepF at hf
  rcases List.mem_or_eq_of_mem_set hf with hf | rfl
  · exact Nat.le_trans (ha f hf) (by omega)
  · rw [List.length_append]
    have := getLastD_len ha
    have := suf_len (kd x) (fr x)
    omega
theorem foldF (l : List Int) : ∀ (fs : List (List Nat)) (B : Nat), (∀ f ∈ fs, f.length ≤ B) → 3 ≤ B → fs ≠ [] → (∀ f ∈ l.foldl stepF fs, f.length ≤ B + 2 * l.length) ∧ (l.foldl stepF fs).length ≤ fs.length + l.length ∧ fs.length ≤ (l.foldl stepF fs).length ∧ l.foldl stepF fs ≠ [] := by
  induction l with
  | nil => intro fs B h hB hne; exact ⟨h, by simp, by simp, hne⟩
  | cons x r ih =>
    intro fs B h hB hne
    have hl := stepF_len fs x
    have hl2 := addF_len fs x
    have hne' : stepF fs x ≠ [] := fun e => by have := addF_ne x hne; rw [e] at hl; exact this (List.length_eq_zero_iff.mp hl.symm)
    obtain ⟨a, b, c, d⟩ := ih (stepF fs x) (B + 2) (stepF_mem h hB) (by omega) hne'
    refine ⟨fun f hf => ?_, ?_, ?_, d⟩
    · have := a f hf; simp only [List.length_cons]; omega
    · simp only [List.foldl_cons, List.length_cons]; omega
    · simp only [List.foldl_cons]; omega
noncomputable def flN (l : List Int) (i : Nat) : List (List Nat) := (l.take i).foldl stepF [[98, 47, 98], [97, 47, 98]]
noncomputable def ttN (l : List Int) (i : Nat) : List Tk := (l.take i).flatMap fun x => ptk (kd x) (fr x)
theorem foldF' (l : List Int) (i : Nat) (hi : i ≤ 10) : (∀ f ∈ flN l i, f.length ≤ 23) ∧ (flN l i).length ≤ 12 ∧ 2 ≤ (flN l i).length ∧ flN l i ≠ [] := by
  have hl : (l.take i).length ≤ 10 := by rw [List.length_take]; omega
  unfold flN
  obtain ⟨a, b, c, d⟩ := foldF (l.take i) [[98, 47, 98], [97, 47, 98]] 3 (by simp) (by decide) (by simp)
  exact ⟨fun f hf => by have := a f hf; omega, by simp only [List.length_cons, List.length_nil] at b; omega, c, d⟩
theorem toks_len (l : List Int) : ∀ i, i ≤ 10 → (ttN l i).length ≤ 2 * i ∧ ((ttN l i).flatMap src).length ≤ 4 * i := by
  unfold ttN
  intro i
  induction i generalizing l with
  | zero => intro _; simp
  | succ i ih =>
    intro hi
    cases l with
    | nil => simp
    | cons x l =>
      have := ih l (by omega)
      have h1 := ptk_len (kd x) (fr x)
      have h2 := ptk_src (kd x) (fr x)
      simp only [List.take_succ_cons, List.flatMap_cons, List.length_append, List.flatMap_append]
      omega
end IK
end

/-! part C17b -/
section
open PySem PySem.W PyProof.Rows
set_option Elab.async false
set_option linter.unusedVariables false
set_option maxRecDepth 100000
namespace IK
noncomputable def asgVal : Stmt → Expr
  | .Assign _ e _ => e
  | _ => .Name "" ⟨0, 0, 0, 0⟩
noncomputable def forBody : Stmt → List Stmt
  | .For _ _ b _ _ => b
  | _ => []
noncomputable def elseOf : Stmt → List Stmt
  | .If _ _ b _ => b
  | _ => []
noncomputable def stAt (l : List Stmt) (n : Nat) : Stmt := l.getD n (.Pass ⟨0, 0, 0, 0⟩)
noncomputable abbrev eD (L a : Addr) (cd : Value) : Env := fenv "_law_drawn" (defAt 26) L a cd
noncomputable def sufs (f : Nat) : List (List Nat) := [[], [], [], [], [], [], [], [97], [98], [47, 97], [47, 98], [46, 97], [f], [47, 98], [], [47, 98]]
section
variable {w : World} {s0 : Shared} {A : Around} {S : Sta} {h₀ h h' : Heap} {P₀ P P' : Pm} {L a : Addr} {cd : Value} {K : Flow → Heap → Prop}
theorem suf_get (f : Nat) : ∀ k < 16, (sufs f)[k]? = some (suf k f)
  | 0, _ => rfl | 1, _ => rfl | 2, _ => rfl | 3, _ => rfl | 4, _ => rfl | 5, _ => rfl | 6, _ => rfl | 7, _ => rfl | 8, _ => rfl | 9, _ => rfl | 10, _ => rfl | 11, _ => rfl
  | 12, _ => rfl | 13, _ => rfl | 14, _ => rfl | 15, _ => rfl | n + 16, h => by omega
theorem ev_lastAdd {ρ : List (Str × D)} (I : In S (eD L a cd) ρ h P) {fs : List (List Nat)} {k f : Nat} (e1 : ρ.lookup ("files" : Str) = some (.lst (fs.map .str))) (e2 : ρ.lookup ("kind" : Str) = some (.int k)) (e3 : ρ.lookup ("free" : Str) = some (.str [f])) (hne : fs ≠ []) (hfs : fs.length ≤ 100) (hB : (fs.getLastD []).length ≤ 100) (hk : k < 16) :
    Ev w s0 A (eD L a cd) h P (asgVal (stAt (forBody (stAt (bodyOf (defAt 26)) 1)) 3)) (.str (fs.getLastD [] ++ suf k f)) := by
  have hsl : ((sufs f).map D.str).length ≤ sizeLine := lineLe (by simp [sufs])
  have hdl : (fs.map D.str).length ≤ sizeLine := lineLe (by rw [List.length_map]; omega)
  have hpos := List.length_pos_iff.mpr hne
  refine bin (d₁ := .str (fs.getLastD [])) (d₂ := .str (suf k f)) ?_ ?_ (op_addS (lineLe (by have := suf_len k f; omega)))
  · refine sub (d₂ := .int (-1)) (nm I e1) (ev_neg ev_int) (op_itemLneg hdl (by decide) ?_ ?_)
    · rw [List.length_map]; omega
    · rw [item_last (d := D.str []) (by simpa using hne)]
      congr 1
      rw [List.getLastD_eq_getLast?, List.getLast?_map, List.getLastD_eq_getLast?]
      cases fs.getLast? <;> rfl
  · have hop : Op2 w s0 A getItem (.lst ((sufs f).map .str)) (.int k) (.str (suf k f)) := op_itemL hsl (by omega) (by rw [Int.toNat_natCast, List.getElem?_map, suf_get _ _ hk]; rfl)
    refine @sub _ _ _ _ _ _ _ (.lst ((sufs f).map .str)) (.int k) _ _ _ _ _ ?_ (nm I e2) hop rfl (fun _ _ => ⟨_, rfl⟩)
    refine @ev_list _ _ _ _ _ _ _ _ _ ?_ hsl
    refine @evl_cons' _ _ _ _ _ _ _ _ _ _ _ rfl (ss []) ?_
    refine @evl_cons' _ _ _ _ _ _ _ _ _ _ _ rfl (ss []) ?_
    refine @evl_cons' _ _ _ _ _ _ _ _ _ _ _ rfl (ss []) ?_
    refine @evl_cons' _ _ _ _ _ _ _ _ _ _ _ rfl (ss []) ?_
    refine @evl_cons' _ _ _ _ _ _ _ _ _ _ _ rfl (ss []) ?_
    refine @evl_cons' _ _ _ _ _ _ _ _ _ _ _ rfl (ss []) ?_
    refine @evl_cons' _ _ _ _ _ _ _ _ _ _ _ rfl (ss []) ?_
    refine @evl_cons' _ _ _ _ _ _ _ _ _ _ _ rfl (ss [97]) ?_
    refine @evl_cons' _ _ _ _ _ _ _ _ _ _ _ rfl (ss [98]) ?_
    refine @evl_cons' _ _ _ _ _ _ _ _ _ _ _ rfl (ss [47, 97]) ?_
    refine @evl_cons' _ _ _ _ _ _ _ _ _ _ _ rfl (ss [47, 98]) ?_
    refine @evl_cons' _ _ _ _ _ _ _ _ _ _ _ rfl (ss [46, 97]) ?_
    refine @evl_cons' _ _ _ _ _ _ _ _ _ _ _ rfl (nm I e3) ?_
    refine @evl_cons' _ _ _ _ _ _ _ _ _ _ _ rfl (ss [47, 98]) ?_
    refine @evl_cons' _ _ _ _ _ _ _ _ _ _ _ rfl (ss []) ?_
    refine @evl_cons' _ _ _ _ _ _ _ _ _ _ _ rfl (ss [47, 98]) ?_
    exact evl_nil
noncomputable def pieces : List (List Nat) := [[42], [63], [97], [98], [46], [47], [], [], [], [], [], [], [], [47, 98], [], [42]]
theorem ev_piece {ρ : List (Str × D)} (I : In S (eD L a cd) ρ h P) {k : Nat} {p : List Nat} (e2 : ρ.lookup ("kind" : Str) = some (.int k)) (hp : pieces[k]? = some p) :
    Ev w s0 A (eD L a cd) h P (asgVal (stAt (elseOf (stAt (elseOf (stAt (forBody (stAt (bodyOf (defAt 26)) 1)) 4)) 0)) 0)) (.str p) := by
  have hpl : (pieces.map D.str).length ≤ sizeLine := lineLe (by simp [pieces])
  have hop : Op2 w s0 A getItem (.lst (pieces.map .str)) (.int k) (.str p) := op_itemL hpl (by omega) (by rw [Int.toNat_natCast, List.getElem?_map, hp]; rfl)
  refine @sub _ _ _ _ _ _ _ (.lst (pieces.map .str)) (.int k) _ _ _ _ _ ?_ (nm I e2) hop rfl (fun _ _ => ⟨_, rfl⟩)
  refine @ev_list _ _ _ _ _ _ _ _ _ ?_ hpl
  refine @evl_cons' _ _ _ _ _ _ _ _ _ _ _ rfl (ss [42]) ?_
  refine @evl_cons' _ _ _ _ _ _ _ _ _ _ _ rfl (ss [63]) ?_
  refine @evl_cons' _ _ _ _ _ _ _ _ _ _ _ rfl (ss [97]) ?_
  refine @evl_cons' _ _ _ _ _ _ _ _ _ _ _ rfl (ss [98]) ?_
  refine @evl_cons' _ _ _ _ _ _ _ _ _ _ _ rfl (ss [46]) ?_
  refine @evl_cons' _ _ _ _ _ _ _ _ _ _ _ rfl (ss [47]) ?_
  refine @evl_cons' _ _ _ _ _ _ _ _ _ _ _ rfl (ss []) ?_
  refine @evl_cons' _ _ _ _ _ _ _ _ _ _ _ rfl (ss []) ?_
  refine @evl_cons' _ _ _ _ _ _ _ _ _ _ _ rfl (ss []) ?_
  refine @evl_cons' _ _ _ _ _ _ _ _ _ _ _ rfl (ss []) ?_
  refine @evl_cons' _ _ _ _ _ _ _ _ _ _ _ rfl (ss []) ?_
  refine @evl_cons' _ _ _ _ _ _ _ _ _ _ _ rfl (ss []) ?_
  refine @evl_cons' _ _ _ _ _ _ _ _ _ _ _ rfl (ss []) ?_
  refine @evl_cons' _ _ _ _ _ _ _ _ _ _ _ rfl (ss [47, 98]) ?_
  refine @evl_cons' _ _ _ _ _ _ _ _ _ _ _ rfl (ss []) ?_
  refine @evl_cons' _ _ _ _ _ _ _ _ _ _ _ rfl (ss [42]) ?_
  exact evl_nil
end
end IK
end

/-! part C17 -/
section
open PySem PySem.W PyProof.Rows
set_option Elab.async false
set_option linter.unusedVariables false
set_option maxRecDepth 100000
namespace IK
theorem ok_drawn : DefOk (defAt 26) ["script"] [] := ⟨by decide, by decide, by decide, rfl, rfl, rfl⟩
noncomputable abbrev told2 (ts : List Tk) : List D := ts.map fun k => itD (told1 k)
noncomputable def sgn (c : Nat) : It1 := if c = 42 then none else some (c == 63, if c = 63 then [] else [c])
theorem piece_tk : ∀ k < 16, k ≠ 6 → k ≠ 12 → ∀ f, ∃ p, pieces[k]? = some p ∧ p.length ≤ 2 ∧ (ptk k f).flatMap src = p ∧ told2 (ptk k f) = p.map fun c => itD (sgn c)
  | 0, _, _, _, _ => ⟨_, rfl, by decide, rfl, rfl⟩ | 1, _, _, _, _ => ⟨_, rfl, by decide, rfl, rfl⟩ | 2, _, _, _, _ => ⟨_, rfl, by decide, rfl, rfl⟩
  | 3, _, _, _, _ => ⟨_, rfl, by decide, rfl, rfl⟩ | 4, _, _, _, _ => ⟨_, rfl, by decide, rfl, rfl⟩ | 5, _, _, _, _ => ⟨_, rfl, by decide, rfl, rfl⟩
  | 6, _, h, _, _ => absurd rfl h | 7, _, _, _, _ => ⟨_, rfl, by decide, rfl, rfl⟩ | 8, _, _, _, _ => ⟨_, rfl, by decide, rfl, rfl⟩ | 9, _, _, _, _ => ⟨_, rfl, by decide, rfl, rfl⟩
  | 10, _, _, _, _ => ⟨_, rfl, by decide, rfl, rfl⟩ | 11, _, _, _, _ => ⟨_, rfl, by decide, rfl, rfl⟩ | 12, _, _, h, _ => absurd rfl h
  | 13, _, _, _, _ => ⟨_, rfl, by decide, rfl, rfl⟩ | 14, _, _, _, _ => ⟨_, rfl, by decide, rfl, rfl⟩ | 15, _, _, _, _ => ⟨_, rfl, by decide, rfl, rfl⟩
  | n + 16, h, _, _, _ => by omega
section
variable {w : World} {s0 : Shared} {A : Around} {S : Sta} {h₀ h h' : Heap} {P₀ P P' : Pm} {L a : Addr} {cd : Value} {K : Flow → Heap → Prop}
noncomputable abbrev drPat (l : List Int) : List Nat := (dToks l).flatMap src
noncomputable abbrev drD (l : List Int) : D := .tup [.str (drPat l), .lst (told2 (dToks l)), .lst ((dFiles l).map .str)]
set_option maxHeartbeats 1000000 in
theorem body_drawn (B : Bis S) {l : List Int} (hl : l.length ≤ 63) (rm : Rm 0 A) (F : Frm S (eD L a cd) [] h₀ P₀ [] [("script", .lst (l.map .int))] h P)
    (k : ∀ v h' P', Gr h₀ P₀ h' P' → Rep P' (drD l) v → K (.ret v) h') : Xs w s0 A (eD L a cd) (bodyOf (defAt 26)) h K := by
  have hh := rm.hh
  have h16 : ∀ n, n ≤ 100000 → n ≤ sizeLine := fun n => lineLe
  refine Xs.cons (x_swap3N (ds := [.str [98, 47, 98], .str [97, 47, 98]]) hh F rfl rfl rfl (ss []) (evl_cons' rfl (ss [98, 47, 98]) (evl_cons' rfl (ss [97, 47, 98]) evl_nil)) (by show 2 ≤ sizeLine; decide) rfl (fun a' b' h₁ P₁ p₁ F₁ => ?_) rfl rfl)
  have hcut : psl (l.map D.int) none (some 10) = (l.take 10).map D.int := by
    rw [show (10 : Int) = ((10 : Nat) : Int) from rfl, psl_upto, List.map_take]
  refine Xs.cons (x_for ((l.take 10).map .int) (fun i => [(b', .lst ((flN l i).map .str)), (a', .lst (told2 (ttN l i)))]) (fun i => [("pattern", .str ((ttN l i).flatMap src)), ("told", .ref a'), ("files", .ref b')]) (F₁.sub (.cons rfl (.cons rfl (.cons rfl .nil))))
    ((ibl_list hh (cutL_to (nm F₁.inn) ev_int (lineLe (by rw [List.length_map]; omega)))).cast hcut) (.inl rfl) (fun _ => rfl) (fun i d m h₂ P₂ hd hP F₂ => ?_) fun h₂ P₂ hP F₂ => ?_)
  · rw [List.getElem?_map, List.getElem?_take] at hd
    obtain ⟨x, hx, rfl⟩ := Option.map_eq_some_iff.mp hd
    have hi : i < 10 := by
      by_cases e : i < 10
      · exact e
      · rw [if_neg e] at hx; cases hx
    rw [if_pos hi] at hx
    obtain ⟨hk, hk16⟩ := kd_eq x
    have hr := rs_eq x
    have hfl : flN l (i + 1) = stepF (flN l i) x := by
      show (l.take (i + 1)).foldl stepF _ = _
      rw [List.take_add_one, hx, List.foldl_append]; rfl
    have htt : ttN l (i + 1) = ttN l i ++ ptk (kd x) (fr x) := by
      show (l.take (i + 1)).flatMap _ = _
      rw [List.take_add_one, hx, List.flatMap_append]; simp [ttN]
    obtain ⟨hfB, hfn, hf2, hfne⟩ := foldF' l i (by omega)
    obtain ⟨htn, hts⟩ := toks_len l i (by omega)
    have hfB' := addF_mem (x := x) hfB (by decide)
    have hfnl := addF_len (flN l i) x
    have hfne' := addF_ne x hfne
    have hlast := getLastD_len hfB'
    -- rest, kind
    refine Xs.cons (x_unpack2 (dx := .int (rs x)) (dy := .int (kd x)) hh F₂ (.inl rfl) (.inl rfl)
      (Ev.cast (bcall2 B F₂.inn (by simp) (bin (nm F₂.inn) ev_int (op_modI (by decide))) ev_int (c_divmod (by decide) (by decide))) (by rw [hk, hr])) (fun h₃ P₃ p₃ F₃ => ?_) rfl rfl)
    refine Xs.cons (asg (d := .str [fr x]) F₃ ?_ fun h₄ P₄ p₄ F₄ => ?_)
    · refine Ev.cast (mReplace 47 [97] (l := [42 + rs x % 55254]) (Ev.cast (bcall1 B F₃.inn (by simp) (bin ev_int (bin (nm F₃.inn) ev_int (op_modI (by decide))) op_addI) (c_chr (i := 42 + ((rs x : Int).fmod 55254)) ?_ ?_)) ?_) (by simp)) (by rw [fr_rep])
      · rw [show (55254 : Int) = ((55254 : Nat) : Int) from rfl, fmod_nat]; omega
      · rw [show (55254 : Int) = ((55254 : Nat) : Int) from rfl, fmod_nat]
        have := Nat.mod_lt (rs x) (show 0 < 55254 by decide)
        omega
      · rw [show (55254 : Int) = ((55254 : Nat) : Int) from rfl, fmod_nat]
        congr 2
    let ρb : List (Str × D) := [("free", .str [fr x]), ("kind", .int (kd x)), ("rest", .int (rs x)), ("pattern", .str ((ttN l i).flatMap src)), ("told", .ref a'), ("files", .ref b')]
    -- files
    refine Xs.cons (X1.mono (K := fun f h' => f = .next ∧ ∃ P', PLe P₂ P' ∧ Frm S (eD L a cd) [] h₀ P₀ ((b', .lst ((addF (flN l i) x).map .str)) :: (a', .lst (told2 (ttN l i))) :: m) ρb h' P') ?_ fun f h₅ xx => ?_)
    · refine x_if (b := (kd x : Int) == 14) F₄.refl' (tcmp (nm F₄.inn) ev_int op_eqI) (fun e h₅ P₅ g₅ => ?_) (fun e h₅ P₅ g₅ => ?_)
      · have F₅ := F₄.grow g₅
        have e' : kd x = 14 := by have := eq_of_beq e; omega
        refine Xs.cons (append (d := .str (beg (rs x))) F₅ rfl ?_ (by rw [List.length_map]; exact lineLe (by omega)) fun h₆ P₆ p₆ F₆ => Xs.nil ⟨rfl, P₆, PLe.trans p₃ (PLe.trans p₄ (PLe.trans g₅.ext p₆)), ?_⟩)
        · refine sub (d₁ := .lst (([[97], [98], [97, 47, 98], [98, 47, 97]] : List (List Nat)).map .str)) (d₂ := .int ((rs x : Int).fmod 4)) (ev_list (evl_cons' rfl (ss [97]) (evl_cons' rfl (ss [98]) (evl_cons' rfl (ss [97, 47, 98]) (evl_cons' rfl (ss [98, 47, 97]) evl_nil)))) (by show 4 ≤ sizeLine; decide)) (bin (nm F₅.inn) ev_int (op_modI (by decide))) (op_itemL (by show 4 ≤ sizeLine; decide) ?_ ?_)
          · rw [show (4 : Int) = ((4 : Nat) : Int) from rfl, fmod_nat]; omega
          · rw [show (4 : Int) = ((4 : Nat) : Int) from rfl, fmod_nat]
            unfold beg
            have : rs x % 4 = 0 ∨ rs x % 4 = 1 ∨ rs x % 4 = 2 ∨ rs x % 4 = 3 := by omega
            rcases this with e | e | e | e <;> rw [e] <;> rfl
        · have : addF (flN l i) x = flN l i ++ [beg (rs x)] := by unfold addF; rw [if_pos e']
          rw [this, List.map_append]
          exact F₆.sub (.cons rfl (.cons rfl (.cons rfl (.cons rfl (.cons rfl (.cons rfl .nil))))))
      · have e' : ¬ kd x = 14 := fun q => by rw [q] at e; exact absurd e (by decide)
        refine Xs.nil ⟨rfl, P₅, PLe.trans p₃ (PLe.trans p₄ g₅.ext), ?_⟩
        have : addF (flN l i) x = flN l i := by unfold addF; rw [if_neg e']
        rw [this]
        exact (F₄.grow g₅).sub (.cons rfl (.cons rfl (.cons rfl (.cons rfl (.cons rfl (.cons rfl .nil))))))
    · obtain ⟨e, P₅, p₅, F₅⟩ := xx
      subst e
      have hdl : ((addF (flN l i) x).map D.str).length ≤ sizeLine := lineLe (by rw [List.length_map]; omega)
      refine Xs.cons (x_setLast (d := .str ((addF (flN l i) x).getLastD [] ++ suf (kd x) (fr x))) F₅ rfl (by simpa using hfne') rfl (fun Pq I hPq => @ev_lastAdd _ _ _ _ _ _ _ _ _ _ I _ _ _ rfl rfl rfl hfne' (by omega) (by omega) hk16) fun h₆ P₆ p₆ F₆ => ?_)
      · have hset : ((addF (flN l i) x).map D.str).set (((addF (flN l i) x).map D.str).length - 1) (.str ((addF (flN l i) x).getLastD [] ++ suf (kd x) (fr x))) = (stepF (flN l i) x).map .str := by
          unfold stepF; rw [List.map_set, List.length_map]
        rw [hset, ← hfl] at F₆
        have F₇ := F₆.perm (List.Perm.swap ..)
        have hfin : ∀ h' P' (q : PLe P₆ P') (F : Frm S (eD L a cd) [] h₀ P₀ ((a', .lst (told2 (ttN l (i + 1)))) :: (b', .lst ((flN l (i + 1)).map .str)) :: m) [("pattern", .str ((ttN l (i + 1)).flatMap src)), ("told", .ref a'), ("files", .ref b')] h' P'),
            ∃ P'', PLe P₂ P'' ∧ Frm S (eD L a cd) [] h₀ P₀ ([(b', .lst ((flN l (i + 1)).map .str)), (a', .lst (told2 (ttN l (i + 1))))] ++ m) [("pattern", .str ((ttN l (i + 1)).flatMap src)), ("told", .ref a'), ("files", .ref b')] h' P'' :=
          fun h' P' q F => ⟨P', PLe.trans p₅ (PLe.trans p₆ q), F.perm (List.Perm.swap ..)⟩
        have hsz : ((ttN l i).flatMap src).length ≤ 40 := by omega
        refine Xs.cons (X1.mono (K := fun f h' => f = .next ∧ ∃ P', PLe P₆ P' ∧ Frm S (eD L a cd) [] h₀ P₀ ((a', .lst (told2 (ttN l (i + 1)))) :: (b', .lst ((flN l (i + 1)).map .str)) :: m) [("pattern", .str ((ttN l (i + 1)).flatMap src)), ("told", .ref a'), ("files", .ref b')] h' P') ?_ fun f h₈ ⟨e, P₈, p₈, F₈⟩ => by subst e; exact Xs.nil (hfin h₈ P₈ p₈ F₈))
        rw [htt, List.flatMap_append, told2, List.map_append]
        refine x_if (b := (kd x : Int) == 6) F₇.refl' (tcmp (nm F₇.inn) ev_int op_eqI) (fun e h₈ P₈ g₈ => ?_) (fun e h₈ P₈ g₈ => ?_)
        · have e' : kd x = 6 := by have := eq_of_beq e; omega
          have F₈ := F₇.grow g₈
          rw [e']
          refine Xs.cons (asg F₈ (bin (nm F₈.inn) (ss [91, 33, 97, 93]) (op_addS (lineLe (by simp only [List.length_cons, List.length_nil]; omega)))) fun h₉ P₉ p₉ F₉ => ?_)
          refine Xs.cons (append (d := .tup [.bool true, .str [97]]) F₉ rfl (ev_tuple (evl_cons' rfl ev_bool (evl_cons' rfl (ss [97]) evl_nil)) (by show 2 ≤ sizeLine; decide)) (by rw [List.length_map]; exact lineLe (by omega)) fun h' P' p' F' => Xs.nil ⟨rfl, P', PLe.trans g₈.ext (PLe.trans p₉ p'), F'.sub (.cons rfl (.cons rfl (.cons rfl .nil)))⟩)
        · have n6 : kd x ≠ 6 := fun q => by rw [q] at e; exact absurd e (by decide)
          have F₈ := F₇.grow g₈
          refine Xs.cons (x_if (b := (kd x : Int) == 12) F₈.refl' (tcmp (nm F₈.inn) ev_int op_eqI) (fun e h₉ P₉ g₉ => ?_) (fun e h₉ P₉ g₉ => ?_))
          · have e' : kd x = 12 := by have := eq_of_beq e; omega
            have F₉ := F₈.grow g₉
            rw [e']
            refine Xs.cons (asg (d := .str ((ttN l i).flatMap src ++ (ptk 12 (fr x)).flatMap src)) F₉ (bin (d₂ := .str ((ptk 12 (fr x)).flatMap src)) (nm F₉.inn) (ev_ifexp (b := decide (fr x ∈ [42, 63, 91])) (tcmp (nm F₉.inn) (ss [42, 63, 91]) op_inS) (fun eb => ?_) (fun eb => ?_)) (op_addS (lineLe ?_))) fun h' P' p' F' => ?_)
            · have hm := of_decide_eq_true eb
              have : (ptk 12 (fr x)).flatMap src = [91] ++ [fr x] ++ [93] := by simp only [ptk, if_pos hm]; rfl
              rw [this]
              exact bin (bin (ss [91]) (nm F₉.inn) (op_addS (lineLe (by simp)))) (ss [93]) (op_addS (lineLe (by simp)))
            · have hm := of_decide_eq_false eb
              have : (ptk 12 (fr x)).flatMap src = [fr x] := by simp only [ptk, if_neg hm]; rfl
              rw [this]
              exact nm F₉.inn
            · have := ptk_src 12 (fr x); omega
            · refine Xs.cons (append (d := .tup [.bool false, .str [fr x]]) F' rfl (ev_tuple (evl_cons' rfl ev_bool (evl_cons' rfl (nm F'.inn) evl_nil)) (by show 2 ≤ sizeLine; decide)) (by rw [List.length_map]; exact lineLe (by omega)) fun h'' P'' p'' F'' => Xs.nil (Xs.nil ⟨rfl, P'', PLe.trans g₈.ext (PLe.trans g₉.ext (PLe.trans p' p'')), ?_⟩))
              have : (ptk 12 (fr x)).map (fun k => itD (told1 k)) = [.tup [.bool false, .str [fr x]]] := by
                simp only [ptk]; split <;> rfl
              rw [this]
              exact F''.sub (.cons rfl (.cons rfl (.cons rfl .nil)))
          · have n12 : kd x ≠ 12 := fun q => by rw [q] at e; exact absurd e (by decide)
            have F₉ := F₈.grow g₉
            obtain ⟨p, hp1, hp2, hp3, hp4⟩ := piece_tk (kd x) hk16 n6 n12 (fr x)
            refine @Xs.cons _ _ _ _ _ _ _ _ (@asg _ _ _ _ _ _ _ _ _ _ _ _ (.str p) _ _ _ _ _ F₉ (@ev_piece _ _ _ _ _ _ _ _ _ _ F₉.inn _ _ rfl hp1) (fun h' P' p' F' => ?_) (.inl rfl) rfl)
            · refine Xs.cons (asg F' (bin (nm F'.inn) (nm F'.inn) (op_addS (lineLe (by omega)))) fun h₁₀ P₁₀ p₁₀ F₁₀ => ?_)
              rw [hp3]
              refine Xs.cons (x_extend (es := p.map fun c => itD (sgn c)) F₁₀ rfl ?_ (by rw [List.length_map, List.length_map]; omega) fun h'' P'' p'' F'' => Xs.nil (Xs.nil ⟨rfl, P'', PLe.trans g₈.ext (PLe.trans g₉.ext (PLe.trans p' (PLe.trans p₁₀ p''))), ?_⟩))
              · refine Ev.cast (ev_comp p (fun c => .str [c]) (fun _ => true) (fun c => itD (sgn c)) [] [] F₁₀ ⟨rfl, rfl, rfl, fun x hx => nomatch hx⟩ trivial (ibl_str hh (nm F₁₀.inn)) (.inl rfl) rfl (lineLe (by omega)) (fun y hy C hb Pb m h' P' F' => tsts_nil) (fun y hy hb C hb' Pb m h' P' F' => ?_)) (by rw [List.filter_eq_self.mpr (fun _ _ => rfl)])
                refine ev_ifexp (b := [y] == [42]) (tcmp (nm F'.inn) (ss [42]) op_eqS) (fun eb => ?_) (fun eb => ?_)
                · have : y = 42 := by simpa using eb
                  subst this
                  exact ev_none
                · have n42 : ¬ y = 42 := by simpa using eb
                  refine Ev.cast (ev_tuple (evl_cons' rfl (cmp (nm F'.inn) (ss [63]) op_eqS) (evl_cons' rfl (d := .str (if y = 63 then [] else [y])) (ev_ifexp (b := [y] == [63]) (tcmp (nm F'.inn) (ss [63]) op_eqS) (fun eb => ?_) (fun eb => ?_)) evl_nil)) (by show 2 ≤ sizeLine; decide)) ?_
                  · have : y = 63 := by simpa using eb
                    rw [if_pos this]; exact ss []
                  · have : ¬ y = 63 := by simpa using eb
                    rw [if_neg this]; exact nm F'.inn
                  · unfold sgn; rw [if_neg n42]
                    have : ([y] == [63]) = (y == 63) := by simp
                    rw [this]; rfl
              · have := hp4
                unfold told2 at this
                rw [this]
                exact F''.sub (.cons rfl (.cons rfl (.cons rfl .nil)))
  · have hlen : ((l.take 10).map D.int).length = (l.take 10).length := List.length_map ..
    have e1 : flN l ((l.take 10).map D.int).length = dFiles l := by
      show (l.take _).foldl stepF _ = (l.take 10).foldl stepF _
      rw [hlen]; congr 1; rw [List.length_take]
      rcases Nat.le_total 10 l.length with q | q
      · rw [Nat.min_eq_left q]
      · rw [Nat.min_eq_right q, List.take_length, List.take_of_length_le q]
    have e2 : ttN l ((l.take 10).map D.int).length = dToks l := by
      show (l.take _).flatMap _ = (l.take 10).flatMap _
      rw [hlen]; congr 1; rw [List.length_take]
      rcases Nat.le_total 10 l.length with q | q
      · rw [Nat.min_eq_left q]
      · rw [Nat.min_eq_right q, List.take_length, List.take_of_length_le q]
    rw [e1, e2] at F₂
    obtain ⟨P₃, F₃, p₃, r₃⟩ := F₂.freeze
    obtain ⟨P₄, F₄, p₄, r₄⟩ := F₃.freeze
    refine Xs.cons (x_ret (R := RepR (drD l)) F₄.refl' (ev_tuple (evl_cons' rfl (nm F₄.inn) (evl_cons' rfl (ev_frozen F₄.inn rfl r₄) (evl_cons' rfl (ev_frozen F₄.inn rfl (r₃.mono p₄)) evl_nil))) (by show 3 ≤ sizeLine; decide)) fun v h' P' g r => k v h' P' (F₄.gr.trans g) r)
end
end IK
end

/-! part C18 -/
section
open PySem PySem.W PyProof.Rows
set_option Elab.async false
set_option linter.unusedVariables false
set_option maxRecDepth 100000
namespace IK
section
variable {w : World} {s0 : Shared} {A : Around} {S : Sta} {env : Env} {ow : List Str} {h₀ h h' : Heap} {P₀ P P' : Pm} {n : List (Addr × Mo)} {ρ : List (Str × D)} {d d₁ d₂ : D} {K : Flow → Heap → Prop} {a ig : Addr} {l : List Nat} {i : Int} {c : List (List Nat × Int)} {C N fI fN L : Addr} {cI cN : Value} {mN mA : Str → Option Value}
/-- {text: number}: a table that the frame may change -/
theorem go_dict1 {x : Str} {j : Int} {k1 k2 : Nat} {p1 p2 pos : Pos} {t : Nat} {Q : Value → Shared → Prop} {E : Value → Shared → Prop} (F : Frm S env ow h₀ P₀ n ρ h P) (ht : 1 ≤ t) (hx : x.cps.toList = l)
    (k : ∀ h' t', 1 ≤ t' → Frm S env ow h₀ P₀ ((h.objs.size, .is (CaO w [(l, j)])) :: n) ρ h' P → Q (.ref h.objs.size) (stt s0 h' t')) : wpAny (model pg w) A (eval (.Dict [some (.Constant (.str x) k1 p1)] [.Constant (.int j) k2 p2] pos) env) Q E (stt s0 h t) := by
  have hxT : x = T l := by rw [← hx, T_back]
  subst hxT
  refine wpAny_Dict_pairs (knd := strKind pg w) (pairs := [(eval (.Constant (.str (T l)) k1 p1) env, do let x ← eval (.Constant (.int j) k2 p2) env; standAt pos; pure x)]) rfl (by simp) (by simp) ?_
  have hnew : (h.push { cls := .type "dict", data := .dict #[] }).DictOf (strKind pg w) h.objs.size [] := Heap.DictOf.new h
  have F1 := F.alloc (m := .is (CaO w [])) (o := { cls := .type "dict", data := .dict #[] }) (let ⟨o, e, x⟩ := DcO.of hnew; by rw [Heap.get?_push_size _ rfl] at e; cases e; exact ⟨[], x, trivial⟩) rfl
  refine evalPairs_cons (Calls.Constant_str (wpAny_bind (wpAny_Constant_int (wpAny_bind (wpAny_standAt (wpAny_pure (evalPairs_nil ?_)))))))
  refine ⟨[(T l, .int j (t + 1))], ⟨strKind_is _ _ _ _, rfl, trivial⟩, hnew, fun h' hd hs => ?_⟩
  obtain ⟨o, e, x⟩ := DcO.of hd
  exact k h' _ (Nat.le_trans ht (by show t ≤ t + 1 + 1 + 1; omega)) (F1.change id hs e ⟨_, x, ⟨rfl, ⟨_, rfl⟩, trivial⟩⟩)
/-- self._ignore[m] = j -/
theorem x_setD {x y : Str} {xp yp ap sp pos kp : Pos} {kk : Nat} {j : Int} {p : Obj → Prop} (R : RdC w S C N fI fN cI cN mN) (F : Frm S env ow h₀ P₀ ((ig, .is p) :: n) ρ h P) (hp : ∀ o, p o → CaO w c o) (hx : ρ.lookup x = some (.ref a)) (hy : ρ.lookup y = some (.str l)) (hI : InstF P a C mA) (hv : mA (Str.ofString "_ignore") = some (.ref ig))
    (hc : c.lookup l = none) (hz : c.length ≤ 1000) (k : ∀ h' P', PLe P P' → Frm S env ow h₀ P₀ ((ig, .is (CaO w (c ++ [(l, j)]))) :: n) ρ h' P' → K .next h') (hcx : plainName x := by decide) (hcy : plainName y := by decide)
    (hs : swapsWith (.Constant (.int j) kk kp) (some (.Subscript (.Attribute (.Name x xp) (Str.ofString "_ignore") ap) (.Name y yp) sp)) pos.line env = pure false := by rfl) :
    X1 w s0 A env (.Assign [.Subscript (.Attribute (.Name x xp) (Str.ofString "_ignore") ap) (.Name y yp) sp] (.Constant (.int j) kk kp) pos) h K := by
  intro t ht Q E q
  refine wpAny_Assign_Subscript ?_ hs
  refine ev_int (h := h) (P := P) h P t ht F.refl' _ E fun v h₁ P₁ t₁ ht₁ g₁ r₁ => ?_
  obtain ⟨u, rfl⟩ := r₁
  have F₁ := F.grow g₁
  refine ev_attr (d := .ref ig) R F₁.inn hx (hI.mono fun b o e => g₁.ext b o e) (by decide) hv rfl rfl hcx h₁ P₁ t₁ ht₁ F₁.refl' _ E fun v₂ h₂ P₂ t₂ ht₂ g₂ r₂ => ?_
  cases r₂
  have F₂ := F₁.grow g₂
  refine ev_name F₂.inn hy hcy h₂ P₂ t₂ ht₂ F₂.refl' _ E fun v₃ h₃ P₃ t₃ ht₃ g₃ r₃ => ?_
  obtain ⟨u', rfl⟩ := r₃
  have F₃ := F₂.grow g₃
  obtain ⟨⟨o, eo, po⟩, _⟩ := F₃.led _ (.head _)
  obtain ⟨kvs, hd, hk⟩ := hp o po
  have hval := hk.val (l := l)
  rw [hc] at hval
  have hlen := hk.length
  refine wpAny_setItem_pairs (s := stt s0 h₃ t₃) (knd := strKind pg w) (k := T l) (strKind_is _ _ _ _) (hd.at eo) (fun h' hd' hs' => ?_) (lineLe (by omega))
  rw [stored_new hval] at hd'
  obtain ⟨o', e', x'⟩ := DcO.of hd'
  exact q .next h' (t₃ + 1) (Nat.succ_pos _) (k h' P₃ (fun b o e => g₃.ext b o (g₂.ext b o (g₁.ext b o e))) (F₃.change id hs' e' ⟨_, x', hk.snoc⟩))
noncomputable abbrev eI (L a : Addr) (cd : Value) : Env := fenv "_Ignore.__init__" (mthAt 0) L a cd
noncomputable abbrev eN (L a : Addr) (cd : Value) : Env := fenv "_Ignore.names" (mthAt 1) L a cd
theorem ok_init : DefOk (mthAt 0) ["self", "modules", "dirs"] [] := ⟨by decide, by decide, by decide, rfl, rfl, rfl⟩
theorem ok_names : DefOk (mthAt 1) ["self", "filename", "modulename"] [] := ⟨by decide, by decide, by decide, rfl, rfl, rfl⟩
/-- an object's places -/
structure RdM (P : Pm) (mA : Str → Option Value) (ds : List (List Nat)) (ig : Addr) : Prop where
  mods : ∃ aS led, mA (Str.ofString "_mods") = some (.ref aS) ∧ P aS = some (setO led)
  dirs : ∃ vD, mA (Str.ofString "_dirs") = some vD ∧ Rep P (.lst (ds.map .str)) vD
  ign : mA (Str.ofString "_ignore") = some (.ref ig)
  nam : mA (Str.ofString "names") = none
theorem RdM.mono {P P' : Pm} {mA : Str → Option Value} {ds : List (List Nat)} {ig : Addr} (x : RdM P mA ds ig) (k : PLe P P') : RdM P' mA ds ig :=
  let ⟨⟨aS, led, a, b⟩, ⟨vD, c, d⟩, e, f⟩ := x; ⟨⟨aS, led, a, k _ _ b⟩, ⟨vD, c, d.mono k⟩, e, f⟩
noncomputable def okP (p : List Nat) : Prop := p.length ≤ 1200 ∧ p.take 1 ≠ [47] ∧ p ≠ [] ∧ (norm p).length ≤ 2000
noncomputable def strg : List Nat := [60, 115, 116, 114, 105, 110, 103, 62]
theorem body_init {a3 a4 a5 a6 a7 : Addr} {c3 c4 c5 c6 c7 : Value} {dx : Addr} {ds : List (List Nat)} (B : Bis S) (R : RdC w S C N fI fN cI cN mN) (f : FnAt S "normpath" (defAt 21) a3 c3) (f1 : FnAt S "_c_path" (defAt 16) a4 c4) (f2 : FnAt S "_kind" (defAt 13) a5 c5) (f3 : FnAt S "_normpath" (defAt 20) a6 c6)
    (f4 : ∃ a b, FnAt S "_splitroot" (defAt 18) a b) (f5 : ∃ a b, FnAt S "_shelf_fresh" (defAt 17) a b) (hds : ∀ p ∈ ds, okP p) (hz : ds.length ≤ 1000) (rm : Rm 4 A)
    (F : Frm S (eI L fI cI) [] h₀ P₀ [(a, .is (· = ixO C dx)), (dx, .is fun o => NsO o fun _ => none)] [("self", .ref a), ("modules", .none), ("dirs", .lst (ds.map .str))] h P)
    (k : ∀ h' P' mA ig, RdM P' mA (ds.map norm) ig → h₀.objs.size ≤ ig → Frm S (eI L fI cI) [] h₀ P₀ [(a, .is (· = ixO C dx)), (dx, .is fun o => NsO o mA), (ig, .is (CaO w [(strg, 1)]))] [] h' P' → K .next h') :
    Xs w s0 A (eI L fI cI) (bodyOf (mthAt 0)) h K := by
  have hh := rm.hh
  refine Xs.cons (x_setattr (ns := []) (RR := fun v P' => ∃ aS led, v = .ref aS ∧ P' aS = some (setO led)) R (by decide) (fun v P P' kk ⟨aS, led, e, x⟩ => ⟨aS, led, e, kk _ _ x⟩) F rfl
    (go_ifexpT (tst_not (tpl (nm F.inn) tru_none)) (go_set0 F.inn rfl B)) (fun _ e => absurd rfl e) (by decide) fun v₁ h₁ P₁ p₁ ⟨aS, led, e1, hS⟩ F₁ => ?_)
  subst e1
  have hlz : (ds.map D.str).length ≤ sizeLine := lineLe (by rw [List.length_map]; omega)
  refine Xs.cons (x_setattr (ns := ["_mods"]) (RR := fun v P' => Rep P' (.lst ((ds.map norm).map .str)) v) R (by decide) (fun v P P' kk r => r.mono kk) F₁ rfl
    (ev_ifexp (b := (ds.map D.str).isEmpty) (Tst.cast (tst_not (tpl (nm F₁.inn) (tru_lst hlz))) (by rw [Bool.not_not])) (fun eb => ?_) (fun eb => ?_)) ?_ (by decide) fun v₂ h₂ P₂ p₂ hD F₂ => ?_)
  · have : ds = [] := by cases ds with | nil => rfl | cons _ _ => cases eb
    subst this
    exact ev_nil
  · refine Ev.cast (ev_comp ds .str (fun _ => true) (fun p => .str (norm p)) [] [] F₁ ⟨rfl, rfl, rfl, fun x hx => nomatch hx⟩ trivial (ibl_list hh (nm F₁.inn)) (.inl rfl) rfl (lineLe (by omega)) (fun y hy C hb Pb m h' P' F' => tsts_nil) (fun y hy hb C hb' Pb m h' P' F' => ?_)) (by rw [List.filter_eq_self.mpr (fun _ _ => rfl), List.map_map]; rfl)
    obtain ⟨q1, q2, q3, q4⟩ := hds y hy
    obtain ⟨ar, cr, f4⟩ := f4
    obtain ⟨as, cs, f5⟩ := f5
    exact ev_call (sp_normpath (e := 0) (x := 0) (cg := .none) (ch := .none) B f f1 f2 (sp_norm f3 f4 f5 q1 q2 q3 q4)) rm F'.inn rfl (by decide) (evl_cons' rfl (nm F'.inn) evl_nil) rfl
  · intro y hy
    by_cases e : y = Str.ofString "_mods"
    · subst e; exact .head _
    · simp only [if_neg e] at hy; exact absurd rfl hy
  · refine @Xs.cons _ _ _ _ _ _ _ _ (@x_setattrL _ _ _ _ _ _ _ _ _ _ _ _ _ _ _ _ _ _ _ _ _ _ _ _ _ _ _ _ ["_dirs", "_mods"] (fun v P' => v = .ref h₂.objs.size) R (by decide) (fun v P P' kk r => r) rfl [(h₂.objs.size, .is (CaO w [(strg, 1)]))]
      (fun t ht Q E q => @go_dict1 _ _ _ _ _ _ _ _ _ _ _ _ strg _ _ _ _ _ _ _ _ _ _ F₂ ht (by decide +kernel) fun h' t' ht' F' => q _ h' P₂ t' ht' PLe.refl rfl (F'.perm ((List.Perm.swap ..).trans (.cons _ (List.Perm.swap ..))))) ?_ (by decide) (fun v₃ h₃ P₃ p₃ hI F₃ => Xs.nil (k h₃ P₃ _ h₂.objs.size ⟨?_, ?_, ?_, rfl⟩ F₂.gr.sz (F₃.sub .nil))) (by decide) rfl)
    · intro y hy
      by_cases e : y = Str.ofString "_dirs"
      · subst e; exact .head _
      · simp only [if_neg e] at hy
        by_cases e : y = Str.ofString "_mods"
        · subst e; exact .tail _ (.head _)
        · simp only [if_neg e] at hy; exact absurd rfl hy
    · exact ⟨aS, led, rfl, p₃ _ _ (p₂ _ _ hS)⟩
    · exact ⟨v₂, rfl, hD.mono p₃⟩
    · subst hI; rfl
noncomputable def under (ds : List (List Nat)) (f : List Nat) : Bool := ds.any fun d => Txt.startswith (T f) (T (d ++ [47]))
noncomputable def ans (ds : List (List Nat)) (c : List (List Nat × Int)) (f m : List Nat) : Int := match c.lookup m with | some i => i | none => if under ds f then 1 else 0
noncomputable def cac (ds : List (List Nat)) (c : List (List Nat × Int)) (f m : List Nat) : List (List Nat × Int) := match c.lookup m with | some _ => c | none => c ++ [(m, if under ds f then 1 else 0)]
theorem body_names {ds : List (List Nat)} {f m : List Nat} (B : Bis S) (R : RdC w S C N fI fN cI cN mN) (hsep : ∃ t, S.mg "sep" = some (.str (T [47]) t)) (hI : InstF P a C mA) (hM : RdM P mA ds ig) (h2 : 2 ≤ ig) (hds : ∀ p ∈ ds, p.length ≤ 2000) (hz : ds.length ≤ 1000) (hc : c.length ≤ 1000) (rm : Rm 0 A)
    (F : Frm S (eN L fN cN) [] h₀ P₀ [(ig, .is (CaO w c))] [("self", .ref a), ("filename", .str f), ("modulename", .str m)] h P)
    (k : ∀ v h' P', Frm S (eN L fN cN) [] h₀ P₀ [(ig, .is (CaO w (cac ds c f m)))] [] h' P' → Rep P' (.int (ans ds c f m)) v → K (.ret v) h') :
    Xs w s0 A (eN L fN cN) (bodyOf (mthAt 1)) h K := by
  have hh := rm.hh
  -- modulename in self._ignore
  obtain ⟨o, Pq, ⟨kvs, hd, hk⟩, eo, hPq, Iq, pq, back⟩ := F.peekIs
  have hv := hk.val (l := m)
  refine Xs.cons (x_if (P := Pq) (b := (valueAt kvs (T m)).isSome) (.refl Iq.snd) (tcmpP (nm Iq) (ev_attr (d := .ref ig) R Iq rfl (hI.mono pq) (by decide) hM.ign rfl rfl) fun h₁ P₁ v₁ v₂ g r₁ r₂ => in_dict h2 (g.ext _ _ hPq) hd r₁ r₂) (fun e h₁ P₁ g₁ => ?_) (fun e h₁ P₁ g₁ => ?_))
  · -- known
    obtain ⟨i, hi⟩ : ∃ i, c.lookup m = some i := by
      cases hl : c.lookup m with
      | some i => exact ⟨i, rfl⟩
      | none => rw [hl] at hv; rw [hv] at e; cases e
    rw [hi] at hv
    obtain ⟨t, hv⟩ := hv
    have Iq₁ := Iq.gr g₁
    refine Xs.cons (x_ret (P := P₁) (R := RepR (.int i)) (.refl g₁.snd) (ev_subD (v := .int i t) (g₁.ext _ _ hPq) hd (ev_attr (d := .ref ig) R Iq₁ rfl ((hI.mono pq).mono fun b o e => g₁.ext b o e) (by decide) hM.ign rfl rfl) (nm Iq₁) hv ⟨t, rfl⟩) fun v h₂ P₂ g₂ r => ?_)
    obtain ⟨P'', F', p', _⟩ := back h₂ P₂ (g₁.trans g₂)
    have e1 : cac ds c f m = c := by unfold cac; rw [hi]
    have e2 : ans ds c f m = i := by unfold ans; rw [hi]
    rw [e1, e2] at k
    exact k v h₂ P'' (F'.sub .nil) (Rep.flat (d := .int i) rfl r)
  · have hl : c.lookup m = none := by
      cases hl : c.lookup m with
      | none => rfl
      | some i => rw [hl] at hv; obtain ⟨t, hv⟩ := hv; rw [hv] at e; cases e
    have ek : ∀ j : Int, (if under ds f then (1 : Int) else 0) = j → cac ds c f m = c ++ [(m, j)] ∧ ans ds c f m = j := fun j ej => by
      unfold cac ans; rw [hl, ← ej]; exact ⟨rfl, rfl⟩
    obtain ⟨P₂, F₂, p₂, _⟩ := back h₁ P₁ g₁
    obtain ⟨⟨aS, led, hmS, hS⟩, ⟨vD, hmD, hD⟩, hmI, _⟩ := hM.mono p₂
    have hI₂ := hI.mono p₂
    refine Xs.nil ?_
    -- modulename in self._mods
    refine Xs.cons (x_if (b := false) F₂.refl' (tcmpP (nm F₂.inn) (ev_attr (d := .ref aS) R F₂.inn rfl hI₂ (by decide) hmS rfl rfl) fun h₁ P₁ v₁ v₂ g r₁ r₂ => in_empty (g.ext _ _ hS) r₁ r₂) (fun e => nomatch e) (fun _ h₃ P₃ g₃ => Xs.nil ?_))
    have F₃ := F₂.grow g₃
    have hI₃ := hI₂.mono fun b o e => g₃.ext b o e
    refine Xs.cons (x_forNo hh F₃ (g₃.ext _ _ hS) (ev_attr (d := .ref aS) R F₃.inn rfl hI₃ (by decide) hmS rfl rfl) (fun _ => rfl) fun h₄ P₄ p₄ F₄ => ?_)
    have hI₄ := hI₃.mono p₄
    have hD₄ := (hD.mono fun b o e => g₃.ext b o e).mono p₄
    refine Xs.cons (x_if (b := false) F₄.refl' (tcmp (nm F₄.inn) ev_none (op_isNone (.inr (.inl ⟨_, rfl⟩)))) (fun e => nomatch e) (fun _ h₅ P₅ g₅ => Xs.nil ?_))
    have F₅ := F₄.grow g₅
    have hI₅ := hI₄.mono fun b o e => g₅.ext b o e
    have hD₅ := hD₄.mono fun b o e => g₅.ext b o e
    have hhD : handedOut vD = pure vD := by obtain ⟨aD, _, _, rfl, _⟩ := hD; rfl
    have F₅' : Frm S (eN L fN cN) [] h₀ P₀ [(ig, .is fun o => CaO w c o ∧ under (ds.take 0) f = false)] [("self", .ref a), ("filename", .str f), ("modulename", .str m)] h₅ P₅ := by
      obtain ⟨⟨o, e, r⟩, l, q, aL, ac⟩ := F₅.led _ (.head _)
      exact F₅.change (m' := .is fun o => CaO w c o ∧ under (ds.take 0) f = false) id (Heap.SameBut.refl _ _) e ⟨r, rfl⟩
    refine Xs.cons (x_for (ds.map .str) (fun i => [(ig, .is fun o => CaO w c o ∧ under (ds.take i) f = false)]) (fun i => [("self", .ref a), ("filename", .str f), ("modulename", .str m)]) F₅' (ibl_list hh (ev_attr (d := .lst (ds.map .str)) R F₅.inn rfl hI₅ (by decide) hmD hhD hD₅)) (.inl rfl) (fun _ => rfl) (fun i dd mm h₆ P₆ hdd p₆ F₆ => ?_) fun h₆ P₆ p₆ F₆ => ?_)
    · rw [List.getElem?_map] at hdd
      obtain ⟨dv, hdv, rfl⟩ := Option.map_eq_some_iff.mp hdd
      have hdl := hds dv (List.mem_of_getElem? hdv)
      obtain ⟨ts, hsep⟩ := hsep
      have htk : under (ds.take (i + 1)) f = (under (ds.take i) f || Txt.startswith (T f) (T (dv ++ [47]))) := by
        unfold under
        rw [List.take_add_one, hdv, List.any_append]; simp
      refine Xs.cons (x_if (b := Txt.startswith (T f) (T (dv ++ [47]))) F₆.refl' (tpl (meth1 (nm F₆.inn) mStartswith (bin (nm F₆.inn) (ev_global (d := .str [47]) F₆.inn rfl hsep (fun _ => ⟨ts, rfl⟩) (by decide)) (op_addS (lineLe (by simp only [List.length_cons, List.length_nil]; omega)))) c_startswith) tru_bool) (fun e h₇ P₇ g₇ => ?_) (fun e h₇ P₇ g₇ => ?_))
      · have F₇ := F₆.grow g₇
        have hu : under ds f = true := List.any_eq_true.mpr ⟨dv, List.mem_of_getElem? hdv, e⟩
        obtain ⟨ec, ea⟩ := ek 1 (by rw [hu]; rfl)
        refine Xs.cons (x_setD (c := c) R F₇ (fun o x => x.1) rfl rfl ((hI₅.mono p₆).mono fun b o e => g₇.ext b o e) hmI hl hc fun h₈ P₈ p₈ F₈ => ?_)
        refine Xs.cons (x_ret (R := RepR (.int 1)) F₈.refl' ev_int fun v h₉ P₉ g₉ r => ?_)
        rw [ec, ea] at k
        exact k v h₉ P₉ (((F₈.grow g₉).drop (n := [(ig, .is (CaO w (c ++ [(m, 1)])))]) (fun b o _ e => e) (Nat.le_refl _)).sub .nil) r
      · refine Xs.nil (Xs.nil ⟨P₇, fun b o e => g₇.ext b o e, ?_⟩)
        have F₇ := (F₆.grow g₇).sub (ρ' := [("self", .ref a), ("filename", .str f), ("modulename", .str m)]) (.cons rfl (.cons rfl (.cons rfl .nil)))
        obtain ⟨⟨o, e1, r⟩, l, q, aL, ac⟩ := F₇.led _ (.head _)
        exact F₇.change (m' := .is fun o => CaO w c o ∧ under (ds.take (i + 1)) f = false) id (Heap.SameBut.refl _ _) e1 ⟨r.1, by rw [htk, r.2, e]; rfl⟩
    · have hu : under ds f = false := by
        obtain ⟨⟨o, e1, r⟩, l, q, aL, ac⟩ := F₆.led _ (.head _)
        have := r.2
        rw [List.length_map, List.take_length] at this; exact this
      obtain ⟨ec, ea⟩ := ek 0 (by rw [hu]; rfl)
      refine Xs.cons (x_setD (c := c) R F₆ (fun o x => x.1) rfl rfl (hI₅.mono p₆) hmI hl hc fun h₈ P₈ p₈ F₈ => ?_)
      refine Xs.cons (x_ret (R := RepR (.int 0)) F₈.refl' ev_int fun v h₉ P₉ g₉ r => ?_)
      rw [ec, ea] at k
      exact k v h₉ P₉ ((F₈.grow g₉).sub .nil) r
end
end IK
end

/-! part B39 -/
section
open PySem PySem.W PyProof.Rows
set_option Elab.async false
set_option linter.unusedVariables false
set_option maxRecDepth 100000
namespace IK
theorem strsAre_of {P : Pm} : ∀ {ls : List (List Nat)} {vs : List Value}, RepL P (ls.map D.str) vs → StrsAre vs (ls.map T)
  | [], vs, r => by cases r; exact .nil
  | l :: ls, vs, ⟨v, q, e, ⟨t, ev⟩, b⟩ => by subst e ev; exact .cons _ _ (strsAre_of b)
noncomputable def isT (l : List Nat) : Value → Bool
  | .str y _ => y == T l
  | _ => false
section
variable {w : World} {s0 : Shared} {A : Around} {S : Sta} {env : Env} {ρ : List (Str × D)} {h : Heap} {P : Pm} {d : D}
theorem op_inLs {l : List Nat} {ls : List (List Nat)} : Op2 w s0 A (compareOp .In) (.str l) (.lst (ls.map .str)) (.bool (decide (l ∈ ls))) := by
  intro h P v₁ v₂ hs r₁ r₂ h₁ P₁ t ht g Q E q
  obtain ⟨u, rfl⟩ := r₁
  obtain ⟨a, vs, rfl, hl, rl⟩ := (r₂.mono g.ext).isList g.snd
  refine in_list_strs (s := stt s0 h₁ t) hl (strsAre_of rl) (q _ h₁ P₁ t ht (.refl g.snd) ?_)
  show Value.bool _ = _
  congr 1
  rw [Bool.eq_iff_iff]
  simp only [List.any_map, List.any_eq_true, decide_eq_true_eq, Function.comp, beq_iff_eq]
  exact ⟨fun ⟨x, hx, e⟩ => T_inj e ▸ hx, fun hx => ⟨l, hx, rfl⟩⟩
theorem isT_gives {P : Pm} {l : List Nat} {u : Tok} : ∀ {ls : List (List Nat)} {vs : List Value}, RepL P (ls.map D.str) vs → ∀ y ∈ vs, MeetsSeq.EqGives y (.str (T l) u) (isT l y)
  | [], vs, r, y, hy => by cases r; cases hy
  | k :: ls, vs, ⟨v, q, e, ⟨t, ev⟩, b⟩, y, hy => by
    subst e ev
    rcases List.mem_cons.mp hy with rfl | hy
    · exact eqGives_str _ _ _ _
    · exact isT_gives b y hy
theorem isT_at {P : Pm} {l : List Nat} : ∀ {ls : List (List Nat)} {vs : List Value} (i : Nat) (hi : i < vs.length), RepL P (ls.map D.str) vs → isT l vs[i] = (ls[i]? == some l)
  | [], vs, i, hi, r => by cases r; exact absurd hi (Nat.not_lt_zero _)
  | k :: ls, vs, 0, hi, ⟨v, q, e, ⟨t, ev⟩, b⟩ => by
    subst e ev
    show (T k == T l) = (some k == some l)
    rw [Bool.eq_iff_iff]
    simp only [beq_iff_eq, Option.some.injEq]
    exact ⟨T_inj, fun e => by rw [e]⟩
  | k :: ls, vs, i + 1, hi, ⟨v, q, e, ⟨t, ev⟩, b⟩ => by
    subst e ev
    exact isT_at i (by simpa using hi) b
theorem mIndex {l : List D} : MethOf (.lst l) "index" "list.index" := .lst PySem.F.slot_list_index PySem.F.type_list_index
theorem c_index {l : List Nat} {ls : List (List Nat)} (hm : l ∈ ls) (hz : ls.length ≤ 1000) : CallD w s0 A (.builtin "list.index") [.lst (ls.map .str), .str l] (.int (ls.findIdx (· == l))) := by
  intro h P vs hs r h₁ P₁ t ht g Q E q
  obtain ⟨v, u, rfl, rv, ⟨t', rfl⟩⟩ := r.two
  obtain ⟨a, o, us, rfl, hp, ⟨m, rfl⟩, rl⟩ := rv
  have rl₁ := rl.mono g.ext
  have e1 := g.snd _ _ (g.ext _ _ hp)
  have hlen := rl.length
  rw [List.length_map] at hlen
  have hlt : ls.findIdx (· == l) < ls.length := List.findIdx_lt_length_of_exists ⟨l, hm, by simp⟩
  have hit := List.findIdx_getElem (w := hlt)
  have hlt' : ls.findIdx (· == l) < us.length := by omega
  refine call_meets (s := stt s0 h₁ t) PySem.F.slot_list_index ⟨_, e1, rfl⟩ PySem.F.entry_list_index (PySem.F.args_list_index_2 _ _)
    (MeetsSeq.list_index a us.toArray m _ (isT l) (fun y hy => isT_gives rl₁ y (by simpa using hy)) (ls.findIdx (· == l)) (by simpa using hlt') (by omega) ?_ ?_) ⟨e1, q _ h₁ P₁ (t + 1) (Nat.succ_pos _) (.refl g.snd) ⟨_, rfl⟩⟩
  · have := isT_at (l := l) _ hlt' rl₁
    simp only [List.getElem_toArray]
    rw [this, List.getElem?_eq_getElem hlt]
    have := hit
    simpa using this
  · intro j hj hjl
    have hj' : j < us.length := by simpa using hj
    have := isT_at (l := l) _ hj' rl₁
    simp only [List.getElem_toArray]
    rw [this, List.getElem?_eq_getElem (by omega)]
    have := List.not_of_lt_findIdx hjl
    simpa using this
/-- isinstance(number, bool) -/
theorem isInt {np pos : Pos} {e : Expr} {i : Int} (B : Bis S) (I : In S env ρ h P) (he : Ev w s0 A env h P e (.int i)) (hk : env.kindOf (Str.ofString "isinstance") = some .globalImplicit := by rfl) (hk2 : env.kindOf (Str.ofString "bool") = some .globalImplicit := by rfl) {p2 : Pos} (hp : plainArgs [e, .Name (Str.ofString "bool") p2] = true := by rfl) :
    Ev w s0 A env h P (.Call (.Name (Str.ofString "isinstance") np) [e, .Name (Str.ofString "bool") p2] [] pos) (.bool false) :=
  bcall2 B I (by simp) he (btyp B I (by simp) hk2) (fun h P vs s r => by
    obtain ⟨v, u, rfl, ⟨t, rfl⟩, ru⟩ := r.two
    cases ru
    intro h₁ P₁ k hk g Q E q
    exact IsiPair.int_bool (q _ h₁ P₁ (k + 1) (Nat.succ_pos _) (.refl g.snd) rfl)) hk hp rfl
theorem pick_rev (items : Array Value) : slicePick items none none (some (-1)) = items.toList.reverse.toArray := krv_pick items
theorem op_revL {l : List D} (hz : l.length ≤ sizeLine) (h : Heap) (P : Pm) (v₁ v₂ : Value) (s : Snd P h) (r : Rep P (.lst l) v₁) (r₂ : SlR none none (some (-1)) v₂ h P) : Go w s0 A h P (getItem v₁ v₂) (RepR (.lst l.reverse)) := by
  obtain ⟨x, vs, rfl, hl, rl⟩ := r.isList s
  obtain ⟨ad, pl, pu, ps, rfl, e1, e2, e3, hs⟩ := r₂
  cases pl with
  | some q => cases e1
  | none =>
  cases pu with
  | some q => cases e2
  | none =>
  intro h₁ P₁ k ht g Q E q
  have hl₁ : h₁.IsList x vs.toArray := by obtain ⟨o, ho, hc⟩ := hl; exact ⟨o, g.up _ _ ho, hc⟩
  have hs₁ : h₁.IsSliceOf ad .none .none (partValue ps) := by obtain ⟨o, ho, hc, hd⟩ := hs; exact ⟨o, g.up _ _ ho, hc, hd⟩
  refine wpAny_getItem_list_slice (s := stt s0 h₁ k) hl₁ hs₁ IsPart.none IsPart.none (isPart_of ps) (by rw [e3]; decide) (q _ _ _ k ht (.pushFrz g.snd _ rfl) ?_) (by simp only [List.size_toArray, rl.length]; exact hz)
  refine ⟨_, _, vs.reverse, rfl, Pm.put_self .., ⟨_, by rw [e3, pick_rev]⟩, ?_⟩
  exact rl.reverse.mono fun b o e => (Gr.pushFrz g.snd _ rfl).ext b o (g.ext b o e)
/-- x[::-1] -/
theorem ev_rev {value : Expr} {jp ip pos p : Pos} {k1 : Nat} {l : List D} (hv : Ev w s0 A env h P value (.lst l)) (hz : l.length ≤ sizeLine) : Ev w s0 A env h P (.Subscript value (.Slice none none (some (.UnaryOp .USub (.Constant (.int 1) k1 ip) jp)) p) pos) (.lst l.reverse) :=
  ev_subG (T := "list") (id := "list.__getitem__") hv (go_slice part_none part_none (part_some (ev_neg ev_int))) rfl (fun h P v₁ v₂ s r₁ r₂ => op_revL hz h P v₁ v₂ s r₁ r₂) sl_ok
end
end IK
end

/-! part B40 -/
section
open PySem PySem.W PyProof.Rows
set_option Elab.async false
set_option linter.unusedVariables false
set_option maxRecDepth 100000
namespace IK
noncomputable abbrev two (elt : Expr) (x0 : Str) (p0 : Pos) (i0 : Expr) (x1 : Str) (p1 : Pos) (i1 : Expr) (ifs : List Expr) (scope : Scope) (pos : Pos) : Expr := .ListComp elt [⟨.Name x0 p0, i0, [], 0⟩, ⟨.Name x1 p1, i1, ifs, 0⟩] scope pos
theorem turn_two0 (elt : Expr) (x0 : Str) (p0 : Pos) (i0 : Expr) (x1 : Str) (p1 : Pos) (i1 : Expr) (ifs : List Expr) (scope : Scope) (pos : Pos) (it acc : Value) (env : Env) :
    compTurn (two elt x0 p0 i0 x1 p1 i1 ifs scope pos) 0 it acc env = (do
      standAt i0.pos
      match ← pyNext it with
      | none => pure (.done .next)
      | some v =>
        letOwnedTupleGo (.Name x0 p0) it v
        assign (.Name x0 p0) env v
        let x ← eval i1 env
        standAt i1.pos
        let x ← foldedSetIterable i1 env x
        let _ ← runOwn (.compStart (two elt x0 p0 i0 x1 p1 i1 ifs scope pos) 1 (← holding [x] (pyIter x)) acc env) env
        again (.compLoop (two elt x0 p0 i0 x1 p1 i1 ifs scope pos) 0 it acc env)) := by rfl
theorem turn_two1 (elt : Expr) (x0 : Str) (p0 : Pos) (i0 : Expr) (x1 : Str) (p1 : Pos) (i1 : Expr) (ifs : List Expr) (scope : Scope) (pos : Pos) (it acc : Value) (env : Env) :
    compTurn (two elt x0 p0 i0 x1 p1 i1 ifs scope pos) 1 it acc env = (do
      standAt i1.pos
      match ← pyNext it with
      | none => pure (.done .next)
      | some v =>
        letOwnedTupleGo (.Name x1 p1) it v
        assign (.Name x1 p1) env v
        let mut ok := true
        for c in ifs do
          if ok then ok ← isTrue c env (eval c env)
        if ok then
          (do let _ ← call (.builtin "list.append") [acc, ← eval elt env])
        again (.compLoop (two elt x0 p0 i0 x1 p1 i1 ifs scope pos) 1 it acc env)) := by rfl
section
variable {prog : Program} {w : World} {A : Around} {R : Result → Shared → Prop} {s : Shared} {elt i0 i1 : Expr} {x0 x1 : Str} {p0 p1 pos : Pos} {ifs : List Expr} {scope : Scope} {it acc : Value} {env : Env}
theorem loop_two1 (I : Nat → Shared → Prop)
    (turn : ∀ n s, I n s → wpAny (model prog w) A (pyNext it) (fun r s₁ => match r with
      | none => R (.ok .next) s₁
      | some v => wpAny (model prog w) A (assign (.Name x1 p1) env v) (fun _ s₂ =>
          wpAny (model prog w) A (forIn ifs true fun c r => if r = true then do let ok ← isTrue c env (eval c env); pure (ForInStep.yield ok) else pure (ForInStep.yield r)) (fun ok s₃ =>
            if ok = true then wpAny (model prog w) A (eval elt env) (fun x s₄ =>
              wpAny (model prog w) A (call (.builtin "list.append") [acc, x]) (fun _ s₅ => ∃ m, m < n ∧ I m s₅) (notedBy (model prog w) A env fun e s' => R (.error e) s') s₄) (notedBy (model prog w) A env fun e s' => R (.error e) s') s₃
            else ∃ m, m < n ∧ I m s₃) (notedBy (model prog w) A env fun e s' => R (.error e) s') s₂) (notedBy (model prog w) A env fun e s' => R (.error e) s') s₁) (notedBy (model prog w) A env fun e s' => R (.error e) s') s)
    (n : Nat) (h : I n s) : codeAny (model prog w) A (.compLoop (two elt x0 p0 i0 x1 p1 i1 ifs scope pos) 1 it acc env) R s := by
  refine codeAny_loop rfl I (fun n s hI => ?_) n h
  show wpAny _ A ((compTurn (two elt x0 p0 i0 x1 p1 i1 ifs scope pos) 1 it acc env).onRaise (fun x => do noteFrame x env; theTreesLotGoes x)) _ _ s
  refine wpAny_noted ?_
  rw [turn_two1]
  refine wpAny_bind (wpAny_standAt (wpAny_bind (wpAny_mono (turn n s hI) (fun r s₁ h₁ => ?_) fun _ _ h' => h')))
  cases r with
  | none => exact wpAny_pure h₁
  | some v =>
    refine wpAny_bind (m := letOwnedTupleGo (.Name x1 p1) it v) (wpAny_of_eq (a := ()) rfl ?_)
    refine wpAny_bind (wpAny_mono h₁ (fun _ s₂ h₂ => wpAny_bind (wpAny_mono h₂ (fun ok s₃ h₃ => ?_) fun _ _ h' => h')) fun _ _ h' => h')
    cases ok with
    | false => exact wpAny_pure ⟨rfl, h₃⟩
    | true =>
      exact wpAny_bind (wpAny_bind (wpAny_mono h₃ (fun x s₄ h₄ => wpAny_bind (wpAny_mono h₄ (fun _ s₅ h₅ => wpAny_pure (wpAny_pure ⟨rfl, h₅⟩)) fun _ _ h' => h')) fun _ _ h' => h'))
theorem loop_two0 (I : Nat → Shared → Prop) (hf : ∀ y, foldedSetIterable i1 env y = pure y)
    (turn : ∀ n s, I n s → wpAny (model prog w) A (pyNext it) (fun r s₁ => match r with
      | none => R (.ok .next) s₁
      | some v => wpAny (model prog w) A (assign (.Name x0 p0) env v) (fun _ s₂ =>
          wpAny (model prog w) A (eval i1 env) (fun x s₃ => wpAny (model prog w) A (pyIter x) (fun it1 s₄ =>
            codeAny (model prog w) A (.compStart (two elt x0 p0 i0 x1 p1 i1 ifs scope pos) 1 it1 acc env) (fun r s₅ => match r with | .ok _ => ∃ m, m < n ∧ I m s₅ | .error _ => False) s₄) (notedBy (model prog w) A env fun e s' => R (.error e) s') s₃) (notedBy (model prog w) A env fun e s' => R (.error e) s') s₂) (notedBy (model prog w) A env fun e s' => R (.error e) s') s₁) (notedBy (model prog w) A env fun e s' => R (.error e) s') s)
    (n : Nat) (h : I n s) : codeAny (model prog w) A (.compLoop (two elt x0 p0 i0 x1 p1 i1 ifs scope pos) 0 it acc env) R s := by
  refine codeAny_loop rfl I (fun n s hI => ?_) n h
  show wpAny _ A ((compTurn (two elt x0 p0 i0 x1 p1 i1 ifs scope pos) 0 it acc env).onRaise (fun x => do noteFrame x env; theTreesLotGoes x)) _ _ s
  refine wpAny_noted ?_
  rw [turn_two0]
  refine wpAny_bind (wpAny_standAt (wpAny_bind (wpAny_mono (turn n s hI) (fun r s₁ h₁ => ?_) fun _ _ h' => h')))
  cases r with
  | none => exact wpAny_pure h₁
  | some v =>
    refine wpAny_bind (m := letOwnedTupleGo (.Name x0 p0) it v) (wpAny_of_eq (a := ()) rfl ?_)
    refine wpAny_bind (wpAny_mono h₁ (fun _ s₂ h₂ => ?_) fun _ _ h' => h')
    refine wpAny_bind (wpAny_mono h₂ (fun x s₃ h₃ => ?_) fun _ _ h' => h')
    refine wpAny_bind (wpAny_standAt (wpAny_bind (wpAny_of_eq (hf x) ?_)))
    refine wpAny_bind (wpAny_holding (wpAny_mono h₃ (fun it1 s₄ h₄ => ?_) fun _ _ h' => h'))
    refine wpAny_bind (wpAny_runOwn ?_)
    refine codeAny_mono h₄ fun r s₅ y => ?_
    cases r with
    | ok f => exact wpAny_pure ⟨rfl, y⟩
    | error e => exact y.elim
theorem start_two1 (h0 : codeAny (model prog w) A (.compLoop (two elt x0 p0 i0 x1 p1 i1 ifs scope pos) 1 it acc env) R s)
    (h : wpAny (model prog w) A (pyIter it) (fun it' s' => codeAny (model prog w) A (.compLoop (two elt x0 p0 i0 x1 p1 i1 ifs scope pos) 1 it' acc env) R s') (notedBy (model prog w) A env fun x s' => R (.error x) s') s) :
    codeAny (model prog w) A (.compStart (two elt x0 p0 i0 x1 p1 i1 ifs scope pos) 1 it acc env) R s := by
  refine codeAny_of_tree ?_
  show wpAny _ _ ((compStart (two elt x0 p0 i0 x1 p1 i1 ifs scope pos) 1 it acc env).onRaise (fun x => do noteFrame x env; standAt theWindowsPlace)) _ _ s
  refine wpAny_notedAt ?_
  unfold compStart
  show wpAny _ _ (ask >>= _) _ _ s
  refine wpAny_bind (wpAny_askSetting (wpAny_ite ?_))
  split
  · first
      | exact wpAny_bind (wpAny_pure (wpAny_pure (And.intro rfl h0)))
      | exact wpAny_pure (And.intro rfl h0)
  · first
      | exact wpAny_bind (wpAny_rule (wpAny_bind (wpAny_standAt (wpAny_bind (wpAny_mono h (fun it' s' h' => wpAny_pure (And.intro rfl h')) fun _ _ x => x)))))
      | (refine wpAny_bind (wpAny_rule ?_); show wpAny _ _ (standAt i1.pos >>= _) _ _ s; exact wpAny_bind (wpAny_standAt (wpAny_bind (wpAny_mono h (fun it' s' h' => wpAny_pure (And.intro rfl h')) fun _ _ x => x))))
end
section
variable {w : World} {s0 : Shared} {A : Around} {S : Sta} {env : Env} {ow : List Str} {h₀ h : Heap} {P₀ P : Pm} {n : List (Addr × Mo)} {ρ : List (Str × D)} {d : D}
theorem comp_inner {I a : Addr} {wr : List Addr} {xs : List D} {St : Nat → Heap → Prop} {t : Nat} {L : List (Addr × Obj)} {x x0 : Str} {px p0 pos : Pos} {elt iter i0 : Expr} {ifs : List Expr} {scope : Scope} {R : Result → Shared → Prop}
    (nn : Nat → List (Addr × Mo)) (rs : Nat → List D) (W : It w A I wr P xs St) (st : St 0 h) (ht : 1 ≤ t) (hL : L.map (·.1) = wr) (F : Frm S env ow h₀ P₀ (nn 0 ++ ((a, .lst (rs 0)) :: itl L)) ρ h P)
    (hx : env.kindOf x = some .local ∨ (env.kindOf x = some .cell ∧ x ∈ ow)) (hz : ∀ i, i ≤ xs.length → (rs i).length ≤ sizeLine) (hxρ : ρ.lookup x = none)
    (turn : ∀ i d m h P', xs[i]? = some d → PLe P P' → Frm S env ow h₀ P₀ (nn i ++ m) ((x, d) :: ρ) h P' → Turn w s0 A S env ow h₀ P₀ (nn i ++ m) (nn (i + 1) ++ m) ((x, d) :: ρ) h P' ifs elt (rs i) (rs (i + 1)))
    (done : ∀ h' t' P', 1 ≤ t' → PLe P P' → Frm S env ow h₀ P₀ (nn xs.length ++ [(a, .lst (rs xs.length))]) ρ h' P' → R (.ok .next) (stt s0 h' t')) :
    codeAny (model pg w) A (.compLoop (two elt x0 p0 i0 x px iter ifs scope pos) 1 (.ref I) (.ref a) env) R (stt s0 h t) := by
  refine loop_two1 (fun k s => ∃ i h t P' L, s = stt s0 h t ∧ 1 ≤ t ∧ k = xs.length + 1 - i ∧ i ≤ xs.length ∧ St i h ∧ PLe P P' ∧ L.map (·.1) = wr ∧ Frm S env ow h₀ P₀ (nn i ++ ((a, .lst (rs i)) :: itl L)) ρ h P') ?_ (xs.length + 1)
    ⟨0, h, t, P, L, rfl, ht, rfl, Nat.zero_le _, st, fun _ _ e => e, hL, F⟩
  rintro k _ ⟨i, h, t, P', L, rfl, ht, rfl, hile, st, hP, eL, F⟩
  have assoc : ∀ (j i : Nat) (l : List (Addr × Mo)), nn j ++ ((a, .lst (rs i)) :: l) = (nn j ++ [(a, .lst (rs i))]) ++ l := fun j i l => by simp
  rw [assoc] at F
  refine comp_next W hP st ht hile eL F hx (fun hi h' t' ht' F' => ?_) fun d L' h' t' ht' hd hlt eL' st' F' => ?_
  · rw [hi] at F'; exact done h' t' P' ht' hP F'
  · rw [← assoc] at F'
    obtain ⟨b, hts, hno, hyes⟩ := turn i d _ h' P' hd hP F'
    refine hts h' P' t' ht' F'.refl' _ _ fun v h₂ P₂ t₂ ht₂ g₂ r => ?_
    cases r
    have hP₂ : PLe P P₂ := fun b o e => g₂.ext b o (hP b o e)
    have F₂ := F'.grow g₂
    have st₂ : St (i + 1) h₂ := by rw [assoc] at F' F₂; exact it_kept W hP₂ st' eL' F'.gr.snd hP (it_ledger F') F₂
    have drop : ∀ {n : List (Addr × Mo)} {h : Heap} {P : Pm}, Frm S env ow h₀ P₀ n ((x, d) :: ρ) h P → Frm S env ow h₀ P₀ n ρ h P := fun F => F.vars fun y e q => by
      rw [List.lookup_cons]
      have : (y == x) = false := beq_eq_false_iff_ne.mpr fun z => by subst z; rw [hxρ] at q; cases q
      rw [this]; exact q
    cases b with
    | false =>
      obtain ⟨e1, e2⟩ := hno rfl
      rw [if_neg Bool.false_ne_true]
      refine ⟨xs.length + 1 - (i + 1), by omega, i + 1, h₂, t₂, P₂, L', rfl, ht₂, rfl, hlt, st₂, hP₂, eL', ?_⟩
      rw [List.append_cancel_right e2, e1]
      exact drop F₂
    | true =>
      obtain ⟨g, e1, he⟩ := hyes rfl
      rw [if_pos rfl]
      refine he h₂ P₂ t₂ _ _ ht₂ g₂ fun v h₃ P₃ t₃ ht₃ hP₃ r₃ F₃ => ?_
      have hP₃' : PLe P P₃ := fun b o e => hP₃ b o (hP₂ b o e)
      have st₃ : St (i + 1) h₃ := by rw [assoc] at F₂ F₃; exact it_kept W hP₃' st₂ eL' F₂.gr.snd hP₂ (it_ledger F₂) F₃
      have F₃' := F₃.perm List.perm_middle
      refine app_led F₃' r₃ ht₃ (hz i hile) fun h₄ t₄ ht₄ F₄ => ?_
      have F₄' : Frm S env ow h₀ P₀ (nn (i + 1) ++ ((a, .lst (rs (i + 1))) :: itl L')) ((x, d) :: ρ) h₄ P₃ := by rw [e1]; exact F₄.perm List.perm_middle.symm
      refine ⟨xs.length + 1 - (i + 1), by omega, i + 1, h₄, t₄, P₃, L', rfl, ht₄, rfl, hlt, ?_, hP₃', eL', drop F₄'⟩
      have e2 : ∀ l, nn (i + 1) ++ ((a, .lst (rs (i + 1))) :: l) = (nn (i + 1) ++ [(a, .lst (rs (i + 1)))]) ++ l := fun l => by simp
      rw [assoc] at F₃
      rw [e2] at F₄'
      exact it_kept W hP₃' st₃ eL' F₃.gr.snd hP₃' (it_ledger F₃) F₄'
end
end IK
end

/-! part B41 -/
section
open PySem PySem.W PyProof.Rows
set_option Elab.async false
set_option linter.unusedVariables false
set_option maxRecDepth 100000
namespace IK
section
variable {w : World} {s0 : Shared} {A : Around} {S : Sta} {env : Env} {ow cow : List Str} {h₀ h : Heap} {P₀ P : Pm} {n : List (Addr × Mo)} {ρ ρc : List (Str × D)} {d : D} {K : Flow → Heap → Prop} {scope : Scope}
theorem comp_outer {I a : Addr} {wr : List Addr} {xs : List D} {St : Nat → Heap → Prop} {t : Nat} {L : List (Addr × Obj)} {x0 x1 : Str} {p0 p1 pos : Pos} {elt i0 i1 : Expr} {ifs : List Expr} {scope : Scope} {R : Result → Shared → Prop}
    (rs : Nat → List D) (W : It w A I wr P xs St) (st : St 0 h) (ht : 1 ≤ t) (hL : L.map (·.1) = wr) (F : Frm S env ow h₀ P₀ ((a, .lst (rs 0)) :: itl L) ρ h P)
    (hx0 : env.kindOf x0 = some .local ∨ (env.kindOf x0 = some .cell ∧ x0 ∈ ow)) (hx1 : env.kindOf x1 = some .local ∨ (env.kindOf x1 = some .cell ∧ x1 ∈ ow)) (h0ρ : ρ.lookup x0 = none) (h1ρ : ρ.lookup x1 = none) (hne : x1 ≠ x0) (hf : ∀ y, foldedSetIterable i1 env y = pure y)
    (turn : ∀ i d m h P', xs[i]? = some d → PLe P P' → Frm S env ow h₀ P₀ m ((x0, d) :: ρ) h P' → ∃ (ys : List D) (ri : Nat → List D), ri 0 = rs i ∧ ri ys.length = rs (i + 1) ∧ (∀ j, j ≤ ys.length → (ri j).length ≤ sizeLine) ∧ Ibl w s0 A env h P' i1 ys ∧
      ∀ j dj m' h'' P'', ys[j]? = some dj → PLe P' P'' → Frm S env ow h₀ P₀ m' ((x1, dj) :: (x0, d) :: ρ) h'' P'' → Turn w s0 A S env ow h₀ P₀ m' m' ((x1, dj) :: (x0, d) :: ρ) h'' P'' ifs elt (ri j) (ri (j + 1)))
    (done : ∀ h' t' P', 1 ≤ t' → PLe P P' → Frm S env ow h₀ P₀ [(a, .lst (rs xs.length))] ρ h' P' → R (.ok .next) (stt s0 h' t')) :
    codeAny (model pg w) A (.compLoop (two elt x0 p0 i0 x1 p1 i1 ifs scope pos) 0 (.ref I) (.ref a) env) R (stt s0 h t) := by
  refine loop_two0 (fun k s => ∃ i h t P' L, s = stt s0 h t ∧ 1 ≤ t ∧ k = xs.length + 1 - i ∧ i ≤ xs.length ∧ St i h ∧ PLe P P' ∧ L.map (·.1) = wr ∧ Frm S env ow h₀ P₀ ((a, .lst (rs i)) :: itl L) ρ h P') hf ?_ (xs.length + 1)
    ⟨0, h, t, P, L, rfl, ht, rfl, Nat.zero_le _, st, fun _ _ e => e, hL, F⟩
  rintro k _ ⟨i, h, t, P', L, rfl, ht, rfl, hile, st, hP, eL, F⟩
  refine comp_next (n := [(a, .lst (rs i))]) W hP st ht hile eL F hx0 (fun hi h' t' ht' F' => ?_) fun d L' h' t' ht' hd hlt eL' st' F' => ?_
  · rw [hi] at F'; exact done h' t' P' ht' hP F'
  · obtain ⟨ys, ri, e0, e1, hzr, hibl, htn⟩ := turn i d _ h' P' hd hP F'
    refine hibl h' P' t' ht' F'.refl' _ _ fun I1 wr1 St1 h₂ P₂ t₂ ht₂ g₂ W1 st1 hwr1 => ?_
    have hlive : ∀ i h, St1 i h → ∀ b ∈ wr1, ∃ o, h.get? b = some o := let ⟨_, _, _, _, _, _, k⟩ := W1; k
    have hnd : wr1.Nodup := let ⟨_, _, _, _, _, k, _⟩ := W1; k
    obtain ⟨L1, eL1, kL1⟩ := it_objs (hlive _ _ st1)
    have hP₂ : PLe P P₂ := fun b o e => g₂.ext b o (hP b o e)
    have F₂ : Frm S env ow h₀ P₀ (((a, .lst (rs i)) :: itl L') ++ itl L1) ((x0, d) :: ρ) h₂ P₂ := F'.addNew g₂ (by rw [itl_fst, eL1]; exact hnd) fun p hp => by
      obtain ⟨p', hp', rfl⟩ := List.mem_map.mp hp
      have := hwr1 p'.1 (by rw [← eL1]; exact List.mem_map_of_mem hp')
      exact ⟨this.1, this.2, _, kL1 p' hp', rfl⟩
    have F₃ : Frm S env ow h₀ P₀ (itl L' ++ ((a, .lst (ri 0)) :: itl L1)) ((x0, d) :: ρ) h₂ P₂ := by rw [e0]; exact F₂.perm List.perm_middle.symm
    have body : codeAny (model pg w) A (.compLoop (two elt x0 p0 i0 x1 p1 i1 ifs scope pos) 1 (.ref I1) (.ref a) env) (fun r s₅ => match r with | .ok _ => ∃ m, m < xs.length + 1 - i ∧ ∃ i h t P' L, s₅ = stt s0 h t ∧ 1 ≤ t ∧ m = xs.length + 1 - i ∧ i ≤ xs.length ∧ St i h ∧ PLe P P' ∧ L.map (·.1) = wr ∧ Frm S env ow h₀ P₀ ((a, .lst (rs i)) :: itl L) ρ h P' | .error _ => False) (stt s0 h₂ t₂) := by
      refine comp_inner (fun _ => itl L') ri W1 st1 ht₂ eL1 F₃ hx1 hzr (by rw [List.lookup_cons, show (x1 == x0) = false from beq_eq_false_iff_ne.mpr hne]; exact h1ρ) (fun j dj m h'' P'' hdj hP'' F'' => htn j dj _ h'' P'' hdj (fun b o e => hP'' b o (g₂.ext b o e)) F'') fun h₄ t₄ P₄ ht₄ hP₄ F₄ => ?_
      rw [e1] at F₄
      have hPP : PLe P P₄ := fun b o e => hP₄ b o (hP₂ b o e)
      have F₅ : Frm S env ow h₀ P₀ ((a, .lst (rs (i + 1))) :: itl L') ((x0, d) :: ρ) h₄ P₄ := F₄.perm (List.perm_append_comm (l₂ := [(a, Mo.lst (rs (i + 1)))]))
      have st₄ : St (i + 1) h₄ := it_kept (n' := [(a, .lst (rs (i + 1)))]) W hPP st' eL' F'.gr.snd hP (it_ledger (n := [(a, .lst (rs i))]) F') F₅
      refine ⟨xs.length + 1 - (i + 1), by omega, i + 1, h₄, t₄, P₄, L', rfl, ht₄, rfl, hlt, st₄, hPP, eL', F₅.vars fun y e q => ?_⟩
      rw [List.lookup_cons]
      have : (y == x0) = false := beq_eq_false_iff_ne.mpr fun z => by subst z; rw [h0ρ] at q; cases q
      rw [this]; exact q
    refine start_two1 body ?_
    obtain ⟨fp, Pv, W', _⟩ := id W1
    exact W'.self 0 (stt s0 h₂ t₂) _ _ st1 body
/-- y = [elt for x0 in i0 for x1 in i1 if ..], y local -/
theorem x_comp2 {xs : List D} {x0 x1 y : Str} {p0 p1 py pos spos : Pos} {elt i0 i1 : Expr} {ifs : List Expr} (rs : Nat → List D) (cow : List Str) (ρc : List (Str × D))
    (ok : CompOk scope env cow) (fr : Frees scope env ρ ρc) (F : Frm S env ow h₀ P₀ n ρ h P)
    (hi : Ibl w s0 A env h P i0 xs) (h0 : rs 0 = []) (hx0 : scope.names.lookup x0 = some .local ∨ (scope.names.lookup x0 = some .cell ∧ x0 ∈ cow)) (hx1 : scope.names.lookup x1 = some .local ∨ (scope.names.lookup x1 = some .cell ∧ x1 ∈ cow)) (h0ρ : ρc.lookup x0 = none) (h1ρ : ρc.lookup x1 = none) (hne : x1 ≠ x0)
    (hsw : swapsWith (two elt x0 p0 i0 x1 p1 i1 ifs scope pos) (some (.Name y py)) spos.line env = pure true) (hk : env.kindOf y = some .local)
    (turn : ∀ C i d m h' P', xs[i]? = some d → PLe P P' → Frm S (cEnv scope env C) cow h P m ((x0, d) :: ρc) h' P' → ∃ (ys : List D) (ri : Nat → List D), ri 0 = rs i ∧ ri ys.length = rs (i + 1) ∧ (∀ j, j ≤ ys.length → (ri j).length ≤ sizeLine) ∧ Ibl w s0 A (cEnv scope env C) h' P' i1 ys ∧
      ∀ j dj m' h'' P'', ys[j]? = some dj → PLe P' P'' → Frm S (cEnv scope env C) cow h P m' ((x1, dj) :: (x0, d) :: ρc) h'' P'' → Turn w s0 A S (cEnv scope env C) cow h P m' m' ((x1, dj) :: (x0, d) :: ρc) h'' P'' ifs elt (ri j) (ri (j + 1)))
    (k : ∀ h' P', PLe P P' → Frm S env ow h₀ P₀ n ((y, .lst (rs xs.length)) :: ρ) h' P' → K .next h')
    (hs : ∀ y, foldedSetIterable i0 env y = pure y := by intro _; rfl) (hf : ∀ C y, foldedSetIterable i1 (cEnv scope env C) y = pure y := by intro _ _; rfl) :
    X1 w s0 A env (.Assign [.Name y py] (two elt x0 p0 i0 x1 p1 i1 ifs scope pos) spos) h K := by
  intro t ht Q E q
  rw [exec_Assign_Name_used _ _ _ _ hsw]
  refine wpAny_bind (wpAny_standAt (wpAny_bind ?_))
  show wpAny _ A (do let _ ← comprehension (two elt x0 p0 i0 x1 p1 i1 ifs scope pos) scope env _ (newList []) false (eval i0 env) (some (assign (.Name y py) env))) _ _ _
  refine wpAny_bind (wpAny_mono (Q := fun _ s' => Q .next s') ?_ (fun _ s' hq => wpAny_pure (wpAny_pure hq)) fun _ _ e => e)
  have hnm : ∀ y ∈ scope.names, y.2 = .local → scope.names.lookup y.1 = some .local := fun y hy e => by
    have := List.all_eq_true.mp ok.names y hy
    rw [e] at this
    simpa using this
  refine wpAny_comprehension_free rfl hs (closureFor_pure ok.frees) ok.fk hnm (hi h P t ht F.refl' _ E fun I wr St h₂ P₂ t₂ ht₂ g₂ W st hwr => ?_)
  have hlive : ∀ i h, St i h → ∀ b ∈ wr, ∃ o, h.get? b = some o := let ⟨_, _, _, _, _, _, k⟩ := W; k
  have hnd : wr.Nodup := let ⟨_, _, _, _, _, k, _⟩ := W; k
  obtain ⟨L, eL, kL⟩ := it_objs (hlive _ _ st)
  refine comp_enter (RR := fun acc C => compPost (model pg w) A E (some (assign (.Name y py) env)) (fun _ s' => Q .next s') acc C) (hx := h) (nn := []) (L := L) ok fr F g₂ (fun _ _ e => e) rfl (fun p hp => nomatch hp) List.nodup_nil (by rw [eL]; exact hnd) (fun p hp => ?_) ht₂ fun C a h₃ t₃ ha ht₃ F₃ => ?_
  · have := hwr p.1 (by rw [← eL]; exact List.mem_map_of_mem hp)
    exact ⟨this.1, this.2, kL p hp⟩
  · have st₃ : St 0 h₃ := it_kept (n' := [(a, .lst [])]) (L := L) W (P := P₂) (P' := P₂) (fun _ _ e => e) st eL g₂.snd (fun _ _ e => e) kL F₃
    have fin : ∀ h' t' P', 1 ≤ t' → PLe P₂ P' → Frm S (cEnv scope env C) cow h P [(a, .lst (rs xs.length))] ρc h' P' → compPost (model pg w) A E (some (assign (.Name y py) env)) (fun _ s' => Q .next s') (.ref a) C (.ok .next) (stt s0 h' t') := fun h' t' P' ht' hP Fc => by
      obtain ⟨P₃, o, hP₃, rp, hC, F₄⟩ := comp_back (n := n) (nn := []) (nk := []) (by simpa using F) (fun b o _ e => e) rfl Fc rfl (fun p hp => nomatch hp)
      show wpAny _ A (assign (.Name y py) env (.ref a)) _ _ _
      refine wpAny_assign_Name (f_store F₄ (.inl hk) rp ht' fun h₅ t₅ ht₅ F₅ => ?_)
      obtain ⟨⟨o', eo', ro'⟩, _⟩ := F₅.led (C, .is (· = o)) (List.mem_append_right _ (.head _))
      have ro'' : o' = o := ro'
      subst ro''
      obtain ⟨m, hm'⟩ := hC h₅ eo'
      refine ⟨m, hm', fun h₆ hs₆ => q .next h₆ t₅ ht₅ (k h₆ P₃ (fun b o e => hP₃ b o (hP b o (g₂.ext b o e))) ?_)⟩
      have := comp_drop F₅ hs₆
      simpa using this
    have body : codeAny (model pg w) A (.compLoop (two elt x0 p0 i0 x1 p1 i1 ifs scope pos) 0 (.ref I) (.ref a) (cEnv scope env C)) (compPost (model pg w) A E (some (assign (.Name y py) env)) (fun _ s' => Q .next s') (.ref a) C) (stt s0 h₃ t₃) :=
      comp_outer rs W st₃ ht₃ eL (by rw [h0]; exact F₃) (hx0.imp kind_rel_local fun ⟨p, q⟩ => ⟨kind_rel_cell p, q⟩) (hx1.imp kind_rel_local fun ⟨p, q⟩ => ⟨kind_rel_cell p, q⟩) h0ρ h1ρ hne (hf C)
        (fun i d m h' P' hd hP F' => turn C i d m h' P' hd (fun b o e => hP b o (g₂.ext b o e)) F') fin
    refine codeAny_compStart_list body ?_
    obtain ⟨fp, Pv, W', _⟩ := id W
    exact W'.self 0 (stt s0 h₃ t₃) _ _ st₃ body
end
end IK
end

/-! part B42 -/
section
open PySem PySem.W PyProof.Rows
set_option Elab.async false
set_option linter.unusedVariables false
set_option maxRecDepth 100000
namespace IK
section
variable {w : World} {s0 : Shared} {A : Around} {S : Sta} {env : Env} {ow : List Str} {h₀ h h' : Heap} {P₀ P P' : Pm} {n m : List (Addr × Mo)} {ρ : List (Str × D)} {d d' : D} {K : Flow → Heap → Prop} {a : Addr}
/-- the first thing of the ledger seen for what it is -/
theorem Frm.known {p q : Obj → Prop} (F : Frm S env ow h₀ P₀ ((a, .is p) :: n) ρ h P) (ho : ∃ o, h.get? a = some o ∧ q o) : Frm S env ow h₀ P₀ ((a, .is q) :: n) ρ h P := by
  obtain ⟨o, e, ho⟩ := ho
  exact F.change (m' := .is q) id (Heap.SameBut.refl _ _) e ho
/-- y = g(f(..)), f changing the things m -/
theorem x_callE2 {x g y : Str} {np gp pos gpos yp spos : Pos} {args : List Expr} {st : Stmt} {a : Addr} {cd : Value} {names ow' : List Str} {ds : List D} {k kg : Nat} {mE : List (Addr × Mo)} (hE : mE.map (·.1) = m.map (·.1)) (iE : allIs mE) (f : FnAt S x st a cd) (ok : DefOk st names ow') (rm : Rm (k + 1) A)
    (gs : FnSpec w s0 S kg g [d] (RepR d')) (rmg : Rm kg A)
    (F : Frm S env ow h₀ P₀ (n ++ m) ρ h P) (hm : allIs m) (ha : EvL w s0 A env h P pos args ds) (hl : ds.length = names.length)
    (hb : ∀ vs : List Value, vs.length = names.length → ∀ pm doc, bindArgs (Calls.docDef x (parOf st) (bodyOf st) (scoOf st) pm cd doc) ⟨vs, []⟩ = pure (names.zip vs))
    (body : ∀ h P L h₂, PLe P₀ P → Frm S (fenv x st L a cd) ow' (hideAll h (m.map (·.1))) P m (names.zip ds) h₂ P → Rm k (A.deeper (fenv x st L a cd)) →
      Xs w s0 (A.deeper (fenv x st L a cd)) (fenv x st L a cd) (bodyOf st) h₂ (fun fl h' => ∃ P', Left S h P m mE h' P' ∧ RepR d (match fl with | .ret v => v | _ => .none) h' P'))
    (hkx : env.kindOf x = some .globalImplicit) (hdx : notDbg x) (hkg : env.kindOf g = some .globalImplicit) (hdg : notDbg g) (hky : env.kindOf y = some .local ∨ (env.kindOf y = some .cell ∧ y ∈ ow))
    (q : ∀ h' P', PLe P P' → Frm S env ow h₀ P₀ (n ++ mE) ((y, d') :: ρ) h' P' → K .next h')
    (hp : plainArgs args = true := by rfl) (hs : swapsWith (.Call (.Name g gp) [.Call (.Name x np) args [] pos] [] gpos) (some (.Name y yp)) spos.line env = pure false := by rfl) :
    X1 w s0 A env (.Assign [.Name y yp] (.Call (.Name g gp) [.Call (.Name x np) args [] pos] [] gpos) spos) h K := by
  intro t ht Q E qq
  obtain ⟨stg, ag, cdg, fag, gog⟩ := gs
  obtain ⟨og, pmg, docg, hog, hdg'⟩ := fag.ob
  obtain ⟨o, pm, doc, ho, hd⟩ := f.ob
  refine wpAny_Assign_Name ?_ hs
  have e0 : eval (.Call (.Name g gp) [.Call (.Name x np) args [] pos] [] gpos) env = (do callWith gpos (← eval (.Name g gp) env) [] (backTo gpos (starEach [.Call (.Name x np) args [] pos] env)) (backToKw gpos (keywordEach [] env))) := rfl
  rw [e0]
  refine wpAny_bind (ev_global (d := .ref ag) F.inn hkg fag.mg (fun _ => rfl) hdg h P t ht F.refl' _ E fun v h₁ P₁ t₁ ht₁ g₁ r₁ => ?_)
  cases r₁
  refine Calls.callWith_function (o := og) (fd := Calls.docDef g (parOf stg) (bodyOf stg) (scoOf stg) pmg cdg docg) (evalArgs_any rfl ?_)
  show wpAny (model pg w) A (spliced ((false, eval (.Call (.Name x np) args [] pos) env) :: [])) _ E _
  have e1 : eval (.Call (.Name x np) args [] pos) env = (do callWith pos (← eval (.Name x np) env) [] (backTo pos (starEach args env)) (backToKw pos (keywordEach [] env))) := rfl
  rw [e1]
  have F₁ := F.grow g₁
  refine Calls.spliced_cons (wpAny_bind (ev_global (d := .ref a) F₁.inn hkx f.mg (fun _ => rfl) hdx h₁ P₁ t₁ ht₁ F₁.refl' _ E fun v h₂ P₂ t₂ ht₂ g₂ r₂ => ?_))
  cases r₂
  refine Calls.callWith_function (o := o) (fd := Calls.docDef x (parOf st) (bodyOf st) (scoOf st) pm cd doc) (evalArgs_any (star_plain hp) (ha h₂ P₂ t₂ ht₂ (g₁.trans g₂) _ E fun vs h₃ P₃ t₃ ht₃ g₃ r₃ => ?_))
  have gg := g₁.trans (g₂.trans g₃)
  have F₃ := F.grow gg
  refine ⟨⟨F₃.inn.top _ _ ho, hd⟩, ?_⟩
  refine go_callE (R := fun v h' P' => Rep P' d v ∧ ∀ p ∈ mE, ∃ o, h'.get? p.1 = some o ∧ MoIs P' o p.2) f ok rm F₃ hm r₃ hl (hb vs (r₃.length.trans hl)) ht₃ (fun L h₄ F₄ rm' => (body h₃ P₃ L h₄ (fun b o e => F₃.gr.ext b o e) F₄ rm').mono fun fl h' ⟨P', lf, r⟩ => ⟨P', mE, lf, r, lf.2.2.2⟩) fun v h₄ P₄ m' t₄ ht₄ lf ⟨r, rk⟩ => ?_
  have F₄ := (F₃.left lf).reIs (hE.trans lf.1.symm) iE rk
  refine Calls.spliced_nil ⟨⟨F₄.inn.top _ _ hog, hdg'⟩, ?_⟩
  refine gog A rmg h₄ P₄ [v] F₄.inn.base (.cons r .nil) h₄ P₄ t₄ ht₄ F₄.refl' _ E fun v₅ h₅ P₅ t₅ ht₅ g₅ r₅ => ?_
  exact f_store (F₄.grow g₅) hky r₅ ht₅ fun h₆ t₆ ht₆ F₆ => qq _ h₆ t₆ ht₆ (q h₆ P₅ (fun b o e => g₅.ext b o (lf.2.2.1.ext b o (gg.ext b o e))) F₆)
theorem Rm.of {k : Nat} {A A' : Around} (r : Rm (k + 1) A) (h1 : A'.depth ≤ A.depth + 1) (h2 : A'.units ≤ A.units + 1) (h3 : A'.handled = A.handled) : Rm k A' :=
  ⟨h3.trans r.hh, by have := r.dp; omega, by have := r.un; omega⟩
variable {C N fI fN ig : Addr} {cI cN : Value} {mN mA : Str → Option Value}
theorem bind_init {fd : FuncData} {v u z : Value} {s : Shared} {Q : List (Str × Value) → Shared → Prop} {E : Value → Shared → Prop} (e1 : fd.params = parOf (mthAt 0)) (e2 : fd.kwdefaults = .none)
    (e3 : fd.defaults = .none ∨ ∃ dT oT, fd.defaults = .ref dT ∧ s.heap.get? dT = some oT ∧ TO oT [.none, .none]) (q : Q ((["self", "modules", "dirs"] : List Str).zip [v, u, z]) s) : wpAny (model pg w) A (bindArgs fd ⟨[v, u, z], []⟩) Q E s := by
  obtain ⟨name, qualname, params, body, scope, globals, closure, defaults, kwdefaults, doc, pyModule, annotations, code, closureTuple, builtins⟩ := fd
  dsimp only at e1 e2 e3
  subst e1 e2
  rcases e3 with rfl | ⟨dT, oT, rfl, ho, m, rfl⟩
  · exact wpAny_pure q
  · show wpAny _ _ (seqItems? (.ref dT) >>= _) _ _ _
    refine wpAny_bind (wpAny_seqItems ho rfl (wpAny_pure ?_))
    exact q
/-- what __init__ leans on -/
structure IniAt (S : Sta) : Prop where
  f : ∃ a c, FnAt S "normpath" (defAt 21) a c
  f1 : ∃ a c, FnAt S "_c_path" (defAt 16) a c
  f2 : ∃ a c, FnAt S "_kind" (defAt 13) a c
  f3 : ∃ a c, FnAt S "_normpath" (defAt 20) a c
  f4 : ∃ a c, FnAt S "_splitroot" (defAt 18) a c
  f5 : ∃ a c, FnAt S "_shelf_fresh" (defAt 17) a c
theorem two_of {x dx : Addr} {m : List (Addr × Mo)} (e : m.map (·.1) = [x, dx]) (i : allIs m) : ∃ p q, m = [(x, .is p), (dx, .is q)] := by
  match m, e with
  | [(a, ma), (b, mb)], e =>
    simp only [List.map_cons, List.map_nil, List.cons.injEq, and_true] at e
    obtain ⟨rfl, rfl⟩ := e
    obtain ⟨p, hp⟩ := i (a, ma) (.head _)
    obtain ⟨q, hq⟩ := i (b, mb) (.tail _ (.head _))
    simp only at hp hq
    subst hp hq
    exact ⟨p, q, rfl⟩
/-- y = _Ignore(None, e) -/
theorem x_reader {y : Str} {np pos yp spos kp : Pos} {k1 : Nat} {e : Expr} {ds : List (List Nat)} (B : Bis S) (R : RdC w S C N fI fN cI cN mN) (J : IniAt S) (hds : ∀ p ∈ ds, okP p) (hz : ds.length ≤ 1000) (rm : Rm 6 A)
    (F : Frm S env ow h₀ P₀ n ρ h P) (he : Ev w s0 A env h P e (.lst (ds.map .str))) (hk : env.kindOf "_Ignore" = some .globalImplicit) (hky : env.kindOf y = some .local ∨ (env.kindOf y = some .cell ∧ y ∈ ow))
    (q : ∀ x mA ig h' P', PLe P P' → InstF P' x C mA → RdM P' mA (ds.map norm) ig → 2 ≤ ig → Frm S env ow h₀ P₀ ((ig, .is (CaO w [(strg, 1)])) :: n) ((y, .ref x) :: ρ) h' P' → K .next h')
    (hp : plainArgs [.Constant .none k1 kp, e] = true := by rfl) (hp' : plainArgs [e] = true := by rfl) (hs : swapsWith (.Call (.Name "_Ignore" np) [.Constant .none k1 kp, e] [] pos) (some (.Name y yp)) spos.line env = pure false := by rfl) :
    X1 w s0 A env (.Assign [.Name y yp] (.Call (.Name "_Ignore" np) [.Constant .none k1 kp, e] [] pos) spos) h K := by
  intro t ht Q E qq
  refine wpAny_Assign_Name ?_ hs
  have e0 : eval (.Call (.Name "_Ignore" np) [.Constant .none k1 kp, e] [] pos) env = (do callWith pos (← eval (.Name "_Ignore" np) env) [] (backTo pos (starEach [.Constant .none k1 kp, e] env)) (backToKw pos (keywordEach [] env))) := rfl
  rw [e0]
  refine wpAny_bind (ev_global (d := .ref C) F.inn hk R.mg (fun _ => rfl) (by decide) h P t ht F.refl' _ E fun v h₁ P₁ t₁ ht₁ g₁ r₁ => ?_)
  cases r₁
  have hsr := (starEach_cons (env := env) hp).1
  have hpl : (backTo pos (starEach [e] env)).any (·.1) = false := star_plain hp'
  refine PyProof.Rows.callWith_cls R.cls ?_ hsr hpl
  refine evl_cons' (ds := [.lst (ds.map .str)]) (d := .none) hp ev_none (evl_cons' hp' he evl_nil) h₁ P₁ t₁ ht₁ g₁ _ E fun vs h₂ P₂ t₂ ht₂ g₂ r₂ => ?_
  have gg := g₁.trans g₂
  have F₂ := F.grow gg
  refine ⟨F₂.inn.top, ?_⟩
  obtain ⟨u, z, rfl, ru, rz⟩ := r₂.two
  refine go_make R F₂ ht₂ fun x dx h₃ A' hd1 hu1 hh1 lx ldx F₃ => ?_
  have rm' : Rm 5 A' := rm.of hd1 hu1 hh1
  have F₃' : Frm S env ow h₀ P₀ (n ++ [(x, .is (· = ixO C dx)), (dx, .is fun o => NsO o fun _ => none)]) ρ h₃ P₂ := F₃.perm (by exact List.perm_append_comm (l₁ := [(x, Mo.is (· = ixO C dx)), (dx, Mo.is fun o => NsO o fun _ => none)]) (l₂ := n))
  obtain ⟨a3, c3, f⟩ := J.f
  obtain ⟨a4, c4, f1⟩ := J.f1
  obtain ⟨a5, c5, f2⟩ := J.f2
  obtain ⟨a6, c6, f3⟩ := J.f3
  have hsz2 : 2 ≤ h₃.objs.size := base_two F₃.gr.snd F₃.inn.base
  refine code_callM (ds := [.ref x, .none, .lst (ds.map .str)]) (k := 4) (R := fun v h' P' => v = .none ∧ (∃ o, h'.get? x = some o ∧ o = ixO C dx) ∧ ∃ mA ig, RdM P' mA (ds.map norm) ig ∧ h₃.objs.size ≤ ig ∧ P' ig = none ∧ (∃ o, h'.get? ig = some o ∧ CaO w [(strg, 1)] o) ∧ (∃ od, h'.get? dx = some od ∧ NsO od mA))
    R.fi ok_init rm' F₃' (fun p hp => by
      rcases List.mem_cons.mp hp with rfl | hp
      · exact ⟨_, rfl⟩
      · cases List.mem_singleton.mp hp; exact ⟨_, rfl⟩) (.cons rfl (.cons ru (.cons rz .nil))) rfl (fun fd A E Q e1 e2 e3 q => bind_init e1 e2 e3 q) ht₂ (fun L h₄ F₄ hsz rm₄ => ?_) fun v h₄ P₄ m' t₄ ht₄ lf r => ?_
  · refine body_init (a7 := 0) (c7 := .none) B R f f1 f2 f3 J.f4 J.f5 hds hz (rm₄.less (by decide)) F₄ fun h₅ P₅ mA ig hM hig F₅ => ?_
    have F₅' := (F₅.perm (n' := [(ig, .is (CaO w [(strg, 1)])), (x, .is (· = ixO C dx)), (dx, .is fun o => NsO o mA)]) (by exact (List.perm_append_comm (l₁ := [(x, Mo.is (· = ixO C dx)), (dx, Mo.is fun o => NsO o mA)]) (l₂ := [(ig, Mo.is (CaO w [(strg, 1)]))])))).forget
    obtain ⟨a1, _⟩ := F₅.led _ (.head _)
    obtain ⟨a2, _⟩ := F₅.led _ (.tail _ (.head _))
    obtain ⟨a3, _, a4, _⟩ := F₅.led _ (.tail _ (.tail _ (.head _)))
    rw [hideAll_size] at hig
    exact ⟨P₅, _, Left.of F₅' rfl (fun p hp => by
      rcases List.mem_cons.mp hp with rfl | hp
      · exact ⟨_, rfl⟩
      · cases List.mem_singleton.mp hp; exact ⟨_, rfl⟩), rfl, a1, mA, ig, hM, hig, a4, a3, a2⟩
  · obtain ⟨rfl, a1, mA, ig, hM, hig, a4, a3, a2⟩ := r
    obtain ⟨p, q', rfl⟩ := two_of lf.1 lf.2.1
    have F₅ := F₃'.leftNew lf hig a4 a3
    have hx0 : h₀.objs.size ≤ x := Nat.le_trans F₂.gr.sz lx
    have hdx0 : h₀.objs.size ≤ dx := Nat.le_trans F₂.gr.sz ldx
    have F₆ : Frm S env ow h₀ P₀ ((x, .is p) :: (dx, .is q') :: (ig, .is (CaO w [(strg, 1)])) :: n) ρ h₄ P₄ := F₅.perm (by exact List.perm_append_comm (l₁ := (ig, Mo.is (CaO w [(strg, 1)])) :: n) (l₂ := [(x, Mo.is p), (dx, Mo.is q')]))
    have hne : dx ≠ x := fun z => (List.nodup_cons.mp F₆.dist).1 (by simp [z])
    have F₇ := (F₆.known (q := (· = ixO C dx)) a1)
    obtain ⟨P₇, ox, F₈, p₇, e1, e2⟩ := F₇.freezeIs hx0
    have F₉ := F₈.known (q := fun o => NsO o mA) a2
    obtain ⟨P₉, od, F₁₀, p₉, e3, e4⟩ := F₉.freezeIs hdx0
    subst e2
    refine ⟨rfl, ?_⟩
    have hPP : PLe P P₉ := fun b o e => p₉ b o (p₇ b o (lf.2.2.1.ext b o (gg.ext b o e)))
    refine f_store (d := .ref x) F₁₀ hky rfl ht₄ fun h₅ t₅ ht₅ F₁₁ => qq _ h₅ t₅ ht₅ (q x mA ig h₅ P₉ hPP ⟨dx, od, p₉ _ _ e1, hne, e3, e4⟩ (hM.mono fun b o e => p₉ b o (p₇ b o e)) (Nat.le_trans hsz2 hig) F₁₁)
end
end IK
end

/-! part B43 -/
section
open PySem PySem.W PyProof.Rows
set_option Elab.async false
set_option linter.unusedVariables false
set_option maxRecDepth 100000
namespace IK
section
variable {w : World} {s0 : Shared} {A : Around} {S : Sta} {env : Env} {ow cow : List Str} {h₀ hx h h' : Heap} {P₀ P P' : Pm} {n m : List (Addr × Mo)} {ρ ρc : List (Str × D)} {d d' : D} {K : Flow → Heap → Prop} {a : Addr} {C N fI fN ig : Addr} {cI cN : Value} {mN mA : Str → Option Value} {scope : Scope}
theorem one_of {a : Addr} {m : List (Addr × Mo)} (e : m.map (·.1) = [a]) (i : allIs m) : ∃ p, m = [(a, .is p)] := by
  match m, e with
  | [(b, mb)], e =>
    simp only [List.map_cons, List.map_nil, List.cons.injEq, and_true] at e
    subst e
    obtain ⟨p, hp⟩ := i (b, mb) (.head _)
    simp only at hp
    subst hp
    exact ⟨p, rfl⟩
/-- reader.names(f, m) -/
theorem go_names {rd : Str} {xp ap pos : Pos} {e1 e2 : Expr} {ds : List (List Nat)} {c : List (List Nat × Int)} {f l : List Nat} {t : Nat} {Q : Value → Shared → Prop} {E : Value → Shared → Prop} (B : Bis S) (R : RdC w S C N fI fN cI cN mN) (hsep : ∃ t, S.mg "sep" = some (.str (T [47]) t)) (rm : Rm 1 A)
    (F : Frm S env ow h₀ P₀ ((ig, .is (CaO w c)) :: n) ρ h P) (hx : ρ.lookup rd = some (.ref a)) (hI : InstF P a C mA) (hM : RdM P mA ds ig) (h2 : 2 ≤ ig) (hds : ∀ p ∈ ds, p.length ≤ 2000) (hz : ds.length ≤ 1000) (hc : c.length ≤ 1000) (ht : 1 ≤ t)
    (ha1 : Ev w s0 A env h P e1 (.str f)) (ha2 : Ev w s0 A env h P e2 (.str l))
    (k : ∀ v h' P' t', 1 ≤ t' → PLe P P' → Rep P' (.int (ans ds c f l)) v → Frm S env ow h₀ P₀ ((ig, .is (CaO w (cac ds c f l))) :: n) ρ h' P' → Q v (stt s0 h' t'))
    (hcx : plainName rd := by decide) (hp : plainArgs [e1, e2] = true := by rfl) (hp' : plainArgs [e2] = true := by rfl) (hline : (ap.endLine == pos.line) = true := by rfl) :
    wpAny (model pg w) A (eval (.Call (.Attribute (.Name rd xp) "names" ap) [e1, e2] [] pos) env) Q E (stt s0 h t) := by
  rw [arm_eval_Call, base_ok (by rfl)]
  refine wpAny_bind (ev_name F.inn hx hcx h P t ht F.refl' _ E fun v h₁ P₁ t₁ ht₁ g₁ r₁ => ?_)
  cases r₁
  refine wpAny_bind (wpAny_standAt ?_)
  have hform : methodCallForm (([e1, e2] : List Expr).length + ([] : List Keyword).length) (backTo pos (starEach [e1, e2] env)) (backToKw pos (keywordEach [] env)) = true := few_ok (env := env) hp (by simp)
  have hpos : methodCallPos true (.Name rd xp) env ap pos = pure pos := by unfold methodCallPos; simp [hline]
  have F₁ := F.grow g₁
  have top : ∀ b o, S.hb.get? b = some o → h₁.get? b = some o := F₁.inn.top
  obtain ⟨nm, q', bs, sn, sub, col, dd, k0, k1, k2, k3, k5, hC⟩ := R.cls.obj
  obtain ⟨oN, fd, eN', cN', dN, _⟩ := R.fn.ob
  unfold methodCall
  rw [hform]
  refine wpAny_bind (wpAny_holding (method_of (h := h₁) (top _ _ hC) (R.cls.ns.keeps top) (R.no "__getattribute__" (by decide)) (R.no "__getattr__" (by decide)) R.n (top _ _ eN') cN' lk_names ((hI.mono fun b o e => g₁.ext b o e).inst g₁.snd) hM.nam ?_))
  refine wpAny_bind (wpAny_of_eq hpos ?_)
  refine PyProof.Rows.callWith_meth (h₀ := S.hb) dN eN' ?_ (starEach_cons (env := env) hp).1
  refine evl_cons' (ds := [.str l]) (d := .str f) hp ha1 (evl_cons' hp' ha2 evl_nil) h₁ P₁ t₁ ht₁ g₁ _ E fun vs h₂ P₂ t₂ ht₂ g₂ r₂ => ?_
  have gg := g₁.trans g₂
  have F₂ := F.grow gg
  refine ⟨F₂.inn.top, ?_⟩
  obtain ⟨u, z, rfl, ru, rz⟩ := r₂.two
  have F₂' : Frm S env ow h₀ P₀ (n ++ [(ig, .is (CaO w c))]) ρ h₂ P₂ := F₂.perm (by exact List.perm_append_comm (l₁ := [(ig, Mo.is (CaO w c))]) (l₂ := n))
  refine wpAny_call (code_callM (ds := [.ref a, .str f, .str l]) (k := 0) (R := fun v h' P' => Rep P' (.int (ans ds c f l)) v ∧ ∃ o, h'.get? ig = some o ∧ CaO w (cac ds c f l) o) R.fn ok_names rm F₂' (fun p hp => by
      cases List.mem_singleton.mp hp; exact ⟨_, rfl⟩) (.cons rfl (.cons ru (.cons rz .nil))) rfl (fun fd A E Q e1 e2 e3 q => ?_) ht₂ (fun L h₄ F₄ hsz rm₄ => ?_) fun v h₄ P₄ m' t₄ ht₄ lf r => ?_)
  · obtain ⟨name, qualname, params, body, scope, globals, closure, defaults, kwdefaults, doc, pyModule, annotations, code, closureTuple, builtins⟩ := fd
    dsimp only at e1 e2 e3
    subst e1 e2
    rcases e3 with rfl | ⟨dT, oT, rfl, ho, m, rfl⟩
    · exact wpAny_pure q
    · show wpAny _ _ (seqItems? (.ref dT) >>= _) _ _ _
      refine wpAny_bind (wpAny_seqItems ho rfl (wpAny_pure ?_))
      exact q
  · refine body_names B R hsep (hI.mono fun b o e => gg.ext b o e) (hM.mono fun b o e => gg.ext b o e) h2 hds hz hc rm₄ F₄ fun v h₅ P₅ F₅ r => ?_
    exact ⟨P₅, _, Left.of F₅ rfl (fun p hp => by cases List.mem_singleton.mp hp; exact ⟨_, rfl⟩), r, (F₅.led _ (.head _)).1⟩
  · obtain ⟨r1, r2⟩ := r
    obtain ⟨p, rfl⟩ := one_of lf.1 lf.2.1
    have F₅ := (F₂'.left lf).perm (n' := (ig, .is p) :: n) (by exact List.perm_append_comm (l₁ := n) (l₂ := [(ig, Mo.is p)]))
    exact k v h₄ P₄ t₄ ht₄ (fun b o e => lf.2.2.1.ext b o (gg.ext b o e)) r1 (F₅.known r2)
/-- return [comp] == e, the comprehension changing the thing ig -/
theorem x_retCompEq {xs : List D} {x : Str} {px pos cpos rpos : Pos} {elt iter e2 : Expr} {ifs : List Expr} (nn : Nat → List (Addr × Mo)) (rs : Nat → List D) (cow : List Str) (ρc : List (Str × D)) {b : Bool}
    (ok : CompOk scope env cow) (fr : Frees scope env ρ ρc) (F : Frm S env ow h₀ P₀ (n ++ nn 0) ρ h P) (hsub : ∀ b o, hx.get? b = some o → h.get? b = some o) (hsub' : ∀ b o, b ∉ (nn 0).map (·.1) → h.get? b = some o → hx.get? b = some o) (hsz : hx.objs.size = h.objs.size) (hnn : ∀ p ∈ nn 0, MoNew hx p.1 p.2)
    (hm : (nn xs.length).map (·.1) = (nn 0).map (·.1)) (hmo : ∀ p ∈ nn xs.length, MoNew h₀ p.1 p.2)
    (hi : Ibl w s0 A env h P iter xs) (h0 : rs 0 = []) (hx' : scope.names.lookup x = some .local ∨ (scope.names.lookup x = some .cell ∧ x ∈ cow)) (hz : ∀ i, i ≤ xs.length → (rs i).length ≤ sizeLine) (hxρ : ρc.lookup x = none)
    (turn : ∀ C i d m h' P', xs[i]? = some d → PLe P P' → Frm S (cEnv scope env C) cow hx P (nn i ++ m) ((x, d) :: ρc) h' P' → Turn w s0 A S (cEnv scope env C) cow hx P (nn i ++ m) (nn (i + 1) ++ m) ((x, d) :: ρc) h' P' ifs elt (rs i) (rs (i + 1)))
    (he : ∀ h' P', PLe P P' → Frm S env ow h₀ P₀ (n ++ nn xs.length) ρ h' P' → Ev w s0 A env h' P' e2 d) (ho : Op2 w s0 A (compareOp .Eq) (.lst (rs xs.length)) d (.bool b))
    (k : ∀ h' P', PLe P P' → Frm S env ow h₀ P₀ (n ++ nn xs.length) ρ h' P' → K (.ret (.bool b)) h')
    (hm' : behindInMarks .Eq e2 = false := by rfl) (hs : ∀ y, foldedSetIterable iter env y = pure y := by intro _; rfl) :
    X1 w s0 A env (.Return (some (.Compare (.ListComp elt [⟨.Name x px, iter, ifs, 0⟩] scope pos) [.Eq] [e2] cpos)) rpos) h K := by
  intro t ht Q E q
  refine wpAny_Return_some (wpAny_Compare1 ?_ hm')
  rw [eval_ListComp]
  refine comp_run (use := none) nn rs ok fr F hsub hsz hnn hi ht h0 hx' hz hxρ hs turn fun C a h' t' P' ht' hP Fc => ?_
  obtain ⟨P₂, o, hP₂, rp, hC, F₂⟩ := comp_back F hsub' hsz Fc hm hmo
  obtain ⟨⟨o', eo', ro'⟩, _⟩ := F₂.led (C, .is (· = o)) (List.mem_append_right _ (.head _))
  have ro'' : o' = o := ro'
  subst ro''
  obtain ⟨mm, hm''⟩ := hC h' eo'
  refine ⟨mm, hm'', fun h₃ hs₃ => ?_⟩
  have F₃ := comp_drop F₂ hs₃
  have hPP : PLe P P₂ := fun b o e => hP₂ b o (hP b o e)
  refine he h₃ P₂ hPP F₃ h₃ P₂ t' ht' F₃.refl' _ E fun v₂ h₄ P₄ t₄ ht₄ g₄ r₄ => ?_
  refine ho h₄ P₄ (.ref a) v₂ g₄.snd (rp.mono g₄.ext) r₄ h₄ P₄ t₄ ht₄ (.refl g₄.snd) _ E fun v₅ h₅ P₅ t₅ ht₅ g₅ r₅ => ?_
  cases r₅
  exact q _ h₅ t₅ ht₅ (k h₅ P₅ (fun b o e => g₅.ext b o (g₄.ext b o (hPP b o e))) (F₃.grow (g₄.trans g₅)))
end
end IK
end

/-! part P3 -/
section
open PySem PySem.W PyProof.Rows
set_option Elab.async false
set_option linter.unusedVariables false
namespace IK
/-! the plain values of the law -/
noncomputable def modn (f : List Nat) : List Nat := stem0 (lastc 47 f)
noncomputable def slashes (e : List Nat) : List Nat := (List.range e.length).filter fun n => e.getD n 0 == 47
noncomputable def aboveOf (e : List Nat) : List (List Nat) := (slashes e).map fun n => e.take n
noncomputable def aboveL (l : List Int) : List (List Nat) := (dFiles l).flatMap aboveOf
noncomputable def rowL (l : List Int) : List It1 := (dToks l).map told1
noncomputable def meantL (l : List Int) : List (List Nat) := (aboveL l).filter (takes (rowL l))
noncomputable def outOf (meant : List (List Nat)) (e : List Nat) : Bool := !((List.range e.length).filter fun n => (e.getD n 0 == 47) && decide (e.take n ∈ meant)).isEmpty
noncomputable def outL (l : List Int) : List Bool := (dFiles l).map (outOf (meantL l))
noncomputable def stemsL (l : List Int) : List (List Nat) := (dFiles l).map stem
noncomputable def dirsL (l : List Int) : List (List Nat) := (List.range (meantL l).length).map fun n => crooked ((meantL l).getD n []) (l.length + n)
noncomputable def cch (ds : List (List Nat)) (fs : List (List Nat)) (c : List (List Nat × Int)) : List (List Nat × Int) := fs.foldl (fun c f => cac ds c f (modn f)) c
noncomputable def anss (ds : List (List Nat)) : List (List Nat) → List (List Nat × Int) → List Int
  | [], _ => []
  | f :: r, c => ans ds c f (modn f) :: anss ds r (cac ds c f (modn f))
theorem cch_len (ds : List (List Nat)) : ∀ (fs : List (List Nat)) (c : List (List Nat × Int)), (cch ds fs c).length ≤ c.length + fs.length
  | [], c => Nat.le_refl _
  | f :: r, c => by
    have := cch_len ds r (cac ds c f (modn f))
    have h : (cac ds c f (modn f)).length ≤ c.length + 1 := by unfold cac; split <;> simp
    show (cch ds r (cac ds c f (modn f))).length ≤ _
    simp only [List.length_cons]; omega
theorem cch_snoc (ds fs : List (List Nat)) (c : List (List Nat × Int)) (f : List Nat) : cch ds (fs ++ [f]) c = cac ds (cch ds fs c) f (modn f) := by unfold cch; rw [List.foldl_append]; rfl
theorem anss_snoc (ds : List (List Nat)) : ∀ (fs : List (List Nat)) (c : List (List Nat × Int)) (f : List Nat), anss ds (fs ++ [f]) c = anss ds fs c ++ [ans ds (cch ds fs c) f (modn f)]
  | [], c, f => rfl
  | g :: r, c, f => by
    show ans ds c g (modn g) :: anss ds (r ++ [f]) (cac ds c g (modn g)) = _
    rw [anss_snoc ds r]; rfl
theorem anss_len (ds : List (List Nat)) : ∀ (fs : List (List Nat)) (c : List (List Nat × Int)), (anss ds fs c).length = fs.length
  | [], c => rfl
  | f :: r, c => by show (anss ds r _).length + 1 = _; rw [anss_len ds r]; rfl
theorem aboveOf_len (e : List Nat) : (aboveOf e).length ≤ e.length ∧ ∀ p ∈ aboveOf e, p.length ≤ e.length := by
  refine ⟨?_, fun p hp => ?_⟩
  · unfold aboveOf slashes
    rw [List.length_map]
    exact Nat.le_trans (List.length_filter_le ..) (by simp)
  · obtain ⟨n, _, rfl⟩ := List.mem_map.mp hp
    rw [List.length_take]; omega
theorem flatMap_len {α β : Type} (f : α → List β) (B : Nat) : ∀ l : List α, (∀ x ∈ l, (f x).length ≤ B) → (l.flatMap f).length ≤ l.length * B
  | [], _ => by simp
  | x :: r, h => by
    have h1 := flatMap_len f B r fun y hy => h y (.tail _ hy)
    have h2 := h x (.head _)
    simp only [List.flatMap_cons, List.length_append, List.length_cons]
    rw [Nat.succ_mul]; omega
theorem dFiles_len (l : List Int) : (∀ f ∈ dFiles l, f.length ≤ 23) ∧ (dFiles l).length ≤ 12 ∧ 2 ≤ (dFiles l).length := by
  obtain ⟨a, b, c, _⟩ := foldF' l 10 (Nat.le_refl _)
  exact ⟨a, b, c⟩
theorem aboveL_len (l : List Int) : (aboveL l).length ≤ 276 ∧ ∀ p ∈ aboveL l, p.length ≤ 23 := by
  obtain ⟨a, b, _⟩ := dFiles_len l
  have h := flatMap_len aboveOf 23 (dFiles l) fun e he => Nat.le_trans (aboveOf_len e).1 (a e he)
  refine ⟨Nat.le_trans h (by have := Nat.mul_le_mul_right 23 b; omega), fun p hp => ?_⟩
  obtain ⟨e, he, hp⟩ := List.mem_flatMap.mp hp
  exact Nat.le_trans ((aboveOf_len e).2 p hp) (a e he)
theorem meantL_len (l : List Int) : (meantL l).length ≤ 276 ∧ ∀ p ∈ meantL l, p.length ≤ 23 := by
  obtain ⟨a, b⟩ := aboveL_len l
  exact ⟨Nat.le_trans (List.length_filter_le ..) a, fun p hp => b p (List.mem_filter.mp hp).1⟩
theorem rowL_len (l : List Int) : (rowL l).length ≤ 20 := by
  unfold rowL; rw [List.length_map]; exact (toks_len l 10 (Nat.le_refl _)).1
theorem drPat_len (l : List Int) : ((dToks l).flatMap src).length ≤ 40 := (toks_len l 10 (Nat.le_refl _)).2
/-- the text of translate -/
noncomputable def txtOf (f0 : List (List Nat)) (gs : List (List (List Nat))) : List Nat := [40, 63, 115, 58] ++ (out0 f0 gs).flatten ++ [41, 92, 90]
noncomputable def rowsOf (f0 : List (List Nat)) (gs : List (List (List Nat))) : List Row := (f0.flatten :: gs.map List.flatten).map items
noncomputable def c00 : List (List Nat × Int) := [(strg, 1)]
structure PL (l : List Int) (f0 : List (List Nat)) (gs : List (List (List Nat))) : Prop where
  toks : ∀ k ∈ dToks l ++ [Tk.lit 47, Tk.star], okT k
  fold : (dToks l ++ [Tk.lit 47, Tk.star]).foldl pushT [] = f0.map some ++ tl gs
  zf : (f0.map some ++ tl gs).length ≤ 1000
  hg : ∀ g ∈ gs, g ≠ [] ∧ g.length ≤ 1000 ∧ g.flatten.length ≤ 10000 ∧ ∀ x ∈ g, x.length ≤ 10
  hl : ∀ x ∈ out0 f0 gs, x.length ≤ 10100
  hol : (out0 f0 gs).length ≤ 1400
  len : (txtOf f0 gs).length ≤ 900
  drop : (txtOf f0 gs).drop ((txtOf f0 gs).length - 5) = [46, 42, 41, 92, 90]
  split : Txt.split (T (psl (txtOf f0 gs) (some 4) (some (-5)))) (T [40, 63, 62, 46, 42, 63]) = (f0.flatten :: (gs.map List.flatten).map (· ++ [41])).map T
  rlen : (rowsOf f0 gs).length ≤ 1000
  rows : ∀ r ∈ rowsOf f0 gs, r.length ≤ 1000
  md : ∀ f ∈ dFiles l, (lastc 47 f).head? ≠ some 46
  cr : ∀ p ∈ dirsL l, okP p
  out : outL l = (dFiles l).map (mats (rowsOf f0 gs))
  ans : anss ((dirsL l).map norm) (dFiles l) c00 = (stemsL l).map fun s => if (outL l).getD ((stemsL l).findIdx (· == s)) false then 1 else 0
  rev : anss ((dirsL l).map norm) (dFiles l).reverse (cch ((dirsL l).map norm) (dFiles l) c00) = (anss ((dirsL l).map norm) (dFiles l) c00).reverse
end IK
end

/-! part C19 -/
section
open PySem PySem.W PyProof.Rows
set_option Elab.async false
set_option linter.unusedVariables false
set_option maxRecDepth 100000
namespace IK
noncomputable abbrev eLaw (L a : Addr) (cd : Value) : Env := fenv "law" (defAt 34) L a cd
noncomputable def lawOw : List Str := ["script", "due", "read", "meant", "out", "stems", "reader"]
theorem ok_law : DefOk (defAt 34) ["script"] lawOw := ⟨by decide, by decide, by decide, rfl, rfl, rfl⟩
/-- what the law leans on -/
structure LawAt (w : World) (S : Sta) (c Pl : Addr) (C N fI fN : Addr) (cI cN : Value) (mN : Str → Option Value) : Prop where
  X : TrAt w S c Pl
  ftr : ∃ a cd, FnAt S "translate" (defAt 4) a cd
  drawn : ∃ a cd, FnAt S "_law_drawn" (defAt 26) a cd
  takes : ∃ a cd, FnAt S "_law_takes" (defAt 27) a cd
  read : ∃ a cd, FnAt S "_law_read" (defAt 28) a cd
  items : ∃ a cd, FnAt S "_law_items" (defAt 29) a cd
  rows : ∃ a cd, FnAt S "_law_rows" (defAt 30) a cd
  mats : ∃ a cd, FnAt S "_law_matches" (defAt 31) a cd
  crook : ∃ a cd, FnAt S "_law_crooked" (defAt 32) a cd
  stem : ∃ a cd, FnAt S "_law_stem" (defAt 33) a cd
  modn : ∃ a cd, FnAt S "_modname" (defAt 24) a cd
  base : ∃ a cd, FnAt S "basename" (defAt 19) a cd
  splx : ∃ a cd, FnAt S "splitext" (defAt 15) a cd
  fsp : ∃ a cd, FnAt S "_fspath" (defAt 14) a cd
  R : RdC w S C N fI fN cI cN mN
  J : IniAt S
  sep : ∃ t, S.mg "sep" = some (.str (T [47]) t)
section
variable {w : World} {s0 : Shared} {A : Around} {S : Sta} {h₀ h h' : Heap} {P₀ P P' : Pm} {K : Flow → Heap → Prop} {L a : Addr} {cd : Value} {c Pl C N fI fN : Addr} {cI cN : Value} {mN : Str → Option Value}
set_option maxHeartbeats 1000000 in
theorem body_law (Z : LawAt w S c Pl C N fI fN cI cN mN) {l : List Int} {f0 : List (List Nat)} {gs : List (List (List Nat))} (H : PL l f0 gs) (hl : l.length ≤ 63) (rm : Rm 8 A)
    (F : Frm S (eLaw L a cd) lawOw h₀ P₀ [(Pl, .is TabP)] [("listed", .lst ((dFiles l).map .str)), ("due", .lst (told2 (dToks l))), ("wanted", .str (drPat l)), ("script", .lst (l.map .int))] h P)
    (k : ∀ h' P', Frm S (eLaw L a cd) lawOw h₀ P₀ [(Pl, .is TabP)] [] h' P' → K (.ret (.bool true)) h') : Xs w s0 A (eLaw L a cd) (bodyOf (defAt 34)).tail h K := by
  have hh := rm.hh
  have B := Z.X.B
  obtain ⟨atr, cdtr, ftr⟩ := Z.ftr
  obtain ⟨ar, cdr, fr⟩ := Z.rows
  obtain ⟨ai, cdi, fi⟩ := Z.items
  obtain ⟨ard, cdrd, frd⟩ := Z.read
  obtain ⟨hfB, hfn, hf2⟩ := dFiles_len l
  obtain ⟨hmn, hmB⟩ := meantL_len l
  obtain ⟨han, haB⟩ := aboveL_len l
  have hrl := rowL_len l
  have hpl : (drPat l).length ≤ 40 := drPat_len l
  -- read
  have hrows : FnSpec w s0 S 3 "_law_rows" [.str (txtOf f0 gs)] (RepR (.lst ((rowsOf f0 gs).map rowD))) := by
    have := sp_rows (w := w) (s0 := s0) B fr fi frd (t := txtOf f0 gs) (R0 := f0.flatten) (Rs := gs.map List.flatten) H.len rfl H.drop H.split
    have e : (rowsOf f0 gs).map rowD = ((f0.flatten :: gs.map List.flatten).map fun r => rowD (items r)) := by unfold rowsOf; rw [List.map_map]; rfl
    rw [e]; exact this
  refine Xs.cons (x_callE2 (k := 2) (n := []) (m := [(Pl, .is TabP)]) (mE := [(Pl, .is TabP)]) rfl (fun p hp => by cases List.mem_singleton.mp hp; exact ⟨_, rfl⟩) (d := .str (txtOf f0 gs)) (ds := [.str (drPat l ++ [47, 42])]) ftr ok_trans (rm.less (by decide)) hrows (rm.less (by decide)) F (fun p hp => by cases List.mem_singleton.mp hp; exact ⟨_, rfl⟩)
    (evl_cons' rfl (bin (nm F.inn) (ss [47, 42]) (op_addS (lineLe (by simp only [List.length_cons, List.length_nil]; omega)))) evl_nil) rfl (fun vs hv pm doc => ?_) (fun h₂ P₂ L₂ h₃ hP F₂ rm' => ?_) rfl (by decide) rfl (by decide) (.inr ⟨rfl, by decide⟩) fun h₁ P₁ p₁ F₁ => ?_)
  · match vs, hv with
    | [x], _ => rfl
  · refine body_trans Z.X (ts := dToks l ++ [Tk.lit 47, Tk.star]) H.toks (by rw [List.flatMap_append]; rfl) (by simp only [List.length_append, List.length_cons, List.length_nil]; omega) H.fold H.zf H.hg H.hl ?_ H.hol rm' F₂ fun v h' P' F' r => ⟨P', Left.of F' rfl (fun p hp => by cases List.mem_singleton.mp hp; exact ⟨_, rfl⟩), r⟩
    have := H.len
    simp only [txtOf, List.length_append, List.length_cons, List.length_nil] at this; omega
  have hread : ((rowsOf f0 gs).map rowD).length ≤ 1000 := by rw [List.length_map]; exact H.rlen
  refine Xs.cons (x_if (b := false) F₁.refl' (tcmp (nm F₁.inn) ev_none (op_isNone (.inr (.inr (.inr (.inl ⟨_, rfl⟩)))))) (fun e => nomatch e) (fun _ h₂ P₂ g₂ => Xs.nil ?_))
  have F₂ := F₁.grow g₂
  have p₂ : PLe P P₂ := fun b o e => g₂.ext b o (p₁ b o e)
  -- above
  have hfz : ((dFiles l).map D.str).length ≤ sizeLine := lineLe (by rw [List.length_map]; omega)
  refine Xs.cons (x_comp2 (xs := (dFiles l).map .str) (fun i => (((dFiles l).take i).flatMap aboveOf).map .str) [] [] ⟨rfl, rfl, rfl, fun x hx => nomatch hx⟩ trivial F₂ (ibl_list hh (nm F₂.inn)) rfl (.inl rfl) (.inl rfl) rfl rfl (by decide) rfl rfl (fun Ca i d m h' P' hd hP F' => ?_) fun h₃ P₃ p₃ F₃ => ?_)
  · rw [List.getElem?_map] at hd
    obtain ⟨e, he, rfl⟩ := Option.map_eq_some_iff.mp hd
    have hel := hfB e (List.mem_of_getElem? he)
    have hzl : e.length ≤ sizeLine := lineLe (by omega)
    refine ⟨(List.range e.length).map fun n : Nat => .int n, fun j => (((dFiles l).take i).flatMap aboveOf).map .str ++ (((List.range e.length).take j).filter fun n => e.getD n 0 == 47).map fun n => .str (e.take n), by simp, ?_, fun j hj => ?_, (range1 B hh F'.inn (lenS B F'.inn (nm F'.inn) hzl) (by omega) (by omega)).cast (rng_nat0 _ _ (by simp)), fun j dj m' h'' P'' hdj hP'' F'' => ?_⟩
    · have e9 : (List.range e.length).take ((List.range e.length).map fun n : Nat => D.int n).length = List.range e.length := List.take_of_length_le (by simp)
      dsimp only
      rw [e9, List.take_add_one, he, List.flatMap_append, List.map_append]
      congr 1
      simp [aboveOf, slashes]
    · have h1 := flatMap_len aboveOf 23 ((dFiles l).take i) fun x hx => Nat.le_trans (aboveOf_len x).1 (hfB x (List.mem_of_mem_take hx))
      have h2 : ((List.range e.length).take j).length ≤ e.length := by simp; omega
      have h3 := List.length_filter_le (fun n => e.getD n 0 == 47) ((List.range e.length).take j)
      have h4 : ((dFiles l).take i).length ≤ 12 := by rw [List.length_take]; omega
      have h5 := Nat.mul_le_mul_right 23 h4
      rw [List.length_append, List.length_map, List.length_map]
      exact lineLe (by omega)
    · rw [List.getElem?_map] at hdj
      obtain ⟨n, hn, rfl⟩ := Option.map_eq_some_iff.mp hdj
      rw [List.getElem?_range (by have := (List.getElem?_eq_some_iff.mp hn).1; simpa using this)] at hn
      cases hn
      have hnl : j < e.length := by
        by_cases q : j < e.length
        · exact q
        · rw [List.getElem?_eq_none (by simpa using q)] at hdj; cases hdj
      have e2 : ((List.range e.length).take (j + 1)) = (List.range e.length).take j ++ [j] := by
        rw [List.take_add_one, List.getElem?_range hnl]; rfl
      have e4 : (((dFiles l).take i).flatMap aboveOf).map D.str ++ (((List.range e.length).take (j + 1)).filter fun n => e.getD n 0 == 47).map (fun n => D.str (e.take n)) =
          if e.getD j 0 == 47 then ((((dFiles l).take i).flatMap aboveOf).map D.str ++ (((List.range e.length).take j).filter fun n => e.getD n 0 == 47).map (fun n => D.str (e.take n))) ++ [.str (e.take j)] else (((dFiles l).take i).flatMap aboveOf).map D.str ++ (((List.range e.length).take j).filter fun n => e.getD n 0 == 47).map (fun n => D.str (e.take n)) := by
        rw [e2, List.filter_append, List.map_append, ← List.append_assoc]
        cases hb : (e.getD j 0 == 47) with
        | true => simp only [List.filter_cons, List.filter_nil, hb, if_true, List.map_cons, List.map_nil]
        | false => simp only [List.filter_cons, List.filter_nil, hb, Bool.false_eq_true, if_false, List.map_nil, List.append_nil]
      dsimp only
      rw [e4]
      exact Turn.pure F'' (tsts_one (Tst.cast (tcmp (sub (nm F''.inn) (nm F''.inn) (op_itemS' (c := e.getD j 0) hzl (by omega) (by rw [Int.toNat_natCast, List.getD_eq_getElem?_getD, List.getElem?_eq_getElem hnl]; rfl))) (ss [47]) op_eqS) (by simp))) (fun _ => Ev.cast (cutS_to (nm F''.inn) (nm F''.inn) hzl) (by rw [psl_upto]))
  have eabove : (((dFiles l).take ((dFiles l).map D.str).length).flatMap aboveOf).map D.str = (aboveL l).map .str := by rw [List.length_map, List.take_length]; rfl
  rw [eabove] at F₃
  have edue : told2 (dToks l) = (rowL l).map itD := by unfold rowL; rw [List.map_map]; rfl
  rw [edue] at F₃
  -- meant
  obtain ⟨atk, cdtk, ftk⟩ := Z.takes
  refine Xs.cons (asg (d := .lst ((meantL l).map .str)) F₃ (ev_comp (aboveL l) .str (takes (rowL l)) .str [] [("due", .lst ((rowL l).map itD))] F₃ ⟨rfl, rfl, rfl, fun x hx => nomatch hx⟩ ⟨⟨rfl, .inl rfl, fun _ => .inl rfl, fun _ => rfl⟩, trivial⟩ (ibl_list hh (nm F₃.inn)) (.inl rfl) rfl (lineLe (by omega)) (fun y hy Ca hb Pb m h' P' F' => ?_) (fun y hy hb Ca hb' Pb m h' P' F' => nm F'.inn)) (fun h₄ P₄ p₄ F₄ => ?_) (.inr ⟨rfl, by decide⟩))
  · have := haB y hy
    exact tsts_one (tpl (ev_call (sp_takes B ftk (by omega) (by omega)) (rm.less (by decide)) F'.inn rfl (by decide) (evl_cons' rfl (nm F'.inn) (evl_cons' rfl (nm F'.inn) evl_nil)) rfl) tru_bool)
  -- out
  refine Xs.cons (asg (d := .lst ((outL l).map .bool)) F₄ (Ev.cast (ev_comp (dFiles l) .str (fun _ => true) (fun e => .bool (outOf (meantL l) e)) ["entry"] [("meant", .lst ((meantL l).map .str))] F₄ ⟨rfl, rfl, rfl, by decide⟩ ⟨⟨rfl, .inl rfl, fun _ => .inl rfl, fun _ => rfl⟩, trivial⟩ (ibl_list hh (nm F₄.inn)) (.inr ⟨rfl, by decide⟩) rfl (lineLe (by omega)) (fun y hy Ca hb Pb m h' P' F' => tsts_nil) (fun y hy hb Ca hb' Pb m h' P' F' => ?_)) (by rw [List.filter_eq_self.mpr (fun _ _ => rfl)]; unfold outL; rw [List.map_map]; rfl)) (fun h₅ P₅ p₅ F₅ => ?_) (.inr ⟨rfl, by decide⟩))
  · have hyl := hfB y hy
    have hzl : y.length ≤ sizeLine := lineLe (by omega)
    refine Ev.cast (cmp (d₁ := .lst ((((List.range y.length).filter fun n => (y.getD n 0 == 47) && decide (y.take n ∈ meantL l)).map fun n : Nat => (n : Int)).map .int)) (Ev.cast (ev_comp (List.range y.length) (fun n : Nat => .int n) (fun n => (y.getD n 0 == 47) && decide (y.take n ∈ meantL l)) (fun n : Nat => .int n) [] [("entry", .str y), ("meant", .lst ((meantL l).map .str))] F' ⟨rfl, rfl, rfl, fun x hx => nomatch hx⟩ ⟨⟨rfl, .inl rfl, fun _ => .inl rfl, fun _ => rfl⟩, ⟨rfl, .inl rfl, fun _ => .inl rfl, fun _ => rfl⟩, trivial⟩ ((range1 B hh F'.inn (lenS B F'.inn (nm F'.inn) hzl) (by omega) (by omega)).cast (rng_nat0 _ _ (by simp))) (.inl rfl) rfl (lineLe (by rw [List.length_range]; omega)) (fun n hn Ca2 hb Pb m h' P' F'' => ?_) (fun n hn hb Ca2 hb' Pb m h' P' F'' => nm F''.inn)) (by rw [List.map_map]; rfl)) ev_nil (op_neNilI rm)) ?_
    · have hnl : n < y.length := List.mem_range.mp hn
      exact tsts_one (tst_and (Tst.cast (tcmp (sub (nm F''.inn) (nm F''.inn) (op_itemS' (c := y.getD n 0) hzl (by omega) (by rw [Int.toNat_natCast, List.getD_eq_getElem?_getD, List.getElem?_eq_getElem hnl]; rfl))) (ss [47]) op_eqS) (by simp)) fun _ => tcmp (Ev.cast (cutS_to (nm F''.inn) (nm F''.inn) hzl) (by rw [psl_upto])) (nm F''.inn) op_inLs)
    · unfold outOf
      rw [List.isEmpty_map]
  -- matches
  obtain ⟨amt, cdmt, fmt⟩ := Z.mats
  refine Xs.cons (x_if (b := false) F₅.refl' (Tst.cast (tcmp (d₂ := .lst (((dFiles l).map (mats (rowsOf f0 gs))).map .bool)) (nm F₅.inn) (Ev.cast (ev_comp (dFiles l) .str (fun _ => true) (fun e => .bool (mats (rowsOf f0 gs) e)) [] [("read", .lst ((rowsOf f0 gs).map rowD))] F₅ ⟨rfl, rfl, rfl, fun x hx => nomatch hx⟩ ⟨⟨rfl, .inl rfl, fun _ => .inl rfl, fun _ => rfl⟩, trivial⟩ (ibl_list hh (nm F₅.inn)) (.inl rfl) rfl (lineLe (by omega)) (fun y hy Ca hb Pb m h' P' F' => tsts_nil) (fun y hy hb Ca hb' Pb m h' P' F' => ?_)) (by rw [List.filter_eq_self.mpr (fun _ _ => rfl), List.map_map]; rfl)) (op_neLb rm)) (by rw [H.out]; simp)) (fun e => nomatch e) (fun _ h₆ P₆ g₆ => Xs.nil ?_))
  · have := hfB y hy
    exact ev_call (sp_matches B fmt (by omega) H.rlen H.rows) (rm.less (by decide)) F'.inn rfl (by decide) (evl_cons' rfl (nm F'.inn) (evl_cons' rfl (nm F'.inn) evl_nil)) rfl
  have F₆ := F₅.grow g₆
  -- stems
  obtain ⟨ast, cdst, fst⟩ := Z.stem
  refine Xs.cons (asg (d := .lst ((stemsL l).map .str)) F₆ (Ev.cast (ev_comp (dFiles l) .str (fun _ => true) (fun e => .str (stem e)) [] [] F₆ ⟨rfl, rfl, rfl, fun x hx => nomatch hx⟩ trivial (ibl_list hh (nm F₆.inn)) (.inl rfl) rfl (lineLe (by omega)) (fun y hy Ca hb Pb m h' P' F' => tsts_nil) (fun y hy hb Ca hb' Pb m h' P' F' => ?_)) (by rw [List.filter_eq_self.mpr (fun _ _ => rfl)]; unfold stemsL; rw [List.map_map]; rfl)) (fun h₇ P₇ p₇ F₇ => ?_) (.inr ⟨rfl, by decide⟩))
  · have := hfB y hy
    exact ev_call (sp_stem B fst (by omega)) (rm.less (by decide)) F'.inn rfl (by decide) (evl_cons' rfl (nm F'.inn) evl_nil) rfl
  -- reader
  obtain ⟨acr, cdcr, fcr⟩ := Z.crook
  have hdl : (dirsL l).length ≤ 276 := by unfold dirsL; rw [List.length_map, List.length_range]; exact hmn
  have hmz : ((meantL l).map D.str).length ≤ sizeLine := lineLe (by rw [List.length_map]; omega)
  have hlz : (l.map D.int).length ≤ sizeLine := lineLe (by rw [List.length_map]; omega)
  refine Xs.cons (x_reader (ds := dirsL l) B Z.R Z.J H.cr (by omega) (rm.less (by decide)) F₇ (Ev.cast (ev_comp (List.range (meantL l).length) (fun n : Nat => .int n) (fun _ => true) (fun n => .str (crooked ((meantL l).getD n []) (l.length + n))) [] [("meant", .lst ((meantL l).map .str)), ("script", .lst (l.map .int))] F₇ ⟨rfl, rfl, rfl, fun x hx => nomatch hx⟩ ⟨⟨rfl, .inl rfl, fun _ => .inl rfl, fun _ => rfl⟩, ⟨rfl, .inl rfl, fun _ => .inl rfl, fun _ => rfl⟩, trivial⟩ ((range1 B hh F₇.inn (lenL B F₇.inn (nm F₇.inn) hmz) (by omega) (by rw [List.length_map]; omega)).cast (rng_nat0 _ _ (by simp))) (.inl rfl) rfl (lineLe (by rw [List.length_range]; omega)) (fun y hy Ca hb Pb m h' P' F' => tsts_nil) (fun n hn hb Ca hb' Pb m h' P' F' => ?_)) (by rw [List.filter_eq_self.mpr (fun _ _ => rfl)]; unfold dirsL; rw [List.map_map]; rfl)) rfl (.inr ⟨rfl, by decide⟩) fun x mA ig h₈ P₈ p₈ hI hM h2 F₈' => ?_)
  · have hnl : n < (meantL l).length := List.mem_range.mp hn
    have hml := hmB _ (List.getElem_mem hnl)
    have eg : (meantL l).getD n [] = (meantL l)[n] := by rw [List.getD_eq_getElem?_getD, List.getElem?_eq_getElem hnl]; rfl
    refine ev_call (sp_crooked fcr (p := (meantL l).getD n []) (t := l.length + n) (by rw [eg]; omega)) (rm.less (by decide)) F'.inn rfl (by decide) (evl_cons' rfl (sub (nm F'.inn) (nm F'.inn) (op_itemL hmz (by omega) (by rw [Int.toNat_natCast, List.getElem?_map, List.getElem?_eq_getElem hnl, eg]; rfl))) (evl_cons' rfl (Ev.cast (bin (lenL B F'.inn (nm F'.inn) hlz) (nm F'.inn) op_addI) (by rw [List.length_map]; congr 1)) evl_nil)) rfl
  have F₈ : Frm S (eLaw L a cd) lawOw h₀ P₀ [(Pl, .is TabP), (ig, .is (CaO w c00))] _ h₈ P₈ := F₈'.perm (List.Perm.swap ..)
  -- answers
  obtain ⟨amd, cdmd, fmd⟩ := Z.modn
  obtain ⟨abs, cdbs, fbs⟩ := Z.base
  obtain ⟨asx, cdsx, fsx⟩ := Z.splx
  obtain ⟨afp, cdfp, ffp⟩ := Z.fsp
  obtain ⟨akd, cdkd, fkd⟩ := Z.J.f2
  have hdn : ∀ p ∈ (dirsL l).map norm, p.length ≤ 2000 := fun p hp => by
    obtain ⟨q, hq, rfl⟩ := List.mem_map.mp hp
    exact (H.cr q hq).2.2.2
  have hdz : ((dirsL l).map norm).length ≤ 1000 := by rw [List.length_map]; omega
  have hig : ∀ {h : Heap} {P : Pm} {n : List (Addr × Mo)} {p : Obj → Prop} {ρ : List (Str × D)}, Frm S (eLaw L a cd) lawOw h₀ P₀ (n ++ [(ig, .is p)]) ρ h P → h₀.get? ig = none := fun F => (F.led _ (List.mem_append_right _ (.head _))).2.1
  -- one question
  have ask : ∀ {scope : Scope} {fs : List (List Nat)} {c0 : List (List Nat × Int)} {hx : Heap} {Px : Pm} {elt : Expr}, (∀ f ∈ fs, f ∈ dFiles l) → c0.length + fs.length ≤ 900 → PLe P₈ Px →
      (∀ (Ca : Addr) {f : List Nat} {m : List (Addr × Mo)} {c : List (List Nat × Int)} {h' : Heap} {P' : Pm} {t : Nat} {Q : Value → Shared → Prop} {E : Value → Shared → Prop}, f ∈ dFiles l → c.length ≤ 1000 → PLe Px P' → 1 ≤ t → Frm S (cEnv scope (eLaw L a cd) Ca) [] hx Px ((ig, .is (CaO w c)) :: m) [("entry", .str f), ("reader", .ref x)] h' P' →
        (∀ v h'' P'' t', 1 ≤ t' → PLe P' P'' → Rep P'' (.int (ans ((dirsL l).map norm) c f (modn f))) v → Frm S (cEnv scope (eLaw L a cd) Ca) [] hx Px ((ig, .is (CaO w (cac ((dirsL l).map norm) c f (modn f)))) :: m) [("entry", .str f), ("reader", .ref x)] h'' P'' → Q v (stt s0 h'' t')) → wpAny (model pg w) A (eval elt (cEnv scope (eLaw L a cd) Ca)) Q E (stt s0 h' t)) →
      ∀ Ca i d m h' P', (fs.map D.str)[i]? = some d → PLe Px P' → Frm S (cEnv scope (eLaw L a cd) Ca) [] hx Px ([(ig, .is (CaO w (cch ((dirsL l).map norm) (fs.take i) c0)))] ++ m) (("entry", d) :: [("reader", .ref x)]) h' P' →
        Turn w s0 A S (cEnv scope (eLaw L a cd) Ca) [] hx Px ([(ig, .is (CaO w (cch ((dirsL l).map norm) (fs.take i) c0)))] ++ m) ([(ig, .is (CaO w (cch ((dirsL l).map norm) (fs.take (i + 1)) c0)))] ++ m) (("entry", d) :: [("reader", .ref x)]) h' P' [] elt ((anss ((dirsL l).map norm) (fs.take i) c0).map .int) ((anss ((dirsL l).map norm) (fs.take (i + 1)) c0).map .int) := by
    intro scope fs c0 hx Px elt hfs hcl hPx go Ca i d m h' P' hd hP F'
    rw [List.getElem?_map] at hd
    obtain ⟨f, hf, rfl⟩ := Option.map_eq_some_iff.mp hd
    have hfm := hfs f (List.mem_of_getElem? hf)
    have e1 : fs.take (i + 1) = fs.take i ++ [f] := by rw [List.take_add_one, hf]; rfl
    have hcc := cch_len ((dirsL l).map norm) (fs.take i) c0
    have htl : (fs.take i).length ≤ fs.length := by rw [List.length_take]; omega
    rw [e1, cch_snoc, anss_snoc, List.map_append]
    refine ⟨true, tsts_nil, nofun, fun _ => ⟨.int (ans ((dirsL l).map norm) (cch ((dirsL l).map norm) (fs.take i) c0) f (modn f)), rfl, fun h₁ P₁ t Q E ht g q => ?_⟩⟩
    exact go Ca hfm (by omega) (fun b o e => g.ext b o (hP b o e)) ht (F'.grow g) fun v h'' P'' t' ht' p r F'' => q v h'' P'' t' ht' p r F''
  have cell1 : ∀ {Ca : Addr} {scope : Scope} {f : List Nat} {m : List (Addr × Mo)} {c : List (List Nat × Int)} {hx h' : Heap} {Px P' : Pm} {xp np ap pos p2 p3 p4 : Pos} {t : Nat} {Q : Value → Shared → Prop} {E : Value → Shared → Prop}, f ∈ dFiles l → c.length ≤ 1000 → PLe P₈ Px → PLe Px P' → 1 ≤ t → (cEnv scope (eLaw L a cd) Ca).kindOf "_modname" = some .globalImplicit → (ap.endLine == pos.line) = true → Frm S (cEnv scope (eLaw L a cd) Ca) [] hx Px ((ig, .is (CaO w c)) :: m) [("entry", .str f), ("reader", .ref x)] h' P' →
        (∀ v h'' P'' t', 1 ≤ t' → PLe P' P'' → Rep P'' (.int (ans ((dirsL l).map norm) c f (modn f))) v → Frm S (cEnv scope (eLaw L a cd) Ca) [] hx Px ((ig, .is (CaO w (cac ((dirsL l).map norm) c f (modn f)))) :: m) [("entry", .str f), ("reader", .ref x)] h'' P'' → Q v (stt s0 h'' t')) →
      wpAny (model pg w) A (eval (.Call (.Attribute (.Name "reader" xp) "names" ap) [.Name "entry" np, .Call (.Name "_modname" p2) [.Name "entry" p3] [] p4] [] pos) (cEnv scope (eLaw L a cd) Ca)) Q E (stt s0 h' t) := by
    intro Ca scope f m c hx h' Px P' xp np ap pos p2 p3 p4 t Q E hfm hcl hPx hP ht hkd hline F' q
    have hPP : PLe P₈ P' := fun b o e => hP b o (hPx b o e)
    have hfl := hfB f hfm
    exact go_names B Z.R Z.sep (rm.less (by decide)) F' rfl (hI.mono hPP) (hM.mono hPP) h2 hdn hdz hcl ht (nm F'.inn) (ev_call (sp_modname B fmd fbs fsx ffp fkd (by omega) (H.md f hfm)) (rm.less (by decide)) F'.inn hkd (by decide) (evl_cons' rfl (nm F'.inn) evl_nil) rfl) q (by decide) rfl rfl hline
  have hc0 : c00.length = 1 := rfl
  refine Xs.cons (x_comp (hx := hideAll h₈ [ig]) (n := [(Pl, .is TabP)]) (xs := (dFiles l).map .str) (fun i => [(ig, .is (CaO w (cch ((dirsL l).map norm) ((dFiles l).take i) c00)))]) (fun i => (anss ((dirsL l).map norm) ((dFiles l).take i) c00).map .int) [] [("reader", .ref x)] ⟨rfl, rfl, rfl, fun x hx => nomatch hx⟩ ⟨⟨rfl, .inl rfl, fun _ => .inl rfl, fun _ => rfl⟩, trivial⟩ F₈
    (fun b o e => hideAll_sub _ _ e) (fun b o hb e => (hideAll_ne _ [ig] hb).trans e) (hideAll_size _ _) (fun p hp => by cases List.mem_singleton.mp hp; exact hideAll_in _ _ (.head _)) rfl (fun p hp => by cases List.mem_singleton.mp hp; exact hig (n := [(Pl, .is TabP)]) F₈)
    (ibl_list hh (nm F₈.inn)) rfl (.inl rfl) (fun i _ => lineLe (by rw [List.length_map, anss_len, List.length_take]; omega)) rfl rfl rfl
    (ask (fun f hf => hf) (by omega) (fun _ _ e => e) fun Ca f m c h' P' t Q E hfm hcl hP ht F' q => cell1 hfm hcl (fun _ _ e => e) hP ht rfl rfl F' q) fun h₉ P₉ p₉ F₉ => ?_)
  have etk : (dFiles l).take ((dFiles l).map D.str).length = dFiles l := by rw [List.length_map, List.take_length]
  rw [etk] at F₉
  have haz : (anss ((dirsL l).map norm) (dFiles l) c00).length ≤ 12 := by rw [anss_len]; exact hfn
  -- no answer is a bool
  refine Xs.cons (x_if (b := false) F₉.refl' (Tst.cast (tcmp (d₁ := .lst (([] : List Int).map .int)) (Ev.cast (ev_comp (anss ((dirsL l).map norm) (dFiles l) c00) .int (fun _ => false) .int [] [] F₉ ⟨rfl, rfl, rfl, fun x hx => nomatch hx⟩ trivial (ibl_list hh (nm F₉.inn)) (.inl rfl) rfl (lineLe (by omega)) (fun y hy Ca hb Pb m h' P' F' => tsts_one (tpl (isInt B F'.inn (nm F'.inn)) tru_bool)) (fun y hy hb Ca hb' Pb m h' P' F' => nomatch hb)) (by simp)) ev_nil (op_neNilI rm)) rfl) (fun e => nomatch e) (fun _ h₁₀ P₁₀ g₁₀ => Xs.nil ?_))
  have F₁₀ := F₉.grow g₁₀
  have hsn : (stemsL l).length ≤ 12 := by unfold stemsL; rw [List.length_map]; exact hfn
  have hon : (outL l).length = (stemsL l).length := by unfold outL stemsL; rw [List.length_map, List.length_map]
  -- the answers
  refine Xs.cons (x_if (b := false) F₁₀.refl' (Tst.cast (tcmp (d₂ := .lst (((stemsL l).map fun s => if (outL l).getD ((stemsL l).findIdx (· == s)) false then (1 : Int) else 0).map .int)) (nm F₁₀.inn) (Ev.cast (ev_comp (stemsL l) .str (fun _ => true) (fun s => .int (if (outL l).getD ((stemsL l).findIdx (· == s)) false then 1 else 0)) [] [("out", .lst ((outL l).map .bool)), ("stems", .lst ((stemsL l).map .str))] F₁₀ ⟨rfl, rfl, rfl, fun x hx => nomatch hx⟩ ⟨⟨rfl, .inl rfl, fun _ => .inl rfl, fun _ => rfl⟩, ⟨rfl, .inl rfl, fun _ => .inl rfl, fun _ => rfl⟩, trivial⟩ (ibl_list hh (nm F₁₀.inn)) (.inl rfl) rfl (lineLe (by omega)) (fun y hy Ca hb Pb m h' P' F' => tsts_nil) (fun y hy hb Ca hb' Pb m h' P' F' => ?_)) (by rw [List.filter_eq_self.mpr (fun _ _ => rfl), List.map_map]; rfl)) (op_neLi rm)) (by rw [H.ans]; simp)) (fun e => nomatch e) (fun _ h₁₁ P₁₁ g₁₁ => Xs.nil ?_))
  · have hlt : (stemsL l).findIdx (· == y) < (outL l).length := by rw [hon]; exact List.findIdx_lt_length_of_exists ⟨y, hy, by simp⟩
    refine ev_ifexp (b := (outL l).getD ((stemsL l).findIdx (· == y)) false) (tpl (sub (nm F'.inn) (meth1 (nm F'.inn) mIndex (nm F'.inn) (c_index hy (by omega))) (op_itemL (d := .bool ((outL l).getD ((stemsL l).findIdx (· == y)) false)) (lineLe (by rw [List.length_map]; omega)) (by omega) (by rw [Int.toNat_natCast, List.getElem?_map, List.getD_eq_getElem?_getD, List.getElem?_eq_getElem hlt]; rfl))) tru_bool) (fun e => ?_) (fun e => ?_)
    · rw [e]; exact ev_int
    · rw [e]; exact ev_int
  have F₁₁ := F₁₀.grow g₁₁
  -- all once more
  have hfr : (dFiles l).reverse.length ≤ 12 := by rw [List.length_reverse]; exact hfn
  have hc1 := cch_len ((dirsL l).map norm) (dFiles l) c00
  have p₁₁ : PLe P₈ P₁₁ := fun b o e => g₁₁.ext b o (g₁₀.ext b o (p₉ b o e))
  have etr : (dFiles l).reverse.take ((dFiles l).reverse.map D.str).length = (dFiles l).reverse := by rw [List.length_map, List.take_length]
  refine Xs.cons (x_retCompEq (b := true) (d := .lst ((anss ((dirsL l).map norm) (dFiles l) c00).reverse.map .int)) (hx := hideAll h₁₁ [ig]) (n := [(Pl, .is TabP)]) (xs := (dFiles l).reverse.map .str) (fun i => [(ig, .is (CaO w (cch ((dirsL l).map norm) ((dFiles l).reverse.take i) (cch ((dirsL l).map norm) (dFiles l) c00))))]) (fun i => (anss ((dirsL l).map norm) ((dFiles l).reverse.take i) (cch ((dirsL l).map norm) (dFiles l) c00)).map .int) [] [("reader", .ref x)] ⟨rfl, rfl, rfl, fun x hx => nomatch hx⟩ ⟨⟨rfl, .inl rfl, fun _ => .inl rfl, fun _ => rfl⟩, trivial⟩ F₁₁
    (fun b o e => hideAll_sub _ _ e) (fun b o hb e => (hideAll_ne _ [ig] hb).trans e) (hideAll_size _ _) (fun p hp => by cases List.mem_singleton.mp hp; exact hideAll_in _ _ (.head _)) rfl (fun p hp => by cases List.mem_singleton.mp hp; exact hig (n := [(Pl, .is TabP)]) F₁₁)
    ((ibl_list hh (ev_rev (nm F₁₁.inn) hfz)).cast (by rw [List.map_reverse])) rfl (.inl rfl) (fun i _ => lineLe (by rw [List.length_map, anss_len, List.length_take]; omega)) rfl
    (ask (fun f hf => List.mem_reverse.mp hf) (by omega) p₁₁ fun Ca f m c h' P' t Q E hfm hcl hP ht F' q => cell1 hfm hcl p₁₁ hP ht rfl rfl F' q)
    (fun h' P' hP F' => Ev.cast (ev_rev (nm F'.inn) (lineLe (by rw [List.length_map]; omega))) (by rw [List.map_reverse])) ?_ fun h' P' hP F' => k h' P' ((F'.perm (List.Perm.swap ..)).forget.sub .nil))
  · rw [etr, H.rev]
    have := op_eqLi (w := w) (s0 := s0) rm (a := (anss ((dirsL l).map norm) (dFiles l) c00).reverse) (b := (anss ((dirsL l).map norm) (dFiles l) c00).reverse)
    rw [beq_self_eq_true] at this; exact this
end
end IK
end

/-! part H3 -/
section
open PySem PySem.W PyProof.Rows
set_option Elab.async false
set_option linter.unusedVariables false
set_option maxRecDepth 100000
namespace IK
section
variable {w : World} {s0 : Shared} {A : Around} {S : Sta} {env : Env} {ow : List Str} {h₀ h h' : Heap} {P₀ P P' : Pm} {n m : List (Addr × Mo)} {ρ : List (Str × D)} {d dx dy dz : D} {K : Flow → Heap → Prop}
/-- x, y, z = e, whatever the counter of tokens -/
theorem unpack3_0 {x y z : Str} {px py pz tpos pos : Pos} {k0 : Nat} {e : Expr} {t : Nat} {Q : Flow → Shared → Prop} {E : Value → Shared → Prop} (hh : A.handled = none) (F : Frm S env ow h₀ P₀ n ρ h P) (hx : env.kindOf x = some .local ∨ (env.kindOf x = some .cell ∧ x ∈ ow)) (hy : env.kindOf y = some .local ∨ (env.kindOf y = some .cell ∧ y ∈ ow))
    (hz : env.kindOf z = some .local ∨ (env.kindOf z = some .cell ∧ z ∈ ow))
    (he : ∀ (Q : Value → Shared → Prop) (E : Value → Shared → Prop), (∀ v h₁ P₁ t₁, 1 ≤ t₁ → Gr h P h₁ P₁ → Rep P₁ (.tup [dx, dy, dz]) v → Q v (stt s0 h₁ t₁)) → wpAny (model pg w) A (eval e env) Q E (stt s0 h t))
    (k : ∀ h' P' t', 1 ≤ t' → Frm S env ow h₀ P₀ n ((z, dz) :: (y, dy) :: (x, dx) :: ρ) h' P' → Q .next (stt s0 h' t'))
    (hs : swapsWithSole [.Tuple [.Name x px, .Name y py, .Name z pz] k0 tpos] e pos.line env = pure false) (hw : swappedStores [.Tuple [.Name x px, .Name y py, .Name z pz] k0 tpos] e env = pure none) :
    wpAny (model pg w) A (exec (.Assign [.Tuple [.Name x px, .Name y py, .Name z pz] k0 tpos] e pos) env) Q E (stt s0 h t) :=
  Assign_Tuple (he _ E fun v h₁ P₁ t₁ ht₁ g₁ r₁ => by
    rw [assign_Tuple]
    refine wpAny_bind (wpAny_standAt ?_)
    show wpAny (model pg w) A (do assignInOrder [assign (.Name x px) env, assign (.Name y py) env, assign (.Name z pz) env] (← holding [v] (unpackItems v 3 none))) _ E _
    refine wpAny_bind (wpAny_holding (go_unpack hh r₁ h₁ P₁ t₁ ht₁ (.refl g₁.snd) _ E fun vs h₂ P₂ t₂ ht₂ g₂ r₂ => ?_))
    obtain ⟨u, v', q', rfl, ru, rv, rq⟩ := r₂.three
    show wpAny (model pg w) A (do holding [v', q'] (assign (.Name x px) env u); holding [q'] (assign (.Name y py) env v'); holding [] (assign (.Name z pz) env q'); pure ()) _ E _
    refine wpAny_bind (wpAny_holding (wpAny_assign_Name (f_store (F.grow (g₁.trans g₂)) hx ru ht₂ fun h₃ t₃ ht₃ F₃ => ?_)))
    refine wpAny_bind (wpAny_holding (wpAny_assign_Name (f_store F₃ hy rv ht₃ fun h₄ t₄ ht₄ F₄ => ?_)))
    exact wpAny_bind (wpAny_holding (wpAny_assign_Name (f_store F₄ hz rq ht₄ fun h₅ t₅ ht₅ F₅ => wpAny_pure (k h₅ P₂ t₅ ht₅ F₅))))) hs hw
/-- a call of a def of one name, no cell, whatever the counter -/
theorem call1_0 {name x : Str} {st : Stmt} {a : Addr} {cd : Value} {v : Value} {k t : Nat} {R : Value → Heap → Pm → Prop} {Q : Value → Shared → Prop} {E : Value → Shared → Prop} (f : FnAt S name st a cd) (ok : DefOk st [x] []) (rm : Rm (k + 1) A)
    (base : ∀ b o, S.hb.get? b = some o → P b = some o) (hsnd : Snd P h) (r : Rep P d v) (hnc : ∀ y ∈ (scoOf st).names, y.2 ≠ .cell) (hxl : (scoOf st).names.lookup x = some .local)
    (hb : ∀ pm doc, bindArgs (Calls.docDef name (parOf st) (bodyOf st) (scoOf st) pm cd doc) ⟨[v], []⟩ = pure [(x, v)])
    (body : ∀ L h₂, Frm S (fenv name st L a cd) [] h P [] [(x, d)] h₂ P → Rm k (A.deeper (fenv name st L a cd)) →
      Xs w s0 (A.deeper (fenv name st L a cd)) (fenv name st L a cd) (bodyOf st) h₂ (fun fl h' => ∃ P', Gr h P h' P' ∧ R (match fl with | .ret v => v | _ => .none) h' P'))
    (q : ∀ v h' P' t', 1 ≤ t' → Gr h P h' P' → R v h' P' → Q v (stt s0 h' t')) : wpAny (model pg w) A (call (.ref a) [v]) Q E (stt s0 h t) := by
  obtain ⟨o, pm, doc, ho, hd⟩ := f.ob
  have top : ∀ b o, S.hb.get? b = some o → h.get? b = some o := fun b o e => hsnd b o (base b o e)
  have hcr : h.CodeRec cd name := by obtain ⟨c, oc, vs', tq, e1, e2, e3⟩ := f.cr; exact ⟨c, oc, vs', tq, e1, top _ _ e2, e3⟩
  refine wpAny_call (codeAny_call_function (s := stt s0 h t) rm.room (top _ _ ho) hd ok.co ok.gen rfl hcr ?_)
  rw [hb pm doc]
  have hcf : ∀ (l : List (Str × NameKind)) (i : Nat), (∀ y ∈ l, y.2 ≠ .cell) → cellsFrom i l [] = [] := fun l => by
    induction l with
    | nil => intro i _; rfl
    | cons y l ih =>
      intro i hy
      obtain ⟨yn, yk⟩ := y
      have h1 := hy _ (.head _)
      unfold cellsFrom
      rw [if_neg (by simpa using h1)]
      exact ih _ fun z hz => hy z (.tail _ hz)
  refine wpAny_pure (any_late (wpAny_newFunctionEnv hnc (fun y hy => by cases List.mem_singleton.mp hy; exact hxl) (fun h₂ ns hs => fun late => ?_) ok.fk))
  have hsz : h.objs.size ≤ h₂.objs.size := late.2
  have up : ∀ b o, h.get? b = some o → h₂.get? b = some o := fun b o e => (hs.2 b (Nat.ne_of_lt (Heap.lt_size e))).trans (Heap.get?_push_of_some _ e)
  have hee : newEnv (scoOf st) h.objs.size mainGlobals [] (name ++ ".<locals>.") (some a) cd none builtinsNs = fenv name st h.objs.size a cd := by
    show _ = newEnv (scoOf st) h.objs.size mainGlobals (cellsFrom (h.objs.size + 1) (scoOf st).names []) (name ++ ".<locals>.") (some a) cd none builtinsNs
    rw [hcf _ _ hnc]
  have F : Frm S (fenv name st h.objs.size a cd) [] h P [] [(x, d)] h₂ P := by
    refine ⟨.same hsnd up hsz, ⟨fun y d' e => ?_, base, fun b o e => up _ _ (hsnd b o e), ok.fk, rfl, rfl⟩, ⟨_, ns⟩, Nat.le_refl _, none_new hsnd (Nat.le_refl _), fun y hy => (nomatch hy), fun y c e => ?_, fun y z c e1 e2 => ?_, fun p hp => (nomatch hp), List.nodup_nil⟩
    · by_cases hyx : y = x
      · subst hyx
        rw [lookup_cons_eq e]
        refine ⟨v, r, .inl ⟨hxl, _, ns, ?_⟩⟩
        simp
      · have := lookup_cons_ne hyx e
        cases this
    · exfalso
      rw [show (fenv name st h.objs.size a cd).cells = cellsFrom (h.objs.size + 1) (scoOf st).names [] from rfl, hcf _ _ hnc] at e
      cases e
    · exfalso
      rw [show (fenv name st h.objs.size a cd).cells = cellsFrom (h.objs.size + 1) (scoOf st).names [] from rfl, hcf _ _ hnc] at e1
      cases e1
  dsimp only [Calls.docDef, stt]
  rw [hee]
  refine ⟨S.lim.keeps fun b o e => up _ _ (top b o e), codeAny_func ?_⟩
  refine wpAny_mono (body _ h₂ F (rm.deeper _) (t + 1) (Nat.succ_pos _) (fun fl s' => ∃ h' t', s' = stt s0 h' t' ∧ 1 ≤ t' ∧ ∃ P', Gr h P h' P' ∧ R (match fl with | .ret v => v | _ => .none) h' P') (fun _ _ => False) fun fl h' t' ht' y => ⟨h', t', rfl, ht', y⟩) (fun fl s' y => ?_) fun _ _ y => y.elim
  obtain ⟨h', t', rfl, ht', P', g', rr⟩ := y
  exact q _ h' P' t' ht' g' rr
theorem go_drawn0 {l : List Int} {np sp pos : Pos} {t : Nat} {Q : Value → Shared → Prop} {E : Value → Shared → Prop} (B : Bis S) {a : Addr} {cd : Value} (f : FnAt S "_law_drawn" (defAt 26) a cd) (rm : Rm 1 A) (hl : l.length ≤ 63) (F : Frm S env ow h₀ P₀ n ρ h P) (hx : ρ.lookup ("script" : Str) = some (.lst (l.map .int))) (hk : env.kindOf "_law_drawn" = some .globalImplicit)
    (q : ∀ v h₁ P₁ t₁, 1 ≤ t₁ → Gr h P h₁ P₁ → Rep P₁ (drD l) v → Q v (stt s0 h₁ t₁)) : wpAny (model pg w) A (eval (.Call (.Name "_law_drawn" np) [.Name "script" sp] [] pos) env) Q E (stt s0 h t) := by
  obtain ⟨o, pm, doc, ho, hd⟩ := f.ob
  have e : eval (.Call (.Name "_law_drawn" np) [.Name "script" sp] [] pos) env = (do callWith pos (← eval (.Name "_law_drawn" np) env) [] (backTo pos (starEach [.Name "script" sp] env)) (backToKw pos (keywordEach [] env))) := rfl
  rw [e]
  refine wpAny_bind (Calls.Name_function_global F.inn.fk hk (Calls.loadGlobal_global (F.inn.eg ▸ S.g.keeps F.inn.top) f.mg ?_) (by decide))
  refine Calls.callWith_function (o := o) (fd := Calls.docDef "_law_drawn" (parOf (defAt 26)) (bodyOf (defAt 26)) (scoOf (defAt 26)) pm cd doc) (evalArgs_any rfl ?_)
  show wpAny (model pg w) A (spliced ((false, eval (.Name "script" sp) env) :: [])) _ E _
  refine Calls.spliced_cons (wpAny_Name ?_ (by decide))
  obtain ⟨v, r, c⟩ := F.inn.loc _ _ hx
  have go : wpAny (model pg w) A (spliced []) (fun vs s₂ => (s₂.heap.get? a = some o ∧ o.data = .func (Calls.docDef "_law_drawn" (parOf (defAt 26)) (bodyOf (defAt 26)) (scoOf (defAt 26)) pm cd doc)) ∧ wpAny (model pg w) A (call (.ref a) ([] ++ (v :: vs)) []) Q E s₂) E (stt s0 h t) := by
    refine Calls.spliced_nil ⟨⟨F.inn.top _ _ ho, hd⟩, ?_⟩
    exact call1_0 (R := fun v h' P' => Rep P' (drD l) v) f ok_drawn rm F.inn.base F.inn.snd r (by decide) (by decide) (fun _ _ => rfl) (fun L h₂ F₂ rm' => body_drawn B hl rm' F₂ fun v h' P' g r => ⟨P', g, r⟩) q
  rcases c with ⟨a', m', n', e'⟩ | ⟨a', c', e', n'⟩
  · exact wpAny_loadName_local F.inn.fk a' n' e' go
  · rcases a' with a' | a'
    · exact wpAny_loadName_cell F.inn.fk a' e' n' go
    · exact wpAny_loadName_free F.inn.fk a' e' n' go (by decide)
variable {c Pl C N fI fN L a : Addr} {cd cI cN : Value} {mN : Str → Option Value}
/-- the law's whole body, whatever the counter of tokens -/
theorem law_whole (Z : LawAt w S c Pl C N fI fN cI cN mN) {l : List Int} {f0 : List (List Nat)} {gs : List (List (List Nat))} (H : PL l f0 gs) (hl : l.length ≤ 63) (rm : Rm 8 A) {t : Nat} {Q : Flow → Shared → Prop} {E : Value → Shared → Prop}
    (F : Frm S (eLaw L a cd) lawOw h₀ P₀ [(Pl, .is TabP)] [("script", .lst (l.map .int))] h P)
    (k : ∀ h' P' t', Frm S (eLaw L a cd) lawOw h₀ P₀ [(Pl, .is TabP)] [] h' P' → Q (.ret (.bool true)) (stt s0 h' t')) : wpAny (model pg w) A (execs (bodyOf (defAt 34)) (eLaw L a cd)) Q E (stt s0 h t) := by
  obtain ⟨ad, cdd, fd⟩ := Z.drawn
  have rest : ∀ h' P' t', 1 ≤ t' → Frm S (eLaw L a cd) lawOw h₀ P₀ [(Pl, .is TabP)] [("listed", .lst ((dFiles l).map .str)), ("due", .lst (told2 (dToks l))), ("wanted", .str (drPat l)), ("script", .lst (l.map .int))] h' P' → wpAny (model pg w) A (execs (bodyOf (defAt 34)).tail (eLaw L a cd)) Q E (stt s0 h' t') :=
    fun h' P' t' ht' F' => body_law Z H hl rm F' (K := fun fl h' => fl = .ret (.bool true) ∧ ∃ P', Frm S (eLaw L a cd) lawOw h₀ P₀ [(Pl, .is TabP)] [] h' P') (fun h' P' F'' => ⟨rfl, P', F''⟩) t' ht' Q E fun fl h'' t'' _ ⟨e, P'', F''⟩ => by subst e; exact k h'' P'' t'' F''
  refine wpAny_execs_cons (rest := (bodyOf (defAt 34)).tail) ?_
  refine unpack3_0 rm.hh F (.inl rfl) (.inr ⟨rfl, by decide⟩) (.inl rfl) (fun Q E q => go_drawn0 Z.X.B fd (rm.less (by decide)) hl F rfl rfl q) (fun h' P' t' ht' F' => rest h' P' t' ht' F') rfl rfl
theorem call_law (Z : LawAt w S c Pl C N fI fN cI cN mN) (f : FnAt S "law" (defAt 34) a cd) {l : List Int} {f0 : List (List Nat)} {gs : List (List (List Nat))} (H : PL l f0 gs) (hl : l.length ≤ 63) (rm : Rm 9 A) {t : Nat} {v : Value} {Q : Value → Shared → Prop} {E : Value → Shared → Prop}
    (hhb : S.hb = hideAll h [Pl]) (hP : P = fun b => S.hb.get? b) (hT : ∃ o, h.get? Pl = some o ∧ TabP o) (r : Rep P (.lst (l.map .int)) v)
    (q : ∀ h' t', (∀ b o, b ≠ Pl → h.get? b = some o → h'.get? b = some o) → (∃ o, h'.get? Pl = some o ∧ TabP o) → Q (.bool true) (stt s0 h' t')) : wpAny (model pg w) A (call (.ref a) [v]) Q E (stt s0 h t) := by
  obtain ⟨o, pm, doc, ho, hd⟩ := f.ob
  have base : ∀ b o, S.hb.get? b = some o → P b = some o := fun b o e => by rw [hP]; exact e
  have hsnd : Snd P h := fun b o e => by rw [hP] at e; simp only [hhb] at e; exact hideAll_sub _ _ e
  have top : ∀ b o, S.hb.get? b = some o → h.get? b = some o := fun b o e => hsnd b o (base b o e)
  have hcr : h.CodeRec cd "law" := by obtain ⟨c, oc, vs', tq, e1, e2, e3⟩ := f.cr; exact ⟨c, oc, vs', tq, e1, top _ _ e2, e3⟩
  have ok := ok_law
  refine wpAny_call (codeAny_call_function (s := stt s0 h t) rm.room (top _ _ ho) hd ok.co ok.gen rfl hcr ?_)
  have hb : bindArgs (Calls.docDef "law" (parOf (defAt 34)) (bodyOf (defAt 34)) (scoOf (defAt 34)) pm cd doc) ⟨[v], []⟩ = (pure [(Str.ofString "script", v)] : Sem (List (Str × Value))) := rfl
  rw [hb]
  refine wpAny_pure (any_late (wpAny_newFunctionEnv_cells ok.fk ?_ fun env he s₁ ic late => ?_))
  · intro x hx
    cases List.mem_singleton.mp hx
    exact .inr ⟨rfl, cellsFrom_some _ _ _ (.inl rfl)⟩
  · subst he
    obtain ⟨⟨⟨h₂, t₂, rfl⟩, ns, keep, fresh⟩, cell, apart, above⟩ := ic
    have hsz : h.objs.size ≤ h₂.objs.size := late.2
    have noneP : ∀ b, h.objs.size ≤ b → P b = none := fun b hb => none_new hsnd hb
    have szx : (hideAll h [Pl]).objs.size = h.objs.size := hideAll_size ..
    have gg : Gr (hideAll h [Pl]) P h₂ P := ⟨fun b o e => keep b o (hideAll_sub _ _ e), fun _ _ e => e, fun _ _ e => .inl e, fun b o e => keep b o (hsnd b o e), by rw [szx]; exact hsz⟩
    refine ⟨S.lim.keeps fun b o e => keep _ _ (top b o e), codeAny_func ?_⟩
    have F : Frm S (eLaw h.objs.size a cd) lawOw (hideAll h [Pl]) P [(Pl, .is TabP)] [("script", .lst (l.map .int))] h₂ P := by
      refine ⟨gg, ⟨fun x d e => ?_, base, gg.snd, ok.fk, rfl, rfl⟩, ⟨_, ns⟩, by rw [szx]; exact Nat.le_refl _, noneP _ (Nat.le_refl _), fun x hx => ?_, fun x c e => ?_, fun x y c e1 e2 => ?_, fun p hp => ?_, by simp⟩
      · by_cases hyx : x = "script"
        · subst hyx
          rw [lookup_cons_eq e]
          refine ⟨v, r, ?_⟩
          obtain ⟨c, hc⟩ := Option.isSome_iff_exists.mp (cellsFrom_some (x := "script") (scoOf (defAt 34)).names (h.objs.size + 1) [] (.inl rfl))
          have := cell "script" c hc
          rw [bindC_in [("script", v)] (fun _ => none) (by simp) rfl rfl] at this
          exact .inr ⟨.inl rfl, c, hc, this⟩
        · have := lookup_cons_ne hyx e
          cases this
      · obtain ⟨c, hc⟩ := Option.isSome_iff_exists.mp (cellsFrom_some (x := x) (scoOf (defAt 34)).names (h.objs.size + 1) [] (.inl (ok.cells x hx)))
        have hlt : h.objs.size ≤ c := Nat.le_of_lt (above x c (mem_of_lookup hc))
        exact ⟨c, hc, ok.cells x hx, ⟨_, cell x c hc⟩, by rw [szx]; exact hlt, noneP _ hlt⟩
      · exact ⟨Nat.ne_of_gt (above x c (mem_of_lookup e)), (cell x c e).lt⟩
      · exact name_of_addr apart (mem_of_lookup e1) (mem_of_lookup e2)
      · cases List.mem_singleton.mp hp
        obtain ⟨o, eo, ro⟩ := hT
        have hlt : Pl < h.objs.size := Heap.lt_size eo
        refine ⟨⟨o, keep _ _ eo, ro⟩, hideAll_in _ _ (.head _), ?_, Nat.ne_of_lt hlt, fun x c e => Nat.ne_of_gt (Nat.lt_trans hlt (above x c (mem_of_lookup e)))⟩
        rw [hP]; simp only [hhb]; exact hideAll_in _ _ (.head _)
    refine wpAny_mono (law_whole Z H hl (rm.deeper _) F (t := t₂) (Q := fun fl s' => fl = .ret (.bool true) ∧ ∃ h' t', s' = stt s0 h' t' ∧ (∀ b o, b ≠ Pl → h.get? b = some o → h'.get? b = some o) ∧ ∃ o, h'.get? Pl = some o ∧ TabP o) (E := fun _ _ => False) fun h' P' t' F' => ⟨rfl, h', t', rfl, fun b o hb e => F'.gr.up b o (by rw [hideAll_ne _ _ (by simpa using hb)]; exact e), (F'.led _ (.head _)).1⟩) (fun fl s' y => ?_) fun _ _ y => y.elim
    obtain ⟨rfl, h', t', rfl, y1, y2⟩ := y
    exact q h' t' y1 y2
end
end IK
end

/-! part H4 -/
section
open PySem PySem.W PyProof.Rows
set_option Elab.async false
set_option linter.unusedVariables false
set_option maxRecDepth 1000000
namespace IK
/-! what stands on the heap when the law is called -/
section
variable {w : World} {s₀ : Shared} {mg mb : Str → Option Value} {h : Heap} {Pl : Addr}
theorem ne_tab {b : Addr} {o : Obj} (hP : h.get? Pl = some { cls := .none, data := .fields #[] }) (e : h.get? b = some o) (hd : o.data ≠ .fields #[]) : b ≠ Pl := by
  rintro rfl
  rw [hP] at e
  cases e
  exact hd rfl
theorem hid {b : Addr} {o : Obj} (hP : h.get? Pl = some { cls := .none, data := .fields #[] }) (e : h.get? b = some o) (hd : o.data ≠ .fields #[]) : (hideAll h [Pl]).get? b = some o :=
  (hideAll_ne h [Pl] (by simpa using ne_tab hP e hd)).trans e
theorem hid_ns {b : Addr} {m : Str → Option Value} (hP : h.get? Pl = some { cls := .none, data := .fields #[] }) (x : h.Ns b m) : (hideAll h [Pl]).Ns b m :=
  let ⟨o, es, ep, e, r⟩ := x; ⟨o, es, ep, hid hP e (by rw [r.1]; nofun), r⟩
theorem hid_code {cd : Value} {q : Str} (hP : h.get? Pl = some { cls := .none, data := .fields #[] }) (x : h.CodeRec cd q) : (hideAll h [Pl]).CodeRec cd q := by
  obtain ⟨c, o, vs, t, e1, e2, e3, e4⟩ := x
  exact ⟨c, o, vs, t, e1, hid hP e2 (by rw [e3]; intro q; injection q with q; subst q; cases e4), e3, e4⟩
theorem mg_is (g : h.Ns mainGlobals mg) (X : (kfr w.params).In h) (x : Str) : mg x = nsFind (es3 w.params) x := by
  obtain ⟨o, es, ep, e1, e2, _, e3⟩ := g
  have : h.get? 3 = some (ob3 w.params) := X 3 _ rfl
  rw [show h.get? mainGlobals = some (ob3 w.params) from this] at e1
  cases e1
  injection e2 with e2 e4
  rw [← e3 x, ← e2]
theorem memK : ∀ {K : Frag} {a : Addr} {o : Obj}, K.lookup a = some o → (a, o) ∈ K
  | [], _, _, e => nomatch e
  | (b, x) :: r, a, o, e => by
    rw [List.lookup_cons] at e
    split at e
    · rename_i q
      cases e
      rw [show a = b by simpa using q]
      exact .head _
    · exact .tail _ (memK e)
theorem kfr_data {P : Params} {a : Addr} {o : Obj} (e : (kfr P).lookup a = some o) : o.data ≠ .fields #[] := by
  have : ∀ p ∈ kfr P, p.2.data ≠ .fields #[] := by
    intro p hp
    simp only [kfr, List.mem_cons, List.not_mem_nil, or_false] at hp
    rcases hp with rfl | rfl | rfl | rfl | rfl | rfl | rfl | rfl | rfl | rfl | rfl <;> nofun
  exact this (a, o) (memK e)
theorem hid_K (hP : h.get? Pl = some { cls := .none, data := .fields #[] }) (X : (kfr w.params).In h) : (kfr w.params).In (hideAll h [Pl]) :=
  fun a o e => hid hP (X a o e) (kfr_data e)
noncomputable abbrev stOf (TP : Top vw (looseW vw lse) (ExcName.means s₀.heap) mg mb h) (hP : h.get? Pl = some { cls := .none, data := .fields #[] }) : Sta :=
  { hb := hideAll h [Pl], mg := mg, mb := mb, g := hid_ns hP TP.g, b := hid_ns hP TP.b, lim := let ⟨mc, a, b⟩ := TP.nolimit; ⟨mc, hid_ns hP a, b⟩ }
variable (TP : Top vw (looseW vw lse) (ExcName.means s₀.heap) mg mb h) (hP : h.get? Pl = some { cls := .none, data := .fields #[] })
theorem fn_at (i : Nat) (name : Str) (n : Nat) (e : ((recsOf vw)[i]?).map (fun d => (d.name, d.params, d.body, d.scope)) = some (name, parOf (defAt n), bodyOf (defAt n), scoOf (defAt n))) : ∃ a cd, FnAt (stOf TP hP) name (defAt n) a cd := by
  obtain ⟨⟨nm, pr, bd, sc, pos⟩, e1, e2⟩ := Option.map_eq_some_iff.mp e
  injection e2 with e2 e3; injection e3 with e3 e4; injection e4 with e4 e5
  subst e2 e3 e4 e5
  obtain ⟨a, o, pm, code, doc, h1, h2, h3, h4⟩ := TP.fn _ (List.mem_of_getElem? e1)
  exact ⟨a, code, h1, ⟨o, pm, doc, hid hP h2 (by rw [h3]; nofun), h3⟩, hid_code hP h4⟩
theorem fn_any (X : (kfr w.params).In h) : Bis (stOf TP hP) := by
  constructor
  · intro x hx
    refine ⟨(mg_is TP.g X _).trans ?_, (TP.builtins _ ?_).trans ?_⟩
    all_goals
      simp only [List.mem_cons, List.not_mem_nil, or_false] at hx
      rcases hx with rfl | rfl | rfl | rfl | rfl
    all_goals first | kernel_rfl | decide
  · intro x hx
    refine ⟨(mg_is TP.g X _).trans ?_, (TP.builtins _ ?_).trans ?_⟩
    all_goals
      simp only [List.mem_cons, List.not_mem_nil, or_false] at hx
      rcases hx with rfl | rfl | rfl | rfl | rfl | rfl | rfl | rfl | rfl | rfl | rfl | rfl
    all_goals first | kernel_rfl | decide
theorem re_any (X : (kfr w.params).In h) : ReAt (stOf TP hP) 43 42 #[.str (Str.ofString "([&~|])") 292, .int 32 327, .int 1 0, .none, .none, .ref 42, .int 0 0] := by
  have X' := hid_K hP X
  have e43 : (hideAll h [Pl]).get? 43 = some ob43 := X' 43 _ rfl
  refine ⟨(mg_is TP.g X _).trans (by kernel_rfl), ⟨⟨ob43, e43, rfl, rfl⟩, ⟨ob42, 0, X' 42 _ rfl, by kernel_rfl⟩, rfl, by kernel_rfl⟩, fun o e => ?_, by kernel_rfl⟩
  rw [show (stOf TP hP).hb.get? 43 = some ob43 from e43] at e
  cases e; rfl
noncomputable def okE (e : DictEntry) : Bool := match e.key with | .int i _ => (e.hash == hashInt i) && spec.any fun (c : Nat) => decide ((c : Int) = i) | _ => false
noncomputable def okS (c : Nat) : Bool := match findBy Value.isInt es52 (c : Int) with | some (.str s _) => s == T [92, c] | _ => false
theorem esc_any (X : (kfr w.params).In h) : EscAt w (stOf TP hP) 52 := by
  have X' := hid_K hP X
  have h1 : es52.toList.all okE = true := by decide +kernel
  have h2 : spec.all okS = true := by decide +kernel
  refine ⟨(mg_is TP.g X _).trans (by kernel_rfl), by decide, _, ⟨ob52, es52, 24, X' 52 _ rfl, ⟨rfl, rfl, rfl⟩, rfl, fun e he => ?_, fun _ => rfl⟩, fun c hc => ?_, fun c hc => ?_⟩
  · have := List.all_eq_true.mp h1 e (Array.mem_toList_iff.mpr he)
    obtain ⟨hs, k, v⟩ := e
    unfold okE at this
    dsimp only at this
    split at this
    · rename_i i t
      exact ⟨i, by show (i == i) = true; simp, eq_of_beq (Bool.and_eq_true_iff.mp this).1⟩
    · cases this
  · have := List.all_eq_true.mp h2 c hc
    unfold okS at this
    split at this
    · rename_i s u e
      exact ⟨u, by rw [show s = T [92, c] by simpa using this] at e; exact e⟩
    · cases this
  · show (es52.find? fun e => Value.isInt (c : Int) e.key).map (·.val) = none
    rw [Option.map_eq_none_iff, Array.find?_eq_none]
    intro e he hi
    have := List.all_eq_true.mp h1 e (Array.mem_toList_iff.mpr he)
    obtain ⟨hs, k, v⟩ := e
    unfold okE at this
    dsimp only at this hi
    split at this
    · rename_i i t
      obtain ⟨c', hc', e'⟩ := List.any_eq_true.mp (Bool.and_eq_true_iff.mp this).2
      have e1 : (c' : Int) = i := of_decide_eq_true e'
      have e2 : i = (c : Int) := by simpa [Value.isInt] using hi
      have : c' = c := by omega
      exact hc (this ▸ hc')
    · cases this
theorem meth_any (X : (kfr w.params).In h) : MethAt (stOf TP hP) "_Ignore.__init__" (mthAt 0) 152 (.ref 151) ∧ MethAt (stOf TP hP) "_Ignore.names" (mthAt 1) 159 (.ref 158) := by
  have X' := hid_K hP X
  exact ⟨⟨⟨ob152, _, X' 152 _ rfl, rfl, rfl, ⟨rfl, rfl, rfl, rfl, rfl, rfl, rfl⟩, rfl, rfl, .inr ⟨147, ob147, rfl, X' 147 _ rfl, 0, rfl⟩⟩, ⟨151, ob151, _, 636, rfl, X' 151 _ rfl, rfl, rfl⟩⟩,
    ⟨⟨ob159, _, X' 159 _ rfl, rfl, rfl, ⟨rfl, rfl, rfl, rfl, rfl, rfl, rfl⟩, rfl, rfl, .inl rfl⟩, ⟨158, ob158, _, 642, rfl, X' 158 _ rfl, rfl, rfl⟩⟩⟩
theorem rd_any (X : (kfr w.params).In h) : RdC w (stOf TP hP) 162 161 152 159 (.ref 151) (.ref 158) (nsFind (es161 w.params)) := by
  have X' := hid_K hP X
  obtain ⟨m0, m1⟩ := meth_any TP hP X
  refine ⟨(mg_is TP.g X _).trans (by kernel_rfl), ⟨⟨Str.ofString "_Ignore", Str.ofString "_Ignore", [.type "object"], [], [], none, none, none, none, some (.str (Str.ofString "_Ignore") 623), some (.str (Str.ofString "_Ignore") 631), some (.bool true), X' 162 _ rfl⟩, ⟨ob161 w.params, es161 w.params, 4, X' 161 _ rfl, rfl, fun e he => ?_, fun _ => rfl⟩⟩, by kernel_rfl, by kernel_rfl, fun x hx => ?_, m0, m1, fun h' k => makes_of (K := kfr w.params) (fun a o e => k a o (X' a o e)) (by kernel_rfl)⟩
  · simp only [es161, ent, List.mem_toArray, List.mem_cons, List.not_mem_nil, or_false] at he
    rcases he with rfl | rfl | rfl | rfl | rfl | rfl | rfl | rfl <;> exact ⟨_, _, rfl⟩
  · simp only [rdNames, List.mem_cons, List.not_mem_nil, or_false] at hx
    rcases hx with rfl | rfl | rfl | rfl | rfl | rfl <;> kernel_rfl
end
end IK
end

/-! part H5 -/
section
open PySem PySem.W PyProof.Rows
set_option Elab.async false
set_option linter.unusedVariables false
set_option maxRecDepth 1000000
namespace IK
section
variable {w : World} {s₀ : Shared} {mg mb : Str → Option Value} {h : Heap} {Pl : Addr}
theorem code_any (TP : Top vw (looseW vw lse) (ExcName.means s₀.heap) mg mb h) (hP : h.get? Pl = some { cls := .none, data := .fields #[] }) {c : Addr} (hI : h.IsCode c Pl #[]) (hT : h.TableAt c Pl #[]) : CodeSt (stOf TP hP) c Pl := by
  obtain ⟨o, vs, file, tf, flags, tg, inF, text, tt, op, a, r1, r2, r3, r4, r5, r6, b, b1, b2, b3⟩ := hI
  obtain ⟨⟨o', vs', a', q1, q2, q3⟩, _⟩ := hT
  rw [a] at a'; cases a'
  rw [r1] at q2; cases q2
  obtain ⟨bm, ob, e1, e2, e3, e4, e5, e6⟩ := TP.bmain
  refine ⟨⟨o, vs, file, tf, flags, tg, inF, text, tt, hid hP a ?_, q1, r1, r2, q3, r3, r4, r5, r6⟩, b3, bm, ob, e1, e2, hid hP e3 (by rw [e6]; nofun), e4, e5, e6⟩
  rw [r1]; intro q; injection q with q; subst q; cases q3
theorem law_at (TP : Top vw (looseW vw lse) (ExcName.means s₀.heap) mg mb h) (X : (kfr w.params).In h) : ∃ (S : Sta) (c Pl a : Addr) (cd : Value), S.hb = hideAll h [Pl] ∧ h.get? Pl = some { cls := .none, data := .fields #[] } ∧ isCodeTable h Pl ∧
    LawAt w S c Pl 162 161 152 159 (.ref 151) (.ref 158) (nsFind (es161 w.params)) ∧ FnAt S "law" (defAt 34) a cd ∧ mg "law" = some (.ref a) := by
  have hrec : ∃ d, d ∈ recsOf vw ∧ d.name = Str.ofString "_translate" := by
    have e : ((recsOf vw)[3]?).map (·.name) = some (Str.ofString "_translate") := by kernel_rfl
    obtain ⟨d, e1, e2⟩ := Option.map_eq_some_iff.mp e
    exact ⟨d, List.mem_of_getElem? e1, e2⟩
  obtain ⟨d, hd, hdn⟩ := hrec
  obtain ⟨a9, o9, fd9, c, Pl, h1, h2, h3, h4, h5, h6⟩ := TP.tab d hd
  rw [hdn] at h1
  have hP := h6.2
  obtain ⟨aT, cT, fT⟩ := fn_at TP hP 3 "_translate" 9 (by kernel_rfl)
  have ft : FnAt (stOf TP hP) "_translate" (defAt 9) aT (.ref c) := by
    obtain ⟨o, pm, doc, e1, e2⟩ := fT.ob
    have := fT.mg
    rw [show (stOf TP hP).mg "_translate" = some (.ref a9) from h1] at this
    cases this
    have e3 := hideAll_sub _ _ e1
    rw [h2] at e3; cases e3
    rw [h3] at e2
    injection e2 with e2
    have : fd9.code = cT := by rw [e2]; rfl
    rw [h4] at this
    rw [this]; exact fT
  obtain ⟨aL, cL, fL⟩ := fn_at TP hP 23 "law" 34 (by kernel_rfl)
  refine ⟨stOf TP hP, c, Pl, aL, cL, rfl, hP, h6.isCodeTable, ?_, fL, fL.mg⟩
  exact {
    X := { B := fn_any TP hP X, re := ⟨_, _, _, re_any TP hP X⟩, map := ⟨_, esc_any TP hP X⟩, fe := fn_at TP hP 2 _ 7 (by kernel_rfl), ft := ⟨aT, ft⟩, fj := fn_at TP hP 4 _ 10 (by kernel_rfl), code := code_any TP hP h5 h6 }
    ftr := fn_at TP hP 1 _ 4 (by kernel_rfl)
    drawn := fn_at TP hP 15 _ 26 (by kernel_rfl)
    takes := fn_at TP hP 16 _ 27 (by kernel_rfl)
    read := fn_at TP hP 17 _ 28 (by kernel_rfl)
    items := fn_at TP hP 18 _ 29 (by kernel_rfl)
    rows := fn_at TP hP 19 _ 30 (by kernel_rfl)
    mats := fn_at TP hP 20 _ 31 (by kernel_rfl)
    crook := fn_at TP hP 21 _ 32 (by kernel_rfl)
    stem := fn_at TP hP 22 _ 33 (by kernel_rfl)
    modn := fn_at TP hP 14 _ 24 (by kernel_rfl)
    base := fn_at TP hP 11 _ 19 (by kernel_rfl)
    splx := fn_at TP hP 7 _ 15 (by kernel_rfl)
    fsp := fn_at TP hP 6 _ 14 (by kernel_rfl)
    R := rd_any TP hP X
    J := ⟨fn_at TP hP 13 _ 21 (by kernel_rfl), fn_at TP hP 8 _ 16 (by kernel_rfl), fn_at TP hP 5 _ 13 (by kernel_rfl), fn_at TP hP 12 _ 20 (by kernel_rfl), fn_at TP hP 10 _ 18 (by kernel_rfl), fn_at TP hP 9 _ 17 (by kernel_rfl)⟩
    sep := ⟨_, (mg_is TP.g X _).trans (by rfl)⟩ }
end
end IK
end

/-! part H6 -/
section
open PySem PySem.W PyProof.Rows
set_option Elab.async false
set_option linter.unusedVariables false
set_option maxRecDepth 1000000
set_option maxHeartbeats 8000000
namespace IK
theorem well_ints {P : Params} {h : Heap} {Pm' : Pm} : ∀ {l : List Int} {vs : List Value}, WellAll P h vs (l.map .int) → RepL Pm' (l.map D.int) vs
  | [], _, .nil => rfl
  | x :: r, _, .cons a b => by
    cases a with
    | int i t => exact ⟨_, _, rfl, ⟨t, rfl⟩, well_ints b⟩
theorem ints_of {R : WRecords} : ∀ {xs : List WData}, WShape.hasItems R xs .int = true → ∃ l : List Int, xs = l.map .int
  | [], _ => ⟨[], rfl⟩
  | d :: r, x => by
    have x' : WShape.has R d .int = true ∧ WShape.hasItems R r .int = true := by simpa [WShape.hasItems] using x
    obtain ⟨i, rfl⟩ := hasW_int x'.1
    obtain ⟨l, rfl⟩ := ints_of x'.2
    exact ⟨i :: l, rfl⟩
theorem args_of {args : List WData} (x : PySem.Challenge.rw_ik0035_01.row.claim.pre args = true) : ∃ l : List Int, args = [.list (l.map .int)] ∧ l.length ≤ 63 := by
  obtain ⟨x, y⟩ := pre_splitW (r := PySem.Challenge.rw_ik0035_01.row.toRowW) x
  obtain ⟨d, r, rfl, x1, x2⟩ := hasAllW_cons x
  cases hasAllW_nil x2
  obtain ⟨xs, rfl, x3⟩ := hasW_list x1
  obtain ⟨l, rfl⟩ := ints_of x3
  refine ⟨l, rfl, ?_⟩
  by_cases hl : l.length ≤ 63
  · exact hl
  · exfalso
    have e : (63 : Int) < ((l.map WData.int).length : Int) := by rw [List.length_map]; omega
    have : (WTm.value [] (.and (.not (.lt (.lit (.int 63)) (.len (.arg 0)))) (.lit (.bool true))) { args := [.list (l.map .int)] } : Option WData) = some (.bool false) := by
      simp [WTm.value, less?, Num.less?]
      rw [show decide ((63 : Int) < (l.length : Int)) = true from decide_eq_true (by omega)]
      rfl
    have y' : (match (WTm.value [] (.and (.not (.lt (.lit (.int 63)) (.len (.arg 0)))) (.lit (.bool true))) { args := [.list (l.map .int)] } : Option WData) with | some (.bool true) => true | _ => false) = true := y
    rw [this] at y'
    cases y'
theorem post_ok (args ds : List WData) : PySem.Challenge.rw_ik0035_01.row.claim.post args (.bool true) ds = true := by
  have e : same (.bool true) (.bool true) = true := by decide +kernel
  have e2 : WShape.has [] (.bool true) .bool = true := by decide +kernel
  show (WShape.has [] (.bool true) .bool && WTm.holds [] (.eq .res (.lit (.bool true))) { args := args, res := some (.bool true), after := ds }) = true
  rw [e2]
  simp only [WTm.holds, WTm.value, e, Bool.true_and]
theorem caller_rm : Rm 9 callerA := ⟨rfl, by decide, by decide⟩
theorem top (plain : ∀ l : List Int, l.length ≤ 63 → ∃ f0 gs, PL l f0 gs) : PySem.Challenge.rw_ik0035_01.Holds := by
  refine holds_law wellSaid fun said => ?_
  refine holds_open (q := vw) (loose := lse) (Xt := seenX) (XP := XL vw []) (Yf := Hook.obs kH) (Ya := Hook.val kH) (YP := Hook.says kH) (N := 4902) left (Hook.of kH) (Hook.keeps kH) (fun s e => xl_of s (Bool.and_eq_true_iff.mp e).1) XL.keeps (by rfl) (by rfl) (by rfl) (fun s e => recFacts_of (Bool.and_eq_true_iff.mp e).2) (by rfl) said (by decide +kernel) ⟨rfl, rfl, rfl, rfl, rfl, by decide +kernel⟩ ?hw ?hc
  case hw => exact ⟨[.list []], by decide +kernel, by decide +kernel⟩
  case hc =>
    intro w s₀ s₁ mg mb G Y fa o pm cd doc dV kV ho hd hcd hD hmg hg args vals as hpre hlay hrd hwl hlo
    clear hd hD
    obtain ⟨S, c, Pl, a, cL, hb, hP, hTab, Z, fL, hmL⟩ := law_at G.T (kIn_of Y)
    have ea : fa = a := by rw [show mg (Str.ofString "law") = some (.ref fa) from hmg] at hmL; cases hmL; rfl
    subst ea
    obtain ⟨l, rfl, hl⟩ := args_of hpre
    obtain ⟨f0, gs, H⟩ := plain l hl
    cases hwl with
    | cons wa wn =>
      cases wn
      cases wa with
      | list ea wx =>
        rename_i b vs
        have hbne : b ≠ Pl := ne_tab hP ea nofun
        have hr : Rep (fun b => S.hb.get? b) (.lst (l.map .int)) (.ref b) := ⟨b, _, vs, rfl, by show S.hb.get? b = _; rw [hb]; exact hid hP ea nofun, ⟨_, rfl⟩, well_ints wx⟩
        show wpAny (model pg w) callerA (call (.ref fa) [.ref b]) _ _ s₁
        refine call_law (s0 := s₁) (h := s₁.heap) (t := s₁.toks) (P := fun b => S.hb.get? b) Z fL H hl caller_rm hb rfl ⟨_, hP, #[], rfl, trivial⟩ hr fun h' t' keep tab => ?_
        refine ⟨.inl ⟨_, .bool true, [], rfl, fun _ => rfl, .bool true, post_ok _ _, fun _ => ⟨.nil, fun a ha => nomatch ha⟩⟩, ⟨fun b' o' e => ?_, fun b' o' e => ?_⟩, rfl, ?_⟩
        · by_cases hq : b' = Pl
          · subst hq
            rw [hP] at e; cases e
            obtain ⟨o2, e2, ps, rfl, _⟩ := tab
            exact .inr (.inl ⟨hTab, rfl, #[], ps, rfl, by show h'.get? b' = _; rw [e2]; simp⟩)
          · exact .inl (keep b' o' hq e)
        · by_cases hq : b' = Pl
          · subst hq
            obtain ⟨o2, e2, _⟩ := tab
            exact ⟨o2, e2⟩
          · exact ⟨o', keep b' o' hq e⟩
        · exact .of_eq hg
end IK
end

/-! part L1 -/
section
open PySem PySem.W PyProof.Rows
set_option Elab.async false
set_option linter.unusedVariables false
namespace IK
/-! the plain law, 1: tokens cut at the stars -/
noncomputable def txt : Tk → List Nat
  | .quest => [46] | .lit c => esc c | .set c => if c = 91 then [91, 92, 91, 93] else [91, c, 93] | .notA => [91, 94, 97, 93] | .star => []
noncomputable def itm1 : Tk → Bool × List Nat
  | .quest => (true, []) | .lit c => (false, [c]) | .set c => (false, [c]) | .notA => (true, [97]) | .star => (false, [])
noncomputable abbrev StG := List (List Tk) × List Tk
noncomputable def stp (s : StG) (k : Tk) : StG := match k with
  | .star => if s.2 = [] ∧ s.1 ≠ [] then s else (s.1 ++ [s.2], [])
  | k => (s.1, s.2 ++ [k])
noncomputable def cutT (ts : List Tk) : StG := ts.foldl stp ([], [])
theorem stp_star (s : StG) : stp s .star = if s.2 = [] ∧ s.1 ≠ [] then s else (s.1 ++ [s.2], []) := rfl
theorem stp_ne {k : Tk} (s : StG) (h : k ≠ .star) : stp s k = (s.1, s.2 ++ [k]) := by cases k <;> first | exact absurd rfl h | rfl
/-- the list of parts at a state -/
noncomputable def lstG (s : StG) : List (Option (List Nat)) := s.1.flatMap (fun g => g.map (fun k => some (txt k)) ++ [none]) ++ s.2.map fun k => some (txt k)
theorem push_ne {k : Tk} (res : List (Option (List Nat))) (h : k ≠ .star) : pushT res k = res ++ [some (txt k)] := by cases k <;> first | exact absurd rfl h | rfl
theorem lstG_last (s : StG) : (lstG s).getLast? = some none ↔ s.2 = [] ∧ s.1 ≠ [] := by
  obtain ⟨ds, c⟩ := s
  unfold lstG
  rcases List.eq_nil_or_concat c with rfl | ⟨c', k, rfl⟩
  · rcases List.eq_nil_or_concat ds with rfl | ⟨ds', g, rfl⟩
    · simp
    · simp
  · simp [List.concat_eq_append]
theorem push_stp (s : StG) (k : Tk) : pushT (lstG s) k = lstG (stp s k) := by
  by_cases h : k = .star
  · subst h
    rw [stp_star]
    show (if (lstG s).getLast? = some none then lstG s else lstG s ++ [none]) = _
    by_cases hq : s.2 = [] ∧ s.1 ≠ []
    · rw [if_pos hq, if_pos ((lstG_last s).mpr hq)]
    · rw [if_neg hq, if_neg (fun e => hq ((lstG_last s).mp e))]
      unfold lstG
      simp
  · rw [stp_ne s h, push_ne _ h]
    unfold lstG
    simp
theorem push_cut : ∀ (ts : List Tk) (s : StG), ts.foldl pushT (lstG s) = lstG (ts.foldl stp s)
  | [], s => rfl
  | k :: ts, s => by rw [List.foldl_cons, List.foldl_cons, push_stp, push_cut ts]
/-- groups behind the first are not empty; tokens kept -/
structure GInv (p : Tk → Prop) (n : Nat) (s : StG) : Prop where
  ne : ∀ g ∈ s.1.tail, g ≠ []
  ok : ∀ g ∈ s.1, ∀ k ∈ g, p k ∧ k ≠ .star
  okc : ∀ k ∈ s.2, p k ∧ k ≠ .star
  len : s.1.length + s.1.flatten.length + s.2.length ≤ n
theorem GInv.step {p : Tk → Prop} {n : Nat} {s : StG} (x : GInv p n s) {k : Tk} (hk : p k) : GInv p (n + 1) (stp s k) := by
  obtain ⟨ds, c⟩ := s
  obtain ⟨h1, h2, h3, h4⟩ := x
  by_cases h : k = .star
  · subst h
    rw [stp_star]
    by_cases hq : (ds, c).2 = [] ∧ (ds, c).1 ≠ []
    · rw [if_pos hq]; exact ⟨h1, h2, h3, by omega⟩
    · rw [if_neg hq]
      refine ⟨fun g hg => ?_, fun g hg => ?_, fun k hk => absurd hk (by simp), ?_⟩
      · cases ds with
        | nil => simp at hg
        | cons d ds =>
          simp only [List.cons_append, List.tail_cons, List.mem_append, List.mem_singleton] at hg
          rcases hg with hg | rfl
          · exact h1 g hg
          · exact fun e => hq ⟨e, by simp⟩
      · rcases List.mem_append.mp hg with hg | hg
        · exact h2 g hg
        · cases List.mem_singleton.mp hg; exact h3
      · simp only [List.length_append, List.length_singleton, List.flatten_append, List.flatten_cons, List.flatten_nil, List.append_nil, List.length_nil] at h4 ⊢
        omega
  · rw [stp_ne _ h]
    refine ⟨h1, h2, fun k' hk' => ?_, ?_⟩
    · rcases List.mem_append.mp hk' with hk' | hk'
      · exact h3 k' hk'
      · cases List.mem_singleton.mp hk'; exact ⟨hk, h⟩
    · simp only [List.length_append, List.length_singleton] at h4 ⊢; omega
theorem GInv.all {p : Tk → Prop} : ∀ (ts : List Tk) {n : Nat} {s : StG}, GInv p n s → (∀ k ∈ ts, p k) → GInv p (n + ts.length) (ts.foldl stp s)
  | [], _, _, x, _ => x
  | k :: ts, n, s, x, h => by
    have := GInv.all ts (x.step (h k (.head _))) fun k hk => h k (.tail _ hk)
    rw [List.foldl_cons, List.length_cons, show n + (ts.length + 1) = n + 1 + ts.length by omega]
    exact this
theorem ginv_cut {p : Tk → Prop} {ts : List Tk} (h : ∀ k ∈ ts, p k) : GInv p ts.length (cutT ts) := by
  have := GInv.all (p := p) ts (n := 0) (s := ([], [])) ⟨fun g hg => absurd hg (by simp), fun g hg => absurd hg (by simp), fun k hk => absurd hk (by simp), Nat.le_refl _⟩ h
  rwa [Nat.zero_add] at this
theorem tl_eq (gs : List (List (List Nat))) : ([none] : List (Option (List Nat))) ++ gs.flatMap (fun g => g.map some ++ [none]) = tl gs := by
  unfold tl
  induction gs with
  | nil => rfl
  | cons g gs ih =>
    simp only [List.flatMap_cons, List.append_assoc, List.cons_append] at ih ⊢
    simp only [List.nil_append] at ih ⊢
    rw [← ih]
/-- a text that ends with a star: the cut's groups -/
theorem cut_star (ts : List Tk) : ∃ g0 gs, cutT (ts ++ [.star]) = (g0 :: gs, []) := by
  unfold cutT
  rw [List.foldl_append]
  show ∃ g0 gs, stp (ts.foldl stp ([], [])) .star = _
  rw [stp_star]
  obtain ⟨ds, c⟩ := ts.foldl stp ([], [])
  by_cases hq : (ds, c).2 = [] ∧ (ds, c).1 ≠ []
  · rw [if_pos hq]
    obtain ⟨rfl, h2⟩ := hq
    cases ds with
    | nil => exact absurd rfl h2
    | cons a b => exact ⟨a, b, rfl⟩
  · rw [if_neg hq]
    cases ds with
    | nil => exact ⟨c, [], rfl⟩
    | cons a b => exact ⟨a, b ++ [c], rfl⟩
theorem fold_cut {ts : List Tk} {g0 : List Tk} {gs : List (List Tk)} (e : cutT ts = (g0 :: gs, [])) : ts.foldl pushT [] = (g0.map txt).map some ++ tl (gs.map fun g => g.map txt) := by
  have h := push_cut ts ([], [])
  have h0 : lstG ([], []) = [] := rfl
  rw [h0] at h
  rw [h]
  show lstG (cutT ts) = _
  rw [e, ← tl_eq]
  unfold lstG
  simp [List.flatMap_map, Function.comp_def]
end IK
end

/-! part L2 -/
section
open PySem PySem.W PyProof.Rows
set_option Elab.async false
set_option linter.unusedVariables false
namespace IK
/-! the plain law, 2: the text of translate is cut at its groups -/
open StrLaws Builtin.Str in
theorem at_head {x s : List Nat} {k c : Nat} (h : At (T x) (T (c :: s)) (T x).length k) : x[k]? = some c := by
  have h2 := h.2
  rw [subAt_eq] at h2
  have h3 : ((x.drop k).take (T (c :: s)).length) = c :: s := by simpa using h2
  have : ((x.drop k).take (T (c :: s)).length)[0]? = some c := by rw [h3]; rfl
  rw [T_len, List.length_cons, List.getElem?_take_of_lt (by omega), List.getElem?_drop] at this
  simpa using this
open StrLaws Builtin.Str in
theorem at_here (a s b : List Nat) : At (T (a ++ s ++ b)) (T s) (T (a ++ s ++ b)).length a.length := by
  refine ⟨by rw [T_len, T_len]; simp only [List.length_append]; omega, ?_⟩
  rw [subAt_eq, T_len]
  show (((a ++ s ++ b).drop a.length).take s.length == s) = true
  rw [List.append_assoc, List.drop_left' rfl, List.take_left' rfl]
  simp
theorem sub_T (a b c : List Nat) : Builtin.Str.strSub (T (a ++ b ++ c)) a.length (a.length + b.length) = T b := by
  show (⟨(a ++ b ++ c).toArray.extract a.length (a.length + b.length)⟩ : Str) = T b
  rw [List.extract_toArray]
  congr 1
  rw [List.extract_eq_take_drop, List.append_assoc, List.drop_left' rfl, List.take_left' (by omega)]
open StrLaws Builtin.Str in
theorem parts_of {c : Nat} {s : List Nat} : ∀ (ps : List (List Nat)) (pre a0 x : List Nat) (cuts : List Nat) (f : Nat), x = pre ++ jn (c :: s) (a0 :: ps) → (∀ p ∈ a0 :: ps, c ∉ p) → ChainG (T x) (T (c :: s)) (T x).length pre.length cuts f →
    (∀ k, f ≤ k → ¬ At (T x) (T (c :: s)) (T x).length k) → partsFrom (T x) (T (c :: s)).length pre.length cuts = (a0 :: ps).map T
  | [], pre, a0, x, cuts, f, e, hf, hc, hn => by
    have e : x = pre ++ a0 := e
    have no : ∀ k, pre.length ≤ k → ¬ At (T x) (T (c :: s)) (T x).length k := fun k hk h => by
      have := at_head h
      rw [e, List.getElem?_append_right hk] at this
      exact hf a0 (.head _) (List.mem_of_getElem? this)
    cases cuts with
    | cons d r => exact absurd hc.2.1 (no d hc.1)
    | nil =>
      show [strSub (T x) pre.length (T x).length] = [T a0]
      have := sub_T pre a0 []
      rw [List.append_nil, ← e] at this
      rw [T_len, show x.length = pre.length + a0.length by rw [e, List.length_append], this]
  | a1 :: r, pre, a0, x, cuts, f, e, hf, hc, hn => by
    have e : x = pre ++ (a0 ++ (c :: s) ++ jn (c :: s) (a1 :: r)) := e
    have hat : At (T x) (T (c :: s)) (T x).length (pre.length + a0.length) := by
      have := at_here (pre ++ a0) (c :: s) (jn (c :: s) (a1 :: r))
      rw [List.length_append] at this
      rw [e]
      simp only [List.append_assoc] at this ⊢
      exact this
    have no : ∀ k, pre.length ≤ k → k < pre.length + a0.length → ¬ At (T x) (T (c :: s)) (T x).length k := fun k hk hl h => by
      have := at_head h
      rw [e, List.getElem?_append_right hk, List.append_assoc, List.getElem?_append_left (by omega)] at this
      exact hf a0 (.head _) (List.mem_of_getElem? this)
    cases cuts with
    | nil =>
      have hfe : f = pre.length := hc
      exact absurd hat (hn _ (by omega))
    | cons d cr =>
      obtain ⟨h1, h2, h3, h4⟩ := hc
      have hd : d = pre.length + a0.length := by
        have q1 : ¬ d < pre.length + a0.length := fun q => no d h1 q h2
        have q2 : ¬ pre.length + a0.length < d := fun q => h3 _ (by omega) q hat
        omega
      subst hd
      show strSub (T x) pre.length (pre.length + a0.length) :: partsFrom (T x) (T (c :: s)).length (pre.length + a0.length + (T (c :: s)).length) cr = _
      have e1 : strSub (T x) pre.length (pre.length + a0.length) = T a0 := by
        have := sub_T pre a0 ((c :: s) ++ jn (c :: s) (a1 :: r))
        rw [e]; simp only [List.append_assoc] at this ⊢; exact this
      have hl : (pre ++ a0 ++ (c :: s)).length = pre.length + a0.length + (T (c :: s)).length := by rw [T_len]; simp only [List.length_append]
      have := parts_of r (pre ++ a0 ++ (c :: s)) a1 x cr f (by rw [e]; simp only [List.append_assoc]) (fun p hp => hf p (.tail _ hp)) (by rw [hl]; exact h4) hn
      rw [hl] at this
      rw [e1, this]; rfl
open StrLaws Builtin.Str in
theorem split_of {c : Nat} {s : List Nat} (hs : strKind (T (c :: s)) = 1) {ps : List (List Nat)} {a0 : List Nat} (hf : ∀ p ∈ a0 :: ps, c ∉ p) : Txt.split (T (jn (c :: s) (a0 :: ps))) (T (c :: s)) = (a0 :: ps).map T := by
  obtain ⟨f, hG, hn⟩ := occ_tight (T (jn (c :: s) (a0 :: ps))) (T (c :: s)) (by rw [T_len]; simp)
  have hp := parts_of ps [] a0 _ _ f rfl hf hG hn
  rw [List.length_nil] at hp
  unfold Txt.split
  split
  · rename_i h
    rw [Bool.or_eq_true, decide_eq_true_eq, decide_eq_true_eq] at h
    have hk : 1 ≤ Builtin.Str.strKind (T (jn (c :: s) (a0 :: ps))) := by unfold Builtin.Str.strKind; split <;> (try split) <;> omega
    rcases h with h | h
    · cases ps with
      | nil => rfl
      | cons a1 r =>
        exfalso
        rw [T_len, T_len, jn_cons _ _ (by simp)] at h
        simp only [List.length_append] at h
        omega
    · omega
  · split
    · rename_i h
      rw [List.isEmpty_iff] at h
      rw [h] at hp
      rw [← hp]
      show _ = [strSub _ 0 _]
      rw [sub_whole, List.nil_append]
    · rw [partsBetween_eq]; exact hp
/-- the parts' texts as the split needs them -/
theorem jn_groups (f : List Nat) (gs : List (List Nat)) : jn [40, 63, 62, 46, 42, 63] (f :: gs.map (· ++ [41])) = f ++ (gs.map fun g => [40, 63, 62, 46, 42, 63] ++ g ++ [41]).flatten := by
  induction gs generalizing f with
  | nil => simp [jn]
  | cons g gs ih =>
    rw [List.map_cons, jn_cons _ _ (by simp), ih]
    simp
theorem out0_flat (f0 : List (List Nat)) (gs : List (List (List Nat))) : (out0 f0 gs).flatten = jn [40, 63, 62, 46, 42, 63] (f0.flatten :: (gs.map List.flatten).map (· ++ [41])) ++ [46, 42] := by
  rw [jn_groups]
  unfold out0
  rw [List.flatten_append, List.flatten_append, List.map_map]
  simp only [List.flatten_cons, List.flatten_nil, List.append_nil, List.append_assoc]
  rfl
theorem txtOf_drop (f0 : List (List Nat)) (gs : List (List (List Nat))) : (txtOf f0 gs).drop ((txtOf f0 gs).length - 5) = [46, 42, 41, 92, 90] := by
  have e : txtOf f0 gs = ([40, 63, 115, 58] ++ jn [40, 63, 62, 46, 42, 63] (f0.flatten :: (gs.map List.flatten).map (· ++ [41]))) ++ [46, 42, 41, 92, 90] := by
    unfold txtOf; rw [out0_flat]; simp
  rw [e]
  exact List.drop_left' (by simp)
theorem txtOf_mid (f0 : List (List Nat)) (gs : List (List (List Nat))) : psl (txtOf f0 gs) (some 4) (some (-5)) = jn [40, 63, 62, 46, 42, 63] (f0.flatten :: (gs.map List.flatten).map (· ++ [41])) := by
  have e : txtOf f0 gs = [40, 63, 115, 58] ++ (jn [40, 63, 62, 46, 42, 63] (f0.flatten :: (gs.map List.flatten).map (· ++ [41])) ++ [46, 42, 41, 92, 90]) := by
    unfold txtOf; rw [out0_flat]; simp
  rw [e]
  rw [show (4 : Int) = ((4 : Nat) : Int) from rfl, show (-5 : Int) = -((5 : Nat) : Int) from rfl, psl_midNeg _ 4 5 (by decide), ← List.append_assoc, List.take_left' (by simp only [List.length_append, List.length_cons, List.length_nil]; omega)]
  rfl
theorem txtOf_split {f0 : List (List Nat)} {gs : List (List (List Nat))} (h0 : 40 ∉ f0.flatten) (hg : ∀ g ∈ gs, 40 ∉ g.flatten) : Txt.split (T (psl (txtOf f0 gs) (some 4) (some (-5)))) (T [40, 63, 62, 46, 42, 63]) = (f0.flatten :: (gs.map List.flatten).map (· ++ [41])).map T := by
  rw [txtOf_mid]
  refine split_of (by decide +kernel) fun p hp => ?_
  rcases List.mem_cons.mp hp with rfl | hp
  · exact h0
  · obtain ⟨q, hq, rfl⟩ := List.mem_map.mp hp
    obtain ⟨g, hg', rfl⟩ := List.mem_map.mp hq
    have := hg g hg'
    simp only [List.mem_append, List.mem_singleton, not_or]
    exact ⟨this, by decide⟩
end IK
end

/-! part L3 -/
section
open PySem PySem.W PyProof.Rows
set_option Elab.async false
set_option linter.unusedVariables false
namespace IK
/-! the plain law, 3: what is read off a part's text is what was told -/
theorem spec_facts : ∀ c ∈ spec, alnum [c] = false := by decide +kernel
theorem items_tok {k : Tk} (h : okT k) (hn : k ≠ .star) (r : List Nat) : items (txt k ++ r) = itm1 k :: items r := by
  cases k with
  | star => exact absurd rfl hn
  | quest => show items (46 :: r) = _; rw [items_cons]; rfl
  | notA =>
    show items (91 :: (94 :: 97 :: 93 :: r)) = _
    rw [items_cons]
    have e : sz (91 :: 94 :: 97 :: 93 :: r) = 4 := by
      have hi : idx 93 (91 :: 94 :: 97 :: 93 :: r) = 3 := by simp [idx, List.findIdx_cons]
      unfold sz; simp only [hi, List.length_cons]
      rw [if_pos (by omega)]
    rw [e]; rfl
  | set c =>
    have h : c = 42 ∨ c = 63 ∨ c = 91 := h
    by_cases hc : c = 91
    · subst hc
      show items (91 :: (92 :: 91 :: 93 :: r)) = _
      rw [items_cons]
      have e : sz (91 :: 92 :: 91 :: 93 :: r) = 4 := by
        have hi : idx 93 (91 :: 92 :: 91 :: 93 :: r) = 3 := by simp [idx, List.findIdx_cons]
        unfold sz; simp only [hi, List.length_cons]
        rw [if_pos (by omega)]
      rw [e]; rfl
    · have e : sz (91 :: c :: 93 :: r) = 3 := by
        have hi : idx 93 (91 :: c :: 93 :: r) = 2 := by
          have : (c == 93) = false := by rcases h with rfl | rfl | rfl <;> rfl
          simp [idx, List.findIdx_cons, this]
        unfold sz; simp only [hi, List.length_cons]
        rw [if_pos (by omega)]
      have et : txt (.set c) = [91, c, 93] := by show (if c = 91 then [91, 92, 91, 93] else [91, c, 93]) = _; rw [if_neg hc]
      rw [et]
      show items (91 :: (c :: 93 :: r)) = _
      rw [items_cons, e]
      rcases h with rfl | rfl | rfl
      · rfl
      · rfl
      · exact absurd rfl hc
  | lit c =>
    show items (esc c ++ r) = _
    unfold esc
    by_cases hc : c ∈ spec
    · rw [if_pos hc]
      show items (92 :: (c :: r)) = _
      rw [items_cons]
      have e : sz (92 :: c :: r) = 2 := rfl
      rw [e]
      show rd [92, c] :: items r = _
      have : rd [92, c] = (false, if alnum [c] then [] else [c]) := by
        unfold rd; rw [if_neg (by simp)]; rfl
      rw [this, spec_facts c hc]; rfl
    · rw [if_neg hc]
      show items (c :: r) = _
      have hns : c ∉ spec := hc
      have n1 : c ≠ 92 := fun e => hc (by rw [e]; decide)
      have n2 : c ≠ 91 := fun e => hc (by rw [e]; decide)
      have n3 : c ≠ 46 := fun e => hc (by rw [e]; decide)
      have n4 : c ∉ [36, 40, 41, 42, 43, 63, 94, 123, 124, 125] := fun e => by
        have : ∀ y ∈ ([36, 40, 41, 42, 43, 63, 94, 123, 124, 125] : List Nat), y ∈ spec := by decide
        exact hc (this c e)
      rw [items_cons]
      have e : sz (c :: r) = 1 := by
        unfold sz
        split
        · rename_i e; injection e with e _; exact absurd e n1
        · rename_i e; injection e with e _; exact absurd e n2
        · rfl
      rw [e]
      show rd [c] :: items r = _
      have : rd [c] = (false, [c]) := by
        unfold rd
        rw [if_neg (by simpa using n3), if_neg (by simpa using n1), if_neg (by simp), if_neg (by simpa using n2)]
        show (false, if c ∈ [36, 40, 41, 42, 43, 63, 94, 123, 124, 125] then [] else [c]) = _
        rw [if_neg n4]
      rw [this]; rfl
theorem items_row : ∀ (g : List Tk), (∀ k ∈ g, okT k ∧ k ≠ .star) → items (g.map txt).flatten = g.map itm1
  | [], _ => rfl
  | k :: g, h => by
    rw [List.map_cons, List.flatten_cons, items_tok (h k (.head _)).1 (h k (.head _)).2, items_row g fun k hk => h k (.tail _ hk)]; rfl
theorem told_itm {k : Tk} (hn : k ≠ .star) : told1 k = some (itm1 k) := by cases k <;> first | rfl | exact absurd rfl hn
end IK
end

/-! part L4 -/
section
open PySem PySem.W PyProof.Rows
set_option Elab.async false
set_option linter.unusedVariables false
namespace IK
/-! the plain law, 4: greedy cuts and the told row take the same -/
noncomputable def okc (name : List Nat) (t : Bool × List Nat) (p : Nat) : Bool := decide (name.getD p 0 ∈ t.2) != t.1
theorem fitAt_iff {name : List Nat} {row : Row} {p : Nat} : fitAt name row p = true ↔ ∀ j, j < row.length → okc name (row.getD j (false, [])) (p + j) = true := by
  unfold fitAt
  rw [List.isEmpty_iff, List.filter_eq_nil_iff]
  refine ⟨fun h j hj => ?_, fun h j hj => ?_⟩
  · have := h j (List.mem_range.mpr hj)
    unfold okc
    rw [bne, Bool.not_eq_true']
    simpa using this
  · have := h j (List.mem_range.mp hj)
    unfold okc at this
    rw [bne, Bool.not_eq_true'] at this
    rw [this]; simp
theorem fitAt_nil (name : List Nat) (p : Nat) : fitAt name [] p = true := rfl
theorem fitAt_snoc {name : List Nat} {row : Row} {t : Bool × List Nat} {p : Nat} : fitAt name (row ++ [t]) p = true ↔ fitAt name row p = true ∧ okc name t (p + row.length) = true := by
  rw [fitAt_iff, fitAt_iff]
  refine ⟨fun h => ⟨fun j hj => ?_, ?_⟩, fun h j hj => ?_⟩
  · have := h j (by rw [List.length_append]; omega)
    rwa [List.getD_eq_getElem?_getD, List.getElem?_append_left hj, ← List.getD_eq_getElem?_getD] at this
  · have := h row.length (by simp)
    rwa [List.getD_eq_getElem?_getD, List.getElem?_append_right (Nat.le_refl _), Nat.sub_self] at this
  · rw [List.length_append, List.length_singleton] at hj
    by_cases e : j < row.length
    · rw [List.getD_eq_getElem?_getD, List.getElem?_append_left e, ← List.getD_eq_getElem?_getD]; exact h.1 j e
    · have : j = row.length := by omega
      subst this
      rw [List.getD_eq_getElem?_getD, List.getElem?_append_right (Nat.le_refl _), Nat.sub_self]; exact h.2
theorem fitsL_iff {name : List Nat} {row : Row} {a p : Nat} : p ∈ fitsL name row a ↔ a ≤ p ∧ p + row.length ≤ name.length ∧ fitAt name row p = true := by
  unfold fitsL
  rw [List.mem_filter, List.mem_range'_1]
  refine ⟨fun h => ⟨h.1.1, by omega, h.2⟩, fun h => ⟨⟨h.1, by omega⟩, h.2.2⟩⟩
theorem fitsL_head {name : List Nat} {row : Row} {a p q : Nat} {r : List Nat} (e : fitsL name row a = p :: r) (h : q ∈ fitsL name row a) : p ≤ q := by
  have hp : (fitsL name row a).Pairwise (· < ·) := List.Pairwise.filter _ List.pairwise_lt_range'
  rw [e] at hp h
  rcases List.mem_cons.mp h with rfl | h
  · exact Nat.le_refl _
  · exact Nat.le_of_lt ((List.pairwise_cons.mp hp).1 q h)
theorem mst_app (name : List Nat) (ds : List Row) (c : Row) : ∀ i, i ≤ ds.length → mst name (ds ++ [c]) i = mst name ds i
  | 0, _ => rfl
  | i + 1, h => by
    unfold mst
    rw [mst_app name ds c i (by omega), List.getElem?_append_left (by omega)]
/-- where a name may stand behind the groups -/
noncomputable def RR (name : List Nat) (ds : List Row) (c : Row) (q : Nat) : Prop :=
  ∃ a, mst name ds ds.length = some a ∧ ∃ p, a ≤ p ∧ (ds = [] → p = 0) ∧ q = p + c.length ∧ q ≤ name.length ∧ fitAt name c p = true
theorem RR_piece {name : List Nat} {ds : List Row} {c : Row} {t : Bool × List Nat} {q : Nat} : RR name ds (c ++ [t]) q ↔ ∃ p, RR name ds c p ∧ p < name.length ∧ okc name t p = true ∧ q = p + 1 := by
  constructor
  · rintro ⟨a, h1, p, h2, h3, rfl, h5, h6⟩
    rw [List.length_append, List.length_singleton] at h5
    obtain ⟨h6, h7⟩ := fitAt_snoc.mp h6
    exact ⟨p + c.length, ⟨a, h1, p, h2, h3, rfl, by omega, h6⟩, by omega, h7, by rw [List.length_append, List.length_singleton]; omega⟩
  · rintro ⟨_, ⟨a, h1, p, h2, h3, rfl, h5, h6⟩, h7, h8, rfl⟩
    exact ⟨a, h1, p, h2, h3, by rw [List.length_append, List.length_singleton]; omega, by omega, fitAt_snoc.mpr ⟨h6, h8⟩⟩
theorem RR_nil {name : List Nat} {ds : List Row} (hne : ds ≠ []) {q : Nat} : RR name ds [] q ↔ ∃ a, mst name ds ds.length = some a ∧ a ≤ q ∧ q ≤ name.length := by
  constructor
  · rintro ⟨a, h1, p, h2, h3, rfl, h5, h6⟩; exact ⟨a, h1, h2, h5⟩
  · rintro ⟨a, h1, h2, h3⟩; exact ⟨a, h1, q, h2, fun e => absurd e hne, rfl, h3, fitAt_nil _ _⟩
theorem mst_snoc (name : List Nat) (ds : List Row) (c : Row) : mst name (ds ++ [c]) (ds ++ [c]).length = (mst name ds ds.length).bind fun a => match fitsL name c a with
    | [] => none
    | p :: _ => if ds.length = 0 ∧ p ≠ 0 then none else some (p + c.length) := by
  rw [List.length_append, List.length_singleton]
  show ((mst name (ds ++ [c]) ds.length).bind fun at' => ((ds ++ [c])[ds.length]?).bind fun row => _) = _
  rw [mst_app _ _ _ _ (Nat.le_refl _), List.getElem?_append_right (Nat.le_refl _), Nat.sub_self]
  rfl
theorem RR_star {name : List Nat} {ds : List Row} {c : Row} {q : Nat} : RR name (ds ++ [c]) [] q ↔ q ≤ name.length ∧ ∃ p, RR name ds c p ∧ p ≤ q := by
  rw [RR_nil (by simp), mst_snoc]
  constructor
  · rintro ⟨a', h1, h2, h3⟩
    obtain ⟨a, ha, h1⟩ := Option.bind_eq_some_iff.mp h1
    cases hf : fitsL name c a with
    | nil => rw [hf] at h1; cases h1
    | cons p r =>
      rw [hf] at h1
      have hm := fitsL_iff.mp (show p ∈ fitsL name c a by rw [hf]; exact .head _)
      dsimp only at h1
      split at h1
      · cases h1
      · rename_i hz
        cases h1
        refine ⟨h3, p + c.length, ⟨a, ha, p, hm.1, fun e => ?_, rfl, hm.2.1, hm.2.2⟩, h2⟩
        by_cases e0 : p = 0
        · exact e0
        · exact absurd ⟨by rw [e]; rfl, e0⟩ hz
  · rintro ⟨h3, _, ⟨a, ha, p, h4, h5, rfl, h6, h7⟩, h2⟩
    have hm : p ∈ fitsL name c a := fitsL_iff.mpr ⟨h4, h6, h7⟩
    cases hf : fitsL name c a with
    | nil => rw [hf] at hm; cases hm
    | cons p0 r =>
      have hle := fitsL_head hf hm
      refine ⟨p0 + c.length, ?_, by omega, h3⟩
      rw [ha, Option.bind_some, hf]
      dsimp only
      rw [if_neg]
      rintro ⟨e1, e2⟩
      have := h5 (List.length_eq_zero_iff.mp e1)
      omega
theorem RR_star' {name : List Nat} {ds : List Row} (hne : ds ≠ []) {q : Nat} : RR name ds [] q ↔ q ≤ name.length ∧ ∃ p, RR name ds [] p ∧ p ≤ q := by
  rw [RR_nil hne]
  constructor
  · rintro ⟨a, h1, h2, h3⟩; exact ⟨h3, q, (RR_nil hne).mpr ⟨a, h1, h2, h3⟩, Nat.le_refl _⟩
  · rintro ⟨h3, p, hp, h4⟩
    obtain ⟨a, h1, h2, _⟩ := (RR_nil hne).mp hp
    exact ⟨a, h1, by omega, h3⟩
/-- where the told row may stand; the row is told backwards -/
noncomputable def Rx (name : List Nat) : List It1 → Nat → Prop
  | [], q => q = 0
  | none :: r, q => q ≤ name.length ∧ ∃ p, Rx name r p ∧ p ≤ q
  | some t :: r, q => ∃ p, Rx name r p ∧ p < name.length ∧ okc name t p = true ∧ q = p + 1
theorem rx_cut {name : List Nat} {n : Nat} (hn : n ≤ name.length) : ∀ (r : List It1) (q : Nat), q ≤ n → (Rx name r q ↔ Rx (name.take n) r q)
  | [], q, _ => Iff.rfl
  | none :: r, q, h => by
    have hl : (name.take n).length = n := by rw [List.length_take]; omega
    refine ⟨fun ⟨h1, p, h2, h3⟩ => ⟨by rw [hl]; exact h, p, (rx_cut hn r p (by omega)).mp h2, h3⟩, fun ⟨h1, p, h2, h3⟩ => ⟨by omega, p, (rx_cut hn r p (by omega)).mpr h2, h3⟩⟩
  | some t :: r, q, h => by
    have hl : (name.take n).length = n := by rw [List.length_take]; omega
    have hk : ∀ p, p < n → okc (name.take n) t p = okc name t p := fun p hp => by
      unfold okc
      rw [List.getD_eq_getElem?_getD, List.getD_eq_getElem?_getD, List.getElem?_take_of_lt hp]
    refine ⟨fun ⟨p, h1, h2, h3, h4⟩ => ⟨p, (rx_cut hn r p (by omega)).mp h1, by omega, by rw [hk p (by omega)]; exact h3, h4⟩, fun ⟨p, h1, h2, h3, h4⟩ => ⟨p, (rx_cut hn r p (by omega)).mpr h1, by omega, by rw [← hk p (by omega)]; exact h3, h4⟩⟩
theorem tk_some {name : List Nat} {ps : List Int} {t : Bool × List Nat} {q : Int} : q ∈ tk name ps (some t) ↔ ∃ p ∈ ps, p < name.length ∧ okc name t p.toNat = true ∧ q = p + 1 := by
  obtain ⟨b, s⟩ := t
  show q ∈ (ps.filter fun p : Int => decide (p < name.length) && (decide (name.getD p.toNat 0 ∈ s) != b)).map (· + 1) ↔ _
  rw [List.mem_map]
  constructor
  · rintro ⟨p, hp, rfl⟩
    obtain ⟨h1, h2⟩ := List.mem_filter.mp hp
    obtain ⟨h2, h3⟩ := Bool.and_eq_true_iff.mp h2
    exact ⟨p, h1, of_decide_eq_true h2, h3, rfl⟩
  · rintro ⟨p, h1, h2, h3, rfl⟩
    exact ⟨p, List.mem_filter.mpr ⟨h1, Bool.and_eq_true_iff.mpr ⟨decide_eq_true h2, h3⟩⟩, rfl⟩
theorem tk_none {name : List Nat} {ps : List Int} (hs : ps.Pairwise (· ≤ ·)) {q : Int} : q ∈ tk name ps none ↔ ∃ n : Nat, q = n ∧ n ≤ name.length ∧ ∃ p ∈ ps, p ≤ q := by
  show q ∈ ((List.range (name.length + 1)).map fun n : Nat => (n : Int)).filter (fun p => !ps.isEmpty && decide (p ≥ ps.headD 0)) ↔ _
  rw [List.mem_filter, List.mem_map]
  constructor
  · rintro ⟨⟨n, hn, rfl⟩, h⟩
    obtain ⟨h1, h2⟩ := Bool.and_eq_true_iff.mp h
    cases ps with
    | nil => cases h1
    | cons p r => exact ⟨n, rfl, by have := List.mem_range.mp hn; omega, p, .head _, of_decide_eq_true h2⟩
  · rintro ⟨n, rfl, hn, p, hp, hle⟩
    refine ⟨⟨n, List.mem_range.mpr (by omega), rfl⟩, ?_⟩
    cases ps with
    | nil => cases hp
    | cons p0 r =>
      have : p0 ≤ p := by
        rcases List.mem_cons.mp hp with rfl | hp
        · exact Int.le_refl _
        · exact (List.pairwise_cons.mp hs).1 p hp
      rw [Bool.and_eq_true_iff]
      exact ⟨rfl, decide_eq_true (Int.le_trans this hle)⟩
theorem tk_sorted {name : List Nat} {ps : List Int} (hs : ps.Pairwise (· ≤ ·)) (o : It1) : (tk name ps o).Pairwise (· ≤ ·) := by
  cases o with
  | none =>
    refine List.Pairwise.filter _ (List.pairwise_map.mpr ?_)
    exact List.Pairwise.imp (fun h => by omega) List.pairwise_lt_range
  | some t =>
    obtain ⟨b, s⟩ := t
    refine List.pairwise_map.mpr (List.Pairwise.filter _ (List.Pairwise.imp (fun h => ?_) hs))
    omega
theorem fold_rx (name : List Nat) : ∀ (row r : List It1) (ps : List Int), ps.Pairwise (· ≤ ·) → (∀ q : Int, q ∈ ps ↔ ∃ n : Nat, q = n ∧ Rx name r n) → ∀ q : Int, q ∈ row.foldl (tk name) ps ↔ ∃ n : Nat, q = n ∧ Rx name (row.reverse ++ r) n
  | [], r, ps, hs, h, q => h q
  | o :: row, r, ps, hs, h, q => by
    rw [List.foldl_cons, List.reverse_cons, List.append_assoc]
    refine fold_rx name row (o :: r) _ (tk_sorted hs o) (fun q => ?_) q
    cases o with
    | none =>
      rw [tk_none hs]
      constructor
      · rintro ⟨n, rfl, hn, p, hp, hle⟩
        obtain ⟨m, rfl, hm⟩ := (h p).mp hp
        exact ⟨n, rfl, hn, m, hm, by omega⟩
      · rintro ⟨n, rfl, hn, m, hm, hle⟩
        exact ⟨n, rfl, hn, m, (h m).mpr ⟨m, rfl, hm⟩, by omega⟩
    | some t =>
      rw [tk_some]
      constructor
      · rintro ⟨p, hp, h1, h2, rfl⟩
        obtain ⟨m, rfl, hm⟩ := (h p).mp hp
        exact ⟨m + 1, by omega, m, hm, by omega, h2, rfl⟩
      · rintro ⟨n, rfl, m, hm, h1, h2, rfl⟩
        exact ⟨m, (h m).mpr ⟨m, rfl, hm⟩, by omega, h2, by omega⟩
theorem takes_rx (row : List It1) (name : List Nat) : takes row name = true ↔ Rx name row.reverse name.length := by
  unfold takes
  rw [decide_eq_true_eq, fold_rx name row [] [0] (by simp) (fun q => ⟨fun e => ⟨0, by simpa using e, rfl⟩, fun ⟨n, e, e'⟩ => by cases e'; simpa using e⟩), List.append_nil]
  exact ⟨fun ⟨n, e, h⟩ => by rw [show name.length = n by omega]; exact h, fun h => ⟨_, rfl, h⟩⟩
noncomputable def rowG (g : List (List Tk)) : List Row := g.map fun k => k.map itm1
theorem reach (name : List Nat) : ∀ (ts : List Tk) (s : StG) (r : List It1), (∀ q, Rx name r q ↔ RR name (rowG s.1) (s.2.map itm1) q) → ∀ q, Rx name ((ts.map told1).reverse ++ r) q ↔ RR name (rowG (ts.foldl stp s).1) ((ts.foldl stp s).2.map itm1) q
  | [], s, r, h, q => h q
  | k :: ts, s, r, h, q => by
    rw [List.map_cons, List.reverse_cons, List.append_assoc, List.foldl_cons]
    refine reach name ts (stp s k) (told1 k :: r) (fun q => ?_) q
    by_cases hk : k = .star
    · subst hk
      rw [stp_star]
      show (q ≤ name.length ∧ ∃ p, Rx name r p ∧ p ≤ q) ↔ _
      have e : (q ≤ name.length ∧ ∃ p, Rx name r p ∧ p ≤ q) ↔ (q ≤ name.length ∧ ∃ p, RR name (rowG s.1) (s.2.map itm1) p ∧ p ≤ q) := by
        refine and_congr Iff.rfl (exists_congr fun p => and_congr (h p) Iff.rfl)
      rw [e]
      by_cases hq : s.2 = [] ∧ s.1 ≠ []
      · rw [if_pos hq, hq.1]
        exact (RR_star' (by unfold rowG; simpa using hq.2)).symm
      · rw [if_neg hq]
        show _ ↔ RR name (rowG (s.1 ++ [s.2])) [] q
        unfold rowG
        rw [List.map_append]
        exact RR_star.symm
    · rw [stp_ne s hk, told_itm hk]
      show (∃ p, Rx name r p ∧ p < name.length ∧ okc name (itm1 k) p = true ∧ q = p + 1) ↔ RR name (rowG s.1) ((s.2 ++ [k]).map itm1) q
      rw [List.map_append]
      show _ ↔ RR name (rowG s.1) (s.2.map itm1 ++ [itm1 k]) q
      rw [RR_piece]
      exact exists_congr fun p => and_congr (h p) Iff.rfl
theorem mats_iff {ts : List Tk} {ds : List (List Tk)} (hne : ds ≠ []) (e : cutT (ts ++ [.lit 47, .star]) = (ds, [])) (name : List Nat) : mats (rowG ds) name = true ↔ ∃ n, n < name.length ∧ name[n]? = some 47 ∧ takes (ts.map told1) (name.take n) = true := by
  have hr := reach name (ts ++ [.lit 47, .star]) ([], []) [] (fun q => ⟨fun e => ⟨0, rfl, 0, Nat.le_refl _, fun _ => rfl, e, by rw [show q = 0 from e]; exact Nat.zero_le _, rfl⟩, fun ⟨a, h1, p, h2, h3, h4, h5, h6⟩ => by rw [h4, h3 rfl]; rfl⟩)
  rw [show (ts ++ [Tk.lit 47, Tk.star]).foldl stp ([], []) = (ds, []) from e, List.append_nil] at hr
  have er : ((ts ++ [Tk.lit 47, Tk.star]).map told1).reverse = none :: some (false, [47]) :: (ts.map told1).reverse := by simp [told1]
  rw [er] at hr
  have hne' : rowG ds ≠ [] := by unfold rowG; simpa using hne
  unfold mats
  rw [Option.isSome_iff_exists]
  constructor
  · rintro ⟨a, ha⟩
    obtain ⟨_, p, ⟨n, h1, h2, h3, _⟩, _⟩ := (hr a).mpr ((RR_nil hne').mpr ⟨a, ha, Nat.le_refl _, mst_le _ _ _ _ ha⟩)
    refine ⟨n, h2, ?_, ?_⟩
    · unfold okc at h3
      have h3 : name.getD n 0 = 47 := by simpa using h3
      rw [List.getElem?_eq_getElem h2]
      rw [List.getD_eq_getElem?_getD, List.getElem?_eq_getElem h2] at h3
      exact congrArg some h3
    · rw [takes_rx, show (name.take n).length = n by rw [List.length_take]; omega]
      exact (rx_cut (by omega) _ n (Nat.le_refl _)).mp h1
  · rintro ⟨n, h2, h3, h1⟩
    rw [takes_rx, show (name.take n).length = n by rw [List.length_take]; omega] at h1
    have h1 := (rx_cut (by omega) _ n (Nat.le_refl _)).mpr h1
    have : RR name (rowG ds) [] (n + 1) := (hr (n + 1)).mp ⟨by omega, n + 1, ⟨n, h1, h2, by unfold okc; rw [List.getD_eq_getElem?_getD, h3]; rfl, rfl⟩, Nat.le_refl _⟩
    obtain ⟨a, ha, _⟩ := (RR_nil hne').mp this
    exact ⟨a, ha⟩
end IK
end

/-! part L5 -/
section
open PySem PySem.W PyProof.Rows
set_option Elab.async false
set_option linter.unusedVariables false
namespace IK
/-! the plain law, 5: the listed files, their folders, crooked folders -/
noncomputable def Gd (f : List Nat) : Prop := ∀ c ∈ spl 47 f, c.head? = some 97 ∨ c.head? = some 98
theorem spl_last {c : Nat} {s : List Nat} (hs : c ∉ s) (f : List Nat) : ∃ a b, spl c f = a ++ [b] ∧ spl c (f ++ s) = a ++ [b ++ s] := by
  by_cases h : c ∈ f
  · obtain ⟨x, y, rfl, hy⟩ := last_cut h
    refine ⟨spl c x, y, spl_cut hy, ?_⟩
    rw [List.append_assoc, List.cons_append, spl_cut]
    simp only [List.mem_append, not_or]; exact ⟨hy, hs⟩
  · refine ⟨[], f, spl_whole c f h, ?_⟩
    rw [spl_whole]; · rfl
    simp only [List.mem_append, not_or]; exact ⟨h, hs⟩
theorem Gd.free {f s : List Nat} (h : Gd f) (hs : 47 ∉ s) : Gd (f ++ s) := by
  obtain ⟨a, b, e1, e2⟩ := spl_last hs f
  unfold Gd at h ⊢
  rw [e1] at h; rw [e2]
  intro c hc
  rcases List.mem_append.mp hc with hc | hc
  · exact h c (List.mem_append_left _ hc)
  · cases List.mem_singleton.mp hc
    have := h b (by simp)
    cases b with
    | nil => simp at this
    | cons x r => simpa using this
theorem Gd.slash {f g : List Nat} (h : Gd f) (hg : Gd g) : Gd (f ++ 47 :: g) := by
  unfold Gd at h hg ⊢
  rw [spl_append]
  intro c hc
  rcases List.mem_append.mp hc with hc | hc
  · exact h c hc
  · exact hg c hc
theorem Gd.left {f g : List Nat} (h : Gd (f ++ 47 :: g)) : Gd f := by
  unfold Gd at h ⊢
  rw [spl_append] at h
  exact fun c hc => h c (List.mem_append_left _ hc)
theorem gd_one {x : Nat} (h : x = 97 ∨ x = 98) : Gd [x] := by
  unfold Gd
  rw [spl_whole 47 [x] (by rcases h with rfl | rfl <;> simp)]
  intro c hc
  cases List.mem_singleton.mp hc
  rcases h with rfl | rfl <;> simp
theorem Gd.ne {f : List Nat} (h : Gd f) : f ≠ [] := by
  rintro rfl
  have := h [] (by simp [spl])
  simp at this
theorem Gd.head {f : List Nat} (h : Gd f) : f.head? = some 97 ∨ f.head? = some 98 := by
  by_cases hm : 47 ∈ f
  · obtain ⟨a, b, rfl, ha⟩ := first_cut hm
    have h2 := h a (by rw [spl_app 47 a ha]; exact .head _)
    cases a with
    | nil => simp at h2
    | cons x r => simpa using h2
  · exact h f (by rw [spl_whole 47 f hm]; exact .head _)
theorem Gd.last {f : List Nat} (h : Gd f) : (lastc 47 f).head? = some 97 ∨ (lastc 47 f).head? = some 98 := h _ (getLastD_mem (spl_ne 47 f))
theorem Gd.take {f : List Nat} {n : Nat} (h : Gd f) (e : f[n]? = some 47) : Gd (f.take n) := by
  obtain ⟨hn, he⟩ := List.getElem?_eq_some_iff.mp e
  have : f = f.take n ++ 47 :: f.drop (n + 1) := by
    conv => lhs; rw [← List.take_append_drop n f, List.drop_eq_getElem_cons hn, he]
  rw [this] at h
  exact h.left
/-! what _law_drawn lists -/
theorem fr_ge (x : Int) : 42 ≤ fr x ∧ fr x ≠ 47 := by unfold fr; split <;> omega
theorem gd_beg (r : Nat) : Gd (beg r) := by
  have a := gd_one (x := 97) (.inl rfl)
  have b := gd_one (x := 98) (.inr rfl)
  unfold beg
  have : r % 4 = 0 ∨ r % 4 = 1 ∨ r % 4 = 2 ∨ r % 4 = 3 := by omega
  rcases this with e | e | e | e <;> rw [e]
  · exact a
  · exact b
  · exact a.slash b
  · exact b.slash a
theorem gd_suf {f : List Nat} (h : Gd f) (k : Nat) (x : Int) : Gd (f ++ suf k (fr x)) := by
  have a := gd_one (x := 97) (.inl rfl)
  have b := gd_one (x := 98) (.inr rfl)
  unfold suf
  split
  · exact h.free (by simp)
  · exact h.free (by simp)
  · exact h.slash a
  · exact h.slash b
  · exact h.free (by simp)
  · exact h.free (by simpa using (fr_ge x).2.symm)
  · exact h.slash b
  · exact h.slash b
  · rw [List.append_nil]; exact h
theorem gd_step {fs : List (List Nat)} (hne : fs ≠ []) (h : ∀ f ∈ fs, Gd f) (x : Int) : ∀ f ∈ stepF fs x, Gd f := by
  have ha : ∀ f ∈ addF fs x, Gd f := by
    unfold addF
    split
    · intro f hf
      rcases List.mem_append.mp hf with hf | hf
      · exact h f hf
      · cases List.mem_singleton.mp hf; exact gd_beg _
    · exact h
  intro f hf
  unfold stepF at hf
  rcases List.mem_or_eq_of_mem_set hf with hf | rfl
  · exact ha f hf
  · exact gd_suf (ha _ (getLastD_mem (addF_ne x hne))) _ _
theorem gd_fold (l : List Int) : ∀ (fs : List (List Nat)), fs ≠ [] → (∀ f ∈ fs, Gd f) → ∀ f ∈ l.foldl stepF fs, Gd f := by
  induction l with
  | nil => intro fs _ h; exact h
  | cons x l ih =>
    intro fs hne h
    refine ih (stepF fs x) (fun e => ?_) (gd_step hne h x)
    have hl := stepF_len fs x
    rw [e] at hl
    exact addF_ne x hne (List.length_eq_zero_iff.mp hl.symm)
theorem gd_files (l : List Int) : ∀ f ∈ dFiles l, Gd f := by
  have a := gd_one (x := 97) (.inl rfl)
  have b := gd_one (x := 98) (.inr rfl)
  refine gd_fold _ _ (by simp) fun f hf => ?_
  rcases List.mem_cons.mp hf with rfl | hf
  · exact b.slash b
  · cases List.mem_singleton.mp hf; exact a.slash b
theorem slashes_iff {e : List Nat} {n : Nat} : n ∈ slashes e ↔ e[n]? = some 47 := by
  unfold slashes
  rw [List.mem_filter, List.mem_range]
  constructor
  · rintro ⟨h1, h2⟩
    rw [List.getD_eq_getElem?_getD, List.getElem?_eq_getElem h1] at h2
    rw [List.getElem?_eq_getElem h1]
    exact congrArg some (by simpa using h2)
  · intro h
    obtain ⟨h1, h2⟩ := List.getElem?_eq_some_iff.mp h
    exact ⟨h1, by rw [List.getD_eq_getElem?_getD, h]; rfl⟩
theorem above_iff {e p : List Nat} : p ∈ aboveOf e ↔ ∃ n, e[n]? = some 47 ∧ p = e.take n := by
  unfold aboveOf
  rw [List.mem_map]
  exact exists_congr fun n => by rw [slashes_iff]; exact and_congr Iff.rfl eq_comm
theorem gd_above (l : List Int) : ∀ p ∈ aboveL l, Gd p := by
  intro p hp
  obtain ⟨e, he, hp⟩ := List.mem_flatMap.mp hp
  obtain ⟨n, hn, rfl⟩ := above_iff.mp hp
  exact (gd_files l e he).take hn
theorem gd_meant (l : List Int) : ∀ p ∈ meantL l, Gd p := fun p hp => gd_above l p (List.mem_filter.mp hp).1
/-! crooked folders are straightened -/
theorem nstep_gd {acc : List (List Nat)} {c : List Nat} (h : c.head? = some 97 ∨ c.head? = some 98) : nstep acc c = acc ++ [c] := by
  have h1 : c ≠ [] := by rintro rfl; simp at h
  have h2 : c ≠ [46] := by rintro rfl; simp at h
  have h3 : c ≠ [46, 46] := by rintro rfl; simp at h
  unfold nstep
  rw [if_neg (by rintro (e | e) <;> contradiction), if_pos (.inl h3)]
theorem nfold_gd : ∀ (cs acc : List (List Nat)), (∀ c ∈ cs, c.head? = some 97 ∨ c.head? = some 98) → cs.foldl nstep acc = acc ++ cs
  | [], acc, _ => by simp
  | c :: cs, acc, h => by rw [List.foldl_cons, nstep_gd (h c (.head _)), nfold_gd cs _ fun c hc => h c (.tail _ hc)]; simp
theorem norm_of {p q : List Nat} (h : Gd p) (e : (spl 47 q).foldl nstep [] = spl 47 p) : norm q = p := by
  unfold norm
  rw [e, jn_spl]
  exact if_neg h.ne
theorem nstep_dot (acc : List (List Nat)) : nstep acc [46] = acc ∧ nstep acc [] = acc := ⟨by unfold nstep; rw [if_pos (.inr rfl)], by unfold nstep; rw [if_pos (.inl rfl)]⟩
theorem nstep_up {acc : List (List Nat)} {c : List Nat} (h : c ≠ [46, 46]) : nstep (acc ++ [c]) [46, 46] = acc := by
  unfold nstep
  rw [if_neg (by simp), if_neg (by simp [h])]
  simp
theorem rep_fold : ∀ (p : List Nat) (acc : List (List Nat)), (spl 47 (rep 47 [47, 46, 47] p)).foldl nstep acc = (spl 47 p).foldl nstep acc := by
  have key : ∀ (n : Nat) (p : List Nat), p.length ≤ n → ∀ acc, (spl 47 (rep 47 [47, 46, 47] p)).foldl nstep acc = (spl 47 p).foldl nstep acc := by
    intro n
    induction n with
    | zero =>
      intro p hp acc
      cases p with
      | nil => rfl
      | cons a r => simp at hp
    | succ n ih =>
      intro p hp acc
      by_cases hm : 47 ∈ p
      · obtain ⟨a, b, rfl, ha⟩ := first_cut hm
        have ea : rep 47 [47, 46, 47] (a ++ 47 :: b) = a ++ 47 :: (([46] : List Nat) ++ 47 :: rep 47 [47, 46, 47] b) := by
          have : rep 47 [47, 46, 47] a = a := by
            clear hm hp
            induction a with
            | nil => rfl
            | cons x r ihr =>
              simp only [List.mem_cons, not_or] at ha
              unfold rep at ihr ⊢
              rw [List.flatMap_cons, ihr ha.2, if_neg (Ne.symm ha.1)]; rfl
          unfold rep at this ⊢
          rw [List.flatMap_append, this, List.flatMap_cons, if_pos rfl]
          simp
        rw [ea, spl_app 47 a ha, spl_app 47 [46] (by simp), spl_app 47 a ha, List.foldl_cons, List.foldl_cons, List.foldl_cons, (nstep_dot _).1]
        exact ih b (by simp only [List.length_append, List.length_cons] at hp; omega) _
      · have : rep 47 [47, 46, 47] p = p := by
          rw [← jn_rep, spl_whole 47 p hm]; rfl
        rw [this]
  exact fun p acc => key p.length p (Nat.le_refl _) acc
theorem norm_crooked {p : List Nat} (h : Gd p) (t : Nat) : norm (crooked p t) = p := by
  have hp : ∀ acc, (spl 47 p).foldl nstep acc = acc ++ spl 47 p := fun acc => nfold_gd _ _ h
  have hd : crooked p t ∈ crookeds p := by
    unfold crooked
    rw [List.getD_eq_getElem?_getD, List.getElem?_eq_getElem (by show t % 6 < 6; omega)]
    exact List.getElem_mem _
  simp only [crookeds, List.mem_cons, List.not_mem_nil, or_false] at hd
  refine norm_of h ?_
  rcases hd with e | e | e | e | e | e <;> rw [e]
  · rw [hp]; rfl
  · show (spl 47 (([46] : List Nat) ++ 47 :: p)).foldl nstep [] = _
    rw [spl_app 47 [46] (by simp), List.foldl_cons, (nstep_dot _).1, hp]; rfl
  · show (spl 47 (p ++ 47 :: [47])).foldl nstep [] = _
    rw [spl_append, List.foldl_append, hp]
    show ([[], []] : List (List Nat)).foldl nstep ([] ++ spl 47 p) = _
    rw [List.foldl_cons, List.foldl_cons, (nstep_dot _).2, (nstep_dot _).2]; rfl
  · rw [rep_fold, hp]; rfl
  · show (spl 47 (([98] : List Nat) ++ 47 :: (([46, 46] : List Nat) ++ 47 :: p))).foldl nstep [] = _
    rw [spl_app 47 [98] (by simp), spl_app 47 [46, 46] (by simp), List.foldl_cons, List.foldl_cons]
    rw [show nstep [] [98] = [] ++ [[98]] from nstep_gd (.inr rfl), nstep_up (by simp), hp]; rfl
  · show (spl 47 (p ++ 47 :: (([97] : List Nat) ++ 47 :: [46, 46]))).foldl nstep [] = _
    rw [spl_append, List.foldl_append, hp, spl_app 47 [97] (by simp), spl_whole 47 [46, 46] (by simp), List.foldl_cons, List.foldl_cons, List.foldl_nil, show nstep ([] ++ spl 47 p) [97] = ([] ++ spl 47 p) ++ [[97]] from nstep_gd (.inl rfl), nstep_up (by simp)]; rfl
theorem dirs_norm (l : List Int) : (dirsL l).map norm = meantL l := by
  unfold dirsL
  rw [List.map_map]
  refine List.ext_getElem (by simp) fun i h1 h2 => ?_
  rw [List.getElem_map, List.getElem_range]
  show norm (crooked ((meantL l).getD i []) (l.length + i)) = _
  rw [List.getD_eq_getElem?_getD, List.getElem?_eq_getElem h2]
  exact norm_crooked (gd_meant l _ (List.getElem_mem _)) _
theorem crooked_ok {p : List Nat} (h : Gd p) (hz : p.length ≤ 23) (t : Nat) : okP (crooked p t) := by
  have hn := norm_crooked h t
  have hd : crooked p t ∈ crookeds p := by
    unfold crooked
    rw [List.getD_eq_getElem?_getD, List.getElem?_eq_getElem (by show t % 6 < 6; omega)]
    exact List.getElem_mem _
  have hh := h.head
  have hr : (rep 47 [47, 46, 47] p).length ≤ 3 * p.length := by
    unfold rep
    rw [List.length_flatMap]
    have : ∀ q : List Nat, (q.map fun a => (if a = 47 then [47, 46, 47] else [a]).length).sum ≤ 3 * q.length := fun q => by
      induction q with
      | nil => simp
      | cons a r ih => rw [List.map_cons, List.sum_cons, List.length_cons]; split <;> simp only [List.length_cons, List.length_nil] <;> omega
    exact this p
  refine ⟨?_, ?_, ?_, by rw [hn]; omega⟩
  all_goals
    simp only [crookeds, List.mem_cons, List.not_mem_nil, or_false] at hd
    cases p with
    | nil => simp at hh
    | cons x r =>
      have hx : x ≠ 47 := by rcases hh with hh | hh <;> simp at hh <;> omega
      rcases hd with e | e | e | e | e | e <;> rw [e]
      all_goals first
        | (refine Nat.le_trans hr ?_; omega)
        | (simp only [List.length_append, List.length_cons, List.length_nil] at hz ⊢; omega)
        | (unfold rep; rw [List.flatMap_cons, if_neg hx]; simp [hx])
        | simp [hx]
theorem dirs_ok (l : List Int) : ∀ p ∈ dirsL l, okP p := by
  intro p hp
  unfold dirsL at hp
  obtain ⟨n, hn, rfl⟩ := List.mem_map.mp hp
  have hn := List.mem_range.mp hn
  have hm : (meantL l).getD n [] ∈ meantL l := by rw [List.getD_eq_getElem?_getD, List.getElem?_eq_getElem hn]; exact List.getElem_mem _
  exact crooked_ok (gd_meant l _ hm) ((meantL_len l).2 _ hm) _
end IK
end

/-! part L6 -/
section
open PySem PySem.W PyProof.Rows
set_option Elab.async false
set_option linter.unusedVariables false
namespace IK
/-! the plain law, 6: what the reader answers -/
theorem sub_pre (f d : List Nat) : Txt.startswith (T f) (T d) = true ↔ f.take d.length = d := by
  unfold Txt.startswith
  rw [Bool.and_eq_true_iff, decide_eq_true_eq, T_len, T_len, StrLaws.subAt_eq, T_len]
  show _ ∧ ((f.drop 0).take d.length == d) = true ↔ _
  rw [List.drop_zero, beq_iff_eq]
  refine ⟨fun h => h.2, fun h => ⟨?_, h⟩⟩
  have := congrArg List.length h
  rw [List.length_take] at this
  omega
theorem under_iff (ds : List (List Nat)) (f : List Nat) : under ds f = outOf ds f := by
  rw [Bool.eq_iff_iff]
  unfold under outOf
  rw [List.any_eq_true]
  rw [Bool.not_eq_true', ← Bool.not_eq_true, List.isEmpty_iff, List.filter_eq_nil_iff]
  constructor
  · rintro ⟨d, hd, hs⟩ hn
    have hs := (sub_pre f (d ++ [47])).mp hs
    rw [List.length_append, List.length_singleton] at hs
    have hl : d.length < f.length := by
      have := congrArg List.length hs
      rw [List.length_take, List.length_append, List.length_singleton] at this
      omega
    have e1 : f.take d.length = d := by
      have := congrArg (List.take d.length) hs
      rwa [List.take_take, Nat.min_eq_left (by omega), List.take_left' rfl] at this
    have e2 : f[d.length]? = some 47 := by
      have := congrArg (fun l => l[d.length]?) hs
      rwa [List.getElem?_take_of_lt (by omega), List.getElem?_append_right (Nat.le_refl _), Nat.sub_self] at this
    refine hn d.length (List.mem_range.mpr hl) ?_
    rw [List.getD_eq_getElem?_getD, e2, e1]
    simp [hd]
  · intro hn
    by_cases hx : ∃ n, n < f.length ∧ f.getD n 0 = 47 ∧ f.take n ∈ ds
    · obtain ⟨n, h1, h2, h3⟩ := hx
      refine ⟨_, h3, (sub_pre _ _).mpr ?_⟩
      rw [List.length_append, List.length_singleton, List.length_take, Nat.min_eq_left (by omega)]
      rw [List.getD_eq_getElem?_getD, List.getElem?_eq_getElem h1] at h2
      rw [List.take_add_one, List.getElem?_eq_getElem h1]
      show f.take n ++ [f[n]] = f.take n ++ [47]
      rw [show f[n] = 47 by simpa using h2]
    · exfalso
      refine hn fun n hn' h => hx ⟨n, List.mem_range.mp hn', ?_⟩
      simpa using h
noncomputable def vl (ds : List (List Nat)) (f : List Nat) : Int := if under ds f then 1 else 0
noncomputable def fst1 (ds fs : List (List Nat)) (m : List Nat) : Option Int := (fs.find? fun g => modn g == m).map (vl ds)
theorem lookup_snoc {c : List (List Nat × Int)} {m m' : List Nat} {i : Int} (h : c.lookup m' = none ∨ True) : (c ++ [(m, i)]).lookup m' = match c.lookup m' with | some j => some j | none => if m' = m then some i else none := by
  induction c with
  | nil => 
    show (List.lookup m' [(m, i)]) = _
    rw [List.lookup_cons]
    by_cases e : m' = m
    · subst e; simp
    · rw [show (m' == m) = false by simpa using e]
      show none = if m' = m then some i else none
      rw [if_neg e]
  | cons p r ih =>
    obtain ⟨a, b⟩ := p
    rw [List.cons_append, List.lookup_cons, List.lookup_cons]
    cases e : (m' == a) with
    | true => rfl
    | false => exact ih (.inr trivial)
theorem cac_lookup (ds : List (List Nat)) (c : List (List Nat × Int)) (f : List Nat) (m : List Nat) : (cac ds c f (modn f)).lookup m = match c.lookup m with | some j => some j | none => if modn f = m then some (vl ds f) else none := by
  unfold cac
  cases e : c.lookup (modn f) with
  | some i =>
    dsimp only
    by_cases h : modn f = m
    · subst h; rw [e]
    · cases c.lookup m <;> simp [h]
  | none =>
    dsimp only
    rw [lookup_snoc (.inr trivial)]
    cases c.lookup m with
    | some j => rfl
    | none =>
      dsimp only
      by_cases h : modn f = m
      · rw [if_pos h, if_pos h.symm]; rfl
      · rw [if_neg h, if_neg (Ne.symm h)]
theorem cch_lookup (ds : List (List Nat)) (m : List Nat) : ∀ (fs : List (List Nat)) (c : List (List Nat × Int)), (cch ds fs c).lookup m = match c.lookup m with | some j => some j | none => fst1 ds fs m
  | [], c => by
    show c.lookup m = _
    cases c.lookup m <;> rfl
  | f :: r, c => by
    show (cch ds r (cac ds c f (modn f))).lookup m = _
    rw [cch_lookup ds m r, cac_lookup]
    cases c.lookup m with
    | some j => rfl
    | none =>
      dsimp only
      unfold fst1
      rw [List.find?_cons]
      by_cases h : modn f = m
      · rw [if_pos h, show (modn f == m) = true by simpa using h]; rfl
      · rw [if_neg h, show (modn f == m) = false by simpa using h]
theorem ans_eq (ds : List (List Nat)) (c : List (List Nat × Int)) (f : List Nat) : ans ds c f (modn f) = (match c.lookup (modn f) with | some j => j | none => vl ds f) := by
  unfold ans vl
  cases c.lookup (modn f) <;> rfl
theorem anss_eq (ds : List (List Nat)) : ∀ (fs : List (List Nat)) (c : List (List Nat × Int)), anss ds fs c = fs.map fun f => match c.lookup (modn f) with | some j => j | none => (fst1 ds fs (modn f)).getD 0
  | [], c => rfl
  | f :: r, c => by
    show ans ds c f (modn f) :: anss ds r (cac ds c f (modn f)) = _
    rw [anss_eq ds r, ans_eq, List.map_cons]
    congr 1
    · cases c.lookup (modn f) with
      | some j => rfl
      | none =>
        dsimp only
        unfold fst1
        rw [List.find?_cons, show (modn f == modn f) = true by simp]; rfl
    · refine List.map_congr_left fun g hg => ?_
      rw [cac_lookup]
      cases c.lookup (modn g) with
      | some j => rfl
      | none =>
        dsimp only
        unfold fst1
        rw [List.find?_cons]
        by_cases h : modn f = modn g
        · rw [if_pos h, show (modn f == modn g) = true by simpa using h]; rfl
        · rw [if_neg h, show (modn f == modn g) = false by simpa using h]
theorem stem_modn (f : List Nat) : stem f = modn f := stem_eq f
theorem modn_ne {f : List Nat} (h : Gd f) : modn f ≠ strg := by
  intro e
  have hl := h.last
  have e2 : (modn f).head? = some 60 := by rw [e]; rfl
  unfold modn stem0 at e2
  split at e2
  · generalize hb : lastc 47 f = b at hl e2
    rw [List.head?_take] at e2
    split at e2
    · cases e2
    · rw [e2] at hl; simp at hl
  · rw [e2] at hl; simp at hl
theorem c00_lookup {f : List Nat} (h : Gd f) : c00.lookup (modn f) = none := by
  show List.lookup (modn f) [(strg, 1)] = none
  rw [List.lookup_cons, show (modn f == strg) = false by simpa using modn_ne h]; rfl
theorem fst_some {ds fs : List (List Nat)} {f : List Nat} (h : f ∈ fs) : ∃ j, fst1 ds fs (modn f) = some j := by
  unfold fst1
  cases e : fs.find? fun g => modn g == modn f with
  | none => rw [List.find?_eq_none] at e; exact absurd (by simp) (e f h)
  | some g => exact ⟨_, rfl⟩
theorem anss_rev (ds fs : List (List Nat)) (h : ∀ f ∈ fs, Gd f) : anss ds fs.reverse (cch ds fs c00) = (anss ds fs c00).reverse := by
  rw [anss_eq, anss_eq, ← List.map_reverse]
  refine List.map_congr_left fun f hf => ?_
  rw [List.mem_reverse] at hf
  rw [cch_lookup, c00_lookup (h f hf)]
  obtain ⟨j, hj⟩ := fst_some (ds := ds) hf
  dsimp only
  rw [hj]; rfl
theorem anss_law (ds fs : List (List Nat)) (h : ∀ f ∈ fs, Gd f) : anss ds fs c00 = (fs.map stem).map fun s => if (fs.map (outOf ds)).getD ((fs.map stem).findIdx (· == s)) false then (1 : Int) else 0 := by
  rw [anss_eq, List.map_map]
  refine List.map_congr_left fun f hf => ?_
  rw [c00_lookup (h f hf)]
  dsimp only [Function.comp]
  have hlt : (fs.map stem).findIdx (· == stem f) < fs.length := by
    have := List.findIdx_lt_length_of_exists (xs := fs.map stem) (p := (· == stem f)) ⟨stem f, List.mem_map_of_mem hf, by simp⟩
    rwa [List.length_map] at this
  have hfi : (fs.map stem).findIdx (· == stem f) = fs.findIdx (fun g => modn g == modn f) := by
    rw [List.findIdx_map]
    congr 1
    funext g
    show (stem g == stem f) = _
    rw [stem_modn, stem_modn]
  rw [hfi] at hlt ⊢
  unfold fst1
  rw [List.find?_eq_getElem?_findIdx, List.getElem?_eq_getElem hlt, List.getD_eq_getElem?_getD, List.getElem?_map, List.getElem?_eq_getElem hlt]
  show vl ds _ = if outOf ds _ = true then (1 : Int) else 0
  unfold vl
  rw [under_iff]
end IK
end

/-! part L7 -/
section
open PySem PySem.W PyProof.Rows
set_option Elab.async false
set_option linter.unusedVariables false
namespace IK
/-! the plain law, 7: all told -/
noncomputable def tkP (k : Tk) : Prop := okT k ∧ 40 ∉ txt k
theorem tkP_lit {c : Nat} (h1 : c ≠ 42) (h2 : c ≠ 63) (h3 : c ≠ 91) (h4 : c ≠ 40) : tkP (.lit c) := by
  refine ⟨⟨h1, h2, h3⟩, ?_⟩
  show 40 ∉ esc c
  unfold esc
  split <;> simp <;> omega
theorem tkP_set {c : Nat} (h : c = 42 ∨ c = 63 ∨ c = 91) : tkP (.set c) := by
  refine ⟨h, ?_⟩
  show 40 ∉ (if c = 91 then [91, 92, 91, 93] else [91, c, 93])
  split <;> simp <;> omega
theorem tkP_ptk (k : Nat) (x : Int) : ∀ y ∈ ptk k (fr x), tkP y := by
  have hf := fr_ge x
  intro y hy
  unfold ptk at hy
  split at hy
  · cases List.mem_singleton.mp hy; exact ⟨trivial, by simp [txt]⟩
  · cases List.mem_singleton.mp hy; exact ⟨trivial, by simp [txt]⟩
  · cases List.mem_singleton.mp hy; exact tkP_lit (by decide) (by decide) (by decide) (by decide)
  · cases List.mem_singleton.mp hy; exact tkP_lit (by decide) (by decide) (by decide) (by decide)
  · cases List.mem_singleton.mp hy; exact tkP_lit (by decide) (by decide) (by decide) (by decide)
  · cases List.mem_singleton.mp hy; exact tkP_lit (by decide) (by decide) (by decide) (by decide)
  · cases List.mem_singleton.mp hy; exact ⟨trivial, by simp [txt]⟩
  · have hy := List.mem_singleton.mp hy
    split at hy
    · rename_i hm
      rw [hy]
      exact tkP_set (by simpa using hm)
    · rename_i hm
      rw [hy]
      simp only [List.mem_cons, List.not_mem_nil, or_false, not_or] at hm
      exact tkP_lit hm.1 hm.2.1 hm.2.2 (by omega)
  · rcases List.mem_cons.mp hy with rfl | hy
    · exact tkP_lit (by decide) (by decide) (by decide) (by decide)
    · cases List.mem_singleton.mp hy; exact tkP_lit (by decide) (by decide) (by decide) (by decide)
  · cases List.mem_singleton.mp hy; exact ⟨trivial, by simp [txt]⟩
  · cases hy
theorem tkP_all (l : List Int) : ∀ k ∈ dToks l ++ [Tk.lit 47, Tk.star], tkP k := by
  intro k hk
  rcases List.mem_append.mp hk with hk | hk
  · obtain ⟨x, _, hx⟩ := List.mem_flatMap.mp hk
    exact tkP_ptk _ _ _ hx
  · rcases List.mem_cons.mp hk with rfl | hk
    · exact tkP_lit (by decide) (by decide) (by decide) (by decide)
    · cases List.mem_singleton.mp hk; exact ⟨trivial, by simp [txt]⟩
theorem txt_len (k : Tk) : (txt k).length ≤ 4 := by
  cases k with
  | lit c => show (esc c).length ≤ 4; unfold esc; split <;> simp
  | set c => show (if c = 91 then [91, 92, 91, 93] else [91, c, 93]).length ≤ 4; split <;> simp
  | _ => simp [txt]
theorem row_len (g : List Tk) : (g.map txt).flatten.length ≤ 4 * g.length := by
  induction g with
  | nil => simp
  | cons k g ih =>
    have := txt_len k
    simp only [List.map_cons, List.flatten_cons, List.length_append, List.length_cons]; omega
theorem row_free {g : List Tk} (h : ∀ k ∈ g, tkP k ∧ k ≠ .star) : 40 ∉ (g.map txt).flatten := by
  intro hm
  obtain ⟨y, hy, hm⟩ := List.mem_flatten.mp hm
  obtain ⟨k, hk, rfl⟩ := List.mem_map.mp hy
  exact (h k hk).1.2 hm
theorem out_len (g0 : List Tk) : ∀ gs : List (List Tk), ((gs.map fun g => g.map txt).map gtxt).flatten.length ≤ 7 * gs.length + 4 * gs.flatten.length
  | [] => by simp
  | g :: gs => by
    have := out_len g0 gs
    have h2 := row_len g
    have h3 : (gtxt (g.map txt)).length = (g.map txt).flatten.length + 7 := by unfold gtxt; simp only [List.length_append, List.length_cons, List.length_nil]; omega
    simp only [List.map_cons, List.flatten_cons, List.length_append, List.length_cons]
    omega
theorem plain (l : List Int) (hl : l.length ≤ 63) : ∃ f0 gs, PL l f0 gs := by
  obtain ⟨g0, gs, e⟩ := cut_star (dToks l ++ [.lit 47])
  rw [List.append_assoc] at e
  have e : cutT (dToks l ++ [.lit 47, .star]) = (g0 :: gs, []) := e
  have G := ginv_cut (p := tkP) (tkP_all l)
  rw [e] at G
  obtain ⟨h1, h2, h3, h4⟩ := G
  have hlt : (dToks l).length ≤ 20 := (toks_len l 10 (Nat.le_refl _)).1
  simp only [List.length_append, List.length_cons, List.length_nil, List.flatten_cons] at h4
  have hgl : ∀ g ∈ gs, g.length ≤ 22 := fun g hg => by
    have : g.length ≤ gs.flatten.length := (List.sublist_flatten_of_mem hg).length_le
    omega
  have hrows : rowsOf (g0.map txt) (gs.map fun g => g.map txt) = rowG (g0 :: gs) := by
    unfold rowsOf rowG
    rw [List.map_cons, List.map_cons, items_row g0 fun k hk => ⟨(h2 g0 (.head _) k hk).1.1, (h2 g0 (.head _) k hk).2⟩, List.map_map, List.map_map]
    congr 1
    refine List.map_congr_left fun g hg => ?_
    exact items_row g fun k hk => ⟨(h2 g (.tail _ hg) k hk).1.1, (h2 g (.tail _ hg) k hk).2⟩
  have htl : ((g0.map txt).map some ++ tl (gs.map fun g => g.map txt)).length ≤ 1000 := by
    rw [← fold_cut e]
    have : ∀ (ts : List Tk) (r : List (Option (List Nat))), (ts.foldl pushT r).length ≤ r.length + ts.length := fun ts => by
      induction ts with
      | nil => intro r; simp
      | cons k ts ih =>
        intro r
        have := ih (pushT r k)
        have hp : (pushT r k).length ≤ r.length + 1 := by cases k <;> simp only [pushT] <;> first | (split <;> simp) | simp
        simp only [List.foldl_cons, List.length_cons]; omega
    have := this (dToks l ++ [.lit 47, .star]) []
    simp only [List.length_append, List.length_cons, List.length_nil] at this
    omega
  have hgtx : ∀ g ∈ gs.map (fun g => g.map txt), g ≠ [] ∧ g.length ≤ 22 ∧ g.flatten.length ≤ 88 ∧ ∀ x ∈ g, x.length ≤ 10 := by
    intro g hg
    obtain ⟨g', hg', rfl⟩ := List.mem_map.mp hg
    have hl' := hgl g' hg'
    have hr := row_len g'
    refine ⟨fun q => h1 g' hg' (List.map_eq_nil_iff.mp q), by rw [List.length_map]; exact hl', by omega, fun x hx => ?_⟩
    obtain ⟨k, _, rfl⟩ := List.mem_map.mp hx
    exact Nat.le_trans (txt_len k) (by decide)
  have hr0 := row_len g0
  have hol := out_len g0 gs
  refine ⟨g0.map txt, gs.map fun g => g.map txt, ?_⟩
  exact {
    toks := fun k hk => (tkP_all l k hk).1
    fold := fold_cut e
    zf := htl
    hg := fun g hg => let ⟨a, b, c, d⟩ := hgtx g hg; ⟨a, by omega, by omega, d⟩
    hl := fun x hx => by
      unfold out0 at hx
      simp only [List.mem_append, List.mem_singleton] at hx
      rcases hx with (hx | hx) | rfl
      · obtain ⟨k, _, rfl⟩ := List.mem_map.mp hx
        exact Nat.le_trans (txt_len k) (by decide)
      · obtain ⟨g, hg, rfl⟩ := List.mem_map.mp hx
        have := (hgtx g hg).2.2.1
        unfold gtxt
        simp only [List.length_append, List.length_cons, List.length_nil]; omega
      · decide
    hol := by
      unfold out0
      simp only [List.length_append, List.length_map, List.length_cons, List.length_nil]; omega
    len := by
      unfold txtOf out0
      simp only [List.flatten_append, List.length_append, List.length_cons, List.length_nil, List.flatten_cons, List.flatten_nil]; omega
    drop := txtOf_drop _ _
    split := txtOf_split (row_free (h2 g0 (.head _))) fun g hg => by
      obtain ⟨g', hg', rfl⟩ := List.mem_map.mp hg
      exact row_free (h2 g' (.tail _ hg'))
    rlen := by rw [hrows]; unfold rowG; rw [List.length_map, List.length_cons]; omega
    rows := fun r hr => by
      rw [hrows] at hr
      unfold rowG at hr
      obtain ⟨g, hg, rfl⟩ := List.mem_map.mp hr
      rw [List.length_map]
      rcases List.mem_cons.mp hg with rfl | hg
      · omega
      · have := hgl g hg; omega
    md := fun f hf => by rcases (gd_files l f hf).last with h | h <;> rw [h] <;> simp
    cr := dirs_ok l
    out := by
      unfold outL
      refine List.map_congr_left fun f hf => ?_
      rw [hrows, Bool.eq_iff_iff, mats_iff (by simp) e f]
      unfold outOf
      rw [Bool.not_eq_true', ← Bool.not_eq_true, List.isEmpty_iff, List.filter_eq_nil_iff]
      have hmem : ∀ n, f[n]? = some 47 → (f.take n ∈ meantL l ↔ takes (rowL l) (f.take n) = true) := fun n hn => by
        unfold meantL
        rw [List.mem_filter]
        exact ⟨fun h => h.2, fun h => ⟨List.mem_flatMap.mpr ⟨f, hf, above_iff.mpr ⟨n, hn, rfl⟩⟩, h⟩⟩
      constructor
      · intro hn
        by_cases hx : ∃ n, n < f.length ∧ f[n]? = some 47 ∧ takes ((dToks l).map told1) (f.take n) = true
        · exact hx
        · exfalso
          refine hn fun n hn' h => hx ⟨n, List.mem_range.mp hn', ?_⟩
          obtain ⟨q1, q2⟩ := Bool.and_eq_true_iff.mp h
          have hlt := List.mem_range.mp hn'
          have e47 : f[n]? = some 47 := by
            rw [List.getD_eq_getElem?_getD, List.getElem?_eq_getElem hlt] at q1
            rw [List.getElem?_eq_getElem hlt]
            exact congrArg some (by simpa using q1)
          exact ⟨e47, (hmem n e47).mp (of_decide_eq_true q2)⟩
      · rintro ⟨n, q1, q2, q3⟩ hn
        refine hn n (List.mem_range.mpr q1) (Bool.and_eq_true_iff.mpr ⟨?_, decide_eq_true ((hmem n q2).mpr q3)⟩)
        rw [List.getD_eq_getElem?_getD, q2]; rfl
    ans := by rw [dirs_norm]; exact anss_law _ _ (gd_files l)
    rev := by rw [dirs_norm]; exact anss_rev _ _ (gd_files l) }
end IK
end

theorem PySem.Challenge.cw_ik0035_01_holds : PySem.Challenge.rw_ik0035_01.Holds := by
  exact IK.top IK.plain
