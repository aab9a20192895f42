import PyProof.Rows.All
import Wide.All
import OpenK.AllK
import Wide.FinOn
import KE.KWhile
import KE.KPar
import KE.KOpsOwn
import KE.KSlice
import KE.KItem
import PySem.Challenge.RW_re0142_01
set_option Elab.async false
set_option maxRecDepth 100000
set_option maxHeartbeats 0
set_option linter.unusedVariables false
namespace Mine
section
open PySem PySem.W PyProof.Rows
open_top hd for PySem.Challenge.rw_re0142_01
end
section
open PySem PySem.W PyProof.Rows PySem.Spec PySem.Calls

/-- two lists, item by item -/
inductive Fa2 {α β : Type} (R : α → β → Prop) : List α → List β → Prop
  | nil : Fa2 R [] []
  | cons {a b l m} : R a b → Fa2 R l m → Fa2 R (a :: l) (b :: m)

namespace Fa2
variable {α β : Type} {R S : α → β → Prop}
theorem length {l : List α} {m : List β} (h : Fa2 R l m) : l.length = m.length := by
  induction h with
  | nil => rfl
  | cons _ _ ih => simp [ih]
theorem mono {l : List α} {m : List β} (h : Fa2 R l m) (k : ∀ a b, R a b → S a b) : Fa2 S l m := by
  induction h with
  | nil => exact .nil
  | cons r _ ih => exact .cons (k _ _ r) ih
theorem get {l : List α} {m : List β} (h : Fa2 R l m) {i : Nat} {a : α} (e : l[i]? = some a) : ∃ b, m[i]? = some b ∧ R a b := by
  induction h generalizing i with
  | nil => simp at e
  | cons r _ ih =>
    cases i with
    | zero => simp at e; subst e; exact ⟨_, rfl, r⟩
    | succ i => simp at e; obtain ⟨b, hb, hr⟩ := ih e; exact ⟨b, by simpa using hb, hr⟩
theorem get' {l : List α} {m : List β} (h : Fa2 R l m) {i : Nat} {b : β} (e : m[i]? = some b) : ∃ a, l[i]? = some a ∧ R a b := by
  induction h generalizing i with
  | nil => simp at e
  | cons r _ ih =>
    cases i with
    | zero => simp at e; subst e; exact ⟨_, rfl, r⟩
    | succ i => simp at e; obtain ⟨b, hb, hr⟩ := ih e; exact ⟨b, by simpa using hb, hr⟩
theorem append {l l' : List α} {m m' : List β} (h : Fa2 R l m) (h' : Fa2 R l' m') : Fa2 R (l ++ l') (m ++ m') := by
  induction h with
  | nil => exact h'
  | cons r _ ih => exact .cons r ih
theorem one {a : α} {b : β} (r : R a b) : Fa2 R [a] [b] := .cons r .nil
theorem set {l : List α} {m : List β} (h : Fa2 R l m) {i : Nat} {a : α} {b : β} (r : R a b) : Fa2 R (l.set i a) (m.set i b) := by
  induction h generalizing i with
  | nil => exact .nil
  | cons r' t ih =>
    cases i with
    | zero => exact .cons r t
    | succ i => exact .cons r' ih
theorem take {l : List α} {m : List β} (h : Fa2 R l m) (i : Nat) : Fa2 R (l.take i) (m.take i) := by
  induction h generalizing i with
  | nil => simp; exact .nil
  | cons r' t ih =>
    cases i with
    | zero => exact .nil
    | succ i => exact .cons r' (ih i)
theorem drop {l : List α} {m : List β} (h : Fa2 R l m) (i : Nat) : Fa2 R (l.drop i) (m.drop i) := by
  induction h generalizing i with
  | nil => simp; exact .nil
  | cons r' t ih =>
    cases i with
    | zero => exact .cons r' t
    | succ i => exact ih i
theorem of_get {l : List α} {m : List β} (hl : l.length = m.length) (h : ∀ (i : Nat) a b, l[i]? = some a → m[i]? = some b → R a b) : Fa2 R l m := by
  induction l generalizing m with
  | nil => cases m with
    | nil => exact .nil
    | cons => simp at hl
  | cons a l ih => cases m with
    | nil => simp at hl
    | cons b m =>
      refine .cons (h 0 a b rfl rfl) (ih (by simpa using hl) fun i x y hx hy => h (i + 1) x y (by simpa using hx) (by simpa using hy))
theorem map_left {γ : Type} {f : γ → α} {l : List γ} {m : List β} (h : Fa2 (fun c b => R (f c) b) l m) : Fa2 R (l.map f) m := by
  induction h with
  | nil => exact .nil
  | cons r _ ih => exact .cons r ih
theorem of_map_left {γ : Type} {f : γ → α} {l : List γ} {m : List β} (h : Fa2 R (l.map f) m) : Fa2 (fun c b => R (f c) b) l m := by
  induction l generalizing m with
  | nil => cases h; exact .nil
  | cons c l ih => cases h with
    | cons r t => exact .cons r (ih t)
end Fa2

/-- plain values -/
inductive FV
  | none | bool (b : Bool) | int (i : Int) | str (s : PySem.Str)
/-- values: plain ones, an object of the store, a tuple of plain ones, a value of the top's -/
inductive MV
  | at (v : FV) | ref (i : Nat) | tup (vs : List FV) | lit (v : Value)
@[reducible] def MV.none : MV := .at .none
@[reducible] def MV.bool (b : Bool) : MV := .at (.bool b)
@[reducible] def MV.int (i : Int) : MV := .at (.int i)
@[reducible] def MV.str (s : PySem.Str) : MV := .at (.str s)
/-- objects of the store -/
inductive MO
  | list (vs : List MV) | inst (C : Addr) (d : Nat) | dict (kv : List (PySem.Str × MV)) | cell (v : Option MV)

def RF : FV → Value → Prop
  | .none, v => v = .none
  | .bool b, v => v = .bool b
  | .int i, v => ∃ t, v = .int i t
  | .str s, v => ∃ t, v = .str s t
def RV (h : Heap) (ρ : List Addr) : MV → Value → Prop
  | .at x, v => RF x v
  | .ref i, v => ∃ a, ρ[i]? = some a ∧ v = .ref a
  | .tup xs, v => ∃ a o items n, v = .ref a ∧ h.get? a = some o ∧ o.cls = .type "tuple" ∧ o.data = .seq items n ∧ Fa2 RF xs items.toList
  | .lit x, v => v = x
def RO (h : Heap) (ρ : List Addr) : MO → Obj → Prop
  | .list vs, o => ∃ items n, o = { cls := .type "list", dict := Option.none, data := .seq items n, slots := #[] } ∧ Fa2 (RV h ρ) vs items.toList
  | .inst C d, o => ∃ a, ρ[d]? = some a ∧ o = instObj C a
  | .dict kv, o => ∃ es n, o = dictOf es n ∧ Fa2 (fun (p : PySem.Str × MV) (e : DictEntry) => (∃ t, e.key = .str p.1 t) ∧ RV h ρ p.2 e.val) kv es
  | .cell v, o => ∃ v', o.data = .cell v' ∧ (match v with | .some x => ∃ y, v' = .some y ∧ RV h ρ x y | .none => v' = .none)

/-- what is a tuple stays -/
def TupKeep (h h' : Heap) : Prop := ∀ a o items n, h.get? a = some o → o.cls = .type "tuple" → o.data = .seq items n → h'.get? a = some o
theorem TupKeep.refl (h : Heap) : TupKeep h h := fun _ _ _ _ e _ _ => e
theorem TupKeep.of_keep {h h' : Heap} (k : ∀ b o, h.get? b = some o → h'.get? b = some o) : TupKeep h h' := fun a o _ _ e _ _ => k a o e

theorem RV.mono {h h' : Heap} {ρ ρ' : List Addr} {x : MV} {v : Value} (r : RV h ρ x v) (k : TupKeep h h') (p : ρ <+: ρ') : RV h' ρ' x v := by
  cases x with
  | «at» x => exact r
  | ref i =>
    obtain ⟨a, e, rfl⟩ := r
    obtain ⟨t, rfl⟩ := p
    refine ⟨a, ?_, rfl⟩
    rw [List.getElem?_append_left (List.getElem?_eq_some_iff.mp e).1]
    exact e
  | tup xs =>
    obtain ⟨a, o, items, n, rfl, e, c, d, f⟩ := r
    exact ⟨a, o, items, n, rfl, k a o items n e c d, c, d, f⟩
  | lit x => exact r
theorem RO.mono {h h' : Heap} {ρ ρ' : List Addr} {x : MO} {o : Obj} (r : RO h ρ x o) (k : TupKeep h h') (p : ρ <+: ρ') : RO h' ρ' x o := by
  cases x with
  | list vs =>
    obtain ⟨items, n, d, f⟩ := r
    exact ⟨items, n, d, f.mono fun a b q => q.mono k p⟩
  | inst C d =>
    obtain ⟨a, e, rfl⟩ := r
    have : RV h' ρ' (.ref d) (.ref a) := RV.mono (h := h) (x := .ref d) ⟨a, e, rfl⟩ k p
    obtain ⟨a', e', q⟩ := this
    cases q
    exact ⟨a, e', rfl⟩
  | dict kv =>
    obtain ⟨es, n, rfl, f⟩ := r
    exact ⟨es, n, rfl, f.mono fun a b q => ⟨q.1, q.2.mono k p⟩⟩
  | cell v =>
    obtain ⟨v', d, f⟩ := r
    refine ⟨v', d, ?_⟩
    cases v with
    | none => exact f
    | some x => obtain ⟨y, e, q⟩ := f; exact ⟨y, e, q.mono k p⟩
def NoTup (o : Obj) : Prop := ∀ items n, o.cls = .type "tuple" → o.data = .seq items n → False
theorem RO.not_tuple {h : Heap} {ρ : List Addr} {x : MO} {o : Obj} (r : RO h ρ x o) : NoTup o := by
  intro items n c d
  cases x with
  | list vs => obtain ⟨its, m, rfl, _⟩ := r; injection c with c; exact absurd c (by decide)
  | inst C d => obtain ⟨a, _, rfl⟩ := r; cases c
  | dict kv => obtain ⟨es, n, rfl, _⟩ := r; cases d
  | cell v => obtain ⟨v', e, _⟩ := r; rw [e] at d; cases d

/-- a frame's names, the cells it sees, the store -/
structure St where
  loc : List (PySem.Str × MV)
  cel : List (PySem.Str × Nat)
  st : List MO

def setL (x : PySem.Str) (v : MV) : List (PySem.Str × MV) → List (PySem.Str × MV)
  | [] => [(x, v)]
  | (y, u) :: r => if x == y then (x, v) :: r else (y, u) :: setL x v r
theorem setL_lookup (x : PySem.Str) (v : MV) (l : List (PySem.Str × MV)) (y : PySem.Str) : (setL x v l).lookup y = if y = x then some v else l.lookup y := by
  induction l with
  | nil =>
    unfold setL
    rw [List.lookup_cons]
    by_cases h : y = x
    · subst h; simp
    · have : (y == x) = false := beq_eq_false_iff_ne.mpr h
      rw [this, if_neg h]
  | cons p r ih =>
    obtain ⟨z, u⟩ := p
    unfold setL
    by_cases hz : (x == z) = true
    · rw [if_pos hz]
      have e : x = z := eq_of_beq hz
      subst e
      rw [List.lookup_cons, List.lookup_cons]
      by_cases h : y = x
      · subst h; simp
      · have : (y == x) = false := beq_eq_false_iff_ne.mpr h
        rw [this, if_neg h]
    · rw [if_neg hz, List.lookup_cons, List.lookup_cons, ih]
      by_cases h : y = x
      · subst h
        have : (y == z) = false := by simpa using hz
        rw [this, if_pos rfl]
      · simp only [if_neg h]

/-- the store and the frame, as the heap bears them -/
structure Rel (h₀ : Heap) (L : Addr) (cl : List (PySem.Str × Addr)) (ρ : List Addr) (σ : St) (h : Heap) : Prop where
  ex : ∃ m objs, Fr h₀ L h m ∧ News h₀ L h (ρ.zip objs) ∧ objs.length = ρ.length ∧ Fa2 (RO h ρ) σ.st objs ∧
    ∀ x v, σ.loc.lookup x = some v → ∃ v', m x = some v' ∧ RV h ρ v v'
  nodup : ρ.Nodup
  cells : ∀ x i, σ.cel.lookup x = some i → ∃ a, cl.lookup x = some a ∧ ρ[i]? = some a

section
variable {h₀ h h' : Heap} {L : Addr} {cl : List (PySem.Str × Addr)} {ρ ρ' : List Addr} {σ : St}

theorem zip_mem {ρ : List Addr} {objs : List Obj} {i : Nat} {a : Addr} {o : Obj} (h1 : ρ[i]? = some a) (h2 : objs[i]? = some o) : (a, o) ∈ ρ.zip objs := by
  have : (ρ.zip objs)[i]? = some (a, o) := by rw [List.getElem?_zip_eq_some]; exact ⟨h1, h2⟩
  exact List.mem_of_getElem? this

theorem Rel.len (R : Rel h₀ L cl ρ σ h) : σ.st.length = ρ.length := by
  obtain ⟨_, objs, _, _, e, f, _⟩ := R.ex
  rw [f.length, e]
theorem Rel.obj (R : Rel h₀ L cl ρ σ h) {i : Nat} {x : MO} (e : σ.st[i]? = some x) : ∃ a o, ρ[i]? = some a ∧ h.get? a = some o ∧ RO h ρ x o ∧ a ≠ L ∧ h₀.get? a = none := by
  obtain ⟨_, objs, _, N, el, f, _⟩ := R.ex
  obtain ⟨o, ho, r⟩ := f.get e
  have hi : i < ρ.length := by rw [← el]; exact (List.getElem?_eq_some_iff.mp ho).1
  have ha : ρ[i]? = some ρ[i] := List.getElem?_eq_getElem hi
  have z := N _ (zip_mem ha ho)
  exact ⟨_, o, ha, z.1, r, z.2.1, z.2.2⟩
theorem Rel.local (R : Rel h₀ L cl ρ σ h) {x : PySem.Str} {v : MV} (e : σ.loc.lookup x = some v) : ∃ m v', Fr h₀ L h m ∧ m x = some v' ∧ RV h ρ v v' := by
  obtain ⟨m, _, F, _, _, _, l⟩ := R.ex
  obtain ⟨v', a, b⟩ := l x v e
  exact ⟨m, v', F, a, b⟩
theorem Rel.keep₀ (R : Rel h₀ L cl ρ σ h) : ∀ b o, h₀.get? b = some o → h.get? b = some o := by
  obtain ⟨_, _, F, _⟩ := R.ex
  exact F.keep
theorem Rel.ns (R : Rel h₀ L cl ρ σ h) : ∃ m, h.Ns L m := by
  obtain ⟨m, _, F, _⟩ := R.ex
  exact ⟨m, F.ns⟩
theorem Rel.above (R : Rel h₀ L cl ρ σ h) : h₀.objs.size ≤ L := by
  obtain ⟨m, _, F, _⟩ := R.ex
  exact F.above
theorem Rel.low (R : Rel h₀ L cl ρ σ h) {a : Addr} (e : a ∈ ρ) : ∃ o, h.get? a = some o ∧ NoTup o ∧ a ≠ L ∧ h₀.get? a = none := by
  obtain ⟨i, hi, e⟩ := List.getElem_of_mem e
  have hs : i < σ.st.length := by rw [R.len]; exact hi
  obtain ⟨a', o, ha', ho, r, n1, n2⟩ := R.obj (List.getElem?_eq_getElem hs)
  have : a' = a := by rw [List.getElem?_eq_getElem hi] at ha'; rw [← e]; exact (Option.some.inj ha').symm
  subst this
  exact ⟨o, ho, r.not_tuple, n1, n2⟩

/-- nothing turned -/
theorem Rel.keep (R : Rel h₀ L cl ρ σ h) (k : ∀ b o, h.get? b = some o → h'.get? b = some o) : Rel h₀ L cl ρ σ h' := by
  obtain ⟨⟨m, objs, F, N, el, f, l⟩, nd, ce⟩ := R
  have tk := TupKeep.of_keep k
  refine ⟨⟨m, objs, ⟨?_, fun b o e => k b o (F.keep b o e), F.above⟩, fun p hp => ⟨k _ _ (N p hp).1, (N p hp).2⟩, el, f.mono fun _ _ r => r.mono tk (List.prefix_refl _), fun x v e => ?_⟩, nd, ce⟩
  · obtain ⟨o, es, ep, ho, r⟩ := F.ns; exact ⟨o, es, ep, k _ _ ho, r⟩
  · obtain ⟨v', a, b⟩ := l x v e; exact ⟨v', a, b.mono tk (List.prefix_refl _)⟩

/-- one object turned -/
theorem Rel.upd (R : Rel h₀ L cl ρ σ h) {i : Nat} {a : Addr} {o' : Obj} {x' : MO} (ha : ρ[i]? = some a) (hi : i < σ.st.length) (k : ∀ b o, b ≠ a → h.get? b = some o → h'.get? b = some o) (e' : h'.get? a = some o')
    (r' : RO h' ρ x' o') : Rel h₀ L cl ρ { σ with st := σ.st.set i x' } h' := by
  have hlow := R.low (List.mem_of_getElem? ha)
  obtain ⟨⟨m, objs, F, N, el, f, l⟩, nd, ce⟩ := R
  obtain ⟨o, ho, nt, nL, n0⟩ := hlow
  have tk : TupKeep h h' := fun b ob _ _ e c d => by
    by_cases q : b = a
    · subst q; rw [ho] at e; cases e; exact (nt _ _ c d).elim
    · exact k b ob q e
  refine ⟨⟨m, objs.set i o', ⟨?_, fun b ob e => k b ob ?_ (F.keep b ob e), F.above⟩, ?_, by rw [List.length_set, el], ?_, fun x v e => ?_⟩, nd, ce⟩
  · obtain ⟨oL, es, ep, hL, r⟩ := F.ns; exact ⟨oL, es, ep, k _ _ (Ne.symm nL) hL, r⟩
  · intro q; subst q; rw [n0] at e; cases e
  · intro p hp
    obtain ⟨j, hj, e⟩ := List.getElem_of_mem hp
    have e2 : (ρ.zip (objs.set i o'))[j]? = some p := by rw [List.getElem?_eq_getElem hj, e]
    rw [List.getElem?_zip_eq_some] at e2
    obtain ⟨e3, e4⟩ := e2
    by_cases q : i = j
    · subst q
      rw [ha] at e3
      have : p.1 = a := (Option.some.inj e3).symm
      rw [this]
      rw [List.getElem?_set_self (by rw [el]; exact (List.getElem?_eq_some_iff.mp ha).1)] at e4
      rw [← Option.some.inj e4]
      exact ⟨e', nL, n0⟩
    · rw [List.getElem?_set_ne q] at e4
      have z := N p (zip_mem e3 e4)
      refine ⟨k _ _ (fun w => q ?_) z.1, z.2⟩
      have h1 := List.getElem?_eq_some_iff.mp ha
      exact (List.getElem?_inj h1.1 nd).mp (by rw [ha, e3, w])
  · refine Fa2.set (f.mono fun _ _ r => r.mono tk (List.prefix_refl _)) r'
  · obtain ⟨v', b, c⟩ := l x v e; exact ⟨v', b, c.mono tk (List.prefix_refl _)⟩

/-- a name of the frame's stored -/
theorem Rel.set (R : Rel h₀ L cl ρ σ h) {x : PySem.Str} {v : MV} {v' : Value} (rv : RV h ρ v v') (hn : ∀ m, h.Ns L m → h'.Ns L (fun y => if y = x then some v' else m y)) (hs : Heap.SameBut L h h') :
    Rel h₀ L cl ρ { σ with loc := setL x v σ.loc } h' := by
  have low := fun a (q : a ∈ ρ) => R.low q
  obtain ⟨⟨m, objs, F, N, el, f, l⟩, nd, ce⟩ := R
  obtain ⟨oL, es, ep, hL, hd, _⟩ := id F.ns
  have tk : TupKeep h h' := fun b ob _ _ e _ d => by
    by_cases q : b = L
    · subst q
      rw [hL] at e; cases e; rw [hd] at d; cases d
    · exact (hs.2 b q).trans e
  refine ⟨⟨_, objs, F.set (hn m F.ns) hs, N.set hs, el, f.mono fun _ _ r => r.mono tk (List.prefix_refl _), fun y u e => ?_⟩, nd, ce⟩
  rw [setL_lookup] at e
  by_cases q : y = x
  · subst q
    rw [if_pos rfl] at e
    cases e
    exact ⟨v', by simp, rv.mono tk (List.prefix_refl _)⟩
  · rw [if_neg q] at e
    obtain ⟨u', b, c⟩ := l y u e
    exact ⟨u', by simp [q, b], c.mono tk (List.prefix_refl _)⟩

/-- a new object onto the store -/
theorem Rel.new (R : Rel h₀ L cl ρ σ h) {a : Addr} {o : Obj} {x : MO} (k : ∀ b o, h.get? b = some o → h'.get? b = some o) (hn : h.get? a = none) (e : h'.get? a = some o) (r : RO h' (ρ ++ [a]) x o) :
    Rel h₀ L cl (ρ ++ [a]) { σ with st := σ.st ++ [x] } h' := by
  have low := fun a (q : a ∈ ρ) => R.low q
  obtain ⟨⟨m, objs, F, N, el, f, l⟩, nd, ce⟩ := R.keep k
  have tk := TupKeep.refl h'
  have na : a ∉ ρ := fun q => by obtain ⟨o', e', _⟩ := low a q; rw [hn] at e'; cases e'
  have pf : ρ <+: ρ ++ [a] := List.prefix_append _ _
  refine ⟨⟨m, objs ++ [o], F, fun p hp => ?_, by simp [el], (f.mono fun _ _ r => r.mono tk pf).append (.one r), fun x v e => ?_⟩, ?_, fun x i e => ?_⟩
  · rw [List.zip_append el.symm] at hp
    rcases List.mem_append.mp hp with hp | hp
    · exact N p hp
    · rw [List.zip_cons_cons, List.zip_nil_left, List.mem_singleton] at hp
      subst hp
      refine ⟨e, fun q => ?_, ?_⟩
      · obtain ⟨m', objs', F', _⟩ := R.ex
        obtain ⟨oL, _, _, hL, _⟩ := F'.ns
        have q : a = L := q
        rw [q, hL] at hn; cases hn
      · show h₀.get? a = none
        cases q : h₀.get? a with
        | none => rfl
        | some o' => have := R.keep₀ a o' q; rw [hn] at this; cases this
  · obtain ⟨v', b, c⟩ := l x v e; exact ⟨v', b, c.mono tk pf⟩
  · rw [List.nodup_append]
    exact ⟨nd, by simp, fun x hx y hy => by rw [List.mem_singleton.mp hy]; exact fun q => na (q ▸ hx)⟩
  · obtain ⟨b, h1, h2⟩ := ce x i e
    exact ⟨b, h1, by rw [List.getElem?_append_left (List.getElem?_eq_some_iff.mp h2).1]; exact h2⟩

/-- a value that speaks of the first n objects alone -/
def MV.low (n : Nat) : MV → Prop
  | .ref i => i < n
  | _ => True
def MO.low (n : Nat) : MO → Prop
  | .list vs => ∀ v ∈ vs, v.low n
  | .inst _ d => d < n
  | .dict kv => ∀ p ∈ kv, p.2.low n
  | .cell (some v) => v.low n
  | .cell .none => True
theorem RV.drop {ρ t : List Addr} {x : MV} {v : Value} (r : RV h (ρ ++ t) x v) (hl : x.low ρ.length) : RV h ρ x v := by
  cases x with
  | ref i =>
    obtain ⟨a, e, rfl⟩ := r
    rw [List.getElem?_append_left hl] at e
    exact ⟨a, e, rfl⟩
  | «at» x => exact r
  | tup xs => exact r
  | lit x => exact r
theorem Fa2.mono_mem {α β : Type} {R S : α → β → Prop} {l : List α} {m : List β} (h : Fa2 R l m) (k : ∀ a ∈ l, ∀ b, R a b → S a b) : Fa2 S l m := by
  induction h with
  | nil => exact .nil
  | cons r _ ih => exact .cons (k _ (.head _) _ r) (ih fun a ha b => k a (.tail _ ha) b)
theorem RO.drop {ρ t : List Addr} {x : MO} {o : Obj} (r : RO h (ρ ++ t) x o) (hl : x.low ρ.length) : RO h ρ x o := by
  cases x with
  | list vs =>
    obtain ⟨items, n, d, f⟩ := r
    exact ⟨items, n, d, f.mono_mem fun a ha b q => q.drop (hl a ha)⟩
  | inst C d =>
    obtain ⟨a, e, rfl⟩ := r
    rw [List.getElem?_append_left hl] at e
    exact ⟨a, e, rfl⟩
  | dict kv =>
    obtain ⟨es, n, rfl, f⟩ := r
    exact ⟨es, n, rfl, f.mono_mem fun a ha b q => ⟨q.1, q.2.drop (hl a ha)⟩⟩
  | cell v =>
    obtain ⟨v', d, f⟩ := r
    refine ⟨v', d, ?_⟩
    cases v with
    | none => exact f
    | some x => obtain ⟨y, e, q⟩ := f; exact ⟨y, e, q.drop hl⟩

/-- the last objects of the store forgotten, and names -/
theorem Rel.forget {t : List Addr} {σ' : St} {sx : List MO} (R : Rel h₀ L cl (ρ ++ t) σ h) (hst : σ.st = σ'.st ++ sx) (hlen : σ'.st.length = ρ.length) (hlow : ∀ x ∈ σ'.st, x.low ρ.length)
    (hloc : ∀ x v, σ'.loc.lookup x = some v → σ.loc.lookup x = some v ∧ v.low ρ.length) (hcel : ∀ x i, σ'.cel.lookup x = some i → σ.cel.lookup x = some i ∧ i < ρ.length) : Rel h₀ L cl ρ σ' h := by
  obtain ⟨⟨m, objs, F, N, el, f, l⟩, nd, ce⟩ := R
  rw [hst] at f
  have fl := f.length
  rw [List.length_append] at fl
  have hk : ρ.length ≤ objs.length := by omega
  refine ⟨⟨m, objs.take ρ.length, F, fun p hp => N p ?_, by rw [List.length_take]; omega, ?_, fun x v e => ?_⟩, (List.nodup_append.mp nd).1, fun x i e => ?_⟩
  · obtain ⟨j, hj, e⟩ := List.getElem_of_mem hp
    have e2 : (ρ.zip (objs.take ρ.length))[j]? = some p := by rw [List.getElem?_eq_getElem hj, e]
    rw [List.getElem?_zip_eq_some] at e2
    obtain ⟨e3, e4⟩ := e2
    have hj' : j < ρ.length := (List.getElem?_eq_some_iff.mp e3).1
    rw [List.getElem?_take_of_lt hj'] at e4
    exact zip_mem (by rw [List.getElem?_append_left hj']; exact e3) e4
  · have z := f.take ρ.length
    rw [← hlen, List.take_left] at z
    rw [← hlen]
    rw [← hlen] at hlow
    exact z.mono_mem fun a ha b r => RO.drop r (by have := hlow a ha; rwa [hlen] at this)
  · obtain ⟨e1, e2⟩ := hloc x v e
    obtain ⟨v', b, c⟩ := l x v e1
    exact ⟨v', b, c.drop e2⟩
  · obtain ⟨e1, e2⟩ := hcel x i e
    obtain ⟨a, b, c⟩ := ce x i e1
    rw [List.getElem?_append_left e2] at c
    exact ⟨a, b, c⟩
end

/-- the generators: what was stays, what is new is done -/
structure Gx (s s' : Shared) : Prop where
  os : s'.os = s.os
  size : s.gens.size ≤ s'.gens.size
  old : ∀ i, i < s.gens.size → s'.gens[i]? = s.gens[i]?
  new : ∀ i x, s.gens.size ≤ i → s'.gens[i]? = some x → x = .finished
theorem Gx.of_eq {s s' : Shared} (h1 : s'.os = s.os) (h2 : s'.gens = s.gens) : Gx s s' := ⟨h1, by rw [h2]; exact Nat.le_refl _, fun i _ => by rw [h2], fun i x hi e => by
  rw [h2, Array.getElem?_eq_none hi] at e; cases e⟩
theorem Gx.refl (s : Shared) : Gx s s := .of_eq rfl rfl
theorem Gx.heap {s : Shared} {h : Heap} {t : Nat} : Gx s { s with heap := h, toks := t } := .of_eq rfl rfl
theorem Gx.trans {s s' s'' : Shared} (h : Gx s s') (k : Gx s' s'') : Gx s s'' :=
  ⟨k.os.trans h.os, Nat.le_trans h.size k.size, fun i hi => (k.old i (Nat.lt_of_lt_of_le hi h.size)).trans (h.old i hi), fun i x hi e => by
    by_cases q : i < s'.gens.size
    · rw [k.old i q] at e; exact h.new i x hi e
    · exact k.new i x (Nat.le_of_not_lt q) e⟩
end
section
open PySem PySem.W PyProof.Rows PySem.Spec PySem.Calls

structure Wd where
  prog : Program
  w : World
  K : Frag
  p : Program
  loose : List PySem.Str
abbrev Wd.M (W : Wd) : Model := model W.prog W.w
structure Fx where
  sc : Scope
  fn : Bool

structure Cx (W : Wd) (F : Fx) (A : Around) (env : Env) (cl : List (PySem.Str × Addr)) (h₀ : Heap) (L : Addr) (k : Nat) : Prop where
  sc : env.scope = F.sc
  loc : env.locals = L
  glo : env.globals = mainGlobals
  bui : env.builtins = builtinsNs
  cel : env.cells = cl
  knd : F.sc.kind = .function
  hh : A.handled = none
  room : A.depth + k < recursionLimit
  units : A.units + 8 * k < cLine
  K : W.K.In h₀
  top : ∃ mean mg mb, Top W.p W.loose mean mg mb h₀
  fr : F.fn = true → env.frame = some L ∧ ∃ A₀ base outer, Below A₀ base outer h₀ ∧ A.frames = some (env :: outer)

structure Nx (h₀ : Heap) (L : Addr) (cl : List (PySem.Str × Addr)) (ρ : List Addr) (s : Shared) (σ' : St) (ρ' : List Addr) (s' : Shared) : Prop where
  pre : ρ <+: ρ'
  rel : Rel h₀ L cl ρ' σ' s'.heap
  gx : Gx s s'
  tk : TupKeep s.heap s'.heap
  /-- what is neither of the store nor the frame stays -/
  un : ∀ b o, s.heap.get? b = some o → b ∉ ρ → b ≠ L → s'.heap.get? b = some o
  fresh : ∀ a, a ∈ ρ' → a ∉ ρ → s.heap.get? a = none
theorem TupKeep.trans {h h' h'' : Heap} (a : TupKeep h h') (b : TupKeep h' h'') : TupKeep h h'' := fun x o i n e c d => b x o i n (a x o i n e c d) c d
section
variable {h₀ : Heap} {L : Addr} {cl : List (PySem.Str × Addr)} {ρ ρ' ρ'' : List Addr} {s s' s'' : Shared} {σ σ' σ'' : St}
theorem Nx.off (a : Nx h₀ L cl ρ s σ' ρ' s') {b : Addr} {o : Obj} (e : s.heap.get? b = some o) (h : b ∉ ρ) : b ∉ ρ' := fun q => by
  have := a.fresh b q h; rw [e] at this; cases this
theorem Nx.trans (a : Nx h₀ L cl ρ s σ' ρ' s') (b : Nx h₀ L cl ρ' s' σ'' ρ'' s'') : Nx h₀ L cl ρ s σ'' ρ'' s'' := by
  refine ⟨a.pre.trans b.pre, b.rel, a.gx.trans b.gx, a.tk.trans b.tk, fun x o e h1 h2 => b.un x o (a.un x o e h1 h2) (a.off e h1) h2, fun x hx h1 => ?_⟩
  by_cases q : x ∈ ρ'
  · exact a.fresh x q h1
  · have z := b.fresh x hx q
    cases e : s.heap.get? x with
    | none => rfl
    | some o =>
      by_cases hL : x = L
      · subst hL
        obtain ⟨m, oL, _, _, hL, _⟩ := a.rel.ns
        rw [hL] at z; cases z
      · have := a.un x o e h1 hL; rw [z] at this; cases this
theorem Nx.kept (R : Rel h₀ L cl ρ σ s.heap) {h' : Heap} {t : Nat} (k : ∀ b o, s.heap.get? b = some o → h'.get? b = some o) : Nx h₀ L cl ρ s σ ρ { s with heap := h', toks := t } :=
  ⟨List.prefix_refl _, R.keep k, .of_eq rfl rfl, .of_keep k, fun b o e _ _ => k b o e, fun a h1 h2 => absurd h1 h2⟩
theorem Nx.same (R : Rel h₀ L cl ρ σ s.heap) {t : Nat} : Nx h₀ L cl ρ s σ ρ { s with toks := t } := Nx.kept R (h' := s.heap) (t := t) fun _ _ e => e
theorem Nx.self (R : Rel h₀ L cl ρ σ s.heap) : Nx h₀ L cl ρ s σ ρ s := Nx.same R (t := s.toks)
/-- the frame's namespace alone turned -/
theorem Nx.ofL {m : PySem.Str → Option Value} {h' : Heap} {t : Nat} (hm : s.heap.Ns L m) (hs : Heap.SameBut L s.heap h') (R' : Rel h₀ L cl ρ σ' h') : Nx h₀ L cl ρ s σ' ρ { s with heap := h', toks := t } := by
  refine ⟨List.prefix_refl _, R', .of_eq rfl rfl, fun a o items n e c d => ?_, fun b o e _ q => (hs.2 b q).trans e, fun a h1 h2 => absurd h1 h2⟩
  by_cases q : a = L
  · subst q
    obtain ⟨oL, es, ep, hL, hd, _⟩ := hm
    rw [hL] at e; cases e; rw [hd] at d; cases d
  · exact (hs.2 a q).trans e
/-- one object of the store turned -/
theorem Nx.upd (R : Rel h₀ L cl ρ σ s.heap) {i : Nat} {a : Addr} {o' : Obj} {x' : MO} {h' : Heap} {t : Nat} (ha : ρ[i]? = some a) (hi : i < σ.st.length) (k : ∀ b o, b ≠ a → s.heap.get? b = some o → h'.get? b = some o)
    (e' : h'.get? a = some o') (r' : RO h' ρ x' o') : Nx h₀ L cl ρ s { σ with st := σ.st.set i x' } ρ { s with heap := h', toks := t } := by
  refine ⟨List.prefix_refl _, R.upd ha hi k e' r', .of_eq rfl rfl, fun b o items n e c d => ?_, fun b o e q _ => k b o (fun z => q (z ▸ List.mem_of_getElem? ha)) e, fun a h1 h2 => absurd h1 h2⟩
  refine k b o (fun z => ?_) e
  subst z
  obtain ⟨o₁, h1, h2, _⟩ := R.low (List.mem_of_getElem? ha)
  rw [h1] at e; cases e
  exact h2 _ _ c d
/-- a new object -/
theorem Nx.new (R : Rel h₀ L cl ρ σ s.heap) {a : Addr} {o : Obj} {x : MO} {h' : Heap} {t : Nat} (k : ∀ b o, s.heap.get? b = some o → h'.get? b = some o) (hn : s.heap.get? a = none) (e : h'.get? a = some o)
    (r : RO h' (ρ ++ [a]) x o) : Nx h₀ L cl ρ s { σ with st := σ.st ++ [x] } (ρ ++ [a]) { s with heap := h', toks := t } :=
  ⟨List.prefix_append _ _, R.new k hn e r, .of_eq rfl rfl, .of_keep k, fun b o e _ _ => k b o e, fun b h1 h2 => by
    rcases List.mem_append.mp h1 with q | q
    · exact absurd q h2
    · rw [List.mem_singleton.mp q]; exact hn⟩
end

/-- a tree's run upon the abstract state -/
structure Tr (W : Wd) (F : Fx) (k : Nat) {α : Type} (t : Env → Sem α) (σ : St) (P : Heap → List Addr → α → Prop) (σ' : St) : Prop where
  run : ∀ {A : Around} {env : Env} {cl : List (PySem.Str × Addr)} {h₀ : Heap} {L : Addr} {ρ : List Addr} {s : Shared} {Q : α → Shared → Prop},
    Cx W F A env cl h₀ L k → Rel h₀ L cl ρ σ s.heap → (∀ a s' ρ', Nx h₀ L cl ρ s σ' ρ' s' → P s'.heap ρ' a → Q a s') → wpAny W.M A (t env) Q (fun _ _ => False) s

def Ev (W : Wd) (F : Fx) (k : Nat) (e : Expr) (σ : St) (v : MV) (σ' : St) : Prop := Tr W F k (eval e) σ (fun h ρ v' => RV h ρ v v') σ'
def Et (W : Wd) (F : Fx) (k : Nat) (e : Expr) (σ : St) (b : Bool) (σ' : St) : Prop := Tr W F k (fun env => isTrue e env (eval e env)) σ (fun _ _ b' => b' = b) σ'
inductive Fl | next | ret (v : MV) | brk | cont
def RFl (h : Heap) (ρ : List Addr) : Fl → Flow → Prop
  | .next, f => f = .next
  | .brk, f => f = .brk
  | .cont, f => f = .cont
  | .ret v, f => ∃ v', f = .ret v' ∧ RV h ρ v v'
def Ex (W : Wd) (F : Fx) (k : Nat) (st : Stmt) (σ : St) (f : Fl) (σ' : St) : Prop := Tr W F k (exec st) σ (fun h ρ f' => RFl h ρ f f') σ'
def Exs (W : Wd) (F : Fx) (k : Nat) (sts : List Stmt) (σ : St) (f : Fl) (σ' : St) : Prop := Tr W F k (execs sts) σ (fun h ρ f' => RFl h ρ f f') σ'

/-- a tree that takes values -/
structure Op (W : Wd) (F : Fx) (k : Nat) {α : Type} (t : Env → List Value → Sem α) (xs : List MV) (σ : St) (P : Heap → List Addr → α → Prop) (σ' : St) : Prop where
  run : ∀ {A : Around} {env : Env} {cl : List (PySem.Str × Addr)} {h₀ : Heap} {L : Addr} {ρ : List Addr} {s : Shared} {vs : List Value} {Q : α → Shared → Prop},
    Cx W F A env cl h₀ L k → Rel h₀ L cl ρ σ s.heap → Fa2 (RV s.heap ρ) xs vs → (∀ a s' ρ', Nx h₀ L cl ρ s σ' ρ' s' → P s'.heap ρ' a → Q a s') → wpAny W.M A (t env vs) Q (fun _ _ => False) s
def isV (v : MV) : Heap → List Addr → Value → Prop := fun h ρ v' => RV h ρ v v'
def isB (b : Bool) : Heap → List Addr → Bool → Prop := fun _ _ b' => b' = b
def isU : Heap → List Addr → Unit → Prop := fun _ _ _ => True

section
variable {W : Wd} {F : Fx} {k : Nat} {σ σ₁ σ₂ σ₃ σ' : St}

theorem Fa2.two {α β : Type} {R : α → β → Prop} {a b : α} {m : List β} (h : Fa2 R [a, b] m) : ∃ x y, m = [x, y] ∧ R a x ∧ R b y := by
  cases h with | cons r t => cases t with | cons r' t' => cases t'; exact ⟨_, _, rfl, r, r'⟩
theorem Fa2.un {α β : Type} {R : α → β → Prop} {a : α} {m : List β} (h : Fa2 R [a] m) : ∃ x, m = [x] ∧ R a x := by
  cases h with | cons r t => cases t; exact ⟨_, rfl, r⟩
theorem Fa2.nil' {α β : Type} {R : α → β → Prop} {m : List β} (h : Fa2 R [] m) : m = [] := by cases h; rfl
theorem Fa2.three {α β : Type} {R : α → β → Prop} {a b c : α} {m : List β} (h : Fa2 R [a, b, c] m) : ∃ x y z, m = [x, y, z] ∧ R a x ∧ R b y ∧ R c z := by
  cases h with | cons r t => obtain ⟨y, z, rfl, q, q'⟩ := t.two; exact ⟨_, _, _, rfl, r, q, q'⟩

/-! names and constants -/
theorem Ev.const_int {i : Int} {n : Nat} {p : Pos} : Ev W F k (.Constant (.int i) n p) σ (.int i) σ := Tr.mk fun _ R h => wpAny_Constant_int (h _ _ _ (Nx.same R) ⟨_, rfl⟩)
theorem Ev.const_str {x : PySem.Str} {n : Nat} {p : Pos} : Ev W F k (.Constant (.str x) n p) σ (.str x) σ := Tr.mk fun _ R h => Calls.Constant_str (h _ _ _ (Nx.same R) ⟨_, rfl⟩)
theorem Ev.const_none {n : Nat} {p : Pos} : Ev W F k (.Constant .none n p) σ .none σ := Tr.mk fun _ R h => wpAny_Constant_none (h _ _ _ (Nx.same R) rfl)
theorem Ev.const_bool {b : Bool} {n : Nat} {p : Pos} : Ev W F k (.Constant (.bool b) n p) σ (.bool b) σ := Tr.mk fun _ R h => wpAny_Constant_bool (h _ _ _ (Nx.same R) rfl)

theorem Cx.kindOf {A : Around} {env : Env} {cl : List (PySem.Str × Addr)} {h₀ : Heap} {L : Addr} (C : Cx W F A env cl h₀ L k) (x : PySem.Str) : env.kindOf x = F.sc.names.lookup x := by
  unfold Env.kindOf; rw [C.sc]
theorem Cx.kind {A : Around} {env : Env} {cl : List (PySem.Str × Addr)} {h₀ : Heap} {L : Addr} (C : Cx W F A env cl h₀ L k) : env.scope.kind = .function := by rw [C.sc, C.knd]
theorem Cx.hp {A : Around} {env : Env} {cl : List (PySem.Str × Addr)} {h₀ : Heap} {L : Addr} (C : Cx W F A env cl h₀ L k) : (env.scope.kind == .class || (env.scope.kind == .module && env.locals != env.globals)) = false := by rw [C.kind]; rfl

theorem Ev.local {x : PySem.Str} {p : Pos} {v : MV} (hl : F.sc.names.lookup x = some .local) (hv : σ.loc.lookup x = some v) (hd : (x == ("__debug__" : PySem.Str)) = false) : Ev W F k (.Name x p) σ v σ := Tr.mk fun C R h => by
  obtain ⟨m, v', Fm, hm, rv⟩ := R.local hv
  exact wpAny_Name (wpAny_loadName_local C.kind ((C.kindOf x).trans hl) (C.loc ▸ Fm.ns) hm (h _ _ _ (Nx.same R (t := _)) rv)) hd
theorem Ev.cell {x : PySem.Str} {p : Pos} {v : MV} {i : Nat} (hl : F.sc.names.lookup x = some .cell) (hc : σ.cel.lookup x = some i) (hv : σ.st[i]? = some (.cell (some v))) (hd : (x == ("__debug__" : PySem.Str)) = false) : Ev W F k (.Name x p) σ v σ := Tr.mk fun C R h => by
  obtain ⟨a, ha, hi⟩ := R.cells x i hc
  obtain ⟨a', o, ha', ho, r, _⟩ := R.obj hv
  have e : a' = a := by rw [hi] at ha'; exact (Option.some.inj ha').symm
  subst e
  obtain ⟨v', hd', y, rfl, rv⟩ := r
  exact wpAny_Name (wpAny_loadName_cell C.kind ((C.kindOf x).trans hl) (C.cel ▸ ha) ⟨o, ho, hd'⟩ (h _ _ _ (Nx.same R (t := _)) rv)) hd
theorem Ev.free {x : PySem.Str} {p : Pos} {v : MV} {i : Nat} (hl : F.sc.names.lookup x = some .free) (hc : σ.cel.lookup x = some i) (hv : σ.st[i]? = some (.cell (some v))) (hd : (x == ("__debug__" : PySem.Str)) = false) (hn : (x == ("__classdict__" : PySem.Str)) = false) : Ev W F k (.Name x p) σ v σ := Tr.mk fun C R h => by
  obtain ⟨a, ha, hi⟩ := R.cells x i hc
  obtain ⟨a', o, ha', ho, r, _⟩ := R.obj hv
  have e : a' = a := by rw [hi] at ha'; exact (Option.some.inj ha').symm
  subst e
  obtain ⟨v', hd', y, rfl, rv⟩ := r
  exact wpAny_Name (wpAny_loadName_free C.kind ((C.kindOf x).trans hl) (C.cel ▸ ha) ⟨o, ho, hd'⟩ (h _ _ _ (Nx.same R (t := _)) rv) hn) hd
theorem Ev.global {x : PySem.Str} {p : Pos} {v : Value} (hl : F.sc.names.lookup x = some .globalImplicit) (hv : nsIn W.K mainGlobals x = some (some v)) (hd : (x == ("__debug__" : PySem.Str)) = false) : Ev W F k (.Name x p) σ (.lit v) σ := Tr.mk fun C R h => by
  obtain ⟨mean, mg, mb, T⟩ := C.top
  exact Name_function_global C.kind ((C.kindOf x).trans hl) (loadGlobal_global (C.glo ▸ T.g.keeps R.keep₀) (mg_of C.K T.g hv) (h _ _ _ (Nx.same R (t := _)) rfl)) hd
theorem Ev.builtin {x : PySem.Str} {p : Pos} {v : Value} (hl : F.sc.names.lookup x = some .globalImplicit) (hv : nsIn W.K mainGlobals x = some none) (hb : bootBuiltins x = some v) (hn : x ≠ "__name__") (hd : (x == ("__debug__" : PySem.Str)) = false) : Ev W F k (.Name x p) σ (.lit v) σ := Tr.mk fun C R h => by
  obtain ⟨mean, mg, mb, T⟩ := C.top
  exact Name_function_global C.kind ((C.kindOf x).trans hl) (loadGlobal_builtin (C.glo ▸ T.g.keeps R.keep₀) (mg_none_of C.K T.g hv) (C.bui ▸ T.b.keeps R.keep₀) ((T.builtins x hn).trans hb) (h _ _ _ (Nx.same R (t := _)) rfl)) hd

/-! operators -/
theorem Ev.binop {l r : Expr} {op : Operator} {p : Pos} {x y z : MV} (hl : Ev W F k l σ x σ₁) (hr : Ev W F k r σ₁ y σ₂) (ho : Op W F k (fun _ vs => binaryOp op (vs.getD 0 .none) (vs.getD 1 .none)) [x, y] σ₂ (isV z) σ₃) : Ev W F k (.BinOp l op r p) σ z σ₃ := Tr.mk fun C R h =>
  wpAny_BinOp (hl.run C R fun a s₁ ρ₁ n₁ ra => hr.run C n₁.rel fun b s₂ ρ₂ n₂ rb => ho.run C n₂.rel (vs := [a, b]) (.cons (ra.mono n₂.tk n₂.pre) (.one rb)) fun c s₃ ρ₃ n₃ rc => h _ _ _ ((n₁.trans n₂).trans n₃) rc)
theorem Ev.cmp {l r : Expr} {op : CmpOp} {p : Pos} {x y z : MV} (hl : Ev W F k l σ x σ₁) (hr : Ev W F k r σ₁ y σ₂) (ho : Op W F k (fun _ vs => compareOp op (vs.getD 0 .none) (vs.getD 1 .none)) [x, y] σ₂ (isV z) σ₃) (hm : behindInMarks op r = false) : Ev W F k (.Compare l [op] [r] p) σ z σ₃ := Tr.mk fun C R h =>
  wpAny_Compare1 (hl.run C R fun a s₁ ρ₁ n₁ ra => hr.run C n₁.rel fun b s₂ ρ₂ n₂ rb => ho.run C n₂.rel (vs := [a, b]) (.cons (ra.mono n₂.tk n₂.pre) (.one rb)) fun c s₃ ρ₃ n₃ rc => h _ _ _ ((n₁.trans n₂).trans n₃) rc) hm
theorem Et.cmp {l r : Expr} {op : CmpOp} {p : Pos} {x y : MV} {b : Bool} (hl : Ev W F k l σ x σ₁) (hr : Ev W F k r σ₁ y σ₂) (ho : Op W F k (fun _ vs => compareOp op (vs.getD 0 .none) (vs.getD 1 .none)) [x, y] σ₂ (isV (.bool b)) σ₃) (hm : behindInMarks op r = false) : Et W F k (.Compare l [op] [r] p) σ b σ₃ := Tr.mk fun C R h =>
  wpAny_isTrue_Compare1 (hl.run C R fun a s₁ ρ₁ n₁ ra => hr.run C n₁.rel fun c s₂ ρ₂ n₂ rb => ho.run C n₂.rel (vs := [a, c]) (.cons (ra.mono n₂.tk n₂.pre) (.one rb)) fun d s₃ ρ₃ n₃ rc => by
    have rc : d = .bool b := rc
    subst rc
    exact wpAny_truthy_bool (h _ _ _ ((n₁.trans n₂).trans n₃) rfl)) hm

/-! statements -/
theorem Exs.nil : Exs W F k [] σ .next σ := Tr.mk fun _ R h => wpAny_execs_nil (h _ _ _ (Nx.same R (t := _)) rfl)
theorem Exs.cons {st : Stmt} {rest : List Stmt} {f : Fl} (h1 : Ex W F k st σ .next σ₁) (h2 : Exs W F k rest σ₁ f σ₂) : Exs W F k (st :: rest) σ f σ₂ := Tr.mk fun C R h =>
  wpAny_execs_cons (h1.run C R fun fl s₁ ρ₁ n₁ e => by
    have e : fl = .next := e
    subst e
    exact h2.run C n₁.rel fun g s₂ ρ₂ n₂ r => h _ _ _ (n₁.trans n₂) r)
theorem Exs.leave {st : Stmt} {rest : List Stmt} {f : Fl} (h1 : Ex W F k st σ f σ₁) (hf : f ≠ .next) : Exs W F k (st :: rest) σ f σ₁ := Tr.mk fun C R h =>
  wpAny_execs_cons (h1.run C R fun fl s₁ ρ₁ n₁ e => by
    cases f with
    | next => exact absurd rfl hf
    | ret v => obtain ⟨v', rfl, r⟩ := e; exact h _ _ _ n₁ ⟨v', rfl, r⟩
    | brk => have e : fl = .brk := e; subst e; exact h _ _ _ n₁ rfl
    | cont => have e : fl = .cont := e; subst e; exact h _ _ _ n₁ rfl)
theorem Ex.ret {e : Expr} {p : Pos} {v : MV} (h1 : Ev W F k e σ v σ₁) : Ex W F k (.Return (some e) p) σ (.ret v) σ₁ := Tr.mk fun C R h =>
  wpAny_Return_some (h1.run C R fun a s₁ ρ₁ n₁ r => h _ _ _ n₁ ⟨_, rfl, r⟩)
theorem Ex.ite {test : Expr} {body orelse : List Stmt} {p : Pos} {b : Bool} {f : Fl} (h1 : Et W F k test σ b σ₁) (h2 : Exs W F k (if b then body else orelse) σ₁ f σ₂) : Ex W F k (.If test body orelse p) σ f σ₂ := Tr.mk fun C R h =>
  wpAny_If (h1.run C R fun b' s₁ ρ₁ n₁ e => by
    have e : b' = b := e
    subst e
    cases b' with
    | true => exact h2.run C n₁.rel fun g s₂ ρ₂ n₂ r => h _ _ _ (n₁.trans n₂) r
    | false => exact h2.run C n₁.rel fun g s₂ ρ₂ n₂ r => h _ _ _ (n₁.trans n₂) r)
theorem Ev.ife {test body orelse : Expr} {p : Pos} {b : Bool} {v : MV} (h1 : Et W F k test σ b σ₁) (h2 : Ev W F k (if b then body else orelse) σ₁ v σ₂) : Ev W F k (.IfExp test body orelse p) σ v σ₂ := Tr.mk fun C R h =>
  wpAny_IfExp (h1.run C R fun b' s₁ ρ₁ n₁ e => by
    have e : b' = b := e
    subst e
    cases b' with
    | true => exact h2.run C n₁.rel fun g s₂ ρ₂ n₂ r => h _ _ _ (n₁.trans n₂) r
    | false => exact h2.run C n₁.rel fun g s₂ ρ₂ n₂ r => h _ _ _ (n₁.trans n₂) r)

theorem store_local {A : Around} {env : Env} {cl : List (PySem.Str × Addr)} {h₀ : Heap} {L : Addr} {ρ : List Addr} {s : Shared} {Q : Unit → Shared → Prop} {x : PySem.Str} {v : MV} {v' : Value} (C : Cx W F A env cl h₀ L k) (R : Rel h₀ L cl ρ σ s.heap)
    (hl : F.sc.names.lookup x = some .local) (rv : RV s.heap ρ v v') (h : ∀ s', Nx h₀ L cl ρ s { σ with loc := setL x v σ.loc } ρ s' → Q () s') : wpAny W.M A (storeName env x v') Q (fun _ _ => False) s := by
  obtain ⟨m, hm⟩ := R.ns
  refine wpAny_storeName_local ((C.kindOf x).trans hl) (C.loc ▸ hm) (fun h' hn hs => ?_) C.hp
  rw [C.loc] at hn hs
  refine h _ (Nx.ofL hm hs (R.set rv (fun m' hm' => ?_) hs))
  have : m' = m := by
    obtain ⟨o, es, ep, a1, a2, _, a3⟩ := hm
    obtain ⟨o', es', ep', b1, b2, _, b3⟩ := hm'
    rw [a1] at b1; cases b1
    rw [a2] at b2; cases b2
    funext y; rw [← b3, a3]
  rw [this]; exact hn

theorem Ex.assign {x : PySem.Str} {p' p : Pos} {e : Expr} {v : MV} (h1 : Ev W F k e σ v σ₁) (hl : F.sc.names.lookup x = some .local)
    (hs : ∀ env : Env, env.scope = F.sc → swapsWith e (some (.Name x p')) p.line env = pure false) : Ex W F k (.Assign [.Name x p'] e p) σ .next { σ₁ with loc := setL x v σ₁.loc } := Tr.mk fun C R h =>
  wpAny_Assign_Name (h1.run C R fun a s₁ ρ₁ n₁ r => store_local C n₁.rel hl r fun s₂ n₂ => h _ _ _ (n₁.trans n₂) rfl) (hs _ C.sc)
theorem Ex.aug {x : PySem.Str} {p' p : Pos} {op : Operator} {e : Expr} {x₀ y z : MV} (hl : F.sc.names.lookup x = some .local) (hv : σ.loc.lookup x = some x₀) (h1 : Ev W F k e σ y σ₁)
    (ho : Op W F k (fun _ vs => inplaceOp op (vs.getD 0 .none) (vs.getD 1 .none)) [x₀, y] σ₁ (isV z) σ₂) : Ex W F k (.AugAssign (.Name x p') op e p) σ .next { σ₂ with loc := setL x z σ₂.loc } := Tr.mk fun C R h => by
  obtain ⟨m, v', Fm, hm, rv⟩ := R.local hv
  refine wpAny_AugAssign_Name (wpAny_loadName_local C.kind ((C.kindOf x).trans hl) (C.loc ▸ Fm.ns) hm ?_)
  exact h1.run C R fun b s₂ ρ₂ n₂ rb => ho.run C n₂.rel (vs := [v', b]) (.cons (rv.mono n₂.tk n₂.pre) (.one rb)) fun c s₃ ρ₃ n₃ rc => store_local C n₃.rel hl rc fun s₄ n₄ => h _ _ _ ((n₂.trans n₃).trans n₄) rfl
theorem Ex.expr {e : Expr} {p : Pos} {v : MV} (h1 : Ev W F k e σ v σ₁) (hv : ∃ x, v = .at x) (hs : ∀ env : Env, env.scope = F.sc → swapsWith e none p.line env = pure false) : Ex W F k (.Expr e p) σ .next σ₁ := Tr.mk fun C R h => by
  obtain ⟨x, rfl⟩ := hv
  refine wpAny_Expr (h1.run C R fun a s₁ ρ₁ n₁ r => ?_) (by unfold interactive; rw [C.kind]; rfl) (hs _ C.sc)
  cases x with
  | none => have r : a = .none := r; subst r; exact h _ _ _ n₁ rfl
  | bool b => have r : a = .bool b := r; subst r; exact h _ _ _ n₁ rfl
  | int i => obtain ⟨t, rfl⟩ := r; exact h _ _ _ n₁ rfl
  | str i => obtain ⟨t, rfl⟩ := r; exact h _ _ _ n₁ rfl
end
end
section
open PySem PySem.W PyProof.Rows PySem.Spec PySem.Calls

section
variable {W : Wd} {F F' : Fx} {k : Nat} {A : Around} {env : Env} {cl cl' : List (PySem.Str × Addr)} {h₀ : Heap} {L L' : Addr} {ρ ρ' : List Addr} {s s₁ s' : Shared} {σ σ' : St} {cs : List Addr}

theorem Rel.notmem (R : Rel h₀ L cl ρ σ s.heap) {b : Addr} {o : Obj} (e : h₀.get? b = some o) : b ∉ ρ := fun q => by
  obtain ⟨_, _, _, _, z⟩ := R.low q
  rw [e] at z; cases z
theorem Rel.notL (R : Rel h₀ L cl ρ σ s.heap) : L ∉ ρ := fun q => by
  obtain ⟨_, _, _, z, _⟩ := R.low q
  exact z rfl

/-- back in the caller's frame: the callee's ledger without its own last objects -/
theorem call_leave (R : Rel h₀ L cl ρ σ s.heap) (hg : s₁.gens = s.gens) (ho : s₁.os = s.os) (hk : ∀ b o, s.heap.get? b = some o → s₁.heap.get? b = some o)
    (hcs : ∀ a ∈ cs, s.heap.get? a = none) (n : Nx (hideAll s.heap ρ) L' cl' (ρ ++ cs) s₁ σ' ρ' s') {st' sx : List MO} (hst : σ'.st = st' ++ sx) (hlen : ρ.length ≤ st'.length) (hlow : ∀ x ∈ st', x.low st'.length) :
    Nx h₀ L cl ρ s { σ with st := st' } (ρ'.take st'.length) s' ∧ st'.length ≤ ρ'.length := by
  have hρ' : st'.length ≤ ρ'.length := by
    have := n.rel.len
    rw [hst, List.length_append] at this
    omega
  refine ⟨?_, hρ'⟩
  have tl : (ρ'.take st'.length).length = st'.length := by rw [List.length_take]; omega
  have pre : ρ <+: ρ'.take st'.length := by
    obtain ⟨t, e⟩ := (List.prefix_append ρ cs).trans n.pre
    rw [← e, List.take_append]
    rw [List.take_of_length_le hlen]
    exact List.prefix_append _ _
  have nmk : ∀ b o, s.heap.get? b = some o → b ∉ ρ → s'.heap.get? b = some o := fun b o e q => n.rel.keep₀ b o (hideAll_get _ e q)
  have stay : ∀ b o, h₀.get? b = some o → (hideAll s.heap ρ).get? b = some o := fun b o e => hideAll_get _ (R.keep₀ b o e) (R.notmem e)
  have tk : TupKeep s.heap s'.heap := fun b o items m e c d => n.tk b o items m (hk b o e) c d
  obtain ⟨⟨m', objs', F', N', el', f', l'⟩, nd', ce'⟩ := n.rel
  obtain ⟨⟨m, objs, Fm, N, el, f, l⟩, nd, ce⟩ := id R
  obtain ⟨oL, es, ep, hL, r⟩ := Fm.ns
  have hLg := hideAll_get ρ hL R.notL
  rw [hst] at f'
  have fl := f'.length
  rw [List.length_append] at fl
  refine ⟨pre, ⟨⟨m, objs'.take st'.length, ⟨⟨oL, es, ep, F'.keep _ _ hLg, r⟩, fun b o e => F'.keep _ _ (stay b o e), Fm.above⟩, fun p hp => ?_, by rw [List.length_take, tl]; omega, ?_, fun x v e => ?_⟩, ?_, fun x i e => ?_⟩, ⟨n.gx.os.trans ho, by rw [← hg]; exact n.gx.size, fun i hi => by rw [← hg] at hi ⊢; exact n.gx.old i hi, fun i x hi e => n.gx.new i x (by rw [hg]; exact hi) e⟩, tk, fun b o e h1 h2 => nmk b o e h1, fun a h1 h2 => ?_⟩
  · obtain ⟨j, hj, e⟩ := List.getElem_of_mem hp
    have e2 : ((ρ'.take st'.length).zip (objs'.take st'.length))[j]? = some p := by rw [List.getElem?_eq_getElem hj, e]
    rw [List.getElem?_zip_eq_some] at e2
    obtain ⟨e3, e4⟩ := e2
    have hj' : j < st'.length := by rw [← tl]; exact (List.getElem?_eq_some_iff.mp e3).1
    rw [List.getElem?_take_of_lt hj'] at e3 e4
    have z := N' p (zip_mem e3 e4)
    refine ⟨z.1, fun q => ?_, ?_⟩
    · have := z.2.2; rw [q, hLg] at this; cases this
    · cases q : h₀.get? p.1 with
      | none => rfl
      | some o => have := z.2.2; rw [stay _ _ q] at this; cases this
  · have z := f'.take st'.length
    rw [List.take_left] at z
    refine z.mono_mem fun a ha b r => ?_
    refine RO.drop (t := ρ'.drop st'.length) (by rw [List.take_append_drop]; exact r) ?_
    rw [tl]; exact hlow a ha
  · obtain ⟨v', b, c⟩ := l x v e
    exact ⟨v', b, c.mono tk pre⟩
  · exact (List.take_sublist _ _).nodup nd'
  · obtain ⟨a, b, c⟩ := ce x i e
    obtain ⟨t, e'⟩ := pre
    exact ⟨a, b, by rw [← e', List.getElem?_append_left (List.getElem?_eq_some_iff.mp c).1]; exact c⟩
  · have h3 : a ∈ ρ' := List.mem_of_mem_take h1
    by_cases q : a ∈ ρ ++ cs
    · rcases List.mem_append.mp q with q | q
      · exact absurd q h2
      · exact hcs a q
    · have z := n.fresh a h3 q
      cases e : s.heap.get? a with
      | none => rfl
      | some o => rw [hk a o e] at z; cases z
end

/-- a call of a def of the text's, from a def's own frame -/
structure Ec (W : Wd) (k : Nat) (f : Addr) (xs : List MV) (kw : List (PySem.Str × MV)) (st : List MO) (z : MV) (st' : List MO) : Prop where
  run : ∀ {F : Fx} {A : Around} {env : Env} {cl : List (PySem.Str × Addr)} {h₀ : Heap} {L : Addr} {ρ : List Addr} {s : Shared} {σ : St} {vs : List Value} {kvs : List (PySem.Str × Value)} {Q : Value → Shared → Prop},
    F.fn = true → Cx W F A env cl h₀ L k → Rel h₀ L cl ρ σ s.heap → σ.st = st → Fa2 (RV s.heap ρ) xs vs → Fa2 (fun p q => p.1 = q.1 ∧ RV s.heap ρ p.2 q.2) kw kvs →
    (∀ v' s' ρ', Nx h₀ L cl ρ s { σ with st := st' } ρ' s' → RV s'.heap ρ' z v' → Q v' s') → codeAny W.M A (.call (.ref f) ⟨vs, kvs⟩) (fun r s' => match r with | .ok (.ret v) => Q v s' | .ok _ => False | .error _ => False) s

def Binds (W : Wd) (fd : FuncData) (xs : List MV) (kw : List (PySem.Str × MV)) (bs : List (PySem.Str × MV)) : Prop :=
  ∀ (s : Shared) (ρ : List Addr) (vs : List Value) (kvs : List (PySem.Str × Value)), W.K.In s.heap → Fa2 (RV s.heap ρ) xs vs → Fa2 (fun p q => p.1 = q.1 ∧ RV s.heap ρ p.2 q.2) kw kvs →
    ∃ bs', BindsTo s fd ⟨vs, kvs⟩ bs' ∧ Fa2 (fun p q => p.1 = q.1 ∧ RV s.heap ρ p.2 q.2) bs bs'

theorem Fa2.reverse {α β : Type} {R : α → β → Prop} {l : List α} {m : List β} (h : Fa2 R l m) : Fa2 R l.reverse m.reverse := by
  induction h with
  | nil => exact .nil
  | cons r _ ih => rw [List.reverse_cons, List.reverse_cons]; exact ih.append (.one r)
theorem Fa2.lookup {R : MV → Value → Prop} {bs : List (PySem.Str × MV)} {bs' : List (PySem.Str × Value)} (h : Fa2 (fun p q => p.1 = q.1 ∧ R p.2 q.2) bs bs') {x : PySem.Str} {v : MV} (e : bs.lookup x = some v) : ∃ v', bs'.lookup x = some v' ∧ R v v' := by
  induction h with
  | nil => cases e
  | @cons a b l m r _ ih =>
    obtain ⟨n, u⟩ := a
    obtain ⟨n', u'⟩ := b
    obtain ⟨e1, e2⟩ := r
    dsimp only at e1 e2
    subst e1
    rw [List.lookup_cons] at e ⊢
    cases q : x == n with
    | true => rw [q] at e; cases e; exact ⟨u', rfl, e2⟩
    | false => rw [q] at e; exact ih e
theorem Fa2.names {R : MV → Value → Prop} {bs : List (PySem.Str × MV)} {bs' : List (PySem.Str × Value)} (h : Fa2 (fun p q => p.1 = q.1 ∧ R p.2 q.2) bs bs') : bs'.map (·.1) = bs.map (·.1) := by
  induction h with
  | nil => rfl
  | cons r _ ih => rw [List.map_cons, List.map_cons, ih, r.1]

def retOf : Fl → MV
  | .ret v => v
  | _ => .none
def flowV (fl : Flow) : Value := match fl with
  | .ret v => v
  | _ => .none
theorem retOf_rel {h : Heap} {ρ : List Addr} {f : Fl} {fl : Flow} (r : RFl h ρ f fl) : RV h ρ (retOf f) (flowV fl) := by
  cases f with
  | next => have r : fl = .next := r; subst r; rfl
  | brk => have r : fl = .brk := r; subst r; rfl
  | cont => have r : fl = .cont := r; subst r; rfl
  | ret v => obtain ⟨v', rfl, r⟩ := r; exact r

section
variable {W : Wd} {k : Nat} {f : Addr} {xs : List MV} {kw bs : List (PySem.Str × MV)} {st st' sx : List MO} {z : MV} {oc : Value} {od : Option Addr} {osl : Array (Option Value)} {name qual : PySem.Str} {params : Arguments} {body : List Stmt} {scope : Scope}
  {dV kV doc pm cdv ct : Value} {an : Option Addr} {fl : Fl} {σ' : St}

theorem news_fst {ρ : List Addr} {objs : List Obj} (e : objs.length = ρ.length) : (ρ.zip objs).map (·.1) = ρ := by
  rw [List.map_fst_zip (by omega)]

theorem RV.low' {h : Heap} {ρ : List Addr} {x : MV} {v : Value} (r : RV h ρ x v) : x.low ρ.length := by
  cases x with
  | ref i => obtain ⟨a, e, _⟩ := r; exact (List.getElem?_eq_some_iff.mp e).1
  | «at» x => trivial
  | tup xs => trivial
  | lit x => trivial
theorem Fa2.left {α β : Type} {R : α → β → Prop} {l : List α} {m : List β} (h : Fa2 R l m) {a : α} (ha : a ∈ l) : ∃ b, R a b := by
  induction h with
  | nil => cases ha
  | cons r _ ih =>
    rcases List.mem_cons.mp ha with rfl | ha
    · exact ⟨_, r⟩
    · exact ih ha
theorem RO.low' {h : Heap} {ρ : List Addr} {x : MO} {o : Obj} (r : RO h ρ x o) : x.low ρ.length := by
  cases x with
  | list vs => obtain ⟨items, n, d, f⟩ := r; exact fun v hv => (let ⟨_, r⟩ := f.left hv; r.low')
  | inst C d => obtain ⟨a, e, _⟩ := r; exact (List.getElem?_eq_some_iff.mp e).1
  | dict kv => obtain ⟨es, n, rfl, f⟩ := r; exact fun p hp => (let ⟨_, r⟩ := f.left hp; r.2.low')
  | cell v =>
    obtain ⟨v', d, f⟩ := r
    cases v with
    | none => trivial
    | some x => obtain ⟨y, e, q⟩ := f; exact q.low'
theorem Rel.lows {h₀ h : Heap} {L : Addr} {cl : List (PySem.Str × Addr)} {ρ : List Addr} {σ : St} (R : Rel h₀ L cl ρ σ h) : ∀ x ∈ σ.st, x.low σ.st.length := by
  intro x hx
  obtain ⟨_, objs, _, _, _, f, _⟩ := R.ex
  obtain ⟨o, r⟩ := f.left hx
  rw [R.len]
  exact r.low'

theorem Ec.intro (hK : W.K.lookup f = some ⟨oc, od, .func (fnX name qual params body scope [] dV kV doc pm an cdv ct), osl⟩) (hcd : codeIn W.K cdv qual = true)
    (hb : Binds W (fnX name qual params body scope [] dV kV doc pm an cdv ct) xs kw bs) (hloc : (bs.all fun p => scope.names.lookup p.1 == some .local) = true)
    (hbody : ∃ fl σ' sx, Exs W ⟨scope, true⟩ k body ⟨bs.reverse, [], st⟩ fl σ' ∧ σ'.st = st' ++ sx ∧ retOf fl = z) (hlen : st.length ≤ st'.length)
    (hlow : (∀ x ∈ st, x.low st.length) → (∀ x ∈ xs, x.low st.length) → (∀ x ∈ st', x.low st'.length) ∧ z.low st'.length)
    (hco : scope.isCoroutine = false := by rfl) (hgen : scope.isGenerator = false := by rfl) (hk : scope.kind = .function := by rfl) (hcell : (scope.names.all fun x => !(x.2 == .cell)) = true := by rfl) : Ec W (k + 1) f xs kw st z st' := by
  constructor
  intro F A env cl h₀ L ρ s σ vs kvs Q hfn C R hσ hvs hkvs hQ
  obtain ⟨fl, σ', sx, hbody, hst, hz⟩ := hbody
  subst hσ hz
  have hlo := hlow R.lows fun x hx => by rw [R.len]; exact (let ⟨_, r⟩ := hvs.left hx; r.low')
  obtain ⟨hlow, hzl⟩ := hlo
  have hcell : ∀ x ∈ scope.names, x.2 ≠ .cell := fun x hx => by simpa using List.all_eq_true.mp hcell x hx
  obtain ⟨hf, A₀, base, outer, B, hA⟩ := C.fr hfn
  obtain ⟨mean, mg, mb, T⟩ := C.top
  obtain ⟨⟨m, objs, Fm, N, el, fo, l⟩, nd, ce⟩ := id R
  have hkin : W.K.In s.heap := C.K.keeps Fm.keep
  obtain ⟨bs', hbt, hbr⟩ := hb s ρ vs kvs hkin hvs hkvs
  obtain ⟨FG, BG, stay, _⟩ := groundX (R := fun _ _ => True) B Fm N hA hf (by rw [C.kind])
  rw [news_fst el] at FG BG stay
  refine codeAny_call_def (fd := fnX name qual params body scope [] dV kV doc pm an cdv ct) (body := body) (binds := bs') (Nat.lt_of_le_of_lt (Nat.le_add_right _ _) C.room) (hkin _ _ hK) rfl (T.nolimit.keeps Fm.keep) (codeRec_of hkin hcd) rfl hbt hcell (fun x hx => ?_) (fun h₁ hns hk₁ => ?_) hco hgen hk
  · have hn := hbr.names
    have : x.1 ∈ bs.map (·.1) := by rw [← hn]; exact List.mem_map_of_mem hx
    obtain ⟨p, hp, e⟩ := List.mem_map.mp this
    have := List.all_eq_true.mp hloc p hp
    rw [← e]; exact beq_iff_eq.mp this
  · have hroom := C.room
    have hunits := C.units
    have C' : Cx W ⟨scope, true⟩ (A.deeper (callEnv (fnX name qual params body scope [] dV kV doc pm an cdv ct) s.heap.objs.size f)) (callEnv (fnX name qual params body scope [] dV kV doc pm an cdv ct) s.heap.objs.size f) [] (hideAll s.heap ρ) s.heap.objs.size k := by
      refine ⟨rfl, rfl, rfl, rfl, rfl, hk, C.hh, ?_, ?_, C.K.keeps stay, ⟨mean, mg, mb, T.keeps stay⟩, fun _ => ⟨rfl, _, _, _, BG, Around.frames_deeper hA⟩⟩
      · show A.depth + 1 + k < recursionLimit
        omega
      · show A.units + 3 + 8 * k < cLine
        omega
    have tk₁ := TupKeep.of_keep hk₁
    have R' : Rel (hideAll s.heap ρ) s.heap.objs.size [] ρ ⟨bs.reverse, [], σ.st⟩ h₁ := by
      refine ⟨⟨_, objs, ⟨hns, fun b o e => hk₁ b o (of_hideAll _ e), Nat.le_of_eq (hideAll_size _ _)⟩, fun p hp => ⟨hk₁ _ _ (N p hp).1, Nat.ne_of_lt (Heap.lt_size (N p hp).1), hideAll_none _ ?_⟩, el, fo.mono fun _ _ r => r.mono tk₁ (List.prefix_refl _), fun x v e => ?_⟩, nd, fun x i e => ?_⟩
      · exact (List.of_mem_zip hp).1
      · obtain ⟨v', e1, e2⟩ := hbr.reverse.lookup (R := RV s.heap ρ) e
        exact ⟨v', e1, e2.mono tk₁ (List.prefix_refl _)⟩
      · cases e
    refine wpAny_mono (hbody.run C' R' (Q := fun fl' s' => Q (flowV fl') s') (fun fl' s' ρ' n r => ?_)) (fun fl2 _ q => by cases fl2 <;> exact q) (fun _ _ q => False.elim q)
    have n' : Nx (hideAll s.heap ρ) s.heap.objs.size [] (ρ ++ []) { s with heap := h₁, toks := s.toks + bs'.length } σ' ρ' s' := by rw [List.append_nil]; exact n
    obtain ⟨n₂, hle⟩ := call_leave R (cs := []) (s₁ := { s with heap := h₁, toks := s.toks + bs'.length }) rfl rfl hk₁ (fun a h => absurd h List.not_mem_nil) n' hst (by rw [← R.len]; exact hlen) hlow
    refine hQ _ _ _ n₂ ?_
    refine RV.drop (t := ρ'.drop st'.length) (by rw [List.take_append_drop]; exact retOf_rel r) ?_
    rw [List.length_take, Nat.min_eq_left hle]; exact hzl
end
end
section
open PySem PySem.W PyProof.Rows PySem.Spec PySem.Calls

section
variable {W : Wd} {G : Fx} {k : Nat} {σ σ₁ σ₂ σ₃ σ' : St}
abbrev t2 (f : Value → Value → Sem Value) : Env → List Value → Sem Value := fun _ vs => f (vs.getD 0 .none) (vs.getD 1 .none)
abbrev t1 (f : Value → Sem Value) : Env → List Value → Sem Value := fun _ vs => f (vs.getD 0 .none)

/-! ints -/
theorem Op.add {a b : Int} : Op W G k (t2 (binaryOp .Add)) [.int a, .int b] σ (isV (.int (a + b))) σ := Op.mk fun C R hv h => by
  obtain ⟨_, _, rfl, ⟨t, rfl⟩, ⟨u, rfl⟩⟩ := hv.two
  exact add_int (h _ _ _ (Nx.same R) ⟨_, rfl⟩)
theorem Op.iadd {a b : Int} : Op W G k (t2 (inplaceOp .Add)) [.int a, .int b] σ (isV (.int (a + b))) σ := Op.mk fun C R hv h => by
  obtain ⟨_, _, rfl, ⟨t, rfl⟩, ⟨u, rfl⟩⟩ := hv.two
  exact iadd_int (h _ _ _ (Nx.same R) ⟨_, rfl⟩)
theorem Op.sub {a b : Int} : Op W G k (t2 (binaryOp .Sub)) [.int a, .int b] σ (isV (.int (a - b))) σ := Op.mk fun C R hv h => by
  obtain ⟨_, _, rfl, ⟨t, rfl⟩, ⟨u, rfl⟩⟩ := hv.two
  exact sub_int (h _ _ _ (Nx.same R) ⟨_, rfl⟩)
theorem Op.isub {a b : Int} : Op W G k (t2 (inplaceOp .Sub)) [.int a, .int b] σ (isV (.int (a - b))) σ := Op.mk fun C R hv h => by
  obtain ⟨_, _, rfl, ⟨t, rfl⟩, ⟨u, rfl⟩⟩ := hv.two
  exact isub_int (h _ _ _ (Nx.same R) ⟨_, rfl⟩)
theorem Op.mod {a b : Int} (hb : b ≠ 0) : Op W G k (t2 (binaryOp .Mod)) [.int a, .int b] σ (isV (.int (a.fmod b))) σ := Op.mk fun C R hv h => by
  obtain ⟨_, _, rfl, ⟨t, rfl⟩, ⟨u, rfl⟩⟩ := hv.two
  exact mod_int hb (h _ _ _ (Nx.same R) ⟨_, rfl⟩)
theorem Op.mul {a b : Int} (hm : IntMulOk a b) : Op W G k (t2 (binaryOp .Mult)) [.int a, .int b] σ (isV (.int (a * b))) σ := Op.mk fun C R hv h => by
  obtain ⟨_, _, rfl, ⟨t, rfl⟩, ⟨u, rfl⟩⟩ := hv.two
  exact mul_int (h _ _ _ (Nx.same R) ⟨_, rfl⟩) hm
theorem Op.floordiv {a b : Int} (hb : b ≠ 0) (hs : Builtin.divisionGoesByPylong a b = false) : Op W G k (t2 (binaryOp .FloorDiv)) [.int a, .int b] σ (isV (.int (a.fdiv b))) σ := Op.mk fun C R hv h => by
  obtain ⟨_, _, rfl, ⟨t, rfl⟩, ⟨u, rfl⟩⟩ := hv.two
  exact floordiv_int hb (h _ _ _ (Nx.same R) ⟨_, rfl⟩) (.inl hs)
theorem Op.ifloordiv {a b : Int} (hb : b ≠ 0) (hs : Builtin.divisionGoesByPylong a b = false) : Op W G k (t2 (inplaceOp .FloorDiv)) [.int a, .int b] σ (isV (.int (a.fdiv b))) σ := Op.mk fun C R hv h => by
  obtain ⟨_, _, rfl, ⟨t, rfl⟩, ⟨u, rfl⟩⟩ := hv.two
  exact ifloordiv_int hb (h _ _ _ (Nx.same R) ⟨_, rfl⟩) (.inl hs)
theorem Op.lt {a b : Int} : Op W G k (t2 (compareOp .Lt)) [.int a, .int b] σ (isV (.bool (decide (a < b)))) σ := Op.mk fun C R hv h => by
  obtain ⟨_, _, rfl, ⟨t, rfl⟩, ⟨u, rfl⟩⟩ := hv.two
  exact lt_int (h _ _ _ (Nx.same R (t := _)) rfl)
theorem Op.gt {a b : Int} : Op W G k (t2 (compareOp .Gt)) [.int a, .int b] σ (isV (.bool (decide (b < a)))) σ := Op.mk fun C R hv h => by
  obtain ⟨_, _, rfl, ⟨t, rfl⟩, ⟨u, rfl⟩⟩ := hv.two
  exact gt_int (h _ _ _ (Nx.same R (t := _)) rfl)
theorem Op.eq {a b : Int} : Op W G k (t2 (compareOp .Eq)) [.int a, .int b] σ (isV (.bool (a == b))) σ := Op.mk fun C R hv h => by
  obtain ⟨_, _, rfl, ⟨t, rfl⟩, ⟨u, rfl⟩⟩ := hv.two
  exact eq_int (h _ _ _ (Nx.same R (t := _)) rfl)

/-! None -/
def MV.isNone : MV → Bool
  | .at .none => true
  | _ => false
theorem RV.isNone {h : Heap} {ρ : List Addr} {x : MV} {v : Value} (r : RV h ρ x v) (hl : ∀ u, x = .lit u → u ≠ .none) : (v == Value.none) = x.isNone := by
  cases x with
  | «at» x => cases x with
    | none => have r : v = .none := r; subst r; rfl
    | bool b => have r : v = .bool b := r; subst r; rfl
    | int i => obtain ⟨t, rfl⟩ := r; rfl
    | str i => obtain ⟨t, rfl⟩ := r; rfl
  | ref i => obtain ⟨a, _, rfl⟩ := r; rfl
  | tup xs => obtain ⟨a, o, it, n, rfl, _⟩ := r; rfl
  | lit u =>
    have r : v = u := r
    subst r
    have := hl v rfl
    show (v == Value.none) = false
    simpa using this
theorem Op.isNone {x : MV} (hl : ∀ u, x = .lit u → u ≠ .none) : Op W G k (t2 (compareOp .Is)) [x, .none] σ (isV (.bool x.isNone)) σ := Op.mk fun C R hv h => by
  obtain ⟨v, _, rfl, r, hn⟩ := hv.two
  have hn : _ = Value.none := hn
  subst hn
  show wpAny _ _ (compareOp .Is v .none) _ _ _
  exact is_none_gen (by rw [r.isNone hl]; exact h _ _ _ (Nx.same R (t := _)) rfl)
theorem Op.isNotNone {x : MV} (hl : ∀ u, x = .lit u → u ≠ .none) : Op W G k (t2 (compareOp .IsNot)) [x, .none] σ (isV (.bool (!x.isNone))) σ := Op.mk fun C R hv h => by
  obtain ⟨v, _, rfl, r, hn⟩ := hv.two
  have hn : _ = Value.none := hn
  subst hn
  show wpAny _ _ (compareOp .IsNot v .none) _ _ _
  exact isnot_none_gen (by rw [r.isNone hl]; exact h _ _ _ (Nx.same R (t := _)) rfl)

/-! lists -/
theorem Rel.list {h₀ h : Heap} {L : Addr} {cl : List (PySem.Str × Addr)} {ρ : List Addr} (R : Rel h₀ L cl ρ σ h) {i : Nat} {vs : List MV} (e : σ.st[i]? = some (.list vs)) {v : Value} (r : RV h ρ (.ref i) v) :
    ∃ a items n, v = .ref a ∧ ρ[i]? = some a ∧ IsL h a items n ∧ Fa2 (RV h ρ) vs items.toList := by
  obtain ⟨a, ha, rfl⟩ := r
  obtain ⟨a', o, ha', ho, ⟨items, n, rfl, f⟩, _⟩ := R.obj e
  have : a' = a := by rw [ha] at ha'; exact (Option.some.inj ha').symm
  subst this
  exact ⟨a', items, n, rfl, ha, ho, f⟩
theorem Fa2.size {α : Type} {R : α → Value → Prop} {vs : List α} {items : Array Value} (f : Fa2 R vs items.toList) : items.size = vs.length := by rw [f.length, Array.length_toList]

theorem Op.len_list {i : Nat} {vs : List MV} (e : σ.st[i]? = some (.list vs)) (hz : vs.length < 2 ^ 40) : Op W G k (fun _ l => call (.builtin "len") l) [.ref i] σ (isV (.int vs.length)) σ := Op.mk fun C R hv h => by
  obtain ⟨_, rfl, r⟩ := hv.un
  obtain ⟨a, items, n, rfl, ha, hl, f⟩ := R.list e r
  have hs := f.size
  refine PyProof.Rows.len_list hl.isList (by omega) ?_
  rw [hs]
  exact h _ _ _ (Nx.same R) ⟨_, rfl⟩
theorem Op.item {i : Nat} {vs : List MV} {j : Int} {x : MV} (e : σ.st[i]? = some (.list vs)) (h0 : 0 ≤ j) (hj : j < 2 ^ 63) (hx : vs[j.toNat]? = some x) : Op W G k (t2 getItem) [.ref i, .int j] σ (isV x) σ := Op.mk fun C R hv h => by
  obtain ⟨_, _, rfl, r, ⟨t, rfl⟩⟩ := hv.two
  obtain ⟨a, items, n, rfl, ha, hl, f⟩ := R.list e r
  obtain ⟨y, hy, ry⟩ := f.get hx
  exact wpAny_getItem_list hl.isList h0 hj (by rw [← Array.getElem?_toList]; exact hy) (h _ _ _ (Nx.same R (t := _)) ry)

/-- a list of the store turned by a built-in -/
theorem Nx.listUpd {h₀ : Heap} {L : Addr} {cl : List (PySem.Str × Addr)} {ρ : List Addr} {s : Shared} (R : Rel h₀ L cl ρ σ s.heap) {i : Nat} {a : Addr} {items : Array Value} {n t : Nat} {vs vs' : List MV} {f : Array Value → Array Value} (e : σ.st[i]? = some (.list vs)) (ha : ρ[i]? = some a)
    (hl : IsL s.heap a items n) (hf : Fa2 (RV s.heap ρ) vs' (f items).toList) : Nx h₀ L cl ρ s { σ with st := σ.st.set i (.list vs') } ρ { s with heap := s.heap.update a (Obj.mapSeq f), toks := t } := by
  have hs : Heap.SameBut a s.heap (s.heap.update a (Obj.mapSeq f)) := Heap.SameBut.update ..
  refine Nx.upd R ha (List.getElem?_eq_some_iff.mp e).1 (fun b o q e => (hs.2 b q).trans e) (hl.update f) ⟨_, _, rfl, ?_⟩
  have tk : TupKeep s.heap (s.heap.update a (Obj.mapSeq f)) := fun b o it m e c d => by
    by_cases q : b = a
    · subst q
      rw [hl] at e; cases e
      injection c with c; exact absurd c (by decide)
    · exact (hs.2 b q).trans e
  exact hf.mono fun _ _ r => r.mono tk (List.prefix_refl _)

theorem Fa2.erase {α β : Type} {R : α → β → Prop} {l : List α} {m : List β} (h : Fa2 R l m) (i : Nat) : Fa2 R (l.eraseIdx i) (m.eraseIdx i) := by
  rw [List.eraseIdx_eq_take_drop_succ, List.eraseIdx_eq_take_drop_succ]
  exact (h.take _).append (h.drop _)
theorem Op.append {i : Nat} {vs : List MV} {x : MV} (e : σ.st[i]? = some (.list vs)) (hz : vs.length ≤ 100000) : Op W G k (fun _ l => call (.builtin "list.append") l) [.ref i, x] σ (isV .none) { σ with st := σ.st.set i (.list (vs ++ [x])) } := Op.mk fun C R hv h => by
  obtain ⟨_, y, rfl, r, ry⟩ := hv.two
  obtain ⟨a, items, n, rfl, ha, hl, f⟩ := R.list e r
  have hs := f.size
  refine call_meets PySem.F.slot_list_append ⟨_, hl, rfl⟩ PySem.F.entry_list_append (PySem.F.args_list_append_2 _ _) (list_append a items n y (by rw [sizeLine_eq]; omega)) ⟨hl, ?_⟩
  exact h _ _ _ (Nx.listUpd R e ha hl (by simpa using f.append (.one ry))) rfl
def insAt (j : Nat) (x : α) (l : List α) : List α := l.take j ++ x :: l.drop j
theorem Op.insert {i : Nat} {vs : List MV} {j : Int} {x : MV} (e : σ.st[i]? = some (.list vs)) (hz : vs.length ≤ 100000) (h0 : 0 ≤ j) (h1 : j ≤ vs.length) :
    Op W G k (fun _ l => call (.builtin "list.insert") l) [.ref i, .int j, x] σ (isV .none) { σ with st := σ.st.set i (.list (insAt j.toNat x vs)) } := Op.mk fun C R hv h => by
  obtain ⟨_, _, y, rfl, r, ⟨t, rfl⟩, ry⟩ := hv.three
  obtain ⟨a, items, n, rfl, ha, hl, f⟩ := R.list e r
  have hs := f.size
  have hfit : Builtin.List.listFitsIndex j = true := fitsIndex_of h0 (by omega)
  refine call_meets PySem.F.slot_list_insert ⟨_, hl, rfl⟩ PySem.F.entry_list_insert (PySem.F.args_list_insert_3 _ _ _) (AutoListH.list_insert_list_int_val_1 a items n j t y (by rw [hfit]; decide) (by rw [sizeLine_eq]; omega)) ⟨hl, ?_⟩
  refine h _ _ _ (Nx.listUpd R e ha hl ?_) rfl
  have e1 : (if j < 0 then (j + ((items.size : Nat) : Int)).toNat else min j.toNat items.size) = j.toNat := by
    rw [if_neg (by omega), hs]; omega
  simp only [e1]
  unfold insAt
  have : ((items.extract 0 j.toNat).push y ++ items.extract j.toNat).toList = items.toList.take j.toNat ++ y :: items.toList.drop j.toNat := by
    simp [Array.toList_extract]
    exact List.take_of_length_le (by simp)
  rw [this]
  exact (f.take _).append (.cons ry (f.drop _))
theorem Op.popAt {i : Nat} {vs : List MV} {j : Int} {x : MV} (e : σ.st[i]? = some (.list vs)) (hz : vs.length ≤ 100000) (h0 : 0 ≤ j) (h1 : vs[j.toNat]? = some x) :
    Op W G k (fun _ l => call (.builtin "list.pop") l) [.ref i, .int j] σ (isV x) { σ with st := σ.st.set i (.list (vs.eraseIdx j.toNat)) } := by
  constructor
  intro A env cl h₀ L ρ s vs₀ Q C R hv h
  obtain ⟨_, _, rfl, r, ⟨t, rfl⟩⟩ := hv.two
  obtain ⟨a, items, n, rfl, ha, hl, f⟩ := R.list e r
  have hs := f.size
  have hlt : j.toNat < vs.length := (List.getElem?_eq_some_iff.mp h1).1
  have hfit : Builtin.List.listFitsIndex j = true := fitsIndex_of h0 (by omega)
  obtain ⟨y, hy, ry⟩ := f.get h1
  have hk : seqIndex? j items.size = some j.toNat := seqIndex_of h0 (by omega)
  refine call_meets PySem.F.slot_list_pop ⟨_, hl, rfl⟩ PySem.F.entry_list_pop (PySem.F.args_list_pop_2 _ _) (MeetsSeq.list_pop_at a items n j t j.toNat y hfit hk (by rw [← Array.getElem?_toList]; exact hy) (by rw [sizeLine_eq]; omega)) ⟨hl, ?_⟩
  have hfa : Fa2 (RV s.heap ρ) (vs.eraseIdx j.toNat) (items.eraseIdxIfInBounds j.toNat).toList := by
    rw [Array.toList_eraseIdxIfInBounds]
    exact f.erase _
  have nx := fun t => Nx.listUpd R (t := t) (f := fun xs => xs.eraseIdxIfInBounds j.toNat) (vs' := vs.eraseIdx j.toNat) e ha hl hfa
  exact h y _ ρ (nx s.toks) (ry.mono (nx 0).tk (nx 0).pre)
end
end
section
open PySem PySem.W PyProof.Rows PySem.Spec PySem.Calls

section
variable {W : Wd} {G : Fx} {k : Nat} {σ σ₁ σ₂ σ₃ σ₄ σ' : St}

/-! arguments -/
def PlainArgs (es : List Expr) : Prop := ∀ env, starEach es env = es.map fun e => (false, eval e env)
theorem backTo_any {α : Type} {pos : Pos} {es : List α} {f : α → Sem Value} : (backTo pos (es.map fun e => (false, f e))).any (·.1) = false := by
  induction es with
  | nil => rfl
  | cons e es ih => exact ih
def Evs (W : Wd) (G : Fx) (k : Nat) (es : List Expr) (σ : St) (xs : List MV) (σ' : St) : Prop := ∀ pos, Tr W G k (fun env => spliced (backTo pos (starEach es env))) σ (fun h ρ vs => Fa2 (RV h ρ) xs vs) σ'
theorem Evs.nil : Evs W G k [] σ [] σ := fun pos => Tr.mk fun C R h => args_nil (h _ _ _ (Nx.self R) .nil)
theorem Evs.cons {e : Expr} {es : List Expr} {x : MV} {xs : List MV} (h1 : Ev W G k e σ x σ₁) (h2 : Evs W G k es σ₁ xs σ₂) (he : ∀ env, starEach (e :: es) env = (false, eval e env) :: starEach es env) : Evs W G k (e :: es) σ (x :: xs) σ₂ := fun pos => Tr.mk fun C R h =>
  args_cons (h1.run C R fun a s₁ ρ₁ n₁ r => (h2 pos).run C n₁.rel fun vs s₂ ρ₂ n₂ rs => h _ _ _ (n₁.trans n₂) (.cons (r.mono n₂.tk n₂.pre) rs)) (he _)
def Eks (W : Wd) (G : Fx) (k : Nat) (ks : List Keyword) (σ : St) (kw : List (PySem.Str × MV)) (σ' : St) : Prop :=
  (∀ pos env, (backToKw pos (keywordEach ks env)).all (·.1.isSome) = true ∧ (backToKw pos (keywordEach ks env)).any (·.1.isNone) = false ∧ (backToKw pos (keywordEach ks env)).filterMap (·.1) = kw.map (·.1)) ∧
    ∀ pos, Tr W G k (fun env => evalAll ((backToKw pos (keywordEach ks env)).map (·.2))) σ (fun h ρ vs => Fa2 (RV h ρ) (kw.map (·.2)) vs) σ'
theorem Eks.nil : Eks W G k [] σ [] σ := ⟨fun _ _ => ⟨rfl, rfl, rfl⟩, fun pos => Tr.mk fun C R h => kwAll_nil (h _ _ _ (Nx.self R) .nil)⟩
theorem Eks.cons {e : Expr} {n : PySem.Str} {p : Pos} {ks : List Keyword} {x : MV} {kw : List (PySem.Str × MV)} (h1 : Ev W G k e σ x σ₁) (h2 : Eks W G k ks σ₁ kw σ₂) : Eks W G k (⟨some n, e, p⟩ :: ks) σ ((n, x) :: kw) σ₂ := by
  refine ⟨fun pos env => ?_, fun pos => Tr.mk fun C R h => ?_⟩
  · obtain ⟨a, b, c⟩ := h2.1 pos env
    refine ⟨a, b, ?_⟩
    show n :: (backToKw pos (keywordEach ks env)).filterMap (·.1) = n :: _
    rw [c]
  · exact kwAll_cons (h1.run C R fun a s₁ ρ₁ n₁ r => (h2.2 pos).run C n₁.rel fun vs s₂ ρ₂ n₂ rs => h _ _ _ (n₁.trans n₂) (.cons (r.mono n₂.tk n₂.pre) rs))

/-- a call -/
structure OcP (W : Wd) (G : Fx) (k : Nat) (f : Value) (xs : List MV) (kw : List (PySem.Str × MV)) (σ : St) (P : Heap → List Addr → Value → Prop) (σ' : St) : Prop where
  run : ∀ {A : Around} {env : Env} {cl : List (PySem.Str × Addr)} {h₀ : Heap} {L : Addr} {ρ : List Addr} {s : Shared} {vs : List Value} {kvs : List (PySem.Str × Value)} {Q : Value → Shared → Prop},
    Cx W G A env cl h₀ L k → Rel h₀ L cl ρ σ s.heap → Fa2 (RV s.heap ρ) xs vs → Fa2 (fun p q => p.1 = q.1 ∧ RV s.heap ρ p.2 q.2) kw kvs →
    (∀ v' s' ρ', Nx h₀ L cl ρ s σ' ρ' s' → P s'.heap ρ' v' → Q v' s') → wpAny W.M A (call f vs kvs) Q (fun _ _ => False) s
abbrev Oc (W : Wd) (G : Fx) (k : Nat) (f : Value) (xs : List MV) (kw : List (PySem.Str × MV)) (σ : St) (z : MV) (σ' : St) : Prop := OcP W G k f xs kw σ (fun h ρ v => RV h ρ z v) σ'
def Keeps (W : Wd) (f : Value) : Prop := ∀ h, W.K.In h → ∃ k, (k = Keeper.frame ∨ k = Keeper.machine ∨ k = Keeper.boundFrame) ∧ Looks W.M h (keeperOf f) k
theorem Keeps.builtin {id : String} : Keeps W (.builtin id) := fun h _ => ⟨.machine, .inr (.inl rfl), Looks.of_pure rfl⟩
theorem Keeps.type {id : String} : Keeps W (.type id) := fun h _ => ⟨.machine, .inr (.inl rfl), Looks.of_pure rfl⟩
theorem Keeps.K {f : Addr} (e : keepIn W.K (.ref f) = true) : Keeps W (.ref f) := fun h X => keeps_K e h X

theorem Oc.of {f : Addr} {xs : List MV} {kw : List (PySem.Str × MV)} {z : MV} {st' : List MO} (hf : G.fn = true) (h : Ec W k f xs kw σ.st z st') : Oc W G k (.ref f) xs kw σ z { σ with st := st' } :=
  OcP.mk fun C R hv hk hq => wpAny_call (h.run hf C R rfl hv hk hq)
theorem Oc.op {f : Value} {xs : List MV} {z : MV} (h : Op W G k (fun _ vs => call f vs) xs σ (isV z) σ') : Oc W G k f xs [] σ z σ' := OcP.mk fun C R hv hk hq => by
  cases hk; exact h.run C R hv hq
theorem OcP.op {f : Value} {xs : List MV} {P : Heap → List Addr → Value → Prop} (h : Op W G k (fun _ vs => call f vs) xs σ P σ') : OcP W G k f xs [] σ P σ' := OcP.mk fun C R hv hk hq => by
  cases hk; exact h.run C R hv hq

theorem evalArgs_any {M : Model} {A : Around} {E : Value → Shared → Prop} {s : Shared} {env : Env} {f : Value} {pos : Pos} {es : List Expr} {kws : List Keyword} {Q : Args → Shared → Prop} (hp : PlainArgs es)
    (hall : (backToKw pos (keywordEach kws env)).all (·.1.isSome) = true)
    (h : wpAny M A (spliced (backTo pos (starEach es env))) (fun vs s₁ => wpAny M A (evalAll ((backToKw pos (keywordEach kws env)).map (·.2)))
      (fun ks s₂ => Q ⟨vs, ((backToKw pos (keywordEach kws env)).filterMap (·.1)).zip ks⟩ s₂) E s₁) E s) :
    wpAny M A (evalArgs f true (backTo pos (starEach es env)) (backToKw pos (keywordEach kws env))) Q E s := by
  cases es with
  | cons e es =>
    refine evalArgs_kw2 hall h ?_
    have h1 := hp env
    cases e
    case Starred => rw [List.map_cons] at h1; unfold starEach at h1; injection h1 with h1 _; injection h1 with h1 _; cases h1
    all_goals first | rfl | simp [starEach]
  | nil =>
    unfold evalArgs
    show wpAny M A (spliced [] >>= _) Q E s
    refine wpAny_bind (wpAny_mono h (fun vs s₁ h₁ => ?_) fun _ _ x => x)
    refine wpAny_holding ?_
    simp only [hall, if_true]
    refine wpAny_bind (wpAny_mono h₁ (fun ks s₂ h₂ => ?_) fun _ _ x => x)
    exact wpAny_bind (wpAny_pure (wpAny_pure h₂))
theorem zipKw {R : MV → Value → Prop} {kw : List (PySem.Str × MV)} {kvs : List Value} (h : Fa2 R (kw.map (·.2)) kvs) : Fa2 (fun p q => p.1 = q.1 ∧ R p.2 q.2) kw ((kw.map (·.1)).zip kvs) := by
  induction kw generalizing kvs with
  | nil => cases h; exact .nil
  | cons p kw ih =>
    cases h with
    | cons r t => exact .cons ⟨rfl, r⟩ (ih t)
theorem callWith_go {A : Around} {env : Env} {cl : List (PySem.Str × Addr)} {h₀ : Heap} {L : Addr} {ρ : List Addr} {s : Shared} {Q : Value → Shared → Prop} {pos : Pos} {f : Value} {first : List Value} {fx : List MV} {es : List Expr} {ks : List Keyword} {xs : List MV} {kw : List (PySem.Str × MV)} {P : Heap → List Addr → Value → Prop}
    (C : Cx W G A env cl h₀ L k) (R : Rel h₀ L cl ρ σ s.heap) (hp : PlainArgs es) (hfx : Fa2 (RV s.heap ρ) fx first) (h1 : Evs W G k es σ xs σ₁) (h2 : Eks W G k ks σ₁ kw σ₂) (hk : Keeps W f) (h3 : OcP W G k f (fx ++ xs) kw σ₂ P σ₃)
    (h : ∀ v' s' ρ', Nx h₀ L cl ρ s σ₃ ρ' s' → P s'.heap ρ' v' → Q v' s') : wpAny W.M A (callWith pos f first (backTo pos (starEach es env)) (backToKw pos (keywordEach ks env))) Q (fun _ _ => False) s := by
  refine callWith_of (P := W.K.In) ?_ hk (evalArgs_any hp (h2.1 _ _).1 ?_)
  · rw [hp env, backTo_any, (h2.1 _ _).2.1]; rfl
  refine (h1 pos).run C R fun vs s₁ ρ₁ n₁ r₁ => (h2.2 pos).run C n₁.rel fun kvs s₂ ρ₂ n₂ r₂ => ⟨C.K.keeps n₂.rel.keep₀, ?_⟩
  refine h3.run C n₂.rel ?_ ?_ fun v s₃ ρ₃ n₃ r₃ => h _ _ _ ((n₁.trans n₂).trans n₃) r₃
  · exact (hfx.mono fun _ _ r => r.mono (n₁.trans n₂).tk (n₁.trans n₂).pre).append (r₁.mono fun _ _ r => r.mono n₂.tk n₂.pre)
  · rw [(h2.1 _ _).2.2]
    exact zipKw r₂

theorem Tr.call {func : Expr} {es : List Expr} {ks : List Keyword} {pos : Pos} {f : Value} {xs : List MV} {kw : List (PySem.Str × MV)} {P : Heap → List Addr → Value → Prop} (hf : Ev W G k func σ (.lit f) σ₁) (h1 : Evs W G k es σ₁ xs σ₂) (h2 : Eks W G k ks σ₂ kw σ₃) (hk : Keeps W f) (h3 : OcP W G k f xs kw σ₃ P σ₄)
    (hp : PlainArgs es) (he : ∀ env, eval (.Call func es ks pos) env = (do callWith pos (← eval func env) [] (backTo pos (starEach es env)) (backToKw pos (keywordEach ks env)))) : Tr W G k (eval (.Call func es ks pos)) σ P σ₄ := Tr.mk fun C R h => by
  rw [he]
  exact wpAny_bind (hf.run C R fun a s₁ ρ₁ n₁ r => by
    have r : a = f := r
    subst r
    exact callWith_go C n₁.rel hp (fx := []) .nil h1 h2 hk h3 fun v s₂ ρ₂ n₂ r₂ => h _ _ _ (n₁.trans n₂) r₂)
/-- a method looked up -/
structure Om (W : Wd) (G : Fx) (k : Nat) (x : MV) (name : PySem.Str) (f : Value) (σ : St) : Prop where
  run : ∀ {A : Around} {env : Env} {cl : List (PySem.Str × Addr)} {h₀ : Heap} {L : Addr} {ρ : List Addr} {s : Shared} {v : Value} {pl : Sem Bool} {Q : Value × List Value → Shared → Prop},
    Cx W G A env cl h₀ L k → Rel h₀ L cl ρ σ s.heap → RV s.heap ρ x v → (∀ s', Nx h₀ L cl ρ s σ ρ s' → Q (f, [v]) s') → wpAny W.M A (getMethod v name pl) Q (fun _ _ => False) s
theorem Tr.meth {o : Expr} {name : PySem.Str} {apos pos : Pos} {es : List Expr} {ks : List Keyword} {f : Value} {x : MV} {xs : List MV} {kw : List (PySem.Str × MV)} {P : Heap → List Addr → Value → Prop} (ho : Ev W G k o σ x σ₁) (hm : Om W G k x name f σ₁) (h1 : Evs W G k es σ₁ xs σ₂) (h2 : Eks W G k ks σ₂ kw σ₃) (hk : Keeps W f)
    (h3 : OcP W G k f (x :: xs) kw σ₃ P σ₄) (hp : PlainArgs es) 
    (he : ∀ env, ∃ pl, eval (.Call (.Attribute o name apos) es ks pos) env = (do
      let ov ← eval o env
      standAt apos.atName
      let (f, first) ← holding [ov] (getMethod ov name pl)
      callWith pos f first (backTo pos (starEach es env)) (backToKw pos (keywordEach ks env)))) : Tr W G k (eval (.Call (.Attribute o name apos) es ks pos)) σ P σ₄ := Tr.mk fun C R h => by
  obtain ⟨pl, he⟩ := he _
  refine methodCall_KW (pl := pl) ?_ he
  refine ho.run C R fun ov s₁ ρ₁ n₁ r₁ => hm.run C n₁.rel r₁ fun s₂ n₂ => ?_
  exact callWith_go C n₂.rel hp (fx := [x]) (.one (r₁.mono n₂.tk n₂.pre)) h1 h2 hk h3 fun v s₃ ρ₃ n₃ r₃ => h _ _ _ ((n₁.trans n₂).trans n₃) r₃

theorem Ev.call {func : Expr} {es : List Expr} {ks : List Keyword} {pos : Pos} {f : Value} {xs : List MV} {kw : List (PySem.Str × MV)} {z : MV} (hf : Ev W G k func σ (.lit f) σ₁) (h1 : Evs W G k es σ₁ xs σ₂) (h2 : Eks W G k ks σ₂ kw σ₃) (hk : Keeps W f) (h3 : Oc W G k f xs kw σ₃ z σ₄)
    (hp : PlainArgs es) (he : ∀ env, eval (.Call func es ks pos) env = (do callWith pos (← eval func env) [] (backTo pos (starEach es env)) (backToKw pos (keywordEach ks env)))) : Ev W G k (.Call func es ks pos) σ z σ₄ := Tr.call (P := fun h ρ v => RV h ρ z v) hf h1 h2 hk h3 hp he
theorem Ev.meth {o : Expr} {name : PySem.Str} {apos pos : Pos} {es : List Expr} {ks : List Keyword} {f : Value} {x : MV} {xs : List MV} {kw : List (PySem.Str × MV)} {z : MV} (ho : Ev W G k o σ x σ₁) (hm : Om W G k x name f σ₁) (h1 : Evs W G k es σ₁ xs σ₂) (h2 : Eks W G k ks σ₂ kw σ₃) (hk : Keeps W f)
    (h3 : Oc W G k f (x :: xs) kw σ₃ z σ₄) (hp : PlainArgs es) 
    (he : ∀ env, ∃ pl, eval (.Call (.Attribute o name apos) es ks pos) env = (do
      let ov ← eval o env
      standAt apos.atName
      let (f, first) ← holding [ov] (getMethod ov name pl)
      callWith pos f first (backTo pos (starEach es env)) (backToKw pos (keywordEach ks env)))) : Ev W G k (.Call (.Attribute o name apos) es ks pos) σ z σ₄ := Tr.meth (P := fun h ρ v => RV h ρ z v) ho hm h1 h2 hk h3 hp he
end
end
section
open PySem PySem.W PyProof.Rows PySem.Spec PySem.Calls

structure GxB (g : Option Nat) (s s' : Shared) : Prop where
  os : s'.os = s.os
  size : s.gens.size ≤ s'.gens.size
  old : ∀ i, i < s.gens.size → s'.gens[i]? = s.gens[i]?
  new : ∀ i x, s.gens.size ≤ i → some i ≠ g → s'.gens[i]? = some x → x = .finished
/-- within a loop: one generator may be under way -/
structure Mx (h₀ : Heap) (L : Addr) (cl : List (PySem.Str × Addr)) (ρ : List Addr) (s : Shared) (σ' : St) (ρ' : List Addr) (s' : Shared) (g : Option Nat) : Prop where
  pre : ρ <+: ρ'
  rel : Rel h₀ L cl ρ' σ' s'.heap
  gx : GxB g s s'
  tk : TupKeep s.heap s'.heap
  un : ∀ b o, s.heap.get? b = some o → b ∉ ρ → b ≠ L → s'.heap.get? b = some o
  fresh : ∀ a, a ∈ ρ' → a ∉ ρ → s.heap.get? a = none
  base : ∀ b o, h₀.get? b = some o → s.heap.get? b = some o
/-- a step aside -/
structure Sd (D : Addr → Prop) (L : Addr) (ρ : List Addr) (s₀ : Shared) (g : Option Nat) (s s' : Shared) : Prop where
  os : s'.os = s.os
  size : s.gens.size ≤ s'.gens.size
  old : ∀ i, i < s.gens.size → some i ≠ g → s'.gens[i]? = s.gens[i]?
  low : ∀ i, g = some i → s₀.gens.size ≤ i ∧ i < s.gens.size
  new : ∀ i x, s.gens.size ≤ i → s'.gens[i]? = some x → x = .finished
  keep : ∀ b o, s.heap.get? b = some o → (b ∈ ρ ∨ b = L ∨ s₀.heap.get? b ≠ none ∨ ¬ D b) → s'.heap.get? b = some o
  tk : TupKeep s.heap s'.heap

section
variable {h₀ h h' : Heap} {L : Addr} {cl : List (PySem.Str × Addr)} {ρ ρ₀ ρ' ρ'' : List Addr} {s s₀ s' s'' : Shared} {σ σ' σ'' : St} {g : Option Nat} {D : Addr → Prop}
theorem Rel.side (R : Rel h₀ L cl ρ σ h) (k : ∀ b o, h.get? b = some o → (b ∈ ρ ∨ b = L ∨ h₀.get? b ≠ none) → h'.get? b = some o) (tk : TupKeep h h') : Rel h₀ L cl ρ σ h' := by
  obtain ⟨⟨m, objs, F, N, el, f, l⟩, nd, ce⟩ := R
  refine ⟨⟨m, objs, ⟨?_, fun b o e => k b o (F.keep b o e) (.inr (.inr (by rw [e]; simp))), F.above⟩, fun p hp => ⟨k _ _ (N p hp).1 (.inl (List.of_mem_zip hp).1), (N p hp).2⟩, el, f.mono fun _ _ r => r.mono tk (List.prefix_refl _), fun x v e => ?_⟩, nd, ce⟩
  · obtain ⟨o, es, ep, ho, r⟩ := F.ns; exact ⟨o, es, ep, k _ _ ho (.inr (.inl rfl)), r⟩
  · obtain ⟨v', a, b⟩ := l x v e; exact ⟨v', a, b.mono tk (List.prefix_refl _)⟩
theorem Mx.trans (a : Mx h₀ L cl ρ₀ s₀ σ ρ s g) (b : Nx h₀ L cl ρ s σ' ρ' s') (hg : ∀ i, g = some i → i < s.gens.size) : Mx h₀ L cl ρ₀ s₀ σ' ρ' s' g := by
  have off : ∀ b o, s₀.heap.get? b = some o → b ∉ ρ₀ → b ∉ ρ := fun b o e h q => by have := a.fresh b q h; rw [e] at this; cases this
  refine ⟨a.pre.trans b.pre, b.rel, ⟨b.gx.os.trans a.gx.os, Nat.le_trans a.gx.size b.gx.size, fun i hi => (b.gx.old i (Nat.lt_of_lt_of_le hi a.gx.size)).trans (a.gx.old i hi), fun i x hi hn e => ?_⟩, a.tk.trans b.tk, fun x o e h1 h2 => b.un x o (a.un x o e h1 h2) (off x o e h1) h2, fun x hx h1 => ?_, a.base⟩
  · by_cases q : i < s.gens.size
    · rw [b.gx.old i q] at e; exact a.gx.new i x hi hn e
    · exact b.gx.new i x (Nat.le_of_not_lt q) e
  · by_cases q : x ∈ ρ
    · exact a.fresh x q h1
    · have z := b.fresh x hx q
      cases e : s₀.heap.get? x with
      | none => rfl
      | some o =>
        by_cases hL : x = L
        · subst hL
          obtain ⟨m, oL, _, _, hL, _⟩ := a.rel.ns
          rw [hL] at z; cases z
        · have := a.un x o e h1 hL; rw [z] at this; cases this
theorem Mx.side (a : Mx h₀ L cl ρ₀ s₀ σ ρ s g) (b : Sd D L ρ s₀ g s s') : Mx h₀ L cl ρ₀ s₀ σ ρ s' g := by
  refine ⟨a.pre, a.rel.side (fun x o e h => b.keep x o e ?_) b.tk, ⟨b.os.trans a.gx.os, Nat.le_trans a.gx.size b.size, fun i hi => ?_, fun i x hi hn e => ?_⟩, a.tk.trans b.tk, fun x o e h1 h2 => b.keep x o (a.un x o e h1 h2) (.inr (.inr (.inl (by rw [e]; simp)))), a.fresh, a.base⟩
  · rcases h with h | h | h
    · exact .inl h
    · exact .inr (.inl h)
    · refine .inr (.inr (.inl ?_))
      cases q : h₀.get? x with
      | none => exact absurd q h
      | some o' => rw [a.base x o' q]; simp
  · rw [b.old i (Nat.lt_of_lt_of_le hi a.gx.size) (fun q => by have := (b.low i q.symm).1; omega)]; exact a.gx.old i hi
  · by_cases q : i < s.gens.size
    · rw [b.old i q hn] at e; exact a.gx.new i x hi hn e
    · exact b.new i x (Nat.le_of_not_lt q) e
theorem Mx.alive (a : Mx h₀ L cl ρ₀ s₀ σ ρ s g) : ∀ b, s₀.heap.get? b ≠ none → s.heap.get? b ≠ none := by
  intro b h
  by_cases h1 : b ∈ ρ₀
  · obtain ⟨o, e, _⟩ := a.rel.low (a.pre.subset h1)
    rw [e]; simp
  · by_cases h2 : b = L
    · subst h2
      obtain ⟨m, oL, _, _, hL, _⟩ := a.rel.ns
      rw [hL]; simp
    · cases q : s₀.heap.get? b with
      | none => exact absurd q h
      | some o => rw [a.un b o q h1 h2]; simp
theorem Mx.close (a : Mx h₀ L cl ρ₀ s₀ σ ρ s g) (h : ∀ i, g = some i → s.gens[i]? = some .finished) : Nx h₀ L cl ρ₀ s₀ σ ρ s :=
  ⟨a.pre, a.rel, ⟨a.gx.os, a.gx.size, a.gx.old, fun i x hi e => by
    by_cases q : some i = g
    · have := h i q.symm; rw [e] at this; exact Option.some.inj this
    · exact a.gx.new i x hi q e⟩, a.tk, a.un, a.fresh⟩
theorem Nx.open (a : Nx h₀ L cl ρ₀ s₀ σ ρ s) (R : Rel h₀ L cl ρ₀ σ' s₀.heap) : Mx h₀ L cl ρ₀ s₀ σ ρ s none :=
  ⟨a.pre, a.rel, ⟨a.gx.os, a.gx.size, a.gx.old, fun i x hi _ e => a.gx.new i x hi e⟩, a.tk, a.un, a.fresh, R.keep₀⟩
theorem Sd.heap {h' : Heap} {t : Nat} (k : ∀ b o, s.heap.get? b = some o → (b ∈ ρ ∨ b = L ∨ s₀.heap.get? b ≠ none ∨ ¬ D b) → h'.get? b = some o) (tk : TupKeep s.heap h') : Sd D L ρ s₀ none s { s with heap := h', toks := t } :=
  ⟨rfl, Nat.le_refl _, fun _ _ _ => rfl, (fun _ h => by cases h), (fun i x hi e => by rw [Array.getElem?_eq_none hi] at e; cases e), k, tk⟩
/-- one object aside turned -/
theorem Sd.one {h' : Heap} {t : Nat} {it : Addr} {o : Obj} (ho : s.heap.get? it = some o) (hn : NoTup o) (n1 : it ∉ ρ) (n2 : it ≠ L) (n3 : s₀.heap.get? it = none) (k : Heap.ExtBut it s.heap h') : Sd (· = it) L ρ s₀ none s { s with heap := h', toks := t } := by
  refine Sd.heap (fun b o e q => k b o (fun z => ?_) e) fun b o' items n e c d => ?_
  · subst z
    rcases q with q | q | q | q
    · exact n1 q
    · exact n2 q
    · exact q n3
    · exact q rfl
  · refine k b o' (fun z => ?_) e
    subst z
    rw [ho] at e; cases e
    exact hn _ _ c d
end

/-- what a turn leaves to an iterator -/
structure Sy (X : Addr → Prop) (ρ : List Addr) (s : Shared) (ρ' : List Addr) (s' : Shared) : Prop where
  pre : ρ <+: ρ'
  un : ∀ b o, s.heap.get? b = some o → b ∉ ρ → ¬ X b → s'.heap.get? b = some o
  off : ∀ b o, s.heap.get? b = some o → b ∉ ρ → b ∉ ρ'
  size : s.gens.size ≤ s'.gens.size
  old : ∀ i, i < s.gens.size → s'.gens[i]? = s.gens[i]?
theorem Nx.sy {h₀ : Heap} {L : Addr} {cl : List (PySem.Str × Addr)} {ρ ρ' : List Addr} {s s' : Shared} {σ' : St} (n : Nx h₀ L cl ρ s σ' ρ' s') : Sy (· = L) ρ s ρ' s' :=
  ⟨n.pre, fun b o e h1 h2 => n.un b o e h1 h2, fun b o e h => n.off e h, n.gx.size, n.gx.old⟩

/-- an iterator under way -/
structure Itr (W : Wd) (A : Around) (h₀ : Heap) (L : Addr) (cl : List (PySem.Str × Addr)) (it : Value) (g : Option Nat) (s₀ : Shared) (D : Addr → Prop) (P : St → Prop) (J : List MV → List Addr → Shared → Prop) : Prop where
  stay : ∀ {xs ρ s ρ' s' C cl' τ}, J xs ρ s → Rel h₀ C cl' ρ τ s.heap → Sy (· = C) ρ s ρ' s' → (C = L ∨ ¬ D C) → J xs ρ' s'
  gen : ∀ {xs ρ s}, J xs ρ s → ∀ i, g = some i → i < s.gens.size
  next : ∀ {x xs ρ s σ E} {Q : Option Value → Shared → Prop}, J (x :: xs) ρ s → Rel h₀ L cl ρ σ s.heap → (∀ b, s₀.heap.get? b ≠ none → s.heap.get? b ≠ none) → P σ → (∀ v s', Sd D L ρ s₀ g s s' → RV s'.heap ρ x v → J xs ρ s' → Q (some v) s') → wpAny W.M A (pyNext it) Q E s
  done : ∀ {ρ s σ E} {Q : Option Value → Shared → Prop}, J [] ρ s → Rel h₀ L cl ρ σ s.heap → (∀ b, s₀.heap.get? b ≠ none → s.heap.get? b ≠ none) → P σ → (∀ s', Sd D L ρ s₀ g s s' → (∀ i, g = some i → s'.gens[i]? = some .finished) → Q none s') → wpAny W.M A (pyNext it) Q E s
  self : ∀ {xs ρ s E} {Q : Value → Shared → Prop}, g = none → J xs ρ s → Q it s → wpAny W.M A (pyIter it) Q E s
  go : ∀ {xs ρ s E target v} {Q : Unit → Shared → Prop}, J xs ρ s → Q () s → wpAny W.M A (letOwnedTupleGo target it v) Q E s

section
variable {W : Wd} {G : Fx} {k : Nat} {σ σ₁ σ₂ σ₃ σ₄ σ' : St}
/-- an iterable expression, and its iterator -/
structure Ie (W : Wd) (G : Fx) (k : Nat) (e : Expr) (σ : St) (xs : List MV) (gn : Bool) (P : St → Prop) (σ' : St) : Prop where
  run : ∀ {A : Around} {env : Env} {cl : List (PySem.Str × Addr)} {h₀ : Heap} {L : Addr} {ρ : List Addr} {s : Shared} {Q : Value → Shared → Prop},
    Cx W G A env cl h₀ L k → Rel h₀ L cl ρ σ s.heap → (∀ it s' ρ' g D J, (gn = false → g = none ∧ ∀ b, D b → ∃ o, s'.heap.get? b = some o) → Itr W A h₀ L cl it g s D P J → J xs ρ' s' → Mx h₀ L cl ρ s σ' ρ' s' g → Q it s') →
    wpAny W.M A (eval e env) (fun x s₁ => wpAny W.M A (pyIter x) Q (fun _ _ => False) s₁) (fun _ _ => False) s
/-- a target stored -/
structure Tg (W : Wd) (G : Fx) (k : Nat) (t : Expr) (x : MV) (σ σ' : St) : Prop where
  run : ∀ {A : Around} {env : Env} {cl : List (PySem.Str × Addr)} {h₀ : Heap} {L : Addr} {ρ : List Addr} {s : Shared} {v : Value} {Q : Unit → Shared → Prop},
    Cx W G A env cl h₀ L k → Rel h₀ L cl ρ σ s.heap → RV s.heap ρ x v → (∀ s', Nx h₀ L cl ρ s σ' ρ s' → Q () s') → wpAny W.M A (assign t env v) Q (fun _ _ => False) s
/-- a loop's turns -/
inductive Lp (W : Wd) (G : Fx) (k : Nat) (t : Expr) (body : List Stmt) (P : St → Prop) : List MV → St → Fl → St → Prop
  | nil {τ : St} : P τ → Lp W G k t body P [] τ .next τ
  | next {x : MV} {xs : List MV} {τ τ₁ τ₂ : St} {fl : Fl} {τ₃ : St} : P τ → Tg W G k t x τ τ₁ → Exs W G k body τ₁ .next τ₂ → Lp W G k t body P xs τ₂ fl τ₃ → Lp W G k t body P (x :: xs) τ fl τ₃
  | cont {x : MV} {xs : List MV} {τ τ₁ τ₂ : St} {fl : Fl} {τ₃ : St} : P τ → Tg W G k t x τ τ₁ → Exs W G k body τ₁ .cont τ₂ → Lp W G k t body P xs τ₂ fl τ₃ → Lp W G k t body P (x :: xs) τ fl τ₃
  | ret {x : MV} {xs : List MV} {τ τ₁ : St} {v : MV} {τ₂ : St} : P τ → Tg W G k t x τ τ₁ → Exs W G k body τ₁ (.ret v) τ₂ → Lp W G k t body P (x :: xs) τ (.ret v) τ₂

theorem Ex.for_ {t iter : Expr} {body : List Stmt} {pos : Pos} {xs : List MV} {gn : Bool} {P : St → Prop} {fl : Fl} (hi : Ie W G k iter σ xs gn P σ₁) (hl : Lp W G k t body P xs σ₁ fl σ₂) (hg : fl = .next ∨ gn = false)
    (hs : ∀ env : Env, env.scope = G.sc → ∀ x, foldedSetIterable iter env x = pure x) : Ex W G k (.For t iter body [] pos) σ fl σ₂ := by
  constructor
  intro A env cl h₀ L ρ₀ s₀ Q C R hQ
  refine wpAny_For (hi.run C R fun it s₁ ρ₁ g D J hgn I hJ m₁ => ?_) (hs _ C.sc)
  refine codeAny_forLoop_any (fun n s => ∃ xs σ ρ, n = xs.length + 1 ∧ Lp W G k t body P xs σ fl σ₂ ∧ J xs ρ s ∧ Mx h₀ L cl ρ₀ s₀ σ ρ s g) ?_ (xs.length + 1) ⟨xs, σ₁, ρ₁, rfl, hl, hJ, m₁⟩
  rintro n s ⟨xs, σ, ρ, rfl, hl, hJ, m⟩
  cases hl with
  | nil hP =>
    refine I.done hJ m.rel m.alive hP fun s' sd fin => wpAny_execs_nil (hQ _ _ _ ((m.side sd).close fin) rfl)
  | next hP ht hb hl' =>
    refine I.next hJ m.rel m.alive hP fun v s₂ sd rv hJ' => I.go hJ' ?_
    have m₂ := m.side sd
    refine wpAny_mono (ht.run C m₂.rel rv fun s₃ n₃ => ?_) (fun _ _ q => q) (fun _ _ q => False.elim q)
    exact wpAny_mono (hb.run C n₃.rel (Q := fun f s₄ => f = .next ∧ ∃ ρ₄, Nx h₀ L cl _ s₃ _ ρ₄ s₄) fun f s₄ ρ₄ n₄ r => ⟨r, ρ₄, n₄⟩) (fun f s₄ q => by
      obtain ⟨rfl, ρ₄, n₄⟩ := q
      exact ⟨_, Nat.lt_succ_self _, _, _, _, rfl, hl', I.stay (I.stay hJ' m₂.rel n₃.sy (.inl rfl)) n₃.rel n₄.sy (.inl rfl), (m₂.trans n₃ (I.gen hJ')).trans n₄ (I.gen (I.stay hJ' m₂.rel n₃.sy (.inl rfl)))⟩) (fun _ _ q => False.elim q)
  | cont hP ht hb hl' =>
    refine I.next hJ m.rel m.alive hP fun v s₂ sd rv hJ' => I.go hJ' ?_
    have m₂ := m.side sd
    refine wpAny_mono (ht.run C m₂.rel rv fun s₃ n₃ => ?_) (fun _ _ q => q) (fun _ _ q => False.elim q)
    exact wpAny_mono (hb.run C n₃.rel (Q := fun f s₄ => f = .cont ∧ ∃ ρ₄, Nx h₀ L cl _ s₃ _ ρ₄ s₄) fun f s₄ ρ₄ n₄ r => ⟨r, ρ₄, n₄⟩) (fun f s₄ q => by
      obtain ⟨rfl, ρ₄, n₄⟩ := q
      exact ⟨_, Nat.lt_succ_self _, _, _, _, rfl, hl', I.stay (I.stay hJ' m₂.rel n₃.sy (.inl rfl)) n₃.rel n₄.sy (.inl rfl), (m₂.trans n₃ (I.gen hJ')).trans n₄ (I.gen (I.stay hJ' m₂.rel n₃.sy (.inl rfl)))⟩) (fun _ _ q => False.elim q)
  | ret hP ht hb =>
    have hg0 : g = none := (hgn (hg.resolve_left (fun q => by cases q))).1
    subst hg0
    refine I.next hJ m.rel m.alive hP fun v s₂ sd rv hJ' => I.go hJ' ?_
    have m₂ := m.side sd
    refine wpAny_mono (ht.run C m₂.rel rv fun s₃ n₃ => ?_) (fun _ _ q => q) (fun _ _ q => False.elim q)
    exact wpAny_mono (hb.run C n₃.rel (Q := fun f s₄ => ∃ ρ₄ v', f = .ret v' ∧ Nx h₀ L cl _ s₃ _ ρ₄ s₄ ∧ RV s₄.heap ρ₄ _ v') fun f s₄ ρ₄ n₄ r => by
        obtain ⟨v', rfl, r⟩ := r; exact ⟨ρ₄, v', rfl, n₄, r⟩) (fun f s₄ q => by
      obtain ⟨ρ₄, v', rfl, n₄, r⟩ := q
      exact hQ _ _ _ (((m₂.trans n₃ (fun _ h => by cases h)).trans n₄ (fun _ h => by cases h)).close fun _ h => by cases h) ⟨v', rfl, r⟩) (fun _ _ q => False.elim q)

theorem Tg.name {x : PySem.Str} {p : Pos} {v : MV} (hl : G.sc.names.lookup x = some .local) : Tg W G k (.Name x p) v σ { σ with loc := setL x v σ.loc } := Tg.mk fun C R rv h =>
  wpAny_assign_Name (store_local C R hl rv h)
end
end
section
open PySem PySem.W PyProof.Rows PySem.Spec PySem.Calls

section
variable {W : Wd} {G : Fx} {k : Nat} {σ σ₁ σ₂ σ₃ σ₄ σ' : St}

theorem drop_cons {α : Type} {l xs : List α} {x : α} {j : Nat} (h : x :: xs = l.drop j) : l[j]? = some x ∧ xs = l.drop (j + 1) := by
  have h1 : (l.drop j)[0]? = some x := by rw [← h]; rfl
  rw [List.getElem?_drop] at h1
  refine ⟨by simpa using h1, ?_⟩
  rw [← List.drop_drop, ← h]; rfl

theorem go_list {E : Value → Shared → Prop} {M : Model} {A : Around} {s : Shared} {Q : Unit → Shared → Prop} {target : Expr} {v : Value} {it : Addr} {o : Obj} {n : String} {vs : Array Value} (ho : s.heap.get? it = some o) (hc : o.cls = .type n) (hd : o.data = .fields vs)
    (hn : ["enumerate", "zip", "dict_itemiterator", "dict_reverseitemiterator", "odict_iterator", "itertools.zip_longest", "itertools.pairwise"].contains n = false) (h : Q () s) : wpAny M A (letOwnedTupleGo target (.ref it) v) Q E s := by
  unfold letOwnedTupleGo
  split
  · split
    · rename_i r a e
      injection e with e1 e2
      injection e1 with e1
      subst e1
      refine wpAny_bind (wpAny_load ho ?_)
      rw [hc, hd]
      show wpAny _ A (if (["enumerate", "zip", "dict_itemiterator", "dict_reverseitemiterator", "odict_iterator", "itertools.zip_longest", "itertools.pairwise"].contains n && vs[0]? == some (rawInt a)) = true then _ else _) Q E s
      rw [if_neg (by rw [hn]; simp)]
      exact wpAny_pure h
    · exact wpAny_pure h
  · split
    · rename_i r a e
      injection e with e1 e2
      injection e1 with e1
      subst e1
      refine wpAny_bind (wpAny_load ho ?_)
      rw [hc, hd]
      show wpAny _ A (if (["enumerate", "zip", "dict_itemiterator", "dict_reverseitemiterator", "odict_iterator", "itertools.zip_longest", "itertools.pairwise"].contains n && vs[0]? == some (rawInt a)) = true then _ else _) Q E s
      rw [if_neg (by rw [hn]; simp)]
      exact wpAny_pure h
    · exact wpAny_pure h
  · exact wpAny_pure h

theorem Ie.list {e : Expr} {i : Nat} {vs : List MV} (he : Ev W G k e σ (.ref i) σ₁) (hv : σ₁.st[i]? = some (.list vs)) : Ie W G k e σ vs false (fun τ => τ.st[i]? = some (.list vs)) σ₁ := by
  constructor
  intro A env cl h₀ L ρ₀ s₀ Q C R hQ
  refine he.run C R fun v s₁ ρ₁ n₁ r₁ => ?_
  obtain ⟨a, items, n, rfl, ha, hl, f⟩ := n₁.rel.list hv r₁
  have nk : Nx h₀ L cl ρ₁ s₁ σ₁ ρ₁ { s₁ with heap := s₁.heap.push { cls := .type "list_iterator", data := .fields #[.ref a, .int 0 0] } } := Nx.kept n₁.rel (t := s₁.toks) fun b o e => Heap.get?_push_of_some _ e
  have hnone : s₁.heap.get? s₁.heap.objs.size = none := by
    cases q : s₁.heap.get? s₁.heap.objs.size with
    | none => rfl
    | some o => exact absurd (Heap.lt_size q) (Nat.lt_irrefl _)
  have hρ : s₁.heap.objs.size ∉ ρ₁ := fun q => by
    obtain ⟨o, e, _⟩ := n₁.rel.low q
    rw [hnone] at e; cases e
  have hL : s₁.heap.objs.size ≠ L := fun q => by
    obtain ⟨m, oL, _, _, hL, _⟩ := n₁.rel.ns
    rw [← q, hnone] at hL; cases hL
  have h0 : s₀.heap.get? s₁.heap.objs.size = none := by
    cases q : s₀.heap.get? s₁.heap.objs.size with
    | none => rfl
    | some o =>
      by_cases z : s₁.heap.objs.size ∈ ρ₀
      · exact absurd (n₁.pre.subset z) hρ
      · have := n₁.un _ _ q z hL; rw [hnone] at this; cases this
  refine wpAny_pyIter_list hl.isList (hQ (.ref s₁.heap.objs.size) _ ρ₁ none (· = s₁.heap.objs.size) (fun xs ρ s => ∃ j, s.heap.IsListIter s₁.heap.objs.size a j ∧ xs = vs.drop j ∧ ρ[i]? = some a ∧ s₁.heap.objs.size ∉ ρ) (fun _ => ⟨rfl, fun b e => e ▸ ⟨_, Heap.get?_push_size _ rfl⟩⟩) ?_ ⟨0, ⟨_, Heap.get?_push_size _ rfl, rfl, rfl⟩, rfl, ha, hρ⟩ ((n₁.trans nk).open R))
  constructor
  · rintro xs ρ s ρ' s' C' cl' τ ⟨j, hit, hx, hi, hm⟩ R' nx hX
    obtain ⟨o, ho, hc, hd⟩ := hit
    obtain ⟨t, rfl⟩ := nx.pre
    exact ⟨j, ⟨o, nx.un _ _ ho hm (fun q => hX.elim (fun z => hL (q.trans z)) fun z => z q.symm), hc, hd⟩, hx, by rw [List.getElem?_append_left (List.getElem?_eq_some_iff.mp hi).1]; exact hi, nx.off _ _ ho hm⟩
  · intro _ _ _ _ _ h; cases h
  · rintro x xs ρ s τ E Q ⟨j, hit, hx, hi, hm⟩ R' al hP hq
    obtain ⟨hj, hx'⟩ := drop_cons hx
    obtain ⟨a', items', n', e, ha', hl', f'⟩ := R'.list hP (v := .ref a) ⟨a, hi, rfl⟩
    cases e
    obtain ⟨y, hy, ry⟩ := f'.get hj
    obtain ⟨o, ho, hc, hd⟩ := id hit
    refine wpAny_pyNext_list_item hit hl'.isList (by rw [← Array.getElem?_toList]; exact hy) fun h' hit' hs' => ?_
    have sd : Sd _ L ρ s₀ none s { s with heap := h', toks := s.toks } := Sd.one ho (fun its m c d => by rw [hd] at d; cases d) hm hL h0 hs'.extBut
    exact hq y _ sd (ry.mono sd.tk (List.prefix_refl _)) ⟨j + 1, hit', hx', hi, hm⟩
  · rintro ρ s τ E Q ⟨j, hit, hx, hi, hm⟩ R' al hP hq
    obtain ⟨a', items', n', e, ha', hl', f'⟩ := R'.list hP (v := .ref a) ⟨a, hi, rfl⟩
    cases e
    obtain ⟨o, ho, hc, hd⟩ := id hit
    have hj : vs.length ≤ j := by
      have := congrArg List.length hx
      simp at this
      omega
    refine wpAny_pyNext_list_end C.hh hit hl'.isList (by rw [Array.getElem?_eq_none]; rw [f'.size]; exact hj) fun h' he' => ?_
    exact hq _ (Sd.one (t := s.toks) ho (fun its m c d => by rw [hd] at d; cases d) hm hL h0 he') fun _ h => by cases h
  · rintro xs ρ s E Q _ ⟨j, hit, _⟩ hq
    exact wpAny_pyIter_listiter hit hq
  · rintro xs ρ s E target v Q ⟨j, ⟨o, ho, hc, hd⟩, _⟩ hq
    exact go_list ho hc hd (by decide) hq

def isRange (a b c : Int) : Heap → List Addr → Value → Prop := fun h _ v => ∃ r t u w, v = .ref r ∧ IsRange h r a b c t u w
theorem Oc.range1 {b : Int} : OcP W G k (.type "range") [.int b] [] σ (isRange 0 b 1) σ := OcP.op (by
  constructor
  intro A env cl h₀ L ρ s vs Q C R hv hq
  obtain ⟨_, rfl, ⟨t, rfl⟩⟩ := hv.un
  obtain ⟨⟨m, objs, Fm, N, el, fo, l⟩, nd, ce⟩ := id R
  exact range1_rows (news := []) Fm News.nil fun h' tk t₁ u₁ v₁ hr _ _ kp => hq _ _ _ (Nx.kept R kp) ⟨_, _, _, _, rfl, hr⟩)
theorem Oc.range2 {a b : Int} : OcP W G k (.type "range") [.int a, .int b] [] σ (isRange a b 1) σ := OcP.op (by
  constructor
  intro A env cl h₀ L ρ s vs Q C R hv hq
  obtain ⟨_, _, rfl, ⟨t, rfl⟩, ⟨u, rfl⟩⟩ := hv.two
  obtain ⟨⟨m, objs, Fm, N, el, fo, l⟩, nd, ce⟩ := id R
  exact range2_rows (news := []) Fm News.nil fun h' tk t₁ u₁ v₁ hr _ _ kp => hq _ _ _ (Nx.kept R kp) ⟨_, _, _, _, rfl, hr⟩)
theorem Oc.range3 {a b c : Int} (hc : c ≠ 0) (hs : Builtin.divisionGoesByPylong (b - a) c = false) : OcP W G k (.type "range") [.int a, .int b, .int c] [] σ (isRange a b c) σ := OcP.op (by
  constructor
  intro A env cl h₀ L ρ s vs Q C R hv hq
  obtain ⟨_, _, _, rfl, ⟨t, rfl⟩, ⟨u, rfl⟩, ⟨w, rfl⟩⟩ := hv.three
  obtain ⟨⟨m, objs, Fm, N, el, fo, l⟩, nd, ce⟩ := id R
  exact range3_rows (news := []) Fm News.nil hc (fun h' tk t₁ u₁ v₁ hr _ _ kp => hq _ _ _ (Nx.kept R kp) ⟨_, _, _, _, rfl, hr⟩) (.inl hs))

def rangeL (a c : Int) (n : Nat) : List MV := (List.range n).map fun (i : Nat) => .int (a + (i : Int) * c)
theorem rangeL_get {a c : Int} {n j : Nat} {x : MV} (h : (rangeL a c n)[j]? = some x) : j < n ∧ x = .int (a + (j : Int) * c) := by
  unfold rangeL at h
  rw [List.getElem?_map] at h
  by_cases q : j < n
  · rw [List.getElem?_range q] at h
    exact ⟨q, (Option.some.inj h).symm⟩
  · rw [List.getElem?_eq_none (by simpa using q)] at h
    cases h

theorem Ie.range {e : Expr} {a b c : Int} {n : Nat} (he : Tr W G k (eval e) σ (isRange a b c) σ₁) (hsm : Builtin.Range.small a b c = true) (hn : Builtin.Range.rangeSize a b c = (n : Int)) : Ie W G k e σ (rangeL a c n) false (fun _ => True) σ₁ := by
  constructor
  intro A env cl h₀ L ρ₀ s₀ Q C R hQ
  refine he.run C R fun v s₁ ρ₁ n₁ r₁ => ?_
  obtain ⟨r, t, u, w, rfl, hr⟩ := r₁
  have nk : Nx h₀ L cl ρ₁ s₁ σ₁ ρ₁ { s₁ with heap := s₁.heap.push { cls := .type "range_iterator", data := .fields #[rawInt a, rawInt (Builtin.Range.rangeSize a b c), rawInt c] } } := Nx.kept n₁.rel (t := s₁.toks) fun b o e => Heap.get?_push_of_some _ e
  have hnone : s₁.heap.get? s₁.heap.objs.size = none := by
    cases q : s₁.heap.get? s₁.heap.objs.size with
    | none => rfl
    | some o => exact absurd (Heap.lt_size q) (Nat.lt_irrefl _)
  have hρ : s₁.heap.objs.size ∉ ρ₁ := fun q => by
    obtain ⟨o, e, _⟩ := n₁.rel.low q
    rw [hnone] at e; cases e
  have hL : s₁.heap.objs.size ≠ L := fun q => by
    obtain ⟨m, oL, _, _, hL, _⟩ := n₁.rel.ns
    rw [← q, hnone] at hL; cases hL
  have h0 : s₀.heap.get? s₁.heap.objs.size = none := by
    cases q : s₀.heap.get? s₁.heap.objs.size with
    | none => rfl
    | some o =>
      by_cases z : s₁.heap.objs.size ∈ ρ₀
      · exact absurd (n₁.pre.subset z) hρ
      · have := n₁.un _ _ q z hL; rw [hnone] at this; cases this
  refine wpAny_pyIter_range hr hsm (hQ (.ref s₁.heap.objs.size) _ ρ₁ none (· = s₁.heap.objs.size) (fun xs ρ s => ∃ j : Nat, IsRangeIter s.heap s₁.heap.objs.size (a + (j : Int) * c) ((n : Int) - (j : Int)) c ∧ j ≤ n ∧ xs = (rangeL a c n).drop j ∧ s₁.heap.objs.size ∉ ρ) (fun _ => ⟨rfl, fun b e => e ▸ ⟨_, Heap.get?_push_size _ rfl⟩⟩) ?_ ⟨0, ?_, Nat.zero_le _, rfl, hρ⟩ ((n₁.trans nk).open R))
  · constructor
    · rintro xs ρ s ρ' s' C' cl' τ ⟨j, hit, hjn, hx, hm⟩ R' nx hX
      exact ⟨j, nx.un _ _ hit hm (fun q => hX.elim (fun z => hL (q.trans z)) fun z => z q.symm), hjn, hx, nx.off _ _ hit hm⟩
    · intro _ _ _ _ _ h; cases h
    · rintro x xs ρ s τ E Q ⟨j, hit, hjn, hx, hm⟩ R' al hP hq
      obtain ⟨hj, hx'⟩ := drop_cons hx
      obtain ⟨hj', rfl⟩ := rangeL_get hj
      refine wpAny_pyNext_range_item hit (by omega) fun h' hit' hs' => ?_
      have sd : Sd _ L ρ s₀ none s { s with heap := h', toks := s.toks + 1 } := Sd.one hit (fun its m c d => by cases d) hm hL h0 hs'.extBut
      refine hq _ _ sd ⟨_, rfl⟩ ⟨j + 1, ?_, by omega, hx', hm⟩
      have e1 : a + ((j + 1 : Nat) : Int) * c = a + (j : Int) * c + c := by
        rw [Int.natCast_add, Int.add_mul]; omega
      have e2 : (n : Int) - ((j + 1 : Nat) : Int) = (n : Int) - (j : Int) - 1 := by omega
      rw [e1, e2]; exact hit'
    · rintro ρ s τ E Q ⟨j, hit, hjn, hx, hm⟩ R' al hP hq
      have hj : n ≤ j := by
        have := congrArg List.length hx
        simp [rangeL] at this
        omega
      refine wpAny_pyNext_range_end C.hh hit (by omega) fun h' he' => ?_
      exact hq _ (Sd.one (t := s.toks) hit (fun its m c d => by cases d) hm hL h0 he') fun _ h => by cases h
    · rintro xs ρ s E Q _ ⟨j, hit, _⟩ hq
      exact wpAny_pyIter_rangeiter hit hq
    · rintro xs ρ s E target v Q ⟨j, hit, _⟩ hq
      exact go_list hit rfl rfl (by decide) hq
  · have e1 : a + ((0 : Nat) : Int) * c = a := by simp
    have e2 : (n : Int) - ((0 : Nat) : Int) = Builtin.Range.rangeSize a b c := by rw [hn]; omega
    rw [e1, e2]
    exact Heap.get?_push_size _ rfl

/-- two names of a pair -/
theorem Tg.two {x y : PySem.Str} {px py pt : Pos} {x1 : Nat} {a b : FV} (hx : G.sc.names.lookup x = some .local) (hy : G.sc.names.lookup y = some .local) :
    Tg W G k (.Tuple [.Name x px, .Name y py] x1 pt) (.tup [a, b]) σ { σ with loc := setL y (.at b) (setL x (.at a) σ.loc) } := by
  constructor
  intro A env cl h₀ L ρ s v Q C R rv hq
  obtain ⟨T, o, items, n, rfl, ho, hc, hd, f⟩ := rv
  obtain ⟨va, vb, e, ra, rb⟩ := f.two
  have hsz : items.size = 2 := by rw [← Array.length_toList, e]; rfl
  refine wpAny_assign_Tuple C.hh ⟨o, ho, hc, n, hd⟩ (by rw [hsz]; rfl) rfl fun h' he' => ?_
  rw [e]
  have hk : ∀ b o, s.heap.get? b = some o → h'.get? b = some o := fun b o eb => he' b o (Nat.ne_of_lt (Heap.lt_size eb)) eb
  have n₁ : Nx h₀ L cl ρ s σ ρ { s with heap := h', toks := s.toks } := Nx.kept R hk
  show wpAny _ _ (holding [vb] (assign (.Name x px) env va) >>= fun _ => assignInOrder [fun v => assign (.Name y py) env v] [vb]) _ _ _
  refine wpAny_bind (wpAny_holding (wpAny_assign_Name (store_local C n₁.rel hx (v := .at a) ra fun s₂ n₂ => ?_)))
  show wpAny _ _ (holding [] (assign (.Name y py) env vb) >>= fun _ => assignInOrder [] []) _ _ _
  refine wpAny_bind (wpAny_holding (wpAny_assign_Name (store_local C n₂.rel hy (v := .at b) rb fun s₃ n₃ => ?_)))
  exact wpAny_pure (hq _ ((n₁.trans n₂).trans n₃))

/-! while -/
inductive Wl (W : Wd) (G : Fx) (k : Nat) (test : Expr) (body : List Stmt) : St → Fl → St → Prop
  | done {τ τ₁ : St} : Et W G k test τ false τ₁ → Wl W G k test body τ .next τ₁
  | next {τ τ₁ τ₂ τ₃ : St} {fl : Fl} : Et W G k test τ true τ₁ → Exs W G k body τ₁ .next τ₂ → Wl W G k test body τ₂ fl τ₃ → Wl W G k test body τ fl τ₃
theorem Ex.while_ {test : Expr} {body : List Stmt} {pos : Pos} {fl : Fl} (h : Wl W G k test body σ fl σ₁) : Ex W G k (.While test body [] pos) σ fl σ₁ := by
  constructor
  intro A env cl h₀ L ρ s Q C R hQ
  refine whl_start 0 ?_
  suffices hg : ∀ {j : Nat} {ρ s} {Q : Flow → Shared → Prop}, Rel h₀ L cl ρ σ s.heap → (∀ f s' ρ', Nx h₀ L cl ρ s σ₁ ρ' s' → RFl s'.heap ρ' fl f → Q f s') → WhlRest W.prog W.w A (fun _ _ => False) env test body [] Q (j + 1) s from hg (j := 0) R hQ
  clear R hQ s ρ Q
  induction h with
  | done ht =>
    intro j ρ s Q R hQ
    refine whl_turn PassesOwn.never (ht.run C R fun b s₁ ρ₁ n₁ e => WhlIf.no e (wpAny_execs_nil (hQ _ _ _ n₁ rfl)))
  | next ht hb hw ih =>
    intro j ρ s Q R hQ
    refine whl_turn (k := j + 1) PassesOwn.never (ht.run C R fun b s₁ ρ₁ n₁ e => WhlIf.yes e (hb.run C n₁.rel fun f s₂ ρ₂ n₂ r => ?_))
    have r : f = .next := r
    subst r
    exact ih (j := j) n₂.rel fun f s' ρ' n₃ r => hQ _ _ _ ((n₁.trans n₂).trans n₃) r
end
end
section
open PySem PySem.W PyProof.Rows PySem.Spec PySem.Calls
section
variable {W : Wd} {G : Fx} {k : Nat} {σ σ₁ σ₂ σ₃ σ₄ σ' : St} {P Q : Fl → St → Prop} {st : Stmt} {rest body orelse : List Stmt} {pos : Pos}
theorem Et.eq {e : Expr} {b b' : Bool} (h : Et W G k e σ b σ₁) (hb : b = b') : Et W G k e σ b' σ₁ := hb ▸ h
theorem Ev.eq {e : Expr} {v v' : MV} (h : Ev W G k e σ v σ₁) (hb : v = v') : Ev W G k e σ v' σ₁ := hb ▸ h

/-- statements, and what is so after them -/
def ExsP (W : Wd) (G : Fx) (k : Nat) (sts : List Stmt) (σ : St) (P : Fl → St → Prop) : Prop := ∃ fl σ', Exs W G k sts σ fl σ' ∧ P fl σ'
def Then (W : Wd) (G : Fx) (k : Nat) (rest : List Stmt) (P : Fl → St → Prop) (fl : Fl) (σ : St) : Prop := match fl with
  | .next => ExsP W G k rest σ P
  | fl => P fl σ
theorem ExsP.nil (h : P .next σ) : ExsP W G k [] σ P := ⟨_, _, Exs.nil, h⟩
theorem ExsP.mono {sts : List Stmt} (h : ExsP W G k sts σ P) (hP : ∀ fl σ', P fl σ' → Q fl σ') : ExsP W G k sts σ Q := let ⟨fl, σ', a, b⟩ := h; ⟨fl, σ', a, hP _ _ b⟩
theorem ExsP.step {fl : Fl} (h1 : Ex W G k st σ fl σ₁) (h2 : Then W G k rest P fl σ₁) : ExsP W G k (st :: rest) σ P := by
  cases fl with
  | next => obtain ⟨fl, σ', a, b⟩ := h2; exact ⟨_, _, Exs.cons h1 a, b⟩
  | ret v => exact ⟨_, _, Exs.leave h1 (by simp), h2⟩
  | brk => exact ⟨_, _, Exs.leave h1 (by simp), h2⟩
  | cont => exact ⟨_, _, Exs.leave h1 (by simp), h2⟩
theorem ExsP.cons (h1 : Ex W G k st σ .next σ₁) (h2 : ExsP W G k rest σ₁ P) : ExsP W G k (st :: rest) σ P := .step h1 h2
theorem ExsP.ret {e : Expr} {v : MV} (h1 : Ev W G k e σ v σ₁) (h2 : P (.ret v) σ₁) : ExsP W G k (.Return (some e) pos :: rest) σ P := .step (Ex.ret h1) h2
theorem ExsP.iteT {test : Expr} (h1 : Et W G k test σ true σ₁) (h2 : ExsP W G k body σ₁ (Then W G k rest P)) : ExsP W G k (.If test body orelse pos :: rest) σ P := by
  obtain ⟨fl, σ', a, b⟩ := h2
  exact .step (Ex.ite h1 a) b
theorem ExsP.iteF {test : Expr} (h1 : Et W G k test σ false σ₁) (h2 : ExsP W G k orelse σ₁ (Then W G k rest P)) : ExsP W G k (.If test body orelse pos :: rest) σ P := by
  obtain ⟨fl, σ', a, b⟩ := h2
  exact .step (Ex.ite h1 a) b
theorem ExsP.ite {test : Expr} {b : Bool} (h1 : Et W G k test σ b σ₁) (h2 : ExsP W G k (if b then body else orelse) σ₁ (Then W G k rest P)) : ExsP W G k (.If test body orelse pos :: rest) σ P := by
  obtain ⟨fl, σ', a, b⟩ := h2
  exact .step (Ex.ite h1 a) b
theorem Then.next (h : ExsP W G k rest σ P) : Then W G k rest P .next σ := h

def WlP (W : Wd) (G : Fx) (k : Nat) (test : Expr) (body : List Stmt) (σ : St) (P : Fl → St → Prop) : Prop := ∃ fl σ', Wl W G k test body σ fl σ' ∧ P fl σ'
theorem WlP.done {test : Expr} (h1 : Et W G k test σ false σ₁) (h2 : P .next σ₁) : WlP W G k test body σ P := ⟨_, _, .done h1, h2⟩
theorem WlP.next {test : Expr} (h1 : Et W G k test σ true σ₁) (h2 : ExsP W G k body σ₁ (fun fl σ₂ => fl = .next ∧ WlP W G k test body σ₂ P)) : WlP W G k test body σ P := by
  obtain ⟨fl, σ₂, a, rfl, fl', σ₃, b, c⟩ := h2
  exact ⟨_, _, .next h1 a b, c⟩
theorem ExsP.while_ {test : Expr} (h : WlP W G k test body σ (Then W G k rest P)) : ExsP W G k (.While test body [] pos :: rest) σ P := by
  obtain ⟨fl, σ', a, b⟩ := h
  exact .step (Ex.while_ a) b

def LpP (W : Wd) (G : Fx) (k : Nat) (t : Expr) (body : List Stmt) (S : St → Prop) (gn : Bool) (xs : List MV) (σ : St) (P : Fl → St → Prop) : Prop := ∃ fl σ', Lp W G k t body S xs σ fl σ' ∧ (fl = .next ∨ gn = false) ∧ P fl σ'
/-- how a turn ends -/
def Turn (W : Wd) (G : Fx) (k : Nat) (t : Expr) (body : List Stmt) (S : St → Prop) (gn : Bool) (xs : List MV) (P : Fl → St → Prop) (fl : Fl) (σ : St) : Prop := match fl with
  | .next => LpP W G k t body S gn xs σ P
  | .cont => LpP W G k t body S gn xs σ P
  | .ret v => gn = false ∧ P (.ret v) σ
  | .brk => False
variable {t : Expr} {S : St → Prop} {gn : Bool} {xs : List MV} {x : MV}
theorem LpP.nil (hS : S σ) (h : P .next σ) : LpP W G k t body S gn [] σ P := ⟨_, _, .nil hS, .inl rfl, h⟩
theorem LpP.cons (hS : S σ) (ht : Tg W G k t x σ σ₁) (h : ExsP W G k body σ₁ (Turn W G k t body S gn xs P)) : LpP W G k t body S gn (x :: xs) σ P := by
  obtain ⟨fl, σ₂, a, b⟩ := h
  cases fl with
  | next => obtain ⟨fl', σ₃, c, d, e⟩ := b; exact ⟨_, _, .next hS ht a c, d, e⟩
  | cont => obtain ⟨fl', σ₃, c, d, e⟩ := b; exact ⟨_, _, .cont hS ht a c, d, e⟩
  | ret v => exact ⟨_, _, .ret hS ht a, .inr b.1, b.2⟩
  | brk => exact b.elim
theorem ExsP.for_ {iter : Expr} (hi : Ie W G k iter σ xs gn S σ₁) (hl : LpP W G k t body S gn xs σ₁ (Then W G k rest P)) (hs : ∀ env : Env, env.scope = G.sc → ∀ x, foldedSetIterable iter env x = pure x) : ExsP W G k (.For t iter body [] pos :: rest) σ P := by
  obtain ⟨fl, σ', a, b, c⟩ := hl
  exact .step (Ex.for_ hi a b hs) c
end
section
variable {W : Wd} {k : Nat} {f : Addr} {xs : List MV} {kw bs : List (PySem.Str × MV)} {st st' : List MO} {z : MV} {oc : Value} {od : Option Addr} {osl : Array (Option Value)} {name qual : PySem.Str} {params : Arguments} {body : List Stmt} {scope : Scope}
  {dV kV doc pm cdv ct : Value} {an : Option Addr}
def Ends (z : MV) (st' : List MO) (fl : Fl) (σ : St) : Prop := (∃ sx, σ.st = st' ++ sx) ∧ retOf fl = z
theorem Ec.fn (hK : W.K.lookup f = some ⟨oc, od, .func (fnX name qual params body scope [] dV kV doc pm an cdv ct), osl⟩) (hcd : codeIn W.K cdv qual = true)
    (hb : Binds W (fnX name qual params body scope [] dV kV doc pm an cdv ct) xs kw bs) (hloc : (bs.all fun p => scope.names.lookup p.1 == some .local) = true) (hlen : st.length ≤ st'.length)
    (hlow : (∀ x ∈ st, x.low st.length) → (∀ x ∈ xs, x.low st.length) → (∀ x ∈ st', x.low st'.length) ∧ z.low st'.length)
    (hbody : ExsP W ⟨scope, true⟩ k body ⟨bs.reverse, [], st⟩ (Ends z st'))
    (hco : scope.isCoroutine = false := by rfl) (hgen : scope.isGenerator = false := by rfl) (hk : scope.kind = .function := by rfl) (hcell : (scope.names.all fun x => !(x.2 == .cell)) = true := by rfl) : Ec W (k + 1) f xs kw st z st' :=
  Ec.intro hK hcd hb hloc (let ⟨fl, σ', a, ⟨sx, b⟩, c⟩ := hbody; ⟨fl, σ', sx, a, b, c⟩) hlen hlow hco hgen hk hcell
end
end
section
open PySem PySem.W PyProof.Rows PySem.Spec PySem.Calls

section
variable {prog : Program} {w : World} {A : Around} {R : Result → Shared → Prop} {s : Shared}
theorem compLoop_go {elt target iter : Expr} {ifs : List Expr} {scope : Scope} {pos : Pos} {it acc : Value} {env : Env} (I : Nat → Shared → Prop)
    (turn : ∀ n s, I n s → wpAny (model prog w) A (pyNext it) (fun r s₁ => match r with
      | none => R (.ok .next) s₁
      | some v => wpAny (model prog w) A (letOwnedTupleGo target it v) (fun _ s₁' => wpAny (model prog w) A (assign target env v) (fun _ s₂ =>
          wpAny (model prog w) A (forIn ifs true fun c r => if r = true then do let ok ← isTrue c env (eval c env); pure (ForInStep.yield ok) else pure (ForInStep.yield r)) (fun ok s₃ =>
            if ok = true then wpAny (model prog w) A (eval elt env) (fun x s₄ =>
              wpAny (model prog w) A (call (.builtin "list.append") [acc, x]) (fun _ s₅ => ∃ m, m < n ∧ I m s₅) (fun _ _ => False) s₄) (fun _ _ => False) s₃
            else ∃ m, m < n ∧ I m s₃) (fun _ _ => False) s₂) (fun _ _ => False) s₁') (fun _ _ => False) s₁) (fun _ _ => False) s)
    (n : Nat) (h : I n s) : codeAny (model prog w) A (.compLoop (.ListComp elt [⟨target, iter, ifs, 0⟩] scope pos) 0 it acc env) R s := by
  refine codeAny_loop rfl I (fun n s hI => ?_) n h
  show wpAny _ A ((compTurn (.ListComp elt [⟨target, iter, ifs, 0⟩] scope pos) 0 it acc env).onRaise (fun x => do noteFrame x env; theTreesLotGoes x)) _ _ s
  refine wpAny_noted ?_
  rw [compTurn_list]
  refine wpAny_bind (wpAny_standAt (wpAny_bind (wpAny_mono (turn n s hI) (fun r s₁ h₁ => ?_) fun _ _ h' => h'.elim)))
  cases r with
  | none => exact wpAny_pure h₁
  | some v =>
    refine wpAny_bind (wpAny_mono h₁ (fun _ s₁' h₁' => ?_) fun _ _ h' => h'.elim)
    refine wpAny_bind (wpAny_mono h₁' (fun _ s₂ h₂ => wpAny_bind (wpAny_mono h₂ (fun ok s₃ h₃ => ?_) fun _ _ h' => h'.elim)) fun _ _ h' => h'.elim)
    cases ok with
    | false => exact wpAny_pure ⟨rfl, h₃⟩
    | true =>
      exact wpAny_bind (wpAny_bind (wpAny_mono h₃ (fun x s₄ h₄ => wpAny_bind (wpAny_mono h₄ (fun _ s₅ h₅ => wpAny_pure (wpAny_pure ⟨rfl, h₅⟩)) fun _ _ h' => h'.elim)) fun _ _ h' => h'.elim))
end

def relabelS (scope osc : Scope) : Scope :=
  { scope with names := scope.names.map fun (n, k) => if (k == .free && osc.kind == .function && osc.names.lookup n == some .cell) then (n, .cell) else (n, k) }
theorem relabel_eq {scope : Scope} {env : Env} : relabel scope env = relabelS scope env.scope := rfl

section
variable {W : Wd} {G Gc : Fx} {k : Nat} {σ σ₁ σ₂ σ₃ σ₄ σ' : St}
/-- one turn's yield -/
inductive CT (W : Wd) (G : Fx) (k : Nat) : List Expr → Expr → St → Option MV → Prop
  | all {elt : Expr} {τ : St} {y : MV} : Ev W G k elt τ y τ → CT W G k [] elt τ (some y)
  | yes {c elt : Expr} {τ : St} {y : MV} : Et W G k c τ true τ → Ev W G k elt τ y τ → CT W G k [c] elt τ (some y)
  | no {c elt : Expr} {τ : St} : Et W G k c τ false τ → CT W G k [c] elt τ none

theorem Mx.swap {h₀ : Heap} {L C : Addr} {cl cl' : List (PySem.Str × Addr)} {ρ₀ ρ ρ' : List Addr} {s₀ s s' : Shared} {loc loc' : List (PySem.Str × MV)} {cel cel' : List (PySem.Str × Nat)} {st st' : List MO} {g : Option Nat}
    (a : Mx h₀ L cl ρ₀ s₀ ⟨loc, cel, st⟩ ρ s g) (b : Nx h₀ C cl' ρ s ⟨loc', cel', st'⟩ ρ' s') (hg : ∀ i, g = some i → i < s.gens.size) (hC : s₀.heap.get? C = none) (hCL : C ≠ L) : Mx h₀ L cl ρ₀ s₀ ⟨loc, cel, st'⟩ ρ' s' g := by
  have off : ∀ b o, s₀.heap.get? b = some o → b ∉ ρ₀ → b ∉ ρ := fun b o e h q => by have := a.fresh b q h; rw [e] at this; cases this
  have nC : ∀ b o, s₀.heap.get? b = some o → b ≠ C := fun b o e q => by rw [q, hC] at e; cases e
  have nL : L ∉ ρ := a.rel.notL
  refine ⟨a.pre.trans b.pre, ?_, ⟨b.gx.os.trans a.gx.os, Nat.le_trans a.gx.size b.gx.size, fun i hi => (b.gx.old i (Nat.lt_of_lt_of_le hi a.gx.size)).trans (a.gx.old i hi), fun i x hi hn e => ?_⟩, a.tk.trans b.tk, fun x o e h1 h2 => b.un x o (a.un x o e h1 h2) (off x o e h1) (nC x o e), fun x hx h1 => ?_, a.base⟩
  · obtain ⟨⟨m, objs, F, N, el, f, l⟩, nd, ce⟩ := a.rel
    obtain ⟨⟨m', objs', F', N', el', f', l'⟩, nd', ce'⟩ := b.rel
    obtain ⟨oL, es, ep, hL, r⟩ := F.ns
    have hL' := b.un L oL hL nL hCL.symm
    refine ⟨⟨m, objs', ⟨⟨oL, es, ep, hL', r⟩, F'.keep, F.above⟩, fun p hp => ⟨(N' p hp).1, fun q => ?_, (N' p hp).2.2⟩, el', f', fun x v e => ?_⟩, nd', fun x i e => ?_⟩
    · have h3 : L ∈ ρ' := q ▸ (List.of_mem_zip hp).1
      have := b.fresh L h3 nL
      rw [hL] at this; cases this
    · obtain ⟨v', e1, e2⟩ := l x v e
      exact ⟨v', e1, e2.mono b.tk b.pre⟩
    · obtain ⟨a', e1, e2⟩ := ce x i e
      obtain ⟨t, rfl⟩ := b.pre
      exact ⟨a', e1, by rw [List.getElem?_append_left (List.getElem?_eq_some_iff.mp e2).1]; exact e2⟩
  · by_cases q : i < s.gens.size
    · rw [b.gx.old i q] at e; exact a.gx.new i x hi hn e
    · exact b.gx.new i x (Nat.le_of_not_lt q) e
  · by_cases q : x ∈ ρ
    · exact a.fresh x q h1
    · have z := b.fresh x hx q
      cases e : s₀.heap.get? x with
      | none => rfl
      | some o =>
        by_cases hL : x = L
        · subst hL
          obtain ⟨m, oL, _, _, hL, _⟩ := a.rel.ns
          rw [hL] at z; cases z
        · have := a.un x o e h1 hL; rw [z] at this; cases this

structure CompOk (W : Wd) (G Gc : Fx) (k : Nat) (target : Expr) (ifs : List Expr) (elt : Expr) (scope : Scope) (xs : List MV) (σ₁ : St) (cel' : List (PySem.Str × Nat)) (P : St → Prop) (f : MV → Option MV) : Prop where
  gc : Gc = ⟨relabelS scope G.sc, false⟩
  celin : ∀ p ∈ cel', σ₁.cel.lookup p.1 = some p.2
  clos : ∀ (env : Env) (g : PySem.Str → Addr), (∀ p ∈ cel', env.cells.lookup p.1 = some (g p.1)) → closureFor scope env = pure (cel'.map fun p => (p.1, g p.1))
  knd : scope.kind = .function
  cell : ∀ y ∈ scope.names, y.2 ≠ .cell
  names : ∀ y ∈ scope.names, y.2 = .local → scope.names.lookup y.1 = some .local
  turn : ∃ (ok : List (PySem.Str × MV) → Prop) (bnd : MV → List (PySem.Str × MV)), ok [] ∧ ∀ x ∈ xs, ok (bnd x) ∧ (∀ loc st, ok loc → Tg W Gc k target x ⟨loc, cel', st⟩ ⟨bnd x, cel', st⟩) ∧
    ∀ ys : List MV, ys.length ≤ xs.length → CT W Gc k ifs elt ⟨bnd x, cel', σ₁.st ++ [.list ys]⟩ (f x)
  P : ∀ ys, P ⟨σ₁.loc, σ₁.cel, σ₁.st ++ [.list ys]⟩
  size : xs.length ≤ 100000

theorem lookup_map_g {cel' : List (PySem.Str × Nat)} {g : PySem.Str → Addr} {x : PySem.Str} {i : Nat} (e : cel'.lookup x = some i) : (cel'.map fun p => (p.1, g p.1)).lookup x = some (g x) ∧ (x, i) ∈ cel' := by
  induction cel' with
  | nil => cases e
  | cons p r ih =>
    obtain ⟨n, j⟩ := p
    rw [List.lookup_cons] at e
    rw [List.map_cons, List.lookup_cons]
    cases q : x == n with
    | true =>
      rw [q] at e
      have : x = n := eq_of_beq q
      subst this
      cases e
      exact ⟨rfl, .head _⟩
    | false =>
      rw [q] at e
      exact ⟨(ih e).1, .tail _ (ih e).2⟩

theorem comp_core {target iter elt : Expr} {ifs : List Expr} {scope : Scope} {pos pos' : Pos} {xs : List MV} {cel' : List (PySem.Str × Nat)} {P : St → Prop} {f : MV → Option MV} {use : Option (Value → Sem Unit)}
    (hi : Ie W G k iter σ xs false P σ₁) (K : CompOk W G Gc k target ifs elt scope xs σ₁ cel' P f) (hcel0 : σ₁.cel = σ.cel) {A : Around} {env : Env} {cl : List (PySem.Str × Addr)} {h₀ : Heap} {L : Addr} {ρ₀ : List Addr} {s₀ : Shared} {Q : Value → Shared → Prop}
    (C : Cx W G A env cl h₀ L k) (R : Rel h₀ L cl ρ₀ σ s₀.heap) (hs : ∀ x, foldedSetIterable iter env x = pure x)
    (hQ : ∀ D C' s' ρ', Nx h₀ L cl ρ₀ s₀ ⟨σ₁.loc, σ₁.cel, σ₁.st ++ [.list (xs.filterMap f)]⟩ ρ' s' → ρ'[σ₁.st.length]? = some D → s₀.heap.get? C' = none → C' ∉ ρ' → C' ≠ L → (∃ m, s'.heap.Ns C' m) → compPost W.M A (fun _ _ => False) use Q (.ref D) C' (.ok .next) s') :
    wpAny W.M A (comprehension (.ListComp elt [⟨target, iter, ifs, 0⟩] scope pos) scope env pos' (newList []) false (eval iter env) use) Q (fun _ _ => False) s₀ := by
  obtain ⟨ok, bnd, hok0, hturn⟩ := K.turn
  have hcells : ∀ p ∈ cel', ∃ a, env.cells.lookup p.1 = some a := fun p hp => by
    obtain ⟨a, e, _⟩ := R.cells p.1 p.2 (by rw [← hcel0]; exact K.celin p hp)
    exact ⟨a, by rw [C.cel]; exact e⟩
  have hcl : ∀ p ∈ cel', env.cells.lookup p.1 = some ((env.cells.lookup p.1).getD 0) := fun p hp => by
    have : ∃ a, env.cells.lookup p.1 = some a := hcells p hp
    obtain ⟨a, e⟩ := this
    rw [e]; rfl
  refine wpAny_comprehension_free rfl hs (K.clos env (fun n => (env.cells.lookup n).getD 0) hcl) K.knd K.names (hi.run C R fun it s₁ ρ₁ g D J hgn I hJ m₁ => ?_)
  obtain ⟨rfl, hD⟩ := hgn rfl
  have hnone : ∀ (h : Heap), h.get? h.objs.size = none := fun h => by
    cases q : h.get? h.objs.size with
    | none => rfl
    | some o => exact absurd (Heap.lt_size q) (Nat.lt_irrefl _)
  refine wpAny_newObj_type (wpAny_newFunctionEnv K.cell (by intro y hy; simp at hy) (fun h₃ hns₃ hsb₃ => ?_) K.knd)
  have n₂ := Nx.new m₁.rel (t := s₁.toks) (a := s₁.heap.objs.size) (x := .list []) (h' := s₁.heap.push { cls := .type "list", dict := none, data := .seq ([] : List Value).toArray }) (fun b o e => Heap.get?_push_of_some _ e) (hnone _) (Heap.get?_push_size _ rfl) ⟨_, _, rfl, .nil⟩
  have m₂ := m₁.trans n₂ (fun _ h => by cases h)
  have hJ₂ := I.stay hJ m₁.rel n₂.sy (.inl rfl)
  generalize hh₂ : s₁.heap.push { cls := .type "list", dict := none, data := .seq ([] : List Value).toArray } = h₂ at hns₃ hsb₃ n₂ m₂ hJ₂
  dsimp only at hns₃ hsb₃
  have hk₃ : ∀ b o, h₂.get? b = some o → h₃.get? b = some o := fun b o e => hsb₃.extBut b o (Nat.ne_of_lt (Heap.lt_size e)) (Heap.get?_push_of_some _ e)
  have n₃ := Nx.kept m₂.rel (t := s₁.toks + ([] : List (PySem.Str × Value)).length) hk₃
  have m₃ := m₂.trans n₃ (fun _ h => by cases h)
  have hJ₃ := I.stay hJ₂ m₂.rel n₃.sy (.inl rfl)
  have hC2 : h₂.get? h₂.objs.size = none := hnone _
  have hCρ : h₂.objs.size ∉ ρ₁ ++ [s₁.heap.objs.size] := fun q => by
    obtain ⟨o, e, _⟩ := m₂.rel.low q
    have e : h₂.get? h₂.objs.size = some o := e
    rw [hC2] at e; cases e
  have hCL : h₂.objs.size ≠ L := fun q => by
    obtain ⟨m, oL, _, _, hL, _⟩ := m₂.rel.ns
    have hL : h₂.get? L = some oL := hL
    rw [← q, hC2] at hL; cases hL
  have hC0 : s₀.heap.get? h₂.objs.size = none := by
    cases q : s₀.heap.get? h₂.objs.size with
    | none => rfl
    | some o =>
      by_cases z : h₂.objs.size ∈ ρ₀
      · exact absurd (m₂.pre.subset z) hCρ
      · have := m₂.un _ _ q z hCL
        have this : h₂.get? h₂.objs.size = some o := this
        rw [hC2] at this; cases this
  have hCD : ∀ b, b = h₂.objs.size → ¬ D b := fun b e q => by
    obtain ⟨o, e'⟩ := hD b q
    have : h₂.get? b = some o := by rw [← hh₂]; exact Heap.get?_push_of_some _ e'
    rw [e, hC2] at this; cases this
  have hsz : h₀.objs.size ≤ h₂.objs.size := by
    obtain ⟨m, oL, _, _, hL, _⟩ := m₂.rel.ns
    have hL : h₂.get? L = some oL := hL
    exact Nat.le_of_lt (Nat.lt_of_le_of_lt m₂.rel.above (Heap.lt_size hL))
  have hDρ : (ρ₁ ++ [s₁.heap.objs.size])[σ₁.st.length]? = some s₁.heap.objs.size := by
    rw [m₁.rel.len, List.getElem?_append_right (Nat.le_refl _), Nat.sub_self]; rfl
  generalize hCC : h₂.objs.size = CC at *
  generalize hDD : s₁.heap.objs.size = DD at *
  generalize hρρ : ρ₁ ++ [DD] = ρ₃ at *
  have Ri : Rel h₀ CC (cel'.map fun p => (p.1, (env.cells.lookup p.1).getD 0)) ρ₃ ⟨[], cel', σ₁.st ++ [.list []]⟩ h₃ := by
    obtain ⟨⟨m, objs, F, N, el, fa, l⟩, nd, ce⟩ := m₃.rel
    refine ⟨⟨_, objs, ⟨hns₃, F.keep, hsz⟩, fun p hp => ⟨(N p hp).1, fun q => hCρ (q ▸ (List.of_mem_zip hp).1), (N p hp).2.2⟩, el, fa, fun x v e => by cases e⟩, nd, fun x i e => ?_⟩
    obtain ⟨e1, e2⟩ := lookup_map_g (g := fun n => (env.cells.lookup n).getD 0) e
    obtain ⟨a, e3, e4⟩ := ce x i (K.celin _ e2)
    refine ⟨_, e1, ?_⟩
    rw [C.cel, e3]; exact e4
  have Ci : Cx W Gc A (newEnv scope CC env.globals (cel'.map fun p => (p.1, (env.cells.lookup p.1).getD 0)) env.qual none .none (some env) builtinsNs |> fun e => { e with scope := relabel scope env }) (cel'.map fun p => (p.1, (env.cells.lookup p.1).getD 0)) h₀ CC k := by
    rw [K.gc]
    exact ⟨by rw [relabel_eq, C.sc], rfl, C.glo, C.bui, rfl, K.knd, C.hh, C.room, C.units, C.K, C.top, fun h => by cases h⟩
  have loop : codeAny W.M A (.compLoop (.ListComp elt [⟨target, iter, ifs, 0⟩] scope pos) 0 it (.ref DD) (newEnv scope CC env.globals (cel'.map fun p => (p.1, (env.cells.lookup p.1).getD 0)) env.qual none .none (some env) builtinsNs |> fun e => { e with scope := relabel scope env }))
      (compPost W.M A (fun _ _ => False) use Q (.ref DD) CC) { s₁ with heap := h₃, toks := s₁.toks + ([] : List (PySem.Str × Value)).length } := by
    refine compLoop_go (fun n s => ∃ xr loc ys ρ, n = xr.length + 1 ∧ J xr ρ s ∧ Mx h₀ L cl ρ₀ s₀ ⟨σ₁.loc, σ₁.cel, σ₁.st ++ [.list ys]⟩ ρ s none ∧
      Rel h₀ CC (cel'.map fun p => (p.1, (env.cells.lookup p.1).getD 0)) ρ ⟨loc, cel', σ₁.st ++ [.list ys]⟩ s.heap ∧ ok loc ∧ ys ++ xr.filterMap f = xs.filterMap f ∧ ys.length + xr.length ≤ xs.length ∧ (∀ x ∈ xr, x ∈ xs) ∧
      ρ[σ₁.st.length]? = some DD) ?_ (xs.length + 1) ⟨xs, [], [], ρ₃, rfl, hJ₃, m₃, Ri, hok0, rfl, by simp, fun _ h => h, hDρ⟩
    rintro n s ⟨xr, loc, ys, ρ, rfl, hJ, Mo, Ri, hok, hys, hlen, hsub, hDρ⟩
    cases xr with
    | nil =>
      refine I.done hJ Mo.rel Mo.alive (K.P _) fun s' sd fin => ?_
      have Mo' := Mo.side sd
      rw [List.filterMap_nil, List.append_nil] at hys
      rw [hys] at Mo'
      obtain ⟨m, hm⟩ := Ri.ns
      obtain ⟨oC, es, ep, hC, r⟩ := hm
      exact hQ DD CC s' ρ (Mo'.close fun _ h => by cases h) hDρ hC0 Ri.notL hCL ⟨m, oC, es, ep, sd.keep _ _ hC (.inr (.inr (.inr (hCD _ rfl)))), r⟩
    | cons x xr =>
      refine I.next hJ Mo.rel Mo.alive (K.P _) fun v s₂ sd rv hJ' => I.go hJ' ?_
      obtain ⟨hokx, htg, hct⟩ := hturn x (hsub x (.head _))
      have Mo₂ := Mo.side sd
      have Ri₂ : Rel h₀ CC (cel'.map fun p => (p.1, (env.cells.lookup p.1).getD 0)) ρ ⟨loc, cel', σ₁.st ++ [.list ys]⟩ s₂.heap := Ri.side (fun b o e q => sd.keep b o e (by
        rcases q with q | q | q
        · exact .inl q
        · exact .inr (.inr (.inr (hCD _ q)))
        · refine .inr (.inr (.inl ?_))
          cases z : h₀.get? b with
          | none => exact absurd z q
          | some o' => rw [Mo.base b o' z]; simp)) sd.tk
      have nog : ∀ (s : Shared) (i : Nat), (none : Option Nat) = some i → i < s.gens.size := fun _ _ h => by cases h
      refine (htg loc _ hok).run Ci Ri₂ rv fun s₃ n₃ => ?_
      have Mo₃ := Mo₂.swap n₃ (nog _) hC0 hCL
      have hJ₃ := I.stay hJ' Ri₂ n₃.sy (.inr (hCD _ rfl))
      have hct := hct ys (by simp at hlen; omega)
      have after : ∀ {s₄ : Shared} {ρ₄ : List Addr} {y : MV}, f x = some y → Mx h₀ L cl ρ₀ s₀ ⟨σ₁.loc, σ₁.cel, σ₁.st ++ [.list ys]⟩ ρ₄ s₄ none → Rel h₀ CC (cel'.map fun p => (p.1, (env.cells.lookup p.1).getD 0)) ρ₄ ⟨bnd x, cel', σ₁.st ++ [.list ys]⟩ s₄.heap → J xr ρ₄ s₄ → ρ₄[σ₁.st.length]? = some DD →
          Ev W Gc k elt ⟨bnd x, cel', σ₁.st ++ [.list ys]⟩ y ⟨bnd x, cel', σ₁.st ++ [.list ys]⟩ →
          wpAny W.M A (eval elt (newEnv scope CC env.globals (cel'.map fun p => (p.1, (env.cells.lookup p.1).getD 0)) env.qual none .none (some env) builtinsNs |> fun e => { e with scope := relabel scope env })) (fun x_1 s₅ =>
            wpAny W.M A (call (.builtin "list.append") [.ref DD, x_1]) (fun _ s₆ => ∃ m, m < (x :: xr).length + 1 ∧ ∃ xr loc ys ρ, m = xr.length + 1 ∧ J xr ρ s₆ ∧ Mx h₀ L cl ρ₀ s₀ ⟨σ₁.loc, σ₁.cel, σ₁.st ++ [.list ys]⟩ ρ s₆ none ∧
              Rel h₀ CC (cel'.map fun p => (p.1, (env.cells.lookup p.1).getD 0)) ρ ⟨loc, cel', σ₁.st ++ [.list ys]⟩ s₆.heap ∧ ok loc ∧ ys ++ xr.filterMap f = xs.filterMap f ∧ ys.length + xr.length ≤ xs.length ∧ (∀ x ∈ xr, x ∈ xs) ∧ ρ[σ₁.st.length]? = some DD) (fun _ _ => False) s₅) (fun _ _ => False) s₄ := by
        intro s₄ ρ₄ y hf Mo₄ Ri₄ hJ₄ hDρ₄ hev
        refine hev.run Ci Ri₄ fun yv s₅ ρ₅ n₅ ry => ?_
        have Mo₅ := Mo₄.swap n₅ (nog _) hC0 hCL
        have hJ₅ := I.stay hJ₄ Ri₄ n₅.sy (.inr (hCD _ rfl))
        have hDρ₅ : ρ₅[σ₁.st.length]? = some DD := by
          obtain ⟨t, rfl⟩ := n₅.pre
          rw [List.getElem?_append_left (List.getElem?_eq_some_iff.mp hDρ₄).1]; exact hDρ₄
        have hap := Op.append (W := W) (G := Gc) (k := k) (σ := ⟨bnd x, cel', σ₁.st ++ [.list ys]⟩) (i := σ₁.st.length) (vs := ys) (x := y) (by simp) (by have := K.size; simp at hlen; omega)
        refine hap.run Ci n₅.rel (vs := [.ref DD, yv]) (.cons ⟨DD, hDρ₅, rfl⟩ (.one ry)) fun u s₆ ρ₆ n₆ _ => ?_
        have e6 : (σ₁.st ++ [MO.list ys]).set σ₁.st.length (.list (ys ++ [y])) = σ₁.st ++ [.list (ys ++ [y])] := by
          rw [List.set_append_right _ _ (Nat.le_refl _), Nat.sub_self]; rfl
        dsimp only at n₆
        rw [e6] at n₆
        have Mo₆ := Mo₅.swap n₆ (nog _) hC0 hCL
        have hJ₆ := I.stay hJ₅ n₅.rel n₆.sy (.inr (hCD _ rfl))
        have hDρ₆ : ρ₆[σ₁.st.length]? = some DD := by
          obtain ⟨t, rfl⟩ := n₆.pre
          rw [List.getElem?_append_left (List.getElem?_eq_some_iff.mp hDρ₅).1]; exact hDρ₅
        refine ⟨_, Nat.lt_succ_self _, xr, bnd x, ys ++ [y], ρ₆, rfl, hJ₆, Mo₆, n₆.rel, hokx, ?_, ?_, fun z hz => hsub z (.tail _ hz), hDρ₆⟩
        · rw [← hys, List.filterMap_cons, hf]; simp
        · simp at hlen ⊢; omega
      generalize hfx : f x = r at hct
      generalize hτ : (⟨bnd x, cel', σ₁.st ++ [.list ys]⟩ : St) = τ at hct
      cases hct with
      | all hev =>
        subst hτ
        refine wpAny_tests_nil ?_
        rw [if_pos rfl]
        exact after hfx Mo₃ n₃.rel hJ₃ hDρ hev
      | yes hc hev =>
        subst hτ
        refine wpAny_tests_one (hc.run Ci n₃.rel fun b s₄ ρ₄ n₄ e => ?_)
        have e : b = true := e
        subst e
        rw [if_pos rfl]
        refine after hfx (Mo₃.swap n₄ (nog _) hC0 hCL) n₄.rel (I.stay hJ₃ n₃.rel n₄.sy (.inr (hCD _ rfl))) ?_ hev
        obtain ⟨t, rfl⟩ := n₄.pre
        rw [List.getElem?_append_left (List.getElem?_eq_some_iff.mp hDρ).1]; exact hDρ
      | no hc =>
        subst hτ
        refine wpAny_tests_one (hc.run Ci n₃.rel fun b s₄ ρ₄ n₄ e => ?_)
        have e : b = false := e
        subst e
        rw [if_neg (by simp)]
        refine ⟨_, Nat.lt_succ_self _, xr, bnd x, ys, ρ₄, rfl, I.stay hJ₃ n₃.rel n₄.sy (.inr (hCD _ rfl)), Mo₃.swap n₄ (nog _) hC0 hCL, n₄.rel, hokx, ?_, ?_, fun z hz => hsub z (.tail _ hz), ?_⟩
        · rw [← hys, List.filterMap_cons, hfx]
        · simp at hlen ⊢; omega
        · obtain ⟨t, rfl⟩ := n₄.pre
          rw [List.getElem?_append_left (List.getElem?_eq_some_iff.mp hDρ).1]; exact hDρ
  exact codeAny_compStart_list loop (I.self rfl hJ₃ loop)

theorem Nx.aside {h₀ : Heap} {L C : Addr} {cl : List (PySem.Str × Addr)} {ρ₀ ρ : List Addr} {s₀ s : Shared} {h' : Heap} {m : PySem.Str → Option Value} (n : Nx h₀ L cl ρ₀ s₀ σ ρ s) (R₀ : Rel h₀ L cl ρ₀ σ₁ s₀.heap) (hm : s.heap.Ns C m) (n1 : C ∉ ρ) (n2 : C ≠ L) (n3 : s₀.heap.get? C = none) (hs : Heap.SameBut C s.heap h') :
    Nx h₀ L cl ρ₀ s₀ σ ρ { s with heap := h' } := by
  obtain ⟨o, es, ep, ho, hd, _⟩ := hm
  exact ((n.open R₀).side (Sd.one (s := s) (t := s.toks) ho (fun its m c d => by rw [hd] at d; cases d) n1 n2 n3 hs.extBut)).close fun _ h => by cases h

theorem Ev.comp {target iter elt : Expr} {ifs : List Expr} {scope : Scope} {pos : Pos} {xs : List MV} {cel' : List (PySem.Str × Nat)} {P : St → Prop} {f : MV → Option MV}
    (hi : Ie W G k iter σ xs false P σ₁) (K : CompOk W G Gc k target ifs elt scope xs σ₁ cel' P f) (hcel0 : σ₁.cel = σ.cel) (hs : ∀ env : Env, env.scope = G.sc → ∀ x, foldedSetIterable iter env x = pure x) :
    Ev W G k (.ListComp elt [⟨target, iter, ifs, 0⟩] scope pos) σ (.ref σ₁.st.length) ⟨σ₁.loc, σ₁.cel, σ₁.st ++ [.list (xs.filterMap f)]⟩ := by
  constructor
  intro A env cl h₀ L ρ s Q C R hQ
  rw [eval_ListComp]
  refine comp_core (use := none) hi K hcel0 C R (hs _ C.sc) fun D C' s' ρ' n hD h0 hρ hL hm => ?_
  obtain ⟨m, hm⟩ := hm
  refine ⟨m, hm, fun h' hs' => ?_⟩
  exact hQ _ _ _ (n.aside R hm hρ hL h0 hs') ⟨D, hD, rfl⟩


theorem Ex.assign_comp {x : PySem.Str} {p' pos' : Pos} {target iter elt : Expr} {ifs : List Expr} {scope : Scope} {pos : Pos} {xs : List MV} {cel' : List (PySem.Str × Nat)} {P : St → Prop} {f : MV → Option MV}
    (hi : Ie W G k iter σ xs false P σ₁) (K : CompOk W G Gc k target ifs elt scope xs σ₁ cel' P f) (hcel0 : σ₁.cel = σ.cel) (hs : ∀ env : Env, env.scope = G.sc → ∀ x, foldedSetIterable iter env x = pure x)
    (hl : G.sc.names.lookup x = some .local) (hsw : ∀ env : Env, env.scope = G.sc → swapsWith (.ListComp elt [⟨target, iter, ifs, 0⟩] scope pos) (some (Expr.Name x p')) pos'.line env = pure true) :
    Ex W G k (.Assign [.Name x p'] (.ListComp elt [⟨target, iter, ifs, 0⟩] scope pos) pos') σ .next ⟨setL x (.ref σ₁.st.length) σ₁.loc, σ₁.cel, σ₁.st ++ [.list (xs.filterMap f)]⟩ := by
  constructor
  intro A env cl h₀ L ρ s Q C R hQ
  rw [exec_Assign_Name_used _ _ _ _ (hsw _ C.sc)]
  refine wpAny_bind (wpAny_standAt (wpAny_bind ?_))
  show wpAny _ A (do let _ ← comprehension (.ListComp elt [⟨target, iter, ifs, 0⟩] scope pos) scope env _ (newList []) false (eval iter env) (some (PySem.assign (Expr.Name x p') env))) _ _ s
  refine wpAny_bind (wpAny_mono (comp_core (use := some (PySem.assign (Expr.Name x p') env)) (Q := fun _ s' => Q .next s') hi K hcel0 C R (hs _ C.sc) fun D C' s' ρ' n hD h0 hρ hL hm => ?_)
    (fun _ s' hq => wpAny_pure (wpAny_pure hq)) fun _ _ e => e)
  obtain ⟨m, hm⟩ := hm
  show wpAny _ A (PySem.assign (Expr.Name x p') env (.ref D)) _ _ _
  refine wpAny_assign_Name (store_local C n.rel hl (v := .ref σ₁.st.length) ⟨D, hD, rfl⟩ fun s₂ n₂ => ?_)
  have hm₂ : s₂.heap.Ns C' m := by
    obtain ⟨o, es, ep, ho, r⟩ := hm
    exact ⟨o, es, ep, n₂.un _ _ ho hρ hL, r⟩
  refine ⟨m, hm₂, fun h' hs' => ?_⟩
  exact hQ _ _ _ ((n.trans n₂).aside R hm₂ hρ hL h0 hs') rfl

/-- a comprehension's sole name -/
theorem comp_name {x : PySem.Str} {px : Pos} {cel' : List (PySem.Str × Nat)} {v : MV} (hl : Gc.sc.names.lookup x = some .local) (loc : List (PySem.Str × MV)) (st : List MO) (hok : loc = [] ∨ ∃ u, loc = [(x, u)]) :
    Tg W Gc k (.Name x px) v ⟨loc, cel', st⟩ ⟨[(x, v)], cel', st⟩ := by
  have : setL x v loc = [(x, v)] := by
    rcases hok with rfl | ⟨u, rfl⟩
    · rfl
    · unfold setL; rw [if_pos (beq_self_eq_true _)]
  have h := Tg.name (W := W) (G := Gc) (k := k) (σ := ⟨loc, cel', st⟩) (p := px) (v := v) hl
  rw [this] at h
  exact h
theorem comp_two {x y : PySem.Str} {px py pt : Pos} {x1 : Nat} {cel' : List (PySem.Str × Nat)} {a b : FV} (hxy : (y == x) = false) (hx : Gc.sc.names.lookup x = some .local) (hy : Gc.sc.names.lookup y = some .local) (loc : List (PySem.Str × MV)) (st : List MO) (hok : loc = [] ∨ ∃ u u', loc = [(x, u), (y, u')]) :
    Tg W Gc k (.Tuple [.Name x px, .Name y py] x1 pt) (.tup [a, b]) ⟨loc, cel', st⟩ ⟨[(x, .at a), (y, .at b)], cel', st⟩ := by
  have : setL y (.at b) (setL x (.at a) loc) = [(x, .at a), (y, .at b)] := by
    rcases hok with rfl | ⟨u, u', rfl⟩
    · simp [setL, hxy]
    · simp [setL, hxy]
  have h := Tg.two (W := W) (G := Gc) (k := k) (σ := ⟨loc, cel', st⟩) (px := px) (py := py) (pt := pt) (x1 := x1) (a := a) (b := b) hx hy
  rw [this] at h
  exact h
end
end
section
open PySem PySem.W PyProof.Rows PySem.Spec PySem.Calls
section
variable {W : Wd} {G : Fx} {k : Nat} {σ σ₁ σ₂ σ₃ σ' : St}
/-! strs -/
theorem Op.eq_str {x y : PySem.Str} : Op W G k (t2 (compareOp .Eq)) [.str x, .str y] σ (isV (.bool (x == y))) σ := Op.mk fun C R hv h => by
  obtain ⟨_, _, rfl, ⟨t, rfl⟩, ⟨u, rfl⟩⟩ := hv.two
  exact PyProof.Rows.eq_str (h _ _ _ (Nx.same R (t := _)) rfl)
theorem Op.ne_str {x y : PySem.Str} : Op W G k (t2 (compareOp .NotEq)) [.str x, .str y] σ (isV (.bool (x != y))) σ := Op.mk fun C R hv h => by
  obtain ⟨_, _, rfl, ⟨t, rfl⟩, ⟨u, rfl⟩⟩ := hv.two
  exact PyProof.Rows.ne_str (h _ _ _ (Nx.same R (t := _)) rfl)
theorem Op.add_str {x y : PySem.Str} (hz : x.length + y.length ≤ 100000) : Op W G k (t2 (binaryOp .Add)) [.str x, .str y] σ (isV (.str (x ++ y))) σ := Op.mk fun C R hv h => by
  obtain ⟨_, _, rfl, ⟨t, rfl⟩, ⟨u, rfl⟩⟩ := hv.two
  exact PyProof.Rows.add_str (fun t' tk => h _ _ _ (Nx.same R) ⟨_, rfl⟩) (by rw [sizeLine_eq]; omega)
theorem Op.iadd_str {x y : PySem.Str} (hz : x.length + y.length ≤ 100000) : Op W G k (t2 (inplaceOp .Add)) [.str x, .str y] σ (isV (.str (x ++ y))) σ := Op.mk fun C R hv h => by
  obtain ⟨_, _, rfl, ⟨t, rfl⟩, ⟨u, rfl⟩⟩ := hv.two
  exact PyProof.Rows.iadd_str (fun t' tk => h _ _ _ (Nx.same R) ⟨_, rfl⟩) (by rw [sizeLine_eq]; omega)
def subStr (y x : PySem.Str) : Bool := !(Builtin.Str.occurrences x y 0 x.length 1).isEmpty
theorem Op.in_str {x y : PySem.Str} : Op W G k (t2 (compareOp .In)) [.str y, .str x] σ (isV (.bool (subStr y x))) σ := Op.mk fun C R hv h => by
  obtain ⟨_, _, rfl, ⟨t, rfl⟩, ⟨u, rfl⟩⟩ := hv.two
  exact PyProof.Rows.in_str (h _ _ _ (Nx.same R (t := _)) rfl)
theorem Op.notIn_str {x y : PySem.Str} : Op W G k (t2 (compareOp .NotIn)) [.str y, .str x] σ (isV (.bool (!subStr y x))) σ := Op.mk fun C R hv h => by
  obtain ⟨_, _, rfl, ⟨t, rfl⟩, ⟨u, rfl⟩⟩ := hv.two
  exact PyProof.Rows.notIn_str (h _ _ _ (Nx.same R (t := _)) rfl)
theorem Op.len_str {x : PySem.Str} (hz : x.length < 2 ^ 40) : Op W G k (fun _ l => call (.builtin "len") l) [.str x] σ (isV (.int x.length)) σ := Op.mk fun C R hv h => by
  obtain ⟨_, rfl, ⟨t, rfl⟩⟩ := hv.un
  exact PyProof.Rows.len_str (by omega) (h _ _ _ (Nx.same R) ⟨_, rfl⟩)
theorem Op.ne {a b : Int} : Op W G k (t2 (compareOp .NotEq)) [.int a, .int b] σ (isV (.bool (a != b))) σ := Op.mk fun C R hv h => by
  obtain ⟨_, _, rfl, ⟨t, rfl⟩, ⟨u, rfl⟩⟩ := hv.two
  exact PyProof.Rows.ne_int (h _ _ _ (Nx.same R (t := _)) rfl)

/-! truth -/
theorem Et.ofBool {e : Expr} {b : Bool} (h : Ev W G k e σ (.bool b) σ₁) (he : ∀ env whole, isTrue e env whole = (do let v ← whole; standAt e.pos; holding [v] (truthy v))) : Et W G k e σ b σ₁ := Tr.mk fun C R hq =>
  isTrue_plain (h.run C R fun v s₁ ρ₁ n₁ r => by
    have r : v = .bool b := r
    subst r
    exact wpAny_truthy_bool (hq _ _ _ n₁ rfl)) (he _ _)
theorem Et.ofNone {e : Expr} (h : Ev W G k e σ .none σ₁) (he : ∀ env whole, isTrue e env whole = (do let v ← whole; standAt e.pos; holding [v] (truthy v))) : Et W G k e σ false σ₁ := Tr.mk fun C R hq =>
  isTrue_plain (h.run C R fun v s₁ ρ₁ n₁ r => by
    have r : v = .none := r
    subst r
    exact PyProof.Rows.truthy_none (hq _ _ _ n₁ rfl)) (he _ _)

/-! displays -/
theorem fa2_at {h : Heap} {ρ : List Addr} {xs : List FV} {vs : List Value} (f : Fa2 (RV h ρ) (xs.map .at) vs) : Fa2 RF xs vs := by
  induction xs generalizing vs with
  | nil => cases f; exact .nil
  | cons x xs ih => cases f with | cons r t => exact .cons r (ih t)
theorem hnone (h : Heap) : h.get? h.objs.size = none := by
  cases q : h.get? h.objs.size with
  | none => rfl
  | some o => exact absurd (Heap.lt_size q) (Nat.lt_irrefl _)
theorem Ev.tuple {es : List Expr} {xs : List FV} {x1 : Nat} {pos : Pos} (h : Evs W G k es σ (xs.map .at) σ₁) (hz : xs.length ≤ 100000) : Ev W G k (.Tuple es x1 pos) σ (.tup xs) σ₁ := Tr.mk fun C R hq =>
  Tuple_ ((h pos).run C R fun vs s₁ ρ₁ n₁ r => by
    have f := fa2_at r
    have nk := Nx.kept n₁.rel (t := s₁.toks) (h' := s₁.heap.push { cls := .type "tuple", data := .seq vs.toArray }) fun b o e => Heap.get?_push_of_some _ e
    refine wpAny_newTuple (hq _ _ _ (n₁.trans nk) ⟨_, _, _, _, rfl, Heap.get?_push_size _ rfl, rfl, rfl, f⟩) ?_
    rw [sizeLine_eq, ← f.length]; omega)
theorem Ev.list {es : List Expr} {xs : List MV} {pos : Pos} (h : Evs W G k es σ xs σ₁) (hz : xs.length ≤ 100000) : Ev W G k (.List es pos) σ (.ref σ₁.st.length) { σ₁ with st := σ₁.st ++ [.list xs] } := Tr.mk fun C R hq =>
  List_ ((h pos).run C R fun vs s₁ ρ₁ n₁ r => by
    have f := r
    refine wpAny_newObj_type ?_ (by show vs.toArray.size ≤ sizeLine; rw [List.size_toArray, sizeLine_eq, ← f.length]; omega)
    have nn := Nx.new n₁.rel (t := s₁.toks) (a := s₁.heap.objs.size) (x := .list xs) (h' := s₁.heap.push { cls := .type "list", dict := none, data := .seq vs.toArray }) (fun b o e => Heap.get?_push_of_some _ e) (hnone _) (Heap.get?_push_size _ rfl)
      ⟨_, _, rfl, r.mono fun _ _ q => q.mono (.of_keep fun b o e => Heap.get?_push_of_some _ e) (List.prefix_append _ _)⟩
    refine hq _ _ _ (n₁.trans nn) ⟨s₁.heap.objs.size, ?_, rfl⟩
    rw [n₁.rel.len, List.getElem?_append_right (Nat.le_refl _), Nat.sub_self]; rfl)

/-! subscripts -/
structure TyOf (x : MV) (σ : St) (T : String) : Prop where
  run : ∀ {h₀ L cl ρ} {s : Shared} {v}, Rel h₀ L cl ρ σ s.heap → RV s.heap ρ x v → s.TypeIs v T
theorem TyOf.list {i : Nat} {vs : List MV} (e : σ.st[i]? = some (.list vs)) : TyOf (.ref i) σ "list" := ⟨fun R r => by
  obtain ⟨a, items, n, rfl, ha, hl, f⟩ := R.list e r
  exact ⟨_, hl, rfl⟩⟩
theorem TyOf.str {x : PySem.Str} : TyOf (.str x) σ "str" := ⟨fun R r => by obtain ⟨t, rfl⟩ := r; exact typeIs_str _ _ _⟩
theorem TyOf.int {x : Int} : TyOf (.int x) σ "int" := ⟨fun R r => by obtain ⟨t, rfl⟩ := r; exact typeIs_int _ _ _⟩
theorem TyOf.tup {xs : List FV} : TyOf (.tup xs) σ "tuple" := ⟨fun R r => by
  obtain ⟨a, o, items, n, rfl, e, c, d, f⟩ := r
  exact ⟨o, e, c⟩⟩
theorem Ev.sub {v i : Expr} {pos : Pos} {x y z : MV} {T id : String} (hv : Ev W G k v σ x σ₁) (hi : Ev W G k i σ₁ y σ₂) (hT : TyOf x σ₂ T) (hl : typeLookup (.type T) "__getitem__" = pure (some (.builtin id))) (ho : Op W G k (t2 getItem) [x, y] σ₂ (isV z) σ₃)
    (hs : ∀ o i', subscripted i false o i' = operate [o, i'] (getItem o i')) (ht : ∀ o r, letTemporaryGo v o r = pure ()) : Ev W G k (.Subscript v i pos) σ z σ₃ := Tr.mk fun C R hq =>
  Subscript_ (hv.run C R fun a s₁ ρ₁ n₁ ra => hi.run C n₁.rel fun b s₂ ρ₂ n₂ rb => subscriptTail_builtin (hT.run n₂.rel (ra.mono n₂.tk n₂.pre)) hl
    (ho.run C n₂.rel (vs := [a, b]) (.cons (ra.mono n₂.tk n₂.pre) (.one rb)) fun c s₃ ρ₃ n₃ rc => hq _ _ _ ((n₁.trans n₂).trans n₃) rc) (hs _ _) (ht _))
theorem Op.item_str {x : PySem.Str} {j : Int} {c : Nat} (h0 : 0 ≤ j) (hj : j < 2 ^ 63) (hx : x.cps[j.toNat]? = some c) : Op W G k (t2 getItem) [.str x, .int j] σ (isV (.str ⟨#[c]⟩)) σ := Op.mk fun C R hv h => by
  obtain ⟨_, _, rfl, ⟨t, rfl⟩, ⟨u, rfl⟩⟩ := hv.two
  have hlt : j.toNat < x.cps.size := (Array.getElem?_eq_some_iff.mp hx).1
  refine PyProof.Rows.getItem_str (by simp; omega) (c := c) ?_ (h _ _ _ (Nx.same R) ⟨_, rfl⟩)
  rw [seqIndex_of h0 (by show j < ((x.length : Nat) : Int); unfold PySem.Str.length; omega)]
  exact hx
end
end
section
open PySem PySem.W PyProof.Rows PySem.Spec PySem.Calls

/-! statements within a generator -/
section
variable {W : Wd} {G : Fx} {k : Nat} {A : Around} {R : GenEnd} {Y : Protocol} {n : Nat} {s₀ : Shared} {c : Code} {fs : List Frame} {s : Shared} {env : Env}
  {K : Flow → Sem Fin} {H : Value → Sem Fin} {gd : Bool → Bool} {lv : List Value → List Value} {h₀ : Heap} {L : Addr} {σ σ₁ : St}

theorem seg_ex {st : Stmt} {rest : List Stmt} (C : Cx W G (A.over c fs) env [] h₀ L k) (Rl : Rel h₀ L [] [] σ s.heap) (hx : Ex W G k st σ .next σ₁)
    (h : ∀ s', Nx h₀ L [] [] s σ₁ [] s' → Seg W.M A R Y n s₀ c ((execs rest env).wrap K H gd lv) fs s') (hst : σ₁.st = []) : Seg W.M A R Y n s₀ c ((execs (st :: rest) env).wrap K H gd lv) fs s := by
  refine seg_execs_cons (seg_wrap (wpAny_mono (hx.run C Rl (Q := fun f s' => f = .next ∧ Nx h₀ L [] [] s σ₁ [] s') fun f s' ρ' nx r => ⟨r, ?_⟩) (fun f s' q => ?_) fun _ _ q => q.elim))
  · have : ρ' = [] := by
      have := nx.rel.len
      rw [hst] at this
      exact List.eq_nil_of_length_eq_zero this.symm
    subst this; exact nx
  · obtain ⟨rfl, nx⟩ := q
    exact h s' nx
theorem seg_if {test : Expr} {body orelse rest : List Stmt} {pos : Pos} {b : Bool} (C : Cx W G (A.over c fs) env [] h₀ L k) (Rl : Rel h₀ L [] [] σ s.heap) (hx : Et W G k test σ b σ)
    (h : ∀ s', Nx h₀ L [] [] s σ [] s' → Seg W.M A R Y n s₀ c ((execs (if b then body else orelse) env).wrap (fun f => match f with | .next => (execs rest env).wrap K H gd lv | f => K f) H gd lv) fs s') (hst : σ.st = []) :
    Seg W.M A R Y n s₀ c ((execs (.If test body orelse pos :: rest) env).wrap K H gd lv) fs s := by
  refine seg_execs_cons ?_
  rw [exec_If]
  show Seg W.M A R Y n s₀ c (.at pos fun _ => (isTrue test env (eval test env) >>= fun b => if b = true then execs body env else execs orelse env).wrap _ H gd lv) fs s
  refine seg_at (seg_bind_wrap (wpAny_mono (hx.run C Rl (Q := fun f s' => f = b ∧ Nx h₀ L [] [] s σ [] s') fun f s' ρ' nx r => ⟨r, ?_⟩) (fun f s' q => ?_) fun _ _ q => q.elim))
  · have : ρ' = [] := by
      have := nx.rel.len
      rw [hst] at this
      exact List.eq_nil_of_length_eq_zero this.symm
    subst this; exact nx
  · obtain ⟨rfl, nx⟩ := q
    have := h s' nx
    cases f <;> exact this
theorem seg_yld {e : Expr} {rest : List Stmt} {ypos pos : Pos} {v : MV} (C : Cx W G (A.over c fs) env [] h₀ L k) (Rl : Rel h₀ L [] [] σ s.heap) (hx : Ev W G k e σ v σ) (hst : σ.st = []) (hfs : splitAtGen fs = none) (hgd : gd false = false) (hfg : fs.any Frame.guarded = false)
    (h : ∀ v' s', Nx h₀ L [] [] s σ [] s' → RV s'.heap [] v v' → ∀ kap : Resume → Shared → Prop, (∀ s'', Seg W.M A R Y n s'' c ((execs rest env).wrap K H gd lv) fs s'' → kap (.send .none) s'') → Y n s₀ v' s' kap)
    (hco : env.scope.isCoroutine = false) (hi : interactive env = false) :
    Seg W.M A R Y (n + 1) s₀ c ((execs (.Expr (.Yield (some e) ypos) pos :: rest) env).wrap K H gd lv) fs s := by
  refine seg_execs_cons (seg_Expr_Yield hfs hgd hfg (wpAny_mono (hx.run C Rl (Q := fun v' s' => Nx h₀ L [] [] s σ [] s' ∧ RV s'.heap [] v v') fun v' s' ρ' nx r => ?_) (fun v' s' q => ?_) fun _ _ q => q.elim) hco hi)
  · have : ρ' = [] := by
      have := nx.rel.len
      rw [hst] at this
      exact List.eq_nil_of_length_eq_zero this.symm
    subst this; exact ⟨nx, r⟩
  · intro kap hk
    refine h v' s' q.1 q.2 kap fun s'' hs => ?_
    exact hk .none s'' hs

theorem seg_For {target iter : Expr} {body orelse rest : List Stmt} {pos : Pos}
    (h : wpAny W.M (A.over c fs) (eval iter env) (fun x s₁ => wpAny W.M (A.over c fs) (pyIter x) (fun it s₂ => ∀ p fr, (∃ k', fr = .ret k' none (gd false) (lv []) c p [] ∧ k' (.ok .next) = (execs rest env).wrap K H gd lv) →
      Seg W.M A R Y n s₀ (.forLoop target it body orelse env) (W.M.den (.forLoop target it body orelse env)) (fr :: fs) s₂) (fun _ _ => False) s₁) (fun _ _ => False) s)
    (hs : ∀ x, foldedSetIterable iter env x = pure x) :
    Seg W.M A R Y n s₀ c ((execs (.For target iter body orelse pos :: rest) env).wrap K H gd lv) fs s := by
  refine seg_execs_cons ?_
  rw [exec_For]
  refine seg_bind_wrap (wpAny_standAt (seg_bind_wrap (wpAny_mono h (fun x s₁ h₁ => ?_) fun _ _ q => q.elim)))
  refine seg_bind_wrap (wpAny_of_eq (hs x) ?_)
  refine seg_bind_wrap (wpAny_standAt (seg_bind_wrap (wpAny_holding (wpAny_mono h₁ (fun it s₂ h₂ => ?_) fun _ _ q => q.elim))))
  show Seg W.M A R Y n s₀ c (.call _ _ _ _ _) fs s₂
  exact seg_call fun p => h₂ p _ ⟨_, rfl, rfl⟩

theorem seg_forTurn {target : Expr} {it : Value} {body : List Stmt} {k' : Result → Sem Fin} {c₁ : Code} {p₁ : Pos} {g₁ : Bool} {l₁ : List Value}
    (h : wpAny W.M (A.over (.forLoop target it body [] env) (.ret k' none g₁ l₁ c₁ p₁ [] :: fs)) (pyNext it) (fun r s₁ => match r with
      | none => Seg W.M A R Y n s₀ c₁ (k' (.ok .next)) fs s₁
      | some v => wpAny W.M (A.over (.forLoop target it body [] env) (.ret k' none g₁ l₁ c₁ p₁ [] :: fs)) (letOwnedTupleGo target it v) (fun _ s₂ =>
          wpAny W.M (A.over (.forLoop target it body [] env) (.ret k' none g₁ l₁ c₁ p₁ [] :: fs)) (PySem.assign target env v) (fun _ s₃ =>
            Seg W.M A R Y n s₀ (.forLoop target it body [] env) ((execs body env).wrap (fun f => match f with
              | .next | .cont => .pure (.again (.forLoop target it body [] env))
              | .brk => .pure (.done .next)
              | .ret v => .pure (.done (.ret v))) (fun e => (do noteFrame e env; theTreesLotGoes e : Sem Unit).wrap (fun _ => .raise e) .raise id id) id id) (.ret k' none g₁ l₁ c₁ p₁ [] :: fs) s₃) (fun _ _ => False) s₂) (fun _ _ => False) s₁) (fun _ _ => False) s) :
    Seg W.M A R Y n s₀ (.forLoop target it body [] env) (W.M.den (.forLoop target it body [] env)) (.ret k' none g₁ l₁ c₁ p₁ [] :: fs) s := by
  show Seg _ A R Y n s₀ _ ((forTurn target it body [] env).onRaise (fun x => do noteFrame x env; theTreesLotGoes x)) _ s
  unfold forTurn
  rw [Sem.onRaise_eq_wrap]
  refine seg_bind_wrap (wpAny_standAt (seg_bind_wrap (wpAny_onRaise (wpAny_mono h (fun r s₁ h₁ => ?_) fun _ _ q => q.elim))))
  cases r with
  | none =>
    show Seg _ A R Y n s₀ _ (.pure (.again (.block [] env))) _ s₁
    refine seg_again rfl ?_
    show Seg _ A R Y n s₀ _ (leafOf (.ok .next)) _ s₁
    exact seg_leaf (.ok .next) h₁
  | some v =>
    refine seg_bind_wrap (wpAny_mono h₁ (fun _ s₂ h₂ => ?_) fun _ _ q => q.elim)
    refine seg_bind_wrap (wpAny_mono h₂ (fun _ s₃ h₃ => ?_) fun _ _ q => q.elim)
    rw [Sem.bind_eq_wrap', Sem.wrap_wrap]
    rw [Sem.wrap_congr (execs body env) _ _ (K' := fun f => match f with
            | .next | .cont => .pure (.again (.forLoop target it body [] env))
            | .brk => .pure (.done .next)
            | .ret v => .pure (.done (.ret v))) (H' := (fun e => (do noteFrame e env; theTreesLotGoes e : Sem Unit).wrap (fun _ => .raise e) .raise id id))
        (fun f => by cases f <;> rfl)
        (fun e => by first | exact Sem.bind_eq_wrap _ _ | (show (do noteFrame e env; theTreesLotGoes e : Sem Unit).bind (fun _ => .raise e) = _; rw [Sem.bind_eq_wrap]))]
    exact h₃
end

/-! the escaped chars -/
def escs (i : Nat) (e : Bool) : List Nat → List (Nat × PySem.Str)
  | [] => if e then [(i - 1, ⟨#[92]⟩)] else []
  | c :: cs => if e then (i, ⟨#[92, c]⟩) :: escs (i + 1) false cs else if c == 92 then escs (i + 1) true cs else (i, ⟨#[c]⟩) :: escs (i + 1) false cs
def escV (p : Nat × PySem.Str) : MV := .tup [.int p.1, .str p.2]

def IterObj (o : Obj) : Prop := ∃ n vs, o.cls = .type n ∧ o.data = .fields vs ∧ (n = "enumerate" ∨ n = "str_ascii_iterator" ∨ n = "str_iterator")
def Own (hb : Heap) (Lg : Addr) (b : Addr) (o : Obj) : Prop := b = Lg ∨ (hb.get? b = none ∧ IterObj o)
structure GS (hb : Heap) (Lg : Addr) (s s' : Shared) : Prop where
  gx : Gx s s'
  keep : ∀ b o, s.heap.get? b = some o → ¬ Own hb Lg b o → s'.heap.get? b = some o
theorem GS.refl {hb : Heap} {Lg : Addr} (s : Shared) : GS hb Lg s s := ⟨Gx.refl s, fun _ _ e _ => e⟩
theorem GS.trans {hb : Heap} {Lg : Addr} {s s' s'' : Shared} (a : GS hb Lg s s') (b : GS hb Lg s' s'') : GS hb Lg s s'' := ⟨a.gx.trans b.gx, fun x o e h => b.keep x o (a.keep x o e h) h⟩
theorem GS.nx {hb h₀ : Heap} {Lg : Addr} {s s' : Shared} {σ : St} (n : Nx h₀ Lg [] [] s σ [] s') : GS hb Lg s s' := ⟨n.gx, fun b o e h => n.un b o e (by simp) fun q => h (.inl q)⟩

/-- what a resumed generator sees unturned -/
def Stab (h₀ hb : Heap) (Lg : Addr) (s s' : Shared) : Prop := (∀ b o, s.heap.get? b = some o → Own hb Lg b o → s'.heap.get? b = some o) ∧ ∀ b o, h₀.get? b = some o → s'.heap.get? b = some o
def gEnd (hb : Heap) (Lg : Addr) : GenEnd := fun n s₀ r s₁ => r = .ok (.ret .none) ∧ n = 0 ∧ GS hb Lg s₀ s₁
def gYield (h₀ hb : Heap) (Lg : Addr) (items : List MV) : Protocol := fun m s₀ v s' kap => (∃ x, items[items.length - 1 - m]? = some x ∧ RV s'.heap [] x v) ∧ (∃ m, s'.heap.Ns Lg m) ∧ GS hb Lg s₀ s' ∧ ∀ s'', Stab h₀ hb Lg s' s'' → kap (.send .none) s''

structure EscOk (W : Wd) (G : Fx) (k : Nat) (t1 t2 e1 e3 : Expr) (a1 a2 : Stmt) : Prop where
  h1 : ∀ (loc : List (PySem.Str × MV)) e, loc.lookup ("escape" : PySem.Str) = some (.bool e) → Et W G k t1 ⟨loc, [], []⟩ e ⟨loc, [], []⟩
  h2 : ∀ (loc : List (PySem.Str × MV)) c, loc.lookup ("ch" : PySem.Str) = some (.str ⟨#[c]⟩) → Et W G k t2 ⟨loc, [], []⟩ (c == 92) ⟨loc, [], []⟩
  e1 : ∀ (loc : List (PySem.Str × MV)) (p : Nat) c, loc.lookup ("pos" : PySem.Str) = some (.int p) → loc.lookup ("ch" : PySem.Str) = some (.str ⟨#[c]⟩) → Ev W G k e1 ⟨loc, [], []⟩ (escV (p, ⟨#[92, c]⟩)) ⟨loc, [], []⟩
  e3 : ∀ (loc : List (PySem.Str × MV)) (p : Nat) c, loc.lookup ("pos" : PySem.Str) = some (.int p) → loc.lookup ("ch" : PySem.Str) = some (.str ⟨#[c]⟩) → Ev W G k e3 ⟨loc, [], []⟩ (escV (p, ⟨#[c]⟩)) ⟨loc, [], []⟩
  a1 : ∀ loc, Ex W G k a1 ⟨loc, [], []⟩ .next ⟨setL "escape" (.bool false) loc, [], []⟩
  a2 : ∀ loc, Ex W G k a2 ⟨loc, [], []⟩ .next ⟨setL "escape" (.bool true) loc, [], []⟩
  hp : G.sc.names.lookup ("pos" : PySem.Str) = some .local
  hc : G.sc.names.lookup ("ch" : PySem.Str) = some .local

def StE (x : PySem.Str) (t : Tok) (en it : Addr) (i : Nat) (h : Heap) : Prop := (∃ old, IsEnum h en it i old) ∧ h.IsStrIter it (strIterType x) x t i
theorem strDraws {prog : Program} {w : World} {A : Around} (hh : A.handled = none) (it : Addr) (x : PySem.Str) (t : Tok) : Draws prog w A it [it] x.cps.size (SignAt x) (fun i h => h.IsStrIter it (strIterType x) x t i) := by
  cases ha : x.cps.all (· < 128)
  · have e : strIterType x = "str_iterator" := by simp [strIterType, ha]
    rw [e]; exact Draws.strWide hh it x t
  · have e : strIterType x = "str_ascii_iterator" := by simp [strIterType, ha]
    rw [e]; exact Draws.strAscii hh it x t
theorem strIterType_is (x : PySem.Str) : strIterType x = "str_ascii_iterator" ∨ strIterType x = "str_iterator" := by
  unfold strIterType; split <;> simp
theorem iter_own {x : PySem.Str} {t : Tok} {en it : Addr} {i : Nat} {hb h : Heap} {Lg : Addr} (st : StE x t en it i h) (h1 : hb.get? en = none) (h2 : hb.get? it = none) : ∀ b o, h.get? b = some o → b ∈ [en, it] → Own hb Lg b o := by
  obtain ⟨⟨old, he⟩, oi, hi, hc, hd⟩ := st
  intro b o e hm
  rcases List.mem_cons.mp hm with rfl | hm
  · rw [he] at e; cases e
    exact .inr ⟨h1, _, _, rfl, rfl, .inl rfl⟩
  · rw [List.mem_singleton.mp hm] at e ⊢
    rw [hi] at e; cases e
    exact .inr ⟨h2, _, _, hc, hd, .inr (strIterType_is x)⟩

section
variable {W : Wd} {G : Fx} {k : Nat} {A : Around} {h₀ hb : Heap} {Lg : Addr} {env : Env} {items : List MV}
theorem rel_nil {h h' : Heap} {σ : St} (R : Rel h₀ Lg [] [] σ h) (k : ∀ b o, h.get? b = some o → (b = Lg ∨ h₀.get? b ≠ none) → h'.get? b = some o) (hst : ∀ x v, σ.loc.lookup x = some v → ∃ u, v = .at u) : Rel h₀ Lg [] [] σ h' := by
  obtain ⟨⟨m, objs, F, N, el, f, l⟩, nd, ce⟩ := R
  refine ⟨⟨m, objs, ⟨?_, fun b o e => k b o (F.keep b o e) (.inr (by rw [e]; simp)), F.above⟩, fun p hp => by simp at hp, el, ?_, fun x v e => ?_⟩, nd, ce⟩
  · obtain ⟨o, es, ep, ho, r⟩ := F.ns; exact ⟨o, es, ep, k _ _ ho (.inl rfl), r⟩
  · have : objs = [] := List.eq_nil_of_length_eq_zero el
    subst this
    have : σ.st = [] := by cases hs : σ.st with | nil => rfl | cons a b => rw [hs] at f; cases f
    rw [this]; exact .nil
  · obtain ⟨v', a, b⟩ := l x v e
    obtain ⟨u, rfl⟩ := hst x v e
    exact ⟨v', a, b⟩
/-- the names of a generator under way bear plain values alone -/
def PlainLoc (loc : List (PySem.Str × MV)) : Prop := ∀ x v, loc.lookup x = some v → ∃ u, v = .at u
theorem PlainLoc.set {loc : List (PySem.Str × MV)} (h : PlainLoc loc) (x : PySem.Str) (u : FV) : PlainLoc (setL x (.at u) loc) := fun y v e => by
  rw [setL_lookup] at e
  by_cases q : y = x
  · rw [if_pos q] at e; cases e; exact ⟨u, rfl⟩
  · rw [if_neg q] at e; exact h y v e

theorem esc_loop {t1 t2 e1 e3 : Expr} {a1 a2 : Stmt} {x : PySem.Str} {t : Tok} {en it : Addr} {px pc pt yp1 p1 p2 q1 q2 yp3 : Pos} {x1 : Nat} {k' : Result → Sem Fin} {c₁ : Code} {pp : Pos} {l₁ : List Value} (E : EscOk W G k t1 t2 e1 e3 a1 a2)
    (hb1 : hb.get? en = none) (hb2 : hb.get? it = none) (hei : en ≠ it) (hLe : Lg ≠ en) (hLi : Lg ≠ it) (he0 : h₀.get? en = none) (hi0 : h₀.get? it = none) (hco : env.scope.isCoroutine = false) (hint : interactive env = false)
    (C : Cx W G (A.over (.forLoop (.Tuple [.Name "pos" px, .Name "ch" pc] x1 pt) (.ref en) [.If t1 [.Expr (.Yield (some e1) yp1) p1, a1] [.If t2 [a2] [.Expr (.Yield (some e3) yp3) p2] q2] q1] [] env) [.ret k' none false l₁ c₁ pp []]) env [] h₀ Lg k)
    (hend : ∀ (s₀ s : Shared) loc e, (e = true → 0 < x.cps.size) → PlainLoc loc → loc.lookup ("escape" : PySem.Str) = some (.bool e) → (0 < x.cps.size → loc.lookup ("pos" : PySem.Str) = some (.int ((x.cps.size - 1 : Nat) : Int))) → Rel h₀ Lg [] [] ⟨loc, [], []⟩ s.heap → GS hb Lg s₀ s →
      items.drop (items.length - (escs x.cps.size e []).length) = (escs x.cps.size e []).map escV → Seg W.M A (gEnd hb Lg) (gYield h₀ hb Lg items) (escs x.cps.size e []).length s₀ c₁ (k' (.ok .next)) [] s) :
    ∀ (cs : List Nat) (i : Nat) (e : Bool) (s₀ s : Shared) (loc : List (PySem.Str × MV)), x.cps.toList.drop i = cs → i ≤ x.cps.size → (e = true → 0 < i) → PlainLoc loc → loc.lookup ("escape" : PySem.Str) = some (.bool e) → (0 < i → loc.lookup ("pos" : PySem.Str) = some (.int ((i - 1 : Nat) : Int))) →
      Rel h₀ Lg [] [] ⟨loc, [], []⟩ s.heap → StE x t en it i s.heap → GS hb Lg s₀ s → items.drop (items.length - (escs i e cs).length) = (escs i e cs).map escV →
      Seg W.M A (gEnd hb Lg) (gYield h₀ hb Lg items) (escs i e cs).length s₀ (.forLoop (.Tuple [.Name "pos" px, .Name "ch" pc] x1 pt) (.ref en) [.If t1 [.Expr (.Yield (some e1) yp1) p1, a1] [.If t2 [a2] [.Expr (.Yield (some e3) yp3) p2] q2] q1] [] env)
        (W.M.den (.forLoop (.Tuple [.Name "pos" px, .Name "ch" pc] x1 pt) (.ref en) [.If t1 [.Expr (.Yield (some e1) yp1) p1, a1] [.If t2 [a2] [.Expr (.Yield (some e3) yp3) p2] q2] q1] [] env)) [.ret k' none false l₁ c₁ pp []] s := by
  intro cs
  have WT : WalksT W.prog W.w (A.over (.forLoop (.Tuple [.Name "pos" px, .Name "ch" pc] x1 pt) (.ref en) [.If t1 [.Expr (.Yield (some e1) yp1) p1, a1] [.If t2 [a2] [.Expr (.Yield (some e3) yp3) p2] q2] q1] [] env) [.ret k' none false l₁ c₁ pp []]) en (en :: [it]) [en, it] x.cps.size _ _ _ :=
    WalksT.enumerateD (strDraws (A := (A.over (.forLoop (.Tuple [.Name "pos" px, .Name "ch" pc] x1 pt) (.ref en) [.If t1 [.Expr (.Yield (some e1) yp1) p1, a1] [.If t2 [a2] [.Expr (.Yield (some e3) yp3) p2] q2] q1] [] env) [.ret k' none false l₁ c₁ pp []]).in1) C.hh it x t) en hei (by simpa using hei) (by simp)
  induction cs with
  | nil =>
    intro i e s₀ s loc hd hi hei0 hpl hle hlp R st gs hit
    have hi' : i = x.cps.size := by
      have := congrArg List.length hd
      simp at this; omega
    subst hi'
    refine seg_forTurn (WT.done _ _ _ st fun h' tk hk => ?_)
    have own := iter_own (Lg := Lg) st hb1 hb2
    have nk : GS hb Lg s { s with heap := h', toks := tk } := ⟨Gx.heap, fun b o e hn => hk b o (fun hm => hn (own b o e hm)) e⟩
    refine hend s₀ _ loc e hei0 hpl hle (fun h => hlp h) (rel_nil R (fun b o e hq => hk b o (fun hm => ?_) e) hpl) (gs.trans nk) hit
    rcases hq with rfl | hq
    · rcases List.mem_cons.mp hm with q | hm
      · exact hLe q
      · exact hLi (List.mem_singleton.mp hm)
    · rcases List.mem_cons.mp hm with rfl | hm
      · exact hq he0
      · rw [List.mem_singleton.mp hm] at hq; exact hq hi0
  | cons c cs ih =>
    intro i e s₀ s loc hd hi hei0 hpl hle hlp R st gs hit
    have hi' : i < x.cps.size := by
      have := congrArg List.length hd
      simp at this; omega
    have hget : x.cps[i]? = some c := by
      have := (drop_cons hd.symm).1
      rwa [Array.getElem?_toList] at this
    have hd' : x.cps.toList.drop (i + 1) = cs := ((drop_cons hd.symm).2).symm
    have notL : ∀ b, b ∈ [en, it] → b ≠ Lg := fun b hm q => by
      subst q
      rcases List.mem_cons.mp hm with q | hm
      · exact hLe q
      · exact hLi (List.mem_singleton.mp hm)
    have not0 : ∀ b, b ∈ [en, it] → h₀.get? b = none := fun b hm => by
      rcases List.mem_cons.mp hm with rfl | hm
      · exact he0
      · rw [List.mem_singleton.mp hm]; exact hi0
    have kp : ∀ {h h' : Heap}, (∀ b o, b ∉ [en, it] → h.get? b = some o → h'.get? b = some o) → ∀ b o, h.get? b = some o → (b = Lg ∨ h₀.get? b ≠ none) → h'.get? b = some o := fun hk b o e hq => hk b o (fun hm => by
      rcases hq with q | q
      · exact notL b hm q
      · exact q (not0 b hm)) e
    refine seg_forTurn (WT.item i s _ _ hi' st fun T vals h₁ tk₁ hP hT htup hmid hk₁ => ?_)
    obtain ⟨t', xv, ⟨c', u, hc', rfl⟩, rfl⟩ := hP
    have : c = c' := by rw [hget] at hc'; exact Option.some.inj hc'
    subst this
    have own := iter_own (Lg := Lg) st hb1 hb2
    have g₁ : GS hb Lg s { s with heap := h₁, toks := tk₁ } := ⟨Gx.heap, fun b o e hn => hk₁ b o (fun hm => hn (own b o e hm)) e⟩
    have R₁ : Rel h₀ Lg [] [] ⟨loc, [], []⟩ h₁ := rel_nil R (kp hk₁) hpl
    have hap := WT.apart i T h₁ hmid
    have own₁ : ∀ b o, h₁.get? b = some o → b ∈ [en, it] → Own hb Lg b o := by
      obtain ⟨⟨x', he'⟩, ⟨oi, hoi, hc', hd'⟩, _⟩ := hmid
      intro b o e hm
      rcases List.mem_cons.mp hm with rfl | hm
      · rw [he'] at e; cases e
        exact .inr ⟨hb1, _, _, rfl, rfl, .inl rfl⟩
      · rw [List.mem_singleton.mp hm] at e ⊢
        rw [hoi] at e; cases e
        exact .inr ⟨hb2, _, _, hc', hd', .inr (strIterType_is x)⟩
    refine WT.go _ _ _ i T { s with heap := h₁, toks := tk₁ } _ _ hmid fun h₂ st₂ hk₂ => ?_
    have g₂ : GS hb Lg { s with heap := h₁, toks := tk₁ } { s with heap := h₂, toks := tk₁ } := ⟨Gx.heap, fun b o e hn => hk₂ b o (fun hm => hn (own₁ b o e hm)) e⟩
    have R₂ : Rel h₀ Lg [] [] ⟨loc, [], []⟩ h₂ := rel_nil R₁ (kp hk₂) hpl
    obtain ⟨oT, hoT, hcT, nT, hdT⟩ := htup
    have hoT₂ : h₂.get? T = some oT := hk₂ T oT hap hoT
    have rvT : RV h₂ [] (.tup [.int i, .str ⟨#[c]⟩]) (.ref T) := ⟨T, oT, _, _, rfl, hoT₂, hcT, hdT, .cons ⟨_, rfl⟩ (.cons ⟨_, rfl⟩ .nil)⟩
    refine (Tg.two E.hp E.hc).run (s := { s with heap := h₂, toks := tk₁ }) C R₂ rvT fun s₃ n₃ => ?_
    have g₃ : GS hb Lg s₀ s₃ := ((gs.trans g₁).trans g₂).trans (GS.nx n₃)
    have st₃ : StE x t en it (i + 1) s₃.heap := by
      obtain ⟨⟨old, he'⟩, oi, hoi, r⟩ := st₂
      exact ⟨⟨old, n₃.un _ _ he' (by simp) hLe.symm⟩, oi, n₃.un _ _ hoi (by simp) hLi.symm, r⟩
    have pl₃ : PlainLoc (setL "ch" (.at (.str ⟨#[c]⟩)) (setL "pos" (.at (.int i)) loc)) := (hpl.set _ _).set _ _
    have l1 : (setL "ch" (.at (.str ⟨#[c]⟩)) (setL "pos" (.at (.int (i : Int))) loc)).lookup ("escape" : PySem.Str) = some (.bool e) := by
      rw [setL_lookup, if_neg (by decide), setL_lookup, if_neg (by decide), hle]
    have l2 : (setL "ch" (.at (.str ⟨#[c]⟩)) (setL "pos" (.at (.int (i : Int))) loc)).lookup ("ch" : PySem.Str) = some (.str ⟨#[c]⟩) := by
      rw [setL_lookup, if_pos rfl]
    have l3 : (setL "ch" (.at (.str ⟨#[c]⟩)) (setL "pos" (.at (.int (i : Int))) loc)).lookup ("pos" : PySem.Str) = some (.int (i : Int)) := by
      rw [setL_lookup, if_neg (by decide), setL_lookup, if_pos rfl]
    revert n₃ pl₃ l1 l2 l3
    generalize (setL "ch" (.at (.str ⟨#[c]⟩)) (setL "pos" (.at (.int (i : Int))) loc)) = loc₃
    intro n₃ pl₃ l1 l2 l3
    have again : ∀ (cc : Code) (e' : Bool) (sa sb : Shared) (loc' : List (PySem.Str × MV)), PlainLoc loc' → loc'.lookup ("escape" : PySem.Str) = some (.bool e') → loc'.lookup ("pos" : PySem.Str) = some (.int (i : Int)) → Rel h₀ Lg [] [] ⟨loc', [], []⟩ sb.heap → StE x t en it (i + 1) sb.heap → GS hb Lg sa sb →
        items.drop (items.length - (escs (i + 1) e' cs).length) = (escs (i + 1) e' cs).map escV → Seg W.M A (gEnd hb Lg) (gYield h₀ hb Lg items) (escs (i + 1) e' cs).length sa cc (.pure (.again (.forLoop (.Tuple [.Name "pos" px, .Name "ch" pc] x1 pt) (.ref en) [.If t1 [.Expr (.Yield (some e1) yp1) p1, a1] [.If t2 [a2] [.Expr (.Yield (some e3) yp3) p2] q2] q1] [] env))) [.ret k' none false l₁ c₁ pp []] sb :=
      fun cc e' sa sb loc' b1 b2 b3 b4 b5 b6 b7 => seg_again rfl (ih (i + 1) e' sa sb loc' hd' hi' (fun _ => Nat.succ_pos _) b1 b2 (fun _ => b3) b4 b5 b6 b7)
    have yl : ∀ {p : Nat × PySem.Str} {r : List (Nat × PySem.Str)}, items.drop (items.length - (p :: r).length) = (p :: r).map escV → items[items.length - 1 - r.length]? = some (escV p) ∧ items.drop (items.length - r.length) = r.map escV := by
      intro p r h
      rw [List.map_cons] at h
      obtain ⟨h1, h2⟩ := drop_cons h.symm
      have hl := congrArg List.length h
      simp at hl
      refine ⟨by rw [← h1]; congr 1; simp; omega, ?_⟩
      rw [h2]; congr 1; simp; omega
    have wake : ∀ {sb s'' : Shared} {loc' : List (PySem.Str × MV)}, Stab h₀ hb Lg sb s'' → PlainLoc loc' → Rel h₀ Lg [] [] ⟨loc', [], []⟩ sb.heap → StE x t en it (i + 1) sb.heap → Rel h₀ Lg [] [] ⟨loc', [], []⟩ s''.heap ∧ StE x t en it (i + 1) s''.heap := by
      intro sb s'' loc' hs hp R st
      have own := iter_own (Lg := Lg) st hb1 hb2
      refine ⟨rel_nil R (fun b o e hq => ?_) hp, ?_⟩
      · rcases hq with rfl | hq
        · exact hs.1 _ _ e (.inl rfl)
        · cases z : h₀.get? b with
          | none => exact absurd z hq
          | some o' => rw [R.keep₀ _ _ z] at e; cases e; exact hs.2 _ _ z
      · obtain ⟨⟨old, he'⟩, oi, hoi, r⟩ := st
        exact ⟨⟨old, hs.1 _ _ he' (own _ _ he' (by simp))⟩, oi, hs.1 _ _ hoi (own _ _ hoi (by simp)), r⟩
    have stn : ∀ {sa sb : Shared} {τ : St}, Nx h₀ Lg [] [] sa τ [] sb → StE x t en it (i + 1) sa.heap → StE x t en it (i + 1) sb.heap := by
      rintro sa sb τ n ⟨⟨old, he'⟩, oi, hoi, r⟩
      exact ⟨⟨old, n.un _ _ he' (by simp) hLe.symm⟩, oi, n.un _ _ hoi (by simp) hLi.symm, r⟩
    refine seg_if (b := e) C n₃.rel (E.h1 loc₃ e l1) (fun s₄ n₄ => ?_) rfl
    cases e with
    | true =>
      have el : escs i true (c :: cs) = (i, ⟨#[92, c]⟩) :: escs (i + 1) false cs := by simp [escs]
      rw [el] at hit ⊢
      obtain ⟨y1, y2⟩ := yl hit
      rw [if_pos rfl, List.length_cons]
      refine seg_yld C n₄.rel (E.e1 loc₃ i c l3 l2) rfl rfl rfl rfl (fun v' s₅ n₅ rv kap hkap => ?_) hco hint
      refine ⟨⟨_, y1, rv⟩, n₅.rel.ns, ((g₃.trans (GS.nx n₄)).trans (GS.nx n₅)), fun s'' hs => hkap s'' ?_⟩
      obtain ⟨R6, st6⟩ := wake hs pl₃ n₅.rel (stn n₅ (stn n₄ st₃))
      refine seg_ex C R6 (E.a1 loc₃) (fun s₇ n₇ => ?_) rfl
      refine again _ false s'' s₇ _ (pl₃.set _ _) (by rw [setL_lookup, if_pos rfl]) (by rw [setL_lookup, if_neg (by decide)]; exact l3) n₇.rel (stn n₇ st6) (GS.nx n₇) y2
    | false =>
      rw [if_neg (by simp)]
      refine seg_if (b := c == 92) C n₄.rel (E.h2 loc₃ c l2) (fun s₅ n₅ => ?_) rfl
      have g₅ := (g₃.trans (GS.nx n₄)).trans (GS.nx n₅)
      have st₅ := stn n₅ (stn n₄ st₃)
      cases hc : c == 92 with
      | true =>
        have el : escs i false (c :: cs) = escs (i + 1) true cs := by simp [escs, hc]
        rw [el] at hit ⊢
        rw [if_pos rfl]
        refine seg_ex C n₅.rel (E.a2 loc₃) (fun s₆ n₆ => ?_) rfl
        exact again _ true s₀ s₆ _ (pl₃.set _ _) (by rw [setL_lookup, if_pos rfl]) (by rw [setL_lookup, if_neg (by decide)]; exact l3) n₆.rel (stn n₆ st₅) (g₅.trans (GS.nx n₆)) hit
      | false =>
        have el : escs i false (c :: cs) = (i, ⟨#[c]⟩) :: escs (i + 1) false cs := by simp [escs, hc]
        rw [el] at hit ⊢
        obtain ⟨y1, y2⟩ := yl hit
        rw [if_neg (by simp), List.length_cons]
        refine seg_yld C n₅.rel (E.e3 loc₃ i c l3 l2) rfl rfl rfl rfl (fun v' s₆ n₆ rv kap hkap => ?_) hco hint
        refine ⟨⟨_, y1, rv⟩, n₆.rel.ns, g₅.trans (GS.nx n₆), fun s'' hs => hkap s'' ?_⟩
        obtain ⟨R6, st6⟩ := wake hs pl₃ n₆.rel (stn n₆ st₅)
        exact again _ false s'' s'' _ pl₃ l1 l3 R6 st6 (GS.refl _) y2
end
end
section
open PySem PySem.W PyProof.Rows PySem.Spec PySem.Calls
section
variable {W : Wd} {G Gg : Fx} {k : Nat} {A : Around} {env envG : Env} {cl : List (PySem.Str × Addr)} {h₀ : Heap} {L Lg : Addr} {scope : Scope} {f : Addr} {qual : PySem.Str} {cdv : Value}

theorem callWith_raw {σ σ₁ σ₂ : St} {ρ : List Addr} {s : Shared} {Q : Value → Shared → Prop} {pos : Pos} {f : Value} {first : List Value} {fx : List MV} {es : List Expr} {ks : List Keyword} {xs : List MV} {kw : List (PySem.Str × MV)}
    (C : Cx W G A env cl h₀ L k) (R : Rel h₀ L cl ρ σ s.heap) (hp : PlainArgs es) (hfx : Fa2 (RV s.heap ρ) fx first) (h1 : Evs W G k es σ xs σ₁) (h2 : Eks W G k ks σ₁ kw σ₂) (hk : Keeps W f)
    (h : ∀ vs kvs s' ρ', Nx h₀ L cl ρ s σ₂ ρ' s' → Fa2 (RV s'.heap ρ') (fx ++ xs) vs → Fa2 (fun p q => p.1 = q.1 ∧ RV s'.heap ρ' p.2 q.2) kw kvs → wpAny W.M A (call f vs kvs) Q (fun _ _ => False) s') : wpAny W.M A (callWith pos f first (backTo pos (starEach es env)) (backToKw pos (keywordEach ks env))) Q (fun _ _ => False) s := by
  refine callWith_of (P := W.K.In) ?_ hk (evalArgs_any hp (h2.1 _ _).1 ?_)
  · rw [hp env, backTo_any, (h2.1 _ _).2.1]; rfl
  refine (h1 pos).run C R fun vs s₁ ρ₁ n₁ r₁ => (h2.2 pos).run C n₁.rel fun kvs s₂ ρ₂ n₂ r₂ => ⟨C.K.keeps n₂.rel.keep₀, ?_⟩
  refine h _ _ s₂ ρ₂ (n₁.trans n₂) ?_ ?_
  · exact (hfx.mono fun _ _ r => r.mono (n₁.trans n₂).tk (n₁.trans n₂).pre).append (r₁.mono fun _ _ r => r.mono n₂.tk n₂.pre)
  · rw [(h2.1 _ _).2.2]
    exact zipKw r₂
theorem call_raw {σ σ₁ σ₂ σ₃ : St} {ρ : List Addr} {s : Shared} {Q : Value → Shared → Prop} {func : Expr} {es : List Expr} {ks : List Keyword} {pos : Pos} {f : Value} {xs : List MV} {kw : List (PySem.Str × MV)} 
    (C : Cx W G A env cl h₀ L k) (R : Rel h₀ L cl ρ σ s.heap) (hf : Ev W G k func σ (.lit f) σ₁) (h1 : Evs W G k es σ₁ xs σ₂) (h2 : Eks W G k ks σ₂ kw σ₃) (hk : Keeps W f) (hp : PlainArgs es)
    (he : ∀ env, eval (.Call func es ks pos) env = (do callWith pos (← eval func env) [] (backTo pos (starEach es env)) (backToKw pos (keywordEach ks env))))
    (h : ∀ vs kvs s' ρ', Nx h₀ L cl ρ s σ₃ ρ' s' → Fa2 (RV s'.heap ρ') xs vs → Fa2 (fun p q => p.1 = q.1 ∧ RV s'.heap ρ' p.2 q.2) kw kvs → wpAny W.M A (call f vs kvs) Q (fun _ _ => False) s') : wpAny W.M A (eval (.Call func es ks pos) env) Q (fun _ _ => False) s := by
  rw [he]
  exact wpAny_bind (hf.run C R fun a s₁ ρ₁ n₁ r => by
    have r : a = f := r
    subst r
    exact callWith_raw C n₁.rel hp (fx := []) .nil h1 h2 hk fun vs kvs s₂ ρ₂ n₂ r₂ => h _ _ _ _ (n₁.trans n₂) r₂)

/-- a generator's environment -/
def gEnv (scope : Scope) (Lg f : Addr) (qual : PySem.Str) (cdv : Value) : Env := newEnv scope Lg mainGlobals [] qual (some f) cdv none builtinsNs
theorem cx_func {body : List Stmt} (C : Cx W G A env cl h₀ L (k + 3)) (hk : scope.kind = .function) : Cx W ⟨scope, false⟩ (A.in1.over (.func body (gEnv scope Lg f qual cdv)) []) (gEnv scope Lg f qual cdv) [] h₀ Lg k := by
  have h1 := C.room
  have h2 := C.units
  refine ⟨rfl, rfl, rfl, rfl, rfl, hk, C.hh, ?_, ?_, C.K, C.top, fun h => by cases h⟩
  · simp only [Around.over, Around.in1]
    show _ + _ + 1 + k < _
    simp [frameCount]; omega
  · show A.units + 1 + 0 + 3 + 8 * k < _
    omega
theorem cx_loop {body : List Stmt} {target : Expr} {it : Value} {lb : List Stmt} {k' : Result → Sem Fin} {l₁ : List Value} {pp : Pos} (C : Cx W G A env cl h₀ L (k + 3)) (hk : scope.kind = .function) :
    Cx W ⟨scope, false⟩ (A.in1.over (.forLoop target it lb [] (gEnv scope Lg f qual cdv)) [.ret k' none false l₁ (.func body (gEnv scope Lg f qual cdv)) pp []]) (gEnv scope Lg f qual cdv) [] h₀ Lg k := by
  have h1 := C.room
  have h2 := C.units
  refine ⟨rfl, rfl, rfl, rfl, rfl, hk, C.hh, ?_, ?_, C.K, C.top, fun h => by cases h⟩
  · show A.depth + (1 + 0) + 0 + k < _
    omega
  · show A.units + 1 + (3 + 0) + 0 + 8 * k < _
    omega

structure EscFn (W : Wd) (G : Fx) (k : Nat) (st1 st2 : Stmt) (func arg t5 e4 : Expr) (es : List Expr) (pos : Pos) : Prop where
  s1 : ∀ loc, Ex W G k st1 ⟨loc, [], []⟩ .next ⟨setL "pos" (.int 0) loc, [], []⟩
  s2 : ∀ loc, Ex W G k st2 ⟨loc, [], []⟩ .next ⟨setL "escape" (.bool false) loc, [], []⟩
  fn : ∀ loc, Ev W G k func ⟨loc, [], []⟩ (.lit (.type "enumerate")) ⟨loc, [], []⟩
  arg : ∀ (loc : List (PySem.Str × MV)) x, loc.lookup ("addr" : PySem.Str) = some (.str x) → Evs W G k es ⟨loc, [], []⟩ [.str x] ⟨loc, [], []⟩
  pl : PlainArgs es
  he : ∀ env, eval (.Call func es [] pos) env = (do callWith pos (← eval func env) [] (backTo pos (starEach es env)) (backToKw pos (keywordEach [] env)))
  t5 : ∀ (loc : List (PySem.Str × MV)) e, loc.lookup ("escape" : PySem.Str) = some (.bool e) → Et W G k t5 ⟨loc, [], []⟩ e ⟨loc, [], []⟩
  e4 : ∀ (loc : List (PySem.Str × MV)) (p : Nat), loc.lookup ("pos" : PySem.Str) = some (.int p) → Ev W G k e4 ⟨loc, [], []⟩ (escV (p, ⟨#[92]⟩)) ⟨loc, [], []⟩
  hs : ∀ env : Env, env.scope = G.sc → ∀ x, foldedSetIterable (.Call func es [] pos) env x = pure x

theorem esc_func {t1 t2 e1 e3 t5 e4 func arg : Expr} {es : List Expr} {a1 a2 st1 st2 : Stmt} {x : PySem.Str} {px pc pt yp1 p1 p2 q1 q2 yp3 yp4 p4 q4 pf cp : Pos} {x1 : Nat} {hb : Heap} (C : Cx W G A env cl h₀ L (k + 3)) (hk : scope.kind = .function) (hco : scope.isCoroutine = false)
    (E : EscOk W ⟨scope, false⟩ k t1 t2 e1 e3 a1 a2) (F : EscFn W ⟨scope, false⟩ k st1 st2 func arg t5 e4 es cp) {s : Shared}
    (R : Rel h₀ Lg [] [] ⟨[("addr", .str x)], [], []⟩ s.heap) (al : ∀ b, hb.get? b ≠ none → s.heap.get? b ≠ none) :
    Seg W.M A.in1 (gEnd hb Lg) (gYield h₀ hb Lg ((escs 0 false x.cps.toList).map escV)) (escs 0 false x.cps.toList).length s
      (.func [st1, st2, .For (.Tuple [.Name "pos" px, .Name "ch" pc] x1 pt) (.Call func es [] cp) [.If t1 [.Expr (.Yield (some e1) yp1) p1, a1] [.If t2 [a2] [.Expr (.Yield (some e3) yp3) p2] q2] q1] [] pf, .If t5 [.Expr (.Yield (some e4) yp4) p4] [] q4] (gEnv scope Lg f qual cdv))
      (W.M.den (.func [st1, st2, .For (.Tuple [.Name "pos" px, .Name "ch" pc] x1 pt) (.Call func es [] cp) [.If t1 [.Expr (.Yield (some e1) yp1) p1, a1] [.If t2 [a2] [.Expr (.Yield (some e3) yp3) p2] q2] q1] [] pf, .If t5 [.Expr (.Yield (some e4) yp4) p4] [] q4] (gEnv scope Lg f qual cdv))) [] s := by
  refine seg_func ?_
  have Cf := fun (body : List Stmt) => cx_func (body := body) (scope := scope) (Lg := Lg) (f := f) (qual := qual) (cdv := cdv) C hk
  refine seg_ex (Cf _) R (F.s1 _) (fun s₁ n₁ => ?_) rfl
  refine seg_ex (Cf _) n₁.rel (F.s2 _) (fun s₂ n₂ => ?_) rfl
  refine seg_For (call_raw (Cf _) n₂.rel (F.fn _) (F.arg _ x (by rfl)) Eks.nil Keeps.type F.pl F.he fun vs kvs s₃ ρ₃ n₃ rv rk => ?_) (F.hs _ rfl)
  have hρ : ρ₃ = [] := List.eq_nil_of_length_eq_zero n₃.rel.len.symm
  subst hρ
  cases rk
  obtain ⟨v, rfl, t, rfl⟩ := rv.un
  have g₃ : GS hb Lg s s₃ := ((GS.nx n₁).trans (GS.nx n₂)).trans (GS.nx n₃)
  have aliveN : ∀ {sa sb : Shared} {τ : St}, Nx h₀ Lg [] [] sa τ [] sb → (∀ b, hb.get? b ≠ none → sa.heap.get? b ≠ none) → ∀ b, hb.get? b ≠ none → sb.heap.get? b ≠ none := by
    intro sa sb τ n h b hbn
    by_cases q : b = Lg
    · subst q
      obtain ⟨m, oL, _, _, hL, _⟩ := n.rel.ns
      rw [hL]; simp
    · cases z : sa.heap.get? b with
      | none => exact absurd z (h b hbn)
      | some o => rw [n.un b o z (by simp) q]; simp
  have al₃ := aliveN n₃ (aliveN n₂ (aliveN n₁ al))
  refine call_enumerate_str fun h₄ he hit hsz hk₄ => ?_
  have fr : ∀ b, s₃.heap.objs.size ≤ b → s₃.heap.get? b = none := fun b hb => Heap.get?_none_of_le hb
  have fb : ∀ b, s₃.heap.objs.size ≤ b → hb.get? b = none := fun b hb' => by
    cases z : hb.get? b with
    | none => rfl
    | some o => exact absurd (fr b hb') (al₃ b (by rw [z]; simp))
  have f0 : ∀ b, s₃.heap.objs.size ≤ b → h₀.get? b = none := fun b hb' => by
    cases z : h₀.get? b with
    | none => rfl
    | some o => have := n₃.rel.keep₀ b o z; rw [fr b hb'] at this; cases this
  have fL : ∀ b, s₃.heap.objs.size ≤ b → Lg ≠ b := fun b hb' q => by
    obtain ⟨m, oL, _, _, hL, _⟩ := n₃.rel.ns
    rw [q, fr b hb'] at hL; cases hL
  have n₄ := Nx.kept n₃.rel (t := s₃.toks) hk₄
  refine wpAny_pyIter_enum he ?_
  rintro p fr' ⟨k', rfl, hk'⟩
  refine esc_loop (A := A.in1) (x := x) (t := t) (hb := hb) E (fb _ (Nat.le_succ _)) (fb _ (Nat.le_refl _)) (Nat.succ_ne_self _) (fL _ (Nat.le_succ _)) (fL _ (Nat.le_refl _)) (f0 _ (Nat.le_succ _)) (f0 _ (Nat.le_refl _)) hco (by unfold interactive; show (scope.kind == _ && _) = false; rw [hk]; rfl) (cx_loop C hk) ?_
    x.cps.toList 0 false s _ _ rfl (Nat.zero_le _) (fun h => by cases h) ?_ ?_ (fun h => absurd h (Nat.lt_irrefl _)) n₄.rel ⟨⟨_, he⟩, hit⟩ (g₃.trans (GS.nx n₄)) ?_
  · intro s₀ s₅ loc e hpos hpl hle hlp R₅ g₅ hit₅
    rw [hk']
    refine seg_if (b := e) (Cf _) R₅ (F.t5 loc e hle) (fun s₆ n₆ => ?_) rfl
    cases e with
    | false =>
      rw [if_neg (by simp)]
      exact seg_end (.ok (.ret .none)) ⟨rfl, rfl, g₅.trans (GS.nx n₆)⟩
    | true =>
      rw [if_pos rfl]
      have hp := hlp (hpos rfl)
      have el : escs x.cps.size true [] = [(x.cps.size - 1, ⟨#[92]⟩)] := rfl
      rw [el] at hit₅ ⊢
      refine seg_yld (Cf _) n₆.rel (F.e4 loc _ hp) rfl rfl rfl rfl (fun v' s₇ n₇ rv kap hkap => ?_) hco (by unfold interactive; show (scope.kind == _ && _) = false; rw [hk]; rfl)
      refine ⟨⟨_, ?_, rv⟩, n₇.rel.ns, (g₅.trans (GS.nx n₆)).trans (GS.nx n₇), fun s'' hs => hkap s'' ?_⟩
      · have := (drop_cons hit₅.symm).1
        rw [← this]; congr 1
      · exact seg_end (.ok (.ret .none)) ⟨rfl, rfl, GS.refl _⟩
  · exact PlainLoc.set (PlainLoc.set (fun y v e => by
      rw [List.lookup_cons] at e
      split at e
      · cases e; exact ⟨_, rfl⟩
      · cases e) _ _) _ _
  · rw [setL_lookup, if_pos rfl]
  · simp

theorem Mx.gen {ρ₀ ρ : List Addr} {s₀ s₁ : Shared} {σ : St} {h' : Heap} {gs : GenState} {t : Nat} (n : Nx h₀ L cl ρ₀ s₀ σ ρ s₁) {σ' : St} (R₀ : Rel h₀ L cl ρ₀ σ' s₀.heap) (hk : ∀ b o, s₁.heap.get? b = some o → h'.get? b = some o) :
    Mx h₀ L cl ρ₀ s₀ σ ρ { s₁ with heap := h', gens := s₁.gens.push gs, toks := t } (some s₁.gens.size) := by
  refine ⟨n.pre, n.rel.keep hk, ⟨n.gx.os, Nat.le_trans n.gx.size (by simp), fun i hi => ?_, fun i x hi hn e => ?_⟩, fun a o items m e c d => hk _ _ (n.tk a o items m e c d), fun b o e h1 h2 => hk _ _ (n.un b o e h1 h2), n.fresh, R₀.keep₀⟩
  · rw [← n.gx.old i hi]
    show (s₁.gens.push gs)[i]? = _
    rw [Array.getElem?_push, if_neg (Nat.ne_of_lt (Nat.lt_of_lt_of_le hi n.gx.size))]
  · have hne : i ≠ s₁.gens.size := fun q => hn (by rw [q])
    have e : (s₁.gens.push gs)[i]? = some x := e
    rw [Array.getElem?_push, if_neg hne] at e
    exact n.gx.new i x hi e

def GenJ (W : Wd) (A : Around) (h₀ : Heap) (a Lg : Addr) (g : Nat) (hb : Heap) (items : List MV) (xs : List MV) (ρ : List Addr) (s : Shared) : Prop :=
  ∃ gs, s.gens[g]? = some gs ∧ s.heap.IsGen a g ∧ a ∉ ρ ∧ Lg ∉ ρ ∧ (∃ m, s.heap.Ns Lg m) ∧ xs = items.drop (items.length - xs.length) ∧
    ∀ s'', Stab h₀ hb Lg s s'' → (∀ b, hb.get? b ≠ none → s''.heap.get? b ≠ none) → gs.Goes W.M A.in1 (gEnd hb Lg) (gYield h₀ hb Lg items) xs.length (.send .none) s''

theorem itr_gen {σ₀ : St} {ρ₀ : List Addr} {s₀ : Shared} {a Lg : Addr} {g : Nat} {items : List MV} (C : Cx W G A env cl h₀ L (k + 3)) (R₀ : Rel h₀ L cl ρ₀ σ₀ s₀.heap) (hg : s₀.gens.size ≤ g) (ha : s₀.heap.get? a = none) (hL : s₀.heap.get? Lg = none) (haL : a ≠ L) (hLL : Lg ≠ L) (haLg : a ≠ Lg)
    (hpl : ∀ x ∈ items, ∃ vs, x = .tup vs) : Itr W A h₀ L cl (.ref a) (some g) s₀ (fun _ => True) (fun _ => True) (GenJ W A h₀ a Lg g s₀.heap items) := by
  have h00 : ∀ b o, h₀.get? b = some o → s₀.heap.get? b = some o := R₀.keep₀
  have hLg0 : h₀.get? Lg = none := by
    cases z : h₀.get? Lg with
    | none => rfl
    | some o => have := h00 _ _ z; rw [hL] at this; cases this
  have notOwn0 : ∀ b o, h₀.get? b ≠ none → ¬ Own s₀.heap Lg b o := fun b o hz h => by
    rcases h with rfl | ⟨h, _⟩
    · exact hz hLg0
    · cases z : h₀.get? b with
      | none => exact hz z
      | some o' => rw [h00 _ _ z] at h; cases h
  have notOwnR : ∀ {ρ : List Addr} {σ : St} {s : Shared} {C' : Addr} {cl' : List (PySem.Str × Addr)}, Rel h₀ C' cl' ρ σ s.heap → Lg ∉ ρ → ∀ b o, b ∈ ρ → s.heap.get? b = some o → ¬ Own s₀.heap Lg b o := by
    intro ρ σ s C' cl' R hLρ b o hb e h
    rcases h with rfl | ⟨_, n, vs, h1, h2, h3⟩
    · exact hLρ hb
    · obtain ⟨i, hi, e'⟩ := List.getElem_of_mem hb
      have hs : i < σ.st.length := by rw [R.len]; exact hi
      obtain ⟨a', o', ha', ho, r, _⟩ := R.obj (List.getElem?_eq_getElem hs)
      have : a' = b := by rw [List.getElem?_eq_getElem hi] at ha'; rw [← e']; exact (Option.some.inj ha').symm
      subst this
      rw [ho] at e; cases e
      generalize σ.st[i] = mo at r
      cases mo with
      | list vs => obtain ⟨its, m, rfl, _⟩ := r; cases h2
      | inst C d => obtain ⟨a, _, rfl⟩ := r; cases h1
      | dict kv => obtain ⟨es, n, rfl, _⟩ := r; cases h2
      | cell v => obtain ⟨v', e, _⟩ := r; rw [e] at h2; cases h2
  have notOwnL : ∀ {ρ : List Addr} {σ : St} {s : Shared} {C' : Addr} {cl' : List (PySem.Str × Addr)}, Rel h₀ C' cl' ρ σ s.heap → C' ≠ Lg → ∀ o, s.heap.get? C' = some o → ¬ Own s₀.heap Lg C' o := by
    intro ρ σ s C' cl' R hne o e h
    rcases h with rfl | ⟨_, n, vs, h1, h2, h3⟩
    · exact hne rfl
    · obtain ⟨m, oL, es, ep, hL, hd, _⟩ := R.ns
      rw [hL] at e; cases e; rw [hd] at h2; cases h2
  have notOwnG : ∀ {s : Shared} o, s.heap.IsGen a g → s.heap.get? a = some o → ¬ Own s₀.heap Lg a o := by
    rintro s o ⟨o', nm, qn, ho, hc, hd, _⟩ e h
    rw [ho] at e; cases e
    rcases h with h | ⟨_, n, vs, h1, h2, h3⟩
    · exact haLg h
    · rw [hc] at h1; cases h1
      rcases h3 with h | h | h <;> exact absurd h (by decide)
  have notOwnS : ∀ b o, s₀.heap.get? b ≠ none → ¬ Own s₀.heap Lg b o := fun b o hz h => by
    rcases h with rfl | ⟨h, _⟩
    · exact hz hL
    · exact hz h
  have notOwnT : ∀ {s : Shared} b o items m, o.cls = .type "tuple" → o.data = .seq items m → b ≠ Lg → ¬ Own s₀.heap Lg b o := by
    intro s b o items m c d hne h
    rcases h with rfl | ⟨_, n, vs, h1, h2, h3⟩
    · exact hne rfl
    · rw [d] at h2; cases h2
  have stab0 : ∀ {ρ : List Addr} {σ : St} {s : Shared} {C' : Addr} {cl' : List (PySem.Str × Addr)} {x : GenState}, Rel h₀ C' cl' ρ σ s.heap → Stab h₀ s₀.heap Lg s (s.setGen g x) := fun R => ⟨fun b o e _ => e, R.keep₀⟩
  have lt : ∀ {s : Shared} {gs : GenState}, s.gens[g]? = some gs → g < s.gens.size := fun h => (Array.getElem?_eq_some_iff.mp h).1
  have set_ne : ∀ (s : Shared) (x : GenState) (i : Nat), i ≠ g → (s.setGen g x).gens[i]? = s.gens[i]? := fun s x i h => (GenOnly.setGen s g x).2 i h
  have sd : ∀ {ρ : List Addr} {σ : St} {s s₁ : Shared} {gs x : GenState} {h' : Heap}, s.gens[g]? = some gs → Rel h₀ L cl ρ σ s.heap → Lg ∉ ρ → (∃ o, s.heap.get? Lg = some o ∧ NoTup o) → GS s₀.heap Lg (s.setGen g .running) s₁ → (∀ b o, s₁.heap.get? b = some o → h'.get? b = some o) →
      Sd (fun _ => True) L ρ s₀ (some g) s { s₁.setGen g x with heap := h' } := by
    intro ρ σ s s₁ gs x h' hgs R hLρ hLd gsn hk
    refine ⟨gsn.gx.os, ?_, fun i hi hn => ?_, fun i e => ?_, fun i y hi e => ?_, fun b o e q => hk _ _ (gsn.keep b o e ?_), fun b o items m e c d => hk _ _ (gsn.keep b o e (notOwnT (s := s) b o items m c d fun q => ?_))⟩
    · have h1 := gsn.gx.size
      have h2 : (s.setGen g .running).gens.size = s.gens.size := (GenOnly.setGen s g _).1
      have h3 : (s₁.setGen g x).gens.size = s₁.gens.size := (GenOnly.setGen s₁ g _).1
      show s.gens.size ≤ (s₁.setGen g x).gens.size
      omega
    · have hne : i ≠ g := fun q => hn (by rw [q])
      show (s₁.setGen g x).gens[i]? = _
      rw [set_ne _ _ _ hne, gsn.gx.old i (by rw [show (s.setGen g GenState.running).gens.size = s.gens.size from (GenOnly.setGen s g _).1]; exact hi), set_ne _ _ _ hne]
    · cases e; exact ⟨hg, lt hgs⟩
    · have hne : i ≠ g := fun q => by have := lt hgs; omega
      have e : (s₁.setGen g x).gens[i]? = some y := e
      rw [set_ne _ _ _ hne] at e
      exact gsn.gx.new i y (by rw [show (s.setGen g GenState.running).gens.size = s.gens.size from (GenOnly.setGen s g _).1]; exact hi) e
    · rcases q with q | q | q | q
      · exact notOwnR R hLρ b o q e
      · subst q; exact notOwnL R hLL.symm o e
      · exact notOwnS b o q
      · exact absurd trivial q
    · subst q
      obtain ⟨o', e', nt⟩ := hLd
      rw [e'] at e; cases e
      exact nt _ _ c d
  have noTupNs : ∀ {h : Heap} {m : PySem.Str → Option Value}, h.Ns Lg m → ∃ o, h.get? Lg = some o ∧ NoTup o := by
    rintro h m ⟨o, es, ep, ho, hd, _⟩
    exact ⟨o, ho, fun its n c d => by rw [hd] at d; cases d⟩
  constructor
  · rintro xs ρ s ρ' s' C' cl' τ ⟨gs, hgs, hgen, h1, h2, ⟨m, hm⟩, h3, h4⟩ R sy hX
    have hC : C' = L := hX.resolve_right fun h => h trivial
    subst hC
    obtain ⟨oa, nm, qn, hoa, ra⟩ := hgen
    obtain ⟨oL, es, ep, hoL, rL⟩ := hm
    refine ⟨gs, ?_, ⟨oa, nm, qn, sy.un _ _ hoa h1 haL, ra⟩, sy.off _ _ hoa h1, sy.off _ _ hoL h2, ⟨m, oL, es, ep, sy.un _ _ hoL h2 hLL, rL⟩, h3, fun s'' st al => h4 s'' ⟨fun b o e hown => ?_, st.2⟩ al⟩
    · rw [sy.old g (lt hgs)]; exact hgs
    · refine st.1 b o (sy.un b o e (fun q => notOwnR R h2 b o q e hown) fun q => ?_) hown
      subst q
      exact notOwnL R hLL.symm o e hown
  · rintro xs ρ s ⟨gs, hgs, _⟩ i e
    cases e
    exact lt hgs
  · rintro x xs ρ s σ E Q ⟨gs, hgs, hgen, h1, h2, ⟨m, hm⟩, h3, h4⟩ R al _ hq
    have hx : ∃ vs, x = .tup vs := by
      have hm' : x ∈ x :: xs := List.mem_cons_self
      rw [h3] at hm'
      exact hpl x (List.mem_of_mem_drop hm')
    refine wpAny_pyNext_gen (P := fun n s₀' s₁ => n = 0 ∧ GS s₀.heap Lg s₀' s₁) C.hh ((C.top.choose_spec.choose_spec.choose_spec).nolimit.keeps R.keep₀) (by have := C.room; omega) hgen hgs (h4 _ (stab0 R) (fun b hb => al b hb)) (fun v s₁ gs' hY => ?_) (fun s₁ hP => ?_)
    · obtain ⟨⟨x', hx', rv⟩, hns, gsn, hgo⟩ := hY
      have e1 : items[items.length - 1 - xs.length]? = some x := by
        have := (drop_cons h3).1
        rw [← this]; congr 1; simp; omega
      have hxx : x' = x := by
        have hx' : items[items.length - 1 - xs.length]? = some x' := by simpa using hx'
        rw [e1] at hx'; exact (Option.some.inj hx').symm
      subst hxx
      have S := sd (x := gs') (h' := s₁.heap) hgs R h2 (noTupNs hm) gsn (fun _ _ e => e)
      have hlen : g < s₁.gens.size := by
        have := gsn.gx.size
        have h2 : (s.setGen g .running).gens.size = s.gens.size := (GenOnly.setGen s g _).1
        have := lt hgs
        omega
      obtain ⟨oa, nm, qn, hoa, ra⟩ := id hgen
      refine hq v (s₁.setGen g gs') S (rv.mono (TupKeep.refl _) (List.nil_prefix)) ⟨gs', ?_, ⟨oa, nm, qn, gsn.keep a oa hoa (notOwnG (s := s) oa hgen hoa), ra⟩, h1, h2, hns, ?_, fun s'' st al' => ?_⟩
      · show (s₁.gens.setIfInBounds g gs')[g]? = _
        simp [hlen]
      · have := (drop_cons h3).2
        rw [this]; congr 1
        have hl := congrArg List.length h3
        simp at hl ⊢
        omega
      · exact hgo s'' st
    · exact absurd hP.1 (by simp)
  · rintro ρ s σ E Q ⟨gs, hgs, hgen, h1, h2, ⟨m, hm⟩, h3, h4⟩ R al _ hq
    refine wpAny_pyNext_gen (n := 0) (P := fun n s₀' s₁ => n = 0 ∧ GS s₀.heap Lg s₀' s₁) C.hh ((C.top.choose_spec.choose_spec.choose_spec).nolimit.keeps R.keep₀) (by have := C.room; omega) hgen hgs (h4 _ (stab0 R) (fun b hb => al b hb)) (fun v s₁ gs' hY => ?_) (fun s₁ hP h' hk => ?_)
    · obtain ⟨_, _, gsn, hgo⟩ := hY
      refine (hgo s₁ ⟨fun _ _ e _ => e, fun b o e => gsn.keep b o (R.keep₀ b o e) (notOwn0 b o (by rw [e]; simp))⟩).elim
    · have S := sd (x := .finished) (h' := h') hgs R h2 (noTupNs hm) hP.2 hk
      refine hq _ S fun i e => ?_
      cases e
      have hlen : g < s₁.gens.size := by
        have := hP.2.gx.size
        have h2 : (s.setGen g .running).gens.size = s.gens.size := (GenOnly.setGen s g _).1
        have := lt hgs
        omega
      show (s₁.gens.setIfInBounds g .finished)[g]? = _
      simp [hlen]
  · intro xs ρ s E Q h
    cases h
  · rintro xs ρ s E target v Q ⟨gs, hgs, ⟨oa, nm, qn, hoa, hc, hd, _⟩, _⟩ hq
    exact go_list hoa hc hd (by decide) hq

theorem Ie.gen {σ σ₁ σ₂ : St} {t1 t2 e1 e3 t5 e4 func arg fn : Expr} {es es' : List Expr} {a1 a2 st1 st2 : Stmt} {x : PySem.Str} {px pc pt yp1 p1 p2 q1 q2 yp3 yp4 p4 q4 pf cp pos : Pos} {x1 : Nat} {oc : Value} {od : Option Addr} {osl : Array (Option Value)} {name : PySem.Str} {params : Arguments} {dV kV doc pm ct : Value} {an : Option Addr}
    (hK : W.K.lookup f = some ⟨oc, od, .func (fnX name qual params [st1, st2, .For (.Tuple [.Name "pos" px, .Name "ch" pc] x1 pt) (.Call func es [] cp) [.If t1 [.Expr (.Yield (some e1) yp1) p1, a1] [.If t2 [a2] [.Expr (.Yield (some e3) yp3) p2] q2] q1] [] pf, .If t5 [.Expr (.Yield (some e4) yp4) p4] [] q4] scope [] dV kV doc pm an cdv ct), osl⟩) (hcd : codeIn W.K cdv qual = true)
    (hb : Binds W (fnX name qual params [st1, st2, .For (.Tuple [.Name "pos" px, .Name "ch" pc] x1 pt) (.Call func es [] cp) [.If t1 [.Expr (.Yield (some e1) yp1) p1, a1] [.If t2 [a2] [.Expr (.Yield (some e3) yp3) p2] q2] q1] [] pf, .If t5 [.Expr (.Yield (some e4) yp4) p4] [] q4] scope [] dV kV doc pm an cdv ct) [.str x] [] [("addr", .str x)])
    (hloc : scope.names.lookup ("addr" : PySem.Str) = some .local)
    (hf : Ev W G (k + 3) fn σ (.lit (.ref f)) σ₁) (h1 : Evs W G (k + 3) es' σ₁ [.str x] σ₂) (hkp : Keeps W (.ref f)) (hp : PlainArgs es') (he : ∀ env, eval (.Call fn es' [] pos) env = (do callWith pos (← eval fn env) [] (backTo pos (starEach es' env)) (backToKw pos (keywordEach [] env))))
    (E : EscOk W ⟨scope, false⟩ k t1 t2 e1 e3 a1 a2) (F : EscFn W ⟨scope, false⟩ k st1 st2 func arg t5 e4 es cp)
    (hco : scope.isCoroutine = false := by rfl) (hgen : scope.isGenerator = true := by rfl) (hk : scope.kind = .function := by rfl) (hcell : (scope.names.all fun x => !(x.2 == .cell)) = true := by rfl) :
    Ie W G (k + 3) (.Call fn es' [] pos) σ ((escs 0 false x.cps.toList).map escV) true (fun _ => True) σ₂ := by
  constructor
  intro A env cl h₀ L ρ₀ s₀ Q C R hQ
  refine call_raw C R hf h1 Eks.nil hkp hp he fun vs kvs s₁ ρ₁ n₁ rv rk => ?_
  have hkin : W.K.In s₁.heap := C.K.keeps n₁.rel.keep₀
  obtain ⟨mean, mg, mb, T⟩ := C.top
  have hcell : ∀ x ∈ scope.names, x.2 ≠ .cell := fun x hx => by simpa using List.all_eq_true.mp hcell x hx
  obtain ⟨bs', hbt, hbr⟩ := hb s₁ ρ₁ vs kvs hkin rv rk
  have hbs : ∃ v, bs' = [(("addr" : PySem.Str), v)] ∧ RV s₁.heap ρ₁ (.str x) v := by
    obtain ⟨p, rfl, h2⟩ := hbr.un
    obtain ⟨n, v⟩ := p
    obtain ⟨h3, h4⟩ := h2
    dsimp only at h3
    subst h3
    exact ⟨v, rfl, h4⟩
  obtain ⟨va, rfl, rva⟩ := hbs
  refine wpAny_call (codeAny_call_generator (fd := fnX name qual params _ scope [] dV kV doc pm an cdv ct) (by have := C.room; omega) (hkin _ _ hK) rfl hco hgen rfl (codeRec_of hkin hcd) (hbt _ _ _ _ ?_))
  refine wpAny_newFunctionEnv hcell (fun y hy => by rw [List.mem_singleton.mp hy]; exact hloc) (fun h₂ hns hsb => ?_) hk
  have hk₂ : ∀ b o, s₁.heap.get? b = some o → h₂.get? b = some o := fun b o e => hsb.extBut b o (Nat.ne_of_lt (Heap.lt_size e)) (Heap.get?_push_of_some _ e)
  refine ⟨T.nolimit.keeps fun b o e => hk₂ _ _ (n₁.rel.keep₀ b o e), ?_⟩
  have hL1 : s₁.heap.get? s₁.heap.objs.size = none := hnone _
  have ha1 : h₂.get? h₂.objs.size = none := hnone _
  have al := (n₁.open R).alive
  have fr0 : ∀ b, s₁.heap.get? b = none → s₀.heap.get? b = none := fun b h => by
    cases z : s₀.heap.get? b with
    | none => rfl
    | some o => exact absurd h (al b (by rw [z]; simp))
  have fr1 : ∀ b, h₂.get? b = none → s₁.heap.get? b = none := fun b h => by
    cases z : s₁.heap.get? b with
    | none => rfl
    | some o => have := hk₂ _ _ z; rw [h] at this; cases this
  have frρ : ∀ b, s₁.heap.get? b = none → b ∉ ρ₁ := fun b h q => by
    obtain ⟨o, e, _⟩ := n₁.rel.low q
    rw [h] at e; cases e
  have frL : ∀ b, s₁.heap.get? b = none → b ≠ L := fun b h q => by
    obtain ⟨m, oL, _, _, hL, _⟩ := n₁.rel.ns
    rw [q, hL] at h; cases h
  have haLg : h₂.objs.size ≠ s₁.heap.objs.size := fun q => by
    obtain ⟨o, _, _, ho, _⟩ := id hns
    rw [← q, ha1] at ho; cases ho
  have hk₃ : ∀ (o : Obj) b o', s₁.heap.get? b = some o' → (h₂.push o).get? b = some o' := fun o b o' e => Heap.get?_push_of_some _ (hk₂ _ _ e)
  have m := fun (o : Obj) (gs : GenState) (t : Nat) => Mx.gen (h' := h₂.push o) (gs := gs) (t := t) n₁ R (hk₃ o)
  have hLs : h₀.objs.size ≤ s₁.heap.objs.size := by
    obtain ⟨m, oL, _, _, hL, _⟩ := n₁.rel.ns
    exact Nat.le_of_lt (Nat.lt_of_le_of_lt n₁.rel.above (Heap.lt_size hL))
  refine wpAny_pyIter_gen (g := s₁.gens.size) ⟨_, _, _, Heap.get?_push_size _ rfl, rfl, rfl, rfl⟩ ?_
  refine hQ _ _ ρ₁ (some s₁.gens.size) (fun _ => True) _ (fun h => by cases h) (itr_gen (Lg := s₁.heap.objs.size) (a := h₂.objs.size) (items := (escs 0 false x.cps.toList).map escV) C R n₁.gx.size (fr0 _ (fr1 _ ha1)) (fr0 _ hL1) (frL _ (fr1 _ ha1)) (frL _ hL1) haLg (fun y hy => ?_)) ?_ (m _ _ _)
  · obtain ⟨p, _, rfl⟩ := List.mem_map.mp hy
    exact ⟨_, rfl⟩
  · refine ⟨_, Array.getElem?_push_size .., ⟨_, _, _, Heap.get?_push_size _ rfl, rfl, rfl, rfl⟩, frρ _ (fr1 _ ha1), frρ _ hL1, ⟨_, hns.push _⟩, ?_, fun s'' st al'' => ⟨rfl, ?_⟩⟩
    · simp
    · rw [List.length_map]
      obtain ⟨oL, es', ep, hoL, hdL, rL⟩ := hns
      have hoL' := st.1 _ _ (Heap.get?_push_of_some (h := h₂) _ hoL) (.inl rfl)
      refine esc_func (hb := s₀.heap) (Lg := s₁.heap.objs.size) C hk hco E F ⟨⟨_, [], ⟨⟨oL, es', ep, hoL', hdL, rL⟩, st.2, hLs⟩, fun p hp => by simp at hp, rfl, .nil, fun y v e => ?_⟩, List.nodup_nil, fun y i e => by cases e⟩ al''
      rw [List.lookup_cons] at e
      split at e
      · rename_i q
        cases e
        have : y = "addr" := eq_of_beq q
        subst this
        exact ⟨va, rfl, rva⟩
      · cases e
end
end
section
open PySem PySem.W PyProof.Rows PySem.Spec PySem.Calls

/-! every other object of the heap, as a ledger -/
def allNews (h₀ h : Heap) (L : Addr) (out : List Addr) : List (Addr × Obj) := (List.range h.objs.size).filterMap fun b => if b = L ∨ b ∈ out ∨ (h₀.get? b).isSome then none else (h.get? b).map fun o => (b, o)
theorem allNews_mem {h₀ h : Heap} {L : Addr} {out : List Addr} {p : Addr × Obj} : p ∈ allNews h₀ h L out ↔ h.get? p.1 = some p.2 ∧ p.1 ≠ L ∧ p.1 ∉ out ∧ h₀.get? p.1 = none := by
  unfold allNews
  rw [List.mem_filterMap]
  constructor
  · rintro ⟨b, hb, e⟩
    split at e
    · cases e
    · rename_i hn
      cases q : h.get? b with
      | none => rw [q] at e; cases e
      | some o =>
        rw [q] at e; cases e
        refine ⟨q, fun h => hn (.inl h), fun h => hn (.inr (.inl h)), ?_⟩
        cases z : h₀.get? b with
        | none => rfl
        | some o' => exact absurd (.inr (.inr (by rw [z]; rfl))) hn
  · rintro ⟨h1, h2, h3, h4⟩
    refine ⟨p.1, List.mem_range.mpr (Heap.lt_size h1), ?_⟩
    rw [if_neg (by rw [h4]; simp [h2, h3]), h1]
    rfl
theorem News.all {h₀ h : Heap} {L : Addr} {out : List Addr} : News h₀ L h (allNews h₀ h L out) := fun p hp => by
  obtain ⟨a, b, _, d⟩ := allNews_mem.mp hp
  exact ⟨a, b, d⟩
theorem keep_all {h₀ h h' : Heap} {L : Addr} {out : List Addr} {m m' : PySem.Str → Option Value} {rest : List (Addr × Obj)} (F : Fr h₀ L h m) (F' : Fr h₀ L h' m') (N : News h₀ L h' rest) (hs : ∀ p ∈ allNews h₀ h L out, p ∈ rest) : ∀ b o, b ≠ L → b ∉ out → h.get? b = some o → h'.get? b = some o := by
  intro b o h1 h2 e
  cases q : h₀.get? b with
  | none => exact (N (b, o) (hs _ (allNews_mem.mpr ⟨e, h1, h2, q⟩))).1
  | some o' => have := F.keep _ _ q; rw [e] at this; cases this; exact F'.keep _ _ q

section
variable {h₀ h h' : Heap} {L : Addr} {cl : List (PySem.Str × Addr)} {ρ : List Addr} {σ : St} {s : Shared}
/-- one object turned, the frame's names the same (the object that bears them may be another) -/
theorem Rel.updN {m : PySem.Str → Option Value} (R : Rel h₀ L cl ρ σ h) (hm : h.Ns L m) {i : Nat} {a : Addr} {o' : Obj} {x' : MO} (ha : ρ[i]? = some a) (hi : i < σ.st.length) (F' : Fr h₀ L h' m) (k : ∀ b o, b ≠ L → b ≠ a → h.get? b = some o → h'.get? b = some o) (e' : h'.get? a = some o')
    (r' : RO h' ρ x' o') : Rel h₀ L cl ρ { σ with st := σ.st.set i x' } h' := by
  have hlow := R.low (List.mem_of_getElem? ha)
  have hLn : ∃ o, h.get? L = some o ∧ NoTup o := by
    obtain ⟨o, es, ep, ho, hd, _⟩ := hm
    exact ⟨o, ho, fun its n c d => by rw [hd] at d; cases d⟩
  obtain ⟨⟨m', objs, F, N, el, f, l⟩, nd, ce⟩ := R
  have : m' = m := by
    obtain ⟨o, es, ep, a1, a2, _, a3⟩ := hm
    obtain ⟨o', es', ep', b1, b2, _, b3⟩ := F.ns
    rw [a1] at b1; cases b1
    rw [a2] at b2; cases b2
    funext y; rw [← b3, a3]
  subst this
  obtain ⟨o, ho, nt, nL, n0⟩ := hlow
  have tk : TupKeep h h' := fun b ob _ _ e c d => by
    by_cases q : b = a
    · subst q; rw [ho] at e; cases e; exact (nt _ _ c d).elim
    · by_cases q' : b = L
      · subst q'
        obtain ⟨oL, hL, ntL⟩ := hLn
        rw [hL] at e; cases e; exact (ntL _ _ c d).elim
      · exact k b ob q' q e
  refine ⟨⟨m', objs.set i o', F', ?_, by rw [List.length_set, el], ?_, fun x v e => ?_⟩, nd, ce⟩
  · intro p hp
    obtain ⟨j, hj, e⟩ := List.getElem_of_mem hp
    have e2 : (ρ.zip (objs.set i o'))[j]? = some p := by rw [List.getElem?_eq_getElem hj, e]
    rw [List.getElem?_zip_eq_some] at e2
    obtain ⟨e3, e4⟩ := e2
    by_cases q : i = j
    · subst q
      rw [ha] at e3
      have : p.1 = a := (Option.some.inj e3).symm
      rw [this]
      rw [List.getElem?_set_self (by rw [el]; exact (List.getElem?_eq_some_iff.mp ha).1)] at e4
      rw [← Option.some.inj e4]
      exact ⟨e', nL, n0⟩
    · rw [List.getElem?_set_ne q] at e4
      have z := N p (zip_mem e3 e4)
      refine ⟨k _ _ z.2.1 (fun w => q ?_) z.1, z.2⟩
      have h1 := List.getElem?_eq_some_iff.mp ha
      exact (List.getElem?_inj h1.1 nd).mp (by rw [ha, e3, w])
  · exact Fa2.set (f.mono fun _ _ r => r.mono tk (List.prefix_refl _)) r'
  · obtain ⟨v', b, c⟩ := l x v e; exact ⟨v', b, c.mono tk (List.prefix_refl _)⟩

theorem getL_of {kv : List (PySem.Str × MV)} {es : List DictEntry} (f : Fa2 (fun (p : PySem.Str × MV) (e : DictEntry) => (∃ t, e.key = .str p.1 t) ∧ RV h ρ p.2 e.val) kv es) (name : PySem.Str) :
    (∀ v, kv.lookup name = some v → ∃ v', getL name es = some (some v') ∧ RV h ρ v v') ∧ (kv.lookup name = none → getL name es = some none) := by
  have nr : ∀ {kv : List (PySem.Str × MV)} {es : List DictEntry}, Fa2 (fun (p : PySem.Str × MV) (e : DictEntry) => (∃ t, e.key = .str p.1 t) ∧ RV h ρ p.2 e.val) kv es → es.any (·.refKey) = false := by
    intro kv es f
    induction f with
    | nil => rfl
    | cons r _ ih =>
      obtain ⟨⟨t, hk⟩, _⟩ := r
      rw [List.any_cons, ih]
      unfold DictEntry.refKey
      rw [hk]; rfl
  have key : ∀ {kv : List (PySem.Str × MV)} {es : List DictEntry}, Fa2 (fun (p : PySem.Str × MV) (e : DictEntry) => (∃ t, e.key = .str p.1 t) ∧ RV h ρ p.2 e.val) kv es →
      (∀ v, kv.lookup name = some v → ∃ e, es.find? (·.key.isStr name) = some e ∧ RV h ρ v e.val) ∧ (kv.lookup name = none → es.find? (·.key.isStr name) = none) := by
    intro kv es f
    induction f with
    | nil => exact ⟨fun v e => by (cases e), fun _ => rfl⟩
    | @cons a e l m r _ ih =>
      obtain ⟨n, u⟩ := a
      obtain ⟨⟨t, hk⟩, rv⟩ := r
      rw [List.lookup_cons, List.find?_cons]
      have : e.key.isStr name = (n == name) := by rw [hk]; rfl
      rw [this]
      by_cases q : name = n
      · subst q
        simp only [beq_self_eq_true]
        exact ⟨fun v e' => by cases e'; exact ⟨e, rfl, rv⟩, fun e' => by cases e'⟩
      · have q1 : (name == n) = false := beq_eq_false_iff_ne.mpr q
        have q2 : (n == name) = false := beq_eq_false_iff_ne.mpr (Ne.symm q)
        rw [q1, q2]
        exact ih
  obtain ⟨k1, k2⟩ := key f
  unfold getL
  refine ⟨fun v e => ?_, fun e => ?_⟩
  · obtain ⟨e', h1, h2⟩ := k1 v e
    rw [h1]; exact ⟨_, rfl, h2⟩
  · rw [k2 e, nr f]; rfl

theorem Rel.inst (R : Rel h₀ L cl ρ σ h) {i d : Nat} {C : Addr} {kv : List (PySem.Str × MV)} (hi : σ.st[i]? = some (.inst C d)) (hd : σ.st[d]? = some (.dict kv)) {v : Value} (r : RV h ρ (.ref i) v) :
    ∃ x a es n, v = .ref x ∧ ρ[i]? = some x ∧ ρ[d]? = some a ∧ h.get? x = some (instObj C a) ∧ h.get? a = some (dictOf es n) ∧ InstAt h x (instObj C a) C (some (dictOf es n)) ∧ Fa2 (fun (p : PySem.Str × MV) (e : DictEntry) => (∃ t, e.key = .str p.1 t) ∧ RV h ρ p.2 e.val) kv es := by
  obtain ⟨x, hx, rfl⟩ := r
  obtain ⟨x', o, hx', ho, ⟨a, ha, rfl⟩, _⟩ := R.obj hi
  obtain ⟨a', o', ha', ho', ⟨es, n, rfl, f⟩, _⟩ := R.obj hd
  have e1 : x' = x := by rw [hx] at hx'; exact (Option.some.inj hx').symm
  have e2 : a' = a := by rw [ha] at ha'; exact (Option.some.inj ha').symm
  subst e1 e2
  exact ⟨x', a', es, n, rfl, hx, ha, ho, ho', ⟨ho, rfl, rfl, ho'⟩, f⟩
end

section
variable {W : Wd} {G : Fx} {k : Nat} {σ σ₁ σ₂ σ₃ σ' : St} {C : Addr} {i d : Nat} {kv : List (PySem.Str × MV)}
theorem Ev.attr {value : Expr} {name : PySem.Str} {pos : Pos} {v : MV} {attr : Option Value} (hv : Ev W G k value σ (.ref i) σ₁) (hi : σ₁.st[i]? = some (.inst C d)) (hd : σ₁.st[d]? = some (.dict kv)) (hkv : kv.lookup name = some v)
    (hg : plainGet W.K C name = true) (hh : hasDictIn W.K C = true) (ha : findIn W.K (.ref C) name = some attr) (hn : noGet W.K attr = true) (hl : ∀ u, v ≠ .lit u)
    (he : ∀ env, eval (.Attribute value name pos) env = (do let o ← eval value env; standAt pos.atName; let r ← holding [o] (getAttr o name true); letTemporaryGo value o r; pure r)) (ht : ∀ o r, letTemporaryGo value o r = pure ()) :
    Ev W G k (.Attribute value name pos) σ v σ₁ := Tr.mk fun Cx R hq => by
  rw [he]
  refine wpAny_bind (hv.run Cx R fun o s₁ ρ₁ n₁ r₁ => wpAny_bind (wpAny_standAt (wpAny_bind (wpAny_holding ?_))))
  obtain ⟨x, a, es, n, rfl, hx, ha', hox, hoa, I, f⟩ := n₁.rel.inst hi hd r₁
  obtain ⟨v', h1, h2⟩ := (getL_of f name).1 v hkv
  obtain ⟨m, objs, F, _⟩ := n₁.rel.ex
  refine get_own F Cx.K I hg hh ha hn h1 ?_ (by rw [ht]; exact wpAny_bind (wpAny_pure (wpAny_pure (hq _ _ _ (n₁.trans (Nx.same n₁.rel)) h2))))
  cases v with
  | lit u => exact absurd rfl (hl u)
  | «at» y => cases y with
    | none => have h2 : v' = .none := h2; subst h2; rfl
    | bool b => have h2 : v' = .bool b := h2; subst h2; rfl
    | int i => obtain ⟨t, rfl⟩ := h2; rfl
    | str i => obtain ⟨t, rfl⟩ := h2; rfl
  | ref j => obtain ⟨b, _, rfl⟩ := h2; rfl
  | tup xs => obtain ⟨b, o, it, n, rfl, _⟩ := h2; rfl

theorem Om.inst {name : PySem.Str} {f : Addr} (hi : σ.st[i]? = some (.inst C d)) (hd : σ.st[d]? = some (.dict kv)) (hkv : kv.lookup name = none) (hg : plainGet W.K C name = true) (hf : findIn W.K (.ref C) name = some (some (.ref f))) (ht : isFn W.K (.ref f) = true) : Om W G k (.ref i) name (.ref f) σ :=
  Om.mk fun Cx R r hq => by
    obtain ⟨x, a, es, n, rfl, hx, ha', hox, hoa, I, fa⟩ := R.inst hi hd r
    obtain ⟨m, objs, F, _⟩ := R.ex
    exact method_inst F Cx.K I hg hf ht ((getL_of fa name).2 hkv) (hq _ (Nx.self R))

/-- an attribute stored -/
theorem setAttr_dict {name : PySem.Str} {v : MV} {A : Around} {env : Env} {cl : List (PySem.Str × Addr)} {h₀ : Heap} {L : Addr} {ρ : List Addr} {s : Shared} {vo vv : Value} {Q : Unit → Shared → Prop} (Cx : Cx W G A env cl h₀ L k) (R : Rel h₀ L cl ρ σ s.heap) (hi : σ.st[i]? = some (.inst C d)) (hd : σ.st[d]? = some (.dict [])) (ro : RV s.heap ρ (.ref i) vo) (rv : RV s.heap ρ v vv)
    (hs : findIn W.K (.ref C) "__setattr__" = some (some (.builtin "object.__setattr__"))) (hp : plainOver W.K C = true) (ht : takerIn W.K C name = some none) (hh : hasDictIn W.K C = true)
    (hq : ∀ s', Nx h₀ L cl ρ s { σ with st := σ.st.set d (.dict [(name, v)]) } ρ s' → Q () s') : wpAny W.M A (setAttr vo name vv) Q (fun _ _ => False) s := by
  obtain ⟨x, a, es, n, rfl, hx, ha, hox, hoa, I, f⟩ := R.inst hi hd ro
  have := f.nil'
  subst this
  obtain ⟨m, objs, F, _⟩ := id R.ex
  have la := R.low (List.mem_of_getElem? ha)
  obtain ⟨oa, hoa', _, haL, ha0⟩ := la
  have N : News h₀ L s.heap ((a, dictOf [] n) :: allNews h₀ s.heap L [a]) := fun p hp => by
    rcases List.mem_cons.mp hp with rfl | hp
    · exact ⟨hoa, haL, ha0⟩
    · exact News.all p hp
  refine set_dict F Cx.K N I rfl hs hp ht hh rfl rfl (.head fun p hp => ?_) (by simp [putL]) fun h' F' N' => ?_
  · have := (allNews_mem.mp hp).2.2.1
    simpa using this
  · have kp := keep_all F F' N' (fun p hp => .tail _ hp)
    have hk : ∀ b o, b ≠ L → b ≠ a → s.heap.get? b = some o → h'.get? b = some o := fun b o h1 h2 e => kp b o h1 (by simpa using h2) e
    have ea := (N' (a, _) (.head _)).1
    have tkL : ∀ b o items m', b = L → s.heap.get? b = some o → o.cls = .type "tuple" → o.data = .seq items m' → False := fun b o its m' q e c dd => by
      subst q
      obtain ⟨oL, es, ep, hL, hdL, _⟩ := F.ns
      rw [hL] at e; cases e; rw [hdL] at dd; cases dd
    have tk : TupKeep s.heap h' := fun b ob its m' e c dd => by
      by_cases q : b = L
      · exact (tkL b ob its m' q e c dd).elim
      · by_cases q' : b = a
        · subst q'; rw [hoa] at e; cases e; cases dd
        · exact hk b ob q q' e
    have hdl : d < σ.st.length := (List.getElem?_eq_some_iff.mp hd).1
    have R' := R.updN F.ns ha hdl F' hk ea (x' := .dict [(name, v)]) ⟨_, _, rfl, .one ⟨⟨_, rfl⟩, rv.mono tk (List.prefix_refl _)⟩⟩
    exact hq _ ⟨List.prefix_refl _, R', .of_eq rfl rfl, tk, fun b o e h1 h2 => hk b o h2 (fun z => h1 (z ▸ List.mem_of_getElem? ha)) e, fun b h1 h2 => absurd h1 h2⟩
end
end
section
open PySem PySem.W PyProof.Rows PySem.Spec PySem.Calls

theorem bindL_eq (ko : PySem.Str → Option NameKind) (x : PySem.Str) : ∀ (l : List (PySem.Str × Value)) (m : PySem.Str → Option Value), bindL ko l m x = (match (l.filter fun p => decide (ko p.1 = some .local)).reverse.lookup x with | some v => some v | none => m x)
  | [], m => rfl
  | (n, v) :: r, m => by
    by_cases h : ko n = some .local
    · have e1 : bindL ko ((n, v) :: r) m = bindL ko r (fun y => if y = n then some v else m y) := by
        show bindL ko r (if ko n = some .local then _ else m) = _
        rw [if_pos h]
      rw [e1, bindL_eq ko x r, List.filter_cons_of_pos (by simpa using h), List.reverse_cons, List.lookup_append]
      cases q : (r.filter fun p => decide (ko p.1 = some .local)).reverse.lookup x with
      | some u => rfl
      | none =>
        by_cases hx : x = n
        · subst hx; simp
        · have : (x == n) = false := beq_eq_false_iff_ne.mpr hx
          simp [hx, List.lookup_cons, this]
    · have e1 : bindL ko ((n, v) :: r) m = bindL ko r m := by
        show bindL ko r (if ko n = some .local then _ else m) = _
        rw [if_neg h]
      rw [e1, bindL_eq ko x r, List.filter_cons_of_neg (by simpa using h)]
theorem bindC_eq (ko : PySem.Str → Option NameKind) (x : PySem.Str) : ∀ (l : List (PySem.Str × Value)) (m : PySem.Str → Option Value), bindC ko l m x = (match (l.filter fun p => !decide (ko p.1 = some .local)).reverse.lookup x with | some v => some v | none => m x)
  | [], m => rfl
  | (n, v) :: r, m => by
    by_cases h : ko n = some .local
    · have e1 : bindC ko ((n, v) :: r) m = bindC ko r m := by
        show bindC ko r (if ko n = some .local then m else _) = _
        rw [if_pos h]
      rw [e1, bindC_eq ko x r, List.filter_cons_of_neg (by simpa using h)]
    · have e1 : bindC ko ((n, v) :: r) m = bindC ko r (fun y => if y = n then some v else m y) := by
        show bindC ko r (if ko n = some .local then m else _) = _
        rw [if_neg h]
      rw [e1, bindC_eq ko x r, List.filter_cons_of_pos (by simpa using h), List.reverse_cons, List.lookup_append]
      cases q : (r.filter fun p => !decide (ko p.1 = some .local)).reverse.lookup x with
      | some u => rfl
      | none =>
        by_cases hx : x = n
        · subst hx; simp
        · have : (x == n) = false := beq_eq_false_iff_ne.mpr hx
          simp [hx, List.lookup_cons, this]
theorem Fa2.filterN {R : MV → Value → Prop} {bs : List (PySem.Str × MV)} {bs' : List (PySem.Str × Value)} (h : Fa2 (fun p q => p.1 = q.1 ∧ R p.2 q.2) bs bs') (f : PySem.Str → Bool) : Fa2 (fun p q => p.1 = q.1 ∧ R p.2 q.2) (bs.filter fun p => f p.1) (bs'.filter fun p => f p.1) := by
  induction h with
  | nil => exact .nil
  | cons r _ ih =>
    rw [List.filter_cons, List.filter_cons, ← r.1]
    split
    · exact .cons r ih
    · exact ih
theorem Fa2.lookup_none {R : MV → Value → Prop} {bs : List (PySem.Str × MV)} {bs' : List (PySem.Str × Value)} (h : Fa2 (fun p q => p.1 = q.1 ∧ R p.2 q.2) bs bs') {x : PySem.Str} (e : bs.lookup x = none) : bs'.lookup x = none := by
  induction h with
  | nil => rfl
  | @cons a b l m r _ ih =>
    obtain ⟨n, u⟩ := a
    obtain ⟨n', u'⟩ := b
    obtain ⟨e1, e2⟩ := r
    dsimp only at e1 e2
    subst e1
    rw [List.lookup_cons] at e ⊢
    cases q : x == n with
    | true => rw [q] at e; cases e
    | false => rw [q] at e; exact ih e

/-- the names of a frame that starts, and its cells -/
def locs0 (scope : Scope) (bs : List (PySem.Str × MV)) : List (PySem.Str × MV) := (bs.filter fun p => decide (scope.names.lookup p.1 = some .local)).reverse
def cellV (scope : Scope) (bs : List (PySem.Str × MV)) (n : PySem.Str) : MO := .cell ((bs.filter fun p => !decide (scope.names.lookup p.1 = some .local)).reverse.lookup n)
def start (scope : Scope) (bs : List (PySem.Str × MV)) (cn : List PySem.Str) (st : List MO) : St := ⟨locs0 scope bs, cn.zipIdx st.length, st ++ cn.map (cellV scope bs)⟩

theorem Rel.cellsIn {h₀ : Heap} {L : Addr} {ρ : List Addr} {objs : List Obj} {scope : Scope} {bs : List (PySem.Str × MV)} {bs' : List (PySem.Str × Value)} {cs : List (PySem.Str × Addr)} {st : List MO} {s s₁ : Shared}
    (X : InCallC s L (bindL (fun n => scope.names.lookup n) bs' fun _ => none) cs (bindC (fun n => scope.names.lookup n) bs' fun _ => none) s₁) (nd : ρ.Nodup) (N : ∀ p ∈ ρ.zip objs, s.heap.get? p.1 = some p.2) (N0 : ∀ p ∈ ρ.zip objs, h₀.get? p.1 = none) (el : objs.length = ρ.length) (fo : Fa2 (RO s.heap ρ) st objs) (hbr : Fa2 (fun p q => p.1 = q.1 ∧ RV s.heap ρ p.2 q.2) bs bs')
    (hk : ∀ b o, h₀.get? b = some o → s.heap.get? b = some o) (hL : h₀.objs.size ≤ L) (hLs : s.heap.objs.size ≤ L) (hcn : (cs.map (·.1)).Nodup) : Rel h₀ L cs (ρ ++ cs.map (·.2)) (start scope bs (cs.map (·.1)) st) s₁.heap := by
  obtain ⟨IC, cell, apart, above⟩ := X
  have kp := IC.keep
  have tk : TupKeep s.heap s₁.heap := .of_keep kp
  have pf : ρ <+: ρ ++ cs.map (·.2) := List.prefix_append _ _
  have fst_lt : ∀ a ∈ ρ, a < s.heap.objs.size := fun a ha => by
    obtain ⟨i, hi, e⟩ := List.getElem_of_mem ha
    have hi' : i < objs.length := by omega
    exact Heap.lt_size (N (a, objs[i]) (zip_mem (by rw [List.getElem?_eq_getElem hi, e]) (List.getElem?_eq_getElem hi')))
  have cell_lt : ∀ a ∈ cs.map (·.2), L < a := fun a ha => by
    obtain ⟨p, hp, rfl⟩ := List.mem_map.mp ha
    exact above p.1 p.2 hp
  have look : ∀ {cs : List (PySem.Str × Addr)}, (cs.map (·.1)).Nodup → ∀ p ∈ cs, cs.lookup p.1 = some p.2 := by
    intro cs
    induction cs with
    | nil => intro _ p hp; cases hp
    | cons q r ih =>
      intro hn p hp
      obtain ⟨n, c⟩ := q
      rw [List.map_cons, List.nodup_cons] at hn
      rw [List.lookup_cons]
      rcases List.mem_cons.mp hp with rfl | hp
      · simp
      · have : (p.1 == n) = false := beq_eq_false_iff_ne.mpr fun q => hn.1 (List.mem_map.mpr ⟨p, hp, q⟩)
        rw [this]; exact ih hn.2 p hp
  have isc : ∀ p ∈ cs, ∃ o, s₁.heap.get? p.2 = some o ∧ o.data = .cell (bindC (fun n => scope.names.lookup n) bs' (fun _ => none) p.1) := fun p hp => cell p.1 p.2 (look hcn p hp)
  have objC : ∃ oc : List Obj, oc.length = cs.length ∧ (∀ p ∈ (cs.map (·.2)).zip oc, s₁.heap.get? p.1 = some p.2) ∧ Fa2 (RO s₁.heap (ρ ++ cs.map (·.2))) ((cs.map (·.1)).map (cellV scope bs)) oc := by
    clear look cell_lt apart above cell hcn
    generalize hρ : ρ ++ cs.map (·.2) = ρc at *
    clear hρ
    induction cs with
    | nil => exact ⟨[], rfl, (fun p hp => by simp at hp), .nil⟩
    | cons q r ih =>
      obtain ⟨oc, h1, h2, h3⟩ := ih (fun p hp => isc p (.tail _ hp))
      obtain ⟨o, ho, hd⟩ := isc q (.head _)
      refine ⟨o :: oc, by simp [h1], fun p hp => ?_, .cons ⟨_, hd, ?_⟩ h3⟩
      · rw [List.map_cons, List.zip_cons_cons] at hp
        rcases List.mem_cons.mp hp with rfl | hp
        · exact ho
        · exact h2 p hp
      · rw [bindC_eq]
        have hf := (hbr.filterN (fun n => !decide (scope.names.lookup n = some .local))).reverse
        cases e : (bs.filter fun p => !decide (scope.names.lookup p.1 = some .local)).reverse.lookup q.1 with
        | none =>
          have := hf.lookup_none e
          rw [this]
        | some v =>
          obtain ⟨v', e1, e2⟩ := hf.lookup e
          rw [e1]
          exact ⟨v', rfl, e2.mono tk pf⟩
  obtain ⟨oc, h1, h2, h3⟩ := objC
  refine ⟨⟨_, objs ++ oc, ⟨IC.ns, fun b o e => kp b o (hk b o e), hL⟩, fun p hp => ?_, by simp [el, h1], (fo.mono fun _ _ r => r.mono tk pf).append h3, fun x v e => ?_⟩, ?_, fun x i e => ?_⟩
  · rw [List.zip_append el.symm] at hp
    rcases List.mem_append.mp hp with hp | hp
    · exact ⟨kp _ _ (N p hp), Nat.ne_of_lt (Nat.lt_of_lt_of_le (Heap.lt_size (N p hp)) hLs), N0 p hp⟩
    · have hc := cell_lt p.1 (List.of_mem_zip hp).1
      exact ⟨h2 p hp, Nat.ne_of_gt hc, Heap.get?_none_of_le (Nat.le_of_lt (Nat.lt_of_le_of_lt hL hc))⟩
  · have hf := (hbr.filterN (fun n => decide (scope.names.lookup n = some .local))).reverse
    obtain ⟨v', e1, e2⟩ := hf.lookup e
    refine ⟨v', ?_, e2.mono tk pf⟩
    rw [bindL_eq, e1]
  · rw [List.nodup_append]
    refine ⟨nd, ?_, fun x hx y hy q => ?_⟩
    · have : ∀ {cs : List (PySem.Str × Addr)}, (cs.Pairwise fun x y => x.2 ≠ y.2) → (cs.map (·.2)).Nodup := by
        intro cs h
        induction h with
        | nil => exact List.nodup_nil
        | cons a _ ih =>
          rw [List.map_cons, List.nodup_cons]
          refine ⟨fun q => ?_, ih⟩
          obtain ⟨y, hy, e⟩ := List.mem_map.mp q
          exact a y hy e.symm
      exact this apart
    · have h1 := fst_lt x hx
      have h2 := cell_lt y hy
      subst q
      exact absurd (Nat.lt_of_lt_of_le h1 hLs) (Nat.lt_asymm h2)
  · have hst : st.length = ρ.length := by rw [fo.length, el]
    have key : ∀ (l : List (PySem.Str × Addr)) (j : Nat), ((l.map (·.1)).zipIdx j).lookup x = some i → ∃ a, l.lookup x = some a ∧ j ≤ i ∧ (l.map (·.2))[i - j]? = some a := by
      intro l
      induction l with
      | nil => intro j e; cases e
      | cons q r ih =>
        intro j e
        rw [List.map_cons, List.zipIdx_cons, List.lookup_cons] at e
        obtain ⟨n, c⟩ := q
        rw [List.lookup_cons]
        cases hq : x == n with
        | true =>
          rw [hq] at e
          cases e
          exact ⟨c, rfl, Nat.le_refl _, by simp⟩
        | false =>
          rw [hq] at e
          obtain ⟨a, e1, e2, e3⟩ := ih (j + 1) e
          refine ⟨a, e1, by omega, ?_⟩
          rw [show i - j = (i - (j + 1)) + 1 by omega, List.map_cons, List.getElem?_cons_succ]
          exact e3
    obtain ⟨a, e1, e2, e3⟩ := key cs st.length e
    refine ⟨a, e1, ?_⟩
    rw [hst] at e2 e3
    rw [List.getElem?_append_right e2]
    exact e3

section
variable {W : Wd} {k : Nat} {f : Addr} {xs : List MV} {kw bs : List (PySem.Str × MV)} {st st' : List MO} {z : MV} {oc : Value} {od : Option Addr} {osl : Array (Option Value)} {name qual : PySem.Str} {params : Arguments} {body : List Stmt} {scope : Scope}
  {dV kV doc pm cdv ct : Value} {an : Option Addr}
theorem Ec.fnC (cn : List PySem.Str) (hK : W.K.lookup f = some ⟨oc, od, .func (fnX name qual params body scope [] dV kV doc pm an cdv ct), osl⟩) (hcd : codeIn W.K cdv qual = true)
    (hb : Binds W (fnX name qual params body scope [] dV kV doc pm an cdv ct) xs kw bs) (hcn : ∀ n, (cellsFrom n scope.names []).map (·.1) = cn) (hnd : cn.Nodup)
    (hloc : (bs.all fun p => scope.names.lookup p.1 == some .local || (scope.names.lookup p.1 == some .cell && cn.contains p.1)) = true)
    (hbody : ExsP W ⟨scope, true⟩ k body (start scope bs cn st) (Ends z st')) (hlen : st.length ≤ st'.length)
    (hlow : (∀ x ∈ st, x.low st.length) → (∀ x ∈ xs, x.low st.length) → (∀ x ∈ st', x.low st'.length) ∧ z.low st'.length)
    (hco : scope.isCoroutine = false := by rfl) (hgen : scope.isGenerator = false := by rfl) (hk : scope.kind = .function := by rfl) : Ec W (k + 1) f xs kw st z st' := by
  constructor
  intro F A env cl h₀ L ρ s σ vs kvs Q hfn C R hσ hvs hkvs hQ
  obtain ⟨fl, σ', hbody, ⟨sx, hst⟩, hz⟩ := hbody
  subst hσ hz
  have hlo := hlow R.lows fun x hx => by rw [R.len]; exact (let ⟨_, r⟩ := hvs.left hx; r.low')
  obtain ⟨hlow, hzl⟩ := hlo
  obtain ⟨hf, A₀, base, outer, B, hA⟩ := C.fr hfn
  obtain ⟨mean, mg, mb, T⟩ := C.top
  obtain ⟨⟨m, objs, Fm, N, el, fo, l⟩, nd, ce⟩ := id R
  have hkin : W.K.In s.heap := C.K.keeps Fm.keep
  obtain ⟨bs', hbt, hbr⟩ := hb s ρ vs kvs hkin hvs hkvs
  obtain ⟨FG, BG, stay, _⟩ := groundX (R := fun _ _ => True) B Fm N hA hf (by rw [C.kind])
  rw [news_fst el] at FG BG stay
  have kindN : ∀ x ∈ bs', scope.names.lookup x.1 = some .local ∨ (scope.names.lookup x.1 = some .cell ∧ ((cellsFrom (s.heap.objs.size + 1) scope.names []).lookup x.1).isSome = true) := by
    intro x hx
    have hn := hbr.names
    have : x.1 ∈ bs.map (·.1) := by rw [← hn]; exact List.mem_map_of_mem hx
    obtain ⟨p, hp, e⟩ := List.mem_map.mp this
    have := List.all_eq_true.mp hloc p hp
    rw [e] at this
    rw [Bool.or_eq_true, Bool.and_eq_true] at this
    rcases this with h | ⟨h1, h2⟩
    · exact .inl (beq_iff_eq.mp h)
    · refine .inr ⟨beq_iff_eq.mp h1, ?_⟩
      rw [← hcn (s.heap.objs.size + 1)] at h2
      have hm := List.contains_iff_mem.mp h2
      obtain ⟨q, hq, e'⟩ := List.mem_map.mp hm
      have key : ∀ {l : List (PySem.Str × Addr)}, q ∈ l → (l.lookup q.1).isSome = true := by
        intro l
        induction l with
        | nil => intro h; cases h
        | cons a r ih =>
          intro h
          obtain ⟨n, c⟩ := a
          rw [List.lookup_cons]
          rcases List.mem_cons.mp h with rfl | h
          · simp
          · cases q.1 == n with
            | true => rfl
            | false => exact ih h
      rw [← e']; exact key hq
  refine codeAny_call_function (fd := fnX name qual params body scope [] dV kV doc pm an cdv ct) (Nat.lt_of_le_of_lt (Nat.le_add_right _ _) C.room) (hkin _ _ hK) rfl hco hgen rfl (codeRec_of hkin hcd) (hbt _ _ _ _ ?_)
  refine wpAny_newFunctionEnv_cells hk kindN fun envC he s₁ X => ?_
  subst he
  refine ⟨(T.nolimit.keeps Fm.keep).keeps X.toInCall.keep, codeAny_func ?_⟩
  have hroom := C.room
  have hunits := C.units
  obtain ⟨h₁, tk₁, rfl⟩ := X.toInCall.same
  have hk₁ := X.toInCall.keep
  have C' : Cx W ⟨scope, true⟩ (A.deeper (callEnvC (fnX name qual params body scope [] dV kV doc pm an cdv ct) s.heap.objs.size f)) (callEnvC (fnX name qual params body scope [] dV kV doc pm an cdv ct) s.heap.objs.size f) (cellsFrom (s.heap.objs.size + 1) scope.names []) (hideAll s.heap ρ) s.heap.objs.size k := by
    refine ⟨rfl, rfl, rfl, rfl, rfl, hk, C.hh, ?_, ?_, C.K.keeps stay, ⟨mean, mg, mb, T.keeps stay⟩, fun _ => ⟨rfl, _, _, _, BG, Around.frames_deeper hA⟩⟩
    · show A.depth + 1 + k < recursionLimit
      omega
    · show A.units + 3 + 8 * k < cLine
      omega
  have X' : InCallC s s.heap.objs.size (bindL (fun n => scope.names.lookup n) bs' fun _ => none) (cellsFrom (s.heap.objs.size + 1) scope.names []) (bindC (fun n => scope.names.lookup n) bs' fun _ => none) { s with heap := h₁, toks := tk₁ } := X
  have R' := Rel.cellsIn (h₀ := hideAll s.heap ρ) (objs := objs) (scope := scope) (bs := bs) (st := σ.st) X' nd (fun p hp => (N p hp).1) (fun p hp => hideAll_none _ (List.of_mem_zip hp).1) el fo hbr (fun b o e => of_hideAll _ e) (Nat.le_of_eq (hideAll_size _ _)) (Nat.le_refl _) (by rw [hcn]; exact hnd)
  rw [hcn] at R'
  refine wpAny_mono (hbody.run C' R' (Q := fun fl' s' => Q (flowV fl') s') (fun fl' s' ρ' n r => ?_)) (fun fl2 _ q => by cases fl2 <;> exact q) (fun _ _ q => False.elim q)
  have fresh : ∀ a ∈ (cellsFrom (s.heap.objs.size + 1) scope.names []).map (·.2), s.heap.get? a = none := fun a ha => by
    obtain ⟨p, hp, rfl⟩ := List.mem_map.mp ha
    exact Heap.get?_none_of_le (Nat.le_of_lt (X.above p.1 p.2 hp))
  obtain ⟨n₂, hle⟩ := call_leave (L' := s.heap.objs.size) R (s₁ := { s with heap := h₁, toks := tk₁ }) rfl rfl hk₁ fresh n hst (by rw [← R.len]; exact hlen) hlow
  refine hQ _ _ _ n₂ ?_
  refine RV.drop (t := ρ'.drop st'.length) (by rw [List.take_append_drop]; exact retOf_rel r) ?_
  rw [List.length_take, Nat.min_eq_left hle]; exact hzl
end
end
section
open PySem PySem.W PyProof.Rows PySem.Spec PySem.Calls
section
variable {h₀ h' : Heap} {L : Addr} {cl : List (PySem.Str × Addr)} {ρ : List Addr} {σ : St} {s : Shared} {m : PySem.Str → Option Value}
theorem ns_notup {h : Heap} (n : h.Ns L m) : ∃ o, h.get? L = some o ∧ NoTup o := by
  obtain ⟨o, es, ep, ho, hd, _⟩ := n
  exact ⟨o, ho, fun its n c d => by rw [hd] at d; cases d⟩
theorem tk_ns {h : Heap} (n : h.Ns L m) (k : ∀ b o, b ≠ L → h.get? b = some o → h'.get? b = some o) : TupKeep h h' := fun b o its n' e c d => by
  by_cases q : b = L
  · subst q
    obtain ⟨oL, hL, nt⟩ := ns_notup n
    rw [hL] at e; cases e; exact (nt _ _ c d).elim
  · exact k b o q e
theorem Rel.frame {h : Heap} (R : Rel h₀ L cl ρ σ h) : ∃ m, Fr h₀ L h m := by obtain ⟨m, _, F, _⟩ := R.ex; exact ⟨m, F⟩
theorem ns_same {h : Heap} {m m' : PySem.Str → Option Value} (a : h.Ns L m) (b : h.Ns L m') : m = m' := by
  obtain ⟨o, es, ep, a1, a2, _, a3⟩ := a
  obtain ⟨o', es', ep', b1, b2, _, b3⟩ := b
  rw [a1] at b1; cases b1
  rw [a2] at b2; cases b2
  funext y; rw [← b3, a3]
theorem Rel.keepN {h : Heap} (R : Rel h₀ L cl ρ σ h) (F : Fr h₀ L h m) (F' : Fr h₀ L h' m) (k : ∀ b o, b ≠ L → h.get? b = some o → h'.get? b = some o) : Rel h₀ L cl ρ σ h' := by
  have tk := tk_ns F.ns k
  obtain ⟨⟨m', objs, Fm, N, el, f, l⟩, nd, ce⟩ := R
  have := ns_same F.ns Fm.ns
  subst this
  exact ⟨⟨m, objs, F', fun p hp => ⟨k _ _ (N p hp).2.1 (N p hp).1, (N p hp).2⟩, el, f.mono fun _ _ r => r.mono tk (List.prefix_refl _), fun x v e => let ⟨v', a, b⟩ := l x v e; ⟨v', a, b.mono tk (List.prefix_refl _)⟩⟩, nd, ce⟩
theorem Nx.keptN {t : Nat} (R : Rel h₀ L cl ρ σ s.heap) (F : Fr h₀ L s.heap m) (F' : Fr h₀ L h' m) (k : ∀ b o, b ≠ L → s.heap.get? b = some o → h'.get? b = some o) : Nx h₀ L cl ρ s σ ρ { s with heap := h', toks := t } :=
  ⟨List.prefix_refl _, R.keepN F F' k, .of_eq rfl rfl, tk_ns F.ns k, fun b o e _ h2 => k b o h2 e, fun a h1 h2 => absurd h1 h2⟩
theorem Nx.newN {t : Nat} {D : Addr} {o : Obj} {x : MO} (R : Rel h₀ L cl ρ σ s.heap) (F : Fr h₀ L s.heap m) (F' : Fr h₀ L h' m) (k : ∀ b o, b ≠ L → s.heap.get? b = some o → h'.get? b = some o) (hn : s.heap.get? D = none) (e : h'.get? D = some o) (r : RO h' (ρ ++ [D]) x o) :
    Nx h₀ L cl ρ s { σ with st := σ.st ++ [x] } (ρ ++ [D]) { s with heap := h', toks := t } := by
  have tk := tk_ns F.ns k
  have low := fun a (q : a ∈ ρ) => R.low q
  have hDL : D ≠ L := fun q => by
    obtain ⟨oL, hL, _⟩ := ns_notup F.ns
    rw [q, hL] at hn; cases hn
  have hD0 : h₀.get? D = none := by
    cases q : h₀.get? D with
    | none => rfl
    | some o' => have := F.keep D o' q; rw [hn] at this; cases this
  refine ⟨List.prefix_append _ _, ?_, .of_eq rfl rfl, tk, fun b o e _ h2 => k b o h2 e, fun b h1 h2 => ?_⟩
  · obtain ⟨⟨m', objs, Fm, N, el, f, l⟩, nd, ce⟩ := R.keepN F F' k
    have pf : ρ <+: ρ ++ [D] := List.prefix_append _ _
    have na : D ∉ ρ := fun q => by obtain ⟨o', e', _⟩ := low D q; rw [hn] at e'; cases e'
    refine ⟨⟨m', objs ++ [o], Fm, fun p hp => ?_, by simp [el], (f.mono fun _ _ r => r.mono (TupKeep.refl _) pf).append (.one r), fun x v e => ?_⟩, ?_, fun x i e => ?_⟩
    · rw [List.zip_append el.symm] at hp
      rcases List.mem_append.mp hp with hp | hp
      · exact N p hp
      · rw [List.zip_cons_cons, List.zip_nil_left, List.mem_singleton] at hp
        subst hp
        exact ⟨e, hDL, hD0⟩
    · obtain ⟨v', b, c⟩ := l x v e; exact ⟨v', b, c.mono (TupKeep.refl _) pf⟩
    · rw [List.nodup_append]
      exact ⟨nd, by simp, fun x hx y hy => by rw [List.mem_singleton.mp hy]; exact fun q => na (q ▸ hx)⟩
    · obtain ⟨b, h1, h2⟩ := ce x i e
      exact ⟨b, h1, by rw [List.getElem?_append_left (List.getElem?_eq_some_iff.mp h2).1]; exact h2⟩
  · rcases List.mem_append.mp h1 with q | q
    · exact absurd q h2
    · rw [List.mem_singleton.mp q]; exact hn
theorem ref_new {t : Nat} {D : Addr} {x : MO} (n : Nx h₀ L cl ρ s { σ with st := σ.st ++ [x] } (ρ ++ [D]) { s with heap := h', toks := t }) : RV h' (ρ ++ [D]) (.ref σ.st.length) (.ref D) := by
  have := n.rel.len
  rw [List.length_append, List.length_append] at this
  have : σ.st.length = ρ.length := by simpa using this
  exact ⟨D, by rw [this, List.getElem?_append_right (Nat.le_refl _), Nat.sub_self]; rfl, rfl⟩
/-- a library's ledger of all other objects -/
theorem kp_all {rest : List (Addr × Obj)} (F : Fr h₀ L s.heap m) (F' : Fr h₀ L h' m) (N' : News h₀ L h' (rest ++ allNews h₀ s.heap L [])) : ∀ b o, b ≠ L → s.heap.get? b = some o → h'.get? b = some o := fun b o h1 e =>
  keep_all F F' N' (out := []) (fun p hp => List.mem_append_right _ hp) b o h1 (by simp) e

theorem ints_are {h : Heap} {ns : List Int} {vs : List Value} (f : Fa2 (RV h ρ) (ns.map .int) vs) : IntsAre vs ns := by
  induction ns generalizing vs with
  | nil => cases f; exact .nil
  | cons n ns ih => cases f with | cons r t => obtain ⟨tk, rfl⟩ := r; exact .cons _ _ (ih t)
theorem ints_back {h : Heap} {ns : List Int} {vs : List Value} (f : IntsAre vs ns) : Fa2 (RV h ρ) (ns.map .int) vs := by
  induction f with
  | nil => exact .nil
  | cons n t _ ih => exact .cons ⟨_, rfl⟩ ih
end

section
variable {W : Wd} {G : Fx} {k : Nat} {σ σ₁ σ₂ σ₃ σ' : St}
theorem isListT {h : Heap} {a : Addr} {items : Array Value} {n : Nat} (hl : IsL h a items n) : h.IsList a items.toList.toArray := by
  rw [Array.toArray_toList]; exact hl.isList
theorem Op.add_list {i j : Nat} {xs ys : List MV} (e1 : σ.st[i]? = some (.list xs)) (e2 : σ.st[j]? = some (.list ys)) (hz : xs.length + ys.length ≤ 100000) :
    Op W G k (t2 (binaryOp .Add)) [.ref i, .ref j] σ (isV (.ref σ.st.length)) { σ with st := σ.st ++ [.list (xs ++ ys)] } := Op.mk fun C R hv h => by
  obtain ⟨_, _, rfl, r1, r2⟩ := hv.two
  obtain ⟨a, it1, n1, rfl, ha, hl1, f1⟩ := R.list e1 r1
  obtain ⟨b, it2, n2, rfl, hb, hl2, f2⟩ := R.list e2 r2
  obtain ⟨m, F⟩ := R.frame
  refine PyProof.Rows.add_arrays F (News.all (out := [])) hl1.isList hl2.isList (fun h' F' N' => ?_) (by rw [sizeLine_eq, f1.size, f2.size]; omega)
  have kp := kp_all (rest := [_]) F F' N'
  have tk := tk_ns F.ns kp
  have nx := fun t => Nx.newN (t := t) R F F' kp (hnone _) (N' _ (.head _)).1 (x := .list (xs ++ ys)) ⟨_, _, rfl, by simpa using (f1.append f2).mono fun _ _ q => q.mono tk (List.prefix_append _ _)⟩
  exact h _ _ _ (nx _) (ref_new (nx 0))
theorem Op.in_ints {i : Nat} {x : Int} {ns : List Int} (e1 : σ.st[i]? = some (.list (ns.map .int))) : Op W G k (t2 (compareOp .In)) [.int x, .ref i] σ (isV (.bool (ns.any (· == x)))) σ := Op.mk fun C R hv h => by
  obtain ⟨_, _, rfl, ⟨t, rfl⟩, r1⟩ := hv.two
  obtain ⟨a, it1, n1, rfl, ha, hl1, f1⟩ := R.list e1 r1
  exact in_list_ints (isListT hl1) (ints_are f1) (h _ _ _ (Nx.same R (t := _)) rfl)
theorem Op.notIn_ints {i : Nat} {x : Int} {ns : List Int} (e1 : σ.st[i]? = some (.list (ns.map .int))) : Op W G k (t2 (compareOp .NotIn)) [.int x, .ref i] σ (isV (.bool (!(ns.any (· == x))))) σ := Op.mk fun C R hv h => by
  obtain ⟨_, _, rfl, ⟨t, rfl⟩, r1⟩ := hv.two
  obtain ⟨a, it1, n1, rfl, ha, hl1, f1⟩ := R.list e1 r1
  exact notin_list_ints (isListT hl1) (ints_are f1) (h _ _ _ (Nx.same R (t := _)) rfl)
theorem Op.pop_last {i : Nat} {vs : List MV} {x : MV} (e : σ.st[i]? = some (.list (vs ++ [x]))) (hz : vs.length ≤ 100000) :
    Op W G k (fun _ l => call (.builtin "list.pop") l) [.ref i] σ (isV x) { σ with st := σ.st.set i (.list vs) } := by
  constructor
  intro A env cl h₀ L ρ s vs₀ Q C R hv h
  obtain ⟨_, rfl, r⟩ := hv.un
  obtain ⟨a, items, n, rfl, ha, hl, f⟩ := R.list e r
  have hs := f.size
  rw [List.length_append, List.length_singleton] at hs
  have h1 : (vs ++ [x])[vs.length]? = some x := by simp
  obtain ⟨y, hy, ry⟩ := f.get h1
  refine call_meets PySem.F.slot_list_pop ⟨_, hl, rfl⟩ PySem.F.entry_list_pop (PySem.F.args_list_pop_1 _) (MeetsSeq.list_pop_last a items n y (by rw [← Array.getElem?_toList, hs]; exact hy) (by rw [sizeLine_eq]; omega)) ⟨hl, ?_⟩
  have hfa : Fa2 (RV s.heap ρ) vs (items.eraseIdxIfInBounds (items.size - 1)).toList := by
    rw [Array.toList_eraseIdxIfInBounds, hs]
    have := f.erase vs.length
    rw [List.eraseIdx_append_of_length_le (Nat.le_refl _), Nat.sub_self] at this
    simpa using this
  have nx := fun t => Nx.listUpd R (t := t) (f := fun xs => xs.eraseIdxIfInBounds (items.size - 1)) (vs' := vs) e ha hl hfa
  exact h y _ ρ (nx s.toks) (ry.mono (nx 0).tk (nx 0).pre)
theorem Op.item_last {i : Nat} {vs : List MV} {x : MV} (e : σ.st[i]? = some (.list (vs ++ [x]))) (hz : vs.length ≤ 100000) : Op W G k (t2 getItem) [.ref i, .int (-1)] σ (isV x) σ := Op.mk fun C R hv h => by
  obtain ⟨_, _, rfl, r, ⟨t, rfl⟩⟩ := hv.two
  obtain ⟨a, items, n, rfl, ha, hl, f⟩ := R.list e r
  have hs := f.size
  rw [List.length_append, List.length_singleton] at hs
  have h1 : (vs ++ [x])[vs.length]? = some x := by simp
  obtain ⟨y, hy, ry⟩ := f.get h1
  exact wpAny_getItem_list_neg hl.isList (by omega) (by omega) (by omega) (by rw [← Array.getElem?_toList, show ((-1 : Int) + (items.size : Int)).toNat = vs.length by omega]; exact hy) (h _ _ _ (Nx.same R (t := _)) ry)
theorem Op.max2 {a b : Int} : Op W G k (fun _ l => call (.builtin "max") l) [.int a, .int b] σ (isV (.int (if b > a then b else a))) σ := Op.mk fun C R hv h => by
  obtain ⟨_, _, rfl, ⟨t, rfl⟩, ⟨u, rfl⟩⟩ := hv.two
  refine max_two_ints C.hh fun h' tk hk => h _ _ _ (Nx.kept R hk) ?_
  show ∃ t, _ = _
  split
  · exact ⟨_, rfl⟩
  · exact ⟨_, rfl⟩
theorem Op.maxL {i : Nat} {ns : List Int} {M : Int} (e : σ.st[i]? = some (.list (ns.map .int))) (hM : M ∈ ns) (hle : ∀ a ∈ ns, a ≤ M) : Op W G k (fun _ l => call (.builtin "max") l) [.ref i] σ (isV (.int M)) σ := Op.mk fun C R hv h => by
  obtain ⟨_, rfl, r⟩ := hv.un
  obtain ⟨a, items, n, rfl, ha, hl, f⟩ := R.list e r
  obtain ⟨m, F⟩ := R.frame
  refine max_list_N C.hh F (News.all (out := [])) (isListT hl) (ints_are f) (List.length_pos_of_mem hM) fun h' M' t tk F' N' h1 h2 => ?_
  have kp := kp_all (rest := []) F F' N'
  have : M' = M := Int.le_antisymm (hle _ h1) (h2 _ hM)
  subst this
  exact h _ _ _ (Nx.keptN R F F' kp) ⟨_, rfl⟩
theorem Op.sum {i : Nat} {ns : List Int} (e : σ.st[i]? = some (.list (ns.map .int))) : Op W G k (fun _ l => call (.builtin "sum") l) [.ref i] σ (isV (.int ns.sum)) σ := Op.mk fun C R hv h => by
  obtain ⟨_, rfl, r⟩ := hv.un
  obtain ⟨a, items, n, rfl, ha, hl, f⟩ := R.list e r
  have hi := ints_are f
  have hall : AllInts items := fun v hv => hi.allInts v (by simpa using hv)
  obtain ⟨xs, rfl⟩ := hall.items
  refine sum_intListG C.hh hl.isList fun h' tk t' hk => ?_
  have : preSum (numAt xs) xs.size = ns.sum := by
    rw [preSum_eq, List.take_of_length_le (by simp), ← nums_intItems, hi.numsOf]
  rw [this]
  exact h _ _ _ (Nx.kept R hk) ⟨_, rfl⟩
theorem Op.count_ints {i : Nat} {x : Int} {ns : List Int} (e : σ.st[i]? = some (.list (ns.map .int))) : Op W G k (fun _ l => call (.builtin "list.count") l) [.ref i, .int x] σ (isV (.int ((ns.count x : Nat) : Int))) σ := Op.mk fun C R hv h => by
  obtain ⟨_, _, rfl, r, ⟨t, rfl⟩⟩ := hv.two
  obtain ⟨a, items, n, rfl, ha, hl, f⟩ := R.list e r
  exact count_list_ints (isListT hl) (ints_are f) (h _ _ _ (Nx.same R) ⟨_, rfl⟩)
theorem sorted_unique {ms ns : List Int} (p : ms.Perm ns) (h1 : ms.Pairwise (· ≤ ·)) (h2 : ns.Pairwise (· ≤ ·)) : ms = ns :=
  p.eq_of_pairwise (fun a b _ _ h h' => Int.le_antisymm h h') h1 h2
theorem Op.sorted_ints {i : Nat} {ns ms : List Int} (e : σ.st[i]? = some (.list (ns.map .int))) (hp : ms.Perm ns) (hs : ms.Pairwise (· ≤ ·)) (h64 : ns.length < 64) :
    Op W G k (fun _ l => call (.builtin "sorted") l) [.ref i] σ (isV (.ref σ.st.length)) { σ with st := σ.st ++ [.list (ms.map .int)] } := Op.mk fun C R hv h => by
  obtain ⟨_, rfl, r⟩ := hv.un
  obtain ⟨a, items, n, rfl, ha, hl, f⟩ := R.list e r
  obtain ⟨m, F⟩ := R.frame
  have hsz := f.size
  rw [List.length_map] at hsz
  refine sorted_N F (News.all (out := [])) (isListT hl) (ints_are f) (by rw [Array.length_toList]; omega) fun h' vs' ns' c F' N' hi hp' hs' => ?_
  have : ns' = ms := sorted_unique (hp'.trans hp.symm) hs' hs
  subst this
  have kp := kp_all (rest := [_]) F F' N'
  have nx := fun t => Nx.newN (t := t) R F F' kp (Heap.get?_none_of_le (Nat.le_succ _)) (N' _ (.head _)).1 (x := .list (ns'.map .int)) ⟨_, _, rfl, by simpa using ints_back hi⟩
  exact h _ _ _ (nx _) (ref_new (nx 0))
/-! texts of numbers -/
def decS (n : Int) : PySem.Str := PySem.Str.ofString (toString n)
theorem Op.str_int {n : Int} (h : n.natAbs.log2 < 1920) : Op W G k (fun _ l => call (.type "str") l) [.int n] σ (isV (.str (decS n))) σ := Op.mk fun C R hv hq => by
  obtain ⟨_, rfl, ⟨t, rfl⟩⟩ := hv.un
  exact PySem.P.str_of_int h (hq _ _ _ (Nx.same R) ⟨_, rfl⟩)
theorem Op.int_str {n : Int} (h0 : 0 ≤ n) (h1 : n < 10 ^ 10) : Op W G k (fun _ l => call (.type "int") l) [.str (decS n)] σ (isV (.int n)) σ := Op.mk fun C R hv hq => by
  obtain ⟨_, rfl, ⟨t, rfl⟩⟩ := hv.un
  exact KIN.call_num h0 h1 (hq _ _ _ (Nx.same R) ⟨_, rfl⟩)
end
end
section
open PySem PySem.W PyProof.Rows PySem.Spec PySem.Calls
section
variable {W : Wd} {G : Fx} {k : Nat} {σ σ₁ σ₂ σ₃ σ₄ σ' : St}
/-! slices -/
def isPart (p : Option Int) : Heap → List Addr → Value → Prop := fun _ _ v => ∃ q : Option (Int × Tok), q.map (·.1) = p ∧ v = partValue q
def Evp (W : Wd) (G : Fx) (k : Nat) (e : Option Expr) (σ : St) (p : Option Int) (σ' : St) : Prop := Tr W G k (evalPart e) σ (isPart p) σ'
theorem Evp.none : Evp W G k none σ none σ := Tr.mk fun C R h => wpAny_pure (h _ _ _ (Nx.self R) ⟨Option.none, rfl, rfl⟩)
theorem Evp.some {e : Expr} {i : Int} (h : Ev W G k e σ (.int i) σ₁) : Evp W G k (some e) σ (some i) σ₁ := Tr.mk fun C R hq => by
  show wpAny _ _ (eval e _) _ _ _
  exact h.run C R fun v s₁ ρ₁ n₁ r => hq _ _ _ n₁ (let ⟨t, e⟩ := r; ⟨Option.some (i, t), rfl, e⟩)
theorem isPart.part {p : Option Int} {q : Option (Int × Tok)} (h : q.map (·.1) = p) : IsPart (partValue q) p := by
  subst h
  cases q with
  | none => exact .none
  | some a => exact .int _ _
theorem Ev.slice_str {v : Expr} {lo hi : Option Expr} {p pos : Pos} {x : PySem.Str} {l u : Option Int} (hv : Ev W G k v σ (.str x) σ₁) (hl : Evp W G k lo σ₁ l σ₂) (hh : Evp W G k hi σ₂ u σ₃) (hz : x.length ≤ 100000) (ht : ∀ o r, letTemporaryGo v o r = pure ()) :
    Ev W G k (.Subscript v (.Slice lo hi none p) pos) σ (.str (Txt.slice x l u)) σ₃ := Tr.mk fun C R hq => by
  refine wpAny_Subscript_Slice PySem.F.slot_str_getitem.lookup (hv.run C R fun a s₁ ρ₁ n₁ ra => wpAny_Slice (hl.run C n₁.rel fun b s₂ ρ₂ n₂ rb => hh.run C n₂.rel fun c s₃ ρ₃ n₃ rc => wpAny_pure ⟨?_, ?_⟩)) ht
  · obtain ⟨t, rfl⟩ := ra; exact typeIs_str _ _ _
  · obtain ⟨t, rfl⟩ := ra
    obtain ⟨q1, rfl, rfl⟩ := rb
    obtain ⟨q2, rfl, rfl⟩ := rc
    refine wpAny_getItem_str_slice (l := q1) (u := q2) (st := Option.none) ⟨_, Heap.get?_push_size _ rfl, rfl, rfl⟩ rfl (post_val_or_str ⟨Nat.le_trans (Txt.slice_le x _ _) (by rw [sizeLine_eq]; omega), fun t' kk => ?_⟩)
    exact hq _ _ _ (((n₁.trans n₂).trans n₃).trans (Nx.kept n₃.rel fun b o e => Heap.get?_push_of_some _ e)) ⟨_, rfl⟩
theorem slicePick_upto {its : Array Value} {y : Int} (h : 0 ≤ y) : (slicePick its none (some y) none).toList = its.toList.take y.toNat := by
  have e : sliceBounds none (some y) none its.size = (((0 : Nat) : Int), ((min y.toNat its.size : Nat) : Int), 1) := by
    simp only [sliceBounds, Option.getD_none, show (1 : Int) > 0 by decide, if_true, if_neg (show ¬ (y < 0) by omega)]
    congr 1
    congr 1
    omega
  rw [kmk_pick_nat _ e]
  show (its.toList.drop 0).take (min y.toNat its.size - 0) = _
  rw [List.drop_zero, Nat.sub_zero, ← Array.length_toList, kmk_take_min]
theorem slicePick_from {its : Array Value} {x : Int} (h : 0 ≤ x) : (slicePick its (some x) none none).toList = its.toList.drop x.toNat := by
  have e : sliceBounds (some x) none none its.size = (((min x.toNat its.size : Nat) : Int), ((its.size : Nat) : Int), 1) := by
    simp only [sliceBounds, Option.getD_none, show (1 : Int) > 0 by decide, if_true, if_neg (show ¬ (x < 0) by omega)]
    congr 1
    omega
  rw [kmk_pick_nat _ e]
  show (its.toList.drop (min x.toNat its.size)).take (its.size - min x.toNat its.size) = _
  rw [← Array.length_toList, kmk_drop_min, List.take_of_length_le (by rw [List.length_drop]; omega)]
theorem Ev.slice_list {v : Expr} {lo hi : Option Expr} {p pos : Pos} {i : Nat} {vs ws : List MV} {l u : Option Int} (hv : Ev W G k v σ (.ref i) σ₁) (hl : Evp W G k lo σ₁ l σ₂) (hh : Evp W G k hi σ₂ u σ₃) (e : σ₃.st[i]? = some (.list vs)) (hz : vs.length ≤ 100000)
    (hw : ∀ {h : Heap} {ρ : List Addr} {its : Array Value}, Fa2 (RV h ρ) vs its.toList → Fa2 (RV h ρ) ws (slicePick its l u none).toList) (ht : ∀ o r, letTemporaryGo v o r = pure ()) :
    Ev W G k (.Subscript v (.Slice lo hi none p) pos) σ (.ref σ₃.st.length) { σ₃ with st := σ₃.st ++ [.list ws] } := Tr.mk fun C R hq => by
  refine wpAny_Subscript_Slice list_getitem_lookup (hv.run C R fun a s₁ ρ₁ n₁ ra => wpAny_Slice (hl.run C n₁.rel fun b s₂ ρ₂ n₂ rb => hh.run C n₂.rel fun c s₃ ρ₃ n₃ rc => wpAny_pure ?_)) ht
  obtain ⟨q1, rfl, rfl⟩ := rb
  obtain ⟨q2, rfl, rfl⟩ := rc
  obtain ⟨A, items, n, rfl, ha, hli, f⟩ := n₃.rel.list e ((ra.mono n₂.tk n₂.pre).mono n₃.tk n₃.pre)
  have n₄ := Nx.kept n₃.rel (t := s₃.toks) (h' := s₃.heap.push { cls := .type "slice", data := .fields #[partValue q1, partValue q2, .none] }) fun b o e => Heap.get?_push_of_some _ e
  refine ⟨(hli.isList.push _).typeIs (s := { s₃ with heap := s₃.heap.push { cls := .type "slice", data := .fields #[partValue q1, partValue q2, .none] } }), wpAny_getItem_list_slice (hli.isList.push _) (Heap.IsSliceOf.new ..) (isPart.part rfl) (isPart.part rfl) .none (by simp) ?_ (by rw [sizeLine_eq, f.size]; omega)⟩
  have nn := Nx.new n₄.rel (t := s₃.toks) (a := (s₃.heap.push { cls := .type "slice", data := .fields #[partValue q1, partValue q2, .none] }).objs.size) (x := .list ws) (h' := (s₃.heap.push { cls := .type "slice", data := .fields #[partValue q1, partValue q2, .none] }).push { cls := .type "list", data := .seq (slicePick items (q1.map (·.1)) (q2.map (·.1)) none) }) (fun b o e => Heap.get?_push_of_some _ e) (hnone _) (Heap.get?_push_size _ rfl)
    ⟨_, _, rfl, (hw f).mono fun _ _ q => q.mono (.of_keep fun b o e => Heap.get?_push_of_some _ (Heap.get?_push_of_some _ e)) (List.prefix_append _ _)⟩
  exact hq _ _ _ ((((n₁.trans n₂).trans n₃).trans n₄).trans nn) (ref_new nn)

/-! methods of strs -/
theorem Om.list {name : PySem.Str} {id : String} {i : Nat} {vs : List MV} (e : σ.st[i]? = some (.list vs)) (slot : Slot "list" name id) (hty : typeOf (.builtin id) = pure (.type "method_descriptor")) : Om W G k (.ref i) name (.builtin id) σ := Om.mk fun C R r hq => by
  obtain ⟨a, items, n, rfl, ha, hl, f⟩ := R.list e r
  exact getMethod_list_of slot hty hl.isList ⟨_, hl, rfl⟩ (hq _ (Nx.self R))
theorem Om.str {name : PySem.Str} {id : String} {x : PySem.Str} (slot : Slot "str" name id) (hty : typeOf (.builtin id) = pure (.type "method_descriptor")) : Om W G k (.str x) name (.builtin id) σ := Om.mk fun C R r hq => by
  obtain ⟨t, rfl⟩ := r
  exact getMethod_builtin (typeIs_str _ _ _) PySem.F.plainAttrs_str slot hty (fun a e => by cases e) (hq _ (Nx.self R))
end
end
section
open PySem PySem.W PyProof.Rows PySem.Spec PySem.Calls PySem.SeqAt
/-! the compiled patterns -/
theorem plainAttrs_re : PlainAttrs "re.Pattern" :=
  ⟨⟨"object.__getattribute__", by rw [typeLookup_type, builtinLookup_eq_fast]; kernel_rfl, by decide +kernel⟩, by rw [typeLookup_type, builtinLookup_eq_fast]; kernel_rfl⟩
theorem owner_re : Manifest.owners.lookup (String.ofList ['n', 'r', 'e', 't', 't', 'a', 'P', '.', 'e', 'r'].reverse) = some Manifest.sig_re_Pattern := by kernel_rfl
theorem slot_re_search : Slot "re.Pattern" "search" "re.Pattern.search" :=
  .of (owner := "re.Pattern") (n := "search") (by rw [typeLookup_type, builtinLookup_eq_fast]; kernel_rfl) (by decide +kernel) (by decide +kernel) (by decide +kernel)
    (by first | exact .inl (by decide +kernel) | exact .inr (by decide +kernel)) (by rw [isSubtype_type]; kernel_rfl)
theorem type_re_search : typeOf (.builtin "re.Pattern.search") = pure (.type "method_descriptor") := by show builtinType _ = _; rw [builtinType_eq_fast]; kernel_rfl
theorem entry_re_search : entryFor table "re.Pattern.search" = some Builtin.«re.Pattern.search» := entryFor_of_tree (by kernel_rfl)
theorem args_re_search (a b : Value) : argsOk "re.Pattern.search" ⟨[a, b], []⟩ := by
  unfold argsOk; rw [signature?_of (id := "re.Pattern.search") (n := ['h', 'c', 'r', 'a', 'e', 's']) (o := ['n', 'r', 'e', 't', 't', 'a', 'P', '.', 'e', 'r']) (by kernel_rfl) owner_re]; kernel_rfl

def reK : Frag := [(86, { cls := Value.type "tuple", data := Data.seq #[Value.int 14 0, Value.int 10 0, Value.int 4 0, Value.int 1 0, Value.int 1 0, Value.int 22 0, Value.int 0 0, Value.int 31 0, Value.int 16 0, Value.int 127 0, Value.int 0 0, Value.int 13 0, Value.int 7 0, Value.int 22 0, Value.int 0 0, Value.int 31 0, Value.int 16 0, Value.int 127 0, Value.int 0 0, Value.int 1 0] }),
  (87, { cls := Value.type "re.Pattern", data := Data.fields #[Value.str (Str.ofString "[\\x00-\\x1F\\x7F]") 389, Value.int 32 412, Value.int 0 0, Value.none, Value.none, Value.ref 86, Value.int 0 0] }),
  (91, { cls := Value.type "tuple", data := Data.seq #[Value.int 14 0, Value.int 14 0, Value.int 4 0, Value.int 1 0, Value.int 1 0, Value.int 9 0, Value.int 4294966783 0, Value.int 0 0, Value.int 0 0, Value.int 2147483648 0, Value.int 0 0, Value.int 0 0, Value.int 0 0, Value.int 0 0, Value.int 0 0, Value.int 13 0, Value.int 11 0, Value.int 9 0, Value.int 4294966783 0, Value.int 0 0, Value.int 0 0, Value.int 2147483648 0, Value.int 0 0, Value.int 0 0, Value.int 0 0, Value.int 0 0, Value.int 0 0, Value.int 1 0] }),
  (92, { cls := Value.type "re.Pattern", data := Data.fields #[Value.str (Str.ofString "[\\x00-\\x08\\x0A-\\x1F\\x7F]") 415, Value.int 32 446, Value.int 0 0, Value.none, Value.none, Value.ref 91, Value.int 0 0] })]
def isNoneFin : Option PySem.Fin → Bool
  | some (.done (.ret .none)) => true
  | _ => false
/-- a str in which neither pattern finds anything -/
def Safe (x : PySem.Str) : Prop := ∀ (a : Addr), a = 87 ∨ a = 92 → ∀ (t : Tok) (S : Setting), isNoneFin (peek reK S (Builtin.«re.Pattern.search» ⟨[.ref a, .str x t], []⟩)) = true

section
variable {W : Wd} {G : Fx} {k : Nat} {σ σ₁ σ₂ σ₃ σ₄ σ' : St}
def ReIn (W : Wd) : Prop := ∀ p ∈ reK, W.K.lookup p.1 = some p.2
theorem ReIn.isin (h : ReIn W) {hp : Heap} (X : W.K.In hp) : reK.In hp := fun a o e => X _ _ (h (a, o) (mem_lk e))
where mem_lk {a : Addr} {o : Obj} : ∀ {l : Frag}, l.lookup a = some o → (a, o) ∈ l
  | (k, v) :: r, e => by
    rw [List.lookup_cons] at e
    cases hb : a == k with
    | true => rw [hb] at e; cases e; rw [beq_iff_eq.mp hb]; exact List.mem_cons_self
    | false => rw [hb] at e; exact List.mem_cons_of_mem _ (mem_lk e)
theorem re_typeIs (h : ReIn W) {a : Addr} (ha : a = 87 ∨ a = 92) {s : Shared} (X : W.K.In s.heap) : s.TypeIs (.ref a) "re.Pattern" := by
  rcases ha with rfl | rfl
  · exact ⟨_, h.isin X 87 _ rfl, rfl⟩
  · exact ⟨_, h.isin X 92 _ rfl, rfl⟩
theorem Om.re (h : ReIn W) {a : Addr} (ha : a = 87 ∨ a = 92) : Om W G k (.lit (.ref a)) "search" (.builtin "re.Pattern.search") σ := Om.mk fun C R r hq => by
  have r : _ = Value.ref a := r
  subst r
  have X := C.K.keeps R.keep₀
  refine getMethod_builtin (re_typeIs h ha X) plainAttrs_re slot_re_search type_re_search (fun b e => ?_) (hq _ (Nx.self R))
  cases e
  rcases ha with rfl | rfl
  · exact ⟨_, h.isin X 87 _ rfl, rfl⟩
  · exact ⟨_, h.isin X 92 _ rfl, rfl⟩
theorem Op.search (h : ReIn W) {a : Addr} (ha : a = 87 ∨ a = 92) {x : PySem.Str} (hs : Safe x) : Op W G k (fun _ l => call (.builtin "re.Pattern.search") l) [.lit (.ref a), .str x] σ (isV .none) σ := Op.mk fun C R hv hq => by
  obtain ⟨_, _, rfl, r, ⟨t, rfl⟩⟩ := hv.two
  have r : _ = Value.ref a := r
  subst r
  have X := C.K.keeps R.keep₀
  refine wpAny_call_entry slot_re_search (re_typeIs h ha X) entry_re_search ?_ (args_re_search _ _)
  have hp := hs a ha t ⟨W.prog, W.w.params⟩
  cases e : peek reK ⟨W.prog, W.w.params⟩ (Builtin.«re.Pattern.search» ⟨[.ref a, .str x t], []⟩) with
  | none => rw [e] at hp; cases hp
  | some fin =>
    rw [e] at hp
    have : fin = .done (.ret .none) := by
      revert hp
      unfold isNoneFin
      split
      · rename_i q; intro _; exact (Option.some.inj q)
      · intro h; cases h
    subst this
    exact (Looks.of_peek (M := model W.prog W.w) (h.isin X) e).here ⟨_, rfl, hq _ _ _ (Nx.self R) rfl⟩

/-! kinds, identity -/
theorem Op.type_of {x : MV} {T : String} (hT : TyOf x σ T) (hnb : (Value.type T == Value.type "builtin_function_or_method") = false) : Op W G k (fun _ l => call (.type "type") l) [x] σ (isV (.lit (.type T))) σ := Op.mk fun C R hv hq => by
  obtain ⟨v, rfl, r⟩ := hv.un
  exact call_type_of (hT.run R r) hnb (hq _ _ _ (Nx.self R) rfl)
theorem Op.is_type {T : String} : Op W G k (t2 (compareOp .Is)) [.lit (.type T), .lit (.type T)] σ (isV (.bool true)) σ := Op.mk fun C R hv hq => by
  obtain ⟨_, _, rfl, r1, r2⟩ := hv.two
  have r1 : _ = Value.type T := r1
  have r2 : _ = Value.type T := r2
  subst r1 r2
  exact wpAny_pure (a := Value.bool (Value.type T == Value.type T)) (by rw [beq_self_eq_true]; exact hq _ _ _ (Nx.self R) rfl)
theorem Op.isnot_type {T : String} : Op W G k (t2 (compareOp .IsNot)) [.lit (.type T), .lit (.type T)] σ (isV (.bool false)) σ := Op.mk fun C R hv hq => by
  obtain ⟨_, _, rfl, r1, r2⟩ := hv.two
  have r1 : _ = Value.type T := r1
  have r2 : _ = Value.type T := r2
  subst r1 r2
  exact isnot_type_same (hq _ _ _ (Nx.self R) rfl)
theorem Op.isnot_bool {a b : Bool} : Op W G k (t2 (compareOp .IsNot)) [.bool a, .bool b] σ (isV (.bool (!(Value.bool a == Value.bool b)))) σ := Op.mk fun C R hv hq => by
  obtain ⟨_, _, rfl, r1, r2⟩ := hv.two
  have r1 : _ = Value.bool a := r1
  have r2 : _ = Value.bool b := r2
  subst r1 r2
  exact wpAny_pure (a := Value.bool (!(Value.bool a == Value.bool b))) (hq _ _ _ (Nx.self R) rfl)
theorem Et.or_no {x y : Expr} {pos : Pos} (h1 : Et W G k x σ false σ₁) (h2 : Et W G k y σ₁ false σ₂) : Et W G k (.BoolOp .Or [x, y] pos) σ false σ₂ := Tr.mk fun C R hq =>
  isTrue_or (h1.run C R fun b s₁ ρ₁ n₁ e => by
    have e : b = false := e
    subst e
    rw [if_neg (by simp)]
    exact isTrue_or (h2.run C n₁.rel fun b s₂ ρ₂ n₂ e => by
      have e : b = false := e
      subst e
      rw [if_neg (by simp)]
      exact isTrue_or_nil (hq _ _ _ (n₁.trans n₂) rfl)))

/-! strs -/
theorem strs_are {h : Heap} {ρ : List Addr} {ns : List PySem.Str} {vs : List Value} (f : Fa2 (RV h ρ) (ns.map .str) vs) : StrsAre vs ns := by
  induction ns generalizing vs with
  | nil => cases f; exact .nil
  | cons n ns ih => cases f with | cons r t => obtain ⟨tk, rfl⟩ := r; exact .cons _ _ (ih t)
theorem strs_back {h : Heap} {ρ : List Addr} {ns : List PySem.Str} {vs : List Value} (f : StrsAre vs ns) : Fa2 (RV h ρ) (ns.map .str) vs := by
  induction f with
  | nil => exact .nil
  | cons n t _ ih => exact .cons ⟨_, rfl⟩ ih
theorem Op.join {i : Nat} {x : PySem.Str} {ss : List PySem.Str} (e : σ.st[i]? = some (.list (ss.map .str))) (hz : (ss.map (·.length)).sum + ss.length * x.length ≤ 16777216) : Op W G k (fun _ l => call (.builtin "str.join") l) [.str x, .ref i] σ (isV (.str (Txt.join x ss))) σ := Op.mk fun C R hv hq => by
  obtain ⟨_, _, rfl, ⟨t, rfl⟩, r⟩ := hv.two
  obtain ⟨a, items, n, rfl, ha, hl, f⟩ := R.list e r
  exact join_list hl.isList (strs_are f) hz fun t' kk => hq _ _ _ (Nx.same R) ⟨_, rfl⟩
theorem Op.lower {x : PySem.Str} (h : Builtin.Str.tooLong (Txt.lower x).length = false) : Op W G k (fun _ l => call (.builtin "str.lower") l) [.str x] σ (isV (.str (Txt.lower x))) σ := Op.mk fun C R hv hq => by
  obtain ⟨_, rfl, ⟨t, rfl⟩⟩ := hv.un
  exact SC.lower h (hq _ _ _ (Nx.same R) ⟨_, rfl⟩)
theorem Op.upper {x : PySem.Str} (h : Builtin.Str.tooLong (Txt.upper x).length = false) : Op W G k (fun _ l => call (.builtin "str.upper") l) [.str x] σ (isV (.str (Txt.upper x))) σ := Op.mk fun C R hv hq => by
  obtain ⟨_, rfl, ⟨t, rfl⟩⟩ := hv.un
  exact SC.upper h (hq _ _ _ (Nx.same R) ⟨_, rfl⟩)
theorem Op.count_str {x y : PySem.Str} : Op W G k (fun _ l => call (.builtin "str.count") l) [.str x, .str y] σ (isV (.int (Txt.count x y))) σ := Op.mk fun C R hv hq => by
  obtain ⟨_, _, rfl, ⟨t, rfl⟩, ⟨u, rfl⟩⟩ := hv.two
  exact SC.count (hq _ _ _ (Nx.same R) ⟨_, rfl⟩)
theorem Op.sorted_strs {i : Nat} {ss ms : List PySem.Str} (e : σ.st[i]? = some (.list (ss.map .str))) (hu : ∀ ss', ss'.Perm ss → sortedS ss' = true → ss' = ms) (h64 : ss.length < 64) :
    Op W G k (fun _ l => call (.builtin "sorted") l) [.ref i] σ (isV (.ref σ.st.length)) { σ with st := σ.st ++ [.list (ms.map .str)] } := Op.mk fun C R hv h => by
  obtain ⟨_, rfl, r⟩ := hv.un
  obtain ⟨a, items, n, rfl, ha, hl, f⟩ := R.list e r
  obtain ⟨m, F⟩ := R.frame
  have hsz := f.size
  rw [List.length_map] at hsz
  refine sorted_N_str F (News.all (out := [])) (isListT hl) (strs_are f) (by rw [Array.length_toList]; omega) fun h' vs' ns' c F' N' hi hp' hs' => ?_
  have := hu _ hp' hs'
  subst this
  have kp := kp_all (rest := [_]) F F' N'
  have nx := fun t => Nx.newN (t := t) R F F' kp (Heap.get?_none_of_le (Nat.le_succ _)) (N' _ (.head _)).1 (x := .list (ns'.map .str)) ⟨_, _, rfl, by simpa using strs_back hi⟩
  exact h _ _ _ (nx _) (ref_new (nx 0))
theorem Op.list_str {x : PySem.Str} (hz : x.cps.size ≤ 100000) : Op W G k (fun _ l => call (.type "list") l) [.str x] σ (isV (.ref σ.st.length)) { σ with st := σ.st ++ [.list (x.cps.toList.map fun c => .str ⟨#[c]⟩)] } := Op.mk fun C R hv h => by
  obtain ⟨_, rfl, ⟨t, rfl⟩⟩ := hv.un
  refine call_list_str C.hh x t (fun h' tk acc c' hk ho hi => ?_) (by rw [sizeLine_eq]; omega)
  have nx := fun t => Nx.new (t := t) R hk (hnone _) ho (x := .list (x.cps.toList.map fun c => .str ⟨#[c]⟩)) ⟨_, _, rfl, ?_⟩
  · exact h _ _ _ (nx _) (ref_new (nx 0))
  · refine Fa2.of_get (by rw [List.length_map, Array.length_toList, Array.length_toList, hi.1]) fun j a b ea eb => ?_
    rw [List.getElem?_map, Array.getElem?_toList] at ea
    rw [Array.getElem?_toList] at eb
    obtain ⟨c, u, hc, rfl⟩ := hi.2 j b eb
    rw [hc] at ea
    cases ea
    exact ⟨_, rfl⟩

/-! lists compared -/
def FV.plainEq : FV → Bool
  | .int _ => true
  | .str _ => true
  | _ => false
theorem eqAt_same {A : Around} {s : Shared} {x : FV} (h : x.plainEq = true) {v w : Value} (r1 : RF x v) (r2 : RF x w) : EqAt A s v w true := by
  cases x with
  | int i => obtain ⟨t, rfl⟩ := r1; obtain ⟨u, rfl⟩ := r2; have := EqAt.int_int (A := A) (s := s) i t i u; rwa [beq_self_eq_true] at this
  | str i => obtain ⟨t, rfl⟩ := r1; obtain ⟨u, rfl⟩ := r2; have := EqAt.str_str (A := A) (s := s) i t i u; rwa [beq_self_eq_true] at this
  | none => cases h
  | bool b => cases h
theorem lists_same {i j : Nat} {xs : List FV} (e1 : σ.st[i]? = some (.list (xs.map .at))) (e2 : σ.st[j]? = some (.list (xs.map .at))) (hx : ∀ x ∈ xs, x.plainEq = true) {A : Around} {env : Env} {cl : List (PySem.Str × Addr)} {h₀ : Heap} {L : Addr} {ρ : List Addr} {s : Shared} {v w : Value} (C : Cx W G A env cl h₀ L k) (R : Rel h₀ L cl ρ σ s.heap) (r1 : RV s.heap ρ (.ref i) v) (r2 : RV s.heap ρ (.ref j) w) :
    RcAt A s v w true ∧ RcNeAt A s v w false := by
  obtain ⟨a, it1, n1, rfl, ha, hl1, f1⟩ := R.list e1 r1
  obtain ⟨b, it2, n2, rfl, hb, hl2, f2⟩ := R.list e2 r2
  have s1 := f1.size
  have s2 := f2.size
  have hu : A.units < cLine := Nat.lt_of_le_of_lt (Nat.le_add_right _ _) C.units
  have he : ∀ jj (h1 : jj < it1.size) (h2 : jj < it2.size), EqAt A.in1 s it1[jj] it2[jj] ((fun _ => true) jj) := by
    intro jj h1 h2
    have g1 := fa2_at f1
    have g2 := fa2_at f2
    obtain ⟨x, hx1, rx⟩ := g1.get' (i := jj) (b := it1[jj]) (by rw [Array.getElem?_toList, Array.getElem?_eq_getElem h1])
    obtain ⟨y, hy1, ry⟩ := g2.get' (i := jj) (b := it2[jj]) (by rw [Array.getElem?_toList, Array.getElem?_eq_getElem h2])
    rw [hx1] at hy1; cases hy1
    exact eqAt_same (hx x (List.mem_of_getElem? hx1)) rx ry
  have k1 := RcAt.lists (e := fun _ => true) hl1.isList hl2.isList (by omega) hu he
  have k2 := RcNeAt.lists (e := fun _ => true) hl1.isList hl2.isList (by omega) hu he
  have hall : (List.range it1.size).all (fun _ => true) = true := by simp
  rw [hall] at k1 k2
  exact ⟨k1, k2⟩
theorem Op.eq_same {i j : Nat} {xs : List FV} (e1 : σ.st[i]? = some (.list (xs.map .at))) (e2 : σ.st[j]? = some (.list (xs.map .at))) (hx : ∀ x ∈ xs, x.plainEq = true) : Op W G k (t2 (compareOp .Eq)) [.ref i, .ref j] σ (isV (.bool true)) σ := Op.mk fun C R hv hq => by
  obtain ⟨_, _, rfl, r1, r2⟩ := hv.two
  exact (lists_same e1 e2 hx C R r1 r2).1 _ _ _ _ (hq _ _ _ (Nx.self R) rfl)
theorem Op.ne_same {i j : Nat} {xs : List FV} (e1 : σ.st[i]? = some (.list (xs.map .at))) (e2 : σ.st[j]? = some (.list (xs.map .at))) (hx : ∀ x ∈ xs, x.plainEq = true) : Op W G k (t2 (compareOp .NotEq)) [.ref i, .ref j] σ (isV (.bool false)) σ := Op.mk fun C R hv hq => by
  obtain ⟨_, _, rfl, r1, r2⟩ := hv.two
  exact (lists_same e1 e2 hx C R r1 r2).2 _ _ _ _ (hq _ _ _ (Nx.self R) rfl)
end
end
section
open PySem PySem.W PyProof.Rows PySem.Spec PySem.Calls
section
variable {prog : Program} {w : World} {A : Around} {E : Value → Shared → Prop} {s : Shared}
theorem setItem_all {l sl l2 : Addr} {items new : Array Value} {n n2 : Nat} {Q : Unit → Shared → Prop} (hl : IsL s.heap l items n) (hs : s.heap.IsSliceOf sl .none .none .none) (h2 : IsL s.heap l2 new n2) (hne : l ≠ l2) (hz : items.size + new.size ≤ 100000)
    (h : ∀ f : Array Value → Array Value, f items = new → Q () { s with heap := s.heap.update l (Obj.mapSeq f) }) : wpAny (model prog w) A (setItem (.ref l) (.ref sl) (.ref l2)) Q E s := by
  obtain ⟨os, hos, hcs, hds⟩ := id hs
  have hTs : s.TypeIs (.ref sl) "slice" := ⟨os, hos, hcs⟩
  have hT2 : s.TypeIs (.ref l2) "list" := ⟨_, h2, rfl⟩
  unfold setItem
  try with_reducible refine wpAny_holding ?_
  first | refine wpAny_bind (wpAny_pure ?_) | skip
  refine wpAny_bind (wpAny_sequenceKey hl.isList.typeIs (by decide) ?_)
  refine wpAny_bind (wpAny_callSpecial?_slot (name := Str.ofString "__setitem__") hl.isList.typeIs slot_list_setitem
    (wpAny_call_entry slot_list_setitem hl.isList.typeIs entry_list_setitem ?_ (args_list_setitem _ _ _)))
  show wpAny _ _ (Builtin.List.listSubscript? (.ref sl) >>= _) _ _ s
  refine wpAny_bind ?_
  unfold Builtin.List.listSubscript?
  refine wpAny_bind (wpAny_specialOf hTs slice_no_index ?_)
  simp only [Option.isNone_none, if_true]
  refine wpAny_pure ?_
  show wpAny _ _ (typeOf (.ref sl) >>= _) _ _ s
  refine wpAny_bind (wpAny_typeOf hTs ?_)
  rw [if_neg (by decide)]
  rw [listSliceParts_eq]
  refine wpAny_bind (wpAny_bind (wpAny_field hos hds (x := .none) rfl (wpAny_bind (wpAny_listPart .none ?_))))
  rw [if_neg (show ¬ ((rawPart Option.none == rawInt 0) = true) from Bool.false_ne_true)]
  refine wpAny_bind (wpAny_field hos hds (x := .none) rfl (wpAny_bind (wpAny_listPart .none ?_)))
  refine wpAny_bind (wpAny_field hos hds (x := .none) rfl (wpAny_bind (wpAny_listPart .none (wpAny_pure ?_))))
  have hsr : Builtin.List.listSameRef (.ref l) (.ref l2) = false := by
    show (l == l2) = false
    exact beq_eq_false_iff_ne.mpr hne
  rw [hsr, if_neg Bool.false_ne_true]
  refine wpAny_bind (m := Builtin.List.listAllItems (.ref l2) _) ?_
  unfold Builtin.List.listAllItems
  refine wpAny_bind (wpAny_typeOf hT2 ?_)
  rw [if_pos (by decide)]
  have li : ∀ {a : Addr} {its : Array Value} {c : Nat} {Q : Array Value → Shared → Prop} {E : Value → Shared → Prop}, IsL s.heap a its c → Q its s → wpAny (model prog w) A.in1 (Builtin.List.listItems (.ref a)) Q E s := fun ha hq => by
    unfold Builtin.List.listItems
    exact wpAny_bind (wpAny_seqItems ha rfl (wpAny_pure hq))
  first
    | refine li h2 ?_
    | refine wpAny_bind (li h2 (wpAny_pure ?_))
  refine wpAny_bind (li hl ?_)
  refine wpAny_bind (wpAny_of_eq (sliceIndices_raw none none none items.size (by simp)) ?_)
  show wpAny _ _ (if ((1 : Int) == 1) = true then _ else _) _ _ s
  rw [if_pos (show ((1 : Int) == 1) = true from rfl)]
  refine wpAny_bind (wpAny_rule ?_)
  have hlong : Builtin.List.listTooLong (items.size + new.size) = false := by
    unfold Builtin.List.listTooLong
    rw [sizeLine_eq]
    exact decide_eq_false (by omega)
  rw [hlong, if_neg Bool.false_ne_true]
  refine wpAny_bind ?_
  have hf : (fun xs : Array Value => xs.extract 0 (sliceBounds none none none items.size).1.toNat ++ new ++ xs.extract (max (sliceBounds none none none items.size).1 (sliceBounds none none none items.size).2.1).toNat) items = new := by
    have e : sliceBounds none none none items.size = ((0 : Int), ((items.size : Nat) : Int), 1) := rfl
    rw [e]
    apply Array.toList_inj.mp
    simp
  refine wpAny_updateSeq hl rfl (wpAny_bind (wpAny_letGo (wpAny_pure ⟨.none, rfl, wpAny_pure (h _ hf)⟩))) (by rw [sizeLine_eq]; omega) ?_
  have := congrArg Array.size hf
  rw [this, sizeLine_eq]; omega
end

section
variable {W : Wd} {G : Fx} {k : Nat} {σ σ₁ σ₂ σ₃ σ₄ σ' : St}
theorem Cx.in1 {A : Around} {env : Env} {cl : List (PySem.Str × Addr)} {h₀ : Heap} {L : Addr} (C : Cx W G A env cl h₀ L (k + 1)) : Cx W G A.in1 env cl h₀ L k := by
  have h1 := C.room
  have h2 := C.units
  exact ⟨C.sc, C.loc, C.glo, C.bui, C.cel, C.knd, C.hh, by show A.depth + k < _; omega, by show A.units + 1 + 8 * k < _; omega, C.K, C.top, C.fr⟩
theorem Ex.setslice {value o : Expr} {p p' pos : Pos} {i j : Nat} {vs ws : List MV} (hv : Ev W G k value σ (.ref j) σ₁) (ho : Ev W G k o σ₁ (.ref i) σ₂) (e1 : σ₂.st[i]? = some (.list vs)) (e2 : σ₂.st[j]? = some (.list ws)) (hne : i ≠ j) (hz : vs.length + ws.length ≤ 100000)
    (hs : ∀ env : Env, env.scope = G.sc → swapsWith value (some (.Subscript o (.Slice none none none p) p')) pos.line env = pure false) : Ex W G k (.Assign [.Subscript o (.Slice none none none p) p'] value pos) σ .next { σ₂ with st := σ₂.st.set i (.list ws) } := Tr.mk fun C R hq => by
  refine wpAny_Assign_Subscript (hv.run C R fun a s₁ ρ₁ n₁ ra => ho.run C n₁.rel fun b s₂ ρ₂ n₂ rb => wpAny_Slice (wpAny_pure (wpAny_pure (wpAny_pure ?_)))) (hs _ C.sc)
  have n₃ := Nx.kept n₂.rel (t := s₂.toks) (h' := s₂.heap.push { cls := .type "slice", data := .fields #[.none, .none, .none] }) fun b o e => Heap.get?_push_of_some _ e
  have ra₂ := (ra.mono n₂.tk n₂.pre).mono n₃.tk n₃.pre
  have rb₂ := rb.mono n₃.tk n₃.pre
  obtain ⟨x, it1, c1, rfl, hx, hl1, f1⟩ := n₃.rel.list e1 rb₂
  obtain ⟨y, it2, c2, rfl, hy, hl2, f2⟩ := n₃.rel.list e2 ra₂
  have hxy : x ≠ y := fun q => by
    subst q
    have h1 := List.getElem?_eq_some_iff.mp hx
    exact hne ((List.getElem?_inj h1.1 n₃.rel.nodup).mp (by rw [hx, hy]))
  refine setItem_all (s := { s₂ with heap := s₂.heap.push { cls := .type "slice", data := .fields #[.none, .none, .none] } }) hl1 (Heap.IsSliceOf.new ..) hl2 hxy (by rw [f1.size, f2.size]; exact hz) fun f hf => ?_
  have nx := Nx.listUpd (s := { s₂ with heap := s₂.heap.push { cls := .type "slice", data := .fields #[.none, .none, .none] } }) n₃.rel (t := s₂.toks) (f := f) (vs' := ws) e1 hx hl1 (by rw [hf]; exact f2)
  exact hq _ _ _ (((n₁.trans n₂).trans n₃).trans nx) rfl

theorem Ex.assignC {x : PySem.Str} {p' p : Pos} {e : Expr} {v : MV} {i : Nat} (h1 : Ev W G k e σ v σ₁) (hl : G.sc.names.lookup x = some .cell) (hc : σ₁.cel.lookup x = some i) {v₀ : Option MV} (hi : σ₁.st[i]? = some (.cell v₀))
    (hs : ∀ env : Env, env.scope = G.sc → swapsWith e (some (.Name x p')) p.line env = pure false) : Ex W G k (.Assign [.Name x p'] e p) σ .next { σ₁ with st := σ₁.st.set i (.cell (some v)) } := Tr.mk fun C R hq =>
  wpAny_Assign_Name (h1.run C R fun a s₁ ρ₁ n₁ r => by
    obtain ⟨c, hcl, hρ⟩ := n₁.rel.cells x i hc
    obtain ⟨c', o, hρ', ho, ⟨v', hd, _⟩, hcL, hc0⟩ := n₁.rel.obj hi
    have : c' = c := by rw [hρ] at hρ'; exact (Option.some.inj hρ').symm
    subst this
    refine wpAny_storeName_cell C.kind ((C.kindOf x).trans hl) (C.cel ▸ hcl) ⟨o, ho, hd⟩ fun h' hcv hsb => ?_
    obtain ⟨o', ho', hd'⟩ := hcv
    have hil : i < σ₁.st.length := (List.getElem?_eq_some_iff.mp hi).1
    have tk : TupKeep s₁.heap h' := fun b ob its m e c d => by
      by_cases q : b = c'
      · subst q; rw [ho] at e; cases e; rw [hd] at d; cases d
      · exact (hsb.2 b q).trans e
    have nx := Nx.upd n₁.rel (t := s₁.toks) hρ hil (fun b ob q e => (hsb.2 b q).trans e) ho' (x' := .cell (some v)) ⟨_, hd', _, rfl, r.mono tk (List.prefix_refl _)⟩
    exact hq _ _ _ (n₁.trans nx) rfl) (hs _ C.sc)

theorem Ex.setattr {value o : Expr} {name : PySem.Str} {p' pos : Pos} {i d : Nat} {C : Addr} {v : MV} (hv : Ev W G k value σ v σ₁) (ho : Ev W G k o σ₁ (.ref i) σ₂) (hi : σ₂.st[i]? = some (.inst C d)) (hd : σ₂.st[d]? = some (.dict []))
    (hs' : findIn W.K (.ref C) "__setattr__" = some (some (.builtin "object.__setattr__"))) (hp : plainOver W.K C = true) (ht : takerIn W.K C name = some none) (hh : hasDictIn W.K C = true)
    (hs : ∀ env : Env, env.scope = G.sc → swapsWith value (some (.Attribute o name p')) pos.line env = pure false) : Ex W G k (.Assign [.Attribute o name p'] value pos) σ .next { σ₂ with st := σ₂.st.set d (.dict [(name, v)]) } := Tr.mk fun Cx R hq =>
  plainObj_wpAny_Assign_Attribute (hv.run Cx R fun a s₁ ρ₁ n₁ ra => ho.run Cx n₁.rel fun b s₂ ρ₂ n₂ rb => setAttr_dict Cx n₂.rel hi hd rb (ra.mono n₂.tk n₂.pre) hs' hp ht hh fun s' nx => hq _ _ _ ((n₁.trans n₂).trans nx) rfl) (hs _ Cx.sc)

/-! what an object's own methods answer -/
theorem Ex.setitem_inst {value o ix : Expr} {p' pos : Pos} {i d : Nat} {C f : Addr} {kv : List (PySem.Str × MV)} {v key : MV} {st' : List MO} {z : MV} (hfn : G.fn = true) (hv : Ev W G k value σ v σ₁) (ho : Ev W G k o σ₁ (.ref i) σ₂) (hk : Ev W G k ix σ₂ key σ₃) (hi : σ₃.st[i]? = some (.inst C d)) (hd : σ₃.st[d]? = some (.dict kv))
    (hq' : noSeq W.K C = true) (hs' : findIn W.K (.ref C) "__setitem__" = some (some (.ref f))) (hf : isFn W.K (.ref f) = true) (hc : Ec W k f [.ref i, key, v] [] σ₃.st z st')
    (hs : ∀ env : Env, env.scope = G.sc → swapsWith value (some (.Subscript o ix p')) pos.line env = pure false) : Ex W G k (.Assign [.Subscript o ix p'] value pos) σ .next { σ₃ with st := st' } := Tr.mk fun Cx R hq =>
  wpAny_Assign_Subscript (hv.run Cx R fun a s₁ ρ₁ n₁ ra => ho.run Cx n₁.rel fun b s₂ ρ₂ n₂ rb => hk.run Cx n₂.rel fun c s₃ ρ₃ n₃ rc => by
    have rb₃ := rb.mono n₃.tk n₃.pre
    have ra₃ := (ra.mono n₂.tk n₂.pre).mono n₃.tk n₃.pre
    obtain ⟨x, a', es, n, rfl, hx, ha', hox, hoa, I, fa⟩ := n₃.rel.inst hi hd rb₃
    obtain ⟨m, objs, F, _⟩ := n₃.rel.ex
    refine ksp_setItem F Cx.K I hq' hs' hf (wpAny_call (hc.run hfn Cx n₃.rel rfl (.cons rb₃ (.cons rc (.one ra₃))) .nil fun v' s' ρ' nx _ => ?_))
    exact hq _ _ _ (((n₁.trans n₂).trans n₃).trans nx) rfl) (hs _ Cx.sc)
theorem Ex.delitem_inst {o ix : Expr} {p' pos : Pos} {i d : Nat} {C f : Addr} {kv : List (PySem.Str × MV)} {key : MV} {st' : List MO} {z : MV} (hfn : G.fn = true) (ho : Ev W G k o σ (.ref i) σ₁) (hk : Ev W G k ix σ₁ key σ₂) (hi : σ₂.st[i]? = some (.inst C d)) (hd : σ₂.st[d]? = some (.dict kv))
    (hq' : noSeq W.K C = true) (hs' : findIn W.K (.ref C) "__delitem__" = some (some (.ref f))) (hf : isFn W.K (.ref f) = true) (hc : Ec W k f [.ref i, key] [] σ₂.st z st') : Ex W G k (.Delete [.Subscript o ix p'] pos) σ .next { σ₂ with st := st' } := Tr.mk fun Cx R hq =>
  wpAny_Delete (wpAny_deleteEach_cons (wpAny_delete_Subscript (ho.run Cx R fun b s₂ ρ₂ n₂ rb => hk.run Cx n₂.rel fun c s₃ ρ₃ n₃ rc => by
    have rb₃ := rb.mono n₃.tk n₃.pre
    obtain ⟨x, a', es, n, rfl, hx, ha', hox, hoa, I, fa⟩ := n₃.rel.inst hi hd rb₃
    obtain ⟨m, objs, F, _⟩ := n₃.rel.ex
    have X := Cx.K.keeps F.keep
    unfold delItem sequenceKey
    refine wpAny_holding (wpAny_bind (wpAny_bind (I.type.here ?_)))
    refine wpAny_bind ((anyM_none X hq').here ?_)
    rw [if_pos (show (!false) = true from rfl)]
    refine wpAny_pure (wpAny_bind (special_fn X I hs' (beq_iff_eq.mp hf) (wpAny_call (hc.run hfn Cx n₃.rel rfl (.cons rb₃ (.one rc)) .nil fun v' s' ρ' nx _ => ?_))))
    exact wpAny_pure (wpAny_deleteEach_nil (hq _ _ _ ((n₂.trans n₃).trans nx) rfl)))))
theorem Op.len_inst {i d : Nat} {C f : Addr} {kv : List (PySem.Str × MV)} {n : Int} (hfn : G.fn = true) (hi : σ.st[i]? = some (.inst C d)) (hd : σ.st[d]? = some (.dict kv)) (hs' : findIn W.K (.ref C) "__len__" = some (some (.ref f))) (hf : isFn W.K (.ref f) = true)
    (hc : Ec W k f [.ref i] [] σ.st (.int n) σ.st) (h0 : 0 ≤ n) (h1 : n < 2 ^ 63) : Op W G (k + 1) (fun _ l => call (.builtin "len") l) [.ref i] σ (isV (.int n)) σ := Op.mk fun Cx R hv hq => by
  obtain ⟨v, rfl, r⟩ := hv.un
  obtain ⟨x, a', es, c, rfl, hx, ha', hox, hoa, I, fa⟩ := R.inst hi hd r
  obtain ⟨m, objs, F, _⟩ := R.ex
  refine len_K F Cx.K I hs' hf (wpAny_call (hc.run hfn Cx.in1 R rfl (.one r) .nil fun v' s' ρ' nx rv => ?_))
  obtain ⟨t, rfl⟩ := rv
  exact ⟨⟨h0, h1⟩, hq _ _ _ (nx.trans (Nx.same nx.rel)) ⟨_, rfl⟩⟩
end
end
section
open PySem PySem.W PyProof.Rows PySem.Spec PySem.Calls
section
variable {W : Wd} {G : Fx} {k : Nat} {σ σ₁ σ₂ σ₃ σ₄ σ' : St}
theorem Ev.neg {e : Expr} {p : Pos} {a : Int} (h : Ev W G k e σ (.int a) σ₁) : Ev W G k (.UnaryOp .USub e p) σ (.int (-a)) σ₁ := Tr.mk fun C R hq =>
  wpAny_UnaryOp (h.run C R fun v s₁ ρ₁ n₁ r => by
    obtain ⟨t, rfl⟩ := r
    exact PyProof.Rows.neg_int (hq _ _ _ (n₁.trans (Nx.same n₁.rel)) ⟨_, rfl⟩))
theorem Ev.debug {p : Pos} : Ev W G k (.Name ("__debug__" : PySem.Str) p) σ (.bool true) σ := Tr.mk fun C R hq => by
  rw [arm_eval_Name]
  refine wpAny_bind (wpAny_standAt ?_)
  rw [if_pos (by rfl)]
  exact wpAny_bind (wpAny_rule (wpAny_pure (hq _ _ _ (Nx.self R) rfl)))
/-- a test that is a value's own truth -/
theorem Et.ofV {e : Expr} {b : Bool} (h : Ev W G k e σ (.bool b) σ₁) (hi : ∀ env s, isTrue e env s = (do truthy (← s)) := by exact fun _ _ => rfl) : Et W G k e σ b σ₁ := Tr.mk fun C R hq => by
  rw [hi]
  exact wpAny_bind (h.run C R fun v s₁ ρ₁ n₁ r => by
    have r : v = .bool b := r
    subst r
    exact wpAny_truthy_bool (hq _ _ _ n₁ rfl))

theorem w_cls (C : Addr) (vs : List Value) (kw : List (PySem.Str × Value)) : (Code.builtin "type.__call__" ⟨.ref C :: vs, kw⟩).weight = 1 := by rfl
theorem u_cls (C : Addr) (vs : List Value) (kw : List (PySem.Str × Value)) : (Code.builtin "type.__call__" ⟨.ref C :: vs, kw⟩).cUnits = 1 := by rfl
theorem Cx.under {A : Around} {env : Env} {cl : List (PySem.Str × Addr)} {h₀ : Heap} {L C : Addr} {vs : List Value} {kw : List (PySem.Str × Value)} (X : Cx W G A env cl h₀ L (k + 1)) : Cx W G (A.under (.builtin "type.__call__" ⟨.ref C :: vs, kw⟩)) env cl h₀ L k := by
  have h1 := X.room
  have h2 := X.units
  refine ⟨X.sc, X.loc, X.glo, X.bui, X.cel, X.knd, X.hh, ?_, ?_, X.K, X.top, ?_⟩
  · show A.depth + (Code.builtin "type.__call__" ⟨.ref C :: vs, kw⟩).weight + k < _
    rw [w_cls]; omega
  · show A.units + (Code.builtin "type.__call__" ⟨.ref C :: vs, kw⟩).cUnits + 8 * k < _
    rw [u_cls]; omega
  · intro hf
    exact X.fr hf

/-- an object made: a dict and an object onto the store, then its __init__ -/
theorem Nx.two {h₀ : Heap} {L : Addr} {cl : List (PySem.Str × Addr)} {ρ : List Addr} {s : Shared} {m : PySem.Str → Option Value} {h' : Heap} {dx x C : Addr} (R : Rel h₀ L cl ρ σ s.heap) (F : Fr h₀ L s.heap m) (F' : Fr h₀ L h' m)
    (N' : News h₀ L h' ((x, instObj C dx) :: (dx, dictOf [] 0) :: allNews h₀ s.heap L [])) (hd : ∀ p ∈ allNews h₀ s.heap L [], p.1 < dx) (hx : dx < x) :
    Nx h₀ L cl ρ s { σ with st := σ.st ++ [.dict [], .inst C σ.st.length] } (ρ ++ [dx, x]) { s with heap := h' } := by
  have kp : ∀ b o, b ≠ L → s.heap.get? b = some o → h'.get? b = some o := kp_all F F' (rest := [(x, instObj C dx), (dx, dictOf [] 0)]) N'
  have z1 := N' (x, instObj C dx) (.head _)
  have z2 := N' (dx, dictOf [] 0) (.tail _ (.head _))
  have fresh : ∀ a, dx ≤ a → a ≠ L → h₀.get? a = none → s.heap.get? a = none := fun a h1 h2 h3 => by
    cases q : s.heap.get? a with
    | none => rfl
    | some o =>
      have := hd (a, o) (allNews_mem.mpr ⟨q, h2, by simp, h3⟩)
      exact absurd this (Nat.not_lt_of_le h1)
  have f1 := fresh dx (Nat.le_refl _) z2.2.1 z2.2.2
  have f2 := fresh x (Nat.le_of_lt hx) z1.2.1 z1.2.2
  have tk := tk_ns F.ns kp
  have low := fun a (q : a ∈ ρ) => R.low q
  have hlen := R.len
  refine ⟨List.prefix_append _ _, ?_, .of_eq rfl rfl, tk, fun b o e _ h2 => kp b o h2 e, fun b h1 h2 => ?_⟩
  · obtain ⟨⟨m', objs, Fm, N, el, f, l⟩, nd, ce⟩ := R.keepN F F' kp
    have pf : ρ <+: ρ ++ [dx, x] := List.prefix_append _ _
    have na : dx ∉ ρ := fun q => by obtain ⟨o', e', _⟩ := low dx q; rw [f1] at e'; cases e'
    have nb : x ∉ ρ := fun q => by obtain ⟨o', e', _⟩ := low x q; rw [f2] at e'; cases e'
    refine ⟨⟨m', objs ++ [dictOf [] 0, instObj C dx], Fm, fun p hp => ?_, by simp [el], (f.mono fun _ _ r => r.mono (TupKeep.refl _) pf).append (.cons ⟨[], 0, rfl, .nil⟩ (.one ⟨dx, ?_, rfl⟩)), fun y v e => ?_⟩, ?_, fun y i e => ?_⟩
    · rw [List.zip_append el.symm] at hp
      rcases List.mem_append.mp hp with hp | hp
      · exact N p hp
      · rw [List.zip_cons_cons, List.zip_cons_cons, List.zip_nil_left] at hp
        rcases List.mem_cons.mp hp with rfl | hp
        · exact z2
        · rw [List.mem_singleton] at hp; subst hp; exact z1
    · rw [hlen, List.getElem?_append_right (Nat.le_refl _), Nat.sub_self]; rfl
    · obtain ⟨v', b, c⟩ := l y v e; exact ⟨v', b, c.mono (TupKeep.refl _) pf⟩
    · rw [List.nodup_append]
      refine ⟨nd, by simp; exact Nat.ne_of_lt hx, fun y hy u hu => ?_⟩
      rcases List.mem_cons.mp hu with rfl | hu
      · exact fun q => na (q ▸ hy)
      · rw [List.mem_singleton] at hu; subst hu
        exact fun q => nb (q ▸ hy)
    · obtain ⟨b, h1, h2⟩ := ce y i e
      exact ⟨b, h1, by rw [List.getElem?_append_left (List.getElem?_eq_some_iff.mp h2).1]; exact h2⟩
  · rcases List.mem_append.mp h1 with q | q
    · exact absurd q h2
    · rcases List.mem_cons.mp q with rfl | q
      · exact f1
      · rw [List.mem_singleton] at q; subst q; exact f2
theorem Oc.cls {C fI : Addr} {st' : List MO} (hfn : G.fn = true) (hm : makesIn W.K C = true) (hi : findIn W.K (.ref C) "__init__" = some (some (.ref fI))) (hf : isFn W.K (.ref fI) = true)
    (hc : Ec W k fI [.ref (σ.st.length + 1)] [] (σ.st ++ [.dict [], .inst C σ.st.length]) .none st') : Oc W G (k + 1) (.ref C) [] [] σ (.ref (σ.st.length + 1)) { σ with st := st' } := OcP.mk fun Cx R hv hk hq => by
  cases hv
  cases hk
  obtain ⟨m, objs, F, _⟩ := id R.ex
  refine call_cls F (Cx.K.keeps (fun _ _ e => e)) (News.all (out := [])) hm hi hf fun x dx h' F' N' hd hx => ?_
  have nx := Nx.two R F F' N' hd hx
  have rx : RV h' (_ ++ [dx, x]) (.ref (σ.st.length + 1)) (.ref x) := ⟨x, by rw [R.len, List.getElem?_append_right (Nat.le_succ _)]; simp, rfl⟩
  refine codeAny_mono (hc.run hfn Cx.under nx.rel rfl (.one rx) .nil (Q := fun v s' => v = .none ∧ _) fun v s' ρ' n r => ⟨r, hq _ _ _ (nx.trans n) (rx.mono n.tk n.pre)⟩) ?_
  intro r s' h
  match r, h with
  | .ok (.ret v), h => exact ⟨h.1, h.2⟩
end
end
section
open PySem PySem.W PyProof.Rows PySem.Spec PySem.Calls
section
variable {W : Wd} {G : Fx} {k : Nat} {σ σ₁ σ₂ σ₃ σ₄ σ' : St}
/-- a list's item stored, counted from its end -/
theorem Ex.setitem_back {value o ix : Expr} {p' pos : Pos} {i : Nat} {vs : List MV} {v : MV} {j : Int} (hv : Ev W G k value σ v σ₁) (ho : Ev W G k o σ₁ (.ref i) σ₂) (hk : Ev W G k ix σ₂ (.int j) σ₃) (hi : σ₃.st[i]? = some (.list vs)) (h0 : j < 0) (h1 : -(vs.length : Int) ≤ j) (h2 : -(2 ^ 63) ≤ j)
    (hs : ∀ env : Env, env.scope = G.sc → swapsWith value (some (.Subscript o ix p')) pos.line env = pure false) : Ex W G k (.Assign [.Subscript o ix p'] value pos) σ .next { σ₃ with st := σ₃.st.set i (.list (vs.set (j + vs.length).toNat v)) } := Tr.mk fun Cx R hq =>
  wpAny_Assign_Subscript (hv.run Cx R fun a s₁ ρ₁ n₁ ra => ho.run Cx n₁.rel fun b s₂ ρ₂ n₂ rb => hk.run Cx n₂.rel fun c s₃ ρ₃ n₃ rc => by
    have rb₃ := rb.mono n₃.tk n₃.pre
    have ra₃ := (ra.mono n₂.tk n₂.pre).mono n₃.tk n₃.pre
    obtain ⟨t, rfl⟩ := rc
    obtain ⟨x, its, n, rfl, hx, hl, f⟩ := n₃.rel.list hi rb₃
    have hsz := f.size
    refine ki_setBack (n := n) hl h0 (by rw [hsz]; exact h1) h2 ?_
    have nx := Nx.listUpd n₃.rel (t := s₃.toks) (f := (·.setIfInBounds (j + its.size).toNat a)) (vs' := vs.set (j + vs.length).toNat v) hi hx hl (by
      rw [Array.toList_setIfInBounds, hsz]; exact f.set ra₃)
    exact hq _ _ _ (((n₁.trans n₂).trans n₃).trans nx) rfl) (hs _ Cx.sc)

/-! a def with ** parameters, none given -/
structure TrI (W : Wd) (F : Fx) (k : Nat) (i : Nat) {α : Type} (t : Env → Sem α) (σ : St) (P : Heap → List Addr → α → Prop) (σ' : St) : Prop where
  run : ∀ {A : Around} {env : Env} {cl : List (PySem.Str × Addr)} {h₀ : Heap} {L : Addr} {ρ : List Addr} {s : Shared} {Q : α → Shared → Prop},
    Cx W F A env cl h₀ L k → Rel h₀ L cl ρ σ s.heap → (∃ a, ρ[i]? = some a ∧ (a == sysModules) = false) → (∀ a s' ρ', Nx h₀ L cl ρ s σ' ρ' s' → P s'.heap ρ' a → Q a s') → wpAny W.M A (t env) Q (fun _ _ => False) s
def ExsI (W : Wd) (F : Fx) (k i : Nat) (sts : List Stmt) (σ : St) (P : Fl → St → Prop) : Prop := ∃ fl σ', TrI W F k i (execs sts) σ (fun h ρ f' => RFl h ρ fl f') σ' ∧ P fl σ'
variable {P : Fl → St → Prop} {i : Nat}
theorem ExsI.of {sts : List Stmt} (h : ExsP W G k sts σ P) : ExsI W G k i sts σ P := by
  obtain ⟨fl, σ', a, b⟩ := h
  exact ⟨fl, σ', TrI.mk fun C R _ hq => a.run C R hq, b⟩
theorem ExsI.cons {st : Stmt} {rest : List Stmt} (h1 : Ex W G k st σ .next σ₁) (h2 : ExsI W G k i rest σ₁ P) : ExsI W G k i (st :: rest) σ P := by
  obtain ⟨fl, σ', a, b⟩ := h2
  refine ⟨fl, σ', TrI.mk fun C R hD hq => ?_, b⟩
  refine wpAny_execs_cons (h1.run C R fun f s₁ ρ₁ n₁ e => ?_)
  have e : f = .next := e
  subst e
  obtain ⟨a', e1, e2⟩ := hD
  exact a.run C n₁.rel ⟨a', by obtain ⟨t, rfl⟩ := n₁.pre; rw [List.getElem?_append_left (List.getElem?_eq_some_iff.mp e1).1]; exact e1, e2⟩ fun g s₂ ρ₂ n₂ r => hq _ _ _ (n₁.trans n₂) r
theorem DictAt_nil {prog : Program} {w : World} {h : Heap} {a : Addr} {es : List DictEntry} {n : Nat} (e : h.get? a = some (dictOf es n)) (he : es = []) : h.DictAt (PySem.strKind prog w) a [] n := by
  subst he
  exact ⟨_, #[], e, ⟨rfl, rfl, rfl⟩, rfl, (fun x hx => by cases hx with | mk q => cases q), .nil, List.nodup_nil⟩
theorem ExsI.items0 {x xk xv : PySem.Str} {px pk pv pt apos cpos pos : Pos} {x1 : Nat} {body rest : List Stmt} (hl : G.sc.names.lookup x = some .local) (hv : σ.loc.lookup x = some (.ref i)) (hd : (x == ("__debug__" : PySem.Str)) = false) (hi : σ.st[i]? = some (.dict [])) (hxk : G.sc.names.lookup xk = some .local) (hxv : G.sc.names.lookup xv = some .local) (hline : (apos.endLine == cpos.line) = true) (h2 : ExsP W G k rest σ P) :
    ExsI W G k i (.For (.Tuple [.Name xk pk, .Name xv pv] x1 pt) (.Call (.Attribute (.Name x px) "items" apos) [] [] cpos) body [] pos :: rest) σ P := by
  obtain ⟨fl, σ', a, b⟩ := h2
  refine ⟨fl, σ', TrI.mk fun {A env cl h₀ L ρ s Q} C R hD hq => ?_, b⟩
  obtain ⟨D, e1, e2⟩ := hD
  obtain ⟨D', o, e1', ho, ⟨es, n, rfl, f⟩, hDL, hD0⟩ := R.obj hi
  have : D' = D := by rw [e1] at e1'; exact (Option.some.inj e1').symm
  subst this
  have hes := f.nil'
  obtain ⟨m, v', Fm, hm, rv⟩ := R.local hv
  obtain ⟨D'', e1'', rfl⟩ := rv
  have : D'' = D' := by rw [e1] at e1''; exact (Option.some.inj e1'').symm
  subst this
  refine wpAny_execs_cons (wpAny_For_items_locals (knd := PySem.strKind W.prog W.w) (d := D'') (kvs := []) (ep := n) C.hh ((C.kindOf xk).trans hxk) ((C.kindOf xv).trans hxv) C.hp (C.loc ▸ hDL) e2 (DictAt_nil ho hes) (C.loc ▸ Fm.ns) rfl hline
    (fun Q' hQ' => wpAny_Name (wpAny_loadName_local C.kind ((C.kindOf x).trans hl) (C.loc ▸ Fm.ns) hm hQ') hd) (fun j m' => m' = m) rfl (fun j kk v key m₁ s₁ e => by cases e) (fun h' tk m' hn' hJ hk => ?_) (hE := PassesOwn.never))
  subst hJ
  rw [C.loc] at hn' hk
  have F' : Fr h₀ L h' m' := ⟨hn', fun b o e => hk b o (fun q => by subst q; have := Heap.lt_size e; exact absurd (Nat.lt_of_lt_of_le this R.above) (Nat.lt_irrefl _)) (Fm.keep b o e), Fm.above⟩
  have nx := Nx.keptN (t := tk) R Fm F' hk
  exact a.run C nx.rel fun g s₂ ρ₂ n₂ r => hq _ _ _ (nx.trans n₂) r
end
end
section
open PySem PySem.W PyProof.Rows PySem.Spec PySem.Calls
section
variable {W : Wd} {k : Nat} {f : Addr} {xs : List MV} {kw bs : List (PySem.Str × MV)} {st st' : List MO} {z : MV} {oc : Value} {od : Option Addr} {osl : Array (Option Value)} {name qual : PySem.Str} {params : Arguments} {body : List Stmt} {scope : Scope}
  {dV kV doc pm cdv ct : Value} {an : Option Addr}
theorem wp_peek1 {α : Type} {K : Frag} {M : Model} {A : Around} {E : Value → Shared → Prop} {Q : α → Shared → Prop} {s : Shared} {o : Obj} {r : Addr → α} (X : K.In s.heap)
    (q : Q (r s.heap.objs.size) { s with heap := s.heap.push o }) : ∀ (t : Sem α) (g : Addr → Option α), peek1 K ⟨M.prog, M.w.params⟩ t = some (o, g) → (∀ D, g D = some (r D)) → wpAny M A t Q E s := by
  intro t
  induction t with
  | rule _ k ih => intro g e hg Γ p hΓ; exact ih () g e hg Γ p hΓ
  | point _ k ih => intro g e hg Γ p hΓ; exact ih () g e hg Γ p hΓ
  | ask k ih => intro g e hg Γ p hΓ; exact ih _ g e hg Γ p hΓ
  | load a _ k ih =>
    intro g e hg Γ p hΓ
    simp only [peek1] at e
    split at e
    · rename_i ob ho; exact ⟨ob, X _ _ ho, ih ob g e hg Γ p hΓ⟩
    · cases e
  | alloc ob k _ =>
    intro g e hg
    have e : some (ob, fun D => peek K ⟨M.prog, M.w.params⟩ (k D)) = some (o, g) := e
    obtain ⟨e1, e2⟩ := Prod.mk.inj (Option.some.inj e)
    subst e1
    subst e2
    have X' : K.In (s.heap.push ob) := X.keeps fun b x hb => Heap.get?_push_of_some _ hb
    show wpAny M A (alloc ob >>= k) Q E s
    refine wpAny_bind (wpAny_alloc ?_)
    exact (Looks.of_peek (M := M) (h := s.heap.push ob) X' (hg s.heap.objs.size)).here (s := { s with heap := s.heap.push ob }) q
  | _ => intro g e; cases e

def BindsK (W : Wd) (fd : FuncData) (xs : List MV) (kw : List (PySem.Str × MV)) (bs : List (PySem.Str × MV)) (nm : PySem.Str) : Prop :=
  ∀ (s : Shared) (ρ : List Addr) (vs : List Value) (kvs : List (PySem.Str × Value)), W.K.In s.heap → Fa2 (RV s.heap ρ) xs vs → Fa2 (fun p q => p.1 = q.1 ∧ RV s.heap ρ p.2 q.2) kw kvs →
    ∃ bs' g, peek1 W.K ⟨W.M.prog, W.M.w.params⟩ (bindArgs fd ⟨vs, kvs⟩) = some (dictOf [] 0, g) ∧ (∀ D, g D = some (bs' ++ [(nm, .ref D)])) ∧ Fa2 (fun p q => p.1 = q.1 ∧ RV s.heap ρ p.2 q.2) bs bs'

theorem Ec.fnK {nm : PySem.Str} (hK : W.K.lookup f = some ⟨oc, od, .func (fnX name qual params body scope [] dV kV doc pm an cdv ct), osl⟩) (hcd : codeIn W.K cdv qual = true)
    (hb : BindsK W (fnX name qual params body scope [] dV kV doc pm an cdv ct) xs kw bs nm) (hloc : ((bs ++ [(nm, MV.none)]).all fun p => scope.names.lookup p.1 == some .local) = true)
    (hlen : st.length ≤ st'.length) (hlow : (∀ x ∈ st, x.low st.length) → (∀ x ∈ xs, x.low st.length) → (∀ x ∈ st', x.low st'.length) ∧ z.low st'.length)
    (hbody : ExsI W ⟨scope, true⟩ k st.length body ⟨(bs ++ [(nm, MV.ref st.length)]).reverse, [], st ++ [.dict []]⟩ (Ends z st'))
    (hco : scope.isCoroutine = false := by rfl) (hgen : scope.isGenerator = false := by rfl) (hk : scope.kind = .function := by rfl) (hcell : (scope.names.all fun x => !(x.2 == .cell)) = true := by rfl) : Ec W (k + 1) f xs kw st z st' := by
  constructor
  intro F A env cl h₀ L ρ s σ vs kvs Q hfn C R hσ hvs hkvs hQ
  obtain ⟨fl, σ', hbody, ⟨sx, hst⟩, hz⟩ := hbody
  subst hσ hz
  have hlo := hlow R.lows fun x hx => by rw [R.len]; exact (let ⟨_, r⟩ := hvs.left hx; r.low')
  obtain ⟨hlow, hzl⟩ := hlo
  have hcell : ∀ x ∈ scope.names, x.2 ≠ .cell := fun x hx => by simpa using List.all_eq_true.mp hcell x hx
  obtain ⟨hf, A₀, base, outer, B, hA⟩ := C.fr hfn
  obtain ⟨mean, mg, mb, T⟩ := C.top
  obtain ⟨⟨m, objs, Fm, N, el, fo, l⟩, nd, ce⟩ := id R
  have hkin : W.K.In s.heap := C.K.keeps Fm.keep
  obtain ⟨bs', g, hpk, hg, hbr⟩ := hb s ρ vs kvs hkin hvs hkvs
  obtain ⟨FG, BG, stay, _⟩ := groundX (R := fun _ _ => True) B Fm N hA hf (by rw [C.kind])
  rw [news_fst el] at FG BG stay
  refine codeAny_call_function (fd := fnX name qual params body scope [] dV kV doc pm an cdv ct) (body := body) (Nat.lt_of_le_of_lt (Nat.le_add_right _ _) C.room) (hkin _ _ hK) rfl hco hgen rfl (codeRec_of hkin hcd) ?_
  refine wp_peek1 hkin ?_ _ g hpk hg
  have hbr2 : Fa2 (fun p q => p.1 = q.1 ∧ RV (s.heap.push (dictOf [] 0)) (ρ ++ [s.heap.objs.size]) p.2 q.2) (bs ++ [(nm, .ref σ.st.length)]) (bs' ++ [(nm, .ref s.heap.objs.size)]) := by
    refine (hbr.mono fun _ _ r => ⟨r.1, r.2.mono (.of_keep fun b o e => Heap.get?_push_of_some _ e) (List.prefix_append _ _)⟩).append (.one ⟨rfl, _, ?_, rfl⟩)
    rw [R.len, List.getElem?_append_right (Nat.le_refl _), Nat.sub_self]; rfl
  refine wpAny_newFunctionEnv hcell (fun x hx => ?_) (fun h₁ hns hsb => ?_) hk
  · have hn := hbr2.names
    have : x.1 ∈ (bs ++ [(nm, MV.none)]).map (·.1) := by
      have e : (bs ++ [(nm, MV.none)]).map (·.1) = (bs ++ [(nm, MV.ref σ.st.length)]).map (·.1) := by rw [List.map_append, List.map_append]; rfl
      rw [e, ← hn]; exact List.mem_map_of_mem hx
    obtain ⟨p, hp, e⟩ := List.mem_map.mp this
    have := List.all_eq_true.mp hloc p hp
    rw [← e]; exact beq_iff_eq.mp this
  · have k1 : ∀ b o, s.heap.get? b = some o → (s.heap.push (dictOf [] 0)).get? b = some o := fun b o e => Heap.get?_push_of_some _ e
    have k2 : ∀ b o, (s.heap.push (dictOf [] 0)).get? b = some o → h₁.get? b = some o := fun b o e => hsb.extBut b o (Nat.ne_of_lt (Heap.lt_size e)) (Heap.get?_push_of_some _ e)
    have hk₁ : ∀ b o, s.heap.get? b = some o → h₁.get? b = some o := fun b o e => k2 b o (k1 b o e)
    have hsz : (s.heap.push (dictOf [] 0)).objs.size = s.heap.objs.size + 1 := Heap.size_push ..
    have hnone : s.heap.get? s.heap.objs.size = none := Heap.get?_none_of_le (Nat.le_refl _)
    refine ⟨(T.nolimit.keeps Fm.keep).keeps hk₁, codeAny_func ?_⟩
    have hroom := C.room
    have hunits := C.units
    have C' : Cx W ⟨scope, true⟩ (A.deeper (callEnv (fnX name qual params body scope [] dV kV doc pm an cdv ct) (s.heap.push (dictOf [] 0)).objs.size f)) (callEnv (fnX name qual params body scope [] dV kV doc pm an cdv ct) (s.heap.push (dictOf [] 0)).objs.size f) [] (hideAll s.heap ρ) (s.heap.push (dictOf [] 0)).objs.size k := by
      refine ⟨rfl, rfl, rfl, rfl, rfl, hk, C.hh, ?_, ?_, C.K.keeps stay, ⟨mean, mg, mb, T.keeps stay⟩, fun _ => ⟨rfl, _, _, _, BG, Around.frames_deeper hA⟩⟩
      · show A.depth + 1 + k < recursionLimit
        omega
      · show A.units + 3 + 8 * k < cLine
        omega
    have tk₁ := TupKeep.of_keep hk₁
    have tk₂ := TupKeep.of_keep k2
    have pf : ρ <+: ρ ++ [s.heap.objs.size] := List.prefix_append _ _
    have R' : Rel (hideAll s.heap ρ) (s.heap.push (dictOf [] 0)).objs.size [] (ρ ++ [s.heap.objs.size]) ⟨(bs ++ [(nm, MV.ref σ.st.length)]).reverse, [], σ.st ++ [.dict []]⟩ h₁ := by
      refine ⟨⟨_, objs ++ [dictOf [] 0], ⟨hns, fun b o e => hk₁ b o (of_hideAll _ e), by rw [hideAll_size, hsz]; exact Nat.le_succ _⟩, fun p hp => ?_, by simp [el], (fo.mono fun _ _ r => r.mono tk₁ pf).append (.one ⟨[], 0, rfl, .nil⟩), fun x v e => ?_⟩, ?_, fun x i e => ?_⟩
      · rw [List.zip_append el.symm] at hp
        rcases List.mem_append.mp hp with hp | hp
        · exact ⟨hk₁ _ _ (N p hp).1, by rw [hsz]; exact Nat.ne_of_lt (Nat.lt_succ_of_lt (Heap.lt_size (N p hp).1)), hideAll_none _ (List.of_mem_zip hp).1⟩
        · rw [List.zip_cons_cons, List.zip_nil_left, List.mem_singleton] at hp
          subst hp
          refine ⟨k2 _ _ (Heap.get?_push_size _ rfl), by rw [hsz]; exact Nat.ne_of_lt (Nat.lt_succ_self _), ?_⟩
          exact Heap.get?_none_of_le (by rw [hideAll_size]; exact Nat.le_refl _)
      · obtain ⟨v', e1, e2⟩ := hbr2.reverse.lookup (R := RV (s.heap.push (dictOf [] 0)) (ρ ++ [s.heap.objs.size])) e
        exact ⟨v', e1, e2.mono tk₂ (List.prefix_refl _)⟩
      · rw [List.nodup_append]
        refine ⟨nd, by simp, fun y hy u hu => ?_⟩
        rw [List.mem_singleton] at hu
        subst hu
        obtain ⟨o, ho, _⟩ := R.low hy
        exact Nat.ne_of_lt (Heap.lt_size ho)
      · cases e
    have hbig : sysModules < s.heap.objs.size := modules_low (T.nolimit.keeps Fm.keep)
    refine wpAny_mono (hbody.run C' R' ⟨_, by rw [R.len, List.getElem?_append_right (Nat.le_refl _), Nat.sub_self]; rfl, beq_eq_false_iff_ne.mpr (Nat.ne_of_gt hbig)⟩ (Q := fun fl' s' => Q (flowV fl') s') (fun fl' s' ρ' n r => ?_)) (fun fl2 _ q => by cases fl2 <;> exact q) (fun _ _ q => False.elim q)
    obtain ⟨n₂, hle⟩ := call_leave R (cs := [s.heap.objs.size]) (s₁ := { s with heap := h₁, toks := s.toks + (bs' ++ [(nm, Value.ref s.heap.objs.size)]).length }) rfl rfl hk₁ (fun a h => by rw [List.mem_singleton.mp h]; exact hnone) n hst (by rw [← R.len]; exact hlen) hlow
    refine hQ _ _ _ n₂ ?_
    refine RV.drop (t := ρ'.drop st'.length) (by rw [List.take_append_drop]; exact retOf_rel r) ?_
    rw [List.length_take, Nat.min_eq_left hle]; exact hzl
end
end
section
open PySem PySem.W PyProof.Rows PySem.Spec PySem.Calls
section
variable {W : Wd} {G : Fx} {k : Nat} {σ σ₁ σ₂ σ₃ σ₄ σ' : St} {P : Fl → St → Prop} {body : List Stmt} {t test : Expr} {S : St → Prop} {gn : Bool}
theorem WlP.inv (I : Nat → St → Prop) (h : ∀ n τ, I n τ → (∀ n' τ', n' < n → I n' τ' → WlP W G k test body τ' P) → WlP W G k test body τ P) {n : Nat} (hI : I n σ) : WlP W G k test body σ P := by
  suffices ∀ n τ, I n τ → WlP W G k test body τ P from this n σ hI
  intro n
  induction n using Nat.strongRecOn with
  | _ n ih => exact fun τ hτ => h n τ hτ fun n' τ' hn hI' => ih n' hn τ' hI'
theorem LpP.inv {α : Type} (f : α → MV) (I : List α → St → Prop) (hS : ∀ l τ, I l τ → S τ) (hP : ∀ τ, I [] τ → P .next τ)
    (h : ∀ x l τ, I (x :: l) τ → ∃ τ₁, Tg W G k t (f x) τ τ₁ ∧ ExsP W G k body τ₁ (fun fl τ₂ => match fl with | .next => I l τ₂ | .cont => I l τ₂ | .ret v => gn = false ∧ P (.ret v) τ₂ | .brk => False)) :
    ∀ {l : List α} {τ : St}, I l τ → LpP W G k t body S gn (l.map f) τ P := by
  intro l
  induction l with
  | nil => exact fun {τ} hI => LpP.nil (hS _ _ hI) (hP _ hI)
  | cons x l ih =>
    intro τ hI
    obtain ⟨τ₁, h1, h2⟩ := h x l τ hI
    refine LpP.cons (hS _ _ hI) h1 (h2.mono fun fl τ₂ q => ?_)
    cases fl with
    | next => exact ih q
    | cont => exact ih q
    | ret v => exact q
    | brk => exact q
theorem look_hit {x : PySem.Str} {v : MV} {l : List (PySem.Str × MV)} : (setL x v l).lookup x = some v := by rw [setL_lookup, if_pos rfl]
theorem look_skip {x y : PySem.Str} {v : MV} {o : Option MV} {l : List (PySem.Str × MV)} (h : (x == y) = false) (e : l.lookup x = o) : (setL y v l).lookup x = o := by
  rw [setL_lookup, if_neg (beq_eq_false_iff_ne.mp h)]; exact e
/-- names that a frame bears -/
def Has (n : Nat) (l : List (PySem.Str × MV)) : List (PySem.Str × MV) → Prop
  | [] => True
  | (x, v) :: r => l.lookup x = some v ∧ v.low n ∧ Has n l r
theorem Has.look {n : Nat} {l r : List (PySem.Str × MV)} (h : Has n l r) {x : PySem.Str} {v : MV} (e : r.lookup x = some v) : l.lookup x = some v ∧ v.low n := by
  induction r with
  | nil => cases e
  | cons p r ih =>
    obtain ⟨y, u⟩ := p
    obtain ⟨h1, h2, h3⟩ := h
    rw [List.lookup_cons] at e
    cases q : x == y with
    | true => rw [q] at e; cases e; have q := eq_of_beq q; subst q; exact ⟨h1, h2⟩
    | false => rw [q] at e; exact ih h3 e
def Fl.low (n : Nat) : Fl → Prop
  | .ret v => v.low n
  | _ => True
/-- what the store bears speaks of the store alone -/
def Lows (st : List MO) : Prop := ∀ x ∈ st, x.low st.length
/-- the state without what no one needs -/
structure Drop (st₀ : List MO) (fl : Fl) (σ' σ'' : St) : Prop where
  st : ∃ sx, σ'.st = σ''.st ++ sx
  le : st₀.length ≤ σ''.st.length
  low : Lows st₀ → Lows σ'.st → Lows σ''.st
  loc : Has σ''.st.length σ'.loc σ''.loc
  cel : σ''.cel = σ'.cel
  cin : ∀ p ∈ σ'.cel, p.2 < σ''.st.length
  fl : fl.low σ''.st.length
theorem Nx.drop {h₀ : Heap} {L : Addr} {cl : List (PySem.Str × Addr)} {ρ ρ' : List Addr} {s s' : Shared} {σ'' : St} {fl : Fl} (R : Rel h₀ L cl ρ σ s.heap) (n : Nx h₀ L cl ρ s σ' ρ' s') (d : Drop σ.st fl σ' σ'') : Nx h₀ L cl ρ s σ'' (ρ'.take σ''.st.length) s' := by
  obtain ⟨sx, hst⟩ := d.st
  have hl : σ''.st.length ≤ ρ'.length := by
    have := n.rel.len
    rw [hst, List.length_append] at this
    omega
  have tl : (ρ'.take σ''.st.length).length = σ''.st.length := by rw [List.length_take]; omega
  have pre : ρ <+: ρ'.take σ''.st.length := by
    obtain ⟨t, e⟩ := n.pre
    have := d.le
    rw [R.len] at this
    rw [← e, List.take_append, List.take_of_length_le this]
    exact List.prefix_append _ _
  have lk : ∀ {l : List (PySem.Str × Nat)} {x : PySem.Str} {i : Nat}, l.lookup x = some i → ∃ p ∈ l, p.2 = i := by
    intro l x i e
    induction l with
    | nil => cases e
    | cons p r ih =>
      obtain ⟨y, j⟩ := p
      rw [List.lookup_cons] at e
      cases q : x == y with
      | true => rw [q] at e; cases e; exact ⟨_, .head _, rfl⟩
      | false => rw [q] at e; obtain ⟨p, hp, e⟩ := ih e; exact ⟨p, .tail _ hp, e⟩
  refine ⟨pre, ?_, n.gx, n.tk, n.un, fun a h1 h2 => n.fresh a (List.mem_of_mem_take h1) h2⟩
  refine Rel.forget (t := ρ'.drop σ''.st.length) (by rw [List.take_append_drop]; exact n.rel) hst tl.symm (by rw [tl]; exact d.low R.lows n.rel.lows) (fun x v e => by rw [tl]; exact d.loc.look e) (fun x i e => ?_)
  rw [d.cel] at e
  obtain ⟨p, hp, e2⟩ := lk e
  rw [tl, ← e2]
  exact ⟨by rw [e2]; exact e, d.cin p hp⟩
theorem RFl.drop {h : Heap} {ρ : List Addr} {fl : Fl} {f : Flow} {n : Nat} (r : RFl h ρ fl f) (hl : fl.low n) (hn : n ≤ ρ.length) : RFl h (ρ.take n) fl f := by
  cases fl with
  | next => exact r
  | brk => exact r
  | cont => exact r
  | ret v =>
    obtain ⟨v', rfl, r⟩ := r
    refine ⟨v', rfl, RV.drop (t := ρ.drop n) (by rw [List.take_append_drop]; exact r) ?_⟩
    rw [List.length_take, Nat.min_eq_left hn]; exact hl
theorem Exs.drop {sts : List Stmt} {fl : Fl} {σ'' : St} (h : Exs W G k sts σ fl σ') (d : Drop σ.st fl σ' σ'') : Exs W G k sts σ fl σ'' := Tr.mk fun C R hq =>
  h.run C R fun f s' ρ' n r => hq _ _ _ (n.drop R d) (r.drop d.fl (by
    obtain ⟨sx, hst⟩ := d.st
    have := n.rel.len
    rw [hst, List.length_append] at this
    omega))
theorem ExsP.drop {sts : List Stmt} (h : ExsP W G k sts σ (fun fl σ' => ∃ σ'', Drop σ.st fl σ' σ'' ∧ P fl σ'')) : ExsP W G k sts σ P := by
  obtain ⟨fl, σ', a, σ'', d, p⟩ := h
  exact ⟨fl, σ'', a.drop d, p⟩
/-- nothing of the store dropped -/
theorem Drop.names {fl : Fl} {loc loc' : List (PySem.Str × MV)} {cel : List (PySem.Str × Nat)} {st : List MO} {st₀ : List MO} (hn : st₀.length ≤ st.length) (h : Has st.length loc loc') (hc : ∀ p ∈ cel, p.2 < st.length) (hf : fl.low st.length) : Drop st₀ fl ⟨loc, cel, st⟩ ⟨loc', cel, st⟩ :=
  ⟨⟨[], (List.append_nil _).symm⟩, hn, fun _ h => h, h, rfl, hc, hf⟩
theorem Ex.lows {st : Stmt} {fl : Fl} (h : Lows σ.st → Ex W G k st σ fl σ') : Ex W G k st σ fl σ' := Tr.mk fun C R hq => (h R.lows).run C R hq
theorem ExsP.ite2 {test : Expr} {b : Bool} {orelse rest : List Stmt} {pos : Pos} (h1 : Et W G k test σ b σ₁) (h2 : b = true → ExsP W G k body σ₁ (Then W G k rest P)) (h3 : b = false → ExsP W G k orelse σ₁ (Then W G k rest P)) : ExsP W G k (.If test body orelse pos :: rest) σ P := by
  cases b with
  | true => exact .iteT h1 (h2 rfl)
  | false => exact .iteF h1 (h3 rfl)
theorem Has.nil {n : Nat} {l : List (PySem.Str × MV)} : Has n l [] := trivial
theorem Has.cons {n : Nat} {l r : List (PySem.Str × MV)} {x : PySem.Str} {v : MV} (h1 : l.lookup x = some v) (h2 : v.low n) (h3 : Has n l r) : Has n l ((x, v) :: r) := ⟨h1, h2, h3⟩
theorem low_at {n : Nat} {v : FV} : (MV.at v).low n := trivial
theorem low_ref {i : Nat} {st : List MO} {o : MO} (h : st[i]? = some o) : (MV.ref i).low st.length := (List.getElem?_eq_some_iff.mp h).1
theorem Drop.keep {fl : Fl} {loc loc' : List (PySem.Str × MV)} {st : List MO} {st₀ : List MO} (hn : st₀.length ≤ st.length) (h : Has st.length loc loc') (hf : fl.low st.length) : Drop st₀ fl ⟨loc, [], st⟩ ⟨loc', [], st⟩ := .names hn h (fun p hp => by cases hp) hf
theorem Ends.ret {v : MV} {loc : List (PySem.Str × MV)} {cel : List (PySem.Str × Nat)} {st : List MO} : Ends v st (.ret v) ⟨loc, cel, st⟩ := ⟨⟨[], (List.append_nil _).symm⟩, rfl⟩
theorem Ends.next {loc : List (PySem.Str × MV)} {cel : List (PySem.Str × Nat)} {st : List MO} : Ends .none st .next ⟨loc, cel, st⟩ := ⟨⟨[], (List.append_nil _).symm⟩, rfl⟩
theorem Ends.retX {v : MV} {loc : List (PySem.Str × MV)} {cel : List (PySem.Str × Nat)} {st sx : List MO} : Ends v st (.ret v) ⟨loc, cel, st ++ sx⟩ := ⟨⟨sx, rfl⟩, rfl⟩
theorem Ends.nextX {loc : List (PySem.Str × MV)} {cel : List (PySem.Str × Nat)} {st sx : List MO} : Ends .none st .next ⟨loc, cel, st ++ sx⟩ := ⟨⟨sx, rfl⟩, rfl⟩
theorem Ev.st {e : Expr} {v : MV} (h : Ev W G k e σ v σ₁) (hs : σ₁ = σ₂) : Ev W G k e σ v σ₂ := hs ▸ h
end
end
section
open PySem PySem.W PyProof.Rows PySem.Spec PySem.Calls
section
abbrev hdL (ps : List (PySem.Str × PySem.Str)) : MO := .list (ps.map fun p => .tup [.str p.1, .str p.2])
structure HdAt (st : List MO) (i d h : Nat) (ps : List (PySem.Str × PySem.Str)) : Prop where
  i : st[i]? = some (.inst 223 d)
  d : st[d]? = some (.dict [("_headers", .ref h)])
  h : st[h]? = some (hdL ps)
end
local macro_rules | `(tactic| boot_by_name) => `(tactic| first
  | exact Ev.const_int | exact Ev.const_str | exact Ev.const_none | exact Ev.const_bool
  | exact Ev.local rfl rfl rfl
  | exact Ev.builtin rfl (by show nsIn (hd.heap_39 _) mainGlobals _ = some none; k_is) (by boot_by_name) (by decide) rfl
  | exact Ev.global rfl (by show nsIn (hd.heap_39 _) mainGlobals _ = some (some _); k_is) rfl
  | exact (id (by assumption : (_ : Option MO) = some _))
  | exact (id (by assumption : HdAt _ _ _ _ _))
  | refine' Drop.keep (Nat.le_refl _) ?_ trivial
  | exact Ends.ret | exact Ends.next
  | exact Has.nil | refine' Has.cons rfl ?_ ?_ | exact low_at | exact low_ref (by assumption) | exact (rfl : Fl.next = Fl.next)
  | exact Op.add | exact Op.sub | exact Op.lt | exact Op.gt | exact Op.eq | exact Op.iadd | exact Op.isub
  | exact Op.floordiv (by decide) (PyProof.noPylong_small (by decide))
  | exact Op.isNone (by intro u e; cases e)
  | exact Op.isNotNone (by intro u e; cases e)
  | refine' Ev.binop ?_ ?_ ?_
  | refine' Et.cmp ?_ ?_ ?_ rfl
  | refine' Ev.cmp ?_ ?_ ?_ rfl
  | refine' Evs.cons ?_ ?_ fun _ => rfl
  | exact Evs.nil | exact Eks.nil | refine' Eks.cons ?_ ?_
  | exact Keeps.builtin | exact Keeps.type | exact Keeps.K (by show keepIn (hd.heap_39 _) _ = true; k_is)
  | exact fun _ => ⟨_, rfl⟩
  | exact fun _ => rfl
  | exact fun _ _ => rfl)
section
noncomputable def lsW : List PySem.Str := looseW hd.view_39 ["insort_left", "bisect_left", "tspecials", "_name_disallowed_re", "_value_disallowed_re", "_formatparam"]
noncomputable abbrev ww (w : World) : Wd := ⟨PySem.Challenge.pw_re0142_01, w, hd.heap_39 w.params, hd.view_39, lsW⟩
theorem pre : (PySem.Challenge.rw_re0142_01, @hd.heap_39).1 = PySem.Challenge.rw_re0142_01 := by
  k_fill
  rfl
section
variable {w : World} {k : Nat}
theorem lst {ns : List Int} {j : Nat} {y : Int} (h : ns[j]? = some y) : (ns.map MV.int)[j]? = some (.int y) := by rw [List.getElem?_map, h]; rfl
def BisOk (ns : List Int) (x : Int) (p : Nat) : Prop := p ≤ ns.length ∧ ∀ j y, ns[j]? = some y → (y < x ↔ j < p)
theorem lens {α β : Type} (f : α → β) (l : List α) : ((l.map f).length : Int) = l.length := by rw [List.length_map]
theorem bis {st : List MO} {i : Nat} {ns : List Int} {x : Int} {p : Nat} {xs : List MV} (hi : st[i]? = some (.list (ns.map .int))) (hz : ns.length ≤ 1000) (hp : BisOk ns x p) (hx : xs = [.ref i, .int x] ∨ xs = [.ref i, .int x, .int 0, .none]) : Ec (ww w) (k+1) 56 xs [] st (.int p) st := by
  refine' Ec.fn (bs := [("a", .ref i), ("x", .int x), ("lo", .int 0), ("hi", .none), ("key", .none)]) (by show List.lookup 56 (hd.heap_39 w.params) = some _; k_is) ?_ ?_ rfl (Nat.le_refl _) (fun h _ => ⟨h, trivial⟩) ?_
  · show codeIn (hd.heap_39 w.params) _ _ = true
    k_is
  · intro s ρ vs kvs X hv hk
    cases hk
    rcases hx with rfl | rfl
    · obtain ⟨a, b, rfl, ra, rb⟩ := hv.two
      refine' ⟨?bs, kp_binds (K := hd.heap_39 w.params) X (fun S => ?h1), ?h4⟩
      case h1 => exact rfl
      exact .cons ⟨rfl, ra⟩ (.cons ⟨rfl, rb⟩ (.cons ⟨rfl, _, rfl⟩ (.cons ⟨rfl, rfl⟩ (.cons ⟨rfl, rfl⟩ .nil))))
    · cases hv with | cons ra hv => obtain ⟨b, c, d, rfl, rb, rc, rd⟩ := hv.three; refine' ⟨?bs2, kp_binds (K := hd.heap_39 w.params) X (fun S => ?h12), ?h42⟩; (case h12 => exact rfl); exact .cons ⟨rfl, ra⟩ (.cons ⟨rfl, rb⟩ (.cons ⟨rfl, rc⟩ (.cons ⟨rfl, rd⟩ (.cons ⟨rfl, rfl⟩ .nil))))
  refine' ExsP.iteF (Et.eq (b := decide ((0:Int) < 0)) ?_ rfl) (ExsP.nil (Then.next (ExsP.iteT (Et.eq (b := true) ?_ rfl) (ExsP.cons (Ex.assign (Ev.call (xs := [.ref i]) ?_ ?_ ?_ ?_ (Oc.op (Op.len_list (vs := ns.map .int) ?_ ?_)) ?_ ?_) rfl fun _ _ => rfl) (ExsP.nil (Then.next (ExsP.iteT (Et.eq (b := true) ?_ rfl) (ExsP.while_ ?_))))))))
  all_goals (try (repeat' boot_by_name))
  · rw [List.length_map]; omega
  refine' WlP.inv (fun n τ => ∃ lo hi : Nat, τ = ⟨[("key", .none), ("hi", .int hi), ("lo", .int lo), ("x", .int x), ("a", .ref i)], [], st⟩ ∧ lo ≤ p ∧ p ≤ hi ∧ hi ≤ ns.length ∧ n = hi - lo) ?_ (n := ns.length) ⟨0, ns.length, ?_, Nat.zero_le _, hp.1, Nat.le_refl _, rfl⟩
  · rintro n _ ⟨lo, hi', rfl, h1, h2, h3, rfl⟩ ih
    by_cases hlt : lo < hi'
    · obtain ⟨y, hy⟩ : ∃ y, ns[(lo + hi') / 2]? = some y := ⟨_, List.getElem?_eq_getElem (by omega)⟩
      have hpy := hp.2 _ _ hy
      have hdiv : (((lo : Int) + hi').fdiv 2) = (((lo + hi') / 2 : Nat) : Int) := by rw [Int.fdiv_eq_ediv_of_nonneg _ (by decide)]; omega
      refine' WlP.next (Et.eq (b := decide ((lo : Int) < hi')) ?_ (by simpa using hlt)) (ExsP.drop (ExsP.cons (Ex.assign (Ev.eq (v := .int (((lo : Int) + hi').fdiv 2)) ?_ (v' := .int (((lo + hi') / 2 : Nat) : Int)) (by rw [hdiv])) rfl fun _ _ => rfl) (ExsP.ite2 (b := decide (y < x)) (Et.cmp (Ev.sub ?_ ?_ (TyOf.list (vs := ns.map .int) ?_) PySem.F.slot_list_getitem.lookup (Op.item (vs := ns.map .int) (j := (((lo + hi') / 2 : Nat) : Int)) ?_ ?_ ?_ (lst hy)) ?_ ?_) ?_ Op.lt rfl) (fun hyx => ExsP.cons (Ex.assign ?_ rfl fun _ _ => rfl) (ExsP.nil (Then.next (ExsP.nil ⟨⟨[("key", .none), ("hi", .int hi'), ("lo", .int (((lo + hi') / 2 : Nat) + 1)), ("x", .int x), ("a", .ref i)], [], st⟩, ?_, ?_, ?_⟩)))) (fun hyx => ExsP.cons (Ex.assign ?_ rfl fun _ _ => rfl) (ExsP.nil (Then.next (ExsP.nil ⟨⟨[("key", .none), ("hi", .int ((lo + hi') / 2 : Nat)), ("lo", .int lo), ("x", .int x), ("a", .ref i)], [], st⟩, ?_, ?_, ?_⟩)))))))
      all_goals (try (repeat' boot_by_name))
      all_goals try omega
      · exact ih _ _ (by omega) ⟨(lo + hi') / 2 + 1, hi', rfl, by have := hpy.mp (by simpa using hyx); omega, h2, h3, rfl⟩
      · exact ih _ _ (by omega) ⟨lo, (lo + hi') / 2, rfl, h1, by have := mt hpy.mpr (by simpa using hyx); omega, by omega, rfl⟩
    · have he : lo = p := by omega
      subst he
      refine' WlP.done (Et.eq (b := decide ((lo : Int) < hi')) ?_ (by simpa using hlt)) (Then.next (ExsP.nil (Then.next (ExsP.ret ?_ ?_))))
      all_goals (try (repeat' boot_by_name))
  · show St.mk _ _ _ = St.mk _ _ _
    rw [List.length_map]; rfl
end
end
section
section
variable {w : World} {k : Nat}
theorem insAt_map (f : α → β) (j : Nat) (x : α) (l : List α) : insAt j (f x) (l.map f) = (insAt j x l).map f := by unfold insAt; simp
theorem ins {st : List MO} {i : Nat} {ns : List Int} {x : Int} {p : Nat} (hi : st[i]? = some (.list (ns.map .int))) (hz : ns.length ≤ 1000) (hp : BisOk ns x p) : Ec (ww w) (k+2) 47 [.ref i, .int x] [] st .none (st.set i (.list ((insAt p x ns).map .int))) := by
  have hil := (List.getElem?_eq_some_iff.mp hi).1
  refine' Ec.fn (bs := [("a", .ref i), ("x", .int x), ("lo", .int 0), ("hi", .none), ("key", .none)]) (by show List.lookup 47 (hd.heap_39 w.params) = some _; k_is) ?_ ?_ rfl (by rw [List.length_set]; exact Nat.le_refl _) ?_ ?_
  · show codeIn (hd.heap_39 w.params) _ _ = true
    k_is
  · intro s ρ vs kvs X hv hk
    cases hk
    obtain ⟨a, b, rfl, ra, rb⟩ := hv.two
    refine' ⟨?bs, kp_binds (K := hd.heap_39 w.params) X (fun S => ?h1), ?h4⟩
    case h1 => exact rfl
    exact .cons ⟨rfl, ra⟩ (.cons ⟨rfl, rb⟩ (.cons ⟨rfl, _, rfl⟩ (.cons ⟨rfl, rfl⟩ (.cons ⟨rfl, rfl⟩ .nil))))
  · intro h _
    refine ⟨fun o ho => ?_, trivial⟩
    rw [List.length_set]
    rcases List.mem_or_eq_of_mem_set ho with ho | rfl
    · exact h o ho
    · intro v hv
      obtain ⟨n, _, rfl⟩ := List.mem_map.mp hv
      exact trivial
  rw [← insAt_map]
  refine' ExsP.iteT (Et.eq (b := true) ?_ rfl) (ExsP.cons (Ex.assign (Ev.call (xs := [.ref i, .int x, .int 0, .none]) ?_ ?_ ?_ ?_ (Oc.of rfl (bis ?_ hz hp (.inr rfl))) ?_ ?_) rfl fun _ _ => rfl) (ExsP.nil (Then.next (ExsP.cons (Ex.expr (Ev.meth (xs := [.int p, .int x]) ?_ (Om.list ?_ PySem.F.slot_list_insert PySem.F.type_list_insert) ?_ ?_ ?_ (Oc.op (Op.insert ?_ ?_ ?_ ?_)) ?_ ?_) ⟨_, rfl⟩ fun _ _ => rfl) (ExsP.nil ?_)))))
  repeat any_goals boot_by_name
  all_goals try first | (rw [List.length_map]; have := hp.1; omega) | omega
end
end
section
section
variable {w : World} {k : Nat}
theorem reIn : ReIn (ww w) := by
  intro p hp
  rcases List.mem_cons.mp hp with rfl | hp
  · show List.lookup 86 (hd.heap_39 w.params) = some _; k_is
  rcases List.mem_cons.mp hp with rfl | hp
  · show List.lookup 87 (hd.heap_39 w.params) = some _; k_is
  rcases List.mem_cons.mp hp with rfl | hp
  · show List.lookup 91 (hd.heap_39 w.params) = some _; k_is
  rcases List.mem_cons.mp hp with rfl | hp
  · show List.lookup 92 (hd.heap_39 w.params) = some _; k_is
  cases hp
theorem conv {st : List MO} {i : Nat} {x : PySem.Str} {b : Bool} (hs : Safe x) : Ec (ww w) (k+1) 122 [.ref i, .str x] [("name", .bool b)] st (.str x) st := by
  refine' Ec.fn (bs := [("self", .ref i), ("value", .str x), ("name", .bool b)]) (by show List.lookup 122 (hd.heap_39 w.params) = some _; k_is) ?_ ?_ rfl (Nat.le_refl _) (fun h _ => ⟨h, trivial⟩) ?_
  · show codeIn (hd.heap_39 w.params) _ _ = true
    k_is
  · intro s ρ vs kvs X hv hk
    obtain ⟨a, c, rfl, ra, rc⟩ := hv.two
    obtain ⟨⟨n, v⟩, rfl, rn, rv⟩ := hk.un
    dsimp only at rn
    subst rn
    refine' ⟨?bs, kp_binds (K := hd.heap_39 w.params) X (fun S => ?h1), ?h4⟩
    case h1 => exact rfl
    exact .cons ⟨rfl, ra⟩ (.cons ⟨rfl, rc⟩ (.cons ⟨rfl, rv⟩ .nil))
  cases b
  · refine' ExsP.iteT (Et.cmp (Ev.call (xs := [.str x]) ?_ ?_ ?_ ?_ (Oc.op (Op.type_of TyOf.str rfl)) ?_ ?_) ?_ Op.is_type rfl) (ExsP.cons (Ex.assign (Ev.ife (b := false) (v := .lit (.ref 92)) (Et.ofBool ?_ ?_) ?_) rfl fun _ _ => rfl) (ExsP.iteF (Et.ofNone (Ev.meth (xs := [.str x]) ?_ (Om.re reIn (.inr rfl)) ?_ ?_ ?_ (Oc.op (Op.search reIn (.inr rfl) hs)) ?_ ?_) ?_) (ExsP.nil (Then.next (ExsP.ret ?_ ?_)))))
    all_goals (try (repeat' boot_by_name))
  · refine' ExsP.iteT (Et.cmp (Ev.call (xs := [.str x]) ?_ ?_ ?_ ?_ (Oc.op (Op.type_of TyOf.str rfl)) ?_ ?_) ?_ Op.is_type rfl) (ExsP.cons (Ex.assign (Ev.ife (b := true) (v := .lit (.ref 87)) (Et.ofBool ?_ ?_) ?_) rfl fun _ _ => rfl) (ExsP.iteF (Et.ofNone (Ev.meth (xs := [.str x]) ?_ (Om.re reIn (.inl rfl)) ?_ ?_ ?_ (Oc.op (Op.search reIn (.inl rfl) hs)) ?_ ?_) ?_) (ExsP.nil (Then.next (ExsP.ret ?_ ?_)))))
    all_goals (try (repeat' boot_by_name))
end
end
section
section
variable {w : World} {k : Nat} {G : Fx} {σ σ₁ σ₂ : St}
theorem Ev.headers {value : Expr} {pos : Pos} {i d h : Nat} {ps : List (PySem.Str × PySem.Str)} (hv : Ev (ww w) G k value σ (.ref i) σ₁) (H : HdAt σ₁.st i d h ps)
    (he : ∀ env, eval (.Attribute value "_headers" pos) env = (do let o ← eval value env; standAt pos.atName; let r ← holding [o] (getAttr o "_headers" true); letTemporaryGo value o r; pure r)) (ht : ∀ o r, letTemporaryGo value o r = pure ()) :
    Ev (ww w) G k (.Attribute value "_headers" pos) σ (.ref h) σ₁ :=
  Ev.attr hv H.i H.d rfl (by show plainGet (hd.heap_39 w.params) _ _ = true; k_is) (by show hasDictIn (hd.heap_39 w.params) _ = true; k_is) (by show findIn (hd.heap_39 w.params) _ _ = some _; k_is) (by show noGet (hd.heap_39 w.params) _ = true; k_is) (fun u e => by cases e) he ht
theorem hlen {st : List MO} {i d h : Nat} {ps : List (PySem.Str × PySem.Str)} (H : HdAt st i d h ps) (hz : ps.length ≤ 1000) : Ec (ww w) (k+1) 129 [.ref i] [] st (.int ps.length) st := by
  refine' Ec.fn (bs := [("self", .ref i)]) (by show List.lookup 129 (hd.heap_39 w.params) = some _; k_is) ?_ ?_ rfl (Nat.le_refl _) (fun h _ => ⟨h, trivial⟩) ?_
  · show codeIn (hd.heap_39 w.params) _ _ = true
    k_is
  · intro s ρ vs kvs X hv hk
    obtain ⟨a, rfl, ra⟩ := hv.un
    cases hk
    refine' ⟨?bs, kp_binds (K := hd.heap_39 w.params) X (fun S => ?h1), ?h4⟩
    case h1 => exact rfl
    exact .cons ⟨rfl, ra⟩ .nil
  have hh := H.h
  refine' ExsP.ret (Ev.eq (v := .int ((ps.map fun p => MV.tup [.str p.1, .str p.2]).length)) (Ev.call (xs := [.ref h]) ?_ (Evs.cons (Ev.headers (ps := ps) (i := i) (d := d) ?_ ?_ ?_ ?_) ?_ ?_) ?_ ?_ (Oc.op (Op.len_list (vs := ps.map fun p => MV.tup [.str p.1, .str p.2]) ?_ ?_)) ?_ ?_) (by rw [List.length_map])) ?_
  repeat any_goals boot_by_name
  · rw [List.length_map]; omega
end
end
section
section
variable {w : World} {k : Nat} {G : Fx} {σ σ₁ σ₂ : St}
def fst? : MV → Option MV
  | .tup [a, _] => some (.at a)
  | _ => none
def snd? : MV → Option MV
  | .tup [_, b] => some (.at b)
  | _ => none
theorem fm1 (ps : List (PySem.Str × PySem.Str)) : (ps.map fun p => MV.tup [.str p.1, .str p.2]).filterMap fst? = (ps.map (·.1)).map MV.str := by
  induction ps with
  | nil => rfl
  | cons p ps ih => simp [fst?, List.filterMap_cons] at ih ⊢; exact ih
theorem fm2 (ps : List (PySem.Str × PySem.Str)) : (ps.map fun p => MV.tup [.str p.1, .str p.2]).filterMap snd? = (ps.map (·.2)).map MV.str := by
  induction ps with
  | nil => rfl
  | cons p ps ih => simp [snd?, List.filterMap_cons] at ih ⊢; exact ih
theorem low_strs {n : Nat} (l : List PySem.Str) : (MO.list (l.map MV.str)).low n := fun v hv => by
  obtain ⟨x, _, rfl⟩ := List.mem_map.mp hv
  exact trivial
theorem low_mono {n m : Nat} {v : MV} (h : v.low n) (hm : n ≤ m) : v.low m := by
  cases v with
  | ref i => exact Nat.lt_of_lt_of_le h hm
  | _ => trivial
theorem mo_mono {n m : Nat} {o : MO} (h : o.low n) (hm : n ≤ m) : o.low m := by
  cases o with
  | list vs => exact fun v hv => low_mono (h v hv) hm
  | inst C d => exact Nat.lt_of_lt_of_le h hm
  | dict kv => exact fun p hp => low_mono (h p hp) hm
  | cell v => cases v with
    | none => trivial
    | some x => exact low_mono (v := x) h hm
theorem lows_push {st : List MO} {o : MO} (h : ∀ x ∈ st, x.low st.length) (ho : o.low (st ++ [o]).length) : ∀ x ∈ st ++ [o], x.low (st ++ [o]).length := fun x hx => by
  rcases List.mem_append.mp hx with hx | hx
  · exact mo_mono (h x hx) (by simp)
  · rw [List.mem_singleton.mp hx]; exact ho
theorem hkeys {st : List MO} {i d h : Nat} {ps : List (PySem.Str × PySem.Str)} (H : HdAt st i d h ps) (hz : ps.length ≤ 1000) : Ec (ww w) (k+1) 175 [.ref i] [] st (.ref st.length) (st ++ [.list ((ps.map (·.1)).map .str)]) := by
  refine' Ec.fn (bs := [("self", .ref i)]) (by show List.lookup 175 (hd.heap_39 w.params) = some _; k_is) ?_ ?_ rfl (by simp) (fun h _ => ⟨lows_push h (low_strs _), by show _ < _; simp⟩) ?_
  · show codeIn (hd.heap_39 w.params) _ _ = true
    k_is
  · intro s ρ vs kvs X hv hk
    obtain ⟨a, rfl, ra⟩ := hv.un
    cases hk
    refine' ⟨?bs, kp_binds (K := hd.heap_39 w.params) X (fun S => ?h1), ?h4⟩
    case h1 => exact rfl
    exact .cons ⟨rfl, ra⟩ .nil
  have hh := H.h
  have hb := (List.getElem?_eq_some_iff.mp hh).1
  rw [← fm1]
  refine' ExsP.ret (Ev.comp (cel' := []) (f := fst?) (Ie.list (vs := ps.map fun p => MV.tup [.str p.1, .str p.2]) (Ev.headers (ps := ps) (i := i) (d := d) (h := h) ?_ ?_ ?_ ?_) ?_) ⟨rfl, (fun p hp => by cases hp), (fun env g _ => rfl), rfl, ?_, ?_, ⟨fun loc => loc = [] ∨ ∃ u u' : MV, loc = [(("k" : PySem.Str), u), (("v" : PySem.Str), u')], fun v => match v with | .tup [a, b] => [("k", .at a), ("v", .at b)] | _ => [], .inl rfl, ?_⟩, ?_, ?_⟩ rfl fun _ _ _ => rfl) ?_
  repeat any_goals boot_by_name
  · intro y hy; rcases List.mem_cons.mp hy with rfl | hy; · simp
    rcases List.mem_cons.mp hy with rfl | hy; · simp
    rcases List.mem_cons.mp hy with rfl | hy; · simp
    cases hy
  · intro y hy _; rcases List.mem_cons.mp hy with rfl | hy; · rfl
    rcases List.mem_cons.mp hy with rfl | hy; · rfl
    rcases List.mem_cons.mp hy with rfl | hy; · rfl
    cases hy
  · intro x hx
    obtain ⟨p, _, rfl⟩ := List.mem_map.mp hx
    refine ⟨.inr ⟨_, _, rfl⟩, fun loc st hok => comp_two rfl rfl rfl loc st hok, fun ys _ => .all (Ev.local rfl rfl rfl)⟩
  · intro ys
    show (st ++ [_])[h]? = _
    rw [List.getElem?_append_left hb]; exact hh
  · rw [List.length_map]; omega
theorem hvals {st : List MO} {i d h : Nat} {ps : List (PySem.Str × PySem.Str)} (H : HdAt st i d h ps) (hz : ps.length ≤ 1000) : Ec (ww w) (k+1) 180 [.ref i] [] st (.ref st.length) (st ++ [.list ((ps.map (·.2)).map .str)]) := by
  refine' Ec.fn (bs := [("self", .ref i)]) (by show List.lookup 180 (hd.heap_39 w.params) = some _; k_is) ?_ ?_ rfl (by simp) (fun h _ => ⟨lows_push h (low_strs _), by show _ < _; simp⟩) ?_
  · show codeIn (hd.heap_39 w.params) _ _ = true
    k_is
  · intro s ρ vs kvs X hv hk
    obtain ⟨a, rfl, ra⟩ := hv.un
    cases hk
    refine' ⟨?bs, kp_binds (K := hd.heap_39 w.params) X (fun S => ?h1), ?h4⟩
    case h1 => exact rfl
    exact .cons ⟨rfl, ra⟩ .nil
  have hh := H.h
  have hb := (List.getElem?_eq_some_iff.mp hh).1
  rw [← fm2]
  refine' ExsP.ret (Ev.comp (cel' := []) (f := snd?) (Ie.list (vs := ps.map fun p => MV.tup [.str p.1, .str p.2]) (Ev.headers (ps := ps) (i := i) (d := d) (h := h) ?_ ?_ ?_ ?_) ?_) ⟨rfl, (fun p hp => by cases hp), (fun env g _ => rfl), rfl, ?_, ?_, ⟨fun loc => loc = [] ∨ ∃ u u' : MV, loc = [(("k" : PySem.Str), u), (("v" : PySem.Str), u')], fun v => match v with | .tup [a, b] => [("k", .at a), ("v", .at b)] | _ => [], .inl rfl, ?_⟩, ?_, ?_⟩ rfl fun _ _ _ => rfl) ?_
  repeat any_goals boot_by_name
  · intro y hy; rcases List.mem_cons.mp hy with rfl | hy; · simp
    rcases List.mem_cons.mp hy with rfl | hy; · simp
    rcases List.mem_cons.mp hy with rfl | hy; · simp
    cases hy
  · intro y hy _; rcases List.mem_cons.mp hy with rfl | hy; · rfl
    rcases List.mem_cons.mp hy with rfl | hy; · rfl
    rcases List.mem_cons.mp hy with rfl | hy; · rfl
    cases hy
  · intro x hx
    obtain ⟨p, _, rfl⟩ := List.mem_map.mp hx
    refine ⟨.inr ⟨_, _, rfl⟩, fun loc st hok => comp_two rfl rfl rfl loc st hok, fun ys _ => .all (Ev.local rfl rfl rfl)⟩
  · intro ys
    show (st ++ [_])[h]? = _
    rw [List.getElem?_append_left hb]; exact hh
  · rw [List.length_map]; omega
end
end
section
section
variable {w : World} {k : Nat} {G : Fx} {σ σ₁ σ₂ : St}
abbrev lw (x : PySem.Str) : PySem.Str := Txt.lower x
def Short (x : PySem.Str) : Prop := Builtin.Str.tooLong (lw x).length = false
def getOf (ps : List (PySem.Str × PySem.Str)) (x : PySem.Str) : MV := match ps with
  | [] => .none
  | p :: r => if lw p.1 == x then .str p.2 else getOf r x
theorem Om.conv {st : List MO} {i d h : Nat} {ps : List (PySem.Str × PySem.Str)} {loc : List (PySem.Str × MV)} {cel : List (PySem.Str × Nat)} (H : HdAt st i d h ps) : Om (ww w) G k (.ref i) "_convert_string_type" (.ref 122) ⟨loc, cel, st⟩ :=
  Om.inst H.i H.d rfl (by show plainGet (hd.heap_39 w.params) _ _ = true; k_is) (by show findIn (hd.heap_39 w.params) _ _ = some _; k_is) (by show isFn (hd.heap_39 w.params) _ = true; k_is)
theorem hget {st : List MO} {i d h : Nat} {ps : List (PySem.Str × PySem.Str)} {x : PySem.Str} (H : HdAt st i d h ps) (hz : ps.length ≤ 1000) (hs : Safe (lw x)) (hx : Short x) (hp : ∀ p ∈ ps, Short p.1) : Ec (ww w) (k+2) 170 [.ref i, .str x] [] st (getOf ps (lw x)) st := by
  refine' Ec.fn (bs := [("self", .ref i), ("name", .str x), ("default", .none)]) (by show List.lookup 170 (hd.heap_39 w.params) = some _; k_is) ?_ ?_ rfl (Nat.le_refl _) (fun h _ => ⟨h, ?_⟩) ?_
  · show codeIn (hd.heap_39 w.params) _ _ = true
    k_is
  · intro s ρ vs kvs X hv hk
    obtain ⟨a, b, rfl, ra, rb⟩ := hv.two
    cases hk
    refine' ⟨?bs, kp_binds (K := hd.heap_39 w.params) X (fun S => ?h1), ?h4⟩
    case h1 => exact rfl
    exact .cons ⟨rfl, ra⟩ (.cons ⟨rfl, rb⟩ (.cons ⟨rfl, rfl⟩ .nil))
  · clear hp hz H h
    induction ps with
    | nil => exact trivial
    | cons p r ih => unfold getOf; split; exact trivial; exact ih
  have hh := H.h
  have hb := (List.getElem?_eq_some_iff.mp hh).1
  refine' ExsP.cons (Ex.assign (Ev.meth (xs := [.str (lw x)]) ?_ (Om.conv H) (Evs.cons (Ev.meth (xs := []) ?_ (Om.str PySem.F.slot_str_lower PySem.F.type_str_lower) ?_ ?_ ?_ (Oc.op (Op.lower hx)) ?_ ?_) ?_ fun _ => rfl) ?_ ?_ (Oc.of rfl (conv (b := true) hs)) ?_ ?_) rfl fun _ _ => rfl) (ExsP.for_ (Ie.list (vs := ps.map fun p => MV.tup [.str p.1, .str p.2]) (Ev.headers (ps := ps) (i := i) (d := d) (h := h) ?_ ?_ ?_ ?_) ?_) (LpP.inv (fun p => MV.tup [.str p.1, .str p.2]) (fun l τ => getOf ps (lw x) = getOf l (lw x) ∧ (∀ p ∈ l, Short p.1) ∧ τ = ⟨[("default", .none), ("name", .str (lw x)), ("self", .ref i)], [], st⟩) ?_ ?_ ?_ ⟨rfl, hp, ?_⟩) ?_)
  repeat any_goals boot_by_name
  · rintro l τ ⟨_, _, rfl⟩; exact hh
  · rintro τ ⟨e, _, rfl⟩
    refine' Then.next (ExsP.ret (v := getOf ps (lw x)) (Ev.eq ?_ e.symm) ?_)
    repeat any_goals boot_by_name
  · rintro p l τ ⟨e, hl, rfl⟩
    refine' ⟨_, Tg.two rfl rfl, ?_⟩
    have hpl : Short p.1 := hl p (.head _)
    by_cases q : (lw p.1 == lw x) = true
    · have e' : getOf ps (lw x) = .str p.2 := by rw [e]; unfold getOf; rw [if_pos q]
      refine' ExsP.iteT (Et.eq (b := lw p.1 == lw x) (Et.cmp (Ev.meth (xs := []) ?_ (Om.str PySem.F.slot_str_lower PySem.F.type_str_lower) ?_ ?_ ?_ (Oc.op (Op.lower hpl)) ?_ ?_) ?_ Op.eq_str rfl) q) (ExsP.ret (v := getOf ps (lw x)) (Ev.eq ?_ e'.symm) ⟨rfl, ?_⟩)
      repeat any_goals boot_by_name
    · have e' : getOf ps (lw x) = getOf l (lw x) := by rw [e]; conv => { lhs; unfold getOf; rw [if_neg q] }
      refine' ExsP.drop (ExsP.iteF (Et.eq (b := lw p.1 == lw x) (Et.cmp (Ev.meth (xs := []) ?_ (Om.str PySem.F.slot_str_lower PySem.F.type_str_lower) ?_ ?_ ?_ (Oc.op (Op.lower hpl)) ?_ ?_) ?_ Op.eq_str rfl) (by simpa using q)) (ExsP.nil (Then.next (ExsP.nil ⟨⟨[("default", .none), ("name", .str (lw x)), ("self", .ref i)], [], st⟩, ?_, e', fun p hp => hl p (.tail _ hp), rfl⟩))))
      repeat any_goals boot_by_name
      exact low_ref H.i
  · rfl
  · exact fun _ _ _ => rfl
end
end
section
section
variable {w : World} {k : Nat} {G : Fx} {σ σ₁ σ₂ : St}
def dropOf (x : PySem.Str) (ps : List (PySem.Str × PySem.Str)) : List (PySem.Str × PySem.Str) := ps.filter fun p => lw p.1 != x
def keep? (x : PySem.Str) : MV → Option MV
  | .tup [.str a, b] => if lw a != x then some (.tup [.str a, b]) else none
  | _ => none
theorem fmK (x : PySem.Str) (ps : List (PySem.Str × PySem.Str)) : (ps.map fun p => MV.tup [.str p.1, .str p.2]).filterMap (keep? x) = (dropOf x ps).map fun p => MV.tup [.str p.1, .str p.2] := by
  induction ps with
  | nil => rfl
  | cons p r ih =>
    unfold dropOf at ih ⊢
    rw [List.map_cons, List.filterMap_cons, List.filter_cons]
    by_cases q : (lw p.1 != x) = true
    · simp only [keep?, if_pos q, List.map_cons, ih]
    · simp only [keep?, if_neg q, ih]
theorem Op.item_tup {W : Wd} {xs : List FV} {j : Nat} {x : FV} (hx : xs[j]? = some x) (hj : j < 100000) : Op W G k (t2 getItem) [.tup xs, .int j] σ (isV (.at x)) σ := Op.mk fun C R hv hq => by
  obtain ⟨_, _, rfl, r, ⟨t, rfl⟩⟩ := hv.two
  obtain ⟨a, o, items, n, rfl, ho, hc, hd, f⟩ := r
  obtain ⟨y, hy, ry⟩ := f.get hx
  have hlt := (List.getElem?_eq_some_iff.mp hy).1
  rw [Array.length_toList] at hlt
  refine PyProof.Rows.getItem_tuple (items := items) (j := j) ?_ (by omega) (by omega) ?_ (by rw [← Array.getElem?_toList]; exact hy) (hq _ _ _ (Nx.self R) ry)
  · exact ⟨o, ho, hc, n, hd⟩
  · exact seqIndex_of (by omega) (by omega)
theorem HdAt.push {st : List MO} {i d h : Nat} {ps : List (PySem.Str × PySem.Str)} (H : HdAt st i d h ps) (sx : List MO) : HdAt (st ++ sx) i d h ps :=
  ⟨by rw [List.getElem?_append_left (List.getElem?_eq_some_iff.mp H.i).1]; exact H.i, by rw [List.getElem?_append_left (List.getElem?_eq_some_iff.mp H.d).1]; exact H.d, by rw [List.getElem?_append_left (List.getElem?_eq_some_iff.mp H.h).1]; exact H.h⟩
theorem Ex.st {W : Wd} {s : Stmt} {fl : Fl} (h : Ex W G k s σ fl σ₁) (e : σ₁ = σ₂) : Ex W G k s σ fl σ₂ := e ▸ h
theorem hdel {st : List MO} {i d h : Nat} {ps : List (PySem.Str × PySem.Str)} {x : PySem.Str} (H : HdAt st i d h ps) (hz : ps.length ≤ 1000) (hs : Safe (lw x)) (hx : Short x) (hp : ∀ p ∈ ps, Short p.1) : Ec (ww w) (k+2) 141 [.ref i, .str x] [] st .none (st.set h (hdL (dropOf (lw x) ps))) := by
  refine' Ec.fnC ["name"] (bs := [("self", .ref i), ("name", .str x)]) (by show List.lookup 141 (hd.heap_39 w.params) = some _; k_is) ?_ ?_ (fun _ => rfl) (by simp) rfl ?_ (by rw [List.length_set]; exact Nat.le_refl _) ?_
  · show codeIn (hd.heap_39 w.params) _ _ = true
    k_is
  · intro s ρ vs kvs X hv hk
    obtain ⟨a, b, rfl, ra, rb⟩ := hv.two
    cases hk
    refine' ⟨?bs, kp_binds (K := hd.heap_39 w.params) X (fun S => ?h1), ?h4⟩
    case h1 => exact rfl
    exact .cons ⟨rfl, ra⟩ (.cons ⟨rfl, rb⟩ .nil)
  · show ExsP _ _ _ _ ⟨[("self", MV.ref i)], [("name", st.length)], st ++ [.cell (some (.str x))]⟩ _
    have H₁ := H.push [.cell (some (.str x))]
    have H₂ := H.push [.cell (some (.str (lw x)))]
    have hc : (st ++ [.cell (some (.str x))])[st.length]? = some (.cell (some (.str x))) := by simp
    have hc₂ : (st ++ [.cell (some (.str (lw x)))])[st.length]? = some (.cell (some (.str (lw x)))) := by simp
    refine' ExsP.cons (σ₁ := ⟨[("self", MV.ref i)], [("name", st.length)], st ++ [.cell (some (.str (lw x)))]⟩) (Ex.st (Ex.assignC (i := st.length) (v₀ := some (.str x)) (Ev.meth (xs := [.str (lw x)]) ?_ (Om.conv H₁) (Evs.cons (Ev.meth (xs := []) (Ev.cell (i := st.length) rfl ?_ ?_ rfl) (Om.str PySem.F.slot_str_lower PySem.F.type_str_lower) ?_ ?_ ?_ (Oc.op (Op.lower hx)) ?_ ?_) ?_ fun _ => rfl) ?_ ?_ (Oc.of rfl (conv (b := true) hs)) ?_ ?_) rfl ?_ ?_ fun _ _ => rfl) ?_) ?_
    repeat any_goals boot_by_name
    all_goals try first | exact hc | exact hc₂ | rfl
    repeat any_goals boot_by_name
    · show St.mk _ _ ((st ++ [_]).set st.length _) = _
      rw [List.set_append_right _ _ (Nat.le_refl _), Nat.sub_self]; rfl
    have hh := H₂.h
    have hb := (List.getElem?_eq_some_iff.mp hh).1
    have hz' : ((ps.map fun p => MV.tup [.str p.1, .str p.2])).length ≤ 1000 := by rw [List.length_map]; exact hz
    refine' ExsP.cons (Ex.setslice (i := h) (j := (st ++ [MO.cell (some (.str (lw x)))]).length) (vs := ps.map fun p => MV.tup [.str p.1, .str p.2]) (ws := (dropOf (lw x) ps).map fun p => MV.tup [.str p.1, .str p.2]) (σ₁ := ⟨[("self", MV.ref i)], [("name", st.length)], st ++ [.cell (some (.str (lw x)))] ++ [.list ((dropOf (lw x) ps).map fun p => MV.tup [.str p.1, .str p.2])]⟩) (Ev.st (Ev.comp (cel' := [("name", st.length)]) (f := keep? (lw x)) (Ie.list (vs := ps.map fun p => MV.tup [.str p.1, .str p.2]) (Ev.headers (ps := ps) (i := i) (d := d) (h := h) ?_ ?_ ?_ ?_) ?_) ⟨rfl, ?_, ?_, rfl, ?_, ?_, ?_, ?_, ?_⟩ rfl fun _ _ _ => rfl) ?_) (Ev.headers (ps := ps) (i := i) (d := d) (h := h) ?_ ?_ ?_ ?_) ?_ ?_ ?_ ?_ fun _ _ => rfl) (ExsP.nil ?_)
    repeat any_goals boot_by_name
    · intro p hp; rw [List.mem_singleton.mp hp]; rfl
    · intro env g hg
      have := hg _ (.head _)
      dsimp only at this
      have hc : cellOf env ("name" : PySem.Str) = pure (g ("name" : PySem.Str)) := by unfold cellOf; rw [this]
      unfold closureFor
      simp only [List.forIn_cons, List.forIn_nil, show (NameKind.local == NameKind.free) = false from rfl, show (NameKind.free == NameKind.free) = true from rfl, hc, if_true, if_false, Bool.false_eq_true]
      rfl
    · intro y hy; rcases List.mem_cons.mp hy with rfl | hy; · simp
      rcases List.mem_cons.mp hy with rfl | hy; · simp
      rcases List.mem_cons.mp hy with rfl | hy; · simp
      cases hy
    · intro y hy q; rcases List.mem_cons.mp hy with rfl | hy; · rfl
      rcases List.mem_cons.mp hy with rfl | hy; · rfl
      rcases List.mem_cons.mp hy with rfl | hy; · cases q
      cases hy
    · refine ⟨fun loc => loc = [] ∨ ∃ u : MV, loc = [(("kv" : PySem.Str), u)], fun v => [("kv", v)], .inl rfl, fun y hy => ?_⟩
      obtain ⟨p, hpm, rfl⟩ := List.mem_map.mp hy
      refine ⟨.inr ⟨_, rfl⟩, fun loc st hok => comp_name rfl loc st hok, fun ys _ => ?_⟩
      have hpl := hp p hpm
      have hcc : ((st ++ [.cell (some (.str (lw x)))]) ++ [.list ys])[st.length]? = some (.cell (some (.str (lw x)))) := by simp
      by_cases q : (lw p.1 != lw x) = true
      · have e : keep? (lw x) (.tup [.str p.1, .str p.2]) = some (.tup [.str p.1, .str p.2]) := by show (if (lw p.1 != lw x) = true then _ else _) = _; rw [if_pos q]
        rw [e]
        refine' .yes (Et.eq (b := lw p.1 != lw x) (Et.cmp (Ev.meth (xs := []) (Ev.sub ?_ ?_ TyOf.tup PySem.F.slot_tuple_getitem.lookup (Op.item_tup (xs := [.str p.1, .str p.2]) (j := 0) rfl (by decide)) ?_ ?_) (Om.str PySem.F.slot_str_lower PySem.F.type_str_lower) ?_ ?_ ?_ (Oc.op (Op.lower hpl)) ?_ ?_) (Ev.cell (i := st.length) rfl ?_ ?_ rfl) Op.ne_str rfl) q) ?_
        repeat any_goals boot_by_name
        all_goals try first | exact hcc | rfl
        repeat any_goals boot_by_name
      · have e : keep? (lw x) (.tup [.str p.1, .str p.2]) = none := by show (if (lw p.1 != lw x) = true then _ else _) = _; rw [if_neg q]
        rw [e]
        refine' .no (Et.eq (b := lw p.1 != lw x) (Et.cmp (Ev.meth (xs := []) (Ev.sub ?_ ?_ TyOf.tup PySem.F.slot_tuple_getitem.lookup (Op.item_tup (xs := [.str p.1, .str p.2]) (j := 0) rfl (by decide)) ?_ ?_) (Om.str PySem.F.slot_str_lower PySem.F.type_str_lower) ?_ ?_ ?_ (Oc.op (Op.lower hpl)) ?_ ?_) (Ev.cell (i := st.length) rfl ?_ ?_ rfl) Op.ne_str rfl) (by simpa using q))
        repeat any_goals boot_by_name
        all_goals try first | exact hcc | rfl
        repeat any_goals boot_by_name
    · intro ys
      show ((st ++ [_]) ++ [_])[h]? = _
      rw [List.getElem?_append_left hb]; exact hh
    · omega
    · show St.mk _ _ _ = St.mk _ _ _
      rw [fmK]
    · exact H₂.push _
    · show ((st ++ [_]) ++ [_])[h]? = _
      rw [List.getElem?_append_left hb]; exact hh
    · show ((st ++ [_]) ++ [_])[(st ++ [_]).length]? = _
      simp
    · exact Nat.ne_of_lt hb
    · have : (dropOf (lw x) ps).length ≤ ps.length := List.length_filter_le _ _
      rw [List.length_map, List.length_map]; omega
    · have hb' := (List.getElem?_eq_some_iff.mp H.h).1
      refine ⟨⟨[.cell (some (.str (lw x))), .list ((dropOf (lw x) ps).map fun p => MV.tup [.str p.1, .str p.2])], ?_⟩, rfl⟩
      show ((st ++ [_]) ++ [_]).set h _ = _
      rw [List.append_assoc, List.set_append_left _ _ hb']; rfl
  · intro hl _
    refine ⟨fun o ho => ?_, trivial⟩
    rw [List.length_set]
    rcases List.mem_or_eq_of_mem_set ho with ho | rfl
    · exact hl o ho
    · intro v hv
      obtain ⟨p, _, rfl⟩ := List.mem_map.mp hv
      exact trivial
end
end
section
section
variable {w : World} {k : Nat} {G : Fx} {σ σ₁ σ₂ : St}
theorem HdAt.upd {st : List MO} {i d h : Nat} {ps qs : List (PySem.Str × PySem.Str)} (H : HdAt st i d h ps) : HdAt (st.set h (hdL qs)) i d h qs := by
  have e1 := H.i
  have e2 := H.d
  have e3 := H.h
  refine ⟨?_, ?_, ?_⟩
  · rw [List.getElem?_set_ne (fun q => by subst q; rw [e3] at e1; cases e1)]; exact e1
  · rw [List.getElem?_set_ne (fun q => by subst q; rw [e3] at e2; cases e2)]; exact e2
  · rw [List.getElem?_set_self (List.getElem?_eq_some_iff.mp e3).1]
theorem low_hdL {n : Nat} (ps : List (PySem.Str × PySem.Str)) : (hdL ps).low n := fun v hv => by
  obtain ⟨p, _, rfl⟩ := List.mem_map.mp hv
  exact trivial
theorem lows_set {st : List MO} {j : Nat} {o : MO} (h : ∀ x ∈ st, x.low st.length) (ho : o.low st.length) : ∀ x ∈ st.set j o, x.low (st.set j o).length := fun x hx => by
  rw [List.length_set]
  rcases List.mem_or_eq_of_mem_set hx with hx | rfl
  · exact h x hx
  · exact ho
theorem hset {st : List MO} {i d h : Nat} {ps : List (PySem.Str × PySem.Str)} {x v : PySem.Str} (H : HdAt st i d h ps) (hz : ps.length ≤ 1000) (hs : Safe (lw x)) (hsx : Safe x) (hsv : Safe v) (hx : Short x) (hp : ∀ p ∈ ps, Short p.1) : Ec (ww w) (k+3) 136 [.ref i, .str x, .str v] [] st .none (st.set h (hdL (dropOf (lw x) ps ++ [(x, v)]))) := by
  refine' Ec.fn (bs := [("self", .ref i), ("name", .str x), ("val", .str v)]) (by show List.lookup 136 (hd.heap_39 w.params) = some _; k_is) ?_ ?_ rfl (by rw [List.length_set]; exact Nat.le_refl _) (fun hl _ => ⟨lows_set hl (low_hdL _), trivial⟩) ?_
  · show codeIn (hd.heap_39 w.params) _ _ = true
    k_is
  · intro s ρ vs kvs X hv hk
    obtain ⟨a, b, c, rfl, ra, rb, rc⟩ := hv.three
    cases hk
    refine' ⟨?bs, kp_binds (K := hd.heap_39 w.params) X (fun S => ?h1), ?h4⟩
    case h1 => exact rfl
    exact .cons ⟨rfl, ra⟩ (.cons ⟨rfl, rb⟩ (.cons ⟨rfl, rc⟩ .nil))
  have H₂ : HdAt (st.set h (hdL (dropOf (lw x) ps))) i d h (dropOf (lw x) ps) := H.upd
  have hh := H₂.h
  have hl : (dropOf (lw x) ps).length ≤ ps.length := List.length_filter_le _ _
  have hi := H.i
  have hdd := H.d
  refine' ExsP.cons (Ex.delitem_inst (σ₁ := ⟨[("val", .str v), ("name", .str x), ("self", .ref i)], [], st⟩) (σ₂ := ⟨[("val", .str v), ("name", .str x), ("self", .ref i)], [], st⟩) (key := .str x) (i := i) (d := d) (C := 223) (f := 141) (kv := [("_headers", .ref h)]) rfl ?_ ?_ ?_ ?_ (by show noSeq (hd.heap_39 w.params) _ = true; k_is) (by show findIn (hd.heap_39 w.params) _ _ = some _; k_is) (by show isFn (hd.heap_39 w.params) _ = true; k_is) (hdel H hz hs hx hp)) (ExsP.cons (Ex.expr (Ev.meth (x := .ref h) (xs := [.tup [.str x, .str v]]) (Ev.headers (ps := dropOf (lw x) ps) (i := i) (d := d) (h := h) ?_ ?_ ?_ ?_) (Om.list (vs := (dropOf (lw x) ps).map fun p => MV.tup [.str p.1, .str p.2]) ?_ PySem.F.slot_list_append PySem.F.type_list_append) (Evs.cons (Ev.tuple (xs := [.str x, .str v]) (Evs.cons (Ev.meth (xs := [.str x]) ?_ (Om.conv H₂) ?_ ?_ ?_ (Oc.of rfl (conv (b := true) hsx)) ?_ ?_) (Evs.cons (Ev.meth (xs := [.str v]) ?_ (Om.conv H₂) ?_ ?_ ?_ (Oc.of rfl (conv (b := false) hsv)) ?_ ?_) ?_ fun _ => rfl) fun _ => rfl) ?_) ?_ fun _ => rfl) ?_ ?_ (Oc.op (Op.append (vs := (dropOf (lw x) ps).map fun p => MV.tup [.str p.1, .str p.2]) ?_ ?_)) ?_ ?_) ⟨_, rfl⟩ fun _ _ => rfl) (ExsP.nil ?_))
  repeat any_goals boot_by_name
  · show 2 ≤ 100000; decide
  · rw [List.length_map]; omega
  · have e : (St.mk [("val", .str v), ("name", .str x), ("self", .ref i)] [] ((st.set h (hdL (dropOf (lw x) ps))).set h (.list ((dropOf (lw x) ps).map (fun p => MV.tup [.str p.1, .str p.2]) ++ [.tup [.str x, .str v]])))).st = st.set h (hdL (dropOf (lw x) ps ++ [(x, v)])) := by
      show (st.set h _).set h _ = _
      rw [List.set_set]
      unfold hdL
      rw [List.map_append]; rfl
    exact ⟨⟨[], by rw [List.append_nil]; exact e⟩, rfl⟩
end
end
section
section
variable {w : World} {k : Nat} {G : Fx} {σ σ₁ σ₂ : St}
theorem lows_dict {st : List MO} {d : Nat} {kv : List (PySem.Str × MV)} {sx : List MO} (h : ∀ x ∈ st, x.low st.length) (h1 : ∀ p ∈ kv, p.2.low (st ++ sx).length) (h2 : ∀ o ∈ sx, o.low (st ++ sx).length) : ∀ x ∈ st.set d (.dict kv) ++ sx, x.low (st.set d (.dict kv) ++ sx).length := fun x hx => by
  rw [List.length_append, List.length_set, ← List.length_append]
  rcases List.mem_append.mp hx with hx | hx
  · rcases List.mem_or_eq_of_mem_set hx with hx | rfl
    · exact mo_mono (h x hx) (by rw [List.length_append]; omega)
    · exact h1
  · exact h2 x hx
theorem hinit {st : List MO} {i d : Nat} (hi : st[i]? = some (.inst 223 d)) (hdd : st[d]? = some (.dict [])) : Ec (ww w) (k+1) 115 [.ref i] [] st .none (st.set d (.dict [("_headers", .ref st.length)]) ++ [.list []]) := by
  have hdl := (List.getElem?_eq_some_iff.mp hdd).1
  refine' Ec.fn (bs := [("self", .ref i), ("headers", .none)]) (by show List.lookup 115 (hd.heap_39 w.params) = some _; k_is) ?_ ?_ rfl (by rw [List.length_append, List.length_set]; omega) (fun hl _ => ⟨lows_dict hl (fun p hp => by rw [List.mem_singleton.mp hp]; show _ < _; rw [List.length_append]; simp) (fun o ho => by rw [List.mem_singleton.mp ho]; exact fun v hv => by cases hv), trivial⟩) ?_
  · show codeIn (hd.heap_39 w.params) _ _ = true
    k_is
  · intro s ρ vs kvs X hv hk
    obtain ⟨a, rfl, ra⟩ := hv.un
    cases hk
    refine' ⟨?bs, kp_binds (K := hd.heap_39 w.params) X (fun S => ?h1), ?h4⟩
    case h1 => exact rfl
    exact .cons ⟨rfl, ra⟩ (.cons ⟨rfl, rfl⟩ .nil)
  have hi' : (st ++ [MO.list []])[i]? = some (.inst 223 d) := by rw [List.getElem?_append_left (List.getElem?_eq_some_iff.mp hi).1]; exact hi
  have hd' : (st ++ [MO.list []])[d]? = some (.dict []) := by rw [List.getElem?_append_left hdl]; exact hdd
  have hn' : (st ++ [MO.list []])[st.length]? = some (.list []) := by simp
  have e : (st ++ [MO.list []]).set d (.dict [("_headers", .ref st.length)]) = st.set d (.dict [("_headers", .ref st.length)]) ++ [.list []] := List.set_append_left _ _ hdl
  have hn₂ : (st.set d (.dict [("_headers", .ref st.length)]) ++ [MO.list []])[st.length]? = some (.list []) := by rw [List.getElem?_append_right (by rw [List.length_set]; exact Nat.le_refl _), List.length_set, Nat.sub_self]; rfl
  refine' ExsP.cons (Ex.assign (v := .ref st.length) (σ₁ := ⟨[("headers", .none), ("self", .ref i)], [], st ++ [.list []]⟩) (Ev.ife (b := false) (Et.eq (b := !MV.none.isNone) ?_ rfl) (Ev.list (σ₁ := ⟨[("headers", .none), ("self", .ref i)], [], st⟩) (xs := []) ?_ ?_)) rfl fun _ _ => rfl) (ExsP.iteF (Et.cmp (Ev.call (xs := [.ref st.length]) ?_ ?_ ?_ ?_ (Oc.op (Op.type_of (TyOf.list (vs := []) ?_) rfl)) ?_ ?_) ?_ Op.isnot_type rfl) (ExsP.nil (Then.next (ExsP.cons (σ₁ := ⟨[("headers", .ref st.length), ("self", .ref i)], [], st.set d (.dict [("_headers", .ref st.length)]) ++ [.list []]⟩) (Ex.st (Ex.setattr (v := .ref st.length) (σ₂ := ⟨[("headers", .ref st.length), ("self", .ref i)], [], st ++ [.list []]⟩) (i := i) (d := d) (C := 223) ?_ ?_ hi' hd' (by show findIn (hd.heap_39 w.params) _ _ = some _; k_is) (by show plainOver (hd.heap_39 w.params) _ = true; k_is) (by show takerIn (hd.heap_39 w.params) _ _ = some _; k_is) (by show hasDictIn (hd.heap_39 w.params) _ = true; k_is) fun _ _ => rfl) ?_) (ExsP.iteT (Et.ofBool ?_ ?_) (ExsP.for_ (xs := []) (Ie.list (i := st.length) (vs := []) ?_ ?_) (LpP.nil ?_ (Then.next (ExsP.nil (Then.next (ExsP.nil ?_))))) fun _ _ _ => rfl))))))
  all_goals (try (repeat' boot_by_name))
  · exact Nat.zero_le _
  · show St.mk _ _ (List.set _ _ _) = _
    rw [e]
theorem join_one (x v : PySem.Str) : Txt.join x [v] = v := rfl
theorem hadd {st : List MO} {i d h : Nat} {ps : List (PySem.Str × PySem.Str)} {x v : PySem.Str} (H : HdAt st i d h ps) (hz : ps.length ≤ 1000) (hsx : Safe x) (hsv : Safe v) (hv : v.length ≤ 1000) : Ec (ww w) (k+2) 220 [.ref i, .str x, .str v] [] st .none (st.set h (hdL (ps ++ [(x, v)]))) := by
  refine' Ec.fnK (nm := "_params") (bs := [("self", .ref i), ("_name", .str x), ("_value", .str v)]) (by show List.lookup 220 (hd.heap_39 w.params) = some _; k_is) ?_ ?_ rfl (by rw [List.length_set]; exact Nat.le_refl _) (fun hl _ => ⟨lows_set hl (low_hdL _), trivial⟩) ?_
  · show codeIn (hd.heap_39 w.params) _ _ = true
    k_is
  · intro s ρ vs kvs X hv hk
    obtain ⟨a, b, c, rfl, ra, rb, rc⟩ := hv.three
    cases hk
    refine' ⟨[("self", a), ("_name", b), ("_value", c)], ?g, ?h1, ?h2, ?h3⟩
    case h1 => exact rfl
    case h2 => exact fun D => rfl
    case h3 => exact .cons ⟨rfl, ra⟩ (.cons ⟨rfl, rb⟩ (.cons ⟨rfl, rc⟩ .nil))
  have H₁ := H.push [.dict []]
  have H₂ : HdAt (st ++ [.dict []] ++ [.list []]) i d h ps := H₁.push _
  have H₃ : HdAt (st ++ [.dict []] ++ [.list [.str v]]) i d h ps := H₁.push _
  have hn₂ : (st ++ [MO.dict []] ++ [.list []])[st.length + 1]? = some (.list []) := by rw [List.getElem?_append_right (by simp)]; simp
  have hn₃ : (st ++ [MO.dict []] ++ [.list [.str v]])[st.length + 1]? = some (.list [.str v]) := by rw [List.getElem?_append_right (by simp)]; simp
  have hi₂ : (st ++ [MO.dict []] ++ [.list [.str v]])[st.length]? = some (.dict []) := by rw [List.getElem?_append_left (by simp)]; simp
  have e₂ : (st ++ [MO.dict []] ++ [MO.list []]).set (st.length + 1) (.list [.str v]) = st ++ [.dict []] ++ [.list [.str v]] := by rw [List.set_append_right _ _ (by simp)]; simp
  have e₃ : (st ++ [MO.dict []]).length = st.length + 1 := by simp
  have hh := H₃.h
  have hhl := (List.getElem?_eq_some_iff.mp H.h).1
  refine' ExsI.cons (σ₁ := ⟨[("_params", .ref st.length), ("_value", .str v), ("_name", .str x), ("self", .ref i), ("parts", .ref (st.length + 1))], [], st ++ [.dict []] ++ [.list []]⟩) (Ex.st (Ex.assign (Ev.list (σ₁ := ⟨[("_params", .ref st.length), ("_value", .str v), ("_name", .str x), ("self", .ref i)], [], st ++ [.dict []]⟩) (xs := []) ?_ ?_) rfl fun _ _ => rfl) ?_) (ExsI.cons (σ₁ := ⟨[("_params", .ref st.length), ("_value", .str v), ("_name", .str x), ("self", .ref i), ("parts", .ref (st.length + 1))], [], st ++ [.dict []] ++ [.list [.str v]]⟩) (Ex.ite (b := true) (Et.eq (b := !(MV.str v).isNone) ?_ rfl) (Exs.cons (Ex.assign (Ev.meth (xs := [.str v]) ?_ (Om.conv H₂) ?_ ?_ ?_ (Oc.of rfl (conv (b := false) hsv)) ?_ ?_) rfl fun _ _ => rfl) (Exs.cons (Ex.st (Ex.expr (Ev.meth (x := .ref (st.length + 1)) (xs := [.str v]) ?_ (Om.list (vs := []) ?_ PySem.F.slot_list_append PySem.F.type_list_append) ?_ ?_ ?_ (Oc.op (Op.append (vs := []) ?_ ?_)) ?_ ?_) ⟨_, rfl⟩ fun _ _ => rfl) ?_) Exs.nil))) (ExsI.items0 rfl rfl rfl hi₂ rfl rfl rfl (ExsP.cons (Ex.expr (Ev.meth (x := .ref h) (xs := [.tup [.str x, .str v]]) (Ev.headers (ps := ps) (i := i) (d := d) (h := h) ?_ ?_ ?_ ?_) (Om.list (vs := ps.map fun p => MV.tup [.str p.1, .str p.2]) ?_ PySem.F.slot_list_append PySem.F.type_list_append) (Evs.cons (Ev.tuple (xs := [.str x, .str v]) (Evs.cons (Ev.meth (xs := [.str x]) ?_ (Om.conv H₃) ?_ ?_ ?_ (Oc.of rfl (conv (b := true) hsx)) ?_ ?_) (Evs.cons (Ev.eq (v := .str (Txt.join "; " [v])) (Ev.meth (x := .str "; ") (xs := [.ref (st.length + 1)]) ?_ (Om.str PySem.F.slot_str_join PySem.F.type_str_join) ?_ ?_ ?_ (Oc.op (Op.join (ss := [v]) ?_ ?_)) ?_ ?_) ?_) ?_ fun _ => rfl) fun _ => rfl) ?_) ?_ fun _ => rfl) ?_ ?_ (Oc.op (Op.append (vs := ps.map fun p => MV.tup [.str p.1, .str p.2]) ?_ ?_)) ?_ ?_) ⟨_, rfl⟩ fun _ _ => rfl) (ExsP.nil ?_))))
  all_goals (try (repeat' boot_by_name))
  all_goals try first | exact Nat.zero_le _ | (show 2 ≤ 100000; decide) | (rw [List.length_map]; omega)
  · show St.mk _ _ _ = St.mk _ _ _
    rw [e₃]; rfl
  · exact congrArg (St.mk _ _) e₂
  · show v.length + 0 + 1 * 2 ≤ _
    omega
  · rfl
  · refine ⟨⟨[.dict [], .list [.str v]], ?_⟩, rfl⟩
    show (st ++ [_] ++ [_]).set h _ = _
    rw [List.append_assoc, List.set_append_left _ _ hhl]
    unfold hdL
    rw [List.map_append]; rfl
end
end
section
section
variable {w : World} {k : Nat} {G : Fx} {σ σ₁ σ₂ : St}
theorem str_bs (c : Nat) : ((⟨#[c]⟩ : PySem.Str) == ("\\" : PySem.Str)) = (c == 92) := by
  have e : ("\\" : PySem.Str) = ⟨#[92]⟩ := by decide +kernel
  rw [e]
  by_cases h : c = 92
  · subst h; simp
  · have h1 : (c == 92) = false := beq_eq_false_iff_ne.mpr h
    rw [h1]
    exact beq_eq_false_iff_ne.mpr fun q => h (by injection q with q; simpa using congrArg (fun a => a.toList) q)
theorem escIe {fn : Expr} {es' : List Expr} {pos : Pos} {x : PySem.Str} (hf : Ev (ww w) G (k + 3) fn σ (.lit (.ref 63)) σ₁) (h1 : Evs (ww w) G (k + 3) es' σ₁ [.str x] σ₂) (hp : PlainArgs es') (he : ∀ env, eval (.Call fn es' [] pos) env = (do callWith pos (← eval fn env) [] (backTo pos (starEach es' env)) (backToKw pos (keywordEach [] env)))) :
    Ie (ww w) G (k + 3) (.Call fn es' [] pos) σ ((escs 0 false x.cps.toList).map escV) true (fun _ => True) σ₂ := by
  refine' Ie.gen (by show List.lookup 63 (hd.heap_39 w.params) = some _; k_is) ?_ ?_ rfl hf h1 (Keeps.K (by show keepIn (hd.heap_39 _) _ = true; k_is)) hp he ?_ ?_
  · exact fn
  · show codeIn (hd.heap_39 w.params) _ _ = true
    k_is
  · intro s ρ vs kvs X hv hk
    obtain ⟨a, rfl, ra⟩ := hv.un
    cases hk
    refine' ⟨?bs, kp_binds (K := hd.heap_39 w.params) X (fun S => ?h1), ?h4⟩
    case h1 => exact rfl
    exact .cons ⟨rfl, ra⟩ .nil
  · refine ⟨fun loc e h => ?_, fun loc c h => ?_, fun loc p c hp hc => ?_, fun loc p c hp hc => ?_, fun loc => ?_, fun loc => ?_, rfl, rfl⟩
    · refine' Et.ofBool (Ev.local rfl h rfl) ?_
      repeat any_goals boot_by_name
    · refine' Et.eq (b := ((⟨#[c]⟩ : PySem.Str) == ("\\" : PySem.Str))) (Et.cmp (Ev.local rfl h rfl) ?_ Op.eq_str rfl) (str_bs c)
      repeat any_goals boot_by_name
    · refine' Ev.tuple (xs := [.int p, .str ⟨#[92, c]⟩]) (Evs.cons (Ev.local rfl hp rfl) (Evs.cons (Ev.eq (v := .str (("\\" : PySem.Str) ++ ⟨#[c]⟩)) (Ev.binop (σ₁ := ⟨loc, [], []⟩) ?_ (Ev.local rfl hc rfl) (Op.add_str ?_)) ?_) ?_ fun _ => rfl) fun _ => rfl) ?_
      repeat any_goals boot_by_name
      · show 1 + 1 ≤ 100000; decide
      · have e : ("\\" : PySem.Str) = ⟨#[92]⟩ := by decide +kernel
        rw [e]; rfl
      · show 2 ≤ 100000; decide
    · refine' Ev.tuple (xs := [.int p, .str ⟨#[c]⟩]) (Evs.cons (Ev.local rfl hp rfl) (Evs.cons (Ev.local rfl hc rfl) ?_ fun _ => rfl) fun _ => rfl) ?_
      repeat any_goals boot_by_name
      · show 2 ≤ 100000; decide
    · refine' Ex.assign (σ₁ := ⟨loc, [], []⟩) ?_ rfl fun _ _ => rfl
      repeat any_goals boot_by_name
    · refine' Ex.assign (σ₁ := ⟨loc, [], []⟩) ?_ rfl fun _ _ => rfl
      repeat any_goals boot_by_name
  · refine ⟨fun loc => ?_, fun loc => ?_, fun loc => ?_, fun loc y h => ?_, fun _ => rfl, fun _ => rfl, fun loc e h => ?_, fun loc p hp => ?_, fun _ _ _ => rfl⟩
    · refine' Ex.assign (σ₁ := ⟨loc, [], []⟩) ?_ rfl fun _ _ => rfl
      repeat any_goals boot_by_name
    · refine' Ex.assign (σ₁ := ⟨loc, [], []⟩) ?_ rfl fun _ _ => rfl
      repeat any_goals boot_by_name
    · repeat any_goals boot_by_name
    · refine' Evs.cons (Ev.local rfl h rfl) ?_ fun _ => rfl
      repeat any_goals boot_by_name
    · refine' Et.ofBool (Ev.local rfl h rfl) ?_
      repeat any_goals boot_by_name
    · refine' Ev.tuple (xs := [.int p, .str ⟨#[92]⟩]) (Evs.cons (Ev.local rfl hp rfl) (Evs.cons (Ev.eq (v := .str ("\\" : PySem.Str)) ?_ ?_) ?_ fun _ => rfl) fun _ => rfl) ?_
      repeat any_goals boot_by_name
      · have e : ("\\" : PySem.Str) = ⟨#[92]⟩ := by decide +kernel
        rw [e]
      · show 2 ≤ 100000; decide
end
end
section
theorem lastAt {st : List MO} {o : MO} : (st ++ [o])[st.length]? = some o := by simp
theorem setLast {st : List MO} {o o' : MO} : (st ++ [o]).set st.length o' = st ++ [o'] := by rw [List.set_append_right _ _ (Nat.le_refl _), Nat.sub_self]; rfl
theorem Op.appendL {W : Wd} {G : Fx} {k : Nat} {loc : List (PySem.Str × MV)} {cel : List (PySem.Str × Nat)} {st : List MO} {vs : List MV} {x : MV} (hz : vs.length ≤ 100000) : Op W G k (fun _ l => call (.builtin "list.append") l) [.ref st.length, x] ⟨loc, cel, st ++ [.list vs]⟩ (isV .none) ⟨loc, cel, st ++ [.list (vs ++ [x])]⟩ := by
  have h := Op.append (W := W) (G := G) (k := k) (σ := ⟨loc, cel, st ++ [.list vs]⟩) (i := st.length) (vs := vs) (x := x) lastAt hz
  rw [show ({ (⟨loc, cel, st ++ [.list vs]⟩ : St) with st := (⟨loc, cel, st ++ [.list vs]⟩ : St).st.set st.length (.list (vs ++ [x])) } : St) = ⟨loc, cel, st ++ [.list (vs ++ [x])]⟩ from congrArg (St.mk _ _) setLast] at h
  exact h
theorem Ev.listL {W : Wd} {G : Fx} {k : Nat} {loc : List (PySem.Str × MV)} {cel : List (PySem.Str × Nat)} {st : List MO} {σ : St} {es : List Expr} {xs : List MV} {pos : Pos} (h : Evs W G k es σ xs ⟨loc, cel, st⟩) (hz : xs.length ≤ 100000) : Ev W G k (.List es pos) σ (.ref st.length) ⟨loc, cel, st ++ [.list xs]⟩ := Ev.list h hz
theorem lenLast {st : List MO} {a b : MO} : (st ++ [a]).length ≤ (st ++ [b]).length := by simp
local macro_rules | `(tactic| boot_by_name) => `(tactic| first
  | exact lastAt
  | refine' Drop.keep lenLast ?_ trivial
  | refine' Ev.listL ?_ ?_)
section
variable {w : World} {k : Nat} {G : Fx} {σ σ₁ σ₂ : St}
def qstep (x : PySem.Str) (s : Nat × Option Nat × List PySem.Str) (p : Nat × PySem.Str) : Nat × Option Nat × List PySem.Str :=
  if p.2 == ("\"" : PySem.Str) then match s.2.1 with
    | none => (s.1, some p.1, s.2.2)
    | some o => (p.1 + 1, none, if ((s.1 : Int) != (o : Int)) = true then s.2.2 ++ [Txt.slice x (some s.1) (some o)] else s.2.2)
  else s
def qfin (x : PySem.Str) : Nat × Option Nat × List PySem.Str := (escs 0 false x.cps.toList).foldl (qstep x) (0, none, [])
def stripS (x : PySem.Str) : PySem.Str := if subStr "\"" x then (if ((qfin x).1 : Int) < (x.length : Int) then Txt.join "" ((qfin x).2.2 ++ [Txt.slice x (some (qfin x).1) none]) else Txt.join "" (qfin x).2.2) else x
def oV : Option Nat → MV
  | none => .none
  | some o => .int o
theorem oV_low {n : Nat} (o : Option Nat) : (oV o).low n := by cases o <;> trivial
theorem slice_len (x : PySem.Str) (l u : Option Int) : (Txt.slice x l u).length ≤ x.length := Txt.slice_le x l u
theorem sum_le {n m : Nat} {l : List PySem.Str} (h : ∀ p ∈ l, p.length ≤ n) (hl : l.length ≤ m) : (l.map (·.length)).sum ≤ m * n := by
  induction l generalizing m with
  | nil => simp
  | cons a l ih =>
    cases m with
    | zero => simp at hl
    | succ m =>
      have h1 := h a (.head _)
      have h2 := ih (m := m) (fun p hp => h p (.tail _ hp)) (by simp at hl; exact hl)
      simp only [List.map_cons, List.sum_cons, Nat.succ_mul]
      omega
theorem escs_len : ∀ (l : List Nat) (i : Nat) (e : Bool), (escs i e l).length ≤ l.length + 1
  | [], i, e => by unfold escs; split <;> simp
  | c :: cs, i, e => by
    unfold escs
    split
    · have := escs_len cs (i + 1) false; simp; omega
    · split
      · have := escs_len cs (i + 1) true; simp; omega
      · have := escs_len cs (i + 1) false; simp; omega
theorem hstrip {st : List MO} {x : PySem.Str} (hx : x.length ≤ 1000) : Ec (ww w) (k+4) 70 [.str x] [] st (.str (stripS x)) st := by
  refine' Ec.fn (bs := [("addr", .str x)]) (by show List.lookup 70 (hd.heap_39 w.params) = some _; k_is) ?_ ?_ rfl (Nat.le_refl _) (fun hl _ => ⟨hl, trivial⟩) ?_
  · show codeIn (hd.heap_39 w.params) _ _ = true
    k_is
  · intro s ρ vs kvs X hv hk
    obtain ⟨a, rfl, ra⟩ := hv.un
    cases hk
    refine' ⟨?bs, kp_binds (K := hd.heap_39 w.params) X (fun S => ?h1), ?h4⟩
    case h1 => exact rfl
    exact .cons ⟨rfl, ra⟩ .nil
  by_cases hq : subStr "\"" x = true
  · have es : stripS x = (if ((qfin x).1 : Int) < (x.length : Int) then Txt.join "" ((qfin x).2.2 ++ [Txt.slice x (some (qfin x).1) none]) else Txt.join "" (qfin x).2.2) := by unfold stripS; rw [if_pos hq]
    refine' ExsP.iteF (Et.eq (b := !subStr "\"" x) (Et.cmp ?_ ?_ Op.notIn_str rfl) (by rw [hq]; rfl)) (ExsP.nil (Then.next (ExsP.cons (Ex.assign ?_ rfl fun _ _ => rfl) (ExsP.cons (Ex.assign ?_ rfl fun _ _ => rfl) (ExsP.cons (Ex.assign (Ev.listL (xs := []) ?_ ?_) rfl fun _ _ => rfl) (ExsP.for_ (escIe ?_ (Evs.cons ?_ ?_ fun _ => rfl) ?_ ?_) (LpP.inv escV (fun l τ => ∃ s : Nat × Option Nat × List PySem.Str, l.foldl (qstep x) s = qfin x ∧ s.2.2.length + l.length ≤ 1001 ∧ (∀ p ∈ s.2.2, p.length ≤ x.length) ∧ τ = ⟨[("addr", .str x), ("start", .int s.1), ("open_pos", oV s.2.1), ("result", .ref st.length)], [], st ++ [.list (s.2.2.map .str)]⟩) ?_ ?_ ?_ ⟨(0, none, []), rfl, ?_, ?_, rfl⟩) fun _ _ _ => rfl))))))
    all_goals (try (repeat' boot_by_name))
    · exact Nat.zero_le _
    · exact fun _ _ _ => trivial
    · rintro τ ⟨⟨s, o, r⟩, e1, e2, e3, rfl⟩
      have e1 : (s, o, r) = qfin x := e1
      dsimp only at e2 e3 ⊢
      have hsum : ∀ r' : List PySem.Str, r'.length ≤ 1002 → (∀ p ∈ r', p.length ≤ x.length) → (r'.map (·.length)).sum + r'.length * ("" : PySem.Str).length ≤ 16777216 := by
        intro r' h1 h2
        have h3 := sum_le h2 h1
        have h4 : ("" : PySem.Str).length = 0 := by decide +kernel
        rw [h4, Nat.mul_zero]
        have : 1002 * x.length ≤ 1002 * 1000 := Nat.mul_le_mul_left _ hx
        omega
      rw [← e1] at es
      dsimp only at es
      by_cases hlt : (s : Int) < (x.length : Int)
      · rw [if_pos hlt] at es
        rw [es]
        refine' Then.next (ExsP.iteT (Et.eq (b := decide ((s : Int) < (x.length : Int))) (Et.cmp ?_ (Ev.call (xs := [.str x]) ?_ ?_ ?_ ?_ (Oc.op (Op.len_str ?_)) ?_ ?_) Op.lt rfl) (by simpa using hlt)) (ExsP.cons (Ex.expr (Ev.meth (x := .ref st.length) (xs := [.str (Txt.slice x (some s) none)]) ?_ (Om.list (vs := r.map .str) ?_ PySem.F.slot_list_append PySem.F.type_list_append) (Evs.cons (Ev.slice_str (x := x) (l := some (s : Int)) (u := none) ?_ (Evp.some ?_) Evp.none ?_ fun _ _ => rfl) ?_ fun _ => rfl) ?_ ?_ (Oc.op (Op.appendL ?_)) ?_ ?_) ⟨_, rfl⟩ fun _ _ => rfl) (ExsP.nil (Then.next (ExsP.ret (Ev.meth (x := .str "") (xs := [.ref st.length]) ?_ (Om.str PySem.F.slot_str_join PySem.F.type_str_join) ?_ ?_ ?_ (Oc.op (Op.join (ss := r ++ [Txt.slice x (some s) none]) ?_ ?_)) ?_ ?_) ?_)))))
        all_goals (try (repeat' boot_by_name))
        all_goals try first | omega | (rw [List.length_map]; omega)
        · show (st ++ [_])[st.length]? = _
          rw [List.map_append]; exact lastAt
        · refine hsum _ (by rw [List.length_append, List.length_singleton]; omega) fun p hp => ?_
          rcases List.mem_append.mp hp with hp | hp
          · exact e3 p hp
          · rw [List.mem_singleton.mp hp]; exact slice_len _ _ _
        · exact Ends.retX
      · rw [if_neg hlt] at es
        rw [es]
        refine' Then.next (ExsP.iteF (Et.eq (b := decide ((s : Int) < (x.length : Int))) (Et.cmp ?_ (Ev.call (xs := [.str x]) ?_ ?_ ?_ ?_ (Oc.op (Op.len_str ?_)) ?_ ?_) Op.lt rfl) (by simpa using hlt)) (ExsP.nil (Then.next (ExsP.ret (Ev.meth (x := .str "") (xs := [.ref st.length]) ?_ (Om.str PySem.F.slot_str_join PySem.F.type_str_join) ?_ ?_ ?_ (Oc.op (Op.join (ss := r) ?_ ?_)) ?_ ?_) ?_))))
        all_goals (try (repeat' boot_by_name))
        all_goals try first | omega | (rw [List.length_map]; omega)
        · exact hsum _ (by omega) e3
        · exact Ends.retX
    · rintro ⟨p, c⟩ l τ ⟨⟨s, o, r⟩, e1, e2, e3, rfl⟩
      rw [List.foldl_cons] at e1
      rw [List.length_cons] at e2
      dsimp only at e2 e3
      refine' ⟨_, Tg.two rfl rfl, ?_⟩
      by_cases hc : (c == ("\"" : PySem.Str)) = true
      · cases o with
        | none =>
          have hstep : qstep x (s, none, r) (p, c) = (s, some p, r) := by unfold qstep; rw [if_pos hc]
          rw [hstep] at e1
          refine' ExsP.drop (ExsP.iteT (Et.eq (b := c == ("\"" : PySem.Str)) (Et.cmp ?_ ?_ Op.eq_str rfl) hc) (ExsP.iteT (Et.eq (b := true) ?_ rfl) (ExsP.cons (Ex.assign ?_ rfl fun _ _ => rfl) (ExsP.nil (Then.next (ExsP.nil (Then.next (ExsP.nil ⟨⟨[("addr", .str x), ("start", .int s), ("open_pos", .int p), ("result", .ref st.length)], [], st ++ [.list (r.map .str)]⟩, ?_, ⟨(s, some p, r), e1, ?_, e3, rfl⟩⟩))))))))
          all_goals (try (repeat' boot_by_name))
          all_goals try first | exact low_ref lastAt | (show r.length + l.length ≤ 1001; omega)
        | some o =>
          have hstep : qstep x (s, some o, r) (p, c) = (p + 1, none, if ((s : Int) != (o : Int)) = true then r ++ [Txt.slice x (some s) (some o)] else r) := by unfold qstep; rw [if_pos hc]
          rw [hstep] at e1
          by_cases hso : ((s : Int) != (o : Int)) = true
          · rw [if_pos hso] at e1
            refine' ExsP.drop (ExsP.iteT (Et.eq (b := c == ("\"" : PySem.Str)) (Et.cmp ?_ ?_ Op.eq_str rfl) hc) (ExsP.iteF (Et.eq (b := false) ?_ rfl) (ExsP.iteT (Et.eq (b := ((s : Int) != (o : Int))) (Et.cmp ?_ ?_ Op.ne rfl) hso) (ExsP.cons (Ex.expr (Ev.meth (x := .ref st.length) (xs := [.str (Txt.slice x (some s) (some o))]) ?_ (Om.list (vs := r.map .str) ?_ PySem.F.slot_list_append PySem.F.type_list_append) (Evs.cons (Ev.slice_str (x := x) (l := some (s : Int)) (u := some (o : Int)) ?_ (Evp.some ?_) (Evp.some ?_) ?_ fun _ _ => rfl) ?_ fun _ => rfl) ?_ ?_ (Oc.op (Op.appendL ?_)) ?_ ?_) ⟨_, rfl⟩ fun _ _ => rfl) (ExsP.nil (Then.next (ExsP.cons (Ex.assign ?_ rfl fun _ _ => rfl) (ExsP.cons (Ex.assign ?_ rfl fun _ _ => rfl) (ExsP.nil (Then.next (ExsP.nil (Then.next (ExsP.nil ⟨⟨[("addr", .str x), ("start", .int (p + 1)), ("open_pos", .none), ("result", .ref st.length)], [], st ++ [.list (r.map .str ++ [.str (Txt.slice x (some s) (some o))])]⟩, ?_, ⟨(p + 1, none, r ++ [Txt.slice x (some s) (some o)]), e1, ?_, ?_, ?_⟩⟩)))))))))))))
            all_goals (try (repeat' boot_by_name))
            all_goals try first | exact low_ref lastAt | omega | (rw [List.length_map]; omega)
            · show (r.map MV.str).length ≤ _
              rw [List.length_map]; omega
            · show (r ++ [_]).length + l.length ≤ 1001
              rw [List.length_append, List.length_singleton]; omega
            · intro q hq'
              rcases List.mem_append.mp hq' with hq' | hq'
              · exact e3 q hq'
              · rw [List.mem_singleton.mp hq']; exact slice_len _ _ _
            · rw [List.map_append]; rfl
          · rw [if_neg hso] at e1
            refine' ExsP.drop (ExsP.iteT (Et.eq (b := c == ("\"" : PySem.Str)) (Et.cmp ?_ ?_ Op.eq_str rfl) hc) (ExsP.iteF (Et.eq (b := false) ?_ rfl) (ExsP.iteF (Et.eq (b := ((s : Int) != (o : Int))) (Et.cmp ?_ ?_ Op.ne rfl) (by simpa using hso)) (ExsP.nil (Then.next (ExsP.cons (Ex.assign ?_ rfl fun _ _ => rfl) (ExsP.cons (Ex.assign ?_ rfl fun _ _ => rfl) (ExsP.nil (Then.next (ExsP.nil (Then.next (ExsP.nil ⟨⟨[("addr", .str x), ("start", .int (p + 1)), ("open_pos", .none), ("result", .ref st.length)], [], st ++ [.list (r.map .str)]⟩, ?_, ⟨(p + 1, none, r), e1, ?_, e3, rfl⟩⟩))))))))))))
            all_goals (try (repeat' boot_by_name))
            all_goals try first | exact low_ref lastAt | (show r.length + l.length ≤ 1001; omega)
      · have hstep : qstep x (s, o, r) (p, c) = (s, o, r) := by unfold qstep; rw [if_neg hc]
        rw [hstep] at e1
        refine' ExsP.drop (ExsP.iteF (Et.eq (b := c == ("\"" : PySem.Str)) (Et.cmp ?_ ?_ Op.eq_str rfl) (by simpa using hc)) (ExsP.nil (Then.next (ExsP.nil ⟨⟨[("addr", .str x), ("start", .int s), ("open_pos", oV o), ("result", .ref st.length)], [], st ++ [.list (r.map .str)]⟩, ?_, ⟨(s, o, r), e1, ?_, e3, rfl⟩⟩))))
        all_goals (try (repeat' boot_by_name))
        all_goals try first | exact low_ref lastAt | exact oV_low _ | (show r.length + l.length ≤ 1001; omega)
    · have h1 := escs_len x.cps.toList 0 false
      have h2 : x.cps.toList.length = x.length := rfl
      show 0 + _ ≤ _
      omega
    · intro p hp; cases hp
  · have es : stripS x = x := by unfold stripS; rw [if_neg hq]
    rw [es]
    refine' ExsP.iteT (Et.eq (b := !subStr "\"" x) (Et.cmp ?_ ?_ Op.notIn_str rfl) (by simpa using hq)) (ExsP.ret ?_ ?_)
    all_goals (try (repeat' boot_by_name))
end
end
section
section
variable {W : Wd} {G : Fx} {k : Nat} {loc loc' : List (PySem.Str × MV)} {cel : List (PySem.Str × Nat)} {st sx sy : List MO} {σ σ₁ σ₂ : St}
theorem getA {j : Nat} {o : MO} (h : sx[j]? = some o) : (st ++ sx)[st.length + j]? = some o := by rw [List.getElem?_append_right (by omega), Nat.add_sub_cancel_left]; exact h
theorem setA {j : Nat} {o : MO} : (st ++ sx).set (st.length + j) o = st ++ sx.set j o := by rw [List.set_append_right _ _ (by omega), Nat.add_sub_cancel_left]
theorem stA {j : Nat} {o : MO} : (St.mk loc cel ((st ++ sx).set (st.length + j) o)) = ⟨loc, cel, st ++ sx.set j o⟩ := congrArg (St.mk _ _) setA
theorem Ev.listA {es : List Expr} {xs : List MV} {pos : Pos} (h : Evs W G k es σ xs ⟨loc, cel, st ++ sx⟩) (hz : xs.length ≤ 100000) : Ev W G k (.List es pos) σ (.ref (st.length + sx.length)) ⟨loc, cel, st ++ (sx ++ [.list xs])⟩ := by
  have := Ev.list (pos := pos) h hz
  rw [show (⟨loc, cel, st ++ sx⟩ : St).st.length = st.length + sx.length from List.length_append] at this
  exact Ev.st this (congrArg (St.mk _ _) (List.append_assoc ..))
theorem Op.appendA {j : Nat} {vs : List MV} {x : MV} (h : sx[j]? = some (.list vs)) (hz : vs.length ≤ 100000) : Op W G k (fun _ l => call (.builtin "list.append") l) [.ref (st.length + j), x] ⟨loc, cel, st ++ sx⟩ (isV .none) ⟨loc, cel, st ++ sx.set j (.list (vs ++ [x]))⟩ :=
  stA (loc := loc) (cel := cel) (st := st) (sx := sx) (j := j) ▸ Op.append (W := W) (G := G) (k := k) (σ := ⟨loc, cel, st ++ sx⟩) (i := st.length + j) (vs := vs) (x := x) (getA h) hz
theorem Op.pop_lastA {j : Nat} {vs : List MV} {x : MV} (h : sx[j]? = some (.list (vs ++ [x]))) (hz : vs.length ≤ 100000) : Op W G k (fun _ l => call (.builtin "list.pop") l) [.ref (st.length + j)] ⟨loc, cel, st ++ sx⟩ (isV x) ⟨loc, cel, st ++ sx.set j (.list vs)⟩ :=
  stA (loc := loc) (cel := cel) (st := st) (sx := sx) (j := j) ▸ Op.pop_last (W := W) (G := G) (k := k) (σ := ⟨loc, cel, st ++ sx⟩) (i := st.length + j) (vs := vs) (x := x) (getA h) hz
theorem Drop.keepA (hn : sx.length ≤ sy.length) (h : Has (st ++ sy).length loc loc') (hc : ∀ p ∈ cel, p.2 < (st ++ sy).length) : Drop (st ++ sx) .next ⟨loc, cel, st ++ sy⟩ ⟨loc', cel, st ++ sy⟩ := .names (by simp only [List.length_append]; omega) h hc trivial
theorem low_refA {j : Nat} (h : j < sx.length) : (MV.ref (st.length + j)).low (st ++ sx).length := by show _ < _; rw [List.length_append]; omega
theorem TyOf.listA {j : Nat} {vs : List MV} (h : sx[j]? = some (.list vs)) : TyOf (.ref (st.length + j)) ⟨loc, cel, st ++ sx⟩ "list" := TyOf.list (getA h)
end
local macro_rules | `(tactic| boot_by_name) => `(tactic| first
  | exact getA rfl
  | exact low_refA (by decide)
  | exact Op.eq_str
  | exact Eq.refl (some _)
  | refine' Ev.neg ?_)
section
variable {w : World} {k : Nat} {G : Fx} {σ σ₁ σ₂ : St}
def bal : List (Nat × PySem.Str) → Nat → Option Nat
  | [], z => some z
  | p :: l, z => if p.2 == ("(" : PySem.Str) then bal l (z + 1) else if p.2 == (")" : PySem.Str) then (match z with | 0 => none | z + 1 => bal l z) else bal l z
def stripE (x : PySem.Str) : List (Nat × PySem.Str) := escs 0 false (stripS x).cps.toList
theorem hcheck {st : List MO} {x : PySem.Str} {z : Nat} (hx : x.length ≤ 1000) (hb : bal (stripE x) 0 = some z) : Ec (ww w) (k+5) 77 [.str x] [] st (.bool ((z : Int) == 0)) st := by
  refine' Ec.fn (bs := [("addr", .str x)]) (by show List.lookup 77 (hd.heap_39 w.params) = some _; k_is) ?_ ?_ rfl (Nat.le_refl _) (fun hl _ => ⟨hl, trivial⟩) ?_
  · show codeIn (hd.heap_39 w.params) _ _ = true
    k_is
  · intro s ρ vs kvs X hv hk
    obtain ⟨a, rfl, ra⟩ := hv.un
    cases hk
    refine' ⟨?bs, kp_binds (K := hd.heap_39 w.params) X (fun S => ?h1), ?h4⟩
    case h1 => exact rfl
    exact .cons ⟨rfl, ra⟩ .nil
  refine' ExsP.cons (Ex.assign (Ev.call (xs := [.str x]) ?_ ?_ ?_ ?_ (Oc.of rfl (hstrip hx)) ?_ ?_) rfl fun _ _ => rfl) (ExsP.cons (Ex.assign ?_ rfl fun _ _ => rfl) (ExsP.for_ (escIe (k := k + 1) ?_ (Evs.cons ?_ ?_ fun _ => rfl) ?_ ?_) (LpP.inv escV (fun l τ => ∃ y : Nat, bal l y = some z ∧ τ = ⟨[("addr", .str (stripS x)), ("opens", .int y)], [], st⟩) ?_ ?_ ?_ ⟨0, hb, rfl⟩) fun _ _ _ => rfl))
  repeat any_goals boot_by_name
  · exact fun _ _ _ => trivial
  · rintro τ ⟨y, e, rfl⟩
    have e : y = z := Option.some.inj e
    subst e
    refine' Then.next (ExsP.ret (Ev.cmp ?_ ?_ Op.eq rfl) ?_)
    repeat any_goals boot_by_name
  · rintro ⟨p, c⟩ l τ ⟨y, e, rfl⟩
    refine' ⟨_, Tg.two rfl rfl, ?_⟩
    unfold bal at e
    by_cases h1 : (c == ("(" : PySem.Str)) = true
    · rw [if_pos h1] at e
      refine' ExsP.drop (ExsP.iteT (Et.eq (b := c == ("(" : PySem.Str)) (Et.cmp ?_ ?_ Op.eq_str rfl) h1) (ExsP.cons (Ex.aug rfl ?_ ?_ Op.iadd) (ExsP.nil (Then.next (ExsP.nil ⟨⟨[("addr", .str (stripS x)), ("opens", .int (y + 1))], [], st⟩, ?_, ⟨y + 1, e, rfl⟩⟩)))))
      repeat any_goals boot_by_name
    · rw [if_neg h1] at e
      by_cases h2 : (c == (")" : PySem.Str)) = true
      · rw [if_pos h2] at e
        cases y with
        | zero => cases e
        | succ y =>
          have e : bal l y = some z := e
          refine' ExsP.drop (ExsP.iteF (Et.eq (b := c == ("(" : PySem.Str)) (Et.cmp ?_ ?_ Op.eq_str rfl) (by simpa using h1)) (ExsP.iteT (Et.eq (b := c == (")" : PySem.Str)) (Et.cmp ?_ ?_ Op.eq_str rfl) h2) (ExsP.cons (Ex.aug rfl ?_ ?_ Op.isub) (ExsP.iteF (Et.eq (b := decide (((y + 1 : Nat) : Int) - 1 < 0)) (Et.cmp ?_ ?_ Op.lt rfl) ?_) (ExsP.nil (Then.next (ExsP.nil (Then.next (ExsP.nil (Then.next (ExsP.nil ⟨⟨[("addr", .str (stripS x)), ("opens", .int (((y + 1 : Nat) : Int) - 1))], [], st⟩, ?_, ⟨y, e, ?_⟩⟩)))))))))))
          repeat any_goals boot_by_name
          · exact decide_eq_false (by omega)
          · rw [show (((y + 1 : Nat) : Int) - 1) = (y : Int) by omega]
      · rw [if_neg h2] at e
        refine' ExsP.drop (ExsP.iteF (Et.eq (b := c == ("(" : PySem.Str)) (Et.cmp ?_ ?_ Op.eq_str rfl) (by simpa using h1)) (ExsP.iteF (Et.eq (b := c == (")" : PySem.Str)) (Et.cmp ?_ ?_ Op.eq_str rfl) (by simpa using h2)) (ExsP.nil (Then.next (ExsP.nil (Then.next (ExsP.nil ⟨⟨[("addr", .str (stripS x)), ("opens", .int y)], [], st⟩, ?_, ⟨y, e, rfl⟩⟩)))))))
        repeat any_goals boot_by_name
end
end
section
theorem lookM {o : Option MO} {v u : MO} (h : o = some u) (e : u = v) : o = some v := e ▸ h
theorem lookL {x : PySem.Str} {l : List (PySem.Str × MV)} {v u : MV} (h : l.lookup x = some u) (e : u = v) : l.lookup x = some v := e ▸ h
theorem lookN {x : PySem.Str} {l : List (PySem.Str × Nat)} {v u : Nat} (h : l.lookup x = some u) (e : u = v) : l.lookup x = some v := e ▸ h
theorem hcelA {n : PySem.Str} {st sy : List MO} (h : 0 < sy.length) : ∀ p ∈ [(n, st.length)], p.2 < (st ++ sy).length := by
  intro p hp
  rw [List.mem_singleton.mp hp]
  show st.length < _
  rw [List.length_append]; omega
local macro_rules | `(tactic| boot_by_name) => `(tactic| first
  | exact getA rfl
  | exact low_refA (by simp)
  | exact Op.eq_str
  | exact lookM (Eq.refl (some _)) rfl | exact lookL (Eq.refl (some _)) rfl | exact lookN (Eq.refl (some _)) rfl
  | refine' Ev.neg ?_
  | exact hcelA (by simp)
  | refine' Drop.keepA (by simp) ?_ ?_)
section
variable {w : World} {k : Nat} {G : Fx} {σ σ₁ σ₂ : St}
def hts : List (Nat × PySem.Str) → List Nat → List Nat → Option (List Nat × List Nat)
  | [], s, hs => some (s, hs)
  | p :: l, s, hs => if p.2 == ("(" : PySem.Str) then hts l (0 :: s) hs else if p.2 == (")" : PySem.Str) then (match s with | a :: b :: q => hts l ((if a + 1 > b then a + 1 else b) :: q) (hs ++ [a + 1]) | _ => none) else hts l s hs
def pileV : List Nat → List MV
  | [] => []
  | a :: s => pileV s ++ [.int a]
theorem pileV_len (s : List Nat) : (pileV s).length = s.length := by
  induction s with
  | nil => rfl
  | cons a s ih => unfold pileV; simp [ih]
def intsV (hs : List Nat) : List MV := hs.map fun (a : Nat) => MV.int a
theorem intsV_len (s : List Nat) : (intsV s).length = s.length := by unfold intsV; rw [List.length_map]
def cntV (hs : List Nat) (M : Nat) : List MV := (List.range M).map fun i => .int ((hs.count (i + 1) : Nat) : Int)
theorem intsV_ints (hs : List Nat) : intsV hs = (hs.map fun (a : Nat) => (a : Int)).map MV.int := by unfold intsV; rw [List.map_map]; rfl
theorem count_cast (hs : List Nat) (n : Nat) : (hs.map fun (a : Nat) => (a : Int)).count (n : Int) = hs.count n := by
  induction hs with
  | nil => rfl
  | cons a hs ih =>
    rw [List.map_cons, List.count_cons, List.count_cons, ih]
    congr 1
    by_cases h : a = n
    · subst h; simp
    · have : ¬ ((a : Int) = (n : Int)) := by omega
      simp [h, this]
theorem rangeSize_to {a b : Int} {n : Nat} (h : b = a + n) : Builtin.Range.rangeSize a b 1 = n := by
  subst h
  unfold Builtin.Range.rangeSize
  rw [if_pos (by decide)]
  split <;> omega
theorem small_to {a b : Int} (h1 : 0 ≤ a) (h2 : a ≤ 1000000) (h3 : 0 ≤ b) (h4 : b ≤ 1000000) : Builtin.Range.small a b 1 = true := by
  have fit : ∀ x : Int, 0 ≤ x → x ≤ 1000001 → Builtin.Range.rangeFitsLong x = true := fun x h1 h2 => by
    unfold Builtin.Range.rangeFitsLong
    simp only [Bool.and_eq_true, decide_eq_true_eq]
    omega
  have hs : 0 ≤ Builtin.Range.rangeSize a b 1 ∧ Builtin.Range.rangeSize a b 1 ≤ 1000001 := by
    unfold Builtin.Range.rangeSize
    rw [if_pos (by decide)]
    split <;> omega
  unfold Builtin.Range.small
  rw [fit a h1 (by omega), fit b h3 (by omega), fit 1 (by decide) (by decide), fit _ hs.1 hs.2, if_pos (by decide), fit (b + (1 - 1)) (by omega) (by omega)]
  simp
theorem lows_app {st sx : List MO} (h : ∀ x ∈ st, x.low st.length) (h2 : ∀ o ∈ sx, o.low (st ++ sx).length) : ∀ x ∈ st ++ sx, x.low (st ++ sx).length := fun x hx => by
  rcases List.mem_append.mp hx with hx | hx
  · exact mo_mono (h x hx) (by rw [List.length_append]; omega)
  · exact h2 x hx
theorem low_pile {n : Nat} (s : List Nat) : (MO.list (pileV s)).low n := by
  intro v hv
  induction s with
  | nil => cases hv
  | cons a s ih =>
    rcases List.mem_append.mp hv with h | h
    · exact ih h
    · rw [List.mem_singleton.mp h]; exact trivial
theorem low_ints {n : Nat} (s : List Nat) : (MO.list (intsV s)).low n := fun v hv => by
  obtain ⟨x, _, rfl⟩ := List.mem_map.mp hv
  exact trivial
theorem low_cnt {n M : Nat} (s : List Nat) : (MO.list (cntV s M)).low n := fun v hv => by
  obtain ⟨x, _, rfl⟩ := List.mem_map.mp hv
  exact trivial
theorem set_back (q : List MV) (b v : MV) : (q ++ [b]).set ((-1 : Int) + (q ++ [b]).length).toNat v = q ++ [v] := by
  have : ((-1 : Int) + (q ++ [b]).length).toNat = q.length := by rw [List.length_append, List.length_singleton]; omega
  rw [this, List.set_append_right _ _ (Nat.le_refl _), Nat.sub_self]; rfl
theorem mapTo {α β γ : Type} (f : β → Option γ) (g : α → β) (h : α → γ) (l : List α) (e : ∀ a ∈ l, f (g a) = some (h a)) : (l.map g).filterMap f = l.map h := by
  induction l with
  | nil => rfl
  | cons a l ih => rw [List.map_cons, List.filterMap_cons, e a (.head _), List.map_cons, ih fun a h => e a (.tail _ h)]
theorem hheights {st : List MO} {x : PySem.Str} {s hs : List Nat} {M : Nat} (hx : x.length ≤ 1000) (hl : (stripE x).length ≤ 1001) (hh : hts (stripE x) [0] [] = some (s, hs)) (hM : M ∈ hs) (hle : ∀ a ∈ hs, a ≤ M) (hM1 : M ≤ 1000) :
    Ec (ww w) (k+5) 246 [.str x] [] st (.ref (st.length + 3)) (st ++ [.cell (some (.ref (st.length + 2))), .list (pileV s), .list (intsV hs), .list (cntV hs M)]) := by
  refine' Ec.fnC ["heights"] (bs := [("text", .str x)]) (by show List.lookup 246 (hd.heap_39 w.params) = some _; k_is) ?_ ?_ (fun _ => rfl) (by simp) rfl ?_ (by simp) (fun hl _ => ⟨lows_app hl ?_, low_refA (by simp)⟩)
  · show codeIn (hd.heap_39 w.params) _ _ = true
    k_is
  · intro s ρ vs kvs X hv hk
    obtain ⟨a, rfl, ra⟩ := hv.un
    cases hk
    refine' ⟨?bs, kp_binds (K := hd.heap_39 w.params) X (fun S => ?h1), ?h4⟩
    case h1 => exact rfl
    exact .cons ⟨rfl, ra⟩ .nil
  · show ExsP _ _ _ _ ⟨[("text", MV.str x)], [("heights", st.length)], st ++ [.cell none]⟩ _
    refine' ExsP.cons (Ex.assign (Ev.listA (xs := [.int 0]) ?_ ?_) rfl fun _ _ => rfl) (ExsP.cons (σ₁ := ⟨[("text", .str x), ("pile", .ref (st.length + 1))], [("heights", st.length)], st ++ [.cell (some (.ref (st.length + 2))), .list [.int 0], .list []]⟩) (Ex.st (Ex.assignC (i := st.length + 0) (v₀ := none) (Ev.listA (loc := [("text", .str x), ("pile", .ref (st.length + 1))]) (cel := [("heights", st.length)]) (st := st) (sx := [.cell none, .list [.int 0]]) (xs := []) ?_ ?_) rfl ?_ ?_ fun _ _ => rfl) stA) (ExsP.for_ (escIe (k := k + 1) ?_ (Evs.cons (Ev.call (xs := [.str x]) ?_ ?_ ?_ ?_ (Oc.of rfl (hstrip hx)) ?_ ?_) ?_ fun _ => rfl) ?_ ?_) (LpP.inv escV (fun l τ => ∃ s' hs' : List Nat, hts l s' hs' = some (s, hs) ∧ s'.length + l.length ≤ 1002 ∧ hs'.length + l.length ≤ 1002 ∧ τ = ⟨[("text", .str x), ("pile", .ref (st.length + 1))], [("heights", st.length)], st ++ [.cell (some (.ref (st.length + 2))), .list (pileV s'), .list (intsV hs')]⟩) ?_ ?_ ?_ ⟨[0], [], hh, ?_, ?_, rfl⟩) fun _ _ _ => rfl))
    all_goals (try (repeat' boot_by_name))
    · show 1 ≤ 100000; decide
    · exact Nat.zero_le _
    · exact fun _ _ _ => trivial
    · rintro τ ⟨s', hs', e, _, hb, rfl⟩
      have e : (s', hs') = (s, hs) := Option.some.inj e
      injection e with e1 e2
      subst e1 e2
      have hf : (rangeL 1 1 M).filterMap (fun v => match v with | .at (.int j) => some (MV.int ((hs'.count j.toNat : Nat) : Int)) | _ => none) = cntV hs' M := mapTo _ _ _ _ fun i _ => by
        show some _ = some _
        rw [show ((1 : Int) + (i : Int) * 1).toNat = i + 1 by omega]
      have h2 : (st ++ [MO.cell (some (MV.ref (st.length + 2))), MO.list (pileV s'), MO.list (intsV hs')])[st.length + 2]? = some (.list ((hs'.map fun (a : Nat) => (a : Int)).map MV.int)) := by rw [← intsV_ints]; exact getA rfl
      have hc : (st ++ [MO.cell (some (MV.ref (st.length + 2))), MO.list (pileV s'), MO.list (intsV hs')])[st.length]? = some (.cell (some (.ref (st.length + 2)))) := getA (j := 0) rfl
      have hlen : (st ++ [MO.cell (some (MV.ref (st.length + 2))), MO.list (pileV s'), MO.list (intsV hs')]).length = st.length + 3 := by simp
      refine' Then.next (ExsP.ret (Ev.comp (cel' := [("heights", st.length)]) (f := fun v => match v with | .at (.int j) => some (MV.int ((hs'.count j.toNat : Nat) : Int)) | _ => none) (Ie.range (a := 1) (b := (M : Int) + 1) (c := 1) (n := M) (Tr.call (xs := [.int 1, .int ((M : Int) + 1)]) ?_ (Evs.cons ?_ (Evs.cons (Ev.binop (Ev.call (xs := [.ref (st.length + 2)]) ?_ (Evs.cons (Ev.cell (i := st.length) rfl ?_ ?_ rfl) ?_ fun _ => rfl) ?_ ?_ (Oc.op (Op.maxL (ns := hs'.map fun (a : Nat) => (a : Int)) (M := (M : Int)) ?_ ?_ ?_)) ?_ ?_) ?_ Op.add) ?_ fun _ => rfl) fun _ => rfl) ?_ ?_ Oc.range2 ?_ ?_) (small_to (by omega) (by omega) (by omega) (by omega)) (rangeSize_to (by omega))) ⟨rfl, ?_, ?_, rfl, ?_, ?_, ?_, ?_, ?_⟩ rfl fun _ _ _ => rfl) (by refine ⟨⟨[], ?_⟩, ?_⟩; (show (st ++ [_, _, _]) ++ [MO.list _] = _; rw [hf, List.append_nil, List.append_assoc]; rfl); (show MV.ref (st ++ [_, _, _]).length = _; rw [hlen])))
      all_goals (try (repeat' boot_by_name))
      · exact List.mem_map.mpr ⟨M, hM, rfl⟩
      · intro a ha
        obtain ⟨y, hy, rfl⟩ := List.mem_map.mp ha
        have := hle y hy
        omega
      · intro p hp; rw [List.mem_singleton.mp hp]; rfl
      · intro env g hg
        have := hg _ (.head _)
        dsimp only at this
        have hc : cellOf env ("heights" : PySem.Str) = pure (g ("heights" : PySem.Str)) := by unfold cellOf; rw [this]
        unfold closureFor
        simp only [List.forIn_cons, List.forIn_nil, show (NameKind.local == NameKind.free) = false from rfl, show (NameKind.free == NameKind.free) = true from rfl, hc, if_true, if_false, Bool.false_eq_true]
        rfl
      · intro y hy; rcases List.mem_cons.mp hy with rfl | hy; · simp
        rcases List.mem_cons.mp hy with rfl | hy; · simp
        rcases List.mem_cons.mp hy with rfl | hy; · simp
        cases hy
      · intro y hy q; rcases List.mem_cons.mp hy with rfl | hy; · rfl
        rcases List.mem_cons.mp hy with rfl | hy; · rfl
        rcases List.mem_cons.mp hy with rfl | hy; · cases q
        cases hy
      · refine ⟨fun loc => loc = [] ∨ ∃ u : MV, loc = [(("high" : PySem.Str), u)], fun v => [("high", v)], .inl rfl, fun y hy => ?_⟩
        obtain ⟨i, _, rfl⟩ := List.mem_map.mp hy
        refine ⟨.inr ⟨_, rfl⟩, fun loc st hok => comp_name rfl loc st hok, fun ys _ => ?_⟩
        have h2' : ((st ++ [MO.cell (some (MV.ref (st.length + 2))), MO.list (pileV s'), MO.list (intsV hs')]) ++ [.list ys])[st.length + 2]? = some (.list ((hs'.map fun (a : Nat) => (a : Int)).map MV.int)) := by rw [List.getElem?_append_left (by simp)]; exact h2
        have hc' : ((st ++ [MO.cell (some (MV.ref (st.length + 2))), MO.list (pileV s'), MO.list (intsV hs')]) ++ [.list ys])[st.length]? = some (.cell (some (.ref (st.length + 2)))) := by rw [List.getElem?_append_left (by simp)]; exact hc
        have ec : (((hs'.map fun (a : Nat) => (a : Int)).count ((1 : Int) + (i : Int) * 1) : Nat) : Int) = ((hs'.count ((1 : Int) + (i : Int) * 1).toNat : Nat) : Int) := by
          rw [show ((1 : Int) + (i : Int) * 1) = ((i + 1 : Nat) : Int) by omega, count_cast]; rfl
        refine' .all (Ev.eq (v := .int (((hs'.map fun (a : Nat) => (a : Int)).count ((1 : Int) + (i : Int) * 1) : Nat) : Int)) (Ev.meth (x := .ref (st.length + 2)) (xs := [.int ((1 : Int) + (i : Int) * 1)]) (Ev.cell (i := st.length) rfl rfl hc' rfl) (Om.list (vs := (hs'.map fun (a : Nat) => (a : Int)).map MV.int) ?_ PySem.F.slot_list_count PySem.F.type_list_count) (Evs.cons (Ev.local rfl rfl rfl) ?_ fun _ => rfl) ?_ ?_ (Oc.op (Op.count_ints (ns := hs'.map fun (a : Nat) => (a : Int)) ?_)) ?_ ?_) ?_)
        all_goals (try (repeat' boot_by_name))
        · exact congrArg MV.int ec
      · exact fun _ => trivial
      · show (List.map _ (List.range M)).length ≤ _
        rw [List.length_map, List.length_range]; omega
    · rintro ⟨p, c⟩ l τ ⟨s', hs', e, b1, b2, rfl⟩
      rw [List.length_cons] at b1 b2
      have hp' := pileV_len s'
      have hi' := intsV_len hs'
      refine' ⟨_, Tg.two rfl rfl, ?_⟩
      unfold hts at e
      by_cases h1 : (c == ("(" : PySem.Str)) = true
      · rw [if_pos h1] at e
        refine' ExsP.drop (ExsP.iteT (Et.eq (b := c == ("(" : PySem.Str)) (Et.cmp ?_ ?_ Op.eq_str rfl) h1) (ExsP.cons (Ex.expr (Ev.meth (x := .ref (st.length + 1)) (xs := [.int 0]) ?_ (Om.list (vs := pileV s') ?_ PySem.F.slot_list_append PySem.F.type_list_append) (Evs.cons ?_ ?_ fun _ => rfl) ?_ ?_ (Oc.op (Op.appendA (vs := pileV s') ?_ ?_)) ?_ ?_) ⟨_, rfl⟩ fun _ _ => rfl) (ExsP.nil (Then.next (ExsP.nil ⟨⟨[("text", .str x), ("pile", .ref (st.length + 1))], [("heights", st.length)], st ++ [.cell (some (.ref (st.length + 2))), .list (pileV (0 :: s')), .list (intsV hs')]⟩, ?_, ⟨0 :: s', hs', e, ?_, ?_, rfl⟩⟩)))))
        all_goals (try (repeat' boot_by_name))
        · omega
        · rw [List.length_cons]; omega
        · omega
      · rw [if_neg h1] at e
        by_cases h2 : (c == (")" : PySem.Str)) = true
        · rw [if_pos h2] at e
          match s', e, b1, hp' with
          | [], e, _, _ => cases e
          | [_], e, _, _ => cases e
          | a :: b :: q, e, b1, hp' =>
          have e : hts l ((if a + 1 > b then a + 1 else b) :: q) (hs' ++ [a + 1]) = some (s, hs) := e
          have em : (if ((a : Int) + 1) > (b : Int) then (a : Int) + 1 else (b : Int)) = ((if a + 1 > b then a + 1 else b : Nat) : Int) := by
            by_cases hab : a + 1 > b
            · rw [if_pos hab, if_pos (by omega)]; rfl
            · rw [if_neg hab, if_neg (by omega)]
          generalize (if a + 1 > b then a + 1 else b) = m at e em
          have hq := pileV_len q
          have es : (St.mk [("text", .str x), ("pile", .ref (st.length + 1)), ("place", .int p), ("sign", .str c), ("high", .int ((a : Int) + 1))] [("heights", st.length)] ((st ++ [MO.cell (some (.ref (st.length + 2))), MO.list (pileV (b :: q)), MO.list (intsV hs' ++ [MV.int ((a : Int) + 1)])]).set (st.length + 1) (.list ((pileV q ++ [MV.int b]).set ((-1 : Int) + (pileV q ++ [MV.int b]).length).toNat (MV.int m))))) = ⟨[("text", .str x), ("pile", .ref (st.length + 1)), ("place", .int p), ("sign", .str c), ("high", .int ((a : Int) + 1))], [("heights", st.length)], st ++ [.cell (some (.ref (st.length + 2))), .list (pileV (m :: q)), .list (intsV hs' ++ [.int ((a : Int) + 1)])]⟩ := by
            rw [set_back]; exact stA
          refine' ExsP.drop (ExsP.iteF (Et.eq (b := c == ("(" : PySem.Str)) (Et.cmp ?_ ?_ Op.eq_str rfl) (by simpa using h1)) (ExsP.iteT (Et.eq (b := c == (")" : PySem.Str)) (Et.cmp ?_ ?_ Op.eq_str rfl) h2) (ExsP.cons (Ex.assign (Ev.binop (Ev.meth (x := .ref (st.length + 1)) (xs := []) ?_ (Om.list (vs := pileV (a :: b :: q)) ?_ PySem.F.slot_list_pop PySem.F.type_list_pop) ?_ ?_ ?_ (Oc.op (Op.pop_lastA (vs := pileV (b :: q)) (x := .int a) ?_ ?_)) ?_ ?_) ?_ Op.add) rfl fun _ _ => rfl) (ExsP.cons (Ex.expr (Ev.meth (x := .ref (st.length + 2)) (xs := [.int ((a : Int) + 1)]) (Ev.cell (i := st.length + 0) rfl ?_ ?_ rfl) (Om.list (vs := intsV hs') ?_ PySem.F.slot_list_append PySem.F.type_list_append) (Evs.cons ?_ ?_ fun _ => rfl) ?_ ?_ (Oc.op (Op.appendA (vs := intsV hs') ?_ ?_)) ?_ ?_) ⟨_, rfl⟩ fun _ _ => rfl) (ExsP.cons (σ₁ := ⟨[("text", .str x), ("pile", .ref (st.length + 1)), ("place", .int p), ("sign", .str c), ("high", .int ((a : Int) + 1))], [("heights", st.length)], st ++ [.cell (some (.ref (st.length + 2))), .list (pileV (m :: q)), .list (intsV hs' ++ [.int ((a : Int) + 1)])]⟩) (Ex.st (Ex.setitem_back (i := st.length + 1) (vs := pileV (b :: q)) (v := .int m) (j := -1) (Ev.eq (v := .int (if ((a : Int) + 1) > (b : Int) then (a : Int) + 1 else (b : Int))) (Ev.call (xs := [.int b, .int ((a : Int) + 1)]) ?_ (Evs.cons (Ev.sub ?_ ?_ (TyOf.listA (vs := pileV (b :: q)) ?_) PySem.F.slot_list_getitem.lookup (Op.item_last (vs := pileV q) ?_ ?_) ?_ ?_) (Evs.cons ?_ ?_ fun _ => rfl) fun _ => rfl) ?_ ?_ (Oc.op Op.max2) ?_ ?_) (congrArg MV.int em)) ?_ ?_ ?_ ?_ ?_ ?_ fun _ _ => rfl) ?_) (ExsP.nil (Then.next (ExsP.nil (Then.next (ExsP.nil ⟨⟨[("text", .str x), ("pile", .ref (st.length + 1))], [("heights", st.length)], st ++ [.cell (some (.ref (st.length + 2))), .list (pileV (m :: q)), .list (intsV hs' ++ [.int ((a : Int) + 1)])]⟩, ?_, ⟨m :: q, hs' ++ [a + 1], e, ?_, ?_, ?_⟩⟩))))))))))
          all_goals (try (repeat' boot_by_name))
          · show (pileV q ++ [_]).length ≤ _
            rw [List.length_append, List.length_singleton]
            simp only [List.length_cons] at b1
            omega
          · omega
          · simp only [List.length_cons] at b1
            omega
          · decide
          · show -(((pileV q ++ [_]).length : Nat) : Int) ≤ -1
            rw [List.length_append, List.length_singleton]; omega
          · decide
          · exact es
          · simp only [List.length_cons] at b1 ⊢
            omega
          · rw [List.length_append, List.length_singleton]; omega
          · have : intsV (hs' ++ [a + 1]) = intsV hs' ++ [MV.int ((a : Int) + 1)] := by unfold intsV; rw [List.map_append]; rfl
            rw [this]
        · rw [if_neg h2] at e
          refine' ExsP.drop (ExsP.iteF (Et.eq (b := c == ("(" : PySem.Str)) (Et.cmp ?_ ?_ Op.eq_str rfl) (by simpa using h1)) (ExsP.iteF (Et.eq (b := c == (")" : PySem.Str)) (Et.cmp ?_ ?_ Op.eq_str rfl) (by simpa using h2)) (ExsP.nil (Then.next (ExsP.nil (Then.next (ExsP.nil ⟨⟨[("text", .str x), ("pile", .ref (st.length + 1))], [("heights", st.length)], st ++ [.cell (some (.ref (st.length + 2))), .list (pileV s'), .list (intsV hs')]⟩, ?_, ⟨s', hs', e, ?_, ?_, rfl⟩⟩)))))))
          all_goals (try (repeat' boot_by_name))
          all_goals omega
    · show 1 + (stripE x).length ≤ _; omega
    · show 0 + (stripE x).length ≤ _; omega
  · intro o ho
    rcases List.mem_cons.mp ho with rfl | ho
    · exact low_refA (by simp)
    rcases List.mem_cons.mp ho with rfl | ho
    · exact low_pile _
    rcases List.mem_cons.mp ho with rfl | ho
    · exact low_ints _
    rw [List.mem_singleton.mp ho]; exact low_cnt _
end
end
section
local macro_rules | `(tactic| boot_by_name) => `(tactic| first
  | exact getA rfl
  | exact lastAt
  | refine' Drop.keep lenLast ?_ trivial
  | exact low_refA (by simp)
  | exact Op.eq_str
  | exact lookM (Eq.refl (some _)) rfl | exact lookL (Eq.refl (some _)) rfl | exact lookN (Eq.refl (some _)) rfl
  | refine' Ev.neg ?_
  | exact hcelA (by simp)
  | refine' Drop.keepA (by simp) ?_ ?_
  | (refine' Drop.keepA (by simp) ?_ (fun p hp => by cases hp)))
section
variable {w : World} {k : Nat} {G : Fx} {σ σ₁ σ₂ : St}
theorem rangeL_up (a n : Nat) : rangeL a 1 n = intsV (List.range' a n) := by
  unfold rangeL intsV
  rw [List.range'_eq_map_range, List.map_map]
  apply List.map_congr_left
  intro i _
  show MV.int ((a : Int) + (i : Int) * 1) = MV.int ((a + i : Nat) : Int)
  rw [show ((a : Int) + (i : Int) * 1) = ((a + i : Nat) : Int) by omega]
theorem Ie.up {W : Wd} {e : Expr} {a n : Nat} {b : Int} (he : Tr W G k (eval e) σ (isRange a b 1) σ₁) (hb : b = a + n) (h1 : a + n ≤ 1000000) : Ie W G k e σ (intsV (List.range' a n)) false (fun _ => True) σ₁ := by
  rw [← rangeL_up]
  exact Ie.range he (small_to (by omega) (by omega) (by omega) (by omega)) (rangeSize_to hb)
theorem Ie.up0 {W : Wd} {e : Expr} {n : Nat} {b : Int} (he : Tr W G k (eval e) σ (isRange 0 b 1) σ₁) (hb : b = n) (h1 : n ≤ 1000000) : Ie W G k e σ (intsV (List.range n)) false (fun _ => True) σ₁ := by
  rw [List.range_eq_range']
  exact Ie.up (a := 0) he (by omega) (by omega)
theorem any_cast (B : List Nat) (j : Nat) : (B.map fun (a : Nat) => (a : Int)).any (· == (j : Int)) = B.any (· == j) := by
  rw [List.any_map]
  congr 1
  funext a
  show ((a : Int) == (j : Int)) = (a == j)
  by_cases h : a = j
  · subst h; rw [beq_self_eq_true, beq_self_eq_true]
  · rw [beq_eq_false_iff_ne.mpr h, beq_eq_false_iff_ne.mpr (by omega)]
def carr (B : List Nat) : List Nat → Nat → List Nat → List Nat
  | [], _, laid => laid
  | j :: l, load, laid => if B.any (· == j) then carr B l (load + 1) laid else match load with
    | 0 => carr B l 0 laid
    | z + 1 => carr B l z (laid ++ [j])
theorem lowL {st sx : List MO} {b : Nat} (h : b < st.length) : (MV.ref b).low (st ++ sx).length := Nat.lt_of_lt_of_le h (by rw [List.length_append]; exact Nat.le_add_right _ _)
theorem hcarr {st : List MO} {b n : Nat} {B T : List Nat} (hT : carr B (List.range n) 0 [] = T) (hB : st[b]? = some (.list (intsV B))) (hn : n ≤ 1000) : Ec (ww w) (k+1) 241 [.ref b, .int n] [] st (.ref st.length) (st ++ [.list (intsV T)]) := by
  refine' Ec.fn (bs := [("balls", .ref b), ("cells", .int n)]) (by show List.lookup 241 (hd.heap_39 w.params) = some _; k_is) ?_ ?_ rfl (by simp) (fun hl _ => ⟨lows_push hl (low_ints _), by show _ < _; simp⟩) ?_
  · show codeIn (hd.heap_39 w.params) _ _ = true
    k_is
  · intro s ρ vs kvs X hv hk
    obtain ⟨a, c, rfl, ra, rc⟩ := hv.two
    cases hk
    refine' ⟨?bs, kp_binds (K := hd.heap_39 w.params) X (fun S => ?h1), ?h4⟩
    case h1 => exact rfl
    exact .cons ⟨rfl, ra⟩ (.cons ⟨rfl, rc⟩ .nil)
  have hbl := (List.getElem?_eq_some_iff.mp hB).1
  have hB' : ∀ sx : List MO, (st ++ sx)[b]? = some (.list ((B.map fun (a : Nat) => (a : Int)).map MV.int)) := fun sx => by rw [List.getElem?_append_left hbl, hB, intsV_ints]
  refine' ExsP.cons (Ex.assign (Ev.listL (xs := []) ?_ ?_) rfl fun _ _ => rfl) (ExsP.cons (Ex.assign ?_ rfl fun _ _ => rfl) (ExsP.for_ (Ie.up0 (n := n) (Tr.call (xs := [.int n]) ?_ (Evs.cons ?_ ?_ fun _ => rfl) ?_ ?_ Oc.range1 ?_ ?_) rfl (by omega)) (LpP.inv (fun (a : Nat) => MV.int a) (fun l τ => ∃ load laid, carr B l load laid = T ∧ laid.length + l.length ≤ 1000 ∧ τ = ⟨[("cells", .int n), ("balls", .ref b), ("laid", .ref st.length), ("load", .int (load : Nat))], [], st ++ [.list (intsV laid)]⟩) ?_ ?_ ?_ ⟨0, [], hT, ?_, rfl⟩) fun _ _ _ => rfl))
  repeat any_goals boot_by_name
  · exact Nat.zero_le _
  · exact fun _ _ _ => trivial
  · rintro τ ⟨load, laid, e, _, rfl⟩
    have e : laid = T := e
    rw [← e]
    refine' Then.next (ExsP.ret ?_ ?_)
    repeat any_goals boot_by_name
  · rintro j l τ ⟨load, laid, e, b1, rfl⟩
    rw [List.length_cons] at b1
    have hi' := intsV_len laid
    refine' ⟨_, Tg.name rfl, ?_⟩
    unfold carr at e
    have hj := any_cast B j
    have hBj := hB' [.list (intsV laid)]
    by_cases h1 : B.any (· == j) = true
    · rw [if_pos h1] at e
      refine' ExsP.drop (ExsP.iteT (Et.eq (b := (B.map fun (a : Nat) => (a : Int)).any (· == (j : Int))) (Et.cmp ?_ ?_ (Op.in_ints ?_) rfl) (by rw [hj]; exact h1)) (ExsP.cons (Ex.aug rfl ?_ ?_ Op.iadd) (ExsP.nil (Then.next (ExsP.nil ⟨⟨[("cells", .int n), ("balls", .ref b), ("laid", .ref st.length), ("load", .int ((load : Int) + 1))], [], st ++ [.list (intsV laid)]⟩, ?_, ⟨load + 1, laid, e, ?_, rfl⟩⟩)))))
      repeat any_goals boot_by_name
      all_goals try omega
      all_goals first | exact lowL hbl | exact low_ref lastAt
    · rw [if_neg h1] at e
      cases load with
      | zero =>
        have e : carr B l 0 laid = T := e
        refine' ExsP.drop (ExsP.iteF (Et.eq (b := (B.map fun (a : Nat) => (a : Int)).any (· == (j : Int))) (Et.cmp ?_ ?_ (Op.in_ints ?_) rfl) (by rw [hj]; exact Bool.eq_false_iff.mpr h1)) (ExsP.iteF (Et.eq (b := decide ((0 : Int) < ((0 : Nat) : Int))) (Et.cmp ?_ ?_ Op.gt rfl) rfl) (ExsP.nil (Then.next (ExsP.nil (Then.next (ExsP.nil ⟨⟨[("cells", .int n), ("balls", .ref b), ("laid", .ref st.length), ("load", .int ((0 : Nat) : Int))], [], st ++ [.list (intsV laid)]⟩, ?_, ⟨0, laid, e, ?_, rfl⟩⟩)))))))
        repeat any_goals boot_by_name
        all_goals try omega
        all_goals first | exact lowL hbl | exact low_ref lastAt
      | succ z =>
        have e : carr B l z (laid ++ [j]) = T := e
        refine' ExsP.drop (ExsP.iteF (Et.eq (b := (B.map fun (a : Nat) => (a : Int)).any (· == (j : Int))) (Et.cmp ?_ ?_ (Op.in_ints ?_) rfl) (by rw [hj]; exact Bool.eq_false_iff.mpr h1)) (ExsP.iteT (Et.eq (b := decide ((0 : Int) < ((z + 1 : Nat) : Int))) (Et.cmp ?_ ?_ Op.gt rfl) (decide_eq_true (by omega))) (ExsP.cons (Ex.aug rfl ?_ ?_ Op.isub) (ExsP.cons (Ex.expr (Ev.meth (x := .ref st.length) (xs := [.int j]) ?_ (Om.list (vs := intsV laid) ?_ PySem.F.slot_list_append PySem.F.type_list_append) (Evs.cons ?_ ?_ fun _ => rfl) ?_ ?_ (Oc.op (Op.appendL (vs := intsV laid) ?_)) ?_ ?_) ⟨_, rfl⟩ fun _ _ => rfl) (ExsP.nil (Then.next (ExsP.nil (Then.next (ExsP.nil ⟨⟨[("cells", .int n), ("balls", .ref b), ("laid", .ref st.length), ("load", .int (((z + 1 : Nat) : Int) - 1))], [], st ++ [.list (intsV laid ++ [.int j])]⟩, ?_, ⟨z, laid ++ [j], e, ?_, ?_⟩⟩)))))))))
        repeat any_goals boot_by_name
        all_goals try omega
        all_goals try first | exact lowL hbl | exact low_ref lastAt
        · rw [List.length_append, List.length_singleton]; omega
        · have : intsV (laid ++ [j]) = intsV laid ++ [MV.int (j : Int)] := by unfold intsV; rw [List.map_append]; rfl
          rw [this, show (((z + 1 : Nat) : Int) - 1) = (z : Int) by omega]
  · rw [List.length_range]; exact (by omega : 0 + n ≤ 1000)
end
end
section
def nm (c : Bool) (j : Nat) : PySem.Str := ⟨#[(if c then 65 else 97) + j]⟩
theorem lw_nm : ∀ c : Bool, ∀ j, j < 7 → lw (nm c j) = nm false j := by decide +kernel
theorem up_nm : ∀ c : Bool, ∀ j, j < 7 → Txt.upper (nm c j) = nm true j := by decide +kernel
theorem nm_low : ∀ c : Bool, ∀ j, j < 7 → (nm c j == lw (nm c j)) = !c := by decide +kernel
theorem dec28 : ∀ n : Nat, n < 28 → decS n = ⟨if n < 10 then #[48 + n] else #[48 + n / 10, 48 + n % 10]⟩ := by decide +kernel
theorem short_nm : ∀ c : Bool, ∀ j, j < 7 → Builtin.Str.tooLong (lw (nm c j)).length = false := by decide +kernel
theorem tall_nm : ∀ c : Bool, ∀ j, j < 7 → Builtin.Str.tooLong (Txt.upper (nm c j)).length = false := by decide +kernel
theorem safe_nm (c : Bool) (j : Nat) (h : j < 7) : Safe (nm c j) := by
  match c, j, h with
  | true, 0, _ => rintro a (rfl | rfl) t S <;> kernel_rfl
  | true, 1, _ => rintro a (rfl | rfl) t S <;> kernel_rfl
  | true, 2, _ => rintro a (rfl | rfl) t S <;> kernel_rfl
  | true, 3, _ => rintro a (rfl | rfl) t S <;> kernel_rfl
  | true, 4, _ => rintro a (rfl | rfl) t S <;> kernel_rfl
  | true, 5, _ => rintro a (rfl | rfl) t S <;> kernel_rfl
  | true, 6, _ => rintro a (rfl | rfl) t S <;> kernel_rfl
  | false, 0, _ => rintro a (rfl | rfl) t S <;> kernel_rfl
  | false, 1, _ => rintro a (rfl | rfl) t S <;> kernel_rfl
  | false, 2, _ => rintro a (rfl | rfl) t S <;> kernel_rfl
  | false, 3, _ => rintro a (rfl | rfl) t S <;> kernel_rfl
  | false, 4, _ => rintro a (rfl | rfl) t S <;> kernel_rfl
  | false, 5, _ => rintro a (rfl | rfl) t S <;> kernel_rfl
  | false, 6, _ => rintro a (rfl | rfl) t S <;> kernel_rfl
theorem safe_dec (n : Nat) (h : n < 28) : Safe (decS n) := by
  rw [dec28 n h]
  match n, h with
  | 0, _ => rintro a (rfl | rfl) t S <;> kernel_rfl
  | 1, _ => rintro a (rfl | rfl) t S <;> kernel_rfl
  | 2, _ => rintro a (rfl | rfl) t S <;> kernel_rfl
  | 3, _ => rintro a (rfl | rfl) t S <;> kernel_rfl
  | 4, _ => rintro a (rfl | rfl) t S <;> kernel_rfl
  | 5, _ => rintro a (rfl | rfl) t S <;> kernel_rfl
  | 6, _ => rintro a (rfl | rfl) t S <;> kernel_rfl
  | 7, _ => rintro a (rfl | rfl) t S <;> kernel_rfl
  | 8, _ => rintro a (rfl | rfl) t S <;> kernel_rfl
  | 9, _ => rintro a (rfl | rfl) t S <;> kernel_rfl
  | 10, _ => rintro a (rfl | rfl) t S <;> kernel_rfl
  | 11, _ => rintro a (rfl | rfl) t S <;> kernel_rfl
  | 12, _ => rintro a (rfl | rfl) t S <;> kernel_rfl
  | 13, _ => rintro a (rfl | rfl) t S <;> kernel_rfl
  | 14, _ => rintro a (rfl | rfl) t S <;> kernel_rfl
  | 15, _ => rintro a (rfl | rfl) t S <;> kernel_rfl
  | 16, _ => rintro a (rfl | rfl) t S <;> kernel_rfl
  | 17, _ => rintro a (rfl | rfl) t S <;> kernel_rfl
  | 18, _ => rintro a (rfl | rfl) t S <;> kernel_rfl
  | 19, _ => rintro a (rfl | rfl) t S <;> kernel_rfl
  | 20, _ => rintro a (rfl | rfl) t S <;> kernel_rfl
  | 21, _ => rintro a (rfl | rfl) t S <;> kernel_rfl
  | 22, _ => rintro a (rfl | rfl) t S <;> kernel_rfl
  | 23, _ => rintro a (rfl | rfl) t S <;> kernel_rfl
  | 24, _ => rintro a (rfl | rfl) t S <;> kernel_rfl
  | 25, _ => rintro a (rfl | rfl) t S <;> kernel_rfl
  | 26, _ => rintro a (rfl | rfl) t S <;> kernel_rfl
  | 27, _ => rintro a (rfl | rfl) t S <;> kernel_rfl
  | n + 28, h => exact absurd h (by omega)
theorem nm_eq (a b : Nat) : (nm false a == nm false b) = (a == b) := by
  by_cases h : a = b
  · subst h; rw [beq_self_eq_true, beq_self_eq_true]
  · rw [beq_eq_false_iff_ne.mpr h]
    refine beq_eq_false_iff_ne.mpr fun q => h ?_
    unfold nm at q
    injection q with q
    have := congrArg (fun a => a.toList) q
    simp at this
    exact this
def entE (e : Bool × Nat × Nat) : PySem.Str × PySem.Str := (nm e.1 e.2.1, decS e.2.2)
def tabE (c : Bool) (R D : List (Nat × Nat)) : List (Bool × Nat × Nat) := R.map (fun e => (c, e)) ++ D.map (fun e => (!c, e))
def tab (c : Bool) (R D : List (Nat × Nat)) : List (PySem.Str × PySem.Str) := (tabE c R D).map entE
theorem getE : ∀ (E : List (Bool × Nat × Nat)), (E.map (·.2.1)).Nodup → (∀ e ∈ E, e.2.1 < 7) → ∀ e ∈ E, getOf (E.map entE) (nm false e.2.1) = .str (decS e.2.2)
  | [], _, _, e, he => by cases he
  | a :: E, hN, h7, e, he => by
    rw [List.map_cons, List.nodup_cons] at hN
    unfold getOf
    show (if (lw (nm a.1 a.2.1) == nm false e.2.1) = true then _ else _) = _
    rw [lw_nm _ _ (h7 a (.head _)), nm_eq]
    rcases List.mem_cons.mp he with rfl | he
    · rw [beq_self_eq_true, if_pos rfl]; rfl
    · rw [if_neg]
      · exact getE E hN.2 (fun e h => h7 e (.tail _ h)) e he
      · intro q
        exact hN.1 (List.mem_map.mpr ⟨e, he, (beq_iff_eq.mp q).symm⟩)
theorem dropE (j : Nat) : ∀ (E : List (Bool × Nat × Nat)), (∀ e ∈ E, e.2.1 < 7) → dropOf (nm false j) (E.map entE) = (E.filter fun e => e.2.1 != j).map entE
  | [], _ => rfl
  | a :: E, h7 => by
    have ih := dropE j E fun e h => h7 e (.tail _ h)
    unfold dropOf at ih ⊢
    rw [List.map_cons, List.filter_cons, List.filter_cons]
    have e1 : (lw (entE a).1 != nm false j) = (a.2.1 != j) := by
      show (!(lw (nm a.1 a.2.1) == nm false j)) = !(a.2.1 == j)
      rw [lw_nm _ _ (h7 a (.head _)), nm_eq]
    rw [e1, ih]
    split <;> rfl
theorem filter_erase {j b : Nat} : ∀ (R : List (Nat × Nat)) (i : Nat), (R.map (·.1)).Nodup → R[i]? = some (j, b) → R.filter (fun e => e.1 != j) = R.eraseIdx i
  | [], i, _, h => by cases h
  | a :: R, 0, hN, h => by
    rw [List.map_cons, List.nodup_cons] at hN
    rw [List.getElem?_cons_zero] at h
    have h : a = (j, b) := Option.some.inj h
    subst h
    rw [List.filter_cons, if_neg (by simp), List.eraseIdx_cons_zero]
    refine List.filter_eq_self.mpr fun e he => ?_
    have : e.1 ≠ j := fun q => hN.1 (List.mem_map.mpr ⟨e, he, q⟩)
    simpa using this
  | a :: R, i + 1, hN, h => by
    rw [List.map_cons, List.nodup_cons] at hN
    rw [List.getElem?_cons_succ] at h
    have : a.1 ≠ j := fun q => hN.1 (List.mem_map.mpr ⟨(j, b), List.mem_of_getElem? h, q.symm⟩)
    rw [List.filter_cons, if_pos (by simpa using this), List.eraseIdx_cons_succ, filter_erase R i hN.2 h]
theorem tabE_letters (c : Bool) (R D : List (Nat × Nat)) : (tabE c R D).map (·.2.1) = R.map (·.1) ++ D.map (·.1) := by
  unfold tabE
  rw [List.map_append, List.map_map, List.map_map]; rfl
theorem tabE_mem {c : Bool} {R D : List (Nat × Nat)} {e : Bool × Nat × Nat} (h : e ∈ tabE c R D) : e.2 ∈ R ++ D := by
  unfold tabE at h
  rcases List.mem_append.mp h with h | h
  · obtain ⟨a, ha, rfl⟩ := List.mem_map.mp h; exact List.mem_append_left _ ha
  · obtain ⟨a, ha, rfl⟩ := List.mem_map.mp h; exact List.mem_append_right _ ha
theorem getTab {c : Bool} {R D : List (Nat × Nat)} {i j b : Nat} (hN : (R.map (·.1) ++ D.map (·.1)).Nodup) (h7 : ∀ e ∈ R ++ D, e.1 < 7) (h : R[i]? = some (j, b)) : getOf (tab c R D) (nm false j) = .str (decS b) :=
  getE (tabE c R D) (by rw [tabE_letters]; exact hN) (fun e he => h7 _ (tabE_mem he)) (c, j, b) (List.mem_append_left _ (List.mem_map.mpr ⟨(j, b), List.mem_of_getElem? h, rfl⟩))
theorem dropTab {c : Bool} {R D : List (Nat × Nat)} {i j b : Nat} (hN : (R.map (·.1) ++ D.map (·.1)).Nodup) (h7 : ∀ e ∈ R ++ D, e.1 < 7) (h : R[i]? = some (j, b)) : dropOf (nm false j) (tab c R D) = tab c (R.eraseIdx i) D := by
  unfold tab
  rw [dropE j _ fun e he => h7 _ (tabE_mem he)]
  congr 1
  unfold tabE
  rw [List.nodup_append] at hN
  rw [List.filter_append, List.filter_map, List.filter_map]
  congr 1
  · congr 1
    exact filter_erase R i hN.1 h
  · congr 1
    refine List.filter_eq_self.mpr fun e he => ?_
    have : e.1 ≠ j := fun q => hN.2.2 j (List.mem_map.mpr ⟨(j, b), List.mem_of_getElem? h, rfl⟩) e.1 (List.mem_map.mpr ⟨e, he, rfl⟩) q.symm
    simpa using this
theorem tabPut {c : Bool} {R D : List (Nat × Nat)} {j y : Nat} : tab c R D ++ [(nm (!c) j, decS y)] = tab c R (D ++ [(j, y)]) := by
  unfold tab tabE
  rw [List.map_append, List.map_append, List.map_append, List.map_append, List.append_assoc]; rfl
theorem shortTab {c : Bool} {R D : List (Nat × Nat)} (h7 : ∀ e ∈ R ++ D, e.1 < 7) : ∀ p ∈ tab c R D, Short p.1 := fun p hp => by
  obtain ⟨e, he, rfl⟩ := List.mem_map.mp hp
  exact short_nm _ _ (h7 _ (tabE_mem he))
theorem tab_len {c : Bool} {R D : List (Nat × Nat)} : (tab c R D).length = R.length + D.length := by
  unfold tab tabE
  rw [List.length_map, List.length_append, List.length_map, List.length_map]
/-- the balls go one by one -/
inductive Proc (back : Nat) : List (Nat × Nat) → Nat → List Nat → List (Nat × Nat) → List Nat → List (Nat × Nat) → List Nat → List Nat → Prop
  | nil {o F D g} : Proc back [] o F D g D F g
  | cons {R : List (Nat × Nat)} {o : Nat} {F : List Nat} {D : List (Nat × Nat)} {g : List Nat} {D' : List (Nat × Nat)} {F' g' : List Nat} {j b p y : Nat} : R[o % R.length]? = some (j, b) → BisOk (F.map fun (a : Nat) => (a : Int)) (b : Int) p → back ≤ p → F[p - back]? = some y → y < 28 → b < 28 →
      Proc back (R.eraseIdx (o % R.length)) (o / R.length) (F.eraseIdx (p - back)) (D ++ [(j, y)]) (g ++ [b]) D' F' g' → Proc back R o F D g D' F' g'
/-- the boxes left are free again -/
inductive Ins : List Nat → List Nat → List Nat → Prop
  | nil {F} : Ins [] F F
  | cons {x : Nat} {g F F' : List Nat} {p : Nat} : BisOk (F.map fun (a : Nat) => (a : Int)) (x : Int) p → Ins g (insAt p x F) F' → Ins (x :: g) F F'
def down : Nat → List Nat
  | 0 => []
  | n + 1 => (n + 1) :: down n
theorem rangeL_down (n : Nat) : rangeL n (-1) n = intsV (down n) := by
  have key : ∀ (m : Nat) (s : Nat), m ≤ s → (List.range m).map (fun (i : Nat) => MV.int ((s : Int) + (i : Int) * -1)) = (List.range m).map fun (i : Nat) => MV.int ((s - i : Nat) : Int) := fun m s hm => by
    apply List.map_congr_left
    intro i hi
    have := List.mem_range.mp hi
    rw [show ((s : Int) + (i : Int) * -1) = ((s - i : Nat) : Int) by omega]
  unfold rangeL
  rw [key n n (Nat.le_refl _)]
  clear key
  induction n with
  | zero => rfl
  | succ n ih =>
    show _ = MV.int ((n + 1 : Nat) : Int) :: intsV (down n)
    rw [← ih, List.range_succ_eq_map, List.map_cons, List.map_map]
    congr 1
    apply List.map_congr_left
    intro i _
    show MV.int ((n + 1 - (i + 1) : Nat) : Int) = _
    rw [Nat.add_sub_add_right]
end
section
def SS (st : List MO) (h f : Nat) (ps : List (PySem.Str × PySem.Str)) (F : List Nat) : List MO := (st.set h (hdL ps)).set f (.list (intsV F))
structure SOk (st : List MO) (i d h f : Nat) : Prop where
  ei : st[i]? = some (.inst 223 d)
  ed : st[d]? = some (.dict [("_headers", .ref h)])
  hl : h < st.length
  fl : f < st.length
  hf : h ≠ f
  hi : h ≠ i
  fi : f ≠ i
  nhd : h ≠ d
  nfd : f ≠ d
section
variable {st sx : List MO} {i d h f n : Nat} {ps ps' : List (PySem.Str × PySem.Str)} {F F' : List Nat} {loc loc' : List (PySem.Str × MV)} {cel : List (PySem.Str × Nat)}
theorem SOk.mk' (H : HdAt st i d h ps) (hF : st[f]? = some (.list (intsV F))) (hf : h ≠ f) : SOk st i d h f := by
  have e1 := H.i
  have e2 := H.d
  have e3 := H.h
  refine ⟨e1, e2, (List.getElem?_eq_some_iff.mp e3).1, (List.getElem?_eq_some_iff.mp hF).1, hf, ?_, ?_, ?_, ?_⟩
  · intro q; subst q; rw [e3] at e1; cases e1
  · intro q; subst q; rw [hF] at e1; cases e1
  · intro q; subst q; rw [e3] at e2; cases e2
  · intro q; subst q; rw [hF] at e2; cases e2
theorem SS_len : (SS st h f ps F).length = st.length := by unfold SS; rw [List.length_set, List.length_set]
theorem SS_self (H : HdAt st i d h ps) (hF : st[f]? = some (.list (intsV F))) : SS st h f ps F = st := by
  unfold SS
  apply List.ext_getElem?
  intro j
  by_cases q : f = j
  · subst q
    rw [List.getElem?_set_self (by rw [List.length_set]; exact (List.getElem?_eq_some_iff.mp hF).1), hF]
  · rw [List.getElem?_set_ne q]
    by_cases q' : h = j
    · subst q'
      rw [List.getElem?_set_self (List.getElem?_eq_some_iff.mp H.h).1, H.h]
    · rw [List.getElem?_set_ne q']
theorem SOk.isH (K : SOk st i d h f) : HdAt (SS st h f ps F ++ sx) i d h ps := by
  have a : ∀ {j : Nat} {o : MO}, h ≠ j → f ≠ j → st[j]? = some o → (SS st h f ps F ++ sx)[j]? = some o := fun q1 q2 e => by
    rw [List.getElem?_append_left (by rw [SS_len]; exact (List.getElem?_eq_some_iff.mp e).1)]
    unfold SS
    rw [List.getElem?_set_ne q2, List.getElem?_set_ne q1]; exact e
  refine ⟨a K.hi K.fi K.ei, a K.nhd K.nfd K.ed, ?_⟩
  rw [List.getElem?_append_left (by rw [SS_len]; exact K.hl)]
  unfold SS
  rw [List.getElem?_set_ne K.hf.symm, List.getElem?_set_self K.hl]
theorem SOk.isF (K : SOk st i d h f) : (SS st h f ps F ++ sx)[f]? = some (.list (intsV F)) := by
  rw [List.getElem?_append_left (by rw [SS_len]; exact K.fl)]
  unfold SS
  rw [List.getElem?_set_self (by rw [List.length_set]; exact K.fl)]
theorem SOk.setH (K : SOk st i d h f) : (SS st h f ps F ++ sx).set h (hdL ps') = SS st h f ps' F ++ sx := by
  rw [List.set_append_left _ _ (by rw [SS_len]; exact K.hl)]
  unfold SS
  rw [List.set_comm _ _ K.hf.symm, List.set_set]
theorem SOk.setF (K : SOk st i d h f) : (SS st h f ps F ++ sx).set f (.list (intsV F')) = SS st h f ps F' ++ sx := by
  rw [List.set_append_left _ _ (by rw [SS_len]; exact K.fl)]
  unfold SS
  rw [List.set_set]
end
section
variable {W : Wd} {G : Fx} {k : Nat} {loc loc' : List (PySem.Str × MV)} {cel : List (PySem.Str × Nat)} {Z sx sy : List MO} {σ σ₁ σ₂ : St} {n j : Nat}
theorem getN (hn : Z.length = n) {o : MO} (h : sx[j]? = some o) : (Z ++ sx)[n + j]? = some o := by subst hn; exact getA h
theorem getN0 (hn : Z.length = n) {o : MO} : (Z ++ o :: sx)[n]? = some o := by subst hn; rw [List.getElem?_append_right (Nat.le_refl _), Nat.sub_self]; rfl
theorem setN (hn : Z.length = n) {o : MO} : (Z ++ sx).set (n + j) o = Z ++ sx.set j o := by subst hn; exact setA
theorem setN0 (hn : Z.length = n) {o o' : MO} : (Z ++ o :: sx).set n o' = Z ++ o' :: sx := by subst hn; rw [List.set_append_right _ _ (Nat.le_refl _), Nat.sub_self]; rfl
theorem Ex.stE {s : Stmt} {fl : Fl} (h : Ex W G k s σ fl σ₁) (e1 : σ₁.loc = σ₂.loc) (e2 : σ₁.cel = σ₂.cel) (e3 : σ₁.st = σ₂.st) : Ex W G k s σ fl σ₂ := by
  have : σ₁ = σ₂ := by cases σ₁; cases σ₂; dsimp only at e1 e2 e3; subst e1 e2 e3; rfl
  exact this ▸ h
theorem Ev.stE {e : Expr} {v : MV} (h : Ev W G k e σ v σ₁) (e1 : σ₁.loc = σ₂.loc) (e2 : σ₁.cel = σ₂.cel) (e3 : σ₁.st = σ₂.st) : Ev W G k e σ v σ₂ := by
  have : σ₁ = σ₂ := by cases σ₁; cases σ₂; dsimp only at e1 e2 e3; subst e1 e2 e3; rfl
  exact this ▸ h
theorem Ev.ife2 {test body orelse : Expr} {p : Pos} {b : Bool} {v : MV} (h1 : Et W G k test σ b σ₁) (h2 : b = true → Ev W G k body σ₁ v σ₂) (h3 : b = false → Ev W G k orelse σ₁ v σ₂) : Ev W G k (.IfExp test body orelse p) σ v σ₂ := by
  cases b
  · exact Ev.ife h1 (h3 rfl)
  · exact Ev.ife h1 (h2 rfl)
theorem Ie.down {e : Expr} {m : Nat} (he : Tr W G k (eval e) σ (isRange m 0 (-1)) σ₁) (hm : m ≤ 1000) : Ie W G k e σ (intsV (down m)) false (fun _ => True) σ₁ := by
  rw [← rangeL_down]
  have fit : ∀ x : Int, -2 ≤ x → x ≤ 1000001 → Builtin.Range.rangeFitsLong x = true := fun x h1 h2 => by
    unfold Builtin.Range.rangeFitsLong
    simp only [Bool.and_eq_true, decide_eq_true_eq]
    omega
  have hs : Builtin.Range.rangeSize m 0 (-1) = m := by
    unfold Builtin.Range.rangeSize
    rw [if_neg (by decide)]
    split
    · rw [show (-(-1 : Int)) = 1 from rfl, Int.ediv_one]; omega
    · omega
  refine Ie.range he ?_ hs
  unfold Builtin.Range.small
  rw [hs, fit m (by omega) (by omega), fit 0 (by decide) (by decide), fit (-1) (by decide) (by decide), if_neg (by decide), fit (0 + (-1 + 1)) (by decide) (by decide)]
  simp
end
section
variable {w : World} {k : Nat} {G : Fx} {loc : List (PySem.Str × MV)} {cel : List (PySem.Str × Nat)} {st : List MO} {i d h : Nat} {ps : List (PySem.Str × PySem.Str)}
theorem Om.keys (H : HdAt st i d h ps) : Om (ww w) G k (.ref i) "keys" (.ref 175) ⟨loc, cel, st⟩ :=
  Om.inst H.i H.d rfl (by show plainGet (hd.heap_39 w.params) _ _ = true; k_is) (by show findIn (hd.heap_39 w.params) _ _ = some _; k_is) (by show isFn (hd.heap_39 w.params) _ = true; k_is)
theorem Om.values (H : HdAt st i d h ps) : Om (ww w) G k (.ref i) "values" (.ref 180) ⟨loc, cel, st⟩ :=
  Om.inst H.i H.d rfl (by show plainGet (hd.heap_39 w.params) _ _ = true; k_is) (by show findIn (hd.heap_39 w.params) _ _ = some _; k_is) (by show isFn (hd.heap_39 w.params) _ = true; k_is)
theorem Om.get (H : HdAt st i d h ps) : Om (ww w) G k (.ref i) "get" (.ref 170) ⟨loc, cel, st⟩ :=
  Om.inst H.i H.d rfl (by show plainGet (hd.heap_39 w.params) _ _ = true; k_is) (by show findIn (hd.heap_39 w.params) _ _ = some _; k_is) (by show isFn (hd.heap_39 w.params) _ = true; k_is)
theorem Om.addh (H : HdAt st i d h ps) : Om (ww w) G k (.ref i) "add_header" (.ref 220) ⟨loc, cel, st⟩ :=
  Om.inst H.i H.d rfl (by show plainGet (hd.heap_39 w.params) _ _ = true; k_is) (by show findIn (hd.heap_39 w.params) _ _ = some _; k_is) (by show isFn (hd.heap_39 w.params) _ = true; k_is)
end
end
section
local macro_rules | `(tactic| boot_by_name) => `(tactic| first
  | exact getA rfl
  | exact getN0 SS_len
  | exact getN SS_len rfl
  | exact lastAt
  | exact low_refA (by simp)
  | exact Op.eq_str
  | exact (SOk.isH (by assumption))
  | exact (SOk.isF (by assumption))
  | exact (SOk.isFn (by assumption))
  | exact lookM (Eq.refl (some _)) rfl | exact lookL (Eq.refl (some _)) rfl | exact lookN (Eq.refl (some _)) rfl
  | refine' Ev.neg ?_
  | exact (rfl : (_ : List (PySem.Str × MV)) = _)
  | exact (rfl : (_ : List (PySem.Str × Nat)) = _))
section
variable {w : World} {k : Nat}
theorem tab_nil {c : Bool} {R : List (Nat × Nat)} : (tab c R []).map (·.1) = R.map fun e => nm c e.1 := by
  unfold tab tabE
  rw [List.map_nil, List.append_nil, List.map_map, List.map_map]; rfl
abbrev nmV (c : Bool) (R : List (Nat × Nat)) : List MV := R.map fun e => MV.str (nm c e.1)
theorem nmV_is {c : Bool} {R : List (Nat × Nat)} : ((tab c R []).map (·.1)).map MV.str = nmV c R := by rw [tab_nil, List.map_map]; rfl
theorem lows_SS {st : List MO} {h f : Nat} {ps : List (PySem.Str × PySem.Str)} {F : List Nat} (hl : ∀ x ∈ st, x.low st.length) : ∀ x ∈ SS st h f ps F, x.low (SS st h f ps F).length := by
  unfold SS
  exact lows_set (lows_set hl (low_hdL _)) (low_ints _)
theorem ints_erase {F : List Nat} {p : Nat} : (intsV F).eraseIdx p = intsV (F.eraseIdx p) := by unfold intsV; rw [List.eraseIdx_eq_take_drop_succ, List.eraseIdx_eq_take_drop_succ, List.map_append, List.map_take, List.map_drop]
theorem nmV_erase {c : Bool} {R : List (Nat × Nat)} {p : Nat} : (nmV c R).eraseIdx p = nmV c (R.eraseIdx p) := by
  unfold nmV
  rw [List.eraseIdx_eq_take_drop_succ, List.eraseIdx_eq_take_drop_succ, List.map_append, List.map_take, List.map_drop]
theorem ints_snoc {g : List Nat} {b : Nat} : intsV g ++ [MV.int (b : Int)] = intsV (g ++ [b]) := by unfold intsV; rw [List.map_append]; rfl
theorem ints_get {F : List Nat} {p y : Nat} (h : F[p]? = some y) : (intsV F)[p]? = some (MV.int (y : Int)) := by unfold intsV; rw [List.getElem?_map, h]; rfl
theorem low_lt {i m : Nat} (h : i < m) : (MV.ref i).low m := h
theorem SOk.isFn {st sx : List MO} {i d h f : Nat} {ps : List (PySem.Str × PySem.Str)} {F : List Nat} (K : SOk st i d h f) : (SS st h f ps F ++ sx)[f]? = some (.list ((F.map fun (a : Nat) => (a : Int)).map MV.int)) := by rw [← intsV_ints]; exact K.isF
theorem other_up {c : Bool} {j : Nat} (h : j < 7) (hb : (nm c j == lw (nm c j)) = true) : Txt.upper (nm c j) = nm (!c) j := by
  rw [nm_low c j h] at hb
  rw [up_nm c j h]
  cases c
  · rfl
  · cases hb
theorem other_low {c : Bool} {j : Nat} (h : j < 7) (hb : (nm c j == lw (nm c j)) = false) : lw (nm c j) = nm (!c) j := by
  rw [nm_low c j h] at hb
  rw [lw_nm c j h]
  cases c
  · cases hb
  · rfl
theorem erase_perm {α : Type} : ∀ {R : List α} {i : Nat} {e : α}, R[i]? = some e → (e :: R.eraseIdx i).Perm R
  | [], _, _, h => by cases h
  | a :: R, 0, e, h => by
    rw [List.getElem?_cons_zero] at h
    rw [← Option.some.inj h]; exact List.Perm.refl _
  | a :: R, i + 1, e, h => by
    rw [List.getElem?_cons_succ] at h
    exact (List.Perm.swap _ _ _).trans ((erase_perm h).cons a)
theorem nodup_step {R D : List (Nat × Nat)} {i j b y : Nat} (hN : (R.map (·.1) ++ D.map (·.1)).Nodup) (h : R[i]? = some (j, b)) : ((R.eraseIdx i).map (·.1) ++ (D ++ [(j, y)]).map (·.1)).Nodup := by
  have p1 := (erase_perm h).map (·.1)
  have p2 : ((R.eraseIdx i).map (·.1) ++ (D ++ [(j, y)]).map (·.1)).Perm (R.map (·.1) ++ D.map (·.1)) := by
    rw [List.map_append, ← List.append_assoc]
    refine (List.perm_append_comm).trans ?_
    show ((j :: ((R.eraseIdx i).map (·.1))) ++ D.map (·.1)).Perm _
    exact p1.append_right _
  exact p2.nodup_iff.mpr hN
theorem ins_len {α : Type} {p : Nat} {x : α} {l : List α} : (insAt p x l).length = l.length + 1 := by
  unfold insAt
  rw [List.length_append, List.length_cons, List.length_take, List.length_drop]
  omega
theorem down_cons {x m : Nat} {l : List Nat} (h : x :: l = down m) : ∃ m', m = m' + 1 ∧ x = m' + 1 ∧ l = down m' := by
  cases m with
  | zero => cases h
  | succ m => unfold down at h; injection h with h1 h2; exact ⟨m, rfl, h1, h2⟩
theorem hstep {st : List MO} {i d h f : Nat} {R D' : List (Nat × Nat)} {o back : Nat} {F F' F'' g' : List Nat} {c : Bool} (H : HdAt st i d h (tab c R [])) (hF : st[f]? = some (.list (intsV F))) (hhf : h ≠ f) (hP : Proc back R o F [] [] D' F' g') (hI : Ins g' F' F'')
    (hN : (R.map (·.1)).Nodup) (h7 : ∀ e ∈ R, e.1 < 7) (hRl : R.length ≤ 7) (hFl : F.length ≤ 100) : Ec (ww w) (k+4) 234 [.ref i, .ref f, .int o, .int back] [] st .none (SS st h f (tab c [] D') F'') := by
  have K := SOk.mk' H hF hhf
  refine' Ec.fn (bs := [("table", .ref i), ("free", .ref f), ("order", .int o), ("back", .int back)]) (by show List.lookup 234 (hd.heap_39 w.params) = some _; k_is) ?_ ?_ rfl (by rw [SS_len]; exact Nat.le_refl _) (fun hl _ => ⟨lows_SS hl, trivial⟩) ?_
  · show codeIn (hd.heap_39 w.params) _ _ = true
    k_is
  · intro s ρ vs kvs X hv hk
    cases hv with | cons r1 hv => obtain ⟨a2, a3, a4, rfl, r2, r3, r4⟩ := hv.three; cases hk; refine' ⟨?bs, kp_binds (K := hd.heap_39 w.params) X (fun S => ?h1), ?h4⟩; (case h1 => exact rfl); exact .cons ⟨rfl, r1⟩ (.cons ⟨rfl, r2⟩ (.cons ⟨rfl, r3⟩ (.cons ⟨rfl, r4⟩ .nil)))
  have htl : (tab c R []).length ≤ 1000 := by rw [tab_len]; simp; omega
  have e0 : st ++ [MO.list (((tab c R []).map (·.1)).map MV.str)] ++ [.list []] = SS st h f (tab c R []) F ++ [.list (nmV c R), .list (intsV [])] := by
    rw [SS_self H hF, nmV_is, List.append_assoc]; rfl
  have n1 : (st ++ [MO.list (((tab c R []).map (·.1)).map MV.str)]).length = st.length + 1 := by rw [List.length_append]; rfl
  refine' ExsP.cons (σ₁ := ⟨[("back", .int back), ("order", .int o), ("free", .ref f), ("table", .ref i), ("line", .ref st.length)], [], st ++ [.list (((tab c R []).map (·.1)).map MV.str)]⟩) (Ex.assign (σ₁ := ⟨[("back", .int back), ("order", .int o), ("free", .ref f), ("table", .ref i)], [], st ++ [.list (((tab c R []).map (·.1)).map MV.str)]⟩) (v := .ref st.length) (Ev.meth (σ₃ := ⟨[("back", .int back), ("order", .int o), ("free", .ref f), ("table", .ref i)], [], st⟩) (x := .ref i) (xs := []) ?_ (Om.keys H) ?_ ?_ ?_ (Oc.of rfl (hkeys ?_ htl)) ?_ ?_) rfl fun _ _ => rfl) (ExsP.cons (σ₁ := ⟨[("back", .int back), ("order", .int o), ("free", .ref f), ("table", .ref i), ("line", .ref st.length), ("gone", .ref (st.length + 1))], [], SS st h f (tab c R []) F ++ [.list (nmV c R), .list (intsV [])]⟩) (Ex.stE (Ex.assign (Ev.list (σ₁ := ⟨[("back", .int back), ("order", .int o), ("free", .ref f), ("table", .ref i), ("line", .ref st.length)], [], st ++ [.list (((tab c R []).map (·.1)).map MV.str)]⟩) (xs := []) ?_ ?_) rfl fun _ _ => rfl) ?_ ?_ ?_) (ExsP.for_ (Ie.down (m := R.length) (Tr.call (xs := [.int R.length, .int 0, .int (-1)]) ?_ (Evs.cons (Ev.eq (v := .int (nmV c R).length) (Ev.call (xs := [.ref st.length]) ?_ ?_ ?_ ?_ (Oc.op (Op.len_list (vs := nmV c R) ?_ ?_)) ?_ ?_) ?_) (Evs.cons ?_ (Evs.cons ?_ ?_ fun _ => rfl) fun _ => rfl) fun _ => rfl) ?_ ?_ (Oc.range3 ?_ ?_) ?_ ?_) ?_) (LpP.inv (fun (a : Nat) => MV.int a) (fun l τ => ∃ (R₁ : List (Nat × Nat)) (o₁ : Nat) (F₁ : List Nat) (D₁ : List (Nat × Nat)) (g₁ : List Nat), l = down R₁.length ∧ Proc back R₁ o₁ F₁ D₁ g₁ D' F' g' ∧ (R₁.map (·.1) ++ D₁.map (·.1)).Nodup ∧ (∀ e ∈ R₁ ++ D₁, e.1 < 7) ∧ R₁.length + D₁.length ≤ 7 ∧ F₁.length ≤ 100 ∧ g₁.length + R₁.length ≤ 7 ∧ τ = ⟨[("back", .int back), ("order", .int o₁), ("free", .ref f), ("table", .ref i), ("line", .ref st.length), ("gone", .ref (st.length + 1))], [], SS st h f (tab c R₁ D₁) F₁ ++ [.list (nmV c R₁), .list (intsV g₁)]⟩) ?_ ?_ ?_ ⟨R, o, F, [], [], rfl, hP, ?_, ?_, ?_, hFl, ?_, rfl⟩) fun _ _ _ => rfl))
  all_goals (try (repeat' boot_by_name))
  · exact Nat.zero_le _
  · show setL _ (MV.ref (st ++ [_]).length) _ = _
    rw [n1]; rfl
  · exact e0
  · rw [List.length_map]; omega
  · exact congrArg (fun n : Nat => MV.int n) (List.length_map _)
  · decide
  · exact PyProof.noPylong_small (by decide)
  · omega
  · exact fun _ _ _ => trivial
  · rintro τ ⟨R₁, o₁, F₁, D₁, g₁, hd₁, hp, hN₁, h7₁, b1, b2, b3, rfl⟩
    cases hp with
    | cons hR => 
      have := (List.getElem?_eq_some_iff.mp hR).1
      cases hq : R₁.length with
      | zero => rw [hq] at this; omega
      | succ n => rw [hq] at hd₁; cases hd₁
    | nil =>
    refine' Then.next (ExsP.for_ (Ie.list (i := st.length + 1) (vs := intsV g') ?_ ?_) (LpP.inv (fun (a : Nat) => MV.int a) (fun l τ => ∃ F₂, Ins l F₂ F'' ∧ F₂.length + l.length ≤ 200 ∧ τ = ⟨[("back", .int back), ("order", .int o₁), ("free", .ref f), ("table", .ref i), ("line", .ref st.length), ("gone", .ref (st.length + 1))], [], SS st h f (tab c [] D') F₂ ++ [.list (nmV c []), .list (intsV g')]⟩) ?_ ?_ ?_ ⟨F', hI, ?_, rfl⟩) fun _ _ _ => rfl)
    all_goals (try (repeat' boot_by_name))
    · rintro l τ ⟨F₂, _, _, rfl⟩
      exact getN SS_len rfl
    · rintro τ ⟨F₂, hi, _, rfl⟩
      cases hi
      exact Then.next (ExsP.nil ⟨⟨_, rfl⟩, rfl⟩)
    · rintro x l τ ⟨F₂, hi, hb, rfl⟩
      cases hi with
      | @cons _ _ _ _ p hB hi' =>
      rw [List.length_cons] at hb
      have hzF : (F₂.map fun (a : Nat) => (a : Int)).length ≤ 1000 := by rw [List.length_map]; omega
      have hle := hB.1
      rw [List.length_map] at hle
      refine' ⟨_, Tg.name rfl, ?_⟩
      refine' ExsP.drop (ExsP.cons (σ₁ := ⟨[("back", .int back), ("order", .int o₁), ("free", .ref f), ("table", .ref i), ("line", .ref st.length), ("gone", .ref (st.length + 1)), ("where", .int x)], [], SS st h f (tab c [] D') (insAt p x F₂) ++ [.list (nmV c []), .list (intsV g')]⟩) (Ex.stE (Ex.expr (Ev.call (xs := [.ref f, .int x]) ?_ ?_ ?_ ?_ (Oc.of rfl (ins ?_ hzF hB)) ?_ ?_) ⟨.none, rfl⟩ fun _ _ => rfl) ?_ ?_ ?_) (ExsP.nil ⟨⟨[("back", .int back), ("order", .int o₁), ("free", .ref f), ("table", .ref i), ("line", .ref st.length), ("gone", .ref (st.length + 1))], [], SS st h f (tab c [] D') (insAt p x F₂) ++ [.list (nmV c []), .list (intsV g')]⟩, ?_, ⟨insAt p x F₂, hi', ?_, rfl⟩⟩))
      all_goals (try (repeat' boot_by_name))
      · exact K.isFn
      · show (_ ++ [_, _]).set _ (MO.list ((insAt p (x : Int) (F₂.map fun (a : Nat) => (a : Int))).map MV.int)) = _
        rw [show insAt p (x : Int) (F₂.map fun (a : Nat) => (a : Int)) = (insAt p x F₂).map (fun (a : Nat) => (a : Int)) from insAt_map _ _ _ _, ← intsV_ints]
        exact K.setF
      · have hi := (List.getElem?_eq_some_iff.mp K.ei).1
        have hf := K.fl
        refine' Drop.keep ?_ ?_ trivial
        · show (_ ++ [_, _]).length ≤ (_ ++ [_, _]).length
          rw [List.length_append, List.length_append, SS_len, SS_len]; exact Nat.le_refl _
        refine' Has.cons rfl low_at (Has.cons rfl low_at (Has.cons rfl (low_lt ?_) (Has.cons rfl (low_lt ?_) (Has.cons rfl (low_lt ?_) (Has.cons rfl (low_lt ?_) Has.nil)))))
        all_goals
          rw [List.length_append, SS_len]
          simp only [List.length_cons, List.length_nil]
          omega
      · rw [ins_len]; omega
    · omega
  · rintro x l τ ⟨R₁, o₁, F₁, D₁, g₁, hd₁, hp, hN₁, h7₁, b1, b2, b3, rfl⟩
    obtain ⟨m, hm, rfl, rfl⟩ := down_cons hd₁
    cases hp with
    | nil => cases hm
    | @cons _ _ _ _ _ _ _ _ j b p y hR hB hbp hy hy28 hb28 hp' =>
    rw [hm] at hR hp'
    have hpos : 0 < m + 1 := Nat.succ_pos m
    have hlt : o₁ % (m + 1) < R₁.length := by rw [hm]; exact Nat.mod_lt _ hpos
    have hmod : ((o₁ : Int).fmod ((m + 1 : Nat) : Int)) = ((o₁ % (m + 1) : Nat) : Int) := by rw [Int.fmod_eq_emod_of_nonneg _ (by omega)]; omega
    have hdiv : ((o₁ : Int).fdiv ((m + 1 : Nat) : Int)) = ((o₁ / (m + 1) : Nat) : Int) := by rw [Int.fdiv_eq_ediv_of_nonneg _ (by omega)]; omega
    have hmem : (j, b) ∈ R₁ ++ D₁ := List.mem_append_left _ (List.mem_of_getElem? hR)
    have hj7 : j < 7 := h7₁ _ hmem
    have hnm : (nmV c R₁)[((o₁ % (m + 1) : Nat) : Int).toNat]? = some (.str (nm c j)) := by
      show (nmV c R₁)[o₁ % (m + 1)]? = _
      rw [List.getElem?_map, hR]; rfl
    have hlow := nm_low c j hj7
    have hlw := lw_nm c j hj7
    have hlw' := lw_nm (!c) j hj7
    have hget₁ := getTab (c := c) hN₁ h7₁ hR
    have hdrop := dropTab (c := c) hN₁ h7₁ hR
    have hs1 := shortTab (c := c) h7₁
    have hz₁ : (tab c R₁ D₁).length ≤ 1000 := by rw [tab_len]; omega
    have hzF : (F₁.map fun (a : Nat) => (a : Int)).length ≤ 1000 := by rw [List.length_map]; omega
    have hplt : p - back < F₁.length := (List.getElem?_eq_some_iff.mp hy).1
    have hyv : (intsV F₁)[((p : Int) - (back : Int)).toNat]? = some (.int y) := by
      rw [show ((p : Int) - (back : Int)).toNat = p - back by omega]; exact ints_get hy
    have hel : (R₁.eraseIdx (o₁ % (m + 1))).length = m := by rw [List.length_eraseIdx_of_lt hlt]; omega
    have hFe : (F₁.eraseIdx (p - back)).length ≤ F₁.length := by rw [List.length_eraseIdx_of_lt hplt]; omega
    have hsub : (R₁.eraseIdx (o₁ % (m + 1))).Sublist R₁ := List.eraseIdx_sublist _ _
    refine' ⟨_, Tg.name rfl, ?_⟩
    refine' ExsP.drop (ExsP.cons (σ₁ := ⟨[("back", .int back), ("order", .int o₁), ("free", .ref f), ("table", .ref i), ("line", .ref st.length), ("gone", .ref (st.length + 1)), ("left", .int ((m + 1 : Nat) : Int)), ("name", .str (nm c j))], [], SS st h f (tab c R₁ D₁) (F₁) ++ [.list (nmV c (R₁.eraseIdx (o₁ % (m + 1)))), .list (intsV g₁)]⟩) (Ex.stE (Ex.assign (Ev.meth (x := .ref st.length) (xs := [.int ((o₁ % (m + 1) : Nat) : Int)]) ?_ (Om.list (vs := nmV c R₁) ?_ PySem.F.slot_list_pop PySem.F.type_list_pop) (Evs.cons (Ev.eq (v := .int ((o₁ : Int).fmod ((m + 1 : Nat) : Int))) (Ev.binop ?_ ?_ (Op.mod ?_)) (congrArg MV.int hmod)) ?_ fun _ => rfl) ?_ ?_ (Oc.op (Op.popAt (vs := nmV c R₁) (x := .str (nm c j)) ?_ ?_ ?_ hnm)) ?_ ?_) rfl fun _ _ => rfl) ?_ ?_ ?_) (ExsP.cons (σ₁ := ⟨[("back", .int back), ("order", .int (o₁ / (m + 1) : Nat)), ("free", .ref f), ("table", .ref i), ("line", .ref st.length), ("gone", .ref (st.length + 1)), ("left", .int ((m + 1 : Nat) : Int)), ("name", .str (nm c j))], [], SS st h f (tab c R₁ D₁) (F₁) ++ [.list (nmV c (R₁.eraseIdx (o₁ % (m + 1)))), .list (intsV g₁)]⟩) (Ex.stE (Ex.aug rfl ?_ ?_ (Op.ifloordiv ?_ ?_)) ?_ ?_ ?_) (ExsP.cons (σ₁ := ⟨[("back", .int back), ("order", .int (o₁ / (m + 1) : Nat)), ("free", .ref f), ("table", .ref i), ("line", .ref st.length), ("gone", .ref (st.length + 1)), ("left", .int ((m + 1 : Nat) : Int)), ("name", .str (nm c j)), ("other", .str (nm (!c) j))], [], SS st h f (tab c R₁ D₁) (F₁) ++ [.list (nmV c (R₁.eraseIdx (o₁ % (m + 1)))), .list (intsV g₁)]⟩) (Ex.stE (Ex.assign (v := .str (nm (!c) j)) (Ev.ife2 (b := (nm c j == lw (nm c j))) (Et.cmp ?_ (Ev.meth (x := .str (nm c j)) (xs := []) ?_ (Om.str PySem.F.slot_str_lower PySem.F.type_str_lower) ?_ ?_ ?_ (Oc.op (Op.lower (short_nm c j hj7))) ?_ ?_) Op.eq_str rfl) (fun hb => Ev.eq (v := .str (Txt.upper (nm c j))) (Ev.meth (x := .str (nm c j)) (xs := []) ?_ (Om.str PySem.F.slot_str_upper PySem.F.type_str_upper) ?_ ?_ ?_ (Oc.op (Op.upper (tall_nm c j hj7))) ?_ ?_) ?_) (fun hb => Ev.eq (v := .str (lw (nm c j))) (Ev.meth (x := .str (nm c j)) (xs := []) ?_ (Om.str PySem.F.slot_str_lower PySem.F.type_str_lower) ?_ ?_ ?_ (Oc.op (Op.lower (short_nm c j hj7))) ?_ ?_) ?_)) rfl fun _ _ => rfl) ?_ ?_ ?_) (ExsP.cons (σ₁ := ⟨[("back", .int back), ("order", .int (o₁ / (m + 1) : Nat)), ("free", .ref f), ("table", .ref i), ("line", .ref st.length), ("gone", .ref (st.length + 1)), ("left", .int ((m + 1 : Nat) : Int)), ("name", .str (nm c j)), ("other", .str (nm (!c) j)), ("where", .int b)], [], SS st h f (tab c R₁ D₁) (F₁) ++ [.list (nmV c (R₁.eraseIdx (o₁ % (m + 1)))), .list (intsV g₁)]⟩) (Ex.stE (Ex.assign (v := .int b) (Ev.call (xs := [.str (decS b)]) ?_ (Evs.cons (Ev.eq (v := getOf (tab c R₁ D₁) (lw (nm (!c) j))) (Ev.meth (x := .ref i) (xs := [.str (nm (!c) j)]) ?_ (Om.get ?_) (Evs.cons ?_ ?_ fun _ => rfl) ?_ ?_ (Oc.of rfl (hget ?_ hz₁ ?_ ?_ hs1)) ?_ ?_) ?_) ?_ fun _ => rfl) ?_ ?_ (Oc.op (Op.int_str ?_ ?_)) ?_ ?_) rfl fun _ _ => rfl) ?_ ?_ ?_) (ExsP.cons (σ₁ := ⟨[("back", .int back), ("order", .int (o₁ / (m + 1) : Nat)), ("free", .ref f), ("table", .ref i), ("line", .ref st.length), ("gone", .ref (st.length + 1)), ("left", .int ((m + 1 : Nat) : Int)), ("name", .str (nm c j)), ("other", .str (nm (!c) j)), ("where", .int b)], [], SS st h f (tab c (R₁.eraseIdx (o₁ % (m + 1))) (D₁ ++ [(j, y)])) (F₁.eraseIdx (p - back)) ++ [.list (nmV c (R₁.eraseIdx (o₁ % (m + 1)))), .list (intsV g₁)]⟩) (Ex.stE (Ex.setitem_inst (i := i) (d := d) (C := 223) (f := 136) (kv := [("_headers", .ref h)]) (v := .str (decS y)) (key := .str (nm (!c) j)) rfl (Ev.call (xs := [.int y]) ?_ (Evs.cons (Ev.stE (σ₂ := ⟨[("back", .int back), ("order", .int (o₁ / (m + 1) : Nat)), ("free", .ref f), ("table", .ref i), ("line", .ref st.length), ("gone", .ref (st.length + 1)), ("left", .int ((m + 1 : Nat) : Int)), ("name", .str (nm c j)), ("other", .str (nm (!c) j)), ("where", .int b)], [], SS st h f (tab c R₁ D₁) (F₁.eraseIdx (p - back)) ++ [.list (nmV c (R₁.eraseIdx (o₁ % (m + 1)))), .list (intsV g₁)]⟩) (Ev.meth (x := .ref f) (xs := [.int ((p : Int) - back)]) ?_ (Om.list (vs := intsV F₁) ?_ PySem.F.slot_list_pop PySem.F.type_list_pop) (Evs.cons (Ev.binop (Ev.call (xs := [.ref f, .int b]) ?_ ?_ ?_ ?_ (Oc.of rfl (bis ?_ hzF hB (.inl rfl))) ?_ ?_) ?_ Op.sub) ?_ fun _ => rfl) ?_ ?_ (Oc.op (Op.popAt (vs := intsV F₁) (x := .int y) ?_ ?_ ?_ hyv)) ?_ ?_) ?_ ?_ ?_) ?_ fun _ => rfl) ?_ ?_ (Oc.op (Op.str_int ?_)) ?_ ?_) ?_ ?_ ?_ ?_ (by show noSeq (hd.heap_39 w.params) _ = true; k_is) (by show findIn (hd.heap_39 w.params) _ _ = some _; k_is) (by show isFn (hd.heap_39 w.params) _ = true; k_is) (hset ?_ hz₁ ?_ ?_ ?_ ?_ hs1) fun _ _ => rfl) ?_ ?_ ?_) (ExsP.cons (σ₁ := ⟨[("back", .int back), ("order", .int (o₁ / (m + 1) : Nat)), ("free", .ref f), ("table", .ref i), ("line", .ref st.length), ("gone", .ref (st.length + 1)), ("left", .int ((m + 1 : Nat) : Int)), ("name", .str (nm c j)), ("other", .str (nm (!c) j)), ("where", .int b)], [], SS st h f (tab c (R₁.eraseIdx (o₁ % (m + 1))) (D₁ ++ [(j, y)])) (F₁.eraseIdx (p - back)) ++ [.list (nmV c (R₁.eraseIdx (o₁ % (m + 1)))), .list (intsV (g₁ ++ [b]))]⟩) (Ex.stE (Ex.expr (Ev.meth (x := .ref (st.length + 1)) (xs := [.int b]) ?_ (Om.list (vs := intsV g₁) ?_ PySem.F.slot_list_append PySem.F.type_list_append) (Evs.cons ?_ ?_ fun _ => rfl) ?_ ?_ (Oc.op (Op.append (vs := intsV g₁) ?_ ?_)) ?_ ?_) ⟨_, rfl⟩ fun _ _ => rfl) ?_ ?_ ?_) (ExsP.nil ⟨⟨[("back", .int back), ("order", .int (o₁ / (m + 1) : Nat)), ("free", .ref f), ("table", .ref i), ("line", .ref st.length), ("gone", .ref (st.length + 1))], [], SS st h f (tab c (R₁.eraseIdx (o₁ % (m + 1))) (D₁ ++ [(j, y)])) (F₁.eraseIdx (p - back)) ++ [.list (nmV c (R₁.eraseIdx (o₁ % (m + 1)))), .list (intsV (g₁ ++ [b]))]⟩, ?_, ⟨R₁.eraseIdx (o₁ % (m + 1)), o₁ / (m + 1), F₁.eraseIdx (p - back), D₁ ++ [(j, y)], g₁ ++ [b], ?_, hp', ?_, ?_, ?_, ?_, ?_, rfl⟩⟩)))))))
    all_goals (try (repeat' boot_by_name))
    · omega
    · rw [List.length_map]; omega
    · omega
    · show (_ ++ [_, _]).set _ (MO.list ((nmV c R₁).eraseIdx (o₁ % (m + 1)))) = _
      rw [nmV_erase, setN0 SS_len]
    · omega
    · exact PyProof.noPylong_small (by rw [Int.natAbs_natCast]; omega)
    · show setL _ (MV.int ((o₁ : Int).fdiv _)) _ = _
      rw [hdiv]; rfl
    · rfl
    · exact congrArg MV.str (other_up hj7 hb)
    · exact congrArg MV.str (other_low hj7 hb)
    · rfl
    · rw [hlw']; exact safe_nm false j hj7
    · exact short_nm _ j hj7
    · rw [hlw']; exact hget₁
    · omega
    · omega
    · rfl
    · exact K.isFn
    · rw [intsV_len]; omega
    · omega
    · show (_ ++ [_, _]).set _ (MO.list ((intsV F₁).eraseIdx ((p : Int) - (back : Int)).toNat)) = _
      rw [show ((p : Int) - (back : Int)).toNat = p - back by omega, ints_erase]; exact K.setF
    · rw [Int.natAbs_natCast]; exact Nat.lt_of_le_of_lt (Nat.log2_le_self _) (by omega)
    · exact K.isH.i
    · exact K.isH.d
    · rw [hlw']; exact safe_nm false j hj7
    · exact safe_nm _ j hj7
    · exact safe_dec y hy28
    · exact short_nm _ j hj7
    · show (_ ++ [_, _]).set _ (hdL (dropOf (lw (nm (!c) j)) (tab c R₁ D₁) ++ [(nm (!c) j, decS y)])) = _
      rw [hlw', hdrop, tabPut]; exact K.setH
    · rw [intsV_len]; omega
    · show (_ ++ [_, _]).set _ (MO.list (intsV g₁ ++ [MV.int (b : Int)])) = _
      rw [ints_snoc, setN SS_len]; rfl
    · have hi := (List.getElem?_eq_some_iff.mp K.ei).1
      have hf := K.fl
      refine' Drop.keep ?_ ?_ trivial
      · show (_ ++ [_, _]).length ≤ (_ ++ [_, _]).length
        rw [List.length_append, List.length_append, SS_len, SS_len]; exact Nat.le_refl _
      refine' Has.cons rfl low_at (Has.cons rfl low_at (Has.cons rfl (low_lt ?_) (Has.cons rfl (low_lt ?_) (Has.cons rfl (low_lt ?_) (Has.cons rfl (low_lt ?_) Has.nil)))))
      all_goals
        rw [List.length_append, SS_len]
        simp only [List.length_cons, List.length_nil]
        omega
    · rw [hel]
    · exact nodup_step hN₁ hR
    · intro e he
      rcases List.mem_append.mp he with he | he
      · exact h7₁ e (List.mem_append_left _ (hsub.subset he))
      · rcases List.mem_append.mp he with he | he
        · exact h7₁ e (List.mem_append_right _ he)
        · rw [List.mem_singleton.mp he]; exact hj7
    · rw [hel, List.length_append, List.length_singleton]; omega
    · omega
    · rw [hel, List.length_append, List.length_singleton]; omega
  · rw [List.map_nil, List.append_nil]; exact hN
  · rw [List.append_nil]; exact h7
  · exact hRl
  · show 0 + R.length ≤ 7
    omega
end
end
section
/-! the balls' order does not matter -/
def BisN (F : List Nat) (b p : Nat) : Prop := p ≤ F.length ∧ ∀ j y, F[j]? = some y → (y < b ↔ j < p)
theorem BisN.ok {F : List Nat} {b p : Nat} (h : BisN F b p) : BisOk (F.map fun (a : Nat) => (a : Int)) (b : Int) p := by
  refine ⟨by rw [List.length_map]; exact h.1, fun j y e => ?_⟩
  rw [List.getElem?_map] at e
  cases q : F[j]? with
  | none => rw [q] at e; cases e
  | some z =>
    rw [q] at e
    have e : (z : Int) = y := Option.some.inj e
    subst e
    rw [← h.2 j z q]
    omega
theorem BisN.uniq {F : List Nat} {b p q : Nat} (h : BisN F b p) (h' : BisN F b q) : p = q := by
  rcases Nat.lt_trichotomy p q with l | l | l
  · have hp : p < F.length := by have := h'.1; omega
    have e := List.getElem?_eq_getElem hp
    have h1 := h.2 p _ e
    have h2 := h'.2 p _ e
    omega
  · exact l
  · have hp : q < F.length := by have := h.1; omega
    have e := List.getElem?_eq_getElem hp
    have h1 := h.2 q _ e
    have h2 := h'.2 q _ e
    omega
theorem BisN.exists (b : Nat) : ∀ {F : List Nat}, F.Pairwise (· ≤ ·) → ∃ p, BisN F b p
  | [], _ => ⟨0, Nat.le_refl _, fun j y e => by cases e⟩
  | a :: F, h => by
    rw [List.pairwise_cons] at h
    obtain ⟨p, hp⟩ := BisN.exists b h.2
    by_cases q : a < b
    · refine ⟨p + 1, by simp only [List.length_cons]; have := hp.1; omega, fun j y e => ?_⟩
      cases j with
      | zero =>
        rw [List.getElem?_cons_zero] at e
        have := Option.some.inj e
        subst this
        exact ⟨fun _ => Nat.succ_pos _, fun _ => q⟩
      | succ j =>
        rw [List.getElem?_cons_succ] at e
        rw [hp.2 j y e]
        omega
    · refine ⟨0, Nat.zero_le _, fun j y e => ⟨fun l => ?_, fun l => absurd l (Nat.not_lt_zero _)⟩⟩
      cases j with
      | zero =>
        rw [List.getElem?_cons_zero] at e
        have := Option.some.inj e
        omega
      | succ j =>
        rw [List.getElem?_cons_succ] at e
        have := h.1 y (List.mem_of_getElem? e)
        omega
theorem BisN.erase {F : List Nat} {b p q : Nat} (h : BisN F b p) (hq : q < F.length) : BisN (F.eraseIdx q) b (if q < p then p - 1 else p) := by
  refine ⟨?_, fun j y e => ?_⟩
  · rw [List.length_eraseIdx_of_lt hq]
    have := h.1
    split <;> omega
  · rw [List.getElem?_eraseIdx] at e
    by_cases c : j < q
    · rw [if_pos c] at e
      rw [h.2 j y e]
      split <;> omega
    · rw [if_neg c] at e
      rw [h.2 (j + 1) y e]
      split <;> omega
theorem erase_perm' {α : Type} : ∀ {R : List α} {i : Nat} {e : α}, R[i]? = some e → (e :: R.eraseIdx i).Perm R
  | [], _, _, h => by cases h
  | a :: R, 0, e, h => by
    rw [List.getElem?_cons_zero] at h
    rw [← Option.some.inj h]; exact List.Perm.refl _
  | a :: R, i + 1, e, h => by
    rw [List.getElem?_cons_succ] at h
    exact (List.Perm.swap _ _ _).trans ((erase_perm' h).cons a)
inductive Run (back : Nat) : List Nat → List Nat → List Nat → List Nat → Prop
  | nil {F : List Nat} : Run back F [] [] F
  | cons {F bs ys F' : List Nat} {b p y : Nat} : BisN F b p → back ≤ p → F[p - back]? = some y → Run back (F.eraseIdx (p - back)) bs ys F' → Run back F (b :: bs) (y :: ys) F'
theorem erase_comm {α : Type} : ∀ {F : List α} {i j : Nat}, i < j → (F.eraseIdx i).eraseIdx (j - 1) = (F.eraseIdx j).eraseIdx i
  | [], _, _, _ => rfl
  | a :: F, 0, j + 1, _ => rfl
  | a :: F, i + 1, j + 1, h => by
    have hj : j + 1 - 1 = (j - 1) + 1 := by omega
    rw [hj]
    show a :: (F.eraseIdx i).eraseIdx (j - 1) = a :: (F.eraseIdx j).eraseIdx i
    rw [erase_comm (by omega)]
theorem Run.perm {back : Nat} {F bs ys F' : List Nat} (h : Run back F bs ys F') : F.Perm (ys ++ F') := by
  induction h with
  | nil => exact List.Perm.refl _
  | cons hb hk hy _ ih => exact (erase_perm' hy).symm.trans (ih.cons _)
theorem Run.swap {back : Nat} {F bs ys F' : List Nat} {a b : Nat} (hb1 : back ≤ 1) (hs : F.Pairwise (· ≤ ·)) (h : Run back F (a :: b :: bs) ys F') : ∃ zs, Run back F (b :: a :: bs) zs F' := by
  cases h with
  | @cons _ _ ys₁ _ _ p y hp hk hy h =>
  cases h with
  | @cons _ _ ys₂ _ _ q' z hq' hk' hz h =>
  obtain ⟨q, hq⟩ := BisN.exists b hs
  have hyl := (List.getElem?_eq_some_iff.mp hy).1
  have hzl := (List.getElem?_eq_some_iff.mp hz).1
  have e := (hq.erase hyl).uniq hq'
  rw [List.length_eraseIdx_of_lt hyl] at hzl
  rcases Nat.lt_trichotomy p q with c | c | c
  · rw [if_pos (by omega)] at e
    subst e
    have hzv : F[q - back]? = some z := by
      rw [List.getElem?_eraseIdx, if_neg (by omega)] at hz
      rw [show q - back = q - 1 - back + 1 by omega]; exact hz
    have hql := (List.getElem?_eq_some_iff.mp hzv).1
    have hpe := hp.erase hql
    rw [if_neg (by omega)] at hpe
    have hyv : (F.eraseIdx (q - back))[p - back]? = some y := by
      rw [List.getElem?_eraseIdx, if_pos (by omega)]; exact hy
    refine ⟨z :: y :: ys₂, .cons hq (by omega) hzv (.cons hpe hk hyv ?_)⟩
    rw [← erase_comm (by omega), show q - back - 1 = q - 1 - back by omega]
    exact h
  · subst c
    have hpe := hp.erase hyl
    rw [e] at hpe
    exact ⟨_, .cons hq hk hy (.cons hpe hk' hz h)⟩
  · rw [if_neg (by omega)] at e
    subst e
    have hzv : F[q - back]? = some z := by
      rw [List.getElem?_eraseIdx, if_pos (by omega)] at hz; exact hz
    have hql := (List.getElem?_eq_some_iff.mp hzv).1
    have hpe := hp.erase hql
    rw [if_pos (by omega)] at hpe
    have hyv : (F.eraseIdx (q - back))[p - 1 - back]? = some y := by
      rw [List.getElem?_eraseIdx, if_neg (by omega), show p - 1 - back + 1 = p - back by omega]; exact hy
    refine ⟨z :: y :: ys₂, .cons hq hk' hzv (.cons hpe (by omega) hyv ?_)⟩
    rw [show p - 1 - back = p - back - 1 by omega, erase_comm (by omega)]
    exact h
theorem erase_sorted {F : List Nat} {i : Nat} (h : F.Pairwise (· ≤ ·)) : (F.eraseIdx i).Pairwise (· ≤ ·) := h.sublist (List.eraseIdx_sublist _ _)
theorem Run.any {back : Nat} (hb1 : back ≤ 1) {bs cs : List Nat} (hp : bs.Perm cs) : ∀ {F ys F' : List Nat}, F.Pairwise (· ≤ ·) → Run back F bs ys F' → ∃ zs, Run back F cs zs F' := by
  induction hp with
  | nil => exact fun _ h => ⟨_, h⟩
  | cons a _ ih =>
    intro F ys F' hs h
    cases h with
    | cons h1 h2 h3 h4 =>
      obtain ⟨zs, h⟩ := ih (erase_sorted hs) h4
      exact ⟨_, .cons h1 h2 h3 h⟩
  | swap a b l => exact fun hs h => h.swap hb1 hs
  | trans _ _ ih1 ih2 =>
    intro F ys F' hs h
    obtain ⟨zs, h⟩ := ih1 hs h
    exact ih2 hs h
theorem Run.set {back : Nat} {F bs ys F' cs zs : List Nat} (h : Run back F bs ys F') (h' : Run back F cs zs F') : zs.Perm ys :=
  (List.perm_append_right_iff F').mp (h'.perm.symm.trans h.perm)

/-- the balls in the order told: one order of them all -/
theorem proc_of (back : Nat) : ∀ (n : Nat) (R : List (Nat × Nat)) (o : Nat), R.length = n → ∃ bs, bs.Perm (R.map (·.2)) ∧ ∀ F ys F' D g, Run back F bs ys F' → (∀ x ∈ F, x < 28) → (∀ e ∈ R, e.2 < 28) →
    ∃ D', Proc back R o F D g D' F' (g ++ bs) ∧ D'.map (·.2) = D.map (·.2) ++ ys ∧ (D'.map (·.1)).Perm (D.map (·.1) ++ R.map (·.1)) := by
  intro n
  induction n with
  | zero =>
    intro R o hR
    have : R = [] := List.length_eq_zero_iff.mp hR
    subst this
    refine ⟨[], List.Perm.refl _, fun F ys F' D g h _ _ => ?_⟩
    cases h
    exact ⟨D, by rw [List.append_nil]; exact .nil, by rw [List.append_nil], by rw [List.map_nil, List.append_nil]⟩
  | succ n ih =>
    intro R o hR
    have hlt : o % R.length < R.length := Nat.mod_lt _ (by omega)
    obtain ⟨⟨j, b⟩, hjb⟩ : ∃ e, R[o % R.length]? = some e := ⟨_, List.getElem?_eq_getElem hlt⟩
    obtain ⟨bs, hp, h⟩ := ih (R.eraseIdx (o % R.length)) (o / R.length) (by rw [List.length_eraseIdx_of_lt hlt]; omega)
    have hpe := erase_perm' hjb
    have hq2 : (b :: (R.eraseIdx (o % R.length)).map (·.2)).Perm (R.map (·.2)) := hpe.map fun e : Nat × Nat => e.2
    have hq1 : (j :: (R.eraseIdx (o % R.length)).map (·.1)).Perm (R.map (·.1)) := hpe.map fun e : Nat × Nat => e.1
    refine ⟨b :: bs, (hp.cons b).trans hq2, fun F ys F' D g hr hF hR28 => ?_⟩
    cases hr with
    | @cons _ _ ys _ _ p y h1 h2 h3 h4 =>
      obtain ⟨D', k1, k2, k3⟩ := h _ _ _ (D ++ [(j, y)]) (g ++ [b]) h4 (fun x hx => hF x (List.mem_of_mem_eraseIdx hx)) (fun e he => hR28 e (List.mem_of_mem_eraseIdx he))
      refine ⟨D', ?_, ?_, ?_⟩
      · have : g ++ b :: bs = g ++ [b] ++ bs := by rw [List.append_assoc]; rfl
        rw [this]
        exact .cons hjb h1.ok h2 h3 (hF _ (List.mem_of_getElem? h3)) (hR28 _ (List.mem_of_getElem? hjb)) k1
      · rw [k2, List.map_append, List.append_assoc]; rfl
      · refine k3.trans ?_
        rw [List.map_append, List.append_assoc]
        exact List.Perm.append_left _ hq1

theorem ins_mem {p x : Nat} {F : List Nat} : (insAt p x F).Perm (x :: F) := by
  unfold insAt
  refine List.perm_middle.trans ?_
  rw [List.take_append_drop]
theorem ins_sorted {p x : Nat} {F : List Nat} (hs : F.Pairwise (· ≤ ·)) (h : BisN F x p) : (insAt p x F).Pairwise (· ≤ ·) := by
  unfold insAt
  rw [List.pairwise_append, List.pairwise_cons]
  have ht : ∀ a ∈ F.take p, a < x := fun a ha => by
    obtain ⟨i, hi, e⟩ := List.getElem_of_mem ha
    have hi' : i < p := by rw [List.length_take] at hi; omega
    have e2 : F[i]? = some a := by
      have : (F.take p)[i]? = some a := by rw [List.getElem?_eq_getElem hi, e]
      rw [List.getElem?_take_of_lt hi'] at this; exact this
    exact (h.2 i a e2).mpr hi'
  have hd : ∀ a ∈ F.drop p, x ≤ a := fun a ha => by
    obtain ⟨i, hi, e⟩ := List.getElem_of_mem ha
    have e2 : F[p + i]? = some a := by
      have : (F.drop p)[i]? = some a := by rw [List.getElem?_eq_getElem hi, e]
      rw [List.getElem?_drop] at this; exact this
    have := mt (h.2 _ a e2).mp (by omega)
    omega
  refine ⟨hs.sublist (List.take_sublist _ _), ⟨hd, hs.sublist (List.drop_sublist _ _)⟩, fun a ha b hb => ?_⟩
  rcases List.mem_cons.mp hb with rfl | hb
  · exact Nat.le_of_lt (ht a ha)
  · exact Nat.le_trans (Nat.le_of_lt (ht a ha)) (hd b hb)
theorem ins_of : ∀ (g F : List Nat), F.Pairwise (· ≤ ·) → ∃ F', Ins g F F' ∧ F'.Pairwise (· ≤ ·) ∧ F'.Perm (g ++ F)
  | [], F, h => ⟨F, .nil, h, List.Perm.refl _⟩
  | x :: g, F, h => by
    obtain ⟨p, hp⟩ := BisN.exists x h
    obtain ⟨F', h1, h2, h3⟩ := ins_of g (insAt p x F) (ins_sorted h hp)
    refine ⟨F', .cons hp.ok h1, h2, h3.trans ?_⟩
    exact (List.Perm.append_left g ins_mem).trans List.perm_middle
theorem sorted_one {l m : List Nat} (p : l.Perm m) (h1 : l.Pairwise (· ≤ ·)) (h2 : m.Pairwise (· ≤ ·)) : l = m :=
  p.eq_of_pairwise (fun a b _ _ h h' => Nat.le_antisymm h h') h1 h2

/-- a step, whatever the order -/
theorem step_any {back : Nat} (hb1 : back ≤ 1) {R : List (Nat × Nat)} {o : Nat} {F bs ys F₁ G : List Nat} (hr : Run back F bs ys F₁) (hs : F.Pairwise (· ≤ ·)) (hG : G.Pairwise (· ≤ ·)) (hGp : G.Perm (bs ++ F₁)) (hR : (R.map (·.2)).Perm bs) (h28 : ∀ x ∈ F, x < 28) (hb28 : ∀ x ∈ bs, x < 28) :
    ∃ D' F' g', Proc back R o F [] [] D' F' g' ∧ Ins g' F' G ∧ (D'.map (·.2)).Perm ys ∧ (D'.map (·.1)).Perm (R.map (·.1)) := by
  obtain ⟨cs, hc, h⟩ := proc_of back R.length R o rfl
  obtain ⟨zs, hz⟩ := hr.any hb1 (hR.symm.trans hc.symm) hs
  obtain ⟨D', k1, k2, k3⟩ := h F zs F₁ [] [] hz h28 (fun e he => hb28 _ (hR.subset (List.mem_map.mpr ⟨e, he, rfl⟩)))
  have hF₁ : F₁.Pairwise (· ≤ ·) := by
    have : ∀ {F bs ys F₁ : List Nat}, Run back F bs ys F₁ → F.Pairwise (· ≤ ·) → F₁.Pairwise (· ≤ ·) := by
      intro F bs ys F₁ h
      induction h with
      | nil => exact fun h => h
      | cons _ _ _ _ ih => exact fun h => ih (erase_sorted h)
    exact this hr hs
  obtain ⟨G', g1, g2, g3⟩ := ins_of cs F₁ hF₁
  have : G' = G := sorted_one (g3.trans ((List.Perm.append_right F₁ (hc.trans hR)).trans hGp.symm)) g2 hG
  subst this
  exact ⟨D', F₁, cs, k1, g1, by rw [k2]; exact (hr.set hz), by simpa using k3⟩
end
section
/-! texts, quickly reckoned -/
def codeOf (s : PySem.Str) : Nat := match s.cps.toList with
  | [c] => c
  | _ => 0
def escP : Nat → Bool → List Nat → List (Nat × Nat)
  | i, e, [] => if e then [(i - 1, 92)] else []
  | i, e, c :: cs => if e then (i, 0) :: escP (i + 1) false cs else if c == 92 then escP (i + 1) true cs else (i, c) :: escP (i + 1) false cs
theorem escs_code : ∀ (l : List Nat) (i : Nat) (e : Bool), (escs i e l).map (fun p => (p.1, codeOf p.2)) = escP i e l
  | [], i, e => by unfold escs escP; split <;> rfl
  | c :: cs, i, e => by
    unfold escs escP
    split
    · rw [List.map_cons, escs_code cs]; rfl
    · split
      · exact escs_code cs _ _
      · rw [List.map_cons, escs_code cs]; rfl
theorem is_code {s t : PySem.Str} {c : Nat} (ht : t = ⟨#[c]⟩) (hc : c ≠ 0) : (s == t) = (codeOf s == c) := by
  subst ht
  by_cases h : s = ⟨#[c]⟩
  · subst h
    rw [beq_self_eq_true]
    exact (beq_self_eq_true c).symm
  · rw [beq_eq_false_iff_ne.mpr h]
    symm
    refine beq_eq_false_iff_ne.mpr fun q => h ?_
    obtain ⟨⟨l⟩⟩ := s
    match l, q with
    | [], q => exact absurd q.symm hc
    | [d], q => have q : d = c := q; rw [q]
    | _ :: _ :: _, q => exact absurd q.symm hc
theorem str_q : ("\"" : PySem.Str) = ⟨#[34]⟩ := by decide +kernel
theorem str_o : ("(" : PySem.Str) = ⟨#[40]⟩ := by decide +kernel
theorem str_c : (")" : PySem.Str) = ⟨#[41]⟩ := by decide +kernel
def balN : List Nat → Nat → Option Nat
  | [], z => some z
  | c :: l, z => if c == 40 then balN l (z + 1) else if c == 41 then (match z with | 0 => none | z + 1 => balN l z) else balN l z
theorem bal_fast : ∀ (l : List (Nat × PySem.Str)) (z : Nat), bal l z = balN (l.map fun p => codeOf p.2) z
  | [], z => rfl
  | p :: l, z => by
    unfold bal
    rw [List.map_cons]
    unfold balN
    rw [is_code str_o (by decide), is_code str_c (by decide)]
    split
    · exact bal_fast l _
    · split
      · cases z with
        | zero => rfl
        | succ z => exact bal_fast l _
      · exact bal_fast l _
def htsN : List Nat → List Nat → List Nat → Option (List Nat × List Nat)
  | [], s, hs => some (s, hs)
  | c :: l, s, hs => if c == 40 then htsN l (0 :: s) hs else if c == 41 then (match s with | a :: b :: q => htsN l ((if a + 1 > b then a + 1 else b) :: q) (hs ++ [a + 1]) | _ => none) else htsN l s hs
theorem hts_fast : ∀ (l : List (Nat × PySem.Str)) (s hs : List Nat), hts l s hs = htsN (l.map fun p => codeOf p.2) s hs
  | [], s, hs => rfl
  | p :: l, s, hs => by
    unfold hts
    rw [List.map_cons]
    unfold htsN
    rw [is_code str_o (by decide), is_code str_c (by decide)]
    split
    · exact hts_fast l _ _
    · split
      · match s with
        | [] => rfl
        | [_] => rfl
        | a :: b :: q => exact hts_fast l _ _
      · exact hts_fast l _ _
def qstepN (l : List Nat) (st : Option (Nat × Option Nat × List Nat)) (p : Nat × Nat) : Option (Nat × Option Nat × List Nat) := match st with
  | none => none
  | some (s, o, res) => if p.2 == 34 then (match o with
      | none => some (s, some p.1, res)
      | some q => if s ≤ q ∧ q ≤ l.length then some (p.1 + 1, none, if s == q then res else res ++ (l.drop s).take (q - s)) else none) else some (s, o, res)
def stripN (l : List Nat) : Option (List Nat) := if l.any (· == 34) then (match (escP 0 false l).foldl (qstepN l) (some (0, none, [])) with
    | some (s, o, res) => some (if s < l.length then res ++ l.drop s else res)
    | none => none) else some l
def flat (ss : List PySem.Str) : List Nat := (ss.map fun s => s.cps.toList).flatten
theorem slice_fast {x : PySem.Str} {a b : Nat} (h1 : a ≤ b) (h2 : b ≤ x.length) : (Txt.slice x (some (a : Int)) (some (b : Int))).cps.toList = (x.cps.toList.drop a).take (b - a) := by
  show (StrLaws.sliceText x (some (a : Int)) (some (b : Int))).cps.toList = _
  rw [StrLaws.sliceText_nat x h1 h2]
theorem slice_from {x : PySem.Str} {a : Nat} (h1 : a ≤ x.length) : (Txt.slice x (some (a : Int)) none).cps.toList = x.cps.toList.drop a := by
  have e : (Txt.slice x (some (a : Int)) none) = Txt.slice x (some (a : Int)) (some (x.length : Int)) := by
    unfold Txt.slice
    rw [StrLaws.sliceIdx_none_hi]
  rw [e, slice_fast h1 (Nat.le_refl _)]
  refine List.take_of_length_le ?_
  rw [List.length_drop]; exact Nat.le_refl _
theorem join_fast (ss : List PySem.Str) : (Txt.join "" ss).cps.toList = flat ss := by
  have e0 : ("" : PySem.Str).cps = #[] := by decide +kernel
  have key : ∀ (ss : List PySem.Str) (acc : Array Nat), (ss.foldl (fun acc p => acc ++ ("" : PySem.Str).cps ++ p.cps) acc).toList = acc.toList ++ flat ss := by
    intro ss
    induction ss with
    | nil => intro acc; rw [show flat [] = [] from rfl, List.append_nil]; rfl
    | cons s ss ih =>
      intro acc
      rw [List.foldl_cons, ih, e0]
      show (acc ++ #[] ++ s.cps).toList ++ flat ss = acc.toList ++ (s.cps.toList ++ flat ss)
      simp
  cases ss with
  | nil => rfl
  | cons s ss => exact key ss s.cps
theorem flat_app (a b : List PySem.Str) : flat (a ++ b) = flat a ++ flat b := by unfold flat; rw [List.map_append, List.flatten_append]
theorem flat_one (s : PySem.Str) : flat [s] = s.cps.toList := by unfold flat; simp
theorem fold_none (l : List Nat) : ∀ (m : List (Nat × Nat)), m.foldl (qstepN l) none = none
  | [] => rfl
  | _ :: m => fold_none l m
theorem q_fast {x : PySem.Str} : ∀ (m : List (Nat × PySem.Str)) (s : Nat) (o : Option Nat) (r : List PySem.Str) (s' : Nat) (o' : Option Nat) (res : List Nat), (m.map fun p => (p.1, codeOf p.2)).foldl (qstepN x.cps.toList) (some (s, o, flat r)) = some (s', o', res) → ∃ r', m.foldl (qstep x) (s, o, r) = (s', o', r') ∧ flat r' = res
  | [], s, o, r, s', o', res, h => by
    have h : some (s, o, flat r) = some (s', o', res) := h
    cases h
    exact ⟨r, rfl, rfl⟩
  | p :: m, s, o, r, s', o', res, h => by
    rw [List.map_cons, List.foldl_cons] at h
    rw [List.foldl_cons]
    have hc := is_code (s := p.2) str_q (by decide)
    by_cases q : (codeOf p.2 == 34) = true
    · cases o with
      | none =>
        have e1 : qstepN x.cps.toList (some (s, none, flat r)) (p.1, codeOf p.2) = some (s, some p.1, flat r) := by
          show (if (codeOf p.2 == 34) = true then _ else _) = _
          rw [if_pos q]
        have e2 : qstep x (s, none, r) p = (s, some p.1, r) := by unfold qstep; rw [hc, if_pos q]
        rw [e1] at h
        rw [e2]
        exact q_fast m _ _ _ _ _ _ h
      | some z =>
        have e1 : qstepN x.cps.toList (some (s, some z, flat r)) (p.1, codeOf p.2) = if s ≤ z ∧ z ≤ x.cps.toList.length then some (p.1 + 1, none, if s == z then flat r else flat r ++ (x.cps.toList.drop s).take (z - s)) else none := by
          show (if (codeOf p.2 == 34) = true then _ else _) = _
          rw [if_pos q]
        rw [e1] at h
        by_cases hb : s ≤ z ∧ z ≤ x.cps.toList.length
        · rw [if_pos hb] at h
          have e2 : qstep x (s, some z, r) p = (p.1 + 1, none, if ((s : Int) != (z : Int)) = true then r ++ [Txt.slice x (some s) (some z)] else r) := by unfold qstep; rw [hc, if_pos q]
          rw [e2]
          by_cases hz : s = z
          · subst hz
            rw [if_pos (beq_self_eq_true s)] at h
            rw [if_neg (by simp)]
            exact q_fast m _ _ _ _ _ _ h
          · rw [if_neg (by simpa using hz)] at h
            rw [if_pos (by simp; omega)]
            refine q_fast m _ _ _ _ _ _ ?_
            rw [flat_app, flat_one, slice_fast hb.1 hb.2]
            exact h
        · rw [if_neg hb, fold_none] at h
          cases h
    · have e1 : qstepN x.cps.toList (some (s, o, flat r)) (p.1, codeOf p.2) = some (s, o, flat r) := by
        show (if (codeOf p.2 == 34) = true then _ else _) = _
        rw [if_neg q]
      have e2 : qstep x (s, o, r) p = (s, o, r) := by unfold qstep; rw [hc, if_neg q]
      rw [e1] at h
      rw [e2]
      exact q_fast m _ _ _ _ _ _ h
theorem strip_fast {x : PySem.Str} {res : List Nat} (h : stripN x.cps.toList = some res) : (stripS x).cps.toList = res := by
  unfold stripN at h
  unfold stripS
  have hq : subStr "\"" x = x.cps.toList.any (· == 34) := by
    unfold subStr
    rw [str_q, StrLaws.found_one]
    rw [Bool.eq_iff_iff, decide_eq_true_iff, List.any_eq_true]
    exact ⟨fun h => ⟨34, h, rfl⟩, fun ⟨c, h, e⟩ => by rw [← beq_iff_eq.mp e]; exact h⟩
  rw [hq]
  by_cases c : x.cps.toList.any (· == 34) = true
  · rw [if_pos c] at h
    rw [if_pos c]
    split at h
    · rename_i s o r hf
      have hf' := hf
      rw [← escs_code] at hf'
      obtain ⟨r', e1, e2⟩ := q_fast (x := x) (escs 0 false x.cps.toList) 0 none [] _ _ _ hf'
      have e1 : qfin x = (s, o, r') := e1
      rw [e1]
      have h := Option.some.inj h
      by_cases hl : s < x.cps.toList.length
      · rw [if_pos hl] at h
        rw [if_pos (by show (s : Int) < (x.length : Int); have : x.cps.toList.length = x.length := rfl; omega)]
        rw [join_fast, flat_app, flat_one, slice_from (by have : x.cps.toList.length = x.length := rfl; omega), e2]
        exact h
      · rw [if_neg hl] at h
        rw [if_neg (by show ¬ (s : Int) < (x.length : Int); have : x.cps.toList.length = x.length := rfl; omega)]
        rw [join_fast, e2]
        exact h
    · cases h
  · rw [if_neg c] at h
    rw [if_neg c]
    exact Option.some.inj h
end
section
def posn : List Nat → Nat → Nat
  | [], _ => 0
  | a :: F, b => if a < b then posn F b + 1 else 0
theorem posn_ok (b : Nat) : ∀ {F : List Nat}, F.Pairwise (· ≤ ·) → BisN F b (posn F b)
  | [], _ => ⟨Nat.le_refl _, fun j y e => by cases e⟩
  | a :: F, h => by
    rw [List.pairwise_cons] at h
    have hp := posn_ok b h.2
    unfold posn
    by_cases q : a < b
    · rw [if_pos q]
      refine ⟨by simp only [List.length_cons]; have := hp.1; omega, fun j y e => ?_⟩
      cases j with
      | zero =>
        rw [List.getElem?_cons_zero] at e
        have := Option.some.inj e
        subst this
        exact ⟨fun _ => Nat.succ_pos _, fun _ => q⟩
      | succ j =>
        rw [List.getElem?_cons_succ] at e
        rw [hp.2 j y e]
        omega
    · rw [if_neg q]
      refine ⟨Nat.zero_le _, fun j y e => ⟨fun l => ?_, fun l => absurd l (Nat.not_lt_zero _)⟩⟩
      cases j with
      | zero =>
        rw [List.getElem?_cons_zero] at e
        have := Option.some.inj e
        omega
      | succ j =>
        rw [List.getElem?_cons_succ] at e
        have := h.1 y (List.mem_of_getElem? e)
        omega
def runN (back : Nat) : List Nat → List Nat → Option (List Nat × List Nat)
  | [], F => some ([], F)
  | b :: bs, F => if back ≤ posn F b then (match F[posn F b - back]? with
      | some y => (match runN back bs (F.eraseIdx (posn F b - back)) with
        | some (ys, F') => some (y :: ys, F')
        | none => none)
      | none => none) else none
theorem runN_ok {back : Nat} : ∀ {bs F ys F' : List Nat}, F.Pairwise (· ≤ ·) → runN back bs F = some (ys, F') → Run back F bs ys F'
  | [], F, ys, F', _, h => by cases h; exact .nil
  | b :: bs, F, ys, F', hs, h => by
    unfold runN at h
    split at h
    · rename_i hk
      split at h
      · rename_i y hy
        split at h
        · rename_i ys₁ F₁ hr
          cases h
          exact .cons (posn_ok b hs) hk hy (runN_ok (erase_sorted hs) hr)
        · cases h
      · cases h
    · cases h
def ballsOf (bs : List Bool) : List Nat := 0 :: (List.range 6).filterMap fun k => if bs.getD k false then some (k + 1) else none
def freeOf (n : Nat) (B : List Nat) : List Nat := (List.range n).filter fun k => !(B.any (· == k))
def dueOf (n : Nat) (B : List Nat) : List Nat := carr B (List.range n) 0 []
def dressN : List (List Nat) := [[92, 41], [34, 40, 34], [], [92, 92], [92, 34]]
def signN (o5 : Nat) (old due : List Nat) (k : Nat) : List Nat := if old.any (· == k) then [40] else if due.any (· == k) then [41] else dressN.getD ((o5 + k) % 5) []
def textN (o5 : Nat) (old due : List Nat) : List Nat := (List.range' (old.headD 0) (due.getLastD 0 + 1 - old.headD 0)).flatMap (signN o5 old due)
def digitsN (n : Nat) (B : List Nat) : List Nat := (List.range n).map fun k => if B.any (· == k) then 49 else 48
def cnt10 : List Nat → Nat
  | 49 :: 48 :: l => cnt10 l + 1
  | _ :: l => cnt10 l
  | [] => 0
def rep10 : List Nat → List Nat
  | 49 :: 48 :: l => rep10 l
  | c :: l => c :: rep10 l
  | [] => []
def roundsN : Nat → List Nat → List Nat
  | 0, _ => []
  | f + 1, l => if l.any (· == 49) then cnt10 l :: roundsN f (rep10 l) else []
def maxN (hs : List Nat) : Nat := hs.foldl (fun a b => if b > a then b else a) 0
def chk (l rounds : List Nat) : Bool := match stripN l with
  | none => false
  | some r => balN ((escP 0 false r).map (·.2)) 0 == some 0 && decide (l.length ≤ 200) && decide (r.length ≤ 200) && (match htsN ((escP 0 false r).map (·.2)) [0] [] with
    | some (_, hs) => hs.any (· == maxN hs) && hs.all (fun a => decide (a ≤ maxN hs)) && decide (maxN hs ≤ 100) && (List.range (maxN hs)).map (fun i => hs.count (i + 1)) == rounds
    | none => false)
def chainB : PySem.Str → List Nat → Bool
  | d, [] => !(subStr "1" d)
  | d, c :: cs => subStr "1" d && Txt.count d "10" == (c : Int) && decide (d.length ≤ 100) && chainB (Txt.replace d "10" "") cs
/-- a lap and its way back, without its text -/
def lapB (n : Nat) (B due : List Nat) : Bool :=
  (match runN 0 B (freeOf n B) with
    | some (ys, F') => ys == due && (B ++ F').isPerm (freeOf n due)
    | none => false) &&
  (match runN 1 due.reverse (freeOf n due) with
    | some (ys, F') => ys == B.reverse && (due ++ F').isPerm (freeOf n B)
    | none => false) &&
  B.all (fun b => decide (b < 28)) && due.all (fun b => decide (b < 28)) && decide (due.length = B.length) && decide (B.Pairwise (· < ·))
def cellsOf (B : List Nat) : Nat := 7 + 3 * B.length
def roundsOf (B : List Nat) : List Nat := roundsN 10 (digitsN (cellsOf B) B)
def allB (bs : List Bool) : Bool :=
  let B := ballsOf bs
  let n := cellsOf B
  let B1 := dueOf n B
  let B2 := dueOf n B1
  let B3 := dueOf n B2
  lapB n B B1 && lapB n B1 B2 && lapB n B2 B3 && decide (B3.Pairwise (· < ·)) && decide (B.length ≤ 7)
def textB (o5 : Nat) (bs : List Bool) : Bool :=
  let B := ballsOf bs
  let n := cellsOf B
  let B1 := dueOf n B
  let B2 := dueOf n B1
  let B3 := dueOf n B2
  let r := roundsOf B
  chk (textN o5 B B1) r && chk (textN o5 B1 B2) r && chk (textN o5 B2 B3) r
def chainAll (bs : List Bool) : Bool := chainB ⟨(digitsN (cellsOf (ballsOf bs)) (ballsOf bs)).toArray⟩ (roundsOf (ballsOf bs)) && decide ((roundsOf (ballsOf bs)).length ≤ 10)
def bits : List (List Bool) := [false, true].flatMap fun a => [false, true].flatMap fun b => [false, true].flatMap fun c => [false, true].flatMap fun d => [false, true].flatMap fun e => [false, true].map fun f => [a, b, c, d, e, f]
theorem bits_mem : ∀ a b c d e f : Bool, [a, b, c, d, e, f] ∈ bits := by decide +kernel
theorem free_sorted (n : Nat) (B : List Nat) : (freeOf n B).Pairwise (· ≤ ·) := (List.pairwise_le_range).sublist List.filter_sublist
theorem free_lt {n : Nat} {B : List Nat} (hn : n ≤ 28) : ∀ x ∈ freeOf n B, x < 28 := fun x hx => by
  have := List.mem_range.mp (List.mem_filter.mp hx).1
  omega
structure LapOk (n : Nat) (B due : List Nat) : Prop where
  fwd : ∀ (R : List (Nat × Nat)) (o : Nat), (R.map (·.2)).Perm B → ∃ D' F' g', Proc 0 R o (freeOf n B) [] [] D' F' g' ∧ Ins g' F' (freeOf n due) ∧ (D'.map (·.2)).Perm due ∧ (D'.map (·.1)).Perm (R.map (·.1))
  bwd : ∀ (R : List (Nat × Nat)) (o : Nat), (R.map (·.2)).Perm due → ∃ D' F' g', Proc 1 R o (freeOf n due) [] [] D' F' g' ∧ Ins g' F' (freeOf n B) ∧ (D'.map (·.2)).Perm B ∧ (D'.map (·.1)).Perm (R.map (·.1))
  lt : ∀ b ∈ B, b < 28
  lt' : ∀ b ∈ due, b < 28
  len : due.length = B.length
  sorted : B.Pairwise (· < ·)
theorem lap_ok {n : Nat} {B due : List Nat} (hn : n ≤ 28) (h : lapB n B due = true) : LapOk n B due := by
  unfold lapB at h
  simp only [Bool.and_eq_true, decide_eq_true_eq, List.all_eq_true] at h
  obtain ⟨⟨⟨⟨⟨h1, h2⟩, h3⟩, h4⟩, h5⟩, h6⟩ := h
  refine ⟨fun R o hR => ?_, fun R o hR => ?_, h3, h4, h5, h6⟩
  · split at h1
    · rename_i ys F' hr
      simp only [Bool.and_eq_true, beq_iff_eq, List.isPerm_iff] at h1
      obtain ⟨rfl, hp⟩ := h1
      exact step_any (by decide) (runN_ok (free_sorted _ _) hr) (free_sorted _ _) (free_sorted _ _) hp.symm hR (free_lt hn) h3
    · cases h1
  · split at h2
    · rename_i ys F' hr
      simp only [Bool.and_eq_true, beq_iff_eq, List.isPerm_iff] at h2
      obtain ⟨rfl, hp⟩ := h2
      obtain ⟨D', F₂, g', k1, k2, k3, k4⟩ := step_any (R := R) (o := o) (by decide) (runN_ok (free_sorted _ _) hr) (free_sorted _ _) (free_sorted n B) (hp.symm.trans (List.Perm.append_right F' (List.reverse_perm due).symm)) (hR.trans (List.reverse_perm due).symm) (free_lt hn) (fun b hb => h4 b (List.mem_reverse.mp hb))
      exact ⟨D', F₂, g', k1, k2, k3.trans (List.reverse_perm B), k4⟩
    · cases h2
structure TextOk (x : PySem.Str) (rounds : List Nat) : Prop where
  ok : ∃ s hs M, x.length ≤ 200 ∧ (stripE x).length ≤ 1001 ∧ bal (stripE x) 0 = some 0 ∧ hts (stripE x) [0] [] = some (s, hs) ∧ M ∈ hs ∧ (∀ a ∈ hs, a ≤ M) ∧ M ≤ 1000 ∧ cntV hs M = intsV rounds
theorem text_ok {x : PySem.Str} {rounds : List Nat} (h : chk x.cps.toList rounds = true) : TextOk x rounds := by
  unfold chk at h
  split at h
  · cases h
  · rename_i r hr
    have hs := strip_fast hr
    have hE : (stripE x).map (fun p => codeOf p.2) = (escP 0 false r).map (·.2) := by
      unfold stripE
      rw [hs, ← escs_code, List.map_map]; rfl
    simp only [Bool.and_eq_true, beq_iff_eq, decide_eq_true_eq] at h
    obtain ⟨⟨⟨h1, h2⟩, h3⟩, h4⟩ := h
    split at h4
    · rename_i st hs' hh
      simp only [Bool.and_eq_true, decide_eq_true_eq, List.any_eq_true, List.all_eq_true, beq_iff_eq] at h4
      obtain ⟨⟨⟨⟨m, hm, hme⟩, h6⟩, h7⟩, h8⟩ := h4
      refine ⟨st, hs', maxN hs', h2, ?_, ?_, ?_, ?_, h6, by omega, ?_⟩
      · unfold stripE
        have := escs_len (stripS x).cps.toList 0 false
        rw [hs] at this ⊢
        omega
      · rw [bal_fast, hE]; exact h1
      · rw [hts_fast, hE]; exact hh
      · rw [← hme]; exact hm
      · rw [← h8]
        unfold cntV intsV
        rw [List.map_map]; rfl
    · cases h4
end
section
theorem allB_ok : bits.all allB = true := by decide +kernel
theorem textB_0 : bits.all (textB 0) = true := by decide +kernel
theorem textB_1 : bits.all (textB 1) = true := by decide +kernel
theorem textB_2 : bits.all (textB 2) = true := by decide +kernel
theorem textB_3 : bits.all (textB 3) = true := by decide +kernel
theorem textB_4 : bits.all (textB 4) = true := by decide +kernel
theorem chain_0 : (bits.take 16).all chainAll = true := by decide +kernel
theorem chain_1 : ((bits.drop 16).take 16).all chainAll = true := by decide +kernel
theorem chain_2 : ((bits.drop 32).take 16).all chainAll = true := by decide +kernel
theorem chain_3 : (bits.drop 48).all chainAll = true := by decide +kernel
theorem chain_ok {bs : List Bool} (h : bs ∈ bits) : chainAll bs = true := by
  have e : bits = bits.take 16 ++ ((bits.drop 16).take 16 ++ ((bits.drop 32).take 16 ++ bits.drop 48)) := by decide +kernel
  rw [e] at h
  rcases List.mem_append.mp h with h | h
  · exact List.all_eq_true.mp chain_0 _ h
  rcases List.mem_append.mp h with h | h
  · exact List.all_eq_true.mp chain_1 _ h
  rcases List.mem_append.mp h with h | h
  · exact List.all_eq_true.mp chain_2 _ h
  · exact List.all_eq_true.mp chain_3 _ h
theorem text_all {bs : List Bool} (h : bs ∈ bits) {o5 : Nat} (ho : o5 < 5) : textB o5 bs = true := by
  match o5, ho with
  | 0, _ => exact List.all_eq_true.mp textB_0 _ h
  | 1, _ => exact List.all_eq_true.mp textB_1 _ h
  | 2, _ => exact List.all_eq_true.mp textB_2 _ h
  | 3, _ => exact List.all_eq_true.mp textB_3 _ h
  | 4, _ => exact List.all_eq_true.mp textB_4 _ h
end
section
section
variable {W : Wd} {G : Fx} {k : Nat} {σ σ₁ σ₂ σ₃ σ' : St}
theorem toksF {α : Type} {M : Model} {A : Around} {t : Sem α} {Q : α → Shared → Prop} {s : Shared} {n : Nat} (hn : n ≤ s.toks) (h : wpAny M A t (fun a s' => n ≤ s'.toks → Q a s') (fun _ _ => False) s) : wpAny M A t Q (fun _ _ => False) s :=
  wpAny_with_toks hn (wpAny_mono h (fun _ _ x => x) fun _ _ x => x.elim)
/-- a test behind which some token was made -/
structure EtQ (W : Wd) (F : Fx) (k : Nat) (e : Expr) (σ : St) (b : Bool) (σ' : St) : Prop where
  run : ∀ {A : Around} {env : Env} {cl : List (PySem.Str × Addr)} {h₀ : Heap} {L : Addr} {ρ : List Addr} {s : Shared} {Q : Bool → Shared → Prop},
    Cx W F A env cl h₀ L k → Rel h₀ L cl ρ σ s.heap → (∀ b' s' ρ', Nx h₀ L cl ρ s σ' ρ' s' → 1 ≤ s'.toks → b' = b → Q b' s') → wpAny W.M A (isTrue e env (eval e env)) Q (fun _ _ => False) s
/-- a statement where some token was made before -/
structure ExT (W : Wd) (F : Fx) (k : Nat) (st : Stmt) (σ : St) (f : Fl) (σ' : St) : Prop where
  run : ∀ {A : Around} {env : Env} {cl : List (PySem.Str × Addr)} {h₀ : Heap} {L : Addr} {ρ : List Addr} {s : Shared} {Q : Flow → Shared → Prop},
    Cx W F A env cl h₀ L k → Rel h₀ L cl ρ σ s.heap → 1 ≤ s.toks → (∀ f' s' ρ', Nx h₀ L cl ρ s σ' ρ' s' → RFl s'.heap ρ' f f' → Q f' s') → wpAny W.M A (exec st env) Q (fun _ _ => False) s
theorem EtQ.inStr {x y : PySem.Str} {n : Nat} {pc p : Pos} {e : Expr} (hr : Ev W G k e σ (.str y) σ) (hm : behindInMarks .In e = false) : EtQ W G k (.Compare (.Constant (.str x) n pc) [.In] [e] p) σ (subStr x y) σ := EtQ.mk fun {A env cl h₀ L ρ s Q} C R h =>
  wpAny_isTrue_Compare1 (Calls.Constant_str (toksF (n := 1) (by show 1 ≤ s.toks + 1; omega) (hr.run C (R.keep (h' := s.heap) fun _ _ e => e) fun c s₂ ρ₂ n₂ rb tk => toksF tk ((Op.in_str (W := W) (G := G) (k := k)).run C n₂.rel (vs := [_, c]) (.cons ⟨_, rfl⟩ (.one rb)) fun d s₃ ρ₃ n₃ rc ht => by
    have rc : d = .bool (subStr x y) := rc
    subst rc
    exact wpAny_truthy_bool (h _ _ _ (((Nx.same R).trans n₂).trans n₃) ht rfl))))) hm
inductive WlQ (W : Wd) (G : Fx) (k : Nat) (test : Expr) (st1 st2 : Stmt) : St → St → Prop
  | done {τ τ₁ : St} : EtQ W G k test τ false τ₁ → WlQ W G k test st1 st2 τ τ₁
  | next {τ τ₁ τ₂ τ₃ τ₄ : St} : EtQ W G k test τ true τ₁ → Ex W G k st1 τ₁ .next τ₂ → ExT W G k st2 τ₂ .next τ₃ → WlQ W G k test st1 st2 τ₃ τ₄ → WlQ W G k test st1 st2 τ τ₄
theorem Ex.whileQ {test : Expr} {st1 st2 : Stmt} {pos : Pos} (h : WlQ W G k test st1 st2 σ σ₁) : Ex W G k (.While test [st1, st2] [] pos) σ .next σ₁ := by
  constructor
  intro A env cl h₀ L ρ s Q C R hQ
  refine whl_start 0 ?_
  suffices hg : ∀ {j : Nat} {ρ s} {Q : Flow → Shared → Prop}, Rel h₀ L cl ρ σ s.heap → (∀ f s' ρ', Nx h₀ L cl ρ s σ₁ ρ' s' → RFl s'.heap ρ' .next f → Q f s') → WhlRest W.prog W.w A (fun _ _ => False) env test [st1, st2] [] Q (j + 1) s from hg (j := 0) R hQ
  clear R hQ s ρ Q
  induction h with
  | done ht =>
    intro j ρ s Q R hQ
    refine whl_turn PassesOwn.never (ht.run C R fun b s₁ ρ₁ n₁ _ e => WhlIf.no e (wpAny_execs_nil (hQ _ _ _ n₁ rfl)))
  | next ht h1 h2 hw ih =>
    intro j ρ s Q R hQ
    refine whl_turn (k := j + 1) PassesOwn.never (ht.run C R fun b s₁ ρ₁ n₁ tk e => WhlIf.yes e (wpAny_execs_cons (toksF tk (h1.run C n₁.rel fun f s₂ ρ₂ n₂ r tk₂ => ?_))))
    have r : f = .next := r
    subst r
    refine wpAny_execs_cons (h2.run C n₂.rel tk₂ fun f s₃ ρ₃ n₃ r => ?_)
    have r : f = .next := r
    subst r
    exact wpAny_execs_nil (ih (j := j) n₃.rel fun f s' ρ' n₄ r => hQ _ _ _ (((n₁.trans n₂).trans n₃).trans n₄) r)
theorem Ex.replaceT {x : PySem.Str} {p' p'' apos pos p p1 p2 : Pos} {a b d : PySem.Str} {n1 n2 : Nat} (hl : G.sc.names.lookup x = some .local) (hv : σ.loc.lookup x = some (.str d)) (hd : (x == ("__debug__" : PySem.Str)) = false) (hab : (a == b) = false) (hz : d.length ≤ 1000) (hb : b.length ≤ 14)
    (hp : PlainArgs [.Constant (.str a) n1 p1, .Constant (.str b) n2 p2])
    (he : ∀ env, ∃ pl, eval (.Call (.Attribute (.Name x p'') "replace" apos) [.Constant (.str a) n1 p1, .Constant (.str b) n2 p2] [] pos) env = (do
      let ov ← eval (.Name x p'') env
      standAt apos.atName
      let (f, first) ← holding [ov] (getMethod ov "replace" pl)
      callWith pos f first (backTo pos (starEach [.Constant (.str a) n1 p1, .Constant (.str b) n2 p2] env)) (backToKw pos (keywordEach [] env))))
    (hs : ∀ env : Env, env.scope = G.sc → swapsWith (.Call (.Attribute (.Name x p'') "replace" apos) [.Constant (.str a) n1 p1, .Constant (.str b) n2 p2] [] pos) (some (.Name x p')) p.line env = pure false) :
    ExT W G k (.Assign [.Name x p'] (.Call (.Attribute (.Name x p'') "replace" apos) [.Constant (.str a) n1 p1, .Constant (.str b) n2 p2] [] pos) p) σ .next { σ with loc := setL x (.str (Txt.replace d a b)) σ.loc } := by
  constructor
  intro A env cl h₀ L ρ s Q C R ht h
  obtain ⟨pl, he⟩ := he env
  obtain ⟨m, v', Fm, hm, t, rfl⟩ := R.local hv
  refine wpAny_Assign_Name (methodCall_KW (pl := pl) ?_ he) (hs _ C.sc)
  refine wpAny_Name (wpAny_loadName_local C.kind ((C.kindOf x).trans hl) (C.loc ▸ Fm.ns) hm ?_) hd
  refine toksF ht ((Om.str (W := W) (G := G) (k := k) (x := d) PySem.F.slot_str_replace PySem.F.type_str_replace).run C R ⟨t, rfl⟩ fun s₂ n₂ ht₂ => ?_)
  have he0 := (Eks.nil (W := W) (G := G) (k := k) (σ := σ)).1 pos env
  refine callWith_of (P := W.K.In) ?_ Keeps.builtin (evalArgs_any hp he0.1 ?_)
  · rw [hp env, backTo_any, he0.2.1]; rfl
  refine args_cons (Calls.Constant_str (args_cons (Calls.Constant_str (args_nil (kwAll_nil ?_)))))
  refine ⟨C.K.keeps n₂.rel.keep₀, ?_⟩
  show wpAny W.M A (call (.builtin "str.replace") [.str d t, .str a s₂.toks, .str b (s₂.toks + 1)]) _ _ _
  refine SC.replace (Nat.ne_of_gt ht₂) (Nat.succ_ne_zero _) (Nat.ne_of_lt (Nat.lt_succ_self _)) hab ?_ fun t' kk => ?_
  · have h1 : (d.length + 1) * b.length ≤ (d.length + 1) * 14 := Nat.mul_le_mul_left _ hb
    omega
  have n₃ : Nx h₀ L cl ρ s σ ρ { s₂ with toks := kk } := n₂.trans (Nx.same n₂.rel)
  exact store_local C n₃.rel hl (v := .str (Txt.replace d a b)) ⟨t', rfl⟩ fun s₄ n₄ => h _ _ _ (n₃.trans n₄) rfl
/-! and -/
theorem Ev.and2 {x y : Expr} {pos : Pos} {v : MV} (h1 : Ev W G k x σ (.bool true) σ₁) (h2 : Ev W G k y σ₁ v σ₂) : Ev W G k (.BoolOp .And [x, y] pos) σ v σ₂ := Tr.mk fun C R hq =>
  BoolOp_and (h1.run C R fun a s₁ ρ₁ n₁ e => by
    have e : a = .bool true := e
    subst e
    refine wpAny_truthy_bool ?_
    rw [if_pos rfl]
    exact BoolOp_one (h2.run C n₁.rel fun c s₂ ρ₂ n₂ r => hq _ _ _ (n₁.trans n₂) r))
/-- a tuple of plain values, gone through -/
theorem Ie.tup {e : Expr} {xs : List FV} (he : Ev W G k e σ (.tup xs) σ₁) : Ie W G k e σ (xs.map .at) false (fun _ => True) σ₁ := by
  constructor
  intro A env cl h₀ L ρ₀ s₀ Q C R hQ
  refine he.run C R fun v s₁ ρ₁ n₁ r₁ => ?_
  obtain ⟨T, o, items, nn, rfl, ho, hc, hdd, f⟩ := r₁
  have hT : s₁.heap.IsTuple T items := ⟨o, ho, hc, nn, hdd⟩
  have hnone : s₁.heap.get? s₁.heap.objs.size = none := Mine.hnone _
  have nk : Nx h₀ L cl ρ₁ s₁ σ₁ ρ₁ { s₁ with heap := s₁.heap.push { cls := .type "tuple_iterator", data := .fields #[.ref T, .int 0 0] } } := Nx.kept n₁.rel (t := s₁.toks) fun b o e => Heap.get?_push_of_some _ e
  have hρ : s₁.heap.objs.size ∉ ρ₁ := fun q => by
    obtain ⟨o, e, _⟩ := n₁.rel.low q
    rw [hnone] at e; cases e
  have hL : s₁.heap.objs.size ≠ L := fun q => by
    obtain ⟨m, oL, _, _, hL, _⟩ := n₁.rel.ns
    rw [← q, hnone] at hL; cases hL
  have h0 : s₀.heap.get? s₁.heap.objs.size = none := by
    cases q : s₀.heap.get? s₁.heap.objs.size with
    | none => rfl
    | some o =>
      by_cases z : s₁.heap.objs.size ∈ ρ₀
      · exact absurd (n₁.pre.subset z) hρ
      · have := n₁.un _ _ q z hL; rw [hnone] at this; cases this
  refine wpAny_pyIter_tuple hT (hQ (.ref s₁.heap.objs.size) _ ρ₁ none (· = s₁.heap.objs.size) (fun xr ρ s => ∃ j, s.heap.IsTupleIter s₁.heap.objs.size T j ∧ s.heap.IsTuple T items ∧ xr = (xs.map MV.at).drop j ∧ s₁.heap.objs.size ∉ ρ) (fun _ => ⟨rfl, fun b e => e ▸ ⟨_, Heap.get?_push_size _ rfl⟩⟩) ?_ ⟨0, ⟨_, Heap.get?_push_size _ rfl, rfl, rfl⟩, hT.push _, rfl, hρ⟩ ((n₁.trans nk).open R))
  have apart : ∀ {s : Shared} {a : Addr} {j : Nat}, s.heap.IsTupleIter a T j → s.heap.IsTuple T items → T ≠ a := fun {s a j} hit hT q => by
    subst q
    obtain ⟨o, ho, hc, _⟩ := hit
    obtain ⟨o', ho', hc', _⟩ := hT
    rw [ho] at ho'; cases ho'
    rw [hc] at hc'
    injection hc' with hc'
    exact absurd hc' (by decide)
  constructor
  · rintro xr ρ s ρ' s' C' cl' τ ⟨j, hit, hT, hx, hm⟩ R' nx hX
    obtain ⟨o, ho, hc, hd⟩ := hit
    obtain ⟨oT, hoT, hcT, nT, hdT⟩ := hT
    have h1 : T ∉ ρ := fun q => by
      obtain ⟨o', e, nt, _⟩ := R'.low q
      rw [hoT] at e; cases e
      exact nt _ _ hcT hdT
    have h2 : T ≠ C' := fun q => by
      obtain ⟨m', hm'⟩ := R'.ns
      obtain ⟨o', e, nt⟩ := ns_notup hm'
      rw [← q, hoT] at e; cases e
      exact nt _ _ hcT hdT
    exact ⟨j, ⟨o, nx.un _ _ ho hm (fun q => hX.elim (fun z => hL (q.trans z)) fun z => z q.symm), hc, hd⟩, ⟨oT, nx.un _ _ hoT h1 h2, hcT, nT, hdT⟩, hx, nx.off _ _ ho hm⟩
  · intro _ _ _ _ _ h; cases h
  · rintro x xr ρ s τ E Q ⟨j, hit, hT, hx, hm⟩ R' al hP hq
    obtain ⟨hj, hx'⟩ := drop_cons hx
    rw [List.getElem?_map] at hj
    cases hfv : xs[j]? with
    | none => rw [hfv] at hj; cases hj
    | some fv =>
      rw [hfv] at hj
      have hj : MV.at fv = x := Option.some.inj hj
      subst hj
      obtain ⟨y, hy, ry⟩ := f.get hfv
      have hap := apart hit hT
      obtain ⟨o, ho, hc, hd⟩ := id hit
      refine wpAny_pyNext_tuple_item hit hT (by rw [← Array.getElem?_toList]; exact hy) fun h' hit' hs' => ?_
      have sd : Sd _ L ρ s₀ none s { s with heap := h', toks := s.toks } := Sd.one ho (fun its m c d => by rw [hd] at d; cases d) hm hL h0 hs'.extBut
      exact hq y _ sd ry ⟨j + 1, hit', hT.extBut hs'.extBut hap, hx', hm⟩
  · rintro ρ s τ E Q ⟨j, hit, hT, hx, hm⟩ R' al hP hq
    obtain ⟨o, ho, hc, hd⟩ := id hit
    have hj : xs.length ≤ j := by
      have := congrArg List.length hx
      simp at this
      omega
    have hsz : items.size = xs.length := by rw [← Array.length_toList, ← f.length]
    refine wpAny_pyNext_tuple_end C.hh hit hT (by rw [Array.getElem?_eq_none]; rw [hsz]; exact hj) fun h' he' => ?_
    exact hq _ (Sd.one (t := s.toks) ho (fun its m c d => by rw [hd] at d; cases d) hm hL h0 he') fun _ h => by cases h
  · rintro xr ρ s E Q _ ⟨j, hit, _⟩ hq
    exact wpAny_pyIter_tupleiter hit hq
  · rintro xr ρ s E target v Q ⟨j, ⟨o, ho, hc, hd⟩, _⟩ hq
    exact go_list ho hc hd (by decide) hq
end
end
section
section
variable {W : Wd} {G : Fx} {k : Nat} {σ σ₁ σ₂ σ₃ σ' : St} {a : Addr} {o : Obj}
/-- one more object that stood before -/
def WX (W : Wd) (a : Addr) (o : Obj) : Wd := ⟨W.prog, W.w, W.K ++ [(a, o)], W.p, W.loose⟩
theorem look_or {l m : Frag} {x : Addr} {y : Obj} (h : l.lookup x = some y) : (l ++ m).lookup x = some y := by rw [List.lookup_append, h]; rfl
theorem Cx.ext {A : Around} {env : Env} {cl : List (PySem.Str × Addr)} {h₀ : Heap} {L : Addr} (C : Cx W G A env cl h₀ L k) (h : h₀.get? a = some o) : Cx (WX W a o) G A env cl h₀ L k := by
  refine ⟨C.sc, C.loc, C.glo, C.bui, C.cel, C.knd, C.hh, C.room, C.units, fun x y e => ?_, C.top, C.fr⟩
  have e : (W.K ++ [(a, o)]).lookup x = some y := e
  rw [List.lookup_append] at e
  cases q : W.K.lookup x with
  | some z => rw [q] at e; have e : z = y := Option.some.inj e; subst e; exact C.K x z q
  | none =>
    rw [q] at e
    have e : ([(a, o)] : Frag).lookup x = some y := e
    rw [List.lookup_cons] at e
    cases r : x == a with
    | true => rw [r] at e; have e : o = y := Option.some.inj e; subst e; rw [eq_of_beq r]; exact h
    | false => rw [r] at e; cases e
theorem nsIn_ext {K K2 : Frag} {D : Addr} {x : PySem.Str} {v : Option Value} (h : nsIn K D x = some v) : nsIn (K ++ K2) D x = some v := by
  unfold nsIn at h ⊢
  cases q : K.lookup D with
  | none => rw [q] at h; cases h
  | some y => rw [look_or q]; rw [q] at h; exact h
structure ExG (W : Wd) (F : Fx) (k : Nat) (Γ : Heap → Prop) (st : Stmt) (σ : St) (f : Fl) (σ' : St) : Prop where
  run : ∀ {A : Around} {env : Env} {cl : List (PySem.Str × Addr)} {h₀ : Heap} {L : Addr} {ρ : List Addr} {s : Shared} {Q : Flow → Shared → Prop},
    Cx W F A env cl h₀ L k → Rel h₀ L cl ρ σ s.heap → Γ h₀ → (∀ f' s' ρ', Nx h₀ L cl ρ s σ' ρ' s' → RFl s'.heap ρ' f f' → Q f' s') → wpAny W.M A (exec st env) Q (fun _ _ => False) s
structure TrG (W : Wd) (F : Fx) (k : Nat) (Γ : Heap → Prop) (sts : List Stmt) (σ : St) (f : Fl) (σ' : St) : Prop where
  run : ∀ {A : Around} {env : Env} {cl : List (PySem.Str × Addr)} {h₀ : Heap} {L : Addr} {ρ : List Addr} {s : Shared} {Q : Flow → Shared → Prop},
    Cx W F A env cl h₀ L k → Rel h₀ L cl ρ σ s.heap → Γ h₀ → (∀ f' s' ρ', Nx h₀ L cl ρ s σ' ρ' s' → RFl s'.heap ρ' f f' → Q f' s') → wpAny W.M A (execs sts env) Q (fun _ _ => False) s
def ExsG (W : Wd) (F : Fx) (k : Nat) (Γ : Heap → Prop) (sts : List Stmt) (σ : St) (P : Fl → St → Prop) : Prop := ∃ fl σ', TrG W F k Γ sts σ fl σ' ∧ P fl σ'
variable {Γ : Heap → Prop} {P : Fl → St → Prop} {st : Stmt} {rest : List Stmt}
theorem ExG.of {fl : Fl} (h : Ex W G k st σ fl σ') : ExG W G k Γ st σ fl σ' := ExG.mk fun C R _ hq => h.run C R hq
theorem ExG.ofX {fl : Fl} (hΓ : ∀ h, Γ h → h.get? a = some o) (h : Ex (WX W a o) G k st σ fl σ') : ExG W G k Γ st σ fl σ' := ExG.mk fun C R g hq => h.run (C.ext (hΓ _ g)) R hq
theorem ExsG.of {sts : List Stmt} (h : ExsP W G k sts σ P) : ExsG W G k Γ sts σ P := by
  obtain ⟨fl, σ', a, b⟩ := h
  exact ⟨fl, σ', TrG.mk fun C R _ hq => a.run C R hq, b⟩
theorem ExsG.cons (h1 : ExG W G k Γ st σ .next σ₁) (h2 : ExsG W G k Γ rest σ₁ P) : ExsG W G k Γ (st :: rest) σ P := by
  obtain ⟨fl, σ', a, b⟩ := h2
  refine ⟨fl, σ', TrG.mk fun C R g hq => ?_, b⟩
  refine wpAny_execs_cons (h1.run C R g fun f s₁ ρ₁ n₁ e => ?_)
  have e : f = .next := e
  subst e
  exact a.run C n₁.rel g fun g' s₂ ρ₂ n₂ r => hq _ _ _ (n₁.trans n₂) r
/-- a loop all of whose turns go on -/
theorem Ex.forP {t iter : Expr} {body : List Stmt} {pos : Pos} {xs : List MV} {gn : Bool} {S : St → Prop} (hi : Ie W G k iter σ xs gn S σ₁) (hl : LpP W G k t body S gn xs σ₁ (fun fl σ' => fl = .next ∧ σ' = σ₂)) (hs : ∀ env : Env, env.scope = G.sc → ∀ x, foldedSetIterable iter env x = pure x) : Ex W G k (.For t iter body [] pos) σ .next σ₂ := by
  obtain ⟨fl, σ', a, b, rfl, rfl⟩ := hl
  exact Ex.for_ hi a b hs
/-- a loop, and what is so behind it -/
theorem ExsG.forP {t iter : Expr} {body : List Stmt} {pos : Pos} {xs : List MV} {gn : Bool} {S : St → Prop} (hi : Ie W G k iter σ xs gn S σ₁) (hl : LpP W G k t body S gn xs σ₁ (fun fl σ' => fl = .next ∧ ExsG W G k Γ rest σ' P)) (hs : ∀ env : Env, env.scope = G.sc → ∀ x, foldedSetIterable iter env x = pure x) : ExsG W G k Γ (.For t iter body [] pos :: rest) σ P := by
  obtain ⟨fl, σ', a, b, rfl, c⟩ := hl
  exact ExsG.cons (ExG.of (Ex.for_ hi a b hs)) c

/-! a list of ints that stood before -/
structure IsLit (W : Wd) (a : Addr) (ns : List Int) : Prop where
  look : ∃ o items n, W.K.lookup a = some o ∧ o.cls = .type "list" ∧ o.data = .seq items n ∧ IntsAre items.toList ns
theorem IsLit.list (h : IsLit W a ns) {A : Around} {env : Env} {cl : List (PySem.Str × Addr)} {h₀ : Heap} {L : Addr} {ρ : List Addr} {s : Shared} (C : Cx W G A env cl h₀ L k) (R : Rel h₀ L cl ρ σ s.heap) : ∃ items, s.heap.IsList a items ∧ IntsAre items.toList ns := by
  obtain ⟨o, items, n, h1, h2, h3, h4⟩ := h.look
  exact ⟨items, ⟨o, R.keep₀ _ _ (C.K _ _ h1), h2, n, h3⟩, h4⟩
theorem IntsAre.len {vs : List Value} {ns : List Int} (h : IntsAre vs ns) : vs.length = ns.length := by
  induction h with
  | nil => rfl
  | cons n t _ ih => simp [ih]
theorem Op.sum_lit {ns : List Int} (h : IsLit W a ns) : Op W G k (fun _ l => call (.builtin "sum") l) [.lit (.ref a)] σ (isV (.int ns.sum)) σ := Op.mk fun C R hv hq => by
  obtain ⟨v, rfl, r⟩ := hv.un
  have r : v = .ref a := r
  subst r
  obtain ⟨items, hl, hi⟩ := h.list C R
  have hall : AllInts items := fun v hv => hi.allInts v (by simpa using hv)
  obtain ⟨xs, rfl⟩ := hall.items
  refine sum_intListG C.hh hl fun h' tk t' hk => ?_
  have : preSum (numAt xs) xs.size = ns.sum := by
    rw [preSum_eq, List.take_of_length_le (by simp), ← nums_intItems, hi.numsOf]
  rw [this]
  exact hq _ _ _ (Nx.kept R hk) ⟨_, rfl⟩
theorem Ev.slice_lit {v : Expr} {lo hi : Option Expr} {p pos : Pos} {ns : List Int} {ws : List MV} {l u : Option Int} (h : IsLit W a ns) (hv : Ev W G k v σ (.lit (.ref a)) σ₁) (hl : Evp W G k lo σ₁ l σ₂) (hh : Evp W G k hi σ₂ u σ₃) (hz : ns.length ≤ 100000)
    (hw : ∀ {h : Heap} {ρ : List Addr} {its : Array Value}, IntsAre its.toList ns → Fa2 (RV h ρ) ws (slicePick its l u none).toList) (ht : ∀ o r, letTemporaryGo v o r = pure ()) :
    Ev W G k (.Subscript v (.Slice lo hi none p) pos) σ (.ref σ₃.st.length) { σ₃ with st := σ₃.st ++ [.list ws] } := Tr.mk fun C R hq => by
  refine wpAny_Subscript_Slice list_getitem_lookup (hv.run C R fun x s₁ ρ₁ n₁ ra => wpAny_Slice (hl.run C n₁.rel fun b s₂ ρ₂ n₂ rb => hh.run C n₂.rel fun c s₃ ρ₃ n₃ rc => wpAny_pure ?_)) ht
  have ra : x = .ref a := ra
  subst ra
  obtain ⟨q1, rfl, rfl⟩ := rb
  obtain ⟨q2, rfl, rfl⟩ := rc
  obtain ⟨items, hli, hi⟩ := h.list C n₃.rel
  have hsz : items.size = ns.length := by rw [← Array.length_toList, Mine.IntsAre.len hi]
  have n₄ := Nx.kept n₃.rel (t := s₃.toks) (h' := s₃.heap.push { cls := .type "slice", data := .fields #[partValue q1, partValue q2, .none] }) fun b o e => Heap.get?_push_of_some _ e
  refine ⟨(hli.push _).typeIs (s := { s₃ with heap := s₃.heap.push { cls := .type "slice", data := .fields #[partValue q1, partValue q2, .none] } }), wpAny_getItem_list_slice (hli.push _) (Heap.IsSliceOf.new ..) (isPart.part rfl) (isPart.part rfl) .none (by simp) ?_ (by rw [sizeLine_eq, hsz]; omega)⟩
  have nn := Nx.new n₄.rel (t := s₃.toks) (a := (s₃.heap.push { cls := .type "slice", data := .fields #[partValue q1, partValue q2, .none] }).objs.size) (x := .list ws) (h' := (s₃.heap.push { cls := .type "slice", data := .fields #[partValue q1, partValue q2, .none] }).push { cls := .type "list", data := .seq (slicePick items (q1.map (·.1)) (q2.map (·.1)) none) }) (fun b o e => Heap.get?_push_of_some _ e) (Mine.hnone _) (Heap.get?_push_size _ rfl)
    ⟨_, _, rfl, hw hi⟩
  exact hq _ _ _ ((((n₁.trans n₂).trans n₃).trans n₄).trans nn) (ref_new nn)
/-- a statement of a def's -/
def StAt (W : Wd) (f : Addr) (i : Nat) (C : Stmt → Scope → Prop) : Prop := ∃ oc od osl name qual params body scope dV kV doc pm an cdv ct st, W.K.lookup f = some ⟨oc, od, .func (fnX name qual params body scope [] dV kV doc pm an cdv ct), osl⟩ ∧ body[i]? = some st ∧ C st scope
theorem StAt.mk' {f : Addr} {i : Nat} {C : Stmt → Scope → Prop} {oc : Value} {od : Option Addr} {osl : Array (Option Value)} {name qual : PySem.Str} {params : Arguments} {body : List Stmt} {scope : Scope} {dV kV doc pm cdv ct : Value} {an : Option Addr} {st : Stmt}
    (hK : W.K.lookup f = some ⟨oc, od, .func (fnX name qual params body scope [] dV kV doc pm an cdv ct), osl⟩) (hs : body[i]? = some st) (h : C st scope) : StAt W f i C := ⟨_, _, _, _, _, _, _, _, _, _, _, _, _, _, _, _, hK, hs, h⟩
theorem StAt.use {f : Addr} {i : Nat} {C : Stmt → Scope → Prop} {oc : Value} {od : Option Addr} {osl : Array (Option Value)} {name qual : PySem.Str} {params : Arguments} {body : List Stmt} {scope : Scope} {dV kV doc pm cdv ct : Value} {an : Option Addr} {st : Stmt} (h : StAt W f i C)
    (hK : W.K.lookup f = some ⟨oc, od, .func (fnX name qual params body scope [] dV kV doc pm an cdv ct), osl⟩) (hs : body[i]? = some st) : C st scope := by
  obtain ⟨_, _, _, _, _, _, body', scope', _, _, _, _, _, _, _, st', h1, h2, h3⟩ := h
  rw [hK] at h1
  have h1 := Option.some.inj h1
  have e : body = body' ∧ scope = scope' := by
    injection h1 with _ _ h1 _
    injection h1 with h1
    unfold fnX at h1
    injection h1 with h1
    refine ⟨?_, ?_⟩ <;> first | assumption | exact FuncBody.stmts.inj (by assumption)
  obtain ⟨rfl, rfl⟩ := e
  rw [hs] at h2
  have := Option.some.inj h2
  subst this
  exact h3
end
end
section
section
variable {W : Wd} {G : Fx} {k : Nat} {σ σ₁ σ₂ σ₃ σ' : St} {n : Nat}
theorem Ev.listE {es : List Expr} {xs : List MV} {pos : Pos} (h : Evs W G k es σ xs σ₁) (hz : xs.length ≤ 100000) (hr : σ₁.st.length = n) : Ev W G k (.List es pos) σ (.ref n) { σ₁ with st := σ₁.st ++ [.list xs] } := hr ▸ Ev.list h hz
theorem Ev.slice_litE {a : Addr} {v : Expr} {lo hi : Option Expr} {p pos : Pos} {ns : List Int} {ws : List MV} {l u : Option Int} (h : IsLit W a ns) (hv : Ev W G k v σ (.lit (.ref a)) σ₁) (hl : Evp W G k lo σ₁ l σ₂) (hh : Evp W G k hi σ₂ u σ₃) (hz : ns.length ≤ 100000)
    (hw : ∀ {h : Heap} {ρ : List Addr} {its : Array Value}, IntsAre its.toList ns → Fa2 (RV h ρ) ws (slicePick its l u none).toList) (hr : σ₃.st.length = n) (ht : ∀ o r, letTemporaryGo v o r = pure ()) :
    Ev W G k (.Subscript v (.Slice lo hi none p) pos) σ (.ref n) { σ₃ with st := σ₃.st ++ [.list ws] } := hr ▸ Ev.slice_lit h hv hl hh hz hw ht
theorem Ev.slice_listE {v : Expr} {lo hi : Option Expr} {p pos : Pos} {i : Nat} {vs ws : List MV} {l u : Option Int} (hv : Ev W G k v σ (.ref i) σ₁) (hl : Evp W G k lo σ₁ l σ₂) (hh : Evp W G k hi σ₂ u σ₃) (e : σ₃.st[i]? = some (.list vs)) (hz : vs.length ≤ 100000)
    (hw : ∀ {h : Heap} {ρ : List Addr} {its : Array Value}, Fa2 (RV h ρ) vs its.toList → Fa2 (RV h ρ) ws (slicePick its l u none).toList) (hr : σ₃.st.length = n) (ht : ∀ o r, letTemporaryGo v o r = pure ()) :
    Ev W G k (.Subscript v (.Slice lo hi none p) pos) σ (.ref n) { σ₃ with st := σ₃.st ++ [.list ws] } := hr ▸ Ev.slice_list hv hl hh e hz hw ht
theorem Op.add_listE {i j : Nat} {xs ys : List MV} (e1 : σ.st[i]? = some (.list xs)) (e2 : σ.st[j]? = some (.list ys)) (hz : xs.length + ys.length ≤ 100000) (hr : σ.st.length = n) :
    Op W G k (t2 (binaryOp .Add)) [.ref i, .ref j] σ (isV (.ref n)) { σ with st := σ.st ++ [.list (xs ++ ys)] } := hr ▸ Op.add_list e1 e2 hz
theorem Ev.compE {Gc : Fx} {target iter elt : Expr} {ifs : List Expr} {scope : Scope} {pos : Pos} {xs ys : List MV} {cel' : List (PySem.Str × Nat)} {P : St → Prop} {f : MV → Option MV}
    (hi : Ie W G k iter σ xs false P σ₁) (K : CompOk W G Gc k target ifs elt scope xs σ₁ cel' P f) (hcel0 : σ₁.cel = σ.cel) (hs : ∀ env : Env, env.scope = G.sc → ∀ x, foldedSetIterable iter env x = pure x) (hr : σ₁.st.length = n) (hy : xs.filterMap f = ys) :
    Ev W G k (.ListComp elt [⟨target, iter, ifs, 0⟩] scope pos) σ (.ref n) ⟨σ₁.loc, σ₁.cel, σ₁.st ++ [.list ys]⟩ := by
  subst hr hy
  exact Ev.comp hi K hcel0 hs
theorem Op.sorted_intsE {i : Nat} {ns ms : List Int} (e : σ.st[i]? = some (.list (ns.map .int))) (hp : ms.Perm ns) (hs : ms.Pairwise (· ≤ ·)) (h64 : ns.length < 64) (hr : σ.st.length = n) :
    Op W G k (fun _ l => call (.builtin "sorted") l) [.ref i] σ (isV (.ref n)) { σ with st := σ.st ++ [.list (ms.map .int)] } := hr ▸ Op.sorted_ints e hp hs h64
theorem Op.sorted_strsE {i : Nat} {ss ms : List PySem.Str} (e : σ.st[i]? = some (.list (ss.map .str))) (hu : ∀ ss', ss'.Perm ss → sortedS ss' = true → ss' = ms) (h64 : ss.length < 64) (hr : σ.st.length = n) :
    Op W G k (fun _ l => call (.builtin "sorted") l) [.ref i] σ (isV (.ref n)) { σ with st := σ.st ++ [.list (ms.map .str)] } := hr ▸ Op.sorted_strs e hu h64
theorem Op.list_strE {x : PySem.Str} (hz : x.cps.size ≤ 100000) (hr : σ.st.length = n) : Op W G k (fun _ l => call (.type "list") l) [.str x] σ (isV (.ref n)) { σ with st := σ.st ++ [.list (x.cps.toList.map fun c => .str ⟨#[c]⟩)] } := hr ▸ Op.list_str hz
theorem slice_tmp {prog : Program} {w : World} {A : Around} {E : Value → Shared → Prop} {s : Shared} {env : Env} {value : Expr} {lower upper : Option Expr} {p pos : Pos} {T id : String} {Q : Value → Shared → Prop}
    (hl : typeLookup (.type T) "__getitem__" = pure (some (.builtin id)))
    (h : wpAny (model prog w) A (eval value env) (fun o s₁ => wpAny (model prog w) A (eval (.Slice lower upper none p) env) (fun i s₂ => s₂.TypeIs o T ∧ wpAny (model prog w) A (getItem o i) Q E s₂) E s₁) E s) :
    wpAny (model prog w) A (eval (.Subscript value (.Slice lower upper none p) pos) env) Q E s := by
  rw [eval_Subscript]
  refine wpAny_bind (wpAny_mono h (fun o s₁ h₁ => ?_) fun _ _ x => x)
  refine wpAny_bind (wpAny_holding (wpAny_mono h₁ (fun i s₂ h₂ => ?_) fun _ _ x => x))
  obtain ⟨hT, hg⟩ := h₂
  have last : wpAny (model prog w) A (operate [i, o] (getItem o i)) (fun r s₃ => wpAny (model prog w) A (do letTemporaryGo value o r; pure r) Q E s₃) E s₂ :=
    wpAny_operating (wpAny_mono hg (fun r s₃ h₃ => wpAny_bind (wpAny_letTemporaryGo (wpAny_pure h₃))) fun _ _ x => x)
  refine wpAny_bind (wpAny_standAt ?_)
  refine wpAny_bind ?_
  rw [getitemInPython_of_ne hT.not_modules]
  refine wpAny_bind (wpAny_specialOf hT hl ?_)
  exact wpAny_pure (wpAny_bind last)
theorem Ev.slice_tmpE {v : Expr} {lo hi : Option Expr} {p pos : Pos} {i : Nat} {vs ws : List MV} {l u : Option Int} (hv : Ev W G k v σ (.ref i) σ₁) (hl : Evp W G k lo σ₁ l σ₂) (hh : Evp W G k hi σ₂ u σ₃) (e : σ₃.st[i]? = some (.list vs)) (hz : vs.length ≤ 100000)
    (hw : ∀ {h : Heap} {ρ : List Addr} {its : Array Value}, Fa2 (RV h ρ) vs its.toList → Fa2 (RV h ρ) ws (slicePick its l u none).toList) (hr : σ₃.st.length = n) :
    Ev W G k (.Subscript v (.Slice lo hi none p) pos) σ (.ref n) { σ₃ with st := σ₃.st ++ [.list ws] } := hr ▸ (Tr.mk fun C R hq => by
  refine slice_tmp list_getitem_lookup (hv.run C R fun a s₁ ρ₁ n₁ ra => wpAny_Slice (hl.run C n₁.rel fun b s₂ ρ₂ n₂ rb => hh.run C n₂.rel fun c s₃ ρ₃ n₃ rc => wpAny_pure ?_))
  obtain ⟨q1, rfl, rfl⟩ := rb
  obtain ⟨q2, rfl, rfl⟩ := rc
  obtain ⟨A, items, n, rfl, ha, hli, f⟩ := n₃.rel.list e ((ra.mono n₂.tk n₂.pre).mono n₃.tk n₃.pre)
  have n₄ := Nx.kept n₃.rel (t := s₃.toks) (h' := s₃.heap.push { cls := .type "slice", data := .fields #[partValue q1, partValue q2, .none] }) fun b o e => Heap.get?_push_of_some _ e
  refine ⟨(hli.isList.push _).typeIs (s := { s₃ with heap := s₃.heap.push { cls := .type "slice", data := .fields #[partValue q1, partValue q2, .none] } }), wpAny_getItem_list_slice (hli.isList.push _) (Heap.IsSliceOf.new ..) (isPart.part rfl) (isPart.part rfl) .none (by simp) ?_ (by rw [sizeLine_eq, f.size]; omega)⟩
  have nn := Nx.new n₄.rel (t := s₃.toks) (a := (s₃.heap.push { cls := .type "slice", data := .fields #[partValue q1, partValue q2, .none] }).objs.size) (x := .list ws) (h' := (s₃.heap.push { cls := .type "slice", data := .fields #[partValue q1, partValue q2, .none] }).push { cls := .type "list", data := .seq (slicePick items (q1.map (·.1)) (q2.map (·.1)) none) }) (fun b o e => Heap.get?_push_of_some _ e) (Mine.hnone _) (Heap.get?_push_size _ rfl)
    ⟨_, _, rfl, (hw f).mono fun _ _ q => q.mono (.of_keep fun b o e => Heap.get?_push_of_some _ (Heap.get?_push_of_some _ e)) (List.prefix_append _ _)⟩
  exact hq _ _ _ ((((n₁.trans n₂).trans n₃).trans n₄).trans nn) (ref_new nn))
theorem sub_tmp {prog : Program} {w : World} {A : Around} {E : Value → Shared → Prop} {s : Shared} {env : Env} {value slice : Expr} {pos : Pos} {T id : String} {Q : Value → Shared → Prop}
    (hl : typeLookup (.type T) "__getitem__" = pure (some (.builtin id))) (hs : ∀ o i', subscripted slice false o i' = operate [o, i'] (getItem o i'))
    (h : wpAny (model prog w) A (eval value env) (fun o s₁ => wpAny (model prog w) A (eval slice env) (fun i s₂ => s₂.TypeIs o T ∧ wpAny (model prog w) A (getItem o i) Q E s₂) E s₁) E s) :
    wpAny (model prog w) A (eval (.Subscript value slice pos) env) Q E s := by
  rw [eval_Subscript]
  refine wpAny_bind (wpAny_mono h (fun o s₁ h₁ => ?_) fun _ _ x => x)
  refine wpAny_bind (wpAny_holding (wpAny_mono h₁ (fun i s₂ h₂ => ?_) fun _ _ x => x))
  obtain ⟨hT, hg⟩ := h₂
  have last : wpAny (model prog w) A (operate [o, i] (getItem o i)) (fun r s₃ => wpAny (model prog w) A (do letTemporaryGo value o r; pure r) Q E s₃) E s₂ :=
    wpAny_operating (wpAny_mono hg (fun r s₃ h₃ => wpAny_bind (wpAny_letTemporaryGo (wpAny_pure h₃))) fun _ _ x => x)
  refine wpAny_bind (wpAny_standAt ?_)
  refine wpAny_bind ?_
  rw [getitemInPython_of_ne hT.not_modules]
  refine wpAny_bind (wpAny_specialOf hT hl ?_)
  exact wpAny_pure (by rw [hs]; exact wpAny_bind last)
theorem Ev.subT {v i : Expr} {pos : Pos} {x y z : MV} {T id : String} (hv : Ev W G k v σ x σ₁) (hi : Ev W G k i σ₁ y σ₂) (hT : TyOf x σ₂ T) (hl : typeLookup (.type T) "__getitem__" = pure (some (.builtin id))) (ho : Op W G k (t2 getItem) [x, y] σ₂ (isV z) σ₃)
    (hs : ∀ o i', subscripted i false o i' = operate [o, i'] (getItem o i')) : Ev W G k (.Subscript v i pos) σ z σ₃ := Tr.mk fun C R hq =>
  sub_tmp hl hs (hv.run C R fun a s₁ ρ₁ n₁ ra => hi.run C n₁.rel fun b s₂ ρ₂ n₂ rb => ⟨hT.run n₂.rel (ra.mono n₂.tk n₂.pre), ho.run C n₂.rel (vs := [a, b]) (.cons (ra.mono n₂.tk n₂.pre) (.one rb)) fun c s₃ ρ₃ n₃ rc => hq _ _ _ ((n₁.trans n₂).trans n₃) rc⟩)
theorem Ev.slice_strT {v : Expr} {lo hi : Option Expr} {p pos : Pos} {x : PySem.Str} {l u : Option Int} (hv : Ev W G k v σ (.str x) σ₁) (hl : Evp W G k lo σ₁ l σ₂) (hh : Evp W G k hi σ₂ u σ₃) (hz : x.length ≤ 100000) :
    Ev W G k (.Subscript v (.Slice lo hi none p) pos) σ (.str (Txt.slice x l u)) σ₃ := Tr.mk fun C R hq => by
  refine slice_tmp PySem.F.slot_str_getitem.lookup (hv.run C R fun a s₁ ρ₁ n₁ ra => wpAny_Slice (hl.run C n₁.rel fun b s₂ ρ₂ n₂ rb => hh.run C n₂.rel fun c s₃ ρ₃ n₃ rc => wpAny_pure ⟨?_, ?_⟩))
  · obtain ⟨t, rfl⟩ := ra; exact typeIs_str _ _ _
  · obtain ⟨t, rfl⟩ := ra
    obtain ⟨q1, rfl, rfl⟩ := rb
    obtain ⟨q2, rfl, rfl⟩ := rc
    refine wpAny_getItem_str_slice (l := q1) (u := q2) (st := Option.none) ⟨_, Heap.get?_push_size _ rfl, rfl, rfl⟩ rfl (post_val_or_str ⟨Nat.le_trans (Txt.slice_le x _ _) (by rw [sizeLine_eq]; omega), fun t' kk => ?_⟩)
    exact hq _ _ _ (((n₁.trans n₂).trans n₃).trans (Nx.kept n₃.rel fun b o e => Heap.get?_push_of_some _ e)) ⟨_, rfl⟩
theorem cel2 {x y : PySem.Str} {n : Nat} (h : 2 ≤ n) : ∀ p ∈ [(x, 0), (y, 1)], p.2 < n := by
  intro p hp
  rcases List.mem_cons.mp hp with rfl | hp
  · exact Nat.lt_of_lt_of_le (by decide : 0 < 2) h
  · rw [List.mem_singleton.mp hp]; exact Nat.lt_of_lt_of_le (by decide : 1 < 2) h
theorem low_lit {v : Value} {n : Nat} : (MV.lit v).low n := trivial
theorem lookK {x : PySem.Str} {l : List (PySem.Str × NameKind)} {v u : NameKind} (h : l.lookup x = some u) (e : u = v) : l.lookup x = some v := e ▸ h
theorem lookLen {l : List MO} {n m : Nat} (h : l.length = m) (e : m = n) : l.length = n := h.trans e
end
local macro_rules | `(tactic| boot_by_name) => `(tactic| first
  | exact lookM (Eq.refl (some _)) rfl | exact lookL (Eq.refl (some _)) rfl | exact lookN (Eq.refl (some _)) rfl | exact lookK (Eq.refl (some _)) rfl
  | exact lookLen rfl rfl
  | exact Evp.none | refine' Evp.some ?_
  | exact (rfl : (_ : List (PySem.Str × MV)) = _)
  | exact (rfl : (_ : List (PySem.Str × Nat)) = _)
  | exact (rfl : (_ : List MO) = _)
  | refine' Ev.neg ?_)
local macro_rules | `(tactic| boot_by_name) => `(tactic| first
  | exact Ev.builtin rfl (nsIn_ext (K := hd.heap_39 _) (by k_is)) (by boot_by_name) (by decide) rfl)
section
variable {w : World} {k : Nat}
def padI : List Int := [1, 0, 0, 1, 0, 0]
def drawsI (ns : List Int) : List Int := ns.take 6 ++ padI.drop (ns.take 6).length
theorem take_ints {h : Heap} {ρ : List Addr} {its : Array Value} {ns : List Int} (hi : IntsAre its.toList ns) : Fa2 (RV h ρ) ((ns.take 6).map MV.int) (slicePick its none (some 6) none).toList := by
  rw [slicePick_upto (by decide), List.map_take]
  exact (ints_back hi).take 6
theorem st0 {a : Addr} {o : Obj} {ns : List Int} (hlit : IsLit (WX (ww w) a o) a ns) (hn : ns.length ≤ 100000) : StAt (ww w) 251 0 (fun s sc => Ex (WX (ww w) a o) ⟨sc, true⟩ (k + 10) s ⟨[("script", .lit (.ref a))], [("draws", 0), ("balls", 1)], [.cell none, .cell none]⟩ .next
    ⟨[("script", .lit (.ref a))], [("draws", 0), ("balls", 1)], [.cell (some (.ref 6)), .cell none, .list ((ns.take 6).map MV.int), .list (padI.map MV.int), .list ((ns.take 6).map MV.int), .list ((padI.drop (ns.take 6).length).map MV.int), .list ((drawsI ns).map MV.int)]⟩) := by
  refine' StAt.mk' (by show List.lookup 251 (hd.heap_39 w.params) = some _; k_is) rfl ?_
  have hsz : (ns.take 6).length ≤ 6 := List.length_take_le _ _
  refine' Ex.stE (Ex.assignC (i := 0) (v₀ := none) (v := .ref 6) (Ev.binop (x := .ref 2) (y := .ref 5) (Ev.slice_litE (ns := ns) (l := none) (u := some 6) (ws := (ns.take 6).map MV.int) hlit ?_ ?_ ?_ hn take_ints ?_ ?_) (Ev.slice_tmpE (i := 3) (vs := padI.map MV.int) (ws := (padI.drop (ns.take 6).length).map MV.int) (l := some (((ns.take 6).map MV.int).length : Nat)) (u := none) (Ev.listE (xs := padI.map MV.int) ?_ ?_ ?_) (Evp.some (Ev.call (xs := [.ref 4]) ?_ (Evs.cons (Ev.slice_litE (ns := ns) (l := none) (u := some 6) (ws := (ns.take 6).map MV.int) hlit ?_ ?_ ?_ hn take_ints ?_ ?_) ?_ ?_) ?_ ?_ (Oc.op (Op.len_list (vs := (ns.take 6).map MV.int) ?_ ?_)) ?_ ?_)) ?_ ?_ ?_ ?_ ?_) (Op.add_listE (xs := (ns.take 6).map MV.int) (ys := (padI.drop (ns.take 6).length).map MV.int) ?_ ?_ ?_ ?_)) ?_ ?_ ?_ ?_) ?_ ?_ ?_
  all_goals (try (repeat' boot_by_name))
  · show 6 ≤ 100000; decide
  · rw [List.length_map]; omega
  · show 6 ≤ 100000; decide
  · intro h ρ its f
    rw [slicePick_from (by omega), List.map_drop]
    have : (((ns.take 6).map MV.int).length : Int).toNat = (ns.take 6).length := by rw [List.length_map]; omega
    rw [this]
    exact f.drop _
  · rw [List.length_map, List.length_map, List.length_drop]
    have : padI.length = 6 := rfl
    omega
  · show [_, _, _, _, _, _, MO.list _] = _
    unfold drawsI
    rw [List.map_append]
end
end
section
local macro_rules | `(tactic| boot_by_name) => `(tactic| first
  | exact Op.eq_str
  | exact lookM (Eq.refl (some _)) rfl | exact lookL (Eq.refl (some _)) rfl | exact lookN (Eq.refl (some _)) rfl | exact lookK (Eq.refl (some _)) rfl
  | exact lookLen rfl rfl
  | exact Evp.none | refine' Evp.some ?_
  | exact (rfl : (_ : List (PySem.Str × MV)) = _)
  | exact (rfl : (_ : List (PySem.Str × Nat)) = _)
  | exact (rfl : (_ : List MO) = _)
  | exact fun _ _ _ => rfl
  | exact (rfl : (_ : Bool) = false)
  | refine' Ev.neg ?_)
section
variable {w : World} {k : Nat}
def parB (D : List Int) : List Bool := D.map fun d => d.fmod 2 == 1
def dressV : List MV := [.str "\\)", .str "\"(\"", .str "", .str "\\\\", .str "\\\""]
theorem fmI (f : MV → Option MV) (f' : Nat → Option Nat) : ∀ (l : List Nat), (∀ a ∈ l, f (.int (a : Nat)) = (f' a).map fun (b : Nat) => MV.int b) → (intsV l).filterMap f = intsV (l.filterMap f')
  | [], _ => rfl
  | a :: l, h => by
    have ih := fmI f f' l fun a h' => h a (.tail _ h')
    show ((MV.int (a : Nat)) :: intsV l).filterMap f = _
    rw [List.filterMap_cons, List.filterMap_cons, h a (.head _), ih]
    cases f' a with
    | none => rfl
    | some b => rfl
theorem clos1 {nm : PySem.Str} {i : Nat} {a b : PySem.Str} {more : List (PySem.Str × Const)} (env : Env) (g : PySem.Str → Addr) (hg : ∀ p ∈ [(nm, i)], env.cells.lookup p.1 = some (g p.1)) : closureFor ⟨.function, [(a, .local), (b, .local), (nm, .free)], false, false, more⟩ env = pure ([(nm, i)].map fun p => (p.1, g p.1)) := by
  have := hg _ (.head _)
  dsimp only at this
  have hc : cellOf env nm = pure (g nm) := by unfold cellOf; rw [this]
  unfold closureFor
  simp only [List.forIn_cons, List.forIn_nil, show (NameKind.local == NameKind.free) = false from rfl, show (NameKind.free == NameKind.free) = true from rfl, hc, if_true, if_false, Bool.false_eq_true]
  rfl
theorem cell3 {a b c : PySem.Str} {u v x : NameKind} (h1 : u ≠ .cell) (h2 : v ≠ .cell) (h3 : x ≠ .cell) : ∀ y ∈ [(a, u), (b, v), (c, x)], y.2 ≠ .cell := by
  intro y hy
  rcases List.mem_cons.mp hy with rfl | hy
  · exact h1
  rcases List.mem_cons.mp hy with rfl | hy
  · exact h2
  rcases List.mem_cons.mp hy with rfl | hy
  · exact h3
  cases hy
theorem names3 {a b c : PySem.Str} (h1 : [(a, NameKind.local), (b, NameKind.local), (c, NameKind.free)].lookup a = some .local) (h2 : [(a, NameKind.local), (b, NameKind.local), (c, NameKind.free)].lookup b = some .local) : ∀ y ∈ [(a, NameKind.local), (b, NameKind.local), (c, NameKind.free)], y.2 = .local → [(a, NameKind.local), (b, NameKind.local), (c, NameKind.free)].lookup y.1 = some .local := by
  intro y hy q
  rcases List.mem_cons.mp hy with rfl | hy
  · exact h1
  rcases List.mem_cons.mp hy with rfl | hy
  · exact h2
  rcases List.mem_cons.mp hy with rfl | hy
  · cases q
  cases hy
theorem parB_get {D : List Int} {j : Nat} {y : Int} (h : D[j]? = some y) : (parB D).getD j false = (y.fmod 2 == 1) := by
  unfold parB
  rw [List.getD_eq_getElem?_getD, List.getElem?_map, h]; rfl
variable {a : Addr} {D ns : List Int} {B T : List Nat} {m n o : Nat} {x0 x1 x2 x3 x4 x5 x6 x7 x8 : MO}
theorem st1 (hD : D.length = 6) (hB : ballsOf (parB D) = 0 :: T) : StAt (ww w) 251 1 (fun s sc => Ex (ww w) ⟨sc, true⟩ (k + 10) s ⟨[("script", .lit (.ref a))], [("draws", 0), ("balls", 1)], [.cell (some (.ref 6)), .cell none, x2, x3, x4, x5, .list (D.map MV.int)]⟩ .next ⟨[("script", .lit (.ref a))], [("draws", 0), ("balls", 1)], [.cell (some (.ref 6)), .cell (some (.ref 9)), x2, x3, x4, x5, .list (D.map MV.int), .list [.int 0], .list (intsV T), .list (intsV (0 :: T))]⟩) := by
  refine' StAt.mk' (by show List.lookup 251 (hd.heap_39 w.params) = some _; k_is) rfl ?_
  have hT : (intsV (List.range 6)).filterMap (fun v => match v with | .at (.int j) => if (parB D).getD j.toNat false then some (MV.int (j + 1)) else none | _ => none) = intsV T := by
    have e : T = (List.range 6).filterMap fun k => if (parB D).getD k false then some (k + 1) else none := by
      have := hB; unfold ballsOf at this; injection this with _ h; exact h.symm
    rw [e]
    refine fmI _ _ _ fun j _ => ?_
    show (if (parB D).getD j false = true then _ else _) = _
    split <;> rfl
  refine' Ex.stE (Ex.assignC (i := 1) (v₀ := none) (v := .ref 9) (Ev.binop (x := .ref 7) (y := .ref 8) (Ev.listE (xs := [.int 0]) ?_ ?_ ?_) (Ev.compE (cel' := [("draws", 0)]) (f := fun v => match v with | .at (.int j) => if (parB D).getD j.toNat false then some (MV.int (j + 1)) else none | _ => none) (ys := intsV T) (Ie.up0 (n := 6) (Tr.call (xs := [.int 6]) ?_ (Evs.cons ?_ ?_ ?_) ?_ ?_ Oc.range1 ?_ ?_) rfl (by decide)) ⟨rfl, ?_, clos1, rfl, cell3 (by simp) (by simp) (by simp), names3 rfl rfl, ⟨fun loc => loc = [] ∨ ∃ u : MV, loc = [(("k" : PySem.Str), u)], fun v => [("k", v)], .inl rfl, ?_⟩, fun _ => trivial, ?_⟩ ?_ ?_ ?_ hT) (Op.add_listE (xs := [.int 0]) (ys := intsV T) ?_ ?_ ?_ ?_)) ?_ ?_ ?_ ?_) ?_ ?_ ?_
  all_goals (try (repeat' boot_by_name))
  · show 1 ≤ 100000; decide
  · intro p hp; rw [List.mem_singleton.mp hp]; rfl
  · intro y hy
    obtain ⟨j, hj, rfl⟩ := List.mem_map.mp hy
    have hj6 := List.mem_range.mp hj
    refine ⟨.inr ⟨_, rfl⟩, fun loc st hok => comp_name rfl loc st hok, fun ys _ => ?_⟩
    obtain ⟨z, hz⟩ : ∃ z, D[j]? = some z := ⟨_, List.getElem?_eq_getElem (by omega)⟩
    have hp := parB_get hz
    by_cases q : (z.fmod 2 == 1) = true
    · have e : (fun v : MV => match v with | .at (.int j) => if (parB D).getD j.toNat false then some (MV.int (j + 1)) else none | _ => none) (.int (j : Nat)) = some (MV.int ((j : Int) + 1)) := by
        show (if (parB D).getD j false = true then _ else _) = _
        rw [hp, if_pos q]
      show CT _ _ _ _ _ _ ((fun v : MV => match v with | .at (.int j) => if (parB D).getD j.toNat false then some (MV.int (j + 1)) else none | _ => none) (.int (j : Nat)))
      rw [e]
      refine' .yes (Et.eq (b := (z.fmod 2 == 1)) (Et.cmp (Ev.binop (Ev.sub (Ev.cell (i := 0) rfl rfl rfl rfl) (Ev.local rfl rfl rfl) (TyOf.list (vs := D.map MV.int) ?_) PySem.F.slot_list_getitem.lookup (Op.item (vs := D.map MV.int) (j := (j : Nat)) ?_ ?_ ?_ (lst hz)) ?_ ?_) ?_ (Op.mod ?_)) ?_ Op.eq rfl) q) ?_
      all_goals (try (repeat' boot_by_name))
      all_goals first | omega | decide
    · have e : (fun v : MV => match v with | .at (.int j) => if (parB D).getD j.toNat false then some (MV.int (j + 1)) else none | _ => none) (.int (j : Nat)) = none := by
        show (if (parB D).getD j false = true then _ else _) = _
        rw [hp, if_neg q]
      show CT _ _ _ _ _ _ ((fun v : MV => match v with | .at (.int j) => if (parB D).getD j.toNat false then some (MV.int (j + 1)) else none | _ => none) (.int (j : Nat)))
      rw [e]
      refine' .no (Et.eq (b := (z.fmod 2 == 1)) (Et.cmp (Ev.binop (Ev.sub (Ev.cell (i := 0) rfl rfl rfl rfl) (Ev.local rfl rfl rfl) (TyOf.list (vs := D.map MV.int) ?_) PySem.F.slot_list_getitem.lookup (Op.item (vs := D.map MV.int) (j := (j : Nat)) ?_ ?_ ?_ (lst hz)) ?_ ?_) ?_ (Op.mod ?_)) ?_ Op.eq rfl) (Bool.eq_false_iff.mpr q))
      all_goals (try (repeat' boot_by_name))
      all_goals first | omega | decide
  · show (intsV (List.range 6)).length ≤ 100000; decide
  · have hTl : T.length ≤ 6 := by
      have := hB; unfold ballsOf at this; injection this with _ h; rw [← h]
      exact List.length_filterMap_le _ _
    rw [intsV_len]; show 1 + T.length ≤ 100000; omega
theorem st2 (hm : B.length = m) (hm7 : m ≤ 7)(hx : x2 = x2) : StAt (ww w) 251 2 (fun s sc => Ex (ww w) ⟨sc, true⟩ (k + 10) s ⟨[("script", .lit (.ref a))], [("draws", 0), ("balls", 1)], [.cell (some (.ref 6)), .cell (some (.ref 9)), x2, x3, x4, x5, x6, x7, x8, .list (intsV B)]⟩ .next ⟨[("script", .lit (.ref a)), ("many", .int m)], [("draws", 0), ("balls", 1)], [.cell (some (.ref 6)), .cell (some (.ref 9)), x2, x3, x4, x5, x6, x7, x8, .list (intsV B)]⟩) := by
  refine' StAt.mk' (by show List.lookup 251 (hd.heap_39 w.params) = some _; k_is) rfl ?_
  refine' Ex.stE (Ex.assign (v := .int m) (Ev.eq (v := .int (intsV B).length) (Ev.call (xs := [.ref 9]) ?_ (Evs.cons (Ev.cell (i := 1) ?_ ?_ ?_ ?_) ?_ ?_) ?_ ?_ (Oc.op (Op.len_list (vs := intsV B) ?_ ?_)) ?_ ?_) ?_) ?_ ?_) ?_ ?_ ?_
  all_goals (try (repeat' boot_by_name))
  · rw [intsV_len]; omega
  · exact congrArg (fun n : Nat => MV.int n) ((intsV_len B).trans hm)
theorem st3 (hm7 : m ≤ 7) : StAt (ww w) 251 3 (fun s sc => Ex (ww w) ⟨sc, true⟩ (k + 10) s ⟨[("script", .lit (.ref a)), ("many", .int m)], [("draws", 0), ("balls", 1)], [.cell (some (.ref 6)), .cell (some (.ref 9)), x2, x3, x4, x5, x6, x7, x8, .list (intsV B)]⟩ .next ⟨[("script", .lit (.ref a)), ("many", .int m), ("cells", .int (7 + 3 * m : Nat))], [("draws", 0), ("balls", 1)], [.cell (some (.ref 6)), .cell (some (.ref 9)), x2, x3, x4, x5, x6, x7, x8, .list (intsV B)]⟩) := by
  refine' StAt.mk' (by show List.lookup 251 (hd.heap_39 w.params) = some _; k_is) rfl ?_
  refine' Ex.stE (Ex.assign (v := .int (7 + 3 * m : Nat)) (Ev.eq (v := .int (7 + 3 * (m : Int))) (Ev.binop ?_ (Ev.binop ?_ ?_ (Op.mul ?_)) Op.add) ?_) ?_ ?_) ?_ ?_ ?_
  all_goals (try (repeat' boot_by_name))
  · exact IntMulOk.of_left (by decide)
  · exact congrArg MV.int (by omega)
theorem st5 (hm7 : m ≤ 7) : StAt (ww w) 251 5 (fun s sc => Ex (ww w) ⟨sc, true⟩ (k + 10) s ⟨[("script", .lit (.ref a)), ("many", .int m), ("cells", .int n), ("order", .int o)], [("draws", 0), ("balls", 1)], [.cell (some (.ref 6)), .cell (some (.ref 9)), x2, x3, x4, x5, x6, x7, x8, .list (intsV B)]⟩ .next ⟨[("script", .lit (.ref a)), ("many", .int m), ("cells", .int n), ("order", .int o), ("dress", .ref 10)], [("draws", 0), ("balls", 1)], [.cell (some (.ref 6)), .cell (some (.ref 9)), x2, x3, x4, x5, x6, x7, x8, .list (intsV B), .list dressV]⟩) := by
  refine' StAt.mk' (by show List.lookup 251 (hd.heap_39 w.params) = some _; k_is) rfl ?_
  refine' Ex.stE (Ex.assign (v := .ref 10) (Ev.listE (xs := dressV) ?_ ?_ ?_) ?_ ?_) ?_ ?_ ?_
  all_goals (try (repeat' boot_by_name))
  · show 5 ≤ 100000; decide
theorem st6 (hn : n ≤ 28) : StAt (ww w) 251 6 (fun s sc => Ex (ww w) ⟨sc, true⟩ (k + 10) s ⟨[("script", .lit (.ref a)), ("many", .int m), ("cells", .int n), ("order", .int o), ("dress", .ref 10)], [("draws", 0), ("balls", 1)], [.cell (some (.ref 6)), .cell (some (.ref 9)), x2, x3, x4, x5, x6, x7, x8, .list (intsV B), x0]⟩ .next ⟨[("script", .lit (.ref a)), ("many", .int m), ("cells", .int n), ("order", .int o), ("dress", .ref 10), ("free", .ref 11)], [("draws", 0), ("balls", 1)], [.cell (some (.ref 6)), .cell (some (.ref 9)), x2, x3, x4, x5, x6, x7, x8, .list (intsV B), x0, .list (intsV (freeOf n B))]⟩) := by
  refine' StAt.mk' (by show List.lookup 251 (hd.heap_39 w.params) = some _; k_is) rfl ?_
  have hF : (intsV (List.range n)).filterMap (fun v => match v with | .at (.int j) => if B.any (· == j.toNat) then none else some (MV.int j) | _ => none) = intsV (freeOf n B) := by
    have e : freeOf n B = (List.range n).filterMap fun k => if B.any (· == k) then none else some k := by
      unfold freeOf
      generalize List.range n = l
      induction l with
      | nil => rfl
      | cons c l ih =>
        rw [List.filter_cons, List.filterMap_cons, ih]
        cases B.any (· == c) <;> rfl
    rw [e]
    refine fmI _ _ _ fun j _ => ?_
    show (if B.any (· == j) = true then _ else _) = _
    split <;> rfl
  refine' Ex.stE (Ex.assign_comp (cel' := [("balls", 1)]) (f := fun v => match v with | .at (.int j) => if B.any (· == j.toNat) then none else some (MV.int j) | _ => none) (Ie.up0 (n := n) (Tr.call (xs := [.int n]) ?_ (Evs.cons ?_ ?_ ?_) ?_ ?_ Oc.range1 ?_ ?_) rfl (by omega)) ⟨rfl, ?_, clos1, rfl, cell3 (by simp) (by simp) (by simp), names3 rfl rfl, ⟨fun loc => loc = [] ∨ ∃ u : MV, loc = [(("k" : PySem.Str), u)], fun v => [("k", v)], .inl rfl, ?_⟩, fun _ => trivial, ?_⟩ ?_ ?_ ?_ ?_) ?_ ?_ ?_
  all_goals (try (repeat' boot_by_name))
  · intro p hp; rw [List.mem_singleton.mp hp]; rfl
  · intro y hy
    obtain ⟨j, hj, rfl⟩ := List.mem_map.mp hy
    have hjn := List.mem_range.mp hj
    refine ⟨.inr ⟨_, rfl⟩, fun loc st hok => comp_name rfl loc st hok, fun ys _ => ?_⟩
    have hB9 : ([.cell (some (.ref 6)), .cell (some (.ref 9)), x2, x3, x4, x5, x6, x7, x8, .list (intsV B), x0] ++ [.list ys] : List MO)[9]? = some (.list ((B.map fun (a : Nat) => (a : Int)).map MV.int)) := by rw [← intsV_ints]; rfl
    have hany := any_cast B j
    by_cases q : B.any (· == j) = true
    · have e : (fun v : MV => match v with | .at (.int j) => if B.any (· == j.toNat) then none else some (MV.int j) | _ => none) (.int (j : Nat)) = none := by
        show (if B.any (· == j) = true then _ else _) = _
        rw [if_pos q]
      show CT _ _ _ _ _ _ ((fun v : MV => match v with | .at (.int j) => if B.any (· == j.toNat) then none else some (MV.int j) | _ => none) (.int (j : Nat)))
      rw [e]
      refine' .no (Et.eq (b := !((B.map fun (a : Nat) => (a : Int)).any (· == (j : Int)))) (Et.cmp (Ev.local rfl rfl rfl) (Ev.cell (i := 1) rfl rfl rfl rfl) (Op.notIn_ints hB9) rfl) (by rw [hany, q]; rfl))
    · have e : (fun v : MV => match v with | .at (.int j) => if B.any (· == j.toNat) then none else some (MV.int j) | _ => none) (.int (j : Nat)) = some (.int (j : Nat)) := by
        show (if B.any (· == j) = true then _ else _) = _
        rw [if_neg q]
      show CT _ _ _ _ _ _ ((fun v : MV => match v with | .at (.int j) => if B.any (· == j.toNat) then none else some (MV.int j) | _ => none) (.int (j : Nat)))
      rw [e]
      refine' .yes (Et.eq (b := !((B.map fun (a : Nat) => (a : Int)).any (· == (j : Int)))) (Et.cmp (Ev.local rfl rfl rfl) (Ev.cell (i := 1) rfl rfl rfl rfl) (Op.notIn_ints hB9) rfl) (by rw [hany, Bool.eq_false_iff.mpr q]; rfl)) (Ev.local rfl rfl rfl)
  · rw [intsV_len, List.length_range]; omega
  · intro env h
    show pure (env.blockKind == .function && env.kindOf _ == some .local && _ && _) = (pure true : Sem Bool)
    unfold Env.blockKind Env.kindOf
    rw [h]; rfl
  · show _ ++ [MO.list (List.filterMap _ _)] = _
    rw [hF]; rfl
end
end
section
local macro_rules | `(tactic| boot_by_name) => `(tactic| first
  | exact Op.eq_str
  | exact lookM (Eq.refl (some _)) rfl | exact lookL (Eq.refl (some _)) rfl | exact lookN (Eq.refl (some _)) rfl | exact lookK (Eq.refl (some _)) rfl
  | exact lookLen rfl rfl
  | exact Evp.none | refine' Evp.some ?_
  | exact (rfl : (_ : List (PySem.Str × MV)) = _)
  | exact (rfl : (_ : List (PySem.Str × Nat)) = _)
  | exact (rfl : (_ : List MO) = _)
  | exact fun _ _ _ => rfl
  | exact (rfl : (_ : Bool) = false)
  | exact (HdAt.mk rfl rfl rfl)
  | refine' Ev.neg ?_)
section
section
variable {w : World} {k : Nat} {a : Addr} {o' : Obj} {ns : List Int} {B T rs : List Nat} {m n o : Nat} {R0 : List (Nat × Nat)} {d : PySem.Str} {x0 x1 x2 x3 x4 x5 x6 x7 x8 x15 : MO}
theorem Oc.clsE {W : Wd} {G : Fx} {k : Nat} {σ : St} {n : Nat} {C fI : Addr} {st' : List MO} (hfn : G.fn = true) (hm : makesIn W.K C = true) (hi : findIn W.K (.ref C) "__init__" = some (some (.ref fI))) (hf : isFn W.K (.ref fI) = true) (hr : σ.st.length = n)
    (hc : Ec W k fI [.ref (n + 1)] [] (σ.st ++ [.dict [], .inst C n]) .none st') : Oc W G (k + 1) (.ref C) [] [] σ (.ref (n + 1)) { σ with st := st' } := by
  subst hr
  exact Oc.cls hfn hm hi hf hc
theorem abc7 : ∀ j, j < 7 → ("abcdefg" : PySem.Str).cps[j]? = some (97 + j) := by decide +kernel
theorem st4 (hlit : IsLit (WX (ww w) a o') a ns) (ho : (o : Int) = ns.sum.fmod 5040) : StAt (ww w) 251 4 (fun s sc => Ex (WX (ww w) a o') ⟨sc, true⟩ (k + 10) s ⟨[("script", .lit (.ref a)), ("many", .int m), ("cells", .int n)], [("draws", 0), ("balls", 1)], [.cell (some (.ref 6)), .cell (some (.ref 9)), x2, x3, x4, x5, x6, x7, x8, .list (intsV B)]⟩ .next ⟨[("script", .lit (.ref a)), ("many", .int m), ("cells", .int n), ("order", .int o)], [("draws", 0), ("balls", 1)], [.cell (some (.ref 6)), .cell (some (.ref 9)), x2, x3, x4, x5, x6, x7, x8, .list (intsV B)]⟩) := by
  refine' StAt.mk' (by show List.lookup 251 (hd.heap_39 w.params) = some _; k_is) rfl ?_
  have hb : ∀ {G : Fx} {σ : St} {p : Pos} {x : PySem.Str} {v : Value}, G.sc.names.lookup x = some .globalImplicit → nsIn (hd.heap_39 w.params) mainGlobals x = some none → bootBuiltins x = some v → x ≠ "__name__" → (x == ("__debug__" : PySem.Str)) = false → Ev (WX (ww w) a o') G (k + 10) (.Name x p) σ (.lit v) σ := fun h1 h2 h3 h4 h5 => Ev.builtin h1 (nsIn_ext h2) h3 h4 h5
  refine' Ex.stE (Ex.assign (v := .int o) (Ev.eq (v := .int (ns.sum.fmod 5040)) (Ev.binop (Ev.call (xs := [.lit (.ref a)]) (hb rfl (by k_is) (by boot_by_name) (by decide) rfl) (Evs.cons ?_ ?_ ?_) ?_ ?_ (Oc.op (Op.sum_lit hlit)) ?_ ?_) ?_ (Op.mod ?_)) ?_) ?_ ?_) ?_ ?_ ?_
  all_goals (try (repeat' boot_by_name))
  · decide
  · exact congrArg MV.int ho.symm
theorem st7 (hx : x2 = x2) : StAt (ww w) 251 7 (fun s sc => Ex (ww w) ⟨sc, true⟩ (k + 10) s ⟨[("script", .lit (.ref a)), ("many", .int m), ("cells", .int n), ("order", .int o), ("dress", .ref 10), ("free", .ref 11)], [("draws", 0), ("balls", 1)], [.cell (some (.ref 6)), .cell (some (.ref 9)), x2, x3, x4, x5, x6, x7, x8, .list (intsV B), .list dressV, .list (intsV (freeOf n B))]⟩ .next ⟨[("script", .lit (.ref a)), ("many", .int m), ("cells", .int n), ("order", .int o), ("dress", .ref 10), ("free", .ref 11), ("table", .ref 13)], [("draws", 0), ("balls", 1)], [.cell (some (.ref 6)), .cell (some (.ref 9)), x2, x3, x4, x5, x6, x7, x8, .list (intsV B), .list dressV, .list (intsV (freeOf n B)), .dict [("_headers", .ref 14)], .inst 223 12, hdL ([])]⟩) := by
  refine' StAt.mk' (by show List.lookup 251 (hd.heap_39 w.params) = some _; k_is) rfl ?_
  refine' Ex.stE (Ex.assign (v := .ref 13) (Ev.call (xs := []) ?_ ?_ ?_ ?_ (Oc.clsE (σ := ⟨[("script", .lit (.ref a)), ("many", .int m), ("cells", .int n), ("order", .int o), ("dress", .ref 10), ("free", .ref 11)], [("draws", 0), ("balls", 1)], [.cell (some (.ref 6)), .cell (some (.ref 9)), x2, x3, x4, x5, x6, x7, x8, .list (intsV B), .list dressV, .list (intsV (freeOf n B))]⟩) (n := 12) (C := 223) (fI := 115) rfl (by show makesIn (hd.heap_39 w.params) _ = true; k_is) (by show findIn (hd.heap_39 w.params) _ _ = some _; k_is) (by show isFn (hd.heap_39 w.params) _ = true; k_is) rfl (hinit (i := 13) (d := 12) rfl rfl)) ?_ ?_) ?_ ?_) ?_ ?_ ?_
  all_goals (try (repeat' boot_by_name))
theorem st8 (hm : B.length = m) (hm7 : m ≤ 7) (h28 : ∀ b ∈ B, b < 28) : StAt (ww w) 251 8 (fun s sc => Ex (ww w) ⟨sc, true⟩ (k + 10) s ⟨[("script", .lit (.ref a)), ("many", .int m), ("cells", .int n), ("order", .int o), ("dress", .ref 10), ("free", .ref 11), ("table", .ref 13)], [("draws", 0), ("balls", 1)], [.cell (some (.ref 6)), .cell (some (.ref 9)), x2, x3, x4, x5, x6, x7, x8, .list (intsV B), .list dressV, .list (intsV (freeOf n B)), .dict [("_headers", .ref 14)], .inst 223 12, hdL ([])]⟩ .next ⟨[("script", .lit (.ref a)), ("many", .int m), ("cells", .int n), ("order", .int o), ("dress", .ref 10), ("free", .ref 11), ("table", .ref 13)], [("draws", 0), ("balls", 1)], [.cell (some (.ref 6)), .cell (some (.ref 9)), x2, x3, x4, x5, x6, x7, x8, .list (intsV B), .list dressV, .list (intsV (freeOf n B)), .dict [("_headers", .ref 14)], .inst 223 12, hdL (tab false ((List.range m).zip B) [])]⟩) := by
  refine' StAt.mk' (by show List.lookup 251 (hd.heap_39 w.params) = some _; k_is) rfl ?_
  have hzl : ((List.range m).zip B).length = m := by rw [List.length_zip, List.length_range]; omega
  refine' Ex.forP (Ie.up0 (n := m) (Tr.call (xs := [.int m]) ?_ (Evs.cons ?_ ?_ ?_) ?_ ?_ Oc.range1 ?_ ?_) rfl (by omega)) (LpP.inv (fun (a : Nat) => MV.int a) (fun l τ => ∃ j, l = List.range' j (m - j) ∧ j ≤ m ∧ τ = ⟨[("script", .lit (.ref a)), ("many", .int m), ("cells", .int n), ("order", .int o), ("dress", .ref 10), ("free", .ref 11), ("table", .ref 13)], [("draws", 0), ("balls", 1)], [.cell (some (.ref 6)), .cell (some (.ref 9)), x2, x3, x4, x5, x6, x7, x8, .list (intsV B), .list dressV, .list (intsV (freeOf n B)), .dict [("_headers", .ref 14)], .inst 223 12, hdL (tab false (((List.range m).zip B).take j) [])]⟩) ?_ ?_ ?_ ⟨0, ?_, Nat.zero_le _, rfl⟩) fun _ _ _ => rfl
  all_goals (try (repeat' boot_by_name))
  · exact fun _ _ _ => trivial
  · rintro τ ⟨j, e, hj, rfl⟩
    have : j = m := by
      have := congrArg List.length e
      rw [List.length_range'] at this
      simp at this
      omega
    subst this
    refine ⟨rfl, ?_⟩
    rw [List.take_of_length_le (by omega)]
  · rintro x l τ ⟨j, e, hj, rfl⟩
    obtain ⟨r, hr⟩ : ∃ r, m - j = r + 1 := by
      cases q : m - j with
      | zero => rw [q] at e; cases e
      | succ r => exact ⟨r, rfl⟩
    rw [hr, List.range'_succ] at e
    injection e with e1 e2
    subst e1 e2
    obtain ⟨b, hb⟩ : ∃ b, B[x]? = some b := ⟨_, List.getElem?_eq_getElem (by omega)⟩
    have hb28 := h28 b (List.mem_of_getElem? hb)
    have hz : ((List.range m).zip B)[x]? = some (x, b) := by
      rw [List.getElem?_zip_eq_some]
      exact ⟨by rw [List.getElem?_range (by omega)], hb⟩
    have htk : ((List.range m).zip B).take (x + 1) = ((List.range m).zip B).take x ++ [(x, b)] := by
      rw [List.take_add_one, hz]; rfl
    have htab : tab false (((List.range m).zip B).take (x + 1)) [] = tab false (((List.range m).zip B).take x) [] ++ [(nm false x, decS b)] := by
      rw [htk]
      unfold tab tabE
      simp only [List.map_append, List.map_nil, List.append_nil, List.map_cons]
      rfl
    have hlen : (tab false (((List.range m).zip B).take x) []).length ≤ 1000 := by
      rw [tab_len, List.length_take]; simp; omega
    have hdl : (decS b).length ≤ 1000 := by
      rw [dec28 b hb28]
      split
      · show 1 ≤ 1000; decide
      · show 2 ≤ 1000; decide
    refine' ⟨_, Tg.name rfl, ?_⟩
    refine' ExsP.drop (ExsP.cons (σ₁ := ⟨[("script", .lit (.ref a)), ("many", .int m), ("cells", .int n), ("order", .int o), ("dress", .ref 10), ("free", .ref 11), ("table", .ref 13), ("k", .int (x : Nat))], [("draws", 0), ("balls", 1)], [.cell (some (.ref 6)), .cell (some (.ref 9)), x2, x3, x4, x5, x6, x7, x8, .list (intsV B), .list dressV, .list (intsV (freeOf n B)), .dict [("_headers", .ref 14)], .inst 223 12, hdL (tab false (((List.range m).zip B).take (x + 1)) [])]⟩) (Ex.stE (Ex.expr (Ev.meth (x := .ref 13) (xs := [.str (nm false x), .str (decS b)]) ?_ (Om.addh (d := 12) (h := 14) (ps := tab false (((List.range m).zip B).take x) []) ?_) (Evs.cons (Ev.subT (x := .str "abcdefg") (z := .str ⟨#[97 + x]⟩) ?_ ?_ TyOf.str PySem.F.slot_str_getitem.lookup (Op.item_str (j := (x : Nat)) ?_ ?_ ?_) ?_) (Evs.cons (Ev.call (xs := [.int b]) ?_ (Evs.cons (Ev.sub (x := .ref 9) (Ev.cell (i := 1) ?_ ?_ ?_ ?_) ?_ (TyOf.list (vs := intsV B) ?_) PySem.F.slot_list_getitem.lookup (Op.item (vs := intsV B) (j := (x : Nat)) ?_ ?_ ?_ (ints_get hb)) ?_ ?_) ?_ ?_) ?_ ?_ (Oc.op (Op.str_int ?_)) ?_ ?_) ?_ ?_) ?_) ?_ ?_ (Oc.of rfl (hadd (h := 14) (d := 12) ?_ hlen (safe_nm false x (by omega)) (safe_dec b hb28) hdl)) ?_ ?_) ?_ ?_) ?_ ?_ ?_) (ExsP.nil ⟨⟨[("script", .lit (.ref a)), ("many", .int m), ("cells", .int n), ("order", .int o), ("dress", .ref 10), ("free", .ref 11), ("table", .ref 13)], [("draws", 0), ("balls", 1)], [.cell (some (.ref 6)), .cell (some (.ref 9)), x2, x3, x4, x5, x6, x7, x8, .list (intsV B), .list dressV, .list (intsV (freeOf n B)), .dict [("_headers", .ref 14)], .inst 223 12, hdL (tab false (((List.range m).zip B).take (x + 1)) [])]⟩, ?_, ⟨x + 1, ?_, by omega, rfl⟩⟩))
    all_goals (try (repeat' boot_by_name))
    · omega
    · omega
    · exact abc7 x (by omega)
    · omega
    · omega
    · rw [Int.natAbs_natCast]; exact Nat.lt_of_le_of_lt (Nat.log2_le_self _) (by omega)
    · exact ⟨.none, rfl⟩
    · rw [htab]; rfl
    · refine' Drop.names ?_ ?_ ?_ ?_
      · exact Nat.le_refl _
      rotate_left
      · exact cel2 (by simp)
      · exact trivial
      repeat' (first | exact Has.nil | refine' Has.cons rfl ?_ ?_ | exact low_at | exact low_lit | (refine' low_lt ?_; simp))
    · rw [show m - (x + 1) = r by omega]
  · rw [List.range_eq_range']; rfl
end
end
section
section
variable {w : World} {k : Nat} {a : Addr} {ns : List Int} {B T rs : List Nat} {m n o : Nat} {R0 : List (Nat × Nat)} {d : PySem.Str} {x0 x1 x2 x3 x4 x5 x6 x7 x8 x15 : MO}
def digS (n : Nat) (B : List Nat) : List PySem.Str := (List.range n).map fun k => if B.any (· == k) then ("1" : PySem.Str) else "0"
theorem dig_fast (n : Nat) (B : List Nat) : (Txt.join "" (digS n B)).cps.toList = digitsN n B := by
  rw [join_fast]
  unfold flat digS digitsN
  rw [List.map_map]
  have h1 : ("1" : PySem.Str).cps.toList = [49] := by decide +kernel
  have h0 : ("0" : PySem.Str).cps.toList = [48] := by decide +kernel
  generalize List.range n = l
  induction l with
  | nil => rfl
  | cons c l ih =>
    rw [List.map_cons, List.flatten_cons, List.map_cons, ih]
    show (if B.any (· == c) = true then ("1" : PySem.Str) else "0").cps.toList ++ _ = _
    cases B.any (· == c)
    · rw [if_neg (by simp), h0]; rfl
    · rw [if_pos rfl, h1]; rfl
theorem wl_all {W : Wd} {G : Fx} {K : Nat} {test : Expr} {s1 s2 : Stmt} (S : PySem.Str → List Nat → St) (ht : ∀ d acc, EtQ W G K test (S d acc) (subStr "1" d) (S d acc)) (h1 : ∀ d acc (c : Nat), acc.length ≤ 100 → Txt.count d "10" = (c : Int) → Ex W G K s1 (S d acc) .next (S d (acc ++ [c]))) (h2 : ∀ d acc, d.length ≤ 100 → ExT W G K s2 (S d acc) .next (S (Txt.replace d "10" "") acc)) :
    ∀ (rs acc : List Nat) (d : PySem.Str), chainB d rs = true → acc.length + rs.length ≤ 100 → ∃ d', WlQ W G K test s1 s2 (S d acc) (S d' (acc ++ rs)) := by
  intro rs
  induction rs with
  | nil =>
    intro acc d h _
    refine ⟨d, .done ?_⟩
    rw [List.append_nil]
    have h : (!(subStr "1" d)) = true := h
    have := ht d acc
    rw [show subStr "1" d = false by simpa using h] at this
    exact this
  | cons c cs ih =>
    intro acc d h hl
    have h : (subStr "1" d && Txt.count d "10" == (c : Int) && decide (d.length ≤ 100) && chainB (Txt.replace d "10" "") cs) = true := h
    simp only [Bool.and_eq_true, decide_eq_true_eq, beq_iff_eq] at h
    obtain ⟨⟨⟨e1, e2⟩, e3⟩, e4⟩ := h
    rw [List.length_cons] at hl
    obtain ⟨d', hw⟩ := ih (acc ++ [c]) _ e4 (by rw [List.length_append, List.length_singleton]; omega)
    rw [List.append_assoc] at hw
    have t := ht d acc
    rw [e1] at t
    exact ⟨d', .next t (h1 d acc c (by omega) e2) (h2 d (acc ++ [c]) e3) hw⟩
theorem st9 (hn : n ≤ 28) : StAt (ww w) 251 9 (fun s sc => Ex (ww w) ⟨sc, true⟩ (k + 10) s ⟨[("script", .lit (.ref a)), ("many", .int m), ("cells", .int n), ("order", .int o), ("dress", .ref 10), ("free", .ref 11), ("table", .ref 13)], [("draws", 0), ("balls", 1)], [.cell (some (.ref 6)), .cell (some (.ref 9)), x2, x3, x4, x5, x6, x7, x8, .list (intsV B), .list dressV, .list (intsV (freeOf n B)), .dict [("_headers", .ref 14)], .inst 223 12, hdL (tab false R0 [])]⟩ .next ⟨[("script", .lit (.ref a)), ("many", .int m), ("cells", .int n), ("order", .int o), ("dress", .ref 10), ("free", .ref 11), ("table", .ref 13), ("digits", .str (Txt.join "" (digS n B)))], [("draws", 0), ("balls", 1)], [.cell (some (.ref 6)), .cell (some (.ref 9)), x2, x3, x4, x5, x6, x7, x8, .list (intsV B), .list dressV, .list (intsV (freeOf n B)), .dict [("_headers", .ref 14)], .inst 223 12, hdL (tab false R0 []), .list ((digS n B).map MV.str)]⟩) := by
  refine' StAt.mk' (by show List.lookup 251 (hd.heap_39 w.params) = some _; k_is) rfl ?_
  have hF : (intsV (List.range n)).filterMap (fun v => match v with | .at (.int j) => some (MV.str (if B.any (· == j.toNat) then ("1" : PySem.Str) else "0")) | _ => none) = (digS n B).map MV.str := by
    unfold digS
    rw [List.map_map]
    exact mapTo _ _ _ _ fun j _ => rfl
  have hB9 : ∀ ys : List MV, ([.cell (some (.ref 6)), .cell (some (.ref 9)), x2, x3, x4, x5, x6, x7, x8, .list (intsV B), .list dressV, .list (intsV (freeOf n B)), .dict [("_headers", .ref 14)], .inst 223 12, hdL (tab false R0 []), .list ys] : List MO)[9]? = some (.list ((B.map fun (a : Nat) => (a : Int)).map MV.int)) := fun ys => by rw [← intsV_ints]; rfl
  refine' Ex.stE (Ex.assign (v := .str (Txt.join "" (digS n B))) (Ev.meth (x := .str "") (xs := [.ref 15]) ?_ (Om.str PySem.F.slot_str_join PySem.F.type_str_join) (Evs.cons (Ev.compE (cel' := [("balls", 1)]) (f := fun v => match v with | .at (.int j) => some (MV.str (if B.any (· == j.toNat) then ("1" : PySem.Str) else "0")) | _ => none) (ys := (digS n B).map MV.str) (Ie.up0 (n := n) (Tr.call (xs := [.int n]) ?_ (Evs.cons ?_ ?_ ?_) ?_ ?_ Oc.range1 ?_ ?_) rfl (by omega)) ⟨rfl, ?_, clos1, rfl, cell3 (by simp) (by simp) (by simp), names3 rfl rfl, ⟨fun loc => loc = [] ∨ ∃ u : MV, loc = [(("k" : PySem.Str), u)], fun v => [("k", v)], .inl rfl, ?_⟩, fun _ => trivial, ?_⟩ ?_ ?_ ?_ hF) ?_ ?_) ?_ ?_ (Oc.op (Op.join (ss := digS n B) ?_ ?_)) ?_ ?_) ?_ ?_) ?_ ?_ ?_
  all_goals (try (repeat' boot_by_name))
  · intro p hp; rw [List.mem_singleton.mp hp]; rfl
  · intro y hy
    obtain ⟨j, hj, rfl⟩ := List.mem_map.mp hy
    refine ⟨.inr ⟨_, rfl⟩, fun loc st hok => comp_name rfl loc st hok, fun ys _ => ?_⟩
    have hany := any_cast B j
    refine' .all (Ev.ife2 (b := (B.map fun (a : Nat) => (a : Int)).any (· == (j : Int))) (Et.cmp (Ev.local rfl rfl rfl) (Ev.cell (i := 1) rfl rfl rfl rfl) (Op.in_ints (hB9 ys)) rfl) (fun hb => Ev.eq (v := .str "1") ?_ ?_) (fun hb => Ev.eq (v := .str "0") ?_ ?_))
    all_goals (try (repeat' boot_by_name))
    · rw [hany] at hb
      show MV.str "1" = MV.str (if B.any (· == j) = true then _ else _)
      rw [if_pos hb]
    · rw [hany] at hb
      show MV.str "0" = MV.str (if B.any (· == j) = true then _ else _)
      rw [if_neg (by rw [hb]; simp)]
  · rw [intsV_len, List.length_range]; omega
  · have hl : (digS n B).length = n := by unfold digS; rw [List.length_map, List.length_range]
    have h1 : ∀ p ∈ digS n B, p.length ≤ 1 := by
      intro p hp
      obtain ⟨j, _, rfl⟩ := List.mem_map.mp hp
      split <;> decide +kernel
    have h2 := sum_le h1 (Nat.le_refl _)
    have h3 : ("" : PySem.Str).length = 0 := by decide +kernel
    rw [h3, Nat.mul_zero]
    omega
theorem st10 (hx : x2 = x2) : StAt (ww w) 251 10 (fun s sc => Ex (ww w) ⟨sc, true⟩ (k + 10) s ⟨[("script", .lit (.ref a)), ("many", .int m), ("cells", .int n), ("order", .int o), ("dress", .ref 10), ("free", .ref 11), ("table", .ref 13), ("digits", .str d)], [("draws", 0), ("balls", 1)], [.cell (some (.ref 6)), .cell (some (.ref 9)), x2, x3, x4, x5, x6, x7, x8, .list (intsV B), .list dressV, .list (intsV (freeOf n B)), .dict [("_headers", .ref 14)], .inst 223 12, hdL (tab false R0 []), x15]⟩ .next ⟨[("script", .lit (.ref a)), ("many", .int m), ("cells", .int n), ("order", .int o), ("dress", .ref 10), ("free", .ref 11), ("table", .ref 13), ("digits", .str d), ("rounds", .ref 16)], [("draws", 0), ("balls", 1)], [.cell (some (.ref 6)), .cell (some (.ref 9)), x2, x3, x4, x5, x6, x7, x8, .list (intsV B), .list dressV, .list (intsV (freeOf n B)), .dict [("_headers", .ref 14)], .inst 223 12, hdL (tab false R0 []), x15, .list []]⟩) := by
  refine' StAt.mk' (by show List.lookup 251 (hd.heap_39 w.params) = some _; k_is) rfl ?_
  refine' Ex.stE (Ex.assign (v := .ref 16) (Ev.listE (xs := []) ?_ ?_ ?_) ?_ ?_) ?_ ?_ ?_
  all_goals (try (repeat' boot_by_name))
  · exact Nat.zero_le _
theorem st11 (hc : chainB d rs = true) (hl : rs.length ≤ 100) : StAt (ww w) 251 11 (fun s sc => ∃ d', Ex (ww w) ⟨sc, true⟩ (k + 10) s ⟨[("script", .lit (.ref a)), ("many", .int m), ("cells", .int n), ("order", .int o), ("dress", .ref 10), ("free", .ref 11), ("table", .ref 13), ("digits", .str d), ("rounds", .ref 16)], [("draws", 0), ("balls", 1)], [.cell (some (.ref 6)), .cell (some (.ref 9)), x2, x3, x4, x5, x6, x7, x8, .list (intsV B), .list dressV, .list (intsV (freeOf n B)), .dict [("_headers", .ref 14)], .inst 223 12, hdL (tab false R0 []), x15, .list []]⟩ .next ⟨[("script", .lit (.ref a)), ("many", .int m), ("cells", .int n), ("order", .int o), ("dress", .ref 10), ("free", .ref 11), ("table", .ref 13), ("digits", .str d'), ("rounds", .ref 16)], [("draws", 0), ("balls", 1)], [.cell (some (.ref 6)), .cell (some (.ref 9)), x2, x3, x4, x5, x6, x7, x8, .list (intsV B), .list dressV, .list (intsV (freeOf n B)), .dict [("_headers", .ref 14)], .inst 223 12, hdL (tab false R0 []), x15, .list (intsV rs)]⟩) := by
  refine' StAt.mk' (by show List.lookup 251 (hd.heap_39 w.params) = some _; k_is) rfl ?_
  refine' (wl_all (fun d acc => ⟨[("script", .lit (.ref a)), ("many", .int m), ("cells", .int n), ("order", .int o), ("dress", .ref 10), ("free", .ref 11), ("table", .ref 13), ("digits", .str d), ("rounds", .ref 16)], [("draws", 0), ("balls", 1)], [.cell (some (.ref 6)), .cell (some (.ref 9)), x2, x3, x4, x5, x6, x7, x8, .list (intsV B), .list dressV, .list (intsV (freeOf n B)), .dict [("_headers", .ref 14)], .inst 223 12, hdL (tab false R0 []), x15, .list (intsV acc)]⟩) (fun d acc => EtQ.inStr (y := d) ?_ rfl) (fun d acc c hacc hcn => ?_) (fun d acc hd => Ex.replaceT ?_ ?_ ?_ ?_ ?_ ?_ ?_ ?_ ?_) rs [] d hc ?_).imp fun d' h => Ex.whileQ h
  all_goals (try (repeat' boot_by_name))
  · refine' Ex.stE (Ex.expr (Ev.meth (x := .ref 16) (xs := [.int c]) ?_ (Om.list (vs := intsV acc) ?_ PySem.F.slot_list_append PySem.F.type_list_append) (Evs.cons (Ev.eq (v := .int (Txt.count d "10")) (Ev.meth (x := .str d) (xs := [.str "10"]) ?_ (Om.str PySem.F.slot_str_count PySem.F.type_str_count) ?_ ?_ ?_ (Oc.op Op.count_str) ?_ ?_) (congrArg MV.int hcn)) ?_ ?_) ?_ ?_ (Oc.op (Op.append (vs := intsV acc) ?_ ?_)) ?_ ?_) ?_ ?_) ?_ ?_ ?_
    all_goals (try (repeat' boot_by_name))
    · rw [intsV_len]; omega
    · exact ⟨.none, rfl⟩
    · rw [← ints_snoc]; rfl
  · omega
  · decide +kernel
  · show 0 + rs.length ≤ 100
    omega
theorem st12 (hx : x2 = x2) : StAt (ww w) 251 12 (fun s sc => Ex (ww w) ⟨sc, true⟩ (k + 10) s ⟨[("script", .lit (.ref a)), ("many", .int m), ("cells", .int n), ("order", .int o), ("dress", .ref 10), ("free", .ref 11), ("table", .ref 13), ("digits", .str d), ("rounds", .ref 16)], [("draws", 0), ("balls", 1)], [.cell (some (.ref 6)), .cell (some (.ref 9)), x2, x3, x4, x5, x6, x7, x8, .list (intsV B), .list dressV, .list (intsV (freeOf n B)), .dict [("_headers", .ref 14)], .inst 223 12, hdL (tab false R0 []), x15, .list (intsV rs)]⟩ .next ⟨[("script", .lit (.ref a)), ("many", .int m), ("cells", .int n), ("order", .int o), ("dress", .ref 10), ("free", .ref 11), ("table", .ref 13), ("digits", .str d), ("rounds", .ref 16), ("been", .ref 17)], [("draws", 0), ("balls", 1)], [.cell (some (.ref 6)), .cell (some (.ref 9)), x2, x3, x4, x5, x6, x7, x8, .list (intsV B), .list dressV, .list (intsV (freeOf n B)), .dict [("_headers", .ref 14)], .inst 223 12, hdL (tab false R0 []), x15, .list (intsV rs), .list [.ref 9]]⟩) := by
  refine' StAt.mk' (by show List.lookup 251 (hd.heap_39 w.params) = some _; k_is) rfl ?_
  refine' Ex.stE (Ex.assign (v := .ref 17) (Ev.listE (xs := [.ref 9]) (Evs.cons (Ev.cell (i := 1) ?_ ?_ ?_ ?_) ?_ ?_) ?_ ?_) ?_ ?_) ?_ ?_ ?_
  all_goals (try (repeat' boot_by_name))
  · show 1 ≤ 100000; decide
end
end
section
section
variable {W : Wd} {G : Fx} {k : Nat} {σ σ₁ σ₂ σ₃ σ' σ'' : St} {n : Nat}
theorem Ex.drop {s : Stmt} {fl : Fl} (h : Ex W G k s σ fl σ') (d : Drop σ.st fl σ' σ'') : Ex W G k s σ fl σ'' := Tr.mk fun C R hq =>
  h.run C R fun f s' ρ' n r => hq _ _ _ (n.drop R d) (r.drop d.fl (by
    obtain ⟨sx, hst⟩ := d.st
    have := n.rel.len
    rw [hst, List.length_append] at this
    omega))
theorem intsV_at (xs : List Nat) : intsV xs = (xs.map fun (a : Nat) => FV.int a).map MV.at := by unfold intsV; rw [List.map_map]; rfl
theorem plain_ints (xs : List Nat) : ∀ x ∈ xs.map (fun (a : Nat) => FV.int a), x.plainEq = true := fun x hx => by
  obtain ⟨a, _, rfl⟩ := List.mem_map.mp hx
  rfl
theorem Op.ne_intsV {i j : Nat} {xs : List Nat} (e1 : σ.st[i]? = some (.list (intsV xs))) (e2 : σ.st[j]? = some (.list (intsV xs))) : Op W G k (t2 (compareOp .NotEq)) [.ref i, .ref j] σ (isV (.bool false)) σ :=
  Op.ne_same (xs := xs.map fun (a : Nat) => FV.int a) (by rw [← intsV_at]; exact e1) (by rw [← intsV_at]; exact e2) (plain_ints xs)
theorem Op.sorted_intsV {i : Nat} {ns ms : List Nat} (e : σ.st[i]? = some (.list (intsV ns))) (hp : ms.Perm ns) (hs : ms.Pairwise (· ≤ ·)) (h64 : ns.length < 64) :
    Op W G k (fun _ l => call (.builtin "sorted") l) [.ref i] σ (isV (.ref σ.st.length)) { σ with st := σ.st ++ [.list (intsV ms)] } := by
  have := Op.sorted_ints (W := W) (G := G) (k := k) (σ := σ) (i := i) (ns := ns.map fun (a : Nat) => (a : Int)) (ms := ms.map fun (a : Nat) => (a : Int)) (by rw [← intsV_ints]; exact e) (hp.map _) (by rw [List.pairwise_map]; exact hs.imp (by omega)) (by rw [List.length_map]; exact h64)
  rw [← intsV_ints] at this
  exact this
theorem Ex.forX {T : St → Prop} {t iter : Expr} {body : List Stmt} {pos : Pos} {xs : List MV} {gn : Bool} {S : St → Prop} (hi : Ie W G k iter σ xs gn S σ₁) (hl : LpP W G k t body S gn xs σ₁ (fun fl σ' => fl = .next ∧ T σ')) (hs : ∀ env : Env, env.scope = G.sc → ∀ x, foldedSetIterable iter env x = pure x) : ∃ σ', T σ' ∧ Ex W G k (.For t iter body [] pos) σ .next σ' := by
  obtain ⟨fl, σ', a, b, rfl, c⟩ := hl
  exact ⟨σ', c, Ex.for_ hi a b hs⟩
end
def Bq (n : Nat) (B : List Nat) : Nat → List Nat
  | 0 => B
  | j + 1 => dueOf n (Bq n B j)
def idx : Nat → Nat
  | 0 => 9
  | j + 1 => 18 + j
def beenV : Nat → List MV
  | 0 => [.ref 9]
  | j + 1 => beenV j ++ [.ref (18 + j)]
def beenP : Nat → List MV
  | 0 => []
  | j + 1 => beenV j
theorem been_last (j : Nat) : beenV j = beenP j ++ [.ref (idx j)] := by cases j <;> rfl
theorem been_len (j : Nat) : (beenV j).length = j + 1 := by
  induction j with
  | zero => rfl
  | succ j ih => unfold beenV; rw [List.length_append, ih]; rfl
theorem been_get {i j : Nat} (h : i ≤ j) : (beenV j)[i]? = some (.ref (idx i)) := by
  induction j with
  | zero => have : i = 0 := by omega
            subst this; rfl
  | succ j ih =>
    unfold beenV
    by_cases c : i ≤ j
    · rw [List.getElem?_append_left (by rw [been_len]; omega)]; exact ih c
    · have : i = j + 1 := by omega
      subst this
      rw [List.getElem?_append_right (by rw [been_len]; exact Nat.le_refl _), been_len, Nat.sub_self]; rfl
theorem idx_lt {i J : Nat} (h : i ≤ J) : idx i < 18 + J := by
  cases i with
  | zero => show 9 < _; omega
  | succ i => show 18 + i < _; omega
theorem idx_far {i k : Nat} (h1 : k ≠ 9) (h2 : k < 18) : idx i ≠ k := by
  cases i with
  | zero => exact fun q => h1 q.symm
  | succ i => show 18 + i ≠ k; omega
structure LF (n m : Nat) (B rs : List Nat) (J j : Nat) (c : Bool) (R : List (Nat × Nat)) (st : List MO) : Prop where
  len : st.length = 18 + J
  H : HdAt st 13 12 14 (tab c R [])
  F : st[11]? = some (.list (intsV (freeOf n (Bq n B j))))
  rounds : st[16]? = some (.list (intsV rs))
  dress : st[10]? = some (.list dressV)
  been : st[17]? = some (.list (beenV J))
  old : ∀ i, i ≤ J → st[idx i]? = some (.list (intsV (Bq n B i)))
  boxes : (R.map (·.2)).Perm (Bq n B j)
  lets : (R.map (·.1)).Perm (List.range m)
theorem LF.nodup {n m J j : Nat} {B rs : List Nat} {c : Bool} {R : List (Nat × Nat)} {st : List MO} (h : LF n m B rs J j c R st) : (R.map (·.1)).Nodup := h.lets.nodup_iff.mpr List.nodup_range
theorem LF.seven {n m J j : Nat} {B rs : List Nat} {c : Bool} {R : List (Nat × Nat)} {st : List MO} (h : LF n m B rs J j c R st) (hm : m ≤ 7) : ∀ e ∈ R, e.1 < 7 := fun e he => by
  have := List.mem_range.mp (h.lets.subset (List.mem_map.mpr ⟨e, he, rfl⟩))
  omega
theorem LF.size {n m J j : Nat} {B rs : List Nat} {c : Bool} {R : List (Nat × Nat)} {st : List MO} (h : LF n m B rs J j c R st) : R.length = m := by
  have := h.lets.length_eq
  rw [List.length_map, List.length_range] at this; exact this
theorem tab_flip {c : Bool} {D : List (Nat × Nat)} : tab c [] D = tab (!c) D [] := by
  unfold tab tabE
  rw [List.map_nil, List.map_nil, List.nil_append, List.append_nil]
def numS (s : PySem.Str) : Nat := s.cps.toList.foldl (fun a c => a * 10 + (c - 48)) 0
theorem num_dec : ∀ b, b < 28 → numS (decS (b : Nat)) = b := by decide +kernel
def dressS (i : Nat) : PySem.Str := match i with
  | 0 => "\\)"
  | 1 => "\"(\""
  | 2 => ""
  | 3 => "\\\\"
  | _ => "\\\""
theorem dress_get : ∀ i, i < 5 → dressV[i]? = some (.str (dressS i)) ∧ (dressS i).cps.toList = dressN.getD i [] ∧ (dressS i).length ≤ 3 := by
  intro i hi
  match i, hi with
  | 0, _ => exact ⟨rfl, by decide +kernel, by decide +kernel⟩
  | 1, _ => exact ⟨rfl, by decide +kernel, by decide +kernel⟩
  | 2, _ => exact ⟨rfl, by decide +kernel, by decide +kernel⟩
  | 3, _ => exact ⟨rfl, by decide +kernel, by decide +kernel⟩
  | 4, _ => exact ⟨rfl, by decide +kernel, by decide +kernel⟩
theorem free_len (n : Nat) (B : List Nat) : (freeOf n B).length ≤ n := by
  have := List.length_filter_le (fun k => !(B.any (· == k))) (List.range n)
  rw [List.length_range] at this; exact this
theorem freeOf_out {l : List MO} {m : Nat} (h : l.length = m) {i : Nat} {x : MO} (e : l[i]? = some x) : i < m := by rw [← h]; exact (List.getElem?_eq_some_iff.mp e).1
/-- the store behind a lap's step -/
theorem LF.step {n m J j j' : Nat} {B rs : List Nat} {c c' : Bool} {R R' : List (Nat × Nat)} {st : List MO} (h : LF n m B rs J j c R st) (hb : (R'.map (·.2)).Perm (Bq n B j')) (hl : (R'.map (·.1)).Perm (List.range m)) : LF n m B rs J j' c' R' (SS st 14 11 (tab c' R' []) (freeOf n (Bq n B j'))) := by
  have K := SOk.mk' h.H h.F (by decide)
  have far : ∀ {i : Nat} {o : MO}, i ≠ 14 → i ≠ 11 → st[i]? = some o → (SS st 14 11 (tab c' R' []) (freeOf n (Bq n B j')))[i]? = some o := fun h1 h2 e => by
    unfold SS
    rw [List.getElem?_set_ne (Ne.symm h2), List.getElem?_set_ne (Ne.symm h1)]; exact e
  have KH := K.isH (ps := tab c' R' []) (F := freeOf n (Bq n B j')) (sx := [])
  have KF := K.isF (ps := tab c' R' []) (F := freeOf n (Bq n B j')) (sx := [])
  rw [List.append_nil] at KH KF
  refine ⟨by rw [SS_len]; exact h.len, KH, KF, far (by decide) (by decide) h.rounds, far (by decide) (by decide) h.dress, far (by decide) (by decide) h.been, fun i hi => far (idx_far (by decide) (by decide)) (idx_far (by decide) (by decide)) (h.old i hi), hb, hl⟩
/-- one more row told -/
theorem LF.grow {n m j : Nat} {B rs : List Nat} {c : Bool} {R : List (Nat × Nat)} {st : List MO} (h : LF n m B rs j (j + 1) c R st) : LF n m B rs (j + 1) (j + 1) c R ((st ++ [MO.list (intsV (Bq n B (j + 1)))]).set 17 (.list (beenV (j + 1)))) := by
  have hl := h.len
  have far : ∀ {i : Nat} {o : MO}, i ≠ 17 → st[i]? = some o → ((st ++ [MO.list (intsV (Bq n B (j + 1)))]).set 17 (.list (beenV (j + 1))))[i]? = some o := fun h1 e => by
    rw [List.getElem?_set_ne (Ne.symm h1), List.getElem?_append_left (List.getElem?_eq_some_iff.mp e).1]; exact e
  refine ⟨by rw [List.length_set, List.length_append, hl]; rfl, ⟨far (by decide) h.H.i, far (by decide) h.H.d, far (by decide) h.H.h⟩, far (by decide) h.F, far (by decide) h.rounds, far (by decide) h.dress, ?_, fun i hi => ?_, h.boxes, h.lets⟩
  · rw [List.getElem?_set_self (by rw [List.length_append, hl]; omega)]
  · by_cases q : i ≤ j
    · exact far (idx_far (by decide) (by decide)) (h.old i q)
    · have : i = j + 1 := by omega
      subst this
      rw [List.getElem?_set_ne (Ne.symm (idx_far (by decide) (by decide)))]
      show (st ++ [_])[18 + j]? = _
      rw [← hl, List.getElem?_append_right (Nat.le_refl _), Nat.sub_self]; rfl
end
section
local macro_rules | `(tactic| boot_by_name) => `(tactic| first
  | exact lastAt)
section
variable {w : World} {k : Nat} {a : Addr} {B rs : List Nat} {m n o : Nat} {d : PySem.Str}
def cj (j : Nat) : Bool := j % 2 == 1
theorem cj_succ (j : Nat) : (!(cj j)) = cj (j + 1) := by
  unfold cj
  rcases Nat.mod_two_eq_zero_or_one j with h | h
  · rw [h, show (j + 1) % 2 = 1 by omega]; rfl
  · rw [h, show (j + 1) % 2 = 0 by omega]; rfl
theorem SS_app {st sx : List MO} {h f : Nat} {ps : List (PySem.Str × PySem.Str)} {F : List Nat} (hh : h < st.length) (hf : f < st.length) : SS (st ++ sx) h f ps F = SS st h f ps F ++ sx := by
  unfold SS
  rw [List.set_append_left _ _ hh, List.set_append_left _ _ (by rw [List.length_set]; exact hf)]
theorem names3g {a b c : PySem.Str} (h1 : [(a, NameKind.local), (b, NameKind.local), (c, NameKind.globalImplicit)].lookup a = some .local) (h2 : [(a, NameKind.local), (b, NameKind.local), (c, NameKind.globalImplicit)].lookup b = some .local) : ∀ y ∈ [(a, NameKind.local), (b, NameKind.local), (c, NameKind.globalImplicit)], y.2 = .local → [(a, NameKind.local), (b, NameKind.local), (c, NameKind.globalImplicit)].lookup y.1 = some .local := by
  intro y hy q
  rcases List.mem_cons.mp hy with rfl | hy
  · exact h1
  rcases List.mem_cons.mp hy with rfl | hy
  · exact h2
  rcases List.mem_cons.mp hy with rfl | hy
  · cases q
  cases hy
def fNum : MV → Option MV := fun v => match v with
  | .at (.str s) => some (MV.int ((numS s : Nat) : Int))
  | _ => none
theorem vals_num {c : Bool} {R : List (Nat × Nat)} (h : ∀ e ∈ R, e.2 < 28) : (((tab c R []).map (·.2)).map MV.str).filterMap fNum = intsV (R.map (·.2)) := by
  have e1 : ((tab c R []).map (·.2)).map MV.str = R.map fun e => MV.str (decS (e.2 : Nat)) := by
    unfold tab tabE
    rw [List.map_nil, List.append_nil, List.map_map, List.map_map, List.map_map]; rfl
  have e2 : intsV (R.map (·.2)) = R.map fun e => MV.int (e.2 : Nat) := by unfold intsV; rw [List.map_map]; rfl
  rw [e1, e2]
  exact mapTo fNum _ _ R fun e he => by
    show some (MV.int ((numS (decS (e.2 : Nat)) : Nat) : Int)) = _
    rw [num_dec _ (h e he)]
theorem vals_mem {c : Bool} {R : List (Nat × Nat)} {x : MV} (hx : x ∈ ((tab c R []).map (·.2)).map MV.str) : ∃ e ∈ R, x = MV.str (decS (e.2 : Nat)) := by
  unfold tab tabE at hx
  rw [List.map_nil, List.append_nil, List.map_map, List.map_map, List.map_map] at hx
  obtain ⟨e, he, rfl⟩ := List.mem_map.mp hx
  exact ⟨e, he, rfl⟩
theorem st13 (hm7 : m ≤ 7) (hm1 : 1 ≤ m) (hn : n ≤ 28) (hBl : B.length = m) (hlap : ∀ j, j < 3 → LapOk n (Bq n B j) (Bq n B (j + 1))) (htx : ∀ j, j < 3 → TextOk ⟨(textN (o % 5) (Bq n B j) (Bq n B (j + 1))).toArray⟩ rs)
    (hspan : ∀ j, j < 3 → (Bq n B j).headD 0 ≤ (Bq n B (j + 1)).getLastD 0 + 1) (hlast : ∀ j, j < 3 → (Bq n B (j + 1)).Pairwise (· ≤ ·)) {R : List (Nat × Nat)} {st : List MO} (hL : LF n m B rs 0 0 false R st) : StAt (ww w) 251 13 (fun s sc => ∃ st' R', LF n m B rs 3 3 true R' st' ∧ Ex (ww w) ⟨sc, true⟩ (k + 10) s ⟨[("script", .lit (.ref a)), ("many", .int m), ("cells", .int n), ("order", .int o), ("dress", .ref 10), ("free", .ref 11), ("table", .ref 13), ("digits", .str d), ("rounds", .ref 16), ("been", .ref 17)], [("draws", 0), ("balls", 1)], st⟩ .next ⟨[("script", .lit (.ref a)), ("many", .int m), ("cells", .int n), ("order", .int o), ("dress", .ref 10), ("free", .ref 11), ("table", .ref 13), ("digits", .str d), ("rounds", .ref 16), ("been", .ref 17)], [("draws", 0), ("balls", 1)], st'⟩) := by
  refine' StAt.mk' (by show List.lookup 251 (hd.heap_39 w.params) = some _; k_is) rfl ?_
  have hlen : ∀ j, j ≤ 3 → (Bq n B j).length = m := by
    intro j hj
    induction j with
    | zero => exact hBl
    | succ j ih => rw [(hlap j (by omega)).len]; exact ih (by omega)
  suffices h : ∃ σ', (∃ st' R', LF n m B rs 3 3 true R' st' ∧ σ' = ⟨[("script", .lit (.ref a)), ("many", .int m), ("cells", .int n), ("order", .int o), ("dress", .ref 10), ("free", .ref 11), ("table", .ref 13), ("digits", .str d), ("rounds", .ref 16), ("been", .ref 17)], [("draws", 0), ("balls", 1)], st'⟩) ∧ Ex (ww w) ⟨_, true⟩ (k + 10) (.For _ _ _ [] _) ⟨[("script", .lit (.ref a)), ("many", .int m), ("cells", .int n), ("order", .int o), ("dress", .ref 10), ("free", .ref 11), ("table", .ref 13), ("digits", .str d), ("rounds", .ref 16), ("been", .ref 17)], [("draws", 0), ("balls", 1)], st⟩ .next σ' from by
    obtain ⟨σ', ⟨st', R', h1, rfl⟩, h2⟩ := h
    exact ⟨st', R', h1, h2⟩
  refine' Ex.forX (T := fun σ' => ∃ st' R', LF n m B rs 3 3 true R' st' ∧ σ' = ⟨[("script", .lit (.ref a)), ("many", .int m), ("cells", .int n), ("order", .int o), ("dress", .ref 10), ("free", .ref 11), ("table", .ref 13), ("digits", .str d), ("rounds", .ref 16), ("been", .ref 17)], [("draws", 0), ("balls", 1)], st'⟩) (Ie.up0 (n := 3) (Tr.call (xs := [.int 3]) ?_ (Evs.cons ?_ ?_ ?_) ?_ ?_ Oc.range1 ?_ ?_) rfl (by decide)) (LpP.inv (fun (a : Nat) => MV.int a) (fun l τ => ∃ j st R, l = List.range' j (3 - j) ∧ j ≤ 3 ∧ LF n m B rs j j (cj j) R st ∧ τ = ⟨[("script", .lit (.ref a)), ("many", .int m), ("cells", .int n), ("order", .int o), ("dress", .ref 10), ("free", .ref 11), ("table", .ref 13), ("digits", .str d), ("rounds", .ref 16), ("been", .ref 17)], [("draws", 0), ("balls", 1)], st⟩) ?_ ?_ ?_ ⟨0, st, R, rfl, by decide, hL, rfl⟩) fun _ _ _ => rfl
  all_goals (try (repeat' boot_by_name))
  · exact fun _ _ _ => trivial
  · rintro τ ⟨j, st, R, e, hj, hL, rfl⟩
    have : j = 3 := by
      have := congrArg List.length e
      rw [List.length_range'] at this
      simp at this
      omega
    subst this
    exact ⟨rfl, st, R, hL, rfl⟩
  clear hL
  rintro x l τ ⟨j, st, R, e, hj, hL, rfl⟩
  obtain ⟨r, hr⟩ : ∃ r, 3 - j = r + 1 := by
    cases q : 3 - j with
    | zero => rw [q] at e; cases e
    | succ r => exact ⟨r, rfl⟩
  rw [hr, List.range'_succ] at e
  injection e with e1 e2
  have e1 := e1.symm
  subst e1
  subst e2
  clear hj
  have hj : j < 3 := by omega
  have hLo := hlap j hj
  obtain ⟨D', F', g', hP, hI, hb, hl⟩ := hLo.fwd R ((o + 911 * j) % 5040) hL.boxes
  have hlN := hL.len
  have L2 : LF n m B rs j (j + 1) (cj (j + 1)) D' (SS st 14 11 (tab (cj (j + 1)) D' []) (freeOf n (Bq n B (j + 1)))) := hL.step hb (hl.trans hL.lets)
  have hHd := hL.H.push [.list (intsV (Bq n B (j + 1)))]
  have hFd : (st ++ [MO.list (intsV (Bq n B (j + 1)))])[11]? = some (.list (intsV (freeOf n (Bq n B j)))) := by rw [List.getElem?_append_left (List.getElem?_eq_some_iff.mp hL.F).1]; exact hL.F
  have hstp := hstep (w := w) (k := k + 6) (o := (o + 911 * j) % 5040) (back := 0) hHd hFd (by decide) hP hI hL.nodup (hL.seven hm7) (by rw [hL.size]; exact hm7) (by have := free_len n (Bq n B j); omega)
  rw [tab_flip, cj_succ, SS_app (by omega) (by omega)] at hstp
  generalize hZ : SS st 14 11 (tab (cj (j + 1)) D' []) (freeOf n (Bq n B (j + 1))) = Z at L2 hstp
  have hZl := L2.len
  have hdue : ∀ sx : List MO, (Z ++ [MO.list (intsV (Bq n B (j + 1)))] ++ sx)[18 + j]? = some (.list (intsV (Bq n B (j + 1)))) := fun sx => by
    rw [List.append_assoc, List.getElem?_append_right (by omega), hZl, Nat.sub_self]; rfl
  have hZg : ∀ {i : Nat} {x : MO} (sx : List MO), Z[i]? = some x → (Z ++ [MO.list (intsV (Bq n B (j + 1)))] ++ sx)[i]? = some x := fun sx e => by
    rw [List.append_assoc, List.getElem?_append_left (List.getElem?_eq_some_iff.mp e).1]; exact e
  have hbeen := hL.been
  rw [been_last] at hbeen
  have hold := hL.old j (Nat.le_refl _)
  have hol := hlen j (by omega)
  have hdl := hlen (j + 1) (by omega)
  refine ⟨_, Tg.name rfl, ?_⟩
  refine' ExsP.drop (ExsP.cons (σ₁ := ⟨[("script", .lit (.ref a)), ("many", .int m), ("cells", .int n), ("order", .int o), ("dress", .ref 10), ("free", .ref 11), ("table", .ref 13), ("digits", .str d), ("rounds", .ref 16), ("been", .ref 17), ("lap", .int (j : Nat)), ("old", .ref (idx j))], [("draws", 0), ("balls", 1)], st⟩) ?sa (ExsP.cons (σ₁ := ⟨[("script", .lit (.ref a)), ("many", .int m), ("cells", .int n), ("order", .int o), ("dress", .ref 10), ("free", .ref 11), ("table", .ref 13), ("digits", .str d), ("rounds", .ref 16), ("been", .ref 17), ("lap", .int (j : Nat)), ("old", .ref (idx j)), ("due", .ref (18 + j))], [("draws", 0), ("balls", 1)], st ++ [MO.list (intsV (Bq n B (j + 1)))]⟩) ?sb (ExsP.cons (σ₁ := ⟨[("script", .lit (.ref a)), ("many", .int m), ("cells", .int n), ("order", .int o), ("dress", .ref 10), ("free", .ref 11), ("table", .ref 13), ("digits", .str d), ("rounds", .ref 16), ("been", .ref 17), ("lap", .int (j : Nat)), ("old", .ref (idx j)), ("due", .ref (18 + j))], [("draws", 0), ("balls", 1)], Z ++ [MO.list (intsV (Bq n B (j + 1)))]⟩) ?sc (ExsP.cons (σ₁ := ⟨[("script", .lit (.ref a)), ("many", .int m), ("cells", .int n), ("order", .int o), ("dress", .ref 10), ("free", .ref 11), ("table", .ref 13), ("digits", .str d), ("rounds", .ref 16), ("been", .ref 17), ("lap", .int (j : Nat)), ("old", .ref (idx j)), ("due", .ref (18 + j))], [("draws", 0), ("balls", 1)], Z ++ [MO.list (intsV (Bq n B (j + 1)))]⟩) ?sd (ExsP.cons (σ₁ := ⟨[("script", .lit (.ref a)), ("many", .int m), ("cells", .int n), ("order", .int o), ("dress", .ref 10), ("free", .ref 11), ("table", .ref 13), ("digits", .str d), ("rounds", .ref 16), ("been", .ref 17), ("lap", .int (j : Nat)), ("old", .ref (idx j)), ("due", .ref (18 + j)), ("text", .str "")], [("draws", 0), ("balls", 1)], Z ++ [MO.list (intsV (Bq n B (j + 1)))]⟩) ?se (ExsP.cons (σ₁ := ⟨[("script", .lit (.ref a)), ("many", .int m), ("cells", .int n), ("order", .int o), ("dress", .ref 10), ("free", .ref 11), ("table", .ref 13), ("digits", .str d), ("rounds", .ref 16), ("been", .ref 17), ("lap", .int (j : Nat)), ("old", .ref (idx j)), ("due", .ref (18 + j)), ("text", .str ⟨(textN (o % 5) (Bq n B j) (Bq n B (j + 1))).toArray⟩)], [("draws", 0), ("balls", 1)], Z ++ [MO.list (intsV (Bq n B (j + 1)))]⟩) ?sf (ExsP.cons (σ₁ := ⟨[("script", .lit (.ref a)), ("many", .int m), ("cells", .int n), ("order", .int o), ("dress", .ref 10), ("free", .ref 11), ("table", .ref 13), ("digits", .str d), ("rounds", .ref 16), ("been", .ref 17), ("lap", .int (j : Nat)), ("old", .ref (idx j)), ("due", .ref (18 + j)), ("text", .str ⟨(textN (o % 5) (Bq n B j) (Bq n B (j + 1))).toArray⟩)], [("draws", 0), ("balls", 1)], Z ++ [MO.list (intsV (Bq n B (j + 1)))]⟩) ?sg (ExsP.cons (σ₁ := ⟨[("script", .lit (.ref a)), ("many", .int m), ("cells", .int n), ("order", .int o), ("dress", .ref 10), ("free", .ref 11), ("table", .ref 13), ("digits", .str d), ("rounds", .ref 16), ("been", .ref 17), ("lap", .int (j : Nat)), ("old", .ref (idx j)), ("due", .ref (18 + j)), ("text", .str ⟨(textN (o % 5) (Bq n B j) (Bq n B (j + 1))).toArray⟩)], [("draws", 0), ("balls", 1)], (Z ++ [MO.list (intsV (Bq n B (j + 1)))]).set 17 (.list (beenV (j + 1)))⟩) ?sh (ExsP.nil ⟨⟨[("script", .lit (.ref a)), ("many", .int m), ("cells", .int n), ("order", .int o), ("dress", .ref 10), ("free", .ref 11), ("table", .ref 13), ("digits", .str d), ("rounds", .ref 16), ("been", .ref 17)], [("draws", 0), ("balls", 1)], (Z ++ [MO.list (intsV (Bq n B (j + 1)))]).set 17 (.list (beenV (j + 1)))⟩, ?dr, ⟨j + 1, _, D', ?r1, by omega, L2.grow, rfl⟩⟩)))))))))
  case sa =>
    refine' Ex.stE (Ex.assign (v := .ref (idx j)) (Ev.sub (x := .ref 17) ?_ ?_ (TyOf.list (vs := beenP j ++ [.ref (idx j)]) ?_) PySem.F.slot_list_getitem.lookup (Op.item_last (vs := beenP j) ?_ ?_) ?_ ?_) ?_ ?_) ?_ ?_ ?_
    all_goals (try (repeat' boot_by_name))
    · have := been_len j
      rw [been_last, List.length_append] at this
      simp at this
      omega
  case sb =>
    refine' Ex.stE (Ex.assign (v := .ref st.length) (σ₁ := ⟨[("script", .lit (.ref a)), ("many", .int m), ("cells", .int n), ("order", .int o), ("dress", .ref 10), ("free", .ref 11), ("table", .ref 13), ("digits", .str d), ("rounds", .ref 16), ("been", .ref 17), ("lap", .int (j : Nat)), ("old", .ref (idx j))], [("draws", 0), ("balls", 1)], st ++ [MO.list (intsV (Bq n B (j + 1)))]⟩) (Ev.call (xs := [.ref (idx j), .int n]) (σ₃ := ⟨[("script", .lit (.ref a)), ("many", .int m), ("cells", .int n), ("order", .int o), ("dress", .ref 10), ("free", .ref 11), ("table", .ref 13), ("digits", .str d), ("rounds", .ref 16), ("been", .ref 17), ("lap", .int (j : Nat)), ("old", .ref (idx j))], [("draws", 0), ("balls", 1)], st⟩) ?_ (Evs.cons ?_ (Evs.cons ?_ ?_ ?_) ?_) ?_ ?_ (Oc.of rfl (hcarr (T := Bq n B (j + 1)) rfl ?_ (by omega))) ?_ ?_) ?_ ?_) ?_ ?_ ?_
    all_goals (try (repeat' boot_by_name))
    · rw [hlN]; rfl
  case sc =>
    refine' Ex.stE (Ex.expr (Ev.call (xs := [.ref 13, .ref 11, .int ((o + 911 * j) % 5040 : Nat), .int (0 : Nat)]) (σ₃ := ⟨[("script", .lit (.ref a)), ("many", .int m), ("cells", .int n), ("order", .int o), ("dress", .ref 10), ("free", .ref 11), ("table", .ref 13), ("digits", .str d), ("rounds", .ref 16), ("been", .ref 17), ("lap", .int (j : Nat)), ("old", .ref (idx j)), ("due", .ref (18 + j))], [("draws", 0), ("balls", 1)], st ++ [MO.list (intsV (Bq n B (j + 1)))]⟩) ?_ (Evs.cons ?_ (Evs.cons ?_ (Evs.cons (Ev.eq (v := .int (((o : Int) + 911 * (j : Int)).fmod 5040)) (Ev.binop (Ev.binop ?_ (Ev.binop ?_ ?_ (Op.mul ?_)) Op.add) ?_ (Op.mod ?_)) ?_) (Evs.cons (Ev.eq (v := .int 0) ?_ rfl) ?_ ?_) ?_) ?_) ?_) ?_ ?_ (Oc.of rfl hstp) ?_ ?_) ?_ ?_) ?_ ?_ ?_
    all_goals (try (repeat' boot_by_name))
    · exact IntMulOk.of_left (by decide)
    · decide
    · refine congrArg MV.int ?_
      rw [Int.fmod_eq_emod_of_nonneg _ (by decide)]; omega
    · exact ⟨.none, rfl⟩
  case sd =>
    have hD28 : ∀ e ∈ D', e.2 < 28 := fun e he => hLo.lt' _ (hb.subset (List.mem_map.mpr ⟨e, he, rfl⟩))
    have hvl : (tab (cj (j + 1)) D' []).length ≤ 1000 := by rw [tab_len, L2.size]; simp; omega
    have hsz : (D'.map (·.2)).length < 64 := by rw [List.length_map, L2.size]; omega
    have hps : (Bq n B (j + 1)).Pairwise (· ≤ ·) := by
      exact hlast j hj
    have hHv : HdAt (Z ++ [MO.list (intsV (Bq n B (j + 1)))]) 13 12 14 (tab (cj (j + 1)) D' []) := L2.H.push _
    refine' Ex.drop (Ex.ite (b := false) (Et.cmp (Ev.call (xs := [.ref ((Z ++ [MO.list (intsV (Bq n B (j + 1)))]).length + 1)]) ?_ (Evs.cons (Ev.compE (cel' := []) (f := fNum) (ys := intsV (D'.map (·.2))) (Ie.list (i := (Z ++ [MO.list (intsV (Bq n B (j + 1)))]).length) (vs := ((tab (cj (j + 1)) D' []).map (·.2)).map MV.str) (Ev.meth (x := .ref 13) (xs := []) (σ₃ := ⟨[("script", .lit (.ref a)), ("many", .int m), ("cells", .int n), ("order", .int o), ("dress", .ref 10), ("free", .ref 11), ("table", .ref 13), ("digits", .str d), ("rounds", .ref 16), ("been", .ref 17), ("lap", .int (j : Nat)), ("old", .ref (idx j)), ("due", .ref (18 + j))], [("draws", 0), ("balls", 1)], Z ++ [MO.list (intsV (Bq n B (j + 1)))]⟩) ?_ (Om.values hHv) ?_ ?_ ?_ (Oc.of rfl (hvals hHv hvl)) ?_ ?_) ?_) ⟨rfl, (fun p hp => by cases hp), (fun env g _ => rfl), rfl, cell3 (by simp) (by simp) (by simp), names3g rfl rfl, ⟨fun loc => loc = [] ∨ ∃ u : MV, loc = [(("value" : PySem.Str), u)], fun v => [("value", v)], .inl rfl, ?_⟩, ?_, ?_⟩ ?_ ?_ ?_ (vals_num hD28)) ?_ ?_) ?_ ?_ (Oc.op (Op.sorted_intsV (ns := D'.map (·.2)) (ms := Bq n B (j + 1)) ?_ hb.symm hps hsz)) ?_ ?_) ?_ (Op.ne_intsV ?_ ?_) rfl) Exs.nil) ?_
    all_goals (try (repeat' boot_by_name))
    · intro x hx
      obtain ⟨e, he, rfl⟩ := vals_mem hx
      have h28 := hD28 e he
      refine ⟨.inr ⟨_, rfl⟩, fun loc st hok => comp_name rfl loc st hok, fun ys _ => ?_⟩
      show CT _ _ _ _ _ _ (some (MV.int ((numS (decS (e.2 : Nat)) : Nat) : Int)))
      rw [num_dec _ h28]
      refine' .all (Ev.call (xs := [.str (decS (e.2 : Nat))]) ?_ (Evs.cons ?_ ?_ ?_) ?_ ?_ (Oc.op (Op.int_str ?_ ?_)) ?_ ?_)
      all_goals (try (repeat' boot_by_name))
      all_goals omega
    · intro ys
      show ((Z ++ [_]) ++ [_] ++ [_])[(Z ++ [_]).length]? = _
      rw [List.getElem?_append_left (by simp)]; exact lastAt
    · rw [List.length_map, List.length_map]; omega
    · show ((Z ++ [_]) ++ [_]).length = _
      rw [List.length_append]; rfl
    · show ((Z ++ [_]) ++ [_] ++ [_])[(Z ++ [_]).length + 1]? = _
      rw [List.getElem?_append_right (by simp)]; simp
    · have h := hdue [.list (((tab (cj (j + 1)) D' []).map (·.2)).map MV.str), .list (intsV (D'.map (·.2))), .list (intsV (Bq n B (j + 1)))]
      simpa only [List.append_assoc, List.cons_append, List.nil_append] using h
    · refine' ⟨⟨[.list (((tab (cj (j + 1)) D' []).map (·.2)).map MV.str), .list (intsV (D'.map (·.2))), .list (intsV (Bq n B (j + 1)))], ?_⟩, Nat.le_refl _, fun h _ => h, ?_, rfl, cel2 (by simp; omega), trivial⟩
      · show ((Z ++ [_]) ++ [_] ++ [_]) ++ [_] = (Z ++ [_]) ++ [_, _, _]
        rw [List.append_assoc (Z ++ [_]), List.append_assoc (Z ++ [_])]; rfl
      repeat' (first | exact Has.nil | refine' Has.cons rfl ?_ ?_ | exact low_at | exact low_lit | (refine' low_lt ?_; have := idx_lt (Nat.le_refl j); simp only [List.length_append, List.length_cons, List.length_nil, List.length_set]; omega))
  case se =>
    refine' Ex.stE (Ex.assign (v := .str "") ?_ ?_ ?_) ?_ ?_ ?_
    all_goals (try (repeat' boot_by_name))
  case sh =>
    refine' Ex.stE (Ex.expr (Ev.meth (x := .ref 17) (xs := [.ref (18 + j)]) ?_ (Om.list (vs := beenV j) ?_ PySem.F.slot_list_append PySem.F.type_list_append) (Evs.cons ?_ ?_ ?_) ?_ ?_ (Oc.op (Op.append (vs := beenV j) ?_ ?_)) ?_ ?_) ?_ ?_) ?_ ?_ ?_
    all_goals (try (repeat' boot_by_name))
    · have h := hZg [] L2.been
      rw [List.append_nil] at h; exact h
    · have h := hZg [] L2.been
      rw [List.append_nil] at h; exact h
    · rw [been_len]; omega
    · exact ⟨.none, rfl⟩
  case sg =>
    obtain ⟨ps, hs, M, x1, x2, x3, x4, x5, x6, x7, x8⟩ := (htx j hj).ok
    have hck := hcheck (w := w) (k := k + 5) (st := Z ++ [MO.list (intsV (Bq n B (j + 1)))]) (by omega) x3
    have hhg := hheights (w := w) (k := k + 5) (st := Z ++ [MO.list (intsV (Bq n B (j + 1)))]) (by omega) x2 x4 x5 x6 x7
    rw [x8] at hhg
    refine' Ex.drop (Ex.ite (b := false) (Et.or_no (Et.eq (b := !(Value.bool (((0 : Nat) : Int) == 0) == Value.bool true)) (Et.cmp (Ev.call (xs := [.str ⟨(textN (o % 5) (Bq n B j) (Bq n B (j + 1))).toArray⟩]) (σ₃ := ⟨[("script", .lit (.ref a)), ("many", .int m), ("cells", .int n), ("order", .int o), ("dress", .ref 10), ("free", .ref 11), ("table", .ref 13), ("digits", .str d), ("rounds", .ref 16), ("been", .ref 17), ("lap", .int (j : Nat)), ("old", .ref (idx j)), ("due", .ref (18 + j)), ("text", .str ⟨(textN (o % 5) (Bq n B j) (Bq n B (j + 1))).toArray⟩)], [("draws", 0), ("balls", 1)], Z ++ [MO.list (intsV (Bq n B (j + 1)))]⟩) ?_ (Evs.cons ?_ ?_ ?_) ?_ ?_ (Oc.of rfl hck) ?_ ?_) ?_ Op.isnot_bool rfl) rfl) (Et.cmp (Ev.call (xs := [.str ⟨(textN (o % 5) (Bq n B j) (Bq n B (j + 1))).toArray⟩]) (σ₃ := ⟨[("script", .lit (.ref a)), ("many", .int m), ("cells", .int n), ("order", .int o), ("dress", .ref 10), ("free", .ref 11), ("table", .ref 13), ("digits", .str d), ("rounds", .ref 16), ("been", .ref 17), ("lap", .int (j : Nat)), ("old", .ref (idx j)), ("due", .ref (18 + j)), ("text", .str ⟨(textN (o % 5) (Bq n B j) (Bq n B (j + 1))).toArray⟩)], [("draws", 0), ("balls", 1)], Z ++ [MO.list (intsV (Bq n B (j + 1)))]⟩) ?_ (Evs.cons ?_ ?_ ?_) ?_ ?_ (Oc.of rfl hhg) ?_ ?_) ?_ (Op.ne_intsV (xs := rs) ?_ ?_) rfl)) Exs.nil) ?_
    all_goals (try (repeat' boot_by_name))
    · exact getA (j := 3) rfl
    · exact hZg _ L2.rounds
    · refine' ⟨⟨_, rfl⟩, Nat.le_refl _, fun h _ => h, ?_, rfl, cel2 (by simp; omega), trivial⟩
      repeat' (first | exact Has.nil | refine' Has.cons rfl ?_ ?_ | exact low_at | exact low_lit | (refine' low_lt ?_; have := idx_lt (Nat.le_refl j); simp only [List.length_append, List.length_cons, List.length_nil, List.length_set]; omega))
  case dr =>
    refine' Drop.names ?_ ?_ ?_ ?_
    · rw [List.length_set, List.length_append, hZl, hlN]; omega
    rotate_left
    · exact cel2 (by rw [List.length_set, List.length_append, hZl]; omega)
    · exact trivial
    repeat' (first | exact Has.nil | refine' Has.cons rfl ?_ ?_ | exact low_at | exact low_lit | (refine' low_lt ?_; have := idx_lt (Nat.le_refl j); simp only [List.length_append, List.length_cons, List.length_nil, List.length_set]; omega))
  case r1 => rw [show 3 - (j + 1) = r by omega]
  case sf =>
    have hne : ∀ {l : List Nat}, l.length = m → ∃ h t, l = h :: t := fun {l} hl => by
      cases l with
      | nil => simp at hl; omega
      | cons h t => exact ⟨h, t, rfl⟩
    obtain ⟨h0, t0, hh⟩ := hne hol
    have hlastd : ∃ p z, Bq n B (j + 1) = p ++ [z] := by
      obtain ⟨h, t, e⟩ := hne hdl
      exact ⟨_, _, (List.dropLast_concat_getLast (l := Bq n B (j + 1)) (by rw [e]; simp)).symm⟩
    obtain ⟨pd, z, hzz⟩ := hlastd
    have hz28 : z < 28 := hLo.lt' z (by rw [hzz]; simp)
    have h028 : h0 < 28 := hLo.lt h0 (by rw [hh]; exact .head _)
    have hsg : ∀ q, (signN (o % 5) (Bq n B j) (Bq n B (j + 1)) q).length ≤ 3 := fun q => by
      unfold signN
      split
      · decide
      · split
        · decide
        · have := dress_get ((o % 5 + q) % 5) (Nat.mod_lt _ (by decide))
          rw [← this.2.1]; exact this.2.2
    have htxt : textN (o % 5) (Bq n B j) (Bq n B (j + 1)) = (List.range' h0 (z + 1 - h0)).flatMap (signN (o % 5) (Bq n B j) (Bq n B (j + 1))) := by
      unfold textN
      rw [hh, hzz]
      simp
    have hoZ := hZg (sx := []) L2.dress
    rw [List.append_nil] at hoZ
    have hoO := hZg (sx := []) (L2.old j (Nat.le_refl _))
    rw [List.append_nil] at hoO
    have hoD := hdue []
    rw [List.append_nil] at hoD
    have hoO' : (Z ++ [MO.list (intsV (Bq n B (j + 1)))])[idx j]? = some (.list (((Bq n B j).map fun (a : Nat) => (a : Int)).map MV.int)) := by rw [← intsV_ints]; exact hoO
    have hoD' : (Z ++ [MO.list (intsV (Bq n B (j + 1)))])[18 + j]? = some (.list (((Bq n B (j + 1)).map fun (a : Nat) => (a : Int)).map MV.int)) := by rw [← intsV_ints]; exact hoD
    refine' Ex.forP (Ie.up (a := h0) (n := z + 1 - h0) (Tr.call (xs := [.int h0, .int ((z : Int) + 1)]) ?_ (Evs.cons (Ev.sub (x := .ref (idx j)) ?_ ?_ (TyOf.list (vs := intsV (Bq n B j)) ?_) PySem.F.slot_list_getitem.lookup (Op.item (vs := intsV (Bq n B j)) (j := 0) ?_ ?_ ?_ (ints_get (by rw [hh]; rfl))) ?_ ?_) (Evs.cons (Ev.binop (Ev.sub (x := .ref (18 + j)) ?_ ?_ (TyOf.list (vs := intsV (Bq n B (j + 1))) ?_) PySem.F.slot_list_getitem.lookup (Op.item_last (vs := intsV pd) (x := .int z) ?_ ?_) ?_ ?_) ?_ Op.add) ?_ ?_) ?_) ?_ ?_ Oc.range2 ?_ ?_) ?_ ?_) (LpP.inv (fun (a : Nat) => MV.int a) (fun l τ => ∃ t : PySem.Str, t.cps.toList ++ l.flatMap (signN (o % 5) (Bq n B j) (Bq n B (j + 1))) = textN (o % 5) (Bq n B j) (Bq n B (j + 1)) ∧ t.length + 3 * l.length ≤ 100 ∧ τ = ⟨[("script", .lit (.ref a)), ("many", .int m), ("cells", .int n), ("order", .int o), ("dress", .ref 10), ("free", .ref 11), ("table", .ref 13), ("digits", .str d), ("rounds", .ref 16), ("been", .ref 17), ("lap", .int (j : Nat)), ("old", .ref (idx j)), ("due", .ref (18 + j)), ("text", .str t)], [("draws", 0), ("balls", 1)], Z ++ [MO.list (intsV (Bq n B (j + 1)))]⟩) ?_ ?_ ?_ ⟨"", ?_, ?_, rfl⟩) ?_
    all_goals (try (repeat' boot_by_name))
    · omega
    · decide
    · refine hoD.trans ?_
      rw [hzz]
      unfold intsV
      rw [List.map_append]; rfl
    · have := congrArg List.length hzz
      rw [hdl, List.length_append, List.length_singleton] at this
      rw [intsV_len]; omega
    · have h := hspan j hj
      rw [hh, hzz] at h
      simp at h
      omega
    · omega
    · exact fun _ _ _ => trivial
    · rintro τ ⟨t, e, _, rfl⟩
      refine ⟨rfl, ?_⟩
      rw [List.flatMap_nil, List.append_nil] at e
      have ht : t = ⟨(textN (o % 5) (Bq n B j) (Bq n B (j + 1))).toArray⟩ := by rw [← e]
      rw [← ht]
    · rintro q l τ ⟨t, e, hb, rfl⟩
      rw [List.flatMap_cons] at e
      rw [List.length_cons] at hb
      refine' ⟨_, Tg.name rfl, ?_⟩
      by_cases c1 : (Bq n B j).any (· == q) = true
      · have es : signN (o % 5) (Bq n B j) (Bq n B (j + 1)) q = ("(" : PySem.Str).cps.toList := by unfold signN; rw [if_pos c1, str_o]
        rw [es] at e
        have hl1 : ("(" : PySem.Str).length = 1 := by decide +kernel
        refine' ExsP.drop (ExsP.iteT (Et.eq (b := ((Bq n B j).map fun (a : Nat) => (a : Int)).any (· == (q : Int))) (Et.cmp ?_ ?_ (Op.in_ints ?_) rfl) (by rw [any_cast]; exact c1)) (ExsP.cons (σ₁ := ⟨[("script", .lit (.ref a)), ("many", .int m), ("cells", .int n), ("order", .int o), ("dress", .ref 10), ("free", .ref 11), ("table", .ref 13), ("digits", .str d), ("rounds", .ref 16), ("been", .ref 17), ("lap", .int (j : Nat)), ("old", .ref (idx j)), ("due", .ref (18 + j)), ("text", .str (t ++ "(")), ("k", .int (q : Nat))], [("draws", 0), ("balls", 1)], Z ++ [MO.list (intsV (Bq n B (j + 1)))]⟩) (Ex.stE (Ex.aug rfl ?_ ?_ (Op.iadd_str ?_)) ?_ ?_ ?_) (ExsP.nil (Then.next (ExsP.nil ⟨⟨[("script", .lit (.ref a)), ("many", .int m), ("cells", .int n), ("order", .int o), ("dress", .ref 10), ("free", .ref 11), ("table", .ref 13), ("digits", .str d), ("rounds", .ref 16), ("been", .ref 17), ("lap", .int (j : Nat)), ("old", .ref (idx j)), ("due", .ref (18 + j)), ("text", .str (t ++ "("))], [("draws", 0), ("balls", 1)], Z ++ [MO.list (intsV (Bq n B (j + 1)))]⟩, ?_, ⟨t ++ "(", ?_, ?_, rfl⟩⟩)))))
        all_goals (try (repeat' boot_by_name))
        all_goals first | omega | skip
        · refine' Drop.names ?_ ?_ ?_ ?_
          · exact Nat.le_refl _
          rotate_left
          · exact cel2 (by simp; omega)
          · exact trivial
          repeat' (first | exact Has.nil | refine' Has.cons rfl ?_ ?_ | exact low_at | exact low_lit | (refine' low_lt ?_; have := idx_lt (Nat.le_refl j); simp only [List.length_append, List.length_cons, List.length_nil]; omega))
        · rw [← e]
          show (t.cps ++ ("(" : PySem.Str).cps).toList ++ _ = _
          rw [Array.toList_append, List.append_assoc]
        · rw [PySem.Str.length_append]; omega
      · by_cases c2 : (Bq n B (j + 1)).any (· == q) = true
        · have es : signN (o % 5) (Bq n B j) (Bq n B (j + 1)) q = (")" : PySem.Str).cps.toList := by unfold signN; rw [if_neg c1, if_pos c2, str_c]
          rw [es] at e
          have hl1 : (")" : PySem.Str).length = 1 := by decide +kernel
          refine' ExsP.drop (ExsP.iteF (Et.eq (b := ((Bq n B j).map fun (a : Nat) => (a : Int)).any (· == (q : Int))) (Et.cmp ?_ ?_ (Op.in_ints ?_) rfl) (by rw [any_cast]; exact Bool.eq_false_iff.mpr c1)) (ExsP.iteT (Et.eq (b := ((Bq n B (j + 1)).map fun (a : Nat) => (a : Int)).any (· == (q : Int))) (Et.cmp ?_ ?_ (Op.in_ints ?_) rfl) (by rw [any_cast]; exact c2)) (ExsP.cons (σ₁ := ⟨[("script", .lit (.ref a)), ("many", .int m), ("cells", .int n), ("order", .int o), ("dress", .ref 10), ("free", .ref 11), ("table", .ref 13), ("digits", .str d), ("rounds", .ref 16), ("been", .ref 17), ("lap", .int (j : Nat)), ("old", .ref (idx j)), ("due", .ref (18 + j)), ("text", .str (t ++ ")")), ("k", .int (q : Nat))], [("draws", 0), ("balls", 1)], Z ++ [MO.list (intsV (Bq n B (j + 1)))]⟩) (Ex.stE (Ex.aug rfl ?_ ?_ (Op.iadd_str ?_)) ?_ ?_ ?_) (ExsP.nil (Then.next (ExsP.nil (Then.next (ExsP.nil ⟨⟨[("script", .lit (.ref a)), ("many", .int m), ("cells", .int n), ("order", .int o), ("dress", .ref 10), ("free", .ref 11), ("table", .ref 13), ("digits", .str d), ("rounds", .ref 16), ("been", .ref 17), ("lap", .int (j : Nat)), ("old", .ref (idx j)), ("due", .ref (18 + j)), ("text", .str (t ++ ")"))], [("draws", 0), ("balls", 1)], Z ++ [MO.list (intsV (Bq n B (j + 1)))]⟩, ?_, ⟨t ++ ")", ?_, ?_, rfl⟩⟩))))))))
          all_goals (try (repeat' boot_by_name))
          all_goals first | omega | skip
          · refine' Drop.names ?_ ?_ ?_ ?_
            · exact Nat.le_refl _
            rotate_left
            · exact cel2 (by simp; omega)
            · exact trivial
            repeat' (first | exact Has.nil | refine' Has.cons rfl ?_ ?_ | exact low_at | exact low_lit | (refine' low_lt ?_; have := idx_lt (Nat.le_refl j); simp only [List.length_append, List.length_cons, List.length_nil]; omega))
          · rw [← e]
            show (t.cps ++ (")" : PySem.Str).cps).toList ++ _ = _
            rw [Array.toList_append, List.append_assoc]
          · rw [PySem.Str.length_append]; omega
        · have hq5 : (o % 5 + q) % 5 < 5 := Nat.mod_lt _ (by decide)
          have hdr := dress_get _ hq5
          have es : signN (o % 5) (Bq n B j) (Bq n B (j + 1)) q = (dressS ((o % 5 + q) % 5)).cps.toList := by unfold signN; rw [if_neg c1, if_neg c2, hdr.2.1]
          rw [es] at e
          have hl1 := hdr.2.2
          have hmod : ((o : Int) + (q : Int)).fmod 5 = (((o % 5 + q) % 5 : Nat) : Int) := by rw [Int.fmod_eq_emod_of_nonneg _ (by decide)]; omega
          refine' ExsP.drop (ExsP.iteF (Et.eq (b := ((Bq n B j).map fun (a : Nat) => (a : Int)).any (· == (q : Int))) (Et.cmp ?_ ?_ (Op.in_ints ?_) rfl) (by rw [any_cast]; exact Bool.eq_false_iff.mpr c1)) (ExsP.iteF (Et.eq (b := ((Bq n B (j + 1)).map fun (a : Nat) => (a : Int)).any (· == (q : Int))) (Et.cmp ?_ ?_ (Op.in_ints ?_) rfl) (by rw [any_cast]; exact Bool.eq_false_iff.mpr c2)) (ExsP.cons (σ₁ := ⟨[("script", .lit (.ref a)), ("many", .int m), ("cells", .int n), ("order", .int o), ("dress", .ref 10), ("free", .ref 11), ("table", .ref 13), ("digits", .str d), ("rounds", .ref 16), ("been", .ref 17), ("lap", .int (j : Nat)), ("old", .ref (idx j)), ("due", .ref (18 + j)), ("text", .str (t ++ dressS ((o % 5 + q) % 5))), ("k", .int (q : Nat))], [("draws", 0), ("balls", 1)], Z ++ [MO.list (intsV (Bq n B (j + 1)))]⟩) (Ex.stE (Ex.aug rfl ?_ (Ev.sub (x := .ref 10) ?_ (Ev.eq (v := .int (((o : Int) + (q : Int)).fmod 5)) (Ev.binop (Ev.binop ?_ ?_ Op.add) ?_ (Op.mod ?_)) (congrArg MV.int hmod)) (TyOf.list (vs := dressV) ?_) PySem.F.slot_list_getitem.lookup (Op.item (vs := dressV) (j := ((o % 5 + q) % 5 : Nat)) ?_ ?_ ?_ hdr.1) ?_ ?_) (Op.iadd_str ?_)) ?_ ?_ ?_) (ExsP.nil (Then.next (ExsP.nil (Then.next (ExsP.nil ⟨⟨[("script", .lit (.ref a)), ("many", .int m), ("cells", .int n), ("order", .int o), ("dress", .ref 10), ("free", .ref 11), ("table", .ref 13), ("digits", .str d), ("rounds", .ref 16), ("been", .ref 17), ("lap", .int (j : Nat)), ("old", .ref (idx j)), ("due", .ref (18 + j)), ("text", .str (t ++ dressS ((o % 5 + q) % 5)))], [("draws", 0), ("balls", 1)], Z ++ [MO.list (intsV (Bq n B (j + 1)))]⟩, ?_, ⟨t ++ dressS ((o % 5 + q) % 5), ?_, ?_, rfl⟩⟩))))))))
          all_goals (try (repeat' boot_by_name))
          all_goals first | omega | decide | skip
          · refine' Drop.names ?_ ?_ ?_ ?_
            · exact Nat.le_refl _
            rotate_left
            · exact cel2 (by simp; omega)
            · exact trivial
            repeat' (first | exact Has.nil | refine' Has.cons rfl ?_ ?_ | exact low_at | exact low_lit | (refine' low_lt ?_; have := idx_lt (Nat.le_refl j); simp only [List.length_append, List.length_cons, List.length_nil]; omega))
          · rw [← e]
            show (t.cps ++ (dressS ((o % 5 + q) % 5) : PySem.Str).cps).toList ++ _ = _
            rw [Array.toList_append, List.append_assoc]
          · rw [PySem.Str.length_append]; omega
    · rw [htxt]; rfl
    · rw [List.length_range']
      have : ("" : PySem.Str).length = 0 := by decide +kernel
      rw [this]; omega
end
end
section
local macro_rules | `(tactic| boot_by_name) => `(tactic| first
  | exact lastAt)
section
variable {W : Wd} {G : Fx} {k : Nat} {σ : St}
theorem strsV_at (xs : List PySem.Str) : xs.map MV.str = (xs.map FV.str).map MV.at := by rw [List.map_map]; rfl
theorem plain_strs (xs : List PySem.Str) : ∀ x ∈ xs.map FV.str, x.plainEq = true := fun x hx => by
  obtain ⟨a, _, rfl⟩ := List.mem_map.mp hx
  rfl
theorem Op.ne_strsV {i j : Nat} {xs : List PySem.Str} (e1 : σ.st[i]? = some (.list (xs.map MV.str))) (e2 : σ.st[j]? = some (.list (xs.map MV.str))) : Op W G k (t2 (compareOp .NotEq)) [.ref i, .ref j] σ (isV (.bool false)) σ :=
  Op.ne_same (xs := xs.map FV.str) (by rw [← strsV_at]; exact e1) (by rw [← strsV_at]; exact e2) (plain_strs xs)
theorem Op.eq_strsV {i j : Nat} {xs : List PySem.Str} (e1 : σ.st[i]? = some (.list (xs.map MV.str))) (e2 : σ.st[j]? = some (.list (xs.map MV.str))) : Op W G k (t2 (compareOp .Eq)) [.ref i, .ref j] σ (isV (.bool true)) σ :=
  Op.eq_same (xs := xs.map FV.str) (by rw [← strsV_at]; exact e1) (by rw [← strsV_at]; exact e2) (plain_strs xs)
end
theorem lt_nm : ∀ c : Bool, ∀ i, i < 7 → ∀ j, j < 7 → ltCps (nm c j).cps.toList (nm c i).cps.toList = decide (j < i) := by decide +kernel
theorem rising_nm (c : Bool) : ∀ (js : List Nat) (i : Nat), i < 7 → (∀ j ∈ js, j < 7) → risingS (nm c i) (js.map (nm c)) = true → (i :: js).Pairwise (· ≤ ·)
  | [], i, _, _, _ => List.pairwise_singleton _ _
  | j :: js, i, hi, h7, h => by
    have hj := h7 j (.head _)
    rw [List.map_cons] at h
    unfold risingS at h
    have e := lt_nm c i hi j hj
    by_cases q : j < i
    · exfalso
      rw [decide_eq_true q] at e
      simp [e] at h
    · rw [decide_eq_false q] at e
      have h2 : risingS (nm c j) (js.map (nm c)) = true := by
        simp [e] at h
        exact h
      have ih := rising_nm c js j hj (fun x hx => h7 x (.tail _ hx)) h2
      rw [List.pairwise_cons]
      refine ⟨fun x hx => ?_, ih⟩
      rcases List.mem_cons.mp hx with rfl | hx
      · omega
      · have := (List.pairwise_cons.mp ih).1 x hx
        omega
theorem nm_inj {c : Bool} {i j : Nat} (h : nm c i = nm c j) : i = j := by
  unfold nm at h
  injection h with h
  have := congrArg (fun a => a.toList) h
  simp at this
  exact this
theorem keys_sorted {c : Bool} {m : Nat} {js : List Nat} (hm : m ≤ 7) (hp : js.Perm (List.range m)) : ∀ ss', ss'.Perm (js.map (nm c)) → sortedS ss' = true → ss' = (List.range m).map (nm c) := by
  intro ss' hs h
  have hq := hs.trans (hp.map (nm c))
  have : ∃ ks : List Nat, ss' = ks.map (nm c) ∧ ks.Perm (List.range m) := by
    have hall : ∀ s ∈ ss', ∃ k, k < m ∧ s = nm c k := fun s hs' => by
      obtain ⟨k, hk, rfl⟩ := List.mem_map.mp (hq.subset hs')
      exact ⟨k, List.mem_range.mp hk, rfl⟩
    have : ∃ ks : List Nat, ss' = ks.map (nm c) := by
      clear hs h hq
      induction ss' with
      | nil => exact ⟨[], rfl⟩
      | cons s ss ih =>
        obtain ⟨k, _, rfl⟩ := hall s (.head _)
        obtain ⟨ks, rfl⟩ := ih fun s hs => hall s (.tail _ hs)
        exact ⟨k :: ks, rfl⟩
    obtain ⟨ks, rfl⟩ := this
    refine ⟨ks, rfl, ?_⟩
    have : ∀ {l l' : List Nat}, (l.map (nm c)).Perm (l'.map (nm c)) → l.Perm l' := fun {l l'} h => by
      have h' := h.map fun s : PySem.Str => s.cps.toList.headD 0
      have e : ∀ l : List Nat, (l.map (nm c)).map (fun s : PySem.Str => s.cps.toList.headD 0) = l.map fun j => (if c then 65 else 97) + j := fun l => by rw [List.map_map]; rfl
      rw [e, e] at h'
      have h'' := h'.map fun x => x - (if c then 65 else 97)
      have e2 : ∀ l : List Nat, (l.map fun j => (if c then 65 else 97) + j).map (fun x => x - (if c then 65 else 97)) = l := fun l => by
        rw [List.map_map]
        conv => rhs; rw [← List.map_id l]
        apply List.map_congr_left
        intro x _
        show (if c then 65 else 97) + x - (if c then 65 else 97) = x
        omega
      rw [e2, e2] at h''
      exact h''
    exact this hq
  obtain ⟨ks, rfl, hk⟩ := this
  have h7 : ∀ k ∈ ks, k < 7 := fun k hk' => by
    have := List.mem_range.mp (hk.subset hk'); omega
  have hsrt : ks.Pairwise (· ≤ ·) := by
    cases ks with
    | nil => exact List.Pairwise.nil
    | cons i js => exact rising_nm c js i (h7 i (.head _)) (fun j hj => h7 j (.tail _ hj)) h
  rw [sorted_one hk hsrt List.pairwise_le_range]
theorem ABC_cut : ∀ m, m < 8 → ((Txt.slice "ABCDEFG" none (some (m : Nat))).cps.toList.map fun c => (⟨#[c]⟩ : PySem.Str)) = (List.range m).map (nm true) := by decide +kernel
theorem abc_cut : ∀ m, m < 8 → ((Txt.slice "abcdefg" none (some (m : Nat))).cps.toList.map fun c => (⟨#[c]⟩ : PySem.Str)) = (List.range m).map (nm false) := by decide +kernel
theorem cut_size : ∀ m, m < 8 → (Txt.slice "ABCDEFG" none (some (m : Nat))).cps.size ≤ 100000 ∧ (Txt.slice "abcdefg" none (some (m : Nat))).cps.size ≤ 100000 := by decide +kernel
theorem keys_are {c : Bool} {R : List (Nat × Nat)} : (tab c R []).map (·.1) = (R.map (·.1)).map (nm c) := by rw [tab_nil, List.map_map]; rfl
section
variable {w : World} {k : Nat} {a : Addr} {B rs : List Nat} {m n o : Nat} {d : PySem.Str}
theorem st14 (hm7 : m ≤ 7) {R : List (Nat × Nat)} {st : List MO} (hL : LF n m B rs 3 3 true R st) : StAt (ww w) 251 14 (fun s sc => Ex (ww w) ⟨sc, true⟩ (k + 10) s ⟨[("script", .lit (.ref a)), ("many", .int m), ("cells", .int n), ("order", .int o), ("dress", .ref 10), ("free", .ref 11), ("table", .ref 13), ("digits", .str d), ("rounds", .ref 16), ("been", .ref 17)], [("draws", 0), ("balls", 1)], st⟩ .next ⟨[("script", .lit (.ref a)), ("many", .int m), ("cells", .int n), ("order", .int o), ("dress", .ref 10), ("free", .ref 11), ("table", .ref 13), ("digits", .str d), ("rounds", .ref 16), ("been", .ref 17)], [("draws", 0), ("balls", 1)], st⟩) := by
  refine' StAt.mk' (by show List.lookup 251 (hd.heap_39 w.params) = some _; k_is) rfl ?_
  have htl : (tab true R []).length ≤ 1000 := by rw [tab_len, hL.size]; simp; omega
  have h64 : ((R.map (·.1)).map (nm true)).length < 64 := by rw [List.length_map, List.length_map, hL.size]; omega
  have hkeys := hkeys (w := w) (k := k + 9) hL.H htl
  rw [keys_are] at hkeys
  have hcut := ABC_cut m (by omega)
  have hsl : ((Txt.slice "ABCDEFG" none (some (m : Nat))).cps.toList.map fun c => MV.str ⟨#[c]⟩) = ((List.range m).map (nm true)).map MV.str := by rw [← hcut, List.map_map]; rfl
  refine' Ex.drop (Ex.ite (b := false) (Et.cmp (Ev.call (xs := [.ref st.length]) ?_ (Evs.cons (Ev.meth (x := .ref 13) (xs := []) (σ₃ := ⟨[("script", .lit (.ref a)), ("many", .int m), ("cells", .int n), ("order", .int o), ("dress", .ref 10), ("free", .ref 11), ("table", .ref 13), ("digits", .str d), ("rounds", .ref 16), ("been", .ref 17)], [("draws", 0), ("balls", 1)], st⟩) ?_ (Om.keys hL.H) ?_ ?_ ?_ (Oc.of rfl hkeys) ?_ ?_) ?_ ?_) ?_ ?_ (Oc.op (Op.sorted_strs (ss := (R.map (·.1)).map (nm true)) (ms := (List.range m).map (nm true)) ?_ (keys_sorted hm7 hL.lets) h64)) ?_ ?_) (Ev.call (xs := [.str (Txt.slice "ABCDEFG" none (some (m : Nat)))]) ?_ (Evs.cons (Ev.slice_strT (x := "ABCDEFG") (l := none) (u := some (m : Nat)) ?_ ?_ ?_ ?_) ?_ ?_) ?_ ?_ (Oc.op (Op.list_str ?_)) ?_ ?_) (Op.ne_strsV (xs := (List.range m).map (nm true)) ?_ ?_) rfl) Exs.nil) ?_
  all_goals (try (repeat' boot_by_name))
  · decide +kernel
  · exact (cut_size m (by omega)).1
  · show (((st ++ [_]) ++ [_]) ++ [_])[(st ++ [_]).length]? = _
    rw [List.getElem?_append_left (by simp)]; exact lastAt
  · show (((st ++ [_]) ++ [_]) ++ [MO.list _])[((st ++ [_]) ++ [_]).length]? = _
    rw [hsl]; exact lastAt
  · have e3 : ∀ x y z : MO, ((st ++ [x]) ++ [y]) ++ [z] = st ++ [x, y, z] := fun x y z => by rw [List.append_assoc, List.append_assoc]; rfl
    refine' ⟨⟨_, e3 _ _ _⟩, Nat.le_refl _, fun h _ => h, ?_, rfl, cel2 (by rw [hL.len]; omega), trivial⟩
    repeat' (first | exact Has.nil | refine' Has.cons rfl ?_ ?_ | exact low_at | exact low_lit | exact low_lt (show _ < st.length by have := hL.len; omega))
theorem st16 (hm7 : m ≤ 7) {R : List (Nat × Nat)} {st : List MO} (hL : LF n m B rs 3 0 false R st) : StAt (ww w) 251 16 (fun s sc => ∃ σ', Ex (ww w) ⟨sc, true⟩ (k + 10) s ⟨[("script", .lit (.ref a)), ("many", .int m), ("cells", .int n), ("order", .int o), ("dress", .ref 10), ("free", .ref 11), ("table", .ref 13), ("digits", .str d), ("rounds", .ref 16), ("been", .ref 17)], [("draws", 0), ("balls", 1)], st⟩ (.ret (.bool true)) σ') := by
  refine' StAt.mk' (by show List.lookup 251 (hd.heap_39 w.params) = some _; k_is) rfl ?_
  have htl : (tab false R []).length ≤ 1000 := by rw [tab_len, hL.size]; simp; omega
  have h64 : ((R.map (·.1)).map (nm false)).length < 64 := by rw [List.length_map, List.length_map, hL.size]; omega
  have hkeys := hkeys (w := w) (k := k + 9) hL.H htl
  rw [keys_are] at hkeys
  have hcut := abc_cut m (by omega)
  have hsl : ((Txt.slice "abcdefg" none (some (m : Nat))).cps.toList.map fun c => MV.str ⟨#[c]⟩) = ((List.range m).map (nm false)).map MV.str := by rw [← hcut, List.map_map]; rfl
  have hmm : ((m : Int) == (m : Int)) = true := beq_self_eq_true _
  have htm : (tab false R []).length = m := by rw [tab_len, hL.size]; rfl
  have e3 : ∀ x y z : MO, ((st ++ [x]) ++ [y]) ++ [z] = st ++ [x, y, z] := fun x y z => by rw [List.append_assoc, List.append_assoc]; rfl
  have hHp : ∀ x y z : MO, HdAt (((st ++ [x]) ++ [y]) ++ [z]) 13 12 14 (tab false R []) := fun x y z => by rw [e3]; exact hL.H.push _
  have hlen' : ∀ x y z : MO, Ec (ww w) (k + 9) 129 [.ref 13] [] (((st ++ [x]) ++ [y]) ++ [z]) (.int (m : Nat)) (((st ++ [x]) ++ [y]) ++ [z]) := fun x y z => by
    have h := hlen (w := w) (k := k + 8) (hHp x y z) htl
    rw [htm] at h; exact h
  refine' ⟨_, Ex.ret (Ev.and2 (Ev.cmp (Ev.call (xs := [.ref st.length]) ?_ (Evs.cons (Ev.meth (x := .ref 13) (xs := []) (σ₃ := ⟨[("script", .lit (.ref a)), ("many", .int m), ("cells", .int n), ("order", .int o), ("dress", .ref 10), ("free", .ref 11), ("table", .ref 13), ("digits", .str d), ("rounds", .ref 16), ("been", .ref 17)], [("draws", 0), ("balls", 1)], st⟩) ?_ (Om.keys hL.H) ?_ ?_ ?_ (Oc.of rfl hkeys) ?_ ?_) ?_ ?_) ?_ ?_ (Oc.op (Op.sorted_strs (ss := (R.map (·.1)).map (nm false)) (ms := (List.range m).map (nm false)) ?_ (keys_sorted hm7 hL.lets) h64)) ?_ ?_) (Ev.call (xs := [.str (Txt.slice "abcdefg" none (some (m : Nat)))]) ?_ (Evs.cons (Ev.slice_strT (x := "abcdefg") (l := none) (u := some (m : Nat)) ?_ ?_ ?_ ?_) ?_ ?_) ?_ ?_ (Oc.op (Op.list_str ?_)) ?_ ?_) (Op.eq_strsV (xs := (List.range m).map (nm false)) ?_ ?_) rfl) (Ev.eq (v := .bool ((m : Int) == (m : Int))) (Ev.cmp (Ev.call (xs := [.ref 13]) ?_ (Evs.cons ?_ ?_ ?_) ?_ ?_ (Oc.op (Op.len_inst (C := 223) (d := 12) (f := 129) (kv := [("_headers", .ref 14)]) (n := (m : Nat)) rfl ?i1 ?i2 (by show findIn (hd.heap_39 w.params) _ _ = some _; k_is) (by show isFn (hd.heap_39 w.params) _ = true; k_is) ?hc ?h0 ?h1)) ?_ ?_) ?_ Op.eq rfl) (congrArg MV.bool hmm)))⟩
  all_goals (try (repeat' boot_by_name))
  · decide +kernel
  · exact (cut_size m (by omega)).2
  · show (((st ++ [_]) ++ [_]) ++ [_])[(st ++ [_]).length]? = _
    rw [List.getElem?_append_left (by simp)]; exact lastAt
  · show (((st ++ [_]) ++ [_]) ++ [MO.list _])[((st ++ [_]) ++ [_]).length]? = _
    rw [hsl]; exact lastAt
  · exact (hHp _ _ _).i
  · exact (hHp _ _ _).d
  · exact hlen' _ _ _
  · omega
  · omega
def downTo : Nat → List Nat
  | 0 => []
  | j + 1 => j :: downTo j
theorem st15 (hm7 : m ≤ 7) (hm1 : 1 ≤ m) (hn : n ≤ 28) (hlap : ∀ j, j < 3 → LapOk n (Bq n B j) (Bq n B (j + 1)))
    {R : List (Nat × Nat)} {st : List MO} (hL : LF n m B rs 3 3 true R st) : StAt (ww w) 251 15 (fun s sc => ∃ st' R', LF n m B rs 3 0 false R' st' ∧ Ex (ww w) ⟨sc, true⟩ (k + 10) s ⟨[("script", .lit (.ref a)), ("many", .int m), ("cells", .int n), ("order", .int o), ("dress", .ref 10), ("free", .ref 11), ("table", .ref 13), ("digits", .str d), ("rounds", .ref 16), ("been", .ref 17)], [("draws", 0), ("balls", 1)], st⟩ .next ⟨[("script", .lit (.ref a)), ("many", .int m), ("cells", .int n), ("order", .int o), ("dress", .ref 10), ("free", .ref 11), ("table", .ref 13), ("digits", .str d), ("rounds", .ref 16), ("been", .ref 17)], [("draws", 0), ("balls", 1)], st'⟩) := by
  refine' StAt.mk' (by show List.lookup 251 (hd.heap_39 w.params) = some _; k_is) rfl ?_
  suffices h : ∃ σ', (∃ st' R', LF n m B rs 3 0 false R' st' ∧ σ' = ⟨[("script", .lit (.ref a)), ("many", .int m), ("cells", .int n), ("order", .int o), ("dress", .ref 10), ("free", .ref 11), ("table", .ref 13), ("digits", .str d), ("rounds", .ref 16), ("been", .ref 17)], [("draws", 0), ("balls", 1)], st'⟩) ∧ Ex (ww w) ⟨_, true⟩ (k + 10) (.For _ _ _ [] _) ⟨[("script", .lit (.ref a)), ("many", .int m), ("cells", .int n), ("order", .int o), ("dress", .ref 10), ("free", .ref 11), ("table", .ref 13), ("digits", .str d), ("rounds", .ref 16), ("been", .ref 17)], [("draws", 0), ("balls", 1)], st⟩ .next σ' from by
    obtain ⟨σ', ⟨st', R', h1, rfl⟩, h2⟩ := h
    exact ⟨st', R', h1, h2⟩
  refine' Ex.forX (T := fun σ' => ∃ st' R', LF n m B rs 3 0 false R' st' ∧ σ' = ⟨[("script", .lit (.ref a)), ("many", .int m), ("cells", .int n), ("order", .int o), ("dress", .ref 10), ("free", .ref 11), ("table", .ref 13), ("digits", .str d), ("rounds", .ref 16), ("been", .ref 17)], [("draws", 0), ("balls", 1)], st'⟩) (Ie.tup (xs := [.int 2, .int 1, .int 0]) (Ev.tuple (Evs.cons ?_ (Evs.cons ?_ (Evs.cons ?_ ?_ ?_) ?_) ?_) ?_)) (LpP.inv (l := downTo 3) (fun (a : Nat) => MV.int a) (fun l τ => ∃ j st R, l = downTo j ∧ j ≤ 3 ∧ LF n m B rs 3 j (cj j) R st ∧ τ = ⟨[("script", .lit (.ref a)), ("many", .int m), ("cells", .int n), ("order", .int o), ("dress", .ref 10), ("free", .ref 11), ("table", .ref 13), ("digits", .str d), ("rounds", .ref 16), ("been", .ref 17)], [("draws", 0), ("balls", 1)], st⟩) ?_ ?_ ?_ ⟨3, st, R, rfl, by decide, hL, rfl⟩) fun _ _ _ => rfl
  all_goals (try (repeat' boot_by_name))
  · show 3 ≤ 100000; decide
  · exact fun _ _ _ => trivial
  · rintro τ ⟨j, st, R, e, hj, hL, rfl⟩
    cases j with
    | zero => exact ⟨rfl, st, R, hL, rfl⟩
    | succ j => cases e
  clear hL
  rintro x l τ ⟨j', st, R, e, hj', hL, rfl⟩
  cases j' with
  | zero => cases e
  | succ j =>
  unfold downTo at e
  injection e with e1 e2
  subst e1
  subst e2
  have hLo := hlap x (by omega)
  obtain ⟨D', F', g', hP, hI, hb, hl⟩ := hLo.bwd R ((o + 373 * x) % 5040) hL.boxes
  have hlN := hL.len
  have L2 : LF n m B rs 3 x (cj x) D' (SS st 14 11 (tab (cj x) D' []) (freeOf n (Bq n B x))) := hL.step hb (hl.trans hL.lets)
  have hstp := hstep (w := w) (k := k + 6) (o := (o + 373 * x) % 5040) (back := 1) hL.H hL.F (by decide) hP hI hL.nodup (hL.seven hm7) (by rw [hL.size]; exact hm7) (by have := free_len n (Bq n B (x + 1)); omega)
  rw [tab_flip, ← cj_succ, Bool.not_not] at hstp
  generalize hZ : SS st 14 11 (tab (cj x) D' []) (freeOf n (Bq n B x)) = Z at L2 hstp
  have hZl := L2.len
  have hD28 : ∀ e ∈ D', e.2 < 28 := fun e he => hLo.lt _ (hb.subset (List.mem_map.mpr ⟨e, he, rfl⟩))
  have hvl : (tab (cj x) D' []).length ≤ 1000 := by rw [tab_len, L2.size]; simp; omega
  have hsz : (D'.map (·.2)).length < 64 := by rw [List.length_map, L2.size]; omega
  have hps : (Bq n B x).Pairwise (· ≤ ·) := hLo.sorted.imp Nat.le_of_lt
  have hHv := L2.H
  refine' ⟨_, Tg.name rfl, ?_⟩
  refine' ExsP.drop (ExsP.cons (σ₁ := ⟨[("script", .lit (.ref a)), ("many", .int m), ("cells", .int n), ("order", .int o), ("dress", .ref 10), ("free", .ref 11), ("table", .ref 13), ("digits", .str d), ("rounds", .ref 16), ("been", .ref 17), ("lap", .int (x : Nat))], [("draws", 0), ("balls", 1)], Z⟩) ?sc (ExsP.cons (σ₁ := ⟨[("script", .lit (.ref a)), ("many", .int m), ("cells", .int n), ("order", .int o), ("dress", .ref 10), ("free", .ref 11), ("table", .ref 13), ("digits", .str d), ("rounds", .ref 16), ("been", .ref 17), ("lap", .int (x : Nat))], [("draws", 0), ("balls", 1)], Z⟩) ?sd (ExsP.nil ⟨⟨[("script", .lit (.ref a)), ("many", .int m), ("cells", .int n), ("order", .int o), ("dress", .ref 10), ("free", .ref 11), ("table", .ref 13), ("digits", .str d), ("rounds", .ref 16), ("been", .ref 17)], [("draws", 0), ("balls", 1)], Z⟩, ?dr, ⟨x, _, D', rfl, by omega, L2, rfl⟩⟩)))
  case sc =>
    refine' Ex.stE (Ex.expr (Ev.call (xs := [.ref 13, .ref 11, .int ((o + 373 * x) % 5040 : Nat), .int (1 : Nat)]) (σ₃ := ⟨[("script", .lit (.ref a)), ("many", .int m), ("cells", .int n), ("order", .int o), ("dress", .ref 10), ("free", .ref 11), ("table", .ref 13), ("digits", .str d), ("rounds", .ref 16), ("been", .ref 17), ("lap", .int (x : Nat))], [("draws", 0), ("balls", 1)], st⟩) ?_ (Evs.cons ?_ (Evs.cons ?_ (Evs.cons (Ev.eq (v := .int (((o : Int) + 373 * (x : Int)).fmod 5040)) (Ev.binop (Ev.binop ?_ (Ev.binop ?_ ?_ (Op.mul ?_)) Op.add) ?_ (Op.mod ?_)) ?_) (Evs.cons (Ev.eq (v := .int 1) ?_ rfl) ?_ ?_) ?_) ?_) ?_) ?_ ?_ (Oc.of rfl hstp) ?_ ?_) ?_ ?_) ?_ ?_ ?_
    all_goals (try (repeat' boot_by_name))
    · exact IntMulOk.of_left (by decide)
    · decide
    · refine congrArg MV.int ?_
      rw [Int.fmod_eq_emod_of_nonneg _ (by decide)]; omega
    · exact ⟨.none, rfl⟩
  case sd =>
    have hbl := been_get (i := x) (j := 3) (by omega)
    have e3 : ∀ x y z : MO, ((Z ++ [x]) ++ [y]) ++ [z] = Z ++ [x, y, z] := fun x y z => by rw [List.append_assoc, List.append_assoc]; rfl
    have hZp : ∀ {i : Nat} {o : MO} (x y z : MO), Z[i]? = some o → (((Z ++ [x]) ++ [y]) ++ [z])[i]? = some o := fun x y z e => by rw [e3, List.getElem?_append_left (List.getElem?_eq_some_iff.mp e).1]; exact e
    refine' Ex.drop (Ex.ite (b := false) (Et.cmp (Ev.call (xs := [.ref (Z.length + 1)]) ?_ (Evs.cons (Ev.compE (cel' := []) (f := fNum) (ys := intsV (D'.map (·.2))) (Ie.list (i := Z.length) (vs := ((tab (cj x) D' []).map (·.2)).map MV.str) (Ev.meth (x := .ref 13) (xs := []) (σ₃ := ⟨[("script", .lit (.ref a)), ("many", .int m), ("cells", .int n), ("order", .int o), ("dress", .ref 10), ("free", .ref 11), ("table", .ref 13), ("digits", .str d), ("rounds", .ref 16), ("been", .ref 17), ("lap", .int (x : Nat))], [("draws", 0), ("balls", 1)], Z⟩) ?_ (Om.values hHv) ?_ ?_ ?_ (Oc.of rfl (hvals hHv hvl)) ?_ ?_) ?_) ⟨rfl, (fun p hp => by cases hp), (fun env g _ => rfl), rfl, cell3 (by simp) (by simp) (by simp), names3g rfl rfl, ⟨fun loc => loc = [] ∨ ∃ u : MV, loc = [(("value" : PySem.Str), u)], fun v => [("value", v)], .inl rfl, ?_⟩, ?_, ?_⟩ ?_ ?_ ?_ (vals_num hD28)) ?_ ?_) ?_ ?_ (Oc.op (Op.sorted_intsV (ns := D'.map (·.2)) (ms := Bq n B x) ?_ hb.symm hps hsz)) ?_ ?_) (Ev.sub (x := .ref 17) ?_ ?_ (TyOf.list (vs := beenV 3) ?_) PySem.F.slot_list_getitem.lookup (Op.item (vs := beenV 3) (j := (x : Nat)) ?_ ?_ ?_ hbl) ?_ ?_) (Op.ne_intsV ?_ ?_) rfl) Exs.nil) ?_
    all_goals (try (repeat' boot_by_name))
    · intro y hy
      obtain ⟨e, he, rfl⟩ := vals_mem hy
      have h28 := hD28 e he
      refine ⟨.inr ⟨_, rfl⟩, fun loc st hok => comp_name rfl loc st hok, fun ys _ => ?_⟩
      show CT _ _ _ _ _ _ (some (MV.int ((numS (decS (e.2 : Nat)) : Nat) : Int)))
      rw [num_dec _ h28]
      refine' .all (Ev.call (xs := [.str (decS (e.2 : Nat))]) ?_ (Evs.cons ?_ ?_ ?_) ?_ ?_ (Oc.op (Op.int_str ?_ ?_)) ?_ ?_)
      all_goals (try (repeat' boot_by_name))
      all_goals omega
    · intro ys
      show (Z ++ [_] ++ [_])[Z.length]? = _
      rw [List.getElem?_append_left (by simp)]; exact lastAt
    · rw [List.length_map, List.length_map]; omega
    · show (Z ++ [_]).length = _
      rw [List.length_append]; rfl
    · show (Z ++ [_] ++ [_])[Z.length + 1]? = _
      rw [List.getElem?_append_right (by simp)]; simp
    · exact hZp _ _ _ L2.been
    · exact hZp _ _ _ L2.been
    · omega
    · omega
    · exact hZp _ _ _ (L2.old x (by omega))
    · refine' ⟨⟨_, e3 _ _ _⟩, Nat.le_refl _, fun h _ => h, ?_, rfl, cel2 (by rw [hZl]; omega), trivial⟩
      repeat' (first | exact Has.nil | refine' Has.cons rfl ?_ ?_ | exact low_at | exact low_lit | exact low_lt (show _ < Z.length by omega))
  case dr =>
    refine' Drop.names ?_ ?_ ?_ ?_
    · rw [hZl, hlN]; exact Nat.le_refl _
    rotate_left
    · exact cel2 (by rw [hZl]; omega)
    · exact trivial
    repeat' (first | exact Has.nil | refine' Has.cons rfl ?_ ?_ | exact low_at | exact low_lit | exact low_lt (show _ < Z.length by omega))
end
end
end
end
section
open PySem PySem.W PyProof.Rows PySem.Spec PySem.Calls
def spanB (bs : List Bool) : Bool :=
  let B := ballsOf bs
  let n := cellsOf B
  let B1 := dueOf n B
  let B2 := dueOf n B1
  let B3 := dueOf n B2
  decide (B.headD 0 ≤ B1.getLastD 0 + 1) && decide (B1.headD 0 ≤ B2.getLastD 0 + 1) && decide (B2.headD 0 ≤ B3.getLastD 0 + 1)
theorem spanB_ok : bits.all spanB = true := by decide +kernel
theorem bits_of {bs : List Bool} (h : bs.length = 6) : bs ∈ bits := by
  match bs, h with
  | [a, b, c, d, e, f], _ => exact bits_mem a b c d e f
structure Facts (bs : List Bool) (o5 : Nat) : Prop where
  m7 : (ballsOf bs).length ≤ 7
  lap : ∀ j, j < 3 → LapOk (cellsOf (ballsOf bs)) (Bq (cellsOf (ballsOf bs)) (ballsOf bs) j) (Bq (cellsOf (ballsOf bs)) (ballsOf bs) (j + 1))
  last : ∀ j, j < 3 → (Bq (cellsOf (ballsOf bs)) (ballsOf bs) (j + 1)).Pairwise (· ≤ ·)
  span : ∀ j, j < 3 → (Bq (cellsOf (ballsOf bs)) (ballsOf bs) j).headD 0 ≤ (Bq (cellsOf (ballsOf bs)) (ballsOf bs) (j + 1)).getLastD 0 + 1
  text : ∀ j, j < 3 → TextOk ⟨(textN o5 (Bq (cellsOf (ballsOf bs)) (ballsOf bs) j) (Bq (cellsOf (ballsOf bs)) (ballsOf bs) (j + 1))).toArray⟩ (roundsOf (ballsOf bs))
  chain : chainB ⟨(digitsN (cellsOf (ballsOf bs)) (ballsOf bs)).toArray⟩ (roundsOf (ballsOf bs)) = true
  rlen : (roundsOf (ballsOf bs)).length ≤ 100
theorem facts {bs : List Bool} (h : bs.length = 6) {o5 : Nat} (ho : o5 < 5) : Facts bs o5 := by
  have hb := bits_of h
  have h1 := List.all_eq_true.mp allB_ok _ hb
  have h2 := text_all hb ho
  have h3 := chain_ok hb
  have h4 := List.all_eq_true.mp spanB_ok _ hb
  unfold allB at h1
  unfold textB at h2
  unfold chainAll at h3
  unfold spanB at h4
  simp only [Bool.and_eq_true, decide_eq_true_eq] at h1 h2 h3 h4
  obtain ⟨⟨⟨⟨a1, a2⟩, a3⟩, a4⟩, a5⟩ := h1
  obtain ⟨⟨b1, b2⟩, b3⟩ := h2
  obtain ⟨c1, c2⟩ := h3
  obtain ⟨⟨d1, d2⟩, d3⟩ := h4
  have hn : cellsOf (ballsOf bs) ≤ 28 := by unfold cellsOf; omega
  have l1 := lap_ok hn a1
  have l2 := lap_ok hn a2
  have l3 := lap_ok hn a3
  refine ⟨a5, fun j hj => ?_, fun j hj => ?_, fun j hj => ?_, fun j hj => ?_, c1, by omega⟩
  · match j, hj with
    | 0, _ => exact l1
    | 1, _ => exact l2
    | 2, _ => exact l3
  · match j, hj with
    | 0, _ => exact l2.sorted.imp Nat.le_of_lt
    | 1, _ => exact l3.sorted.imp Nat.le_of_lt
    | 2, _ => exact a4.imp Nat.le_of_lt
  · match j, hj with
    | 0, _ => exact d1
    | 1, _ => exact d2
    | 2, _ => exact d3
  · match j, hj with
    | 0, _ => exact text_ok b1
    | 1, _ => exact text_ok b2
    | 2, _ => exact text_ok b3
theorem LF0 {n m : Nat} {B rs : List Nat} {R0 : List (Nat × Nat)} {x0 x1 x2 x3 x4 x5 x6 x7 x8 x15 : MO} (hb : (R0.map (·.2)).Perm B) (hl : (R0.map (·.1)).Perm (List.range m)) :
    LF n m B rs 0 0 false R0 [x0, x1, x2, x3, x4, x5, x6, x7, x8, .list (intsV B), .list dressV, .list (intsV (freeOf n B)), .dict [("_headers", .ref 14)], .inst 223 12, hdL (tab false R0 []), x15, .list (intsV rs), .list [.ref 9]] :=
  ⟨rfl, ⟨rfl, rfl, rfl⟩, rfl, rfl, rfl, rfl, fun i hi => by
    have : i = 0 := by omega
    subst this
    rfl, hb, hl⟩
section
variable {w : World} {oc : Value} {od : Option Addr} {osl : Array (Option Value)} {name qual : PySem.Str} {params : Arguments} {scope : Scope} {dV kV doc pm cdv ct : Value} {an : Option Addr} {t0 t1 t2 t3 t4 t5 t6 t7 t8 t9 t10 t11 t12 t13 t14 t15 t16 : Stmt}
theorem law_walk {a : Addr} {o' : Obj} {ns : List Int} {k : Nat} (hK : (ww w).K.lookup 251 = some ⟨oc, od, .func (fnX name qual params [t0, t1, t2, t3, t4, t5, t6, t7, t8, t9, t10, t11, t12, t13, t14, t15, t16] scope [] dV kV doc pm an cdv ct), osl⟩)
    (hlit : IsLit (WX (ww w) a o') a ns) (hn63 : ns.length ≤ 63) :
    ExsG (ww w) ⟨scope, true⟩ (k + 10) (fun h => h.get? a = some o') [t0, t1, t2, t3, t4, t5, t6, t7, t8, t9, t10, t11, t12, t13, t14, t15, t16] ⟨[("script", .lit (.ref a))], [("draws", 0), ("balls", 1)], [.cell none, .cell none]⟩ (fun fl _ => fl = .ret (.bool true)) := by
  have hD : (drawsI ns).length = 6 := by
    unfold drawsI
    rw [List.length_append, List.length_drop, List.length_take]
    have : padI.length = 6 := rfl
    omega
  have hbl : (parB (drawsI ns)).length = 6 := by unfold parB; rw [List.length_map]; exact hD
  obtain ⟨T, hB⟩ : ∃ T, ballsOf (parB (drawsI ns)) = 0 :: T := ⟨_, rfl⟩
  obtain ⟨o, ho⟩ : ∃ o : Nat, (o : Int) = ns.sum.fmod 5040 := ⟨(ns.sum.fmod 5040).toNat, by
    have : 0 ≤ ns.sum.fmod 5040 := by rw [Int.fmod_eq_emod_of_nonneg _ (by decide)]; exact Int.emod_nonneg _ (by decide)
    omega⟩
  have FX := facts hbl (o5 := o % 5) (Nat.mod_lt _ (by decide))
  obtain ⟨m7, lap, last, span, text, chain, rlen⟩ := FX
  rw [hB] at m7 lap last span text chain rlen
  generalize hBB : (0 :: T : List Nat) = B at m7 lap last span text chain rlen
  obtain ⟨m, hm⟩ : ∃ m, B.length = m := ⟨_, rfl⟩
  have hm1 : 1 ≤ m := by rw [← hm, ← hBB]; simp
  have hm7 : m ≤ 7 := by omega
  have hcell : cellsOf B = 7 + 3 * m := by unfold cellsOf; rw [hm]
  rw [hcell] at lap last span text chain
  have hn : 7 + 3 * m ≤ 28 := by omega
  have hB28 : ∀ b ∈ B, b < 28 := (lap 0 (by decide)).lt
  have hdig : Txt.join "" (digS (7 + 3 * m) B) = ⟨(digitsN (7 + 3 * m) B).toArray⟩ := by rw [← dig_fast]
  rw [← hdig] at chain
  have hzl : ((List.range m).zip B).map (·.2) = B := by rw [List.map_snd_zip]; rw [List.length_range]; omega
  have hzf : ((List.range m).zip B).map (·.1) = List.range m := by rw [List.map_fst_zip]; rw [List.length_range]; omega
  have s0 := (st0 (w := w) (k := k) hlit (by omega)).use hK rfl
  have s1 := (st1 (w := w) (k := k) (a := a) (D := drawsI ns) (T := T) (x2 := .list ((ns.take 6).map MV.int)) (x3 := .list (padI.map MV.int)) (x4 := .list ((ns.take 6).map MV.int)) (x5 := .list ((padI.drop (ns.take 6).length).map MV.int)) hD hB).use hK rfl
  rw [hBB] at s1
  refine ExsG.cons (ExG.ofX (fun _ h => h) s0) (ExsG.cons (ExG.of s1) ?_)
  refine ExsG.cons (ExG.of ((st2 (w := w) (k := k) hm hm7 rfl).use hK rfl)) (ExsG.cons (ExG.of ((st3 (w := w) (k := k) hm7).use hK rfl)) ?_)
  refine ExsG.cons (ExG.ofX (fun _ h => h) ((st4 (w := w) (k := k) hlit ho).use hK rfl)) (ExsG.cons (ExG.of ((st5 (w := w) (k := k) hm7).use hK rfl)) ?_)
  refine ExsG.cons (ExG.of ((st6 (w := w) (k := k) hn).use hK rfl)) (ExsG.cons (ExG.of ((st7 (w := w) (k := k) rfl).use hK rfl)) ?_)
  refine ExsG.cons (ExG.of ((st8 (w := w) (k := k) hm hm7 hB28).use hK rfl)) (ExsG.cons (ExG.of ((st9 (w := w) (k := k) hn).use hK rfl)) ?_)
  obtain ⟨d', s11⟩ := (st11 (w := w) (k := k) (rs := roundsOf B) chain (by omega)).use hK rfl
  refine ExsG.cons (ExG.of ((st10 (w := w) (k := k) rfl).use hK rfl)) (ExsG.cons (ExG.of s11) ?_)
  refine ExsG.cons (ExG.of ((st12 (w := w) (k := k) rfl).use hK rfl)) ?_
  have hL0 := fun {x0 x1 x2 x3 x4 x5 x6 x7 x8 x15 : MO} => LF0 (n := 7 + 3 * m) (m := m) (B := B) (rs := roundsOf B) (R0 := (List.range m).zip B) (x0 := x0) (x1 := x1) (x2 := x2) (x3 := x3) (x4 := x4) (x5 := x5) (x6 := x6) (x7 := x7) (x8 := x8) (x15 := x15) (by rw [hzl]) (by rw [hzf])
  obtain ⟨st', R', hL3, s13⟩ := (st13 (w := w) (k := k) (a := a) (o := o) (d := d') hm7 hm1 hn hm lap text span last hL0).use hK rfl
  refine ExsG.cons (ExG.of s13) (ExsG.cons (ExG.of ((st14 (w := w) (k := k) hm7 hL3).use hK rfl)) ?_)
  obtain ⟨st'', R'', hL6, s15⟩ := (st15 (w := w) (k := k) (a := a) (o := o) (d := d') hm7 hm1 hn lap hL3).use hK rfl
  refine ExsG.cons (ExG.of s15) ?_
  obtain ⟨σ', s16⟩ := (st16 (w := w) (k := k) (a := a) (o := o) (d := d') hm7 hL6).use hK rfl
  exact ExsG.of ⟨_, _, Exs.leave s16 (by simp), rfl⟩
end
end
section
open PySem PySem.W PyProof.Rows PySem.Spec PySem.Calls
theorem room0 {e : Env} : (callerA.deeper e).depth + (0 + 10) < recursionLimit := by
  show callerA.depth + 1 + (0 + 10) < recursionLimit
  decide +kernel
theorem units0 {e : Env} : (callerA.deeper e).units + 8 * (0 + 10) < cLine := by
  show callerA.units + 3 + 8 * (0 + 10) < cLine
  decide +kernel
theorem start_rel {h₀ h₁ : Heap} {L : Addr} {m : PySem.Str → Option Value} {o1 o2 : Obj} {sa : Addr} (F : Fr h₀ L h₁ m) (N : News h₀ L h₁ [(L + 1 + 1, o1), (L + 1, o2)]) (e1 : o1.data = .cell none) (e2 : o2.data = .cell none) (hm : m "script" = some (.ref sa)) :
    Rel h₀ L [("balls", L + 1 + 1), ("draws", L + 1)] [L + 1, L + 1 + 1] ⟨[("script", .lit (.ref sa))], [("draws", 0), ("balls", 1)], [.cell none, .cell none]⟩ h₁ := by
  refine ⟨⟨m, [o2, o1], F, fun p hp => ?_, rfl, .cons ⟨none, e2, rfl⟩ (.one ⟨none, e1, rfl⟩), fun x v e => ?_⟩, ?_, fun x i e => ?_⟩
  · rcases List.mem_cons.mp hp with rfl | hp
    · exact N _ (.tail _ (.head _))
    · rw [show p = (L + 1 + 1, o1) from List.mem_singleton.mp hp]
      exact N _ (.head _)
  · rw [List.lookup_cons] at e
    cases q : x == ("script" : PySem.Str) with
    | true => rw [q] at e; cases e; rw [eq_of_beq q]; exact ⟨_, hm, rfl⟩
    | false => rw [q] at e; cases e
  · rw [List.nodup_cons]
    exact ⟨by simp, by simp⟩
  · have e : List.lookup x [(("draws" : PySem.Str), 0), ("balls", 1)] = some i := e
    rw [List.lookup_cons] at e
    cases q : x == ("draws" : PySem.Str) with
    | true =>
      rw [q] at e; cases e
      rw [eq_of_beq q]
      exact ⟨_, rfl, rfl⟩
    | false =>
      rw [q] at e
      have e : List.lookup x [(("balls" : PySem.Str), 1)] = some i := e
      rw [List.lookup_cons] at e
      cases q2 : x == ("balls" : PySem.Str) with
      | true => rw [q2] at e; cases e; rw [eq_of_beq q2]; exact ⟨_, rfl, rfl⟩
      | false => rw [q2] at e; cases e
theorem lit_of {W : Wd} {h : Heap} {a : Addr} {o : Obj} {items : Array Value} {n : Nat} {ns : List Int} (X : W.K.In h) (ho : h.get? a = some o) (hc : o.cls = .type "list") (hd : o.data = .seq items n) (hi : IntsAre items.toList ns) : IsLit (WX W a o) a ns := by
  refine ⟨o, items, n, ?_, hc, hd, hi⟩
  show (W.K ++ [(a, o)]).lookup a = some o
  rw [List.lookup_append]
  cases q : W.K.lookup a with
  | some y =>
    have := X a y q
    rw [ho] at this
    rw [Option.some.inj this]; rfl
  | none =>
    show ([(a, o)] : Frag).lookup a = some o
    rw [List.lookup_cons, beq_self_eq_true]
theorem finish {W : Wd} {F : Fx} {k : Nat} {Γ : Heap → Prop} {sts : List Stmt} {σ : St} {A : Around} {env : Env} {cl : List (PySem.Str × Addr)} {h₀ : Heap} {L : Addr} {ρ : List Addr} {s : Shared} {Q : Flow → Shared → Prop} {E : Value → Shared → Prop}
    (h : ExsG W F k Γ sts σ (fun fl _ => fl = .ret (.bool true))) (C : Cx W F A env cl h₀ L k) (R : Rel h₀ L cl ρ σ s.heap) (g : Γ h₀) (hg : s.gens = #[])
    (hq : ∀ s', (∀ b o, h₀.get? b = some o → s'.heap.get? b = some o) → s'.os = s.os → AllBare s'.gens → Q (.ret (.bool true)) s') : wpAny W.M A (execs sts env) Q E s := by
  obtain ⟨fl, σ', hr, rfl⟩ := h
  refine wpAny_mono (hr.run C R g (Q := Q) fun f s' ρ' n r => ?_) (fun _ _ x => x) fun _ _ x => x.elim
  obtain ⟨v, rfl, r⟩ := r
  have r : v = .bool true := r
  subst r
  refine hq s' n.rel.keep₀ n.gx.os fun y hy => ?_
  obtain ⟨i, hi, e⟩ := Array.getElem_of_mem hy
  have := n.gx.new i y (by rw [hg]; exact Nat.zero_le _) (by rw [Array.getElem?_eq_getElem hi, e])
  subst this
  rfl
theorem fin_done : PySem.Challenge.rw_re0142_01.Holds := by
  apply hd
  k_fill
  intro w s₀ s₁ mg mb G Y fa o pm cd doc dV kV ho hfd hcd hD hmg hg args vals as hpre hlay hrd hwl hlo
  have KX := kIn_of Y
  have X := (Ground.X G).1
  have V := (Ground.X G).2
  refine Ground.open G ?_
  intro T B D TE TW
  try (refine guard_noD D (by decide +kernel) ?_; clear D)
  obtain ⟨_, _, M⟩ := bmod_of_top T
  have TA := at_of_top T
  try (obtain ⟨_, _, he, B0⟩ := based_of_top T rfl hmg ho hfd; have he' : cd = _ := he; subst he'; clear he)
  clear hmg
  wrow_args hpre hlay hrd hwl hlo
  first | refine callC_kw (enter_call ?_) | refine enter_call ?_
  w_top on
  have K0 := below_caller (Top.heap T)
  w_call any ho hfd hcd hD T F
  clear hfd TA
  rename_i a11 o10 a9 a8 ns hs hlay0 hL1 hr1 hl2 as6 as5 sa vs as2 hL ra w1 r0 hI hr hc1 hc0 h₁ tk o1 o2 hl hr2 N0 X0
  obtain ⟨lo, hlo, hlc, nn, hld⟩ := hL
  have hlit : IsLit (WX (ww w) sa lo) sa ns := lit_of KX hlo hlc hld (by simpa using hI)
  have hwalk := fun {oc od osl name qual params scope dV kV doc pm cdv ct an t0 t1 t2 t3 t4 t5 t6 t7 t8 t9 t10 t11 t12 t13 t14 t15 t16} => law_walk (w := w) (k := 0) (oc := oc) (od := od) (osl := osl) (name := name) (qual := qual) (params := params) (scope := scope) (dV := dV) (kV := kV) (doc := doc) (pm := pm) (cdv := cdv) (ct := ct) (an := an) (t0 := t0) (t1 := t1) (t2 := t2) (t3 := t3) (t4 := t4) (t5 := t5) (t6 := t6) (t7 := t7) (t8 := t8) (t9 := t9) (t10 := t10) (t11 := t11) (t12 := t12) (t13 := t13) (t14 := t14) (t15 := t15) (t16 := t16) (a := sa) (o' := lo) (ns := ns)
  have hrel := start_rel (sa := sa) F N0 hl hr2 rfl
  refine' finish (W := ww w) (F := ⟨_, true⟩) (hwalk (by show List.lookup 251 (hd.heap_39 w.params) = some _; k_is) hlit (by omega)) ?hC hrel hlo hg ?hq
  case hC =>
    refine ⟨rfl, rfl, rfl, rfl, rfl, rfl, rfl, ?_, ?_, KX, ⟨_, _, _, T⟩, fun _ => ⟨rfl, _, _, _, below_caller s₁.heap, rfl⟩⟩
    · exact room0
    · exact units0
  case hq =>
    intro s' keep hos hbare
    refine ⟨.inl ⟨_, _, [], rfl, fun _ => rfl, ReadsW.bool true, ?_, fun _ => ⟨List.nodup_nil, fun _ hm => (nomatch hm)⟩⟩, .of_keep keep, hos, hbare⟩
    first | rfl | wrow_post
end
end Mine
theorem PySem.Challenge.cw_re0142_01_holds : PySem.Challenge.rw_re0142_01.Holds := by
  exact Mine.fin_done
