import PyProof.Rows.All
import Wide.All
import OpenK.AllK
import Wide.FinOn
import PyProof.GenComp
import Lean
import PySem.Challenge.RW_ux0007_01
set_option Elab.async false
section
open PySem PySem.W PyProof.Rows
set_option Elab.async false
set_option autoImplicit false
namespace Mine

/-- pure data -/
inductive D where
  | none
  | bool (b : Bool)
  | int (i : Int)
  | str (l : List Nat)
  | lst (xs : List D)
  | tup (xs : List D)

noncomputable def lim : Nat := 1048576

mutual
/-- v shows the datum in h, by no object of X -/
noncomputable def Rep (X : List Addr) (h : Heap) : D → Value → Prop
  | .none, v => v = .none
  | .bool b, v => v = .bool b
  | .int i, v => ∃ t, v = .int i t
  | .str l, v => l.length ≤ lim ∧ ∃ t, v = .str ⟨l.toArray⟩ t
  | .lst xs, v => xs.length ≤ lim ∧ ∃ a vs, v = .ref a ∧ a ∉ X ∧ h.IsList a (List.toArray vs) ∧ RepL X h xs vs
  | .tup xs, v => xs.length ≤ lim ∧ ∃ a vs, v = .ref a ∧ a ∉ X ∧ h.IsTuple a (List.toArray vs) ∧ RepL X h xs vs
noncomputable def RepL (X : List Addr) (h : Heap) : List D → List Value → Prop
  | [], vs => vs = []
  | d :: ds, vs => ∃ v r, vs = v :: r ∧ Rep X h d v ∧ RepL X h ds r
end

/-- all that is a list's or a tuple's stays -/
noncomputable def SeqExt (h h' : Heap) : Prop := ∀ b o xs n, h.get? b = some o → o.data = .seq xs n → h'.get? b = some o
/-- the same, but for the objects of X -/
noncomputable def SeqBut (X : List Addr) (h h' : Heap) : Prop := ∀ b o xs n, b ∉ X → h.get? b = some o → o.data = .seq xs n → h'.get? b = some o
theorem SeqExt.but {h h' : Heap} (e : SeqExt h h') (X : List Addr) : SeqBut X h h' := fun b o xs n _ => e b o xs n
noncomputable def isSeqAt (h : Heap) (b : Addr) : Prop := ∃ o xs n, h.get? b = some o ∧ o.data = .seq xs n
theorem isSeqAt.ext {h h' : Heap} {b : Addr} (e : SeqExt h h') (x : isSeqAt h b) : isSeqAt h' b := let ⟨o, xs, n, e1, e2⟩ := x; ⟨o, xs, n, e b o xs n e1 e2, e2⟩
noncomputable def XOk (X : List Addr) (h : Heap) : Prop := ∀ x ∈ X, isSeqAt h x
theorem XOk.ext {X : List Addr} {h h' : Heap} (e : SeqExt h h') (x : XOk X h) : XOk X h' := fun b hb => (x b hb).ext e
theorem XOk.fresh {X : List Addr} {h : Heap} (x : XOk X h) : h.objs.size ∉ X := fun hm => let ⟨o, _, _, e, _⟩ := x _ hm; Nat.lt_irrefl _ (Heap.lt_size e)

mutual
theorem Rep.monoB {X : List Addr} {h h' : Heap} (e : SeqBut X h h') : ∀ {d : D} {v : Value}, Rep X h d v → Rep X h' d v
  | .none, _, r => r
  | .bool _, _, r => r
  | .int _, _, r => r
  | .str _, _, r => r
  | .lst _, _, ⟨hl, a, vs, e1, hx, ⟨o, ho, hc, n, hd⟩, r⟩ => ⟨hl, a, vs, e1, hx, ⟨o, e a o _ n hx ho hd, hc, n, hd⟩, RepL.monoB e r⟩
  | .tup _, _, ⟨hl, a, vs, e1, hx, ⟨o, ho, hc, n, hd⟩, r⟩ => ⟨hl, a, vs, e1, hx, ⟨o, e a o _ n hx ho hd, hc, n, hd⟩, RepL.monoB e r⟩
theorem RepL.monoB {X : List Addr} {h h' : Heap} (e : SeqBut X h h') : ∀ {ds : List D} {vs : List Value}, RepL X h ds vs → RepL X h' ds vs
  | [], _, r => r
  | _ :: _, _, ⟨v, r, e1, x, y⟩ => ⟨v, r, e1, Rep.monoB e x, RepL.monoB e y⟩
end
theorem Rep.mono {X : List Addr} {h h' : Heap} (e : SeqExt h h') {d : D} {v : Value} (r : Rep X h d v) : Rep X h' d v := r.monoB (e.but X)
theorem RepL.mono {X : List Addr} {h h' : Heap} (e : SeqExt h h') {d : List D} {v : List Value} (r : RepL X h d v) : RepL X h' d v := r.monoB (e.but X)
mutual
theorem Rep.weak {X X' : List Addr} {h : Heap} (e : ∀ a, a ∈ X' → a ∈ X) : ∀ {d : D} {v : Value}, Rep X h d v → Rep X' h d v
  | .none, _, r => r
  | .bool _, _, r => r
  | .int _, _, r => r
  | .str _, _, r => r
  | .lst _, _, ⟨hl, a, vs, e1, hx, hL, r⟩ => ⟨hl, a, vs, e1, fun h => hx (e a h), hL, RepL.weak e r⟩
  | .tup _, _, ⟨hl, a, vs, e1, hx, hL, r⟩ => ⟨hl, a, vs, e1, fun h => hx (e a h), hL, RepL.weak e r⟩
theorem RepL.weak {X X' : List Addr} {h : Heap} (e : ∀ a, a ∈ X' → a ∈ X) : ∀ {ds : List D} {vs : List Value}, RepL X h ds vs → RepL X' h ds vs
  | [], _, r => r
  | _ :: _, _, ⟨v, r, e1, x, y⟩ => ⟨v, r, e1, Rep.weak e x, RepL.weak e y⟩
end
/-- no other object of h may be added to X where the datum stands in an elder heap without it -/
theorem Rep.avoid {X : List Addr} {h : Heap} {a : Addr} (ha : h.get? a = none) : ∀ {d : D} {v : Value}, Rep X h d v → Rep (a :: X) h d v := by
  intro d v r
  have key : (∀ (d : D) (v : Value), Rep X h d v → Rep (a :: X) h d v) := by
    intro d
    refine D.rec (motive_1 := fun d => ∀ v, Rep X h d v → Rep (a :: X) h d v) (motive_2 := fun ds => ∀ vs, RepL X h ds vs → RepL (a :: X) h ds vs) ?_ ?_ ?_ ?_ ?_ ?_ ?_ ?_ d
    · exact fun v r => r
    · exact fun _ v r => r
    · exact fun _ v r => r
    · exact fun _ v r => r
    · rintro xs ih v ⟨hl, b, vs, e1, hx, hL, r⟩
      exact ⟨hl, b, vs, e1, fun hm => (List.mem_cons.mp hm).elim (fun q => by obtain ⟨o, ho, _⟩ := hL; rw [q, ha] at ho; cases ho) hx, hL, ih vs r⟩
    · rintro xs ih v ⟨hl, b, vs, e1, hx, hL, r⟩
      exact ⟨hl, b, vs, e1, fun hm => (List.mem_cons.mp hm).elim (fun q => by obtain ⟨o, ho, _⟩ := hL; rw [q, ha] at ho; cases ho) hx, hL, ih vs r⟩
    · exact fun vs r => r
    · rintro d ds ih1 ih2 vs ⟨v, r, e1, x, y⟩
      exact ⟨v, r, e1, ih1 v x, ih2 r y⟩
  exact key d v r

section
variable {X : List Addr} {h : Heap}
theorem RepL.length : ∀ {ds : List D} {vs : List Value}, RepL X h ds vs → vs.length = ds.length
  | [], _, r => by cases r; rfl
  | _ :: _, _, ⟨_, _, e1, _, y⟩ => by subst e1; simp [RepL.length y]
theorem RepL.get : ∀ {ds : List D} {vs : List Value} {i : Nat} {d : D}, RepL X h ds vs → ds[i]? = some d → ∃ v, vs[i]? = some v ∧ Rep X h d v
  | [], _, i, d, _, e => by simp at e
  | d :: ds, _, 0, d', ⟨v, r, e1, x, y⟩, e => by subst e1; simp at e; subst e; exact ⟨v, rfl, x⟩
  | d :: ds, _, i + 1, d', ⟨v, r, e1, x, y⟩, e => by
    subst e1
    simp only [List.getElem?_cons_succ] at e ⊢
    exact RepL.get y e
theorem RepL.append : ∀ {ds ds' : List D} {vs vs' : List Value}, RepL X h ds vs → RepL X h ds' vs' → RepL X h (ds ++ ds') (vs ++ vs')
  | [], _, _, _, r, r' => by cases r; exact r'
  | _ :: _, _, _, _, ⟨v, r, e1, x, y⟩, r' => by subst e1; exact ⟨v, r ++ _, rfl, x, RepL.append y r'⟩
theorem RepL.one {d : D} {v : Value} (r : Rep X h d v) : RepL X h [d] [v] := ⟨v, [], rfl, r, rfl⟩
theorem RepL.take : ∀ {ds : List D} {vs : List Value} (n : Nat), RepL X h ds vs → RepL X h (ds.take n) (vs.take n)
  | [], _, n, r => by cases r; simp [RepL]
  | _ :: _, _, 0, _ => by simp [RepL]
  | _ :: _, _, n + 1, ⟨v, r, e1, x, y⟩ => by subst e1; exact ⟨v, _, rfl, x, RepL.take n y⟩
theorem RepL.drop : ∀ {ds : List D} {vs : List Value} (n : Nat), RepL X h ds vs → RepL X h (ds.drop n) (vs.drop n)
  | [], _, n, r => by cases r; simp [RepL]
  | _ :: _, _, 0, r => r
  | _ :: _, _, n + 1, ⟨v, r, e1, x, y⟩ => by subst e1; exact RepL.drop n y
theorem RepL.strs : ∀ {ls : List (List Nat)} {vs : List Value}, RepL X h (ls.map D.str) vs → ∃ l : List (Str × Tok), vs = strValues l ∧ l.map (·.1) = ls.map fun x => (⟨x.toArray⟩ : Str)
  | [], _, r => by cases r; exact ⟨[], rfl, rfl⟩
  | x :: ls, _, ⟨v, r, e1, ⟨_, t, e2⟩, y⟩ => by
    obtain ⟨l, e3, e4⟩ := RepL.strs y
    subst e1 e2 e3
    exact ⟨(⟨x.toArray⟩, t) :: l, rfl, by simp [e4]⟩
end

/-- what of the rest of the state is kept: what the system is, that no generator has a cleanup left, and each generator -/
inductive GX where
  | gen (st : GenState)
  | os (o : OsState)
  | bare
noncomputable def gk (s : Shared) : Nat → Option GX
  | 0 => some (.os s.os)
  | 1 => if s.gens.all GenState.bare then some .bare else none
  | g + 2 => s.gens[g]?.map GX.gen
theorem gk_gen {s : Shared} {g : Nat} {st : GenState} : gk s (g + 2) = some (.gen st) ↔ s.gens[g]? = some st := by
  have e : gk s (g + 2) = s.gens[g]?.map GX.gen := rfl
  rw [e]
  cases q : s.gens[g]? with
  | none => exact ⟨fun h => (nomatch h), fun h => (nomatch h)⟩
  | some x => exact ⟨fun h => (by injection h with h; injection h with h; rw [h]), fun h => (by injection h with h; rw [h]; rfl)⟩
theorem gk_os {s s' : Shared} (h : ∀ g st, gk s g = some st → gk s' g = some st) : s'.os = s.os := by
  have := h 0 (.os s.os) rfl
  have e : gk s' 0 = some (.os s'.os) := rfl
  rw [e] at this
  injection this with this
  injection this
theorem gk_bare {s : Shared} : gk s 1 = some .bare ↔ AllBare s.gens := by
  have e : gk s 1 = if s.gens.all GenState.bare then some .bare else none := rfl
  rw [e]
  by_cases q : s.gens.all GenState.bare = true
  · rw [if_pos q]
    exact ⟨fun _ y hy => Array.all_eq_true'.mp q y hy, fun _ => rfl⟩
  · rw [if_neg q]
    exact ⟨fun h => (nomatch h), fun h => (q (Array.all_eq_true'.mpr h)).elim⟩
/-- everything stays: objects and generators -/
structure Evo (s s' : Shared) : Prop where
  heap : ∀ b o, s.heap.get? b = some o → s'.heap.get? b = some o
  gens : ∀ (g : Nat) (st : GX), gk s g = some st → gk s' g = some st
theorem Evo.refl (s : Shared) : Evo s s := ⟨fun _ _ e => e, fun _ _ e => e⟩
theorem Evo.trans {s s' s'' : Shared} (x : Evo s s') (y : Evo s' s'') : Evo s s'' := ⟨fun b o e => y.heap b o (x.heap b o e), fun g st e => y.gens g st (x.gens g st e)⟩
theorem Evo.seq {s s' : Shared} (x : Evo s s') : SeqExt s.heap s'.heap := fun b o _ _ e _ => x.heap b o e
theorem Evo.tok (s : Shared) (k : Nat) : Evo s { s with toks := k } := ⟨fun _ _ e => e, fun _ _ e => e⟩
theorem Evo.push (s : Shared) (o : Obj) (k : Nat) : Evo s { s with heap := s.heap.push o, toks := k } := ⟨fun _ _ e => Heap.get?_push_of_some _ e, fun _ _ e => e⟩
theorem Evo.ofHeap {s : Shared} {h' : Heap} (k : Nat) (e : ∀ b o, s.heap.get? b = some o → h'.get? b = some o) : Evo s { s with heap := h', toks := k } := ⟨e, fun _ _ e => e⟩

inductive Slot where
  | val (d : D)
  | own (a : Addr) (xs : List D)
noncomputable def Slot.d : Slot → D
  | .val d => d
  | .own _ xs => .lst xs
noncomputable def SlRep (X : List Addr) (h : Heap) : Slot → Value → Prop
  | .val d, v => Rep X h d v
  | .own a xs, v => v = .ref a ∧ a ∉ X ∧ xs.length ≤ lim ∧ ∃ vs, h.PlainList a (List.toArray vs) ∧ RepL X h xs vs
theorem SlRep.rep {X : List Addr} {h : Heap} : ∀ {sl : Slot} {v : Value}, SlRep X h sl v → Rep X h sl.d v
  | .val _, _, r => r
  | .own a _, _, ⟨e, hx, hl, vs, P, r⟩ => ⟨hl, a, vs, e, hx, P.isList, r⟩
theorem SlRep.monoB {X : List Addr} {h h' : Heap} (e : SeqBut X h h') : ∀ {sl : Slot} {v : Value}, SlRep X h sl v → SlRep X h' sl v
  | .val _, _, r => Rep.monoB e r
  | .own a _, _, ⟨e1, hx, hl, vs, ⟨n, ho⟩, r⟩ => ⟨e1, hx, hl, vs, ⟨n, e a _ _ n hx ho rfl⟩, RepL.monoB e r⟩
theorem SlRep.mono {X : List Addr} {h h' : Heap} (e : SeqExt h h') {sl : Slot} {v : Value} (r : SlRep X h sl v) : SlRep X h' sl v := r.monoB (e.but X)

noncomputable abbrev Loc := List (Str × Slot)
noncomputable def Loc.set : Loc → Str → Slot → Loc
  | [], x, v => [(x, v)]
  | (y, w) :: r, x, v => if y == x then (x, v) :: r else (y, w) :: Loc.set r x v
theorem Loc.lookup_set : ∀ (ρ : Loc) (x : Str) (v : Slot) (y : Str), (ρ.set x v).lookup y = if y = x then some v else ρ.lookup y
  | [], x, v, y => by
    by_cases h : y = x
    · subst h; simp [Loc.set]
    · have : (y == x) = false := by simpa using h
      simp [Loc.set, List.lookup_cons, this, h]
  | (z, w) :: r, x, v, y => by
    by_cases hz : z = x
    · subst hz
      by_cases h : y = z
      · subst h; simp [Loc.set]
      · have : (y == z) = false := by simpa using h
        simp [Loc.set, List.lookup_cons, this, h]
    · have hzx : (z == x) = false := by simpa using hz
      rw [Loc.set, hzx]
      simp only [Bool.false_eq_true, if_false, List.lookup_cons, Loc.lookup_set r x v y]
      by_cases h : y = z
      · subst h; simp [hz]
      · have : (y == z) = false := by simpa using h
        simp [this]

structure Base where
  heap : Heap
  gens : Nat → Option GX
  X : List Addr

/-- what the walk needs of the module's top -/
structure TopL (p : Program) (mg mb : Str → Option Value) (h : Heap) : Prop where
  g : h.Ns mainGlobals mg
  b : h.Ns builtinsNs mb
  nolimit : h.NoLimit
  fn : ∀ d ∈ recsOf p, ∃ a o pm code doc, mg d.name = some (.ref a) ∧ h.get? a = some o ∧ o.data = .func (Calls.docDef d.name d.params d.body d.scope pm code doc) ∧ h.CodeRec code d.name
  const : ∀ x d, x ≠ Str.ofString "__name__" → valOf p x = some d → ∃ v, mg x = some v ∧ ∀ h' : Heap, Reads h' v d []
  builtins : ∀ x : Str, x ≠ "__name__" → mb x = bootBuiltins x
theorem TopL.keeps {p : Program} {mg mb : Str → Option Value} {h h' : Heap} (T : TopL p mg mb h) (k : ∀ b o, h.get? b = some o → h'.get? b = some o) : TopL p mg mb h' where
  g := T.g.keeps k
  b := T.b.keeps k
  nolimit := T.nolimit.keeps k
  fn := fun d hd => let ⟨a, o, pm, code, doc, h1, h2, h3, h4⟩ := T.fn d hd; ⟨a, o, pm, code, doc, h1, k _ _ h2, h3, h4.keeps k⟩
  const := T.const
  builtins := T.builtins
structure Wf (p : Program) (h : Heap) : Prop where
  top : ∃ (_ _ : Unit), ∃ mg mb, TopL p mg mb h ∧ mg (Str.ofString "len") = none ∧ mg (Str.ofString "range") = none ∧ mg (Str.ofString "enumerate") = none
theorem Wf.keeps {p : Program} {h h' : Heap} (W : Wf p h) (k : ∀ b o, h.get? b = some o → h'.get? b = some o) : Wf p h' :=
  let ⟨a, b, c, d, T, e⟩ := W.top; ⟨a, b, c, d, T.keeps k, e⟩

/-- the frame's state -/
structure FS (p : Program) (B : Base) (env : Env) (ρ : Loc) (s : Shared) : Prop where
  wf : Wf p B.heap
  keep : ∀ b o, B.heap.get? b = some o → s.heap.get? b = some o
  kgens : ∀ (g : Nat) (st : GX), B.gens g = some st → gk s g = some st
  ns : ∃ m, s.heap.Ns env.locals m ∧ ∀ x sl, ρ.lookup x = some sl → env.kindOf x = some .local → ∃ v, m x = some v ∧ SlRep B.X s.heap sl v
  lnew : B.heap.get? env.locals = none
  cell : ∀ x c, env.cells.lookup x = some c → ∃ v, s.heap.IsCell c v ∧ ∀ sl, ρ.lookup x = some sl → (env.kindOf x = some .cell ∨ env.kindOf x = some .free) → ∃ u, v = some u ∧ SlRep B.X s.heap sl u
  has : ∀ x sl, ρ.lookup x = some sl → (env.kindOf x = some .cell ∨ env.kindOf x = some .free) → (env.cells.lookup x).isSome = true
  cnew : env.func.isSome = true → (∀ x c, env.cells.lookup x = some c → B.heap.get? c = none) ∧ env.cells.Pairwise fun x y => x.2 ≠ y.2
  onew : ∀ x a xs, ρ.lookup x = some (Slot.own a xs) → B.heap.get? a = none
  alive : ∀ x a xs, ρ.lookup x = some (Slot.own a xs) → ∃ vs, s.heap.PlainList a vs
  xok : XOk B.X s.heap
  kind : env.scope.kind = .function
  glob : env.globals = mainGlobals
  blt : env.builtins = builtinsNs

section
variable {p : Program} {B : Base} {env : Env} {ρ : Loc} {s s' : Shared}

theorem FS.world (F : FS p B env ρ s) : Wf p s.heap := F.wf.keeps F.keep

/-- the state goes on, everything of the frame stays -/
theorem FS.evo (F : FS p B env ρ s) (e : Evo s s') : FS p B env ρ s' where
  wf := F.wf
  keep := fun b o h => e.heap b o (F.keep b o h)
  kgens := fun g st h => e.gens g st (F.kgens g st h)
  ns := let ⟨m, hn, hm⟩ := F.ns; ⟨m, hn.keeps e.heap, fun x sl h k => let ⟨v, a, b⟩ := hm x sl h k; ⟨v, a, b.mono e.seq⟩⟩
  lnew := F.lnew
  cell := fun x c h => let ⟨v, hc, hv⟩ := F.cell x c h; ⟨v, hc.keeps e.heap, fun sl h1 h2 => let ⟨u, a, b⟩ := hv sl h1 h2; ⟨u, a, b.mono e.seq⟩⟩
  has := F.has
  cnew := F.cnew
  onew := F.onew
  alive := fun x a xs h => let ⟨vs, n, e'⟩ := F.alive x a xs h; ⟨vs, n, e.heap _ _ e'⟩
  xok := F.xok.ext e.seq
  kind := F.kind
  glob := F.glob
  blt := F.blt
end
end Mine
end
section
open PySem PySem.W PyProof.Rows
set_option Elab.async false
set_option autoImplicit false
set_option linter.unusedVariables false
namespace Mine

section
variable (p : Program) (w : World) (A : Around)
noncomputable def TV (X : List Addr) (I : Shared → Prop) (t : Sem Value) (d : D) : Prop :=
  ∀ (s : Shared) (Q : Value → Shared → Prop) (E : Value → Shared → Prop), I s → (∀ v s', Evo s s' → Rep X s'.heap d v → Q v s') → wpAny (model p w) A t Q E s
noncomputable def EV (env : Env) (ρ : Loc) (e : Expr) (d : D) : Prop := ∀ B, TV p w A B.X (FS p B env ρ) (eval e env) d
noncomputable def BV (env : Env) (ρ : Loc) (e : Expr) (b : Bool) : Prop :=
  ∀ B (s : Shared) (Q : Bool → Shared → Prop) (E : Value → Shared → Prop), FS p B env ρ s → (∀ s', Evo s s' → Q b s') → wpAny (model p w) A (isTrue e env (eval e env)) Q E s
noncomputable def BinV (op : Operator) (d1 d2 d : D) : Prop :=
  ∀ (X : List Addr) (s : Shared) (Q : Value → Shared → Prop) (E : Value → Shared → Prop) v1 v2, XOk X s.heap → Rep X s.heap d1 v1 → Rep X s.heap d2 v2 → (∀ v s', Evo s s' → Rep X s'.heap d v → Q v s') → wpAny (model p w) A (binaryOp op v1 v2) Q E s
noncomputable def UnV (op : UnaryOp) (d1 d : D) : Prop :=
  ∀ (X : List Addr) (s : Shared) (Q : Value → Shared → Prop) (E : Value → Shared → Prop) v1, XOk X s.heap → Rep X s.heap d1 v1 → (∀ v s', Evo s s' → Rep X s'.heap d v → Q v s') → wpAny (model p w) A (unaryOp op v1) Q E s
noncomputable def CmpV (op : CmpOp) (d1 d2 : D) (b : Bool) : Prop :=
  ∀ (X : List Addr) (s : Shared) (Q : Value → Shared → Prop) (E : Value → Shared → Prop) v1 v2, XOk X s.heap → Rep X s.heap d1 v1 → Rep X s.heap d2 v2 → (∀ s', Evo s s' → Q (.bool b) s') → wpAny (model p w) A (compareOp op v1 v2) Q E s
noncomputable def TruthV (d : D) (b : Bool) : Prop :=
  ∀ (X : List Addr) (s : Shared) (Q : Bool → Shared → Prop) (E : Value → Shared → Prop) v, XOk X s.heap → Rep X s.heap d v → (∀ s', Evo s s' → Q b s') → wpAny (model p w) A (truthy v) Q E s
noncomputable def ItemV (d1 d2 d : D) : Prop :=
  ∀ (X : List Addr) (value slice : Expr) (s : Shared) (Q : Value → Shared → Prop) (E : Value → Shared → Prop) v1 v2, XOk X s.heap → Rep X s.heap d1 v1 → Rep X s.heap d2 v2 → (∀ v s', Evo s s' → Rep X s'.heap d v → Q v s') → wpAny (model p w) A (subscriptTail value slice v1 v2) Q E s
noncomputable def EVL (env : Env) (ρ : Loc) (es : List Expr) (ds : List D) : Prop :=
  ∀ B pos (s : Shared) (Q : List Value → Shared → Prop) (E : Value → Shared → Prop), FS p B env ρ s → (∀ vs s', Evo s s' → RepL B.X s'.heap ds vs → Q vs s') → wpAny (model p w) A (spliced (backTo pos (starEach es env))) Q E s
noncomputable def EVO (env : Env) (ρ : Loc) (e : Option Expr) (d : Option Int) : Prop :=
  ∀ B (s : Shared) (Q : Value → Shared → Prop) (E : Value → Shared → Prop), FS p B env ρ s → (∀ v s', Evo s s' → IsPart v d → Q v s') → wpAny (model p w) A (evalPart e env) Q E s
end

section
variable {p : Program} {w : World} {A : Around} {env : Env} {ρ : Loc} {pos : Pos}

theorem EV.cint (i : Int) (k : Nat) : EV p w A env ρ (.Constant (.int i) k pos) (.int i) := fun _ s _ _ _ k => wpAny_Constant_int (k _ _ (Evo.tok s _) ⟨_, rfl⟩)
theorem EV.cnone (k : Nat) : EV p w A env ρ (.Constant .none k pos) .none := fun _ s _ _ _ k => wpAny_Constant_none (k _ _ (Evo.refl s) rfl)
theorem EV.cbool (b : Bool) (k : Nat) : EV p w A env ρ (.Constant (.bool b) k pos) (.bool b) := fun _ s _ _ _ k => wpAny_Constant_bool (k _ _ (Evo.refl s) rfl)
theorem EV.cstr {x : Str} (l : List Nat) (k : Nat) (hx : x = ⟨l.toArray⟩) (hl : l.length ≤ lim) : EV p w A env ρ (.Constant (.str x) k pos) (.str l) := fun _ s _ _ _ k => by
  subst hx; exact wpAny_Constant_str (k _ _ (Evo.tok s _) ⟨hl, _, rfl⟩)

/-- how a name may be read -/
noncomputable def Rd (env : Env) (x : Str) : Prop := env.kindOf x = some .local ∨ env.kindOf x = some .cell ∨ (env.kindOf x = some .free ∧ (x == ("__classdict__" : Str)) = false)
theorem LV.name {B : Base} {s : Shared} {Q : Value → Shared → Prop} {E : Value → Shared → Prop} {x : Str} {sl : Slot} (F : FS p B env ρ s) (h : ρ.lookup x = some sl) (hk : Rd env x) (k : ∀ v, SlRep B.X s.heap sl v → Q v s) : wpAny (model p w) A (loadName env x) Q E s := by
  rcases hk with hk | hk | ⟨hk, hn⟩
  · obtain ⟨m, hm, hv⟩ := F.ns
    obtain ⟨v, hv, r⟩ := hv x sl h hk
    exact wpAny_loadName_local F.kind hk hm hv (k _ r)
  · obtain ⟨c, hc⟩ := Option.isSome_iff_exists.mp (F.has x sl h (.inl hk))
    obtain ⟨v, hcell, hv⟩ := F.cell x c hc
    obtain ⟨u, rfl, r⟩ := hv sl h (.inl hk)
    exact wpAny_loadName_cell F.kind hk hc hcell (k _ r)
  · obtain ⟨c, hc⟩ := Option.isSome_iff_exists.mp (F.has x sl h (.inr hk))
    obtain ⟨v, hcell, hv⟩ := F.cell x c hc
    obtain ⟨u, rfl, r⟩ := hv sl h (.inr hk)
    exact wpAny_loadName_free F.kind hk hc hcell (k _ r) hn
theorem EV.name {x : Str} {sl : Slot} (h : ρ.lookup x = some sl) (hk : Rd env x) (hd : (x == ("__debug__" : Str)) = false := by decide) :
    EV p w A env ρ (.Name x pos) sl.d := fun B s Q E F k => wpAny_Name (LV.name F h hk fun v r => k v s (Evo.refl s) r.rep) hd

theorem EV.gstr {x : Str} {l : List Nat} (hv : valOf p x = some (.str ⟨l.toArray⟩)) (hl : l.length ≤ lim) (hk : env.kindOf x = some .globalImplicit) (hd : (x == ("__debug__" : Str)) = false := by decide) (hn : (x == Str.ofString "__name__") = false := by decide +kernel) :
    EV p w A env ρ (.Name x pos) (.str l) := fun B s Q E F k => by
  obtain ⟨loose, mean, mg, mb, T, _⟩ := F.world.top
  obtain ⟨v, h1, h2⟩ := T.const x _ (fun q => by rw [q, beq_self_eq_true] at hn; cases hn) hv
  have h3 := h2 s.heap
  cases h3 with
  | str _ t =>
    refine Calls.Name_function_global F.kind hk ?_ hd
    exact Calls.loadGlobal_global (by rw [F.glob]; exact T.g) h1 (k _ _ (Evo.refl s) ⟨hl, t, rfl⟩)

theorem EV.binop {l r : Expr} {op : Operator} {d1 d2 d : D} (hl : EV p w A env ρ l d1) (hr : EV p w A env ρ r d2) (hb : BinV p w A op d1 d2 d) : EV p w A env ρ (.BinOp l op r pos) d :=
  fun B s _ _ F k => wpAny_BinOp (hl B s _ _ F fun v1 s1 e1 r1 => hr B s1 _ _ (F.evo e1) fun v2 s2 e2 r2 => hb B.X s2 _ _ _ _ (F.evo (e1.trans e2)).xok (r1.mono e2.seq) r2 fun v s3 e3 r3 => k v s3 (e1.trans (e2.trans e3)) r3)
theorem EV.unop {x : Expr} {op : UnaryOp} {d1 d : D} (hx : EV p w A env ρ x d1) (hb : UnV p w A op d1 d) : EV p w A env ρ (.UnaryOp op x pos) d :=
  fun B s _ _ F k => wpAny_UnaryOp (hx B s _ _ F fun v1 s1 e1 r1 => hb B.X s1 _ _ _ (F.evo e1).xok r1 fun v s3 e3 r3 => k v s3 (e1.trans e3) r3)
theorem EV.cmp {l r : Expr} {op : CmpOp} {d1 d2 : D} {b : Bool} (hl : EV p w A env ρ l d1) (hr : EV p w A env ρ r d2) (hb : CmpV p w A op d1 d2 b) (hm : behindInMarks op r = false := by with_unfolding_all rfl) : EV p w A env ρ (.Compare l [op] [r] pos) (.bool b) :=
  fun B s _ _ F k => wpAny_Compare1 (hl B s _ _ F fun v1 s1 e1 r1 => hr B s1 _ _ (F.evo e1) fun v2 s2 e2 r2 => hb B.X s2 _ _ _ _ (F.evo (e1.trans e2)).xok (r1.mono e2.seq) r2 fun s3 e3 => k _ s3 (e1.trans (e2.trans e3)) rfl) hm
theorem BV.cmp {l r : Expr} {op : CmpOp} {d1 d2 : D} {b : Bool} (hl : EV p w A env ρ l d1) (hr : EV p w A env ρ r d2) (hb : CmpV p w A op d1 d2 b) (hm : behindInMarks op r = false := by with_unfolding_all rfl) : BV p w A env ρ (.Compare l [op] [r] pos) b :=
  fun B s _ _ F k => wpAny_isTrue_Compare1 (hl B s _ _ F fun v1 s1 e1 r1 => hr B s1 _ _ (F.evo e1) fun v2 s2 e2 r2 => hb B.X s2 _ _ _ _ (F.evo (e1.trans e2)).xok (r1.mono e2.seq) r2 fun s3 e3 => wpAny_truthy_bool (k s3 (e1.trans (e2.trans e3)))) hm
theorem BV.plain {e : Expr} {d : D} {b : Bool} (he : EV p w A env ρ e d) (ht : TruthV p w A d b)
    (heq : ∀ whole, PySem.isTrue e env whole = (do let v ← whole; standAt e.pos; holding [v] (truthy v)) := by intro _; rfl) : BV p w A env ρ e b :=
  fun B s _ _ F k => isTrue_plain (he B s _ _ F fun v s1 e1 r1 => ht B.X s1 _ _ v (F.evo e1).xok r1 fun s2 e2 => k s2 (e1.trans e2)) (heq _)
theorem BV.not {x : Expr} {b : Bool} (hx : BV p w A env ρ x b) : BV p w A env ρ (.UnaryOp .Not x pos) (!b) :=
  fun B s _ _ F k => isTrue_not (hx B s _ _ F fun s1 e1 => k s1 e1)
theorem BV.and2 {x y : Expr} {b c : Bool} (hx : BV p w A env ρ x b) (hy : b = true → BV p w A env ρ y c) : BV p w A env ρ (.BoolOp .And [x, y] pos) (b && c) :=
  fun B s _ _ F k => isTrue_and (hx B s _ _ F fun s1 e1 => by
    cases b with
    | false => exact k s1 e1
    | true => exact isTrue_and (hy rfl B s1 _ _ (F.evo e1) fun s2 e2 => by
        cases c with
        | false => exact k s2 (e1.trans e2)
        | true => exact isTrue_and_nil (k s2 (e1.trans e2))))
theorem EV.ifexp {t x y : Expr} {b : Bool} {d : D} (ht : BV p w A env ρ t b) (hx : b = true → EV p w A env ρ x d) (hy : b = false → EV p w A env ρ y d) : EV p w A env ρ (.IfExp t x y pos) d :=
  fun B s _ _ F k => wpAny_IfExp (ht B s _ _ F fun s1 e1 => by
    cases b with
    | true => exact hx rfl B s1 _ _ (F.evo e1) fun v s2 e2 r => k v s2 (e1.trans e2) r
    | false => exact hy rfl B s1 _ _ (F.evo e1) fun v s2 e2 r => k v s2 (e1.trans e2) r)

theorem EVL.nil : EVL p w A env ρ [] [] := fun B pos s Q E F k => by
  show wpAny _ _ (spliced []) _ _ _
  exact Calls.spliced_nil (k [] s (Evo.refl s) rfl)
theorem EVL.cons {e : Expr} {es : List Expr} {d : D} {ds : List D} (he : EV p w A env ρ e d) (hes : EVL p w A env ρ es ds) (hs : starEach (e :: es) env = (false, eval e env) :: starEach es env := by rfl) :
    EVL p w A env ρ (e :: es) (d :: ds) := fun B pos s Q E F k => by
  rw [hs]
  show wpAny _ _ (spliced ((false, eval e env) :: backTo pos (starEach es env))) _ _ _
  exact Calls.spliced_cons (he B s _ _ F fun v s1 e1 r1 => hes B pos s1 _ _ (F.evo e1) fun vs s2 e2 r2 => k _ s2 (e1.trans e2) ⟨v, vs, rfl, r1.mono e2.seq, r2⟩)

theorem lim_size : lim ≤ sizeLine := by rw [sizeLine_eq]; decide

theorem Rep.newLst {X : List Addr} {h : Heap} {ds : List D} {vs : List Value} (hx : XOk X h) (hl : ds.length ≤ lim) (r : RepL X h ds vs) (cls : String) (hc : cls = "list") :
    Rep X (h.push { cls := .type cls, data := .seq vs.toArray }) (.lst ds) (.ref h.objs.size) := by
  subst hc
  exact ⟨hl, _, vs, rfl, hx.fresh, ⟨_, Heap.get?_push_size _ rfl, rfl, _, rfl⟩, r.mono fun _ _ _ _ e _ => Heap.get?_push_of_some _ e⟩
theorem Rep.newTup {X : List Addr} {h : Heap} {ds : List D} {vs : List Value} (hx : XOk X h) (hl : ds.length ≤ lim) (r : RepL X h ds vs) :
    Rep X (h.push { cls := .type "tuple", data := .seq vs.toArray }) (.tup ds) (.ref h.objs.size) :=
  ⟨hl, _, vs, rfl, hx.fresh, ⟨_, Heap.get?_push_size _ rfl, rfl, _, rfl⟩, r.mono fun _ _ _ _ e _ => Heap.get?_push_of_some _ e⟩

theorem EV.clist {es : List Expr} {ds : List D} (h : EVL p w A env ρ es ds) (hl : ds.length ≤ lim) : EV p w A env ρ (.List es pos) (.lst ds) := fun B s Q E F k =>
  wpAny_List (h B pos s _ _ F fun vs s1 e1 r1 => ⟨by rw [r1.length]; exact Nat.le_trans hl lim_size, k _ _ (e1.trans (Evo.push s1 _ _)) (Rep.newLst (F.evo e1).xok hl r1 "list" rfl)⟩)
theorem EV.ctuple {es : List Expr} {ds : List D} {kk : Nat} (h : EVL p w A env ρ es ds) (hl : ds.length ≤ lim) : EV p w A env ρ (.Tuple es kk pos) (.tup ds) := fun B s Q E F k =>
  wpAny_Tuple (h B pos s _ _ F fun vs s1 e1 r1 => ⟨by rw [r1.length]; exact Nat.le_trans hl lim_size, k _ _ (e1.trans (Evo.push s1 _ _)) (Rep.newTup (F.evo e1).xok hl r1)⟩)

theorem subscripted_ops (slice : Expr) (o i : Value) : ∃ ops, subscripted slice false o i = operate ops (getItem o i) := by
  unfold subscripted
  split
  · exact ⟨_, rfl⟩
  · rename_i h; cases h
  · exact ⟨_, rfl⟩

theorem EV.sub {value slice : Expr} {d1 d2 d : D} (hv : EV p w A env ρ value d1) (hs : EV p w A env ρ slice d2) (hi : ItemV p w A d1 d2 d) : EV p w A env ρ (.Subscript value slice pos) d :=
  fun B s _ _ F k => Subscript_ (hv B s _ _ F fun v1 s1 e1 r1 => hs B s1 _ _ (F.evo e1) fun v2 s2 e2 r2 => hi B.X _ _ s2 _ _ _ _ (F.evo (e1.trans e2)).xok (r1.mono e2.seq) r2 fun v s3 e3 r3 => k v s3 (e1.trans (e2.trans e3)) r3)

end
end Mine
end
section
open PySem PySem.W PyProof.Rows
set_option Elab.async false
set_option autoImplicit false
set_option linter.unusedVariables false
namespace Mine
section
variable {p : Program} {w : World} {A : Around} {env : Env} {ρ : Loc} {pos : Pos}

theorem BinV.add_int (a b : Int) : BinV p w A .Add (.int a) (.int b) (.int (a + b)) := by
  rintro X s Q E _ _ hX ⟨t, rfl⟩ ⟨u, rfl⟩ k
  exact PyProof.Rows.add_int (k _ _ (Evo.tok s _) ⟨_, rfl⟩)
theorem BinV.sub_int (a b : Int) : BinV p w A .Sub (.int a) (.int b) (.int (a - b)) := by
  rintro X s Q E _ _ hX ⟨t, rfl⟩ ⟨u, rfl⟩ k
  exact PyProof.Rows.sub_int (k _ _ (Evo.tok s _) ⟨_, rfl⟩)
theorem BinV.mul_int (a b : Int) (h : IntMulOk a b) : BinV p w A .Mult (.int a) (.int b) (.int (a * b)) := by
  rintro X s Q E _ _ hX ⟨t, rfl⟩ ⟨u, rfl⟩ k
  exact PyProof.Rows.mul_int (k _ _ (Evo.tok s _) ⟨_, rfl⟩) h
theorem BinV.mod_int (a b : Int) (h : b ≠ 0) : BinV p w A .Mod (.int a) (.int b) (.int (a.fmod b)) := by
  rintro X s Q E _ _ hX ⟨t, rfl⟩ ⟨u, rfl⟩ k
  exact mod_int' h (k _ _ (Evo.tok s _) ⟨_, rfl⟩)
theorem BinV.div_int (a b : Int) (h : b ≠ 0) (hp : Builtin.divisionGoesByPylong a b = false) : BinV p w A .FloorDiv (.int a) (.int b) (.int (a.fdiv b)) := by
  rintro X s Q E _ _ hX ⟨t, rfl⟩ ⟨u, rfl⟩ k
  exact floordiv_int h (k _ _ (Evo.tok s _) ⟨_, rfl⟩) (.inl hp)
theorem BinV.pow_int (a b : Int) (n : Nat) (ha : 2 ≤ a) (hb : b = n) (hbig : Builtin.Int.intTooBig (↑(Builtin.Int.intBits a) * b) = false) : BinV p w A .Pow (.int a) (.int b) (.int (a ^ n)) := by
  rintro X s Q E _ _ hX ⟨t, rfl⟩ ⟨u, rfl⟩ k
  subst hb
  by_cases h0 : ((n : Int) == 0) = true
  · have : n = 0 := by have := eq_of_beq h0; omega
    subst this
    exact AutoIntOps.pow_0 (by omega) h0 (k _ _ (Evo.tok s (s.toks + 1)) ⟨s.toks, by simp⟩)
  · refine AutoIntOps.pow_4 (by omega) h0 ?_ ?_ (by rw [hbig]; decide) (k _ _ (Evo.tok s (s.toks + 1)) ⟨s.toks, by simp⟩)
    · simp; omega
    · simp; omega
theorem strApp (x y : List Nat) : (⟨x.toArray⟩ : Str) ++ (⟨y.toArray⟩ : Str) = ⟨(x ++ y).toArray⟩ := by
  show Str.append _ _ = _
  simp [Str.append]
theorem BinV.add_str (x y : List Nat) (h : (x ++ y).length ≤ lim) : BinV p w A .Add (.str x) (.str y) (.str (x ++ y)) := by
  rintro X s Q E _ _ hX ⟨_, t, rfl⟩ ⟨_, u, rfl⟩ k
  refine PyProof.Rows.add_str (fun t' tk => k _ _ (Evo.tok s _) ⟨h, t', by rw [strApp]⟩) ?_
  have := Nat.le_trans h lim_size
  simpa [Str.length] using this
theorem BinV.add_list (xs ys : List D) (h : (xs ++ ys).length ≤ lim) : BinV p w A .Add (.lst xs) (.lst ys) (.lst (xs ++ ys)) := by
  rintro X s Q E _ _ hX ⟨_, a, vs, rfl, _, hl, r⟩ ⟨_, b, us, rfl, _, hb, r'⟩ k
  have hln := r.length
  have hln' := r'.length
  obtain ⟨⟨cls, dd, data, sl⟩, ho, hc, n, hd⟩ := id hl
  obtain ⟨⟨cls2, dd2, data2, sl2⟩, ho2, hc2, n2, hd2⟩ := id hb
  simp only at hc hd hc2 hd2
  subst hc hd hc2 hd2
  have e : vs.toArray ++ us.toArray = (vs ++ us).toArray := by simp
  have hs := Nat.le_trans h lim_size
  refine concat_meets ⟨_, ho, rfl⟩ ⟨_, ho2, rfl⟩ noFill_list_add seq_list_add PySem.F.slot_list_add PySem.F.entry_list_add (PySem.F.args_list_add_2 _ _) (list_addW a b vs.toArray us.toArray n n2 dd dd2 sl sl2 (by
    rw [List.length_append] at hs
    simp only [List.size_toArray]; omega)) ⟨ho, ho2, ?_⟩
  rw [e]
  exact k _ _ (Evo.push s _ _) (Rep.newLst hX h (r.append r') "list" rfl)
theorem UnV.neg (a : Int) : UnV p w A .USub (.int a) (.int (-a)) := by
  rintro X s Q E _ hX ⟨t, rfl⟩ k
  exact neg_int (k _ _ (Evo.tok s _) ⟨_, rfl⟩)

theorem strBeq (x y : List Nat) : ((⟨x.toArray⟩ : Str) == ⟨y.toArray⟩) = decide (x = y) := by
  by_cases h : x = y
  · subst h; simp
  · have : (⟨x.toArray⟩ : Str) ≠ ⟨y.toArray⟩ := fun e => h (by simpa using congrArg (fun z : Str => z.cps.toList) e)
    simp [h, this]
theorem CmpV.eq_str (x y : List Nat) : CmpV p w A .Eq (.str x) (.str y) (decide (x = y)) := by
  rintro X s Q E _ _ hX ⟨_, t, rfl⟩ ⟨_, u, rfl⟩ k
  exact PyProof.Rows.eq_str (by rw [strBeq]; exact k s (Evo.refl s))
theorem CmpV.ne_str (x y : List Nat) : CmpV p w A .NotEq (.str x) (.str y) (decide (x ≠ y)) := by
  rintro X s Q E _ _ hX ⟨_, t, rfl⟩ ⟨_, u, rfl⟩ k
  refine PyProof.Rows.ne_str ?_
  rw [bne, strBeq, ← decide_not]; exact k s (Evo.refl s)
theorem CmpV.eq_int (x y : Int) : CmpV p w A .Eq (.int x) (.int y) (decide (x = y)) := by
  rintro X s Q E _ _ hX ⟨t, rfl⟩ ⟨u, rfl⟩ k
  refine PyProof.Rows.eq_int ?_
  have : (x == y) = decide (x = y) := rfl
  rw [this]; exact k s (Evo.refl s)
theorem CmpV.ne_int (x y : Int) : CmpV p w A .NotEq (.int x) (.int y) (decide (x ≠ y)) := by
  rintro X s Q E _ _ hX ⟨t, rfl⟩ ⟨u, rfl⟩ k
  refine PyProof.Rows.ne_int ?_
  have : (x != y) = decide (x ≠ y) := by rw [decide_not]; rfl
  rw [this]; exact k s (Evo.refl s)
theorem CmpV.lt_int (x y : Int) : CmpV p w A .Lt (.int x) (.int y) (decide (x < y)) := by
  rintro X s Q E _ _ hX ⟨t, rfl⟩ ⟨u, rfl⟩ k
  exact PyProof.Rows.lt_int (k s (Evo.refl s))
theorem CmpV.le_int (x y : Int) : CmpV p w A .LtE (.int x) (.int y) (decide (x ≤ y)) := by
  rintro X s Q E _ _ hX ⟨t, rfl⟩ ⟨u, rfl⟩ k
  exact PyProof.Rows.le_int (k s (Evo.refl s))
theorem CmpV.gt_int (x y : Int) : CmpV p w A .Gt (.int x) (.int y) (decide (y < x)) := by
  rintro X s Q E _ _ hX ⟨t, rfl⟩ ⟨u, rfl⟩ k
  exact PyProof.Rows.gt_int (k s (Evo.refl s))
theorem CmpV.ge_int (x y : Int) : CmpV p w A .GtE (.int x) (.int y) (decide (y ≤ x)) := by
  rintro X s Q E _ _ hX ⟨t, rfl⟩ ⟨u, rfl⟩ k
  exact PyProof.Rows.ge_int (k s (Evo.refl s))
/-- x in y, of texts -/
noncomputable def inStr (x y : List Nat) : Bool := !(Builtin.Str.occurrences ⟨y.toArray⟩ ⟨x.toArray⟩ 0 y.length 1).isEmpty
theorem CmpV.in_str (x y : List Nat) : CmpV p w A .In (.str x) (.str y) (inStr x y) := by
  rintro X s Q E _ _ hX ⟨_, t, rfl⟩ ⟨_, u, rfl⟩ k
  exact P.in_str (k s (Evo.refl s))
theorem CmpV.notIn_str (x y : List Nat) : CmpV p w A .NotIn (.str x) (.str y) (!inStr x y) := by
  rintro X s Q E _ _ hX ⟨_, t, rfl⟩ ⟨_, u, rfl⟩ k
  exact P.notIn_str (k s (Evo.refl s))
theorem CmpV.is_bool (x y : Bool) : CmpV p w A .Is (.bool x) (.bool y) (x == y) := by
  rintro X s Q E _ _ hX rfl rfl k
  refine wpAny_is_plain rfl ?_
  have : (Value.bool x == Value.bool y) = (x == y) := by cases x <;> cases y <;> rfl
  rw [this]; exact k s (Evo.refl s)
theorem CmpV.isNot_bool (x y : Bool) : CmpV p w A .IsNot (.bool x) (.bool y) (!(x == y)) := by
  rintro X s Q E _ _ hX rfl rfl k
  refine wpAny_isNot_plain rfl ?_
  have : (Value.bool x == Value.bool y) = (x == y) := by cases x <;> cases y <;> rfl
  rw [this]; exact k s (Evo.refl s)
theorem CmpV.is_none_int (x : Int) : CmpV p w A .Is (.int x) .none false := by
  rintro X s Q E _ _ hX ⟨t, rfl⟩ rfl k
  refine wpAny_is_plain rfl ?_
  have : (Value.int x t == Value.none) = false := by simp
  rw [this]; exact k s (Evo.refl s)
theorem CmpV.is_none_none : CmpV p w A .Is .none .none true := by
  rintro X s Q E _ _ hX rfl rfl k
  refine wpAny_is_plain rfl ?_
  exact k s (Evo.refl s)

theorem TruthV.bool (b : Bool) : TruthV p w A (.bool b) b := by
  rintro X s Q E _ hX rfl k
  exact wpAny_truthy_bool (k s (Evo.refl s))
theorem TruthV.str (l : List Nat) : TruthV p w A (.str l) (decide (l ≠ [])) := by
  rintro X s Q E _ hX ⟨hl, t, rfl⟩ k
  have hl' : l.length ≤ 1048576 := hl
  refine P.truthy_str (by simp only [Str.length, List.size_toArray]; omega) ?_
  have : (((⟨l.toArray⟩ : Str).length : Int) != 0) = decide (l ≠ []) := by
    cases l with
    | nil => rfl
    | cons a r => simp [Str.length, bne]; omega
  rw [this]; exact k _ (Evo.tok s _)

theorem seqIndex_nat {i : Int} {n j : Nat} (h : seqIndex? i n = some j) (h0 : 0 ≤ i) : j = i.toNat := by
  unfold seqIndex? at h
  simp only [show ¬ i < 0 by omega, if_false] at h
  split at h
  · exact (Option.some.inj h).symm
  · cases h

theorem ItemV.lst {xs : List D} {i : Int} {j : Nat} {d : D} (h0 : i < 2 ^ 63) (hneg : -(2 ^ 63) ≤ i) (hj : seqIndex? i xs.length = some j) (hd : xs[j]? = some d) : ItemV p w A (.lst xs) (.int i) d := by
  rintro X value slice s Q E v1 v2 hX ⟨hl, a, vs, rfl, _, hL, rL⟩ ⟨t, rfl⟩ k
  obtain ⟨v, hv, r⟩ := rL.get hd
  obtain ⟨ops, ho⟩ := subscripted_ops slice (.ref a) (.int i t)
  refine tail_any hL.typeIs slot_list_getitem.lookup ?_ ho
  by_cases hi : 0 ≤ i
  · refine wpAny_getItem_list hL hi h0 ?_ (k v s (Evo.refl s) r)
    have := seqIndex_nat hj hi
    subst this
    simpa using hv
  · exact kde_getNeg hL (by omega) hneg (by rw [rL.length]; exact hj) hv (k v s (Evo.refl s) r)
theorem ItemV.tup {xs : List D} {i : Int} {j : Nat} {d : D} (h0 : i < 2 ^ 63) (hneg : -(2 ^ 63) ≤ i) (hj : seqIndex? i xs.length = some j) (hd : xs[j]? = some d) : ItemV p w A (.tup xs) (.int i) d := by
  rintro X value slice s Q E v1 v2 hX ⟨hl, a, vs, rfl, _, hL, rL⟩ ⟨t, rfl⟩ k
  obtain ⟨v, hv, r⟩ := rL.get hd
  obtain ⟨ops, ho⟩ := subscripted_ops slice (.ref a) (.int i t)
  exact tail_any hL.typeIs slot_tuple_getitem.lookup (getItem_tuple hL hneg h0 (by simpa [rL.length] using hj) (by simpa using hv) (k v s (Evo.refl s) r)) ho
theorem ItemV.str {l : List Nat} {i : Int} {j c : Nat} (h0 : i < 2 ^ 63) (hneg : -(2 ^ 63) ≤ i) (hj : seqIndex? i l.length = some j) (hd : l[j]? = some c) : ItemV p w A (.str l) (.int i) (.str [c]) := by
  rintro X value slice s Q E v1 v2 hX ⟨hl, t, rfl⟩ ⟨u, rfl⟩ k
  obtain ⟨ops, ho⟩ := subscripted_ops slice (.str ⟨l.toArray⟩ t) (.int i u)
  refine tail_any (typeIs_str _ _ _) F.slot_str_getitem.lookup ?_ ho
  refine P.getItem_str (c := c) (by simp; omega) ?_ (k _ _ (Evo.tok s _) ⟨(show 1 ≤ lim by decide), _, rfl⟩)
  show (seqIndex? i l.toArray.size).bind _ = _
  rw [List.size_toArray, hj]
  simpa using hd
end
end Mine
end
section
open PySem PySem.W PyProof.Rows PySem.Builtin.Str PySem.StrLaws
set_option Elab.async false
set_option autoImplicit false
set_option linter.unusedVariables false
namespace Mine
noncomputable def clipI (i : Option Int) (n d : Nat) : Nat := match i with
  | none => d
  | some i => if i < 0 then (i + n).toNat else min i.toNat n
/-- Python's slice of step one -/
noncomputable def sl {α : Type} (l : List α) (lo hi : Option Int) : List α := (l.take (clipI hi l.length l.length)).drop (clipI lo l.length 0)
theorem sl_length {α : Type} (l : List α) (lo hi : Option Int) : (sl l lo hi).length ≤ l.length := by
  unfold sl; rw [List.length_drop, List.length_take]; omega
theorem clip_le {i : Option Int} {n d : Nat} (h : d ≤ n) : clipI i n d ≤ n := by
  unfold clipI; split
  · exact h
  · split <;> omega
theorem range_pick {α : Type} (l : List α) (a b : Nat) (hb : b ≤ l.length) : (sliceRange a b 1).filterMap (l[·]?) = (l.take b).drop a := by
  unfold sliceRange
  simp only [show (1 : Int) > 0 by decide, if_true]
  by_cases h : a < b
  · have e : (if (a : Int) < (b : Int) then ((b : Int) - a + 1 - 1) / 1 else 0).toNat = b - a := by
      rw [if_pos (by omega)]; omega
    rw [e]
    have e2 : (List.map (fun (k : Nat) => ((a : Int) + 1 * (k : Int)).toNat) (List.range (b - a))) = (List.range (b - a)).map fun k => a + k := by
      apply List.map_congr_left; intro k _; omega
    rw [e2, picks l (b - a) a (by omega), List.drop_take]
  · have e : (if (a : Int) < (b : Int) then ((b : Int) - a + 1 - 1) / 1 else 0).toNat = 0 := by
      rw [if_neg (by omega)]; rfl
    rw [e]
    simp only [List.range_zero, List.map_nil, List.filterMap_nil]
    rw [List.drop_eq_nil_of_le]
    rw [List.length_take]; omega
theorem clip_str (i : Option Int) (n d : Nat) (hd : d ≤ n) : (match i with
    | none => (d : Int)
    | some i => let i := if i < 0 then i + (n : Int) else i; if (1 : Int) > 0 then max 0 (min i n) else max (-1) (min i ((n : Int) - 1))) = (clipI i n d : Int) := by
  cases i with
  | none => rfl
  | some i =>
    simp only [clipI, show (1 : Int) > 0 by decide, if_true]
    split <;> omega
theorem strSlice_sl (lo hi : Option Int) (n : Nat) : strSliceIndices lo hi 1 n = sliceRange (clipI lo n 0) (clipI hi n n) 1 := by
  unfold strSliceIndices
  have h1 := clip_str lo n 0 (Nat.zero_le _)
  have h2 := clip_str hi n n (Nat.le_refl _)
  simp only [show (1 : Int) > 0 by decide, if_true] at h1 h2 ⊢
  cases lo <;> cases hi <;> simp_all [clipI]
theorem slice_sl (l : List Nat) (lo hi : Option Int) : Txt.slice ⟨l.toArray⟩ lo hi = ⟨(sl l lo hi).toArray⟩ := by
  unfold Txt.slice
  have hn : (⟨l.toArray⟩ : Str).length = l.length := by simp [Str.length]
  rw [hn, strSlice_sl]
  have hb : clipI hi l.length l.length ≤ l.length := clip_le (Nat.le_refl _)
  have e := range_pick l (clipI lo l.length 0) (clipI hi l.length l.length) hb
  have e' : (sliceRange (clipI lo l.length 0) (clipI hi l.length l.length) 1).filterMap (l.toArray[·]?) = sl l lo hi := by
    rw [show (fun x => l.toArray[x]?) = (fun x => l[x]?) by funext x; simp]
    exact e
  show (if _ then _ else Str.mk (List.filterMap (fun x => l.toArray[x]?) _).toArray) = _
  rw [e']
  split
  · rename_i h
    simp only [beq_self_eq_true, Bool.true_and, beq_iff_eq] at h
    have hlen : (sliceRange (clipI lo l.length 0) (clipI hi l.length l.length) 1).length = clipI hi l.length l.length - clipI lo l.length 0 := by
      unfold sliceRange
      simp only [show (1 : Int) > 0 by decide, if_true, List.length_map, List.length_range]
      split <;> omega
    rw [hlen] at h
    have h1 : clipI lo l.length 0 = 0 ∨ l.length = 0 := by omega
    rcases h1 with h1 | h1
    · have h2 : clipI hi l.length l.length = l.length := by omega
      simp [sl, h1, h2]
    · have : l = [] := List.eq_nil_of_length_eq_zero h1
      subst this; simp [sl]
  · rfl
theorem pick_sl (vs : List Value) (lo hi : Option Int) : slicePick vs.toArray lo hi none = (sl vs lo hi).toArray := by
  unfold slicePick
  have h1 := clip_str lo vs.length 0 (Nat.zero_le _)
  have h2 := clip_str hi vs.length vs.length (Nat.le_refl _)
  have e : sliceBounds lo hi none vs.toArray.size = ((clipI lo vs.length 0 : Int), (clipI hi vs.length vs.length : Int), (1 : Int)) := by
    unfold sliceBounds
    simp only [Option.getD_none, show (1 : Int) > 0 by decide, if_true, List.size_toArray] at h1 h2 ⊢
    cases lo <;> cases hi <;> simp_all [clipI]
  rw [e]
  dsimp only
  rw [show (fun x => vs.toArray[x]?) = (fun x => vs[x]?) by funext x; simp]
  rw [range_pick vs _ _ (clip_le (Nat.le_refl _))]
  rfl
theorem RepL.sl {X : List Addr} {h : Heap} {ds : List D} {vs : List Value} (r : RepL X h ds vs) (lo hi : Option Int) : RepL X h (sl ds lo hi) (sl vs lo hi) := by
  unfold Mine.sl
  rw [r.length]
  exact RepL.drop _ (RepL.take _ r)

section
variable {p : Program} {w : World} {A : Around} {env : Env} {ρ : Loc} {pos : Pos}
theorem EVO.onone : EVO p w A env ρ none none := fun B s Q E F k => wpAny_pure (k _ s (Evo.refl s) .none)
theorem EVO.osome {e : Expr} {i : Int} (h : EV p w A env ρ e (.int i)) : EVO p w A env ρ (some e) (some i) := fun B s Q E F k =>
  h B s _ _ F fun v s1 e1 ⟨t, ht⟩ => k v s1 e1 (by subst ht; exact .int i t)

theorem EV.slice_list {value : Expr} {lo hi : Option Expr} {xs : List D} {a b : Option Int} {spos : Pos} (hv : EV p w A env ρ value (.lst xs)) (hl : EVO p w A env ρ lo a) (hu : EVO p w A env ρ hi b) :
    EV p w A env ρ (.Subscript value (.Slice lo hi Option.none spos) pos) (.lst (Mine.sl xs a b)) := fun B s Q E F k =>
  Subscript_ (hv B s _ _ F fun v1 s1 e1 r1 => wpAny_Slice (hl B s1 _ _ (F.evo e1) fun vl s2 e2 pl => hu B s2 _ _ (F.evo (e1.trans e2)) fun vu s3 e3 pu => wpAny_pure (by
    have e12 := e2.trans e3
    obtain ⟨hlen, l, vs, rfl, _, hL, rL⟩ := r1.mono e12.seq
    obtain ⟨ops, ho⟩ := subscripted_ops (.Slice lo hi Option.none spos) (.ref l) (.ref s3.heap.objs.size)
    refine tail_any (Heap.IsList.typeIs (s := { s3 with heap := s3.heap.push _ }) (hL.push _)) list_getitem_lookup
      (wpAny_getItem_list_slice (hL.push _) (Heap.IsSliceOf.new ..) pl pu .none (by simp) ?_ (by rw [List.size_toArray, rL.length]; exact Nat.le_trans hlen lim_size)) ho
    rw [pick_sl]
    refine k _ _ (e1.trans (e12.trans ((Evo.push s3 _ _).trans (Evo.push _ _ _)))) (Rep.newLst ((F.evo (e1.trans e12)).evo (Evo.push s3 _ _)).xok (Nat.le_trans (sl_length ..) hlen) ?_ "list" rfl)
    exact (rL.sl a b).mono fun _ _ _ _ e _ => Heap.get?_push_of_some _ e)))

theorem strSliceItem {x : Str} {t : Tok} {s : Shared} {vl vu : Value} {a b : Option Int} {Q : Value → Shared → Prop} {E : Value → Shared → Prop} (pl : IsPart vl a) (pu : IsPart vu b) (hsz : x.length ≤ sizeLine)
    (h : ∀ h' t' k, (∀ c o, s.heap.get? c = some o → h'.get? c = some o) → Q (.str (Txt.slice x a b) t') { s with heap := h', toks := k }) :
    ItemOn (model p w) A E (.str x t) (.ref s.heap.objs.size) Q { s with heap := s.heap.push { cls := .type "slice", data := .fields #[vl, vu, .none] } } := by
  have kept : KeptH fun h' => ∀ c o, s.heap.get? c = some o → h'.get? c = some o := fun h ob hp c o e => Heap.get?_push_of_some _ (hp c o e)
  cases pl with
  | none => cases pu with
    | none => exact SBH.sliceItem_nn kept (fun _ _ e => e) (fun h' t' k hP => h h' t' k hP) hsz
    | int j u => exact SBH.sliceItem_ns kept (fun _ _ e => e) (fun h' t' k hP => h h' t' k hP) hsz
  | int i ti => cases pu with
    | none => exact SBH.sliceItem_sn kept (fun _ _ e => e) (fun h' t' k hP => h h' t' k hP) hsz
    | int j u => exact SBH.sliceItem_ss kept (fun _ _ e => e) (fun h' t' k hP => h h' t' k hP) hsz

theorem EV.slice_str {value : Expr} {lo hi : Option Expr} {l : List Nat} {a b : Option Int} {spos : Pos} (hv : EV p w A env ρ value (.str l)) (hl : EVO p w A env ρ lo a) (hu : EVO p w A env ρ hi b) :
    EV p w A env ρ (.Subscript value (.Slice lo hi Option.none spos) pos) (.str (Mine.sl l a b)) := fun B s Q E F k =>
  Subscript_ (hv B s _ _ F fun v1 s1 e1 ⟨hlen, t, ht⟩ => wpAny_Slice (hl B s1 _ _ (F.evo e1) fun vl s2 e2 pl => hu B s2 _ _ (F.evo (e1.trans e2)) fun vu s3 e3 pu => wpAny_pure (by
    subst ht
    obtain ⟨ops, ho⟩ := subscripted_ops (.Slice lo hi Option.none spos) (.str ⟨l.toArray⟩ t) (.ref s3.heap.objs.size)
    obtain ⟨T, id, h1, h2, h3⟩ := strSliceItem (p := p) (w := w) (A := A) (E := E) (x := ⟨l.toArray⟩) (t := t) (s := s3) (Q := Q) pl pu (by simpa [Str.length] using Nat.le_trans hlen lim_size) (fun h' t' k' hP => by
      rw [slice_sl]
      exact k _ _ (e1.trans (e2.trans (e3.trans (Evo.ofHeap _ hP)))) ⟨Nat.le_trans (sl_length ..) hlen, _, rfl⟩)
    exact tail_any h2 h1 h3 ho)))
end
end Mine
end
section
open PySem PySem.W PyProof.Rows PySem.Builtin.Str PySem.StrLaws
set_option Elab.async false
set_option autoImplicit false
set_option linter.unusedVariables false
namespace Mine

noncomputable def Ok (n : Nat) (A : Around) : Prop := A.handled = none ∧ A.depth + n ≤ 990 ∧ A.units + 20 * n ≤ 9900
theorem Ok.deeper {n : Nat} {A : Around} (h : Ok (n + 1) A) (env : Env) : Ok n (A.deeper env) := ⟨h.1, by have := h.2.1; show A.depth + 1 + n ≤ _; omega, by have := h.2.2; show A.units + 3 + _ ≤ _; omega⟩
theorem Ok.le {n m : Nat} {A : Around} (h : Ok n A) (hm : m ≤ n) : Ok m A := ⟨h.1, by have := h.2.1; omega, by have := h.2.2; omega⟩

inductive Fl where
  | next | brk | cont
  | ret (d : D)
noncomputable def FlRep (X : List Addr) (h : Heap) : Fl → Flow → Prop
  | .next, f => f = .next
  | .brk, f => f = .brk
  | .cont, f => f = .cont
  | .ret d, f => ∃ v, f = .ret v ∧ Rep X h d v

section
variable (p : Program) (w : World) (A : Around)
/-- a list of statements: the frame's names afterwards, and how it ends -/
noncomputable def ST (env : Env) (ρ : Loc) (ss : List Stmt) (P : Fl → Loc → Prop) : Prop :=
  ∀ B (s : Shared) (Q : Flow → Shared → Prop) (E : Value → Shared → Prop), FS p B env ρ s →
    (∀ fl f s' ρ', P fl ρ' → FS p B env ρ' s' → FlRep B.X s'.heap fl f → Q f s') → wpAny (model p w) A (execs ss env) Q E s
noncomputable def ST1 (env : Env) (ρ : Loc) (st : Stmt) (P : Fl → Loc → Prop) : Prop :=
  ∀ B (s : Shared) (Q : Flow → Shared → Prop) (E : Value → Shared → Prop), FS p B env ρ s →
    (∀ fl f s' ρ', P fl ρ' → FS p B env ρ' s' → FlRep B.X s'.heap fl f → Q f s') → wpAny (model p w) A (exec st env) Q E s
/-- a target takes a datum -/
noncomputable def AT (env : Env) (ρ : Loc) (t : Expr) (d : D) (ρ' : Loc) : Prop :=
  ∀ B (s : Shared) (Q : Unit → Shared → Prop) (E : Value → Shared → Prop) v, FS p B env ρ s → Rep B.X s.heap d v → (∀ s', FS p B env ρ' s' → Q () s') → wpAny (model p w) A (assign t env v) Q E s
/-- what a def of the text gives back -/
noncomputable def FN (n : Nat) (f : Str) (ds : List D) (d : D) : Prop :=
  ∀ A (X : List Addr) (s : Shared) (Q : Value → Shared → Prop) (E : Value → Shared → Prop) vs fa mg, Ok n A → Wf p s.heap → s.heap.Ns mainGlobals mg → mg f = some (.ref fa) → XOk X s.heap → RepL X s.heap ds vs →
    (∀ v s', Evo s s' → Rep X s'.heap d v → Q v s') → wpAny (model p w) A (call (.ref fa) vs) Q E s
end

theorem ST.mono {p : Program} {w : World} {A : Around} {env : Env} {ρ : Loc} {ss : List Stmt} {P P' : Fl → Loc → Prop} (h : ST p w A env ρ ss P) (hP : ∀ fl ρ', P fl ρ' → P' fl ρ') : ST p w A env ρ ss P' :=
  fun B s Q E F k => h B s Q E F fun fl f s' ρ' hp => k fl f s' ρ' (hP fl ρ' hp)
theorem ST1.mono {p : Program} {w : World} {A : Around} {env : Env} {ρ : Loc} {ss : Stmt} {P P' : Fl → Loc → Prop} (h : ST1 p w A env ρ ss P) (hP : ∀ fl ρ', P fl ρ' → P' fl ρ') : ST1 p w A env ρ ss P' :=
  fun B s Q E F k => h B s Q E F fun fl f s' ρ' hp => k fl f s' ρ' (hP fl ρ' hp)

section
variable {p : Program} {w : World} {A : Around} {env : Env} {ρ : Loc} {pos : Pos}

theorem dictNotSeq {h : Heap} {a : Addr} {m : Str → Option Value} (hn : h.Ns a m) {o : Obj} {xs : Array Value} {n : Nat} (e : h.get? a = some o) (hd : o.data = .seq xs n) : False := by
  obtain ⟨o', es, ep, h1, h2, _⟩ := hn
  rw [e] at h1; cases h1; rw [hd] at h2; cases h2
theorem cellNotSeq {h : Heap} {a : Addr} {v : Option Value} (hn : h.IsCell a v) {o : Obj} {xs : Array Value} {n : Nat} (e : h.get? a = some o) (hd : o.data = .seq xs n) : False := by
  obtain ⟨o', h1, h2⟩ := hn
  rw [e] at h1; cases h1; rw [hd] at h2; cases h2
theorem cellNotDict {h : Heap} {a : Addr} {v : Option Value} (hn : h.IsCell a v) {m : Str → Option Value} (hm : h.Ns a m) : False := by
  obtain ⟨o', h1, h2⟩ := hn
  obtain ⟨o, es, ep, h3, h4, _⟩ := hm
  rw [h1] at h3; cases h3; rw [h2] at h4; cases h4

theorem seqExt_of {h h' : Heap} {a : Addr} (hs : Heap.SameBut a h h') (hn : ∀ o xs n, h.get? a = some o → o.data = .seq xs n → False) : SeqExt h h' := fun b o xs n e hd => by
  by_cases hb : b = a
  · subst hb; exact (hn o xs n e hd).elim
  · exact (hs.2 b hb).trans e

/-- how a name may be stored -/
noncomputable def Wr (env : Env) (x : Str) : Prop := env.kindOf x = some .local ∨ (env.kindOf x = some .cell ∧ env.func.isSome = true ∧ (env.cells.lookup x).isSome = true)
/-- a local name takes a value -/
theorem FS.storeZ {B : Base} {s : Shared} {x : Str} {sl : Slot} {v : Value} {Q : Unit → Shared → Prop} {E : Value → Shared → Prop} (F : FS p B env ρ s)
    (hk : Wr env x)
    (hr : SlRep B.X s.heap sl v) (ho : ∀ a xs, sl = .own a xs → B.heap.get? a = none) (k : ∀ s', s'.heap.objs.size = s.heap.objs.size → FS p B env (ρ.set x sl) s' → Q () s') : wpAny (model p w) A (storeName env x v) Q E s := by
  obtain ⟨m, hm, hv⟩ := F.ns
  have own' : ∀ y a xs, (ρ.set x sl).lookup y = some (Slot.own a xs) → B.heap.get? a = none := by
    intro y a xs hy
    rw [Loc.lookup_set] at hy
    by_cases hyx : y = x
    · simp [hyx] at hy; exact ho a xs hy
    · simp [hyx] at hy; exact F.onew y a xs hy
  have aliv : ∀ {h' : Heap} {c : Addr}, Heap.SameBut c s.heap h' → (∀ o zs n, s.heap.get? c = some o → o.data = .seq zs n → False) → ∀ y a xs, (ρ.set x sl).lookup y = some (Slot.own a xs) → ∃ vs, h'.PlainList a vs := by
    intro h' c hs hn y a xs hy
    rw [Loc.lookup_set] at hy
    have key : ∃ vs, s.heap.PlainList a vs := by
      by_cases hyx : y = x
      · simp [hyx] at hy; subst hy
        obtain ⟨_, _, _, vs, P, _⟩ := hr
        exact ⟨_, P⟩
      · simp [hyx] at hy; exact F.alive y a xs hy
    obtain ⟨vs, n, e⟩ := key
    exact ⟨vs, n, (hs.2 a fun q => by subst q; exact hn _ _ _ e rfl).trans e⟩
  rcases hk with hk | ⟨hk, hf, hc⟩
  · refine wpAny_storeName_local hk hm (fun h' hn' hs => k _ hs.1 ?_) (by rw [F.kind]; rfl)
    have hseq : SeqExt s.heap h' := seqExt_of hs fun o xs n e hd => dictNotSeq hm e hd
    refine ⟨F.wf, fun b o e => ?_, F.kgens, ⟨_, hn', fun y sl' hy hky => ?_⟩, F.lnew, fun y c hyc => ?_, fun y sl' hy hky => ?_, F.cnew, own', aliv hs (fun o zs n e hd => dictNotSeq hm e hd), F.xok.ext hseq, F.kind, F.glob, F.blt⟩
    · exact (hs.2 b fun hb => by subst hb; rw [F.lnew] at e; cases e).trans (F.keep b o e)
    · rw [Loc.lookup_set] at hy
      by_cases hyx : y = x
      · subst hyx; simp at hy; subst hy; exact ⟨v, by simp, hr.mono hseq⟩
      · simp [hyx] at hy ⊢
        obtain ⟨u, h1, h2⟩ := hv y sl' hy hky
        exact ⟨u, h1, h2.mono hseq⟩
    · obtain ⟨u, h1, h2⟩ := F.cell y c hyc
      refine ⟨u, h1.sameBut hs (fun e => cellNotDict h1 (e ▸ hm)), fun sl' hy hky => ?_⟩
      rw [Loc.lookup_set] at hy
      have hyx : y ≠ x := fun e => by subst e; rw [hk] at hky; rcases hky with h | h <;> cases h
      simp [hyx] at hy
      obtain ⟨z, h3, h4⟩ := h2 sl' hy hky
      exact ⟨z, h3, h4.mono hseq⟩
    · rw [Loc.lookup_set] at hy
      have hyx : y ≠ x := fun e => by subst e; rw [hk] at hky; rcases hky with h | h <;> cases h
      simp [hyx] at hy
      exact F.has y sl' hy hky
  · obtain ⟨c, hc⟩ := Option.isSome_iff_exists.mp hc
    obtain ⟨v0, hc0, _⟩ := F.cell x c hc
    obtain ⟨cn, ca⟩ := F.cnew hf
    refine wpAny_storeName_cell F.kind hk hc hc0 fun h' hv' hs => k _ hs.1 ?_
    have hseq : SeqExt s.heap h' := seqExt_of hs fun o xs n e hd => cellNotSeq hc0 e hd
    have hcb := cn x c hc
    refine ⟨F.wf, fun b o e => ?_, F.kgens, ⟨m, hm.sameBut hs (fun e => cellNotDict hc0 (e ▸ hm)), fun y sl' hy hky => ?_⟩, F.lnew, fun y c' hyc => ?_, fun y sl' hy hky => ?_, F.cnew, own', aliv hs (fun o zs n e hd => cellNotSeq hc0 e hd), F.xok.ext hseq, F.kind, F.glob, F.blt⟩
    · exact (hs.2 b fun hb => by subst hb; rw [hcb] at e; cases e).trans (F.keep b o e)
    · rw [Loc.lookup_set] at hy
      have hyx : y ≠ x := fun e => by subst e; rw [hk] at hky; cases hky
      simp [hyx] at hy
      obtain ⟨u, h1, h2⟩ := hv y sl' hy hky
      exact ⟨u, h1, h2.mono hseq⟩
    · by_cases hyx : y = x
      · subst hyx
        rw [hc] at hyc; cases hyc
        refine ⟨some v, hv', fun sl' hy hky => ?_⟩
        rw [Loc.lookup_set] at hy
        simp at hy; subst hy; exact ⟨v, rfl, hr.mono hseq⟩
      · have hcc : c' ≠ c := fun q => hyx (name_of_addr ca (mem_of_lookup hyc) (q ▸ mem_of_lookup hc))
        obtain ⟨u, h1, h2⟩ := F.cell y c' hyc
        refine ⟨u, h1.sameBut hs hcc, fun sl' hy hky => ?_⟩
        rw [Loc.lookup_set] at hy
        simp [hyx] at hy
        obtain ⟨z, h3, h4⟩ := h2 sl' hy hky
        exact ⟨z, h3, h4.mono hseq⟩
    · rw [Loc.lookup_set] at hy
      by_cases hyx : y = x
      · subst hyx; rw [hc]; rfl
      · simp [hyx] at hy
        exact F.has y sl' hy hky

theorem FS.store {B : Base} {s : Shared} {x : Str} {sl : Slot} {v : Value} {Q : Unit → Shared → Prop} {E : Value → Shared → Prop} (F : FS p B env ρ s)
    (hk : Wr env x) (hr : SlRep B.X s.heap sl v) (ho : ∀ a xs, sl = .own a xs → B.heap.get? a = none) (k : ∀ s', FS p B env (ρ.set x sl) s' → Q () s') : wpAny (model p w) A (storeName env x v) Q E s :=
  F.storeZ hk hr ho fun s' _ F' => k s' F'

theorem AT.name {x : Str} {d : D} (hk : Wr env x) : AT p w A env ρ (.Name x pos) d (ρ.set x (.val d)) :=
  fun B s Q E v F r k => by
    rw [arm_assign_Name]
    exact wpAny_bind (wpAny_standAt (wpAny_bindName (F.store (sl := .val d) hk r (fun a xs e => by cases e) k)))

theorem ST.nil {P : Fl → Loc → Prop} (h : P .next ρ) : ST p w A env ρ [] P := fun B s Q E F k => wpAny_execs_nil (k .next _ s ρ h F rfl)
noncomputable def thenST (p : Program) (w : World) (A : Around) (env : Env) (rest : List Stmt) (P : Fl → Loc → Prop) (fl : Fl) (ρ' : Loc) : Prop := match fl with
  | .next => ST p w A env ρ' rest P
  | fl => P fl ρ'
theorem ST.cons {st : Stmt} {rest : List Stmt} {P : Fl → Loc → Prop} (h : ST1 p w A env ρ st (thenST p w A env rest P)) : ST p w A env ρ (st :: rest) P := fun B s Q E F k =>
  wpAny_execs_cons (h B s _ _ F fun fl f s' ρ' hp F' hf => by
    cases fl with
    | next => cases hf; exact hp B s' Q E F' k
    | brk => cases hf; exact k .brk _ s' ρ' hp F' rfl
    | cont => cases hf; exact k .cont _ s' ρ' hp F' rfl
    | ret d => obtain ⟨v, rfl, r⟩ := hf; exact k (.ret d) _ s' ρ' hp F' ⟨v, rfl, r⟩)

theorem ST1.assign {x : Str} {e : Expr} {d : D} {P : Fl → Loc → Prop} {pos' : Pos} (he : EV p w A env ρ e d) (hP : P .next (ρ.set x (.val d)))
    (hk : Wr env x)
    (hs : swapsWith e (some (.Name x pos')) pos.line env = pure false := by rfl) : ST1 p w A env ρ (.Assign [.Name x pos'] e pos) P := fun B s Q E F k =>
  wpAny_Assign_Name (he B s _ _ F fun v s1 e1 r1 => (F.evo e1).store (sl := .val d) hk r1 (fun a xs e => by cases e) fun s2 F2 => k .next _ s2 _ hP F2 rfl) hs

theorem ST1.ret {e : Expr} {d : D} {P : Fl → Loc → Prop} (he : EV p w A env ρ e d) (hP : P (.ret d) ρ) : ST1 p w A env ρ (.Return (some e) pos) P := fun B s Q E F k =>
  wpAny_Return_some (he B s _ _ F fun v s1 e1 r1 => k (.ret d) _ s1 ρ hP (F.evo e1) ⟨v, rfl, r1⟩)

theorem ST1.ite {t : Expr} {b : Bool} {body orelse : List Stmt} {P : Fl → Loc → Prop} (ht : BV p w A env ρ t b) (hx : b = true → ST p w A env ρ body P) (hy : b = false → ST p w A env ρ orelse P) :
    ST1 p w A env ρ (.If t body orelse pos) P := fun B s Q E F k =>
  wpAny_If (ht B s _ _ F fun s1 e1 => by
    cases b with
    | true => exact hx rfl B s1 Q E (F.evo e1) k
    | false => exact hy rfl B s1 Q E (F.evo e1) k)

theorem ST1.assert {t : Expr} {msg : Option Expr} {P : Fl → Loc → Prop} (ht : BV p w A env ρ t true) (hP : P .next ρ) : ST1 p w A env ρ (.Assert t msg pos) P := fun B s Q E F k =>
  wpAny_Assert_holds (ht B s _ _ F fun s1 e1 => ⟨rfl, k .next _ s1 ρ hP (F.evo e1) rfl⟩)

/-- ints alone, as the augmented store has it -/
noncomputable def InV (p : Program) (w : World) (A : Around) (op : Operator) (d1 d2 d : D) : Prop :=
  ∀ (X : List Addr) (s : Shared) (Q : Value → Shared → Prop) (E : Value → Shared → Prop) v1 v2, XOk X s.heap → Rep X s.heap d1 v1 → Rep X s.heap d2 v2 → (∀ v s', Evo s s' → Rep X s'.heap d v → Q v s') → wpAny (model p w) A (inplaceOp op v1 v2) Q E s
theorem ST1.aug {x : Str} {sl : Slot} {op : Operator} {e : Expr} {d d' : D} {P : Fl → Loc → Prop} {pos' : Pos} (hl : ρ.lookup x = some sl) (hr : Rd env x) (he : EV p w A env ρ e d) (hi : InV p w A op sl.d d d')
    (hP : P .next (ρ.set x (.val d'))) (hk : Wr env x) : ST1 p w A env ρ (.AugAssign (.Name x pos') op e pos) P := fun B s Q E F k =>
  wpAny_AugAssign_Name (LV.name F hl hr fun v1 r1 => he B s _ _ F fun v2 s2 e2 r2 => hi B.X s2 _ _ _ _ (F.evo e2).xok (r1.rep.mono e2.seq) r2 fun v s3 e3 r3 => (F.evo (e2.trans e3)).store (sl := .val d') hk r3 (fun a xs e => by cases e) fun s4 F4 => k .next _ s4 _ hP F4 rfl)
theorem InV.add_int (a b : Int) : InV p w A .Add (.int a) (.int b) (.int (a + b)) := by
  rintro X s Q E _ _ hX ⟨t, rfl⟩ ⟨u, rfl⟩ k
  exact PyProof.Rows.iadd_int (k _ _ (Evo.tok s _) ⟨_, rfl⟩)
theorem InV.sub_int (a b : Int) : InV p w A .Sub (.int a) (.int b) (.int (a - b)) := by
  rintro X s Q E _ _ hX ⟨t, rfl⟩ ⟨u, rfl⟩ k
  exact PyProof.Rows.isub_int (k _ _ (Evo.tok s _) ⟨_, rfl⟩)
end
end Mine
end
section
open PySem PySem.W PyProof.Rows PySem.Builtin.Str PySem.StrLaws
set_option Elab.async false
set_option autoImplicit false
set_option linter.unusedVariables false
namespace Mine
section
variable {p : Program} {w : World} {A : Around} {env : Env} {ρ : Loc} {pos : Pos}

/-- a built-in of one argument -/
noncomputable def CallV (p : Program) (w : World) (A : Around) (f : Value) (ds : List D) (d : D) : Prop :=
  ∀ (X : List Addr) (s : Shared) (Q : Value → Shared → Prop) (E : Value → Shared → Prop) vs, XOk X s.heap → RepL X s.heap ds vs → (∀ v s', Evo s s' → Rep X s'.heap d v → Q v s') → wpAny (model p w) A (call f vs) Q E s

theorem len_D_str (l : List Nat) : CallV p w A (.builtin "len") [.str l] (.int l.length) := by
  rintro X s Q E _ hX ⟨_, _, rfl, ⟨hl, t, rfl⟩, rfl⟩ k
  have hl' : l.length ≤ 1048576 := hl
  refine P.len_str (by simp only [Str.length, List.size_toArray]; omega) ?_
  refine k _ _ (Evo.tok s _) ⟨s.toks + 1, ?_⟩
  simp [Str.length]
theorem len_D_lst (xs : List D) : CallV p w A (.builtin "len") [.lst xs] (.int xs.length) := by
  rintro X s Q E _ hX ⟨_, _, rfl, ⟨hl, a, vs, rfl, _, hL, r⟩, rfl⟩ k
  have hl' : xs.length ≤ 1048576 := hl
  have hlen := r.length
  refine PyProof.Rows.len_list hL (by rw [List.size_toArray]; omega) ?_
  refine k _ _ (Evo.tok s _) ⟨s.toks + 1, ?_⟩
  simp [hlen]

/-- a name of the built-ins, hidden by no name of the text -/
theorem wf_none {h : Heap} (W : Wf p h) : ∃ mg mb, h.Ns mainGlobals mg ∧ h.Ns builtinsNs mb ∧ (∀ x : Str, x ≠ "__name__" → mb x = bootBuiltins x) ∧ mg (Str.ofString "len") = none ∧ mg (Str.ofString "range") = none ∧ mg (Str.ofString "enumerate") = none :=
  let ⟨_, _, mg, mb, T, h1, h2, h3⟩ := W.top; ⟨mg, mb, T.g, T.b, T.builtins, h1, h2, h3⟩
theorem EV.len {e : Expr} {d d' : D} {npos : Pos} (he : EV p w A env ρ e d) (hc : CallV p w A (.builtin "len") [d] d') (hk : env.kindOf (Str.ofString "len") = some .globalImplicit)
    (hs : starEach [e] env = [(false, eval e env)] := by rfl) : EV p w A env ρ (.Call (.Name (Str.ofString "len") npos) [e] [] pos) d' := fun B s Q E F k =>
  wpAny_Call_NameR (by
    obtain ⟨mg, mb, hg, hb, hB, hn, _⟩ := wf_none F.world
    refine Calls.Name_function_global F.kind hk (Calls.loadGlobal_builtin (by rw [F.glob]; exact hg) hn (by rw [F.blt]; exact hb) ((hB _ (by decide)).trans (show bootBuiltins (Str.ofString "len") = some (.builtin "len") by decide +kernel)) ?_) (by decide)
    rw [hs]
    exact PySem.callWith_builtin1 (he B s _ _ F fun v s1 e1 r1 => hc B.X s1 _ _ [v] (F.evo e1).xok (RepL.one r1) fun v' s2 e2 r2 => k v' s2 (e1.trans e2) r2))

theorem EV.call {f : Str} {args : List Expr} {ds : List D} {d : D} {n : Nat} {npos : Pos} (h : FN p w n f ds d) (ha : EVL p w A env ρ args ds) (hA : Ok n A) (hf : f ∈ (recsOf p).map (·.name)) (hk : env.kindOf f = some .globalImplicit) (hd : (f == ("__debug__" : Str)) = false)
    (hne : ∃ e r, args = e :: r ∧ starEach args env = (false, eval e env) :: starEach r env ∧ (backTo pos (starEach args env)).any (·.1) = false) : EV p w A env ρ (.Call (.Name f npos) args [] pos) d := fun B s Q E F k =>
  wpAny_Call_NameR (by
    obtain ⟨loose, mean, mg, mb, T, _⟩ := F.world.top
    obtain ⟨rc, hrc, rfl⟩ := List.mem_map.mp hf
    obtain ⟨a, o, pm, code, doc, hm, ho, hdat, hcd⟩ := T.fn rc hrc
    refine Calls.Name_function_global F.kind hk (Calls.loadGlobal_global (by rw [F.glob]; exact T.g) hm ?_) hd
    obtain ⟨e, r, rfl, hse, hany⟩ := hne
    have hb : backTo pos (starEach (e :: r) env) = (false, eval e env) :: backTo pos (starEach r env) := by rw [hse]; rfl
    refine callWith_function_kw (o := o) (fd := Calls.docDef rc.name rc.params rc.body rc.scope pm code doc) ?_
    rw [hb]
    refine Calls.evalArgs_plain ?_
    rw [← hb]
    refine ha B pos s _ _ F fun vs s1 e1 r1 => ⟨⟨e1.heap _ _ ho, hdat⟩, ?_⟩
    exact h A B.X s1 Q E vs a mg hA (F.evo e1).world (T.g.keeps e1.heap) hm (F.evo e1).xok r1 fun v s2 e2 r2 => k v s2 (e1.trans e2) r2)

/-- the frame of a def of the text -/
structure FEnv (sc : Scope) (env : Env) : Prop where
  scope : env.scope = sc
  func : env.func.isSome = true
  cells : ∀ x, sc.names.lookup x = some .cell → (env.cells.lookup x).isSome = true
theorem FEnv.kind {sc : Scope} {env : Env} (h : FEnv sc env) {x : Str} {k : NameKind} (e : sc.names.lookup x = some k) : env.kindOf x = some k := by
  unfold Env.kindOf; rw [h.scope]; exact e
theorem FEnv.wr {sc : Scope} {env : Env} (h : FEnv sc env) {x : Str} (e : sc.names.lookup x = some .local ∨ sc.names.lookup x = some .cell) : Wr env x := by
  rcases e with e | e
  · exact .inl (h.kind e)
  · exact .inr ⟨h.kind e, h.func, h.cells x e⟩
theorem FEnv.rd {sc : Scope} {env : Env} (h : FEnv sc env) {x : Str} (e : sc.names.lookup x = some .local ∨ sc.names.lookup x = some .cell) : Rd env x := by
  rcases e with e | e
  · exact .inl (h.kind e)
  · exact .inr (.inl (h.kind e))

theorem bindL_get (kindOf : Str → Option NameKind) : ∀ (binds : List (Str × Value)) (m : Str → Option Value) (x : Str) (v : Value), (binds.map (·.1)).Nodup → (x, v) ∈ binds → kindOf x = some .local → bindL kindOf binds m x = some v
  | [], _, _, _, _, h, _ => nomatch h
  | (y, u) :: r, m, x, v, hnd, h, hk => by
    rw [List.map_cons, List.nodup_cons] at hnd
    unfold bindL
    rcases List.mem_cons.mp h with h | h
    · cases h
      have keep : ∀ (r : List (Str × Value)) (m : Str → Option Value), y ∉ r.map (·.1) → bindL kindOf r m y = m y := by
        intro r
        induction r with
        | nil => intro m _; rfl
        | cons z r ih =>
          intro m hn
          obtain ⟨zn, zv⟩ := z
          rw [List.map_cons, List.mem_cons, not_or] at hn
          unfold bindL
          rw [ih _ hn.2]
          split
          · simp [hn.1]
          · rfl
      rw [keep r _ hnd.1, if_pos hk]; simp
    · exact bindL_get kindOf r _ x v hnd.2 h hk
theorem bindC_get (kindOf : Str → Option NameKind) : ∀ (binds : List (Str × Value)) (m : Str → Option Value) (x : Str) (v : Value), (binds.map (·.1)).Nodup → (x, v) ∈ binds → kindOf x ≠ some .local → bindC kindOf binds m x = some v
  | [], _, _, _, _, h, _ => nomatch h
  | (y, u) :: r, m, x, v, hnd, h, hk => by
    rw [List.map_cons, List.nodup_cons] at hnd
    unfold bindC
    rcases List.mem_cons.mp h with h | h
    · cases h
      have keep : ∀ (r : List (Str × Value)) (m : Str → Option Value), y ∉ r.map (·.1) → bindC kindOf r m y = m y := by
        intro r
        induction r with
        | nil => intro m _; rfl
        | cons z r ih =>
          intro m hn
          obtain ⟨zn, zv⟩ := z
          rw [List.map_cons, List.mem_cons, not_or] at hn
          unfold bindC
          rw [ih _ hn.2]
          split
          · rfl
          · simp [hn.1]
      rw [keep r _ hnd.1, if_neg hk]; simp
    · exact bindC_get kindOf r _ x v hnd.2 h hk

theorem zip_lookup {X : List Addr} {h : Heap} : ∀ {names : List Str} {ds : List D} {vs : List Value} {x : Str} {sl : Slot}, names.length = ds.length → RepL X h ds vs → (names.zip (ds.map Slot.val)).lookup x = some sl →
    ∃ v, (x, v) ∈ names.zip vs ∧ SlRep X h sl v
  | [], _, _, _, _, _, _, e => by simp at e
  | y :: names, [], _, _, _, hl, _, _ => by simp at hl
  | y :: names, d :: ds, _, x, sl, hl, ⟨v, r, e1, a, b⟩, e => by
    subst e1
    simp only [List.map_cons, List.zip_cons_cons, List.lookup_cons] at e
    cases hx : x == y with
    | true => rw [hx] at e; cases e; rw [beq_iff_eq.mp hx]; exact ⟨v, List.mem_cons_self, a⟩
    | false =>
      rw [hx] at e
      obtain ⟨u, h1, h2⟩ := zip_lookup (by simpa using hl) b e
      exact ⟨u, List.mem_cons_of_mem _ h1, h2⟩

theorem zip_fst {names : List Str} {vs : List Value} (h : names.length = vs.length) : (names.zip vs).map (·.1) = names := by
  rw [← List.unzip_fst, List.unzip_zip h]

theorem FN.intro {n : Nat} {rc : DefRec} {names : List Str} {ds : List D} {d : D} (hrc : rc ∈ recsOf p)
    (hbind : ∀ pm code doc (vs : List Value), vs.length = ds.length → bindArgs (Calls.docDef rc.name rc.params rc.body rc.scope pm code doc) ⟨vs, []⟩ = pure (names.zip vs))
    (hlen : names.length = ds.length) (hnd : names.Nodup)
    (hkinds : ∀ x ∈ names, rc.scope.names.lookup x = some .local ∨ rc.scope.names.lookup x = some .cell)
    (hco : rc.scope.isCoroutine = false) (hgen : rc.scope.isGenerator = false) (hk : rc.scope.kind = .function)
    (h : ∀ A env, Ok n A → FEnv rc.scope env → ST p w A env (names.zip (ds.map Slot.val)) rc.body (fun fl _ => fl = .ret d)) : FN p w (n + 1) rc.name ds d := by
  intro A X₀ s Q E vs fa mg hA W hg hfa hX hr k
  obtain ⟨loose, mean, mg', mb, T, _⟩ := W.top
  obtain ⟨a, o, pm, code, doc, hm, ho, hdat, hcd⟩ := T.fn rc hrc
  have hmg : mg' = mg := by
    obtain ⟨o1, es1, ep1, h1, h2, _, h4⟩ := T.g
    obtain ⟨o2, es2, ep2, h1', h2', _, h4'⟩ := hg
    rw [h1] at h1'; cases h1'; rw [h2] at h2'; cases h2'
    funext x; rw [← h4, ← h4']
  subst hmg
  rw [hm] at hfa; cases hfa
  have hvl : vs.length = ds.length := hr.length
  have hfst := zip_fst (vs := vs) (hlen.trans hvl.symm)
  have mem_names : ∀ x v, (x, v) ∈ names.zip vs → x ∈ names := fun x v hx => hfst ▸ List.mem_map_of_mem (f := (·.1)) hx
  have kinds' : ∀ x ∈ names.zip vs, rc.scope.names.lookup x.1 = some .local ∨ (rc.scope.names.lookup x.1 = some .cell ∧ ((cellsFrom (s.heap.objs.size + 1) rc.scope.names []).lookup x.1).isSome = true) := fun x hx => by
    rcases hkinds x.1 (mem_names x.1 x.2 hx) with e | e
    · exact .inl e
    · exact .inr ⟨e, cellsFrom_some _ _ _ (.inl e)⟩
  refine wpAny_call (codeAny_call_cells (fd := Calls.docDef rc.name rc.params rc.body rc.scope pm code doc) (body := rc.body) (binds := names.zip vs) (by have := hA.2.1; show A.depth < 1000; omega) ho hdat T.nolimit hcd rfl (hbind pm code doc vs hvl) rfl kinds' (fun s₁ X => ?_) hco hgen hk)
  have FE : FEnv rc.scope (callEnvC (Calls.docDef rc.name rc.params rc.body rc.scope pm code doc) s.heap.objs.size fa) := ⟨rfl, rfl, fun x hx => cellsFrom_some _ _ _ (.inl hx)⟩
  have hfresh : ∀ b, s.heap.objs.size ≤ b → s.heap.get? b = none := fun b hb => by
    cases e : s.heap.get? b with
    | none => rfl
    | some o => exact absurd (Heap.lt_size e) (Nat.not_lt.mpr hb)
  have hseq : SeqExt s.heap s₁.heap := fun b o _ _ e _ => X.toInCall.keep b o e
  obtain ⟨h₁, tk, hsame⟩ := X.toInCall.same
  have noOwn : ∀ x a' xs, (names.zip (ds.map Slot.val)).lookup x ≠ some (Slot.own a' xs) := fun x a' xs hm => by
    have := (List.of_mem_zip (PySem.mem_of_lookup hm)).2
    obtain ⟨d, _, e⟩ := List.mem_map.mp this
    cases e
  refine h _ _ (hA.deeper _) FE ⟨s.heap, gk s, X₀⟩ s₁ _ _ ⟨W, X.toInCall.keep, fun g st e => by rw [hsame]; exact e, ⟨_, X.toInCall.ns, fun x sl hx hkx => ?_⟩, hfresh _ X.toInCall.fresh, fun x c hc => ⟨_, X.cell x c hc, fun sl hx hkx => ?_⟩, fun x sl hx hkx => ?_,
    fun _ => ⟨fun x c hm => hfresh _ (Nat.le_of_lt (Nat.lt_of_le_of_lt X.toInCall.fresh (X.above x c (PySem.mem_of_lookup hm)))), X.apart⟩, fun x a' xs hm => absurd hm (noOwn x a' xs), fun x a' xs hm => absurd hm (noOwn x a' xs), hX.ext hseq, hk, rfl, rfl⟩ fun fl f s' ρ' hfl F' hf => ?_
  · obtain ⟨v, hv, r⟩ := zip_lookup hlen hr hx
    exact ⟨v, bindL_get _ _ _ x v (by rw [hfst]; exact hnd) hv hkx, r.mono hseq⟩
  · obtain ⟨v, hv, r⟩ := zip_lookup hlen hr hx
    refine ⟨v, bindC_get _ _ _ x v (by rw [hfst]; exact hnd) hv (fun e => by rw [e] at hkx; rcases hkx with h | h <;> cases h), r.mono hseq⟩
  · rcases hkx with hkx | hkx
    · exact FE.cells x hkx
    · obtain ⟨v, hv, r⟩ := zip_lookup hlen hr hx
      rcases hkinds x (mem_names x v hv) with e | e
      · have := FE.kind e; rw [this] at hkx; cases hkx
      · exact FE.cells x e
  · subst hfl
    obtain ⟨v, rfl, r⟩ := hf
    exact k v s' ⟨F'.keep, F'.kgens⟩ r
end
end Mine
end
section
open PySem PySem.W PyProof.Rows PySem.Builtin.Str PySem.StrLaws
set_option Elab.async false
set_option autoImplicit false
set_option linter.unusedVariables false
namespace Mine
noncomputable abbrev pw : Program := PySem.Challenge.pw_ux0007_01
noncomputable def defAt (i : Nat) : DefRec := match pw.main.body[i]? with
  | some (.FunctionDef name args body _ _ _ scope _ bind pos) => ⟨name, args, body, scope, pos⟩
  | _ => ⟨Str.empty, ⟨[], [], none, [], [], none, []⟩, [], ⟨.module, [], false, false, []⟩, default⟩
theorem rec_in {i j : Nat} (h : (recsOf pw)[i]? = some (defAt j)) : defAt j ∈ recsOf pw := List.mem_of_getElem? h
theorem r_em : defAt 2 ∈ recsOf pw := rec_in (i := 0) (by kernel_rfl)
theorem r_iter : defAt 4 ∈ recsOf pw := rec_in (i := 1) (by kernel_rfl)
theorem r_strip : defAt 5 ∈ recsOf pw := rec_in (i := 2) (by kernel_rfl)
theorem r_check : defAt 6 ∈ recsOf pw := rec_in (i := 3) (by kernel_rfl)
theorem r_add : defAt 8 ∈ recsOf pw := rec_in (i := 4) (by kernel_rfl)
theorem r_mul : defAt 9 ∈ recsOf pw := rec_in (i := 5) (by kernel_rfl)
theorem r_neg : defAt 10 ∈ recsOf pw := rec_in (i := 6) (by kernel_rfl)
theorem r_contains : defAt 11 ∈ recsOf pw := rec_in (i := 7) (by kernel_rfl)
theorem r_row : defAt 13 ∈ recsOf pw := rec_in (i := 8) (by kernel_rfl)
theorem r_things : defAt 14 ∈ recsOf pw := rec_in (i := 9) (by kernel_rfl)
theorem r_product : defAt 15 ∈ recsOf pw := rec_in (i := 10) (by kernel_rfl)
theorem r_value : defAt 16 ∈ recsOf pw := rec_in (i := 11) (by kernel_rfl)
theorem r_stands : defAt 17 ∈ recsOf pw := rec_in (i := 12) (by kernel_rfl)
theorem r_joined : defAt 18 ∈ recsOf pw := rec_in (i := 13) (by kernel_rfl)
theorem r_law : defAt 19 ∈ recsOf pw := rec_in (i := 14) (by kernel_rfl)
theorem n_add : (defAt 8).name = Str.ofString "add" := rfl
theorem names_in (f : Str) (h : ((recsOf pw).map (·.name)).contains f = true) : f ∈ (recsOf pw).map (·.name) := by simpa using h

section
variable {w : World}
theorem fn_add {d1 d2 d : D} (h : ∀ A, BinV pw w A .Add d1 d2 d) : FN pw w 1 (Str.ofString "add") [d1, d2] d := by
  refine FN.intro (n := 0) (rc := defAt 8) (names := [Str.ofString "a", Str.ofString "b"]) r_add ?_ rfl (by decide +kernel) (by decide +kernel) (by kernel_rfl) (by kernel_rfl) (by kernel_rfl) ?_
  · intro pm code doc vs hv
    match vs, hv with
    | [a, b], _ => rfl
  · intro A env hA FE
    conv => arg 6; whnf
    refine ST.cons (ST1.ret (EV.binop (EV.name rfl (FE.rd (by decide +kernel))) (EV.name rfl (FE.rd (by decide +kernel))) (h _)) rfl)
end
end Mine
end
section
open PySem PySem.W PyProof.Rows PySem.Builtin.Str PySem.StrLaws
set_option Elab.async false
set_option autoImplicit false
set_option linter.unusedVariables false
namespace Mine
section
variable {p : Program} {w : World} {A : Around} {env : Env} {ρ : Loc} {pos : Pos}

theorem EV.meth {o : Expr} {name : Str} {id : String} {args : List Expr} {l : List Nat} {ds : List D} {d : D} {apos : Pos} (slot : PySem.Slot "str" name id) (ty : typeOf (.builtin id) = pure (.type "method_descriptor"))
    (ho : EV p w A env ρ o (.str l)) (ha : EVL p w A env ρ args ds) (hc : CallV p w A (.builtin id) (.str l :: ds) d)
    (hbase : attributeBase o name env (eval o env) = eval o env)
    (hfew : ((backTo pos (starEach args env)).all (fun x => !x.1) && (backToKw pos (keywordEach [] env)).all (fun x => x.1.isSome)
      && decide (args.length + ([] : List Keyword).length + (if ([] : List Keyword).isEmpty then 0 else 1) < 30)) = true)
    (hline : (apos.endLine == pos.line) = true)
    (hne : ∃ e r, args = e :: r ∧ starEach args env = (false, eval e env) :: starEach r env ∧ (backTo pos (starEach args env)).any (·.1) = false) :
    EV p w A env ρ (.Call (.Attribute o name apos) args [] pos) d := fun B s Q E F k =>
  wpAny_Call_method_lateS hbase hfew hline (ho B s _ _ F fun ov s1 e1 r1 => by
    obtain ⟨hl, t, rfl⟩ := r1
    refine ⟨"str", id, PySem.F.plainAttrs_str, slot, ty, typeIs_str _ _ _, (fun _ e => nomatch e), ?_⟩
    obtain ⟨e, r, rfl, hse, hany⟩ := hne
    have hb : backTo pos (starEach (e :: r) env) = (false, eval e env) :: backTo pos (starEach r env) := by rw [hse]; rfl
    refine Calls.callWith_builtin hany ?_
    rw [hb]
    refine Calls.evalArgs_plain ?_
    rw [← hb]
    exact ha B pos s1 _ _ (F.evo e1) fun vs s2 e2 r2 => hc B.X s2 _ _ _ (F.evo (e1.trans e2)).xok ⟨_, _, rfl, ⟨hl, t, rfl⟩, r2⟩ fun v s3 e3 r3 => k v s3 (e1.trans (e2.trans e3)) r3)

noncomputable def swB (x y : List Nat) : Bool := decide (x.take y.length = y)
noncomputable def ewB (x y : List Nat) : Bool := decide (y.length ≤ x.length ∧ x.drop (x.length - y.length) = y)
theorem swB_eq (x y : List Nat) : (decide (0 + (⟨y.toArray⟩ : Str).length ≤ (⟨x.toArray⟩ : Str).length) && subAt ⟨x.toArray⟩ ⟨y.toArray⟩ 0) = swB x y := by
  rw [subAt_eq]
  simp only [Str.length, List.size_toArray, List.drop_zero, swB, Nat.zero_add]
  by_cases h : x.take y.length = y
  · have : y.length ≤ x.length := by have := congrArg List.length h; rw [List.length_take] at this; omega
    simp [h, this]
  · simp [h]
theorem ewB_eq (x y : List Nat) : (decide (0 + (⟨y.toArray⟩ : Str).length ≤ (⟨x.toArray⟩ : Str).length) && subAt ⟨x.toArray⟩ ⟨y.toArray⟩ ((⟨x.toArray⟩ : Str).length - (⟨y.toArray⟩ : Str).length)) = ewB x y := by
  rw [subAt_eq]
  simp only [Str.length, List.size_toArray, ewB, Nat.zero_add]
  by_cases h : y.length ≤ x.length
  · have : ((x.drop (x.length - y.length)).take y.length) = x.drop (x.length - y.length) := by
      apply List.take_of_length_le; rw [List.length_drop]; omega
    simp only [h, true_and, decide_true, Bool.true_and, this]
    exact Bool.eq_iff_iff.mpr (by simp)
  · simp [h]
theorem CallV.startswith (x y : List Nat) : CallV p w A (.builtin "str.startswith") [.str x, .str y] (.bool (swB x y)) := by
  rintro X s Q E _ hX ⟨_, _, rfl, ⟨hx, t, rfl⟩, _, _, rfl, ⟨hy, u, rfl⟩, rfl⟩ k
  refine call_gives PySem.F.slot_str_startswith (typeIs_str _ _ _) PySem.F.entry_str_startswith (PySem.F.args_str_startswith_2 _ _) (gives_str_startswith _ _ t u) ?_
  rw [swB_eq]
  exact k _ s (Evo.refl s) rfl
theorem CallV.endswith (x y : List Nat) : CallV p w A (.builtin "str.endswith") [.str x, .str y] (.bool (ewB x y)) := by
  rintro X s Q E _ hX ⟨_, _, rfl, ⟨hx, t, rfl⟩, _, _, rfl, ⟨hy, u, rfl⟩, rfl⟩ k
  refine call_gives PySem.F.slot_str_endswith (typeIs_str _ _ _) PySem.F.entry_str_endswith (PySem.F.args_str_endswith_2 _ _) (gives_str_endswith _ _ t u) ?_
  rw [ewB_eq]
  exact k _ s (Evo.refl s) rfl

/-- y's first place in x between two places -/
noncomputable def findB (x y : List Nat) (lo hi : Nat) : Int := match occurrences ⟨x.toArray⟩ ⟨y.toArray⟩ lo hi 1 with
  | i :: _ => (i : Int)
  | [] => -1
theorem gives_find4 (x y : Str) (i j : Int) (t u v v' : Tok) : Gives (Builtin.«str.find» ⟨[.str x t, .str y u, .int i v, .int j v'], []⟩)
    (.int (match occurrences x y (fromIndex x.length i) (min (fromIndex x.length j) x.length) 1 with | k :: _ => (k : Int) | [] => -1)) := by
  show Gives (match occurrences x y (fromIndex x.length i) (min (fromIndex x.length j) x.length) 1 with | k :: _ => retInt k | [] => (do rule "str.find.not-found"; retInt (-1))) _
  cases occurrences x y (fromIndex x.length i) (min (fromIndex x.length j) x.length) 1 with
  | nil => exact .rule (.of_eq rfl)
  | cons k _ => exact .of_eq rfl

theorem CallV.find4 (x y : List Nat) (lo hi : Nat) (hh : hi ≤ x.length) : CallV p w A (.builtin "str.find") [.str x, .str y, .int lo, .int hi] (.int (findB x y lo hi)) := by
  rintro X s Q E _ hX ⟨_, _, rfl, ⟨hx, t, rfl⟩, _, _, rfl, ⟨hy, u, rfl⟩, _, _, rfl, ⟨v, rfl⟩, _, _, rfl, ⟨v', rfl⟩, rfl⟩ k
  refine call_gives PySem.F.slot_str_find (typeIs_str _ _ _) PySem.F.entry_str_find (PySem.F.args_str_find_4 _ _ _ _) (gives_find4 _ _ _ _ t u v v') ?_
  have e1 : fromIndex (⟨x.toArray⟩ : Str).length (lo : Int) = lo := by
    unfold fromIndex; simp only [show ¬ ((lo : Int) < 0) by omega, if_false]; omega
  have e2 : fromIndex (⟨x.toArray⟩ : Str).length (hi : Int) = hi := by
    unfold fromIndex; simp only [show ¬ ((hi : Int) < 0) by omega, if_false]; omega
  rw [e1, e2, show min hi (⟨x.toArray⟩ : Str).length = hi by simp only [Str.length, List.size_toArray]; omega]
  exact k _ _ (Evo.tok s _) ⟨_, rfl⟩

theorem strsOf {X : List Addr} {h : Heap} : ∀ {ls : List (List Nat)} {vs : List Value}, RepL X h (ls.map D.str) vs → StrsAre vs (ls.map fun x => (⟨x.toArray⟩ : Str)) ∧ (∀ x ∈ ls, x.length ≤ lim)
  | [], _, r => by cases r; exact ⟨.nil, fun x h => nomatch h⟩
  | x :: ls, _, ⟨v, r, e1, ⟨hl, t, e2⟩, y⟩ => by
    subst e1 e2
    obtain ⟨a, b⟩ := strsOf y
    exact ⟨.cons _ t a, fun z hz => (List.mem_cons.mp hz).elim (fun e => e ▸ hl) (b z)⟩

/-- sep.join(texts) -/
noncomputable def joinL (sep : List Nat) : List (List Nat) → List Nat
  | [] => []
  | [x] => x
  | x :: y :: r => x ++ sep ++ joinL sep (y :: r)
theorem joinL_str (sep : List Nat) : ∀ ls : List (List Nat), Str.join ⟨sep.toArray⟩ (ls.map fun x => (⟨x.toArray⟩ : Str)) = ⟨(joinL sep ls).toArray⟩
  | [] => rfl
  | [x] => rfl
  | x :: y :: r => by
    have ih := joinL_str sep (y :: r)
    simp only [List.map_cons] at ih ⊢
    unfold Str.join
    rw [ih, strApp, strApp]
    rfl
theorem joinL_length (sep : List Nat) : ∀ ls : List (List Nat), (joinL sep ls).length ≤ (ls.map List.length).sum + ls.length * sep.length
  | [] => Nat.zero_le _
  | [x] => by simp [joinL]
  | x :: y :: r => by
    have ih := joinL_length sep (y :: r)
    simp only [joinL, List.length_append, List.map_cons, List.sum_cons, List.length_cons] at ih ⊢
    have e : (r.length + 1 + 1) * sep.length = (r.length + 1) * sep.length + sep.length := Nat.succ_mul _ _
    rw [e]
    omega
theorem joinL_txt (sep : List Nat) (ls : List (List Nat)) : Txt.join ⟨sep.toArray⟩ (ls.map fun x => (⟨x.toArray⟩ : Str)) = ⟨(joinL sep ls).toArray⟩ := by
  rw [← joinL_str]; exact glued_eq_join _ _
theorem joinOkL {sep : List Nat} {ls : List (List Nat)} (h : (ls.map List.length).sum + ls.length * sep.length ≤ lim) : JoinOk ⟨sep.toArray⟩ (ls.map fun x => (⟨x.toArray⟩ : Str)) = true := by
  refine joinOk_of ?_
  have e : ((ls.map fun x => (⟨x.toArray⟩ : Str)).map fun x => x.length) = ls.map List.length := by
    rw [List.map_map]; apply List.map_congr_left; intro x _; simp [Str.length]
  rw [e, List.length_map]
  have : (⟨sep.toArray⟩ : Str).length = sep.length := by simp [Str.length]
  rw [this]
  exact Nat.le_trans h (by decide)
theorem CallV.join (sep : List Nat) (ls : List (List Nat)) (h : (ls.map List.length).sum + ls.length * sep.length ≤ lim) : CallV p w A (.builtin "str.join") [.str sep, .lst (ls.map D.str)] (.str (joinL sep ls)) := by
  rintro X s Q E _ hX ⟨_, _, rfl, ⟨hx, t, rfl⟩, _, _, rfl, ⟨hl, a, vs, rfl, _, hL, r⟩, rfl⟩ k
  obtain ⟨l, e1, e2⟩ := RepL.strs r
  subst e1
  refine SC.join hL e2 (joinOkL h) fun t' k' => ?_
  rw [joinL_txt]
  exact k _ _ (Evo.tok s _) ⟨Nat.le_trans (joinL_length sep ls) h, _, rfl⟩
theorem sum_ones : ∀ l : List Nat, ((l.map fun c => [c]).map List.length).sum = l.length
  | [] => rfl
  | a :: r => by have := sum_ones r; simp only [List.map_cons, List.sum_cons, List.length_cons, List.length_nil] at this ⊢; omega
theorem signs_D (l : List Nat) : signs ⟨l.toArray⟩ = (l.map fun c => [c]).map fun x => (⟨x.toArray⟩ : Str) := by
  simp [signs, List.map_map, Function.comp_def]
theorem CallV.joinStr (sep l : List Nat) (hA : A.handled = none) (h : l.length + l.length * sep.length ≤ lim) : CallV p w A (.builtin "str.join") [.str sep, .str l] (.str (joinL sep (l.map fun c => [c]))) := by
  rintro X s Q E _ hX ⟨_, _, rfl, ⟨hx, t, rfl⟩, _, _, rfl, ⟨hl, u, rfl⟩, rfl⟩ k
  have hs := sum_ones l
  have h' : ((l.map fun c => [c]).map List.length).sum + (l.map fun c => [c]).length * sep.length ≤ lim := by rw [hs, List.length_map]; exact h
  refine SC.joinStr hA (by rw [signs_D]; exact joinOkL h') fun h1 k1 t1 he => ?_
  rw [signs_D, joinL_txt]
  exact k _ _ (Evo.ofHeap _ he) ⟨Nat.le_trans (joinL_length sep _) h', _, rfl⟩
end
end Mine
end
section
open PySem PySem.W PyProof.Rows PySem.Builtin.Str PySem.StrLaws
set_option Elab.async false
set_option autoImplicit false
set_option linter.unusedVariables false
namespace Mine
section
variable {p : Program} {w : World} {A : Around} {env : Env} {ρ : Loc} {pos : Pos}

/-- text.split(sep) as lists of signs -/
noncomputable def splitD (x y : List Nat) : List (List Nat) := (Txt.split ⟨x.toArray⟩ ⟨y.toArray⟩).map fun z => z.cps.toList

theorem repl_strs {X : List Addr} {h : Heap} : ∀ {l : List (Str × Tok)}, (∀ x ∈ l, x.1.length ≤ lim) → RepL X h ((l.map (·.1)).map fun z => D.str z.cps.toList) (strValues l)
  | [], _ => rfl
  | (x, t) :: r, hl => ⟨_, _, rfl, ⟨by have := hl (x, t) List.mem_cons_self; simpa [Str.length] using this, t, by simp⟩, repl_strs fun y hy => hl y (List.mem_cons_of_mem _ hy)⟩

theorem strSub_len (x : Str) (i j : Nat) : (strSub x i j).length ≤ x.length := PyProof.Rows.len_strSub x i j
theorem split_len (x y : Str) : ∀ z ∈ Txt.split x y, z.length ≤ x.length := by
  intro z hz
  unfold Txt.split at hz
  split at hz
  · simp at hz; subst hz; exact Nat.le_refl _
  · split at hz
    · simp at hz; subst hz; exact Nat.le_refl _
    · unfold partsBetween at hz
      obtain ⟨⟨i, j⟩, _, rfl⟩ := List.mem_map.mp hz
      exact strSub_len _ _ _

theorem ST1.split {x : Str} {o e : Expr} {l sep : List Nat} {P : Fl → Loc → Prop} {pos' apos cpos : Pos} (ho : EV p w A env ρ o (.str l)) (he : EV p w A env ρ e (.str sep)) (hsep : sep ≠ [])
    (hparts : (splitD l sep).length ≤ lim)
    (hP : ∀ a, P .next (ρ.set x (.own a ((splitD l sep).map D.str)))) (hk : Wr env x)
    (hbase : attributeBase o (Str.ofString "split") env (eval o env) = eval o env := by rfl) (hs : starEach [e] env = [(false, eval e env)] := by rfl) (hline : (apos.endLine == cpos.line) = true := by rfl)
    (hsw : swapsWith (.Call (.Attribute o (Str.ofString "split") apos) [e] [] cpos) (some (.Name x pos')) pos.line env = pure false := by rfl) :
    ST1 p w A env ρ (.Assign [.Name x pos'] (.Call (.Attribute o (Str.ofString "split") apos) [e] [] cpos) pos) P := fun B s Q E F k => by
  refine wpAny_Assign_Name (Call_method1 hbase hs hline (ho B s _ _ F fun ov s1 e1 r1 => ?_)) hsw
  obtain ⟨hl, t, rfl⟩ := r1
  have hlen : (⟨l.toArray⟩ : Str).length ≤ sizeLine := by simpa [Str.length] using Nat.le_trans hl lim_size
  refine ⟨"str", _, PySem.F.plainAttrs_str, PySem.F.slot_str_split, PySem.F.type_str_split, typeIs_str _ _ _, (fun _ e => nomatch e),
    method1_meets PySem.F.slot_str_split PySem.F.entry_str_split (he B s1 _ _ (F.evo e1) fun v s2 e2 r2 => ?_)⟩
  obtain ⟨hl2, u, rfl⟩ := r2
  have hy : ((⟨sep.toArray⟩ : Str).length == 0) = false := by
    cases sep with
    | nil => exact absurd rfl hsep
    | cons a r => simp [Str.length]
  refine ⟨typeIs_str _ _ _, PySem.F.args_str_split_2 _ _, ?_⟩
  have fin : ∀ (ls : List (Str × Tok)) (k' : Nat), ls.map (·.1) = Txt.split ⟨l.toArray⟩ ⟨sep.toArray⟩ → wpAny (model p w) A (storeName env x (.ref s2.heap.objs.size)) (fun _ => Q .next) E { s2 with toks := k', heap := s2.heap.push { cls := .type "list", data := .seq (strValues ls).toArray } } := by
    intro ls k' hls
    have e12 := e1.trans e2
    have hD : (splitD l sep).map D.str = (ls.map (·.1)).map fun z => D.str z.cps.toList := by rw [hls]; simp [splitD, List.map_map, Function.comp_def]
    have hfr : B.heap.get? s2.heap.objs.size = none := by
      cases q : B.heap.get? s2.heap.objs.size with
      | none => rfl
      | some ob => exact absurd (Heap.lt_size ((F.evo e12).keep _ _ q)) (Nat.lt_irrefl _)
    refine ((F.evo e12).evo (Evo.push s2 _ k')).store (sl := .own s2.heap.objs.size ((splitD l sep).map D.str)) hk ⟨rfl, (F.evo e12).xok.fresh, by rw [List.length_map]; exact hparts, strValues ls, ⟨_, Heap.get?_push_size _ rfl⟩, ?_⟩ (fun a xs e => by cases e; exact hfr) fun s3 F3 => k .next _ s3 _ (hP _) F3 rfl
    rw [hD]
    exact repl_strs fun z hz => by
      have hm : z.1 ∈ Txt.split ⟨l.toArray⟩ ⟨sep.toArray⟩ := by rw [← hls]; exact List.mem_map_of_mem hz
      exact Nat.le_trans (split_len _ _ _ hm) (by simpa [Str.length] using hl)
  cases h1 : (decide ((⟨l.toArray⟩ : Str).length < (⟨sep.toArray⟩ : Str).length) || decide (strKind ⟨l.toArray⟩ < strKind ⟨sep.toArray⟩))
  · cases hf : (occurrences ⟨l.toArray⟩ ⟨sep.toArray⟩ 0 (⟨l.toArray⟩ : Str).length ((⟨l.toArray⟩ : Str).length + 1)).isEmpty
    · refine ⟨_, meets_str_split_sep _ _ t u h1 hy hf hlen ?_, ?_⟩
      · have e : Txt.split ⟨l.toArray⟩ ⟨sep.toArray⟩ = partsBetween ⟨l.toArray⟩ (occurrences ⟨l.toArray⟩ ⟨sep.toArray⟩ 0 (⟨l.toArray⟩ : Str).length ((⟨l.toArray⟩ : Str).length + 1)) (⟨sep.toArray⟩ : Str).length :=
          (if_neg (ne_true_of_eq_false h1)).trans (if_neg (ne_true_of_eq_false hf))
        rw [← e]
        have := Nat.le_trans hparts lim_size
        simpa [splitD] using this
      · show wants _ _ _ { s2 with toks := _, heap := s2.heap.push { cls := .type "list", data := .seq (strsFrom s2.toks (partsBetween ⟨l.toArray⟩ (occurrences ⟨l.toArray⟩ ⟨sep.toArray⟩ 0 (⟨l.toArray⟩ : Str).length ((⟨l.toArray⟩ : Str).length + 1)) (⟨sep.toArray⟩ : Str).length)).toArray } }
        rw [strsFrom_eq]
        exact fin (numbered s2.toks _) _ ((numbered_texts _ _).trans ((if_neg (ne_true_of_eq_false h1)).trans (if_neg (ne_true_of_eq_false hf))).symm)
    · exact ⟨_, meets_str_split_not_found _ _ t u h1 hy hf, fin [(_, t)] s2.toks ((if_neg (ne_true_of_eq_false h1)).trans (if_pos hf)).symm⟩
  · exact ⟨_, meets_str_split_cannot_occur _ _ t u h1, fin [(_, t)] s2.toks (if_pos h1).symm⟩

/-- x = [] : a list of the frame's own -/
theorem ST1.ownNil {x : Str} {P : Fl → Loc → Prop} {pos' lpos : Pos} (hP : ∀ a, P .next (ρ.set x (.own a []))) (hk : Wr env x)
    (hsw : swapsWith (.List [] lpos) (some (.Name x pos')) pos.line env = pure false := by rfl) : ST1 p w A env ρ (.Assign [.Name x pos'] (.List [] lpos) pos) P := fun B s Q E F k => by
  refine wpAny_Assign_Name (wpAny_List (EVL.nil (p := p) (w := w) (A := A) B lpos s _ _ F fun vs s1 e1 r1 => ?_)) hsw
  cases r1
  refine ⟨Nat.zero_le _, ?_⟩
  have hfr : B.heap.get? s1.heap.objs.size = none := by
    cases q : B.heap.get? s1.heap.objs.size with
    | none => rfl
    | some ob => exact absurd (Heap.lt_size ((F.evo e1).keep _ _ q)) (Nat.lt_irrefl _)
  exact ((F.evo e1).evo (Evo.push s1 _ s1.toks)).store (sl := .own s1.heap.objs.size []) hk ⟨rfl, (F.evo e1).xok.fresh, Nat.zero_le _, [], ⟨_, Heap.get?_push_size _ rfl⟩, rfl⟩ (fun a xs e => by cases e; exact hfr) fun s3 F3 => k .next _ s3 _ (hP _) F3 rfl

/-- all the other names hold what no list's change can touch -/
noncomputable def scalar : D → Bool
  | .lst _ => false
  | .tup _ => false
  | _ => true
noncomputable def Slot.scalar : Slot → Bool
  | .val d => Mine.scalar d
  | .own _ _ => false
theorem SlRep.scalar {X : List Addr} {h h' : Heap} {sl : Slot} {v : Value} (hs : sl.scalar = true) (r : SlRep X h sl v) : SlRep X h' sl v := by
  cases sl with
  | own a xs => cases hs
  | val d => cases d <;> first | exact r | cases hs
noncomputable def Loc.others (ρ : Loc) (x : Str) : Bool := ρ.all fun q => q.1 == x || q.2.scalar
theorem Loc.others_get {x y : Str} {sl : Slot} : ∀ {ρ : Loc}, ρ.others x = true → ρ.lookup y = some sl → y ≠ x → sl.scalar = true
  | [], _, e, _ => by simp at e
  | (z, u) :: r, h, e, hne => by
    unfold Loc.others at h
    rw [List.all_cons, Bool.and_eq_true] at h
    rw [List.lookup_cons] at e
    cases hyz : y == z with
    | true =>
      rw [hyz] at e; cases e
      have hz : y = z := by simpa using hyz
      subst hz
      have := h.1
      simp [hne] at this
      exact this
    | false => rw [hyz] at e; exact Loc.others_get (ρ := r) h.2 e hne

/-- the frame's own list is changed -/
theorem FS.change {B : Base} {s : Shared} {x : Str} {a : Addr} {xs ys : List D} {vs' : List Value} {h' : Heap} {k : Nat} (F : FS p B env ρ s) (hx : ρ.lookup x = some (.own a xs)) (ho : ρ.others x = true)
    (hr : Rd env x) (hl : ys.length ≤ lim) (hp : h'.PlainList a vs'.toArray) (hs : Heap.SameBut a s.heap h') (r : RepL B.X h' ys vs') : FS p B env (ρ.set x (.own a ys)) { s with heap := h', toks := k } := by
  have hB := F.onew x a xs hx
  have hold : s.heap.IsList a vs'.toArray ∨ True := .inr trivial
  have hlist : ∃ ws, s.heap.PlainList a (List.toArray ws) := by
    rcases hr with hk | hk
    · obtain ⟨m, hm, hv⟩ := F.ns
      obtain ⟨v, _, e, _, _, ws, P, _⟩ := hv x _ hx hk
      exact ⟨ws, P⟩
    · have hk' : env.kindOf x = some .cell ∨ env.kindOf x = some .free := hk.imp id (·.1)
      obtain ⟨c, hc⟩ := Option.isSome_iff_exists.mp (F.has x _ hx hk')
      obtain ⟨v, _, hv⟩ := F.cell x c hc
      obtain ⟨u, _, e, _, _, ws, P, _⟩ := hv _ hx hk'
      exact ⟨ws, P⟩
  obtain ⟨ws, n, hobj⟩ := hlist
  have neDict : ∀ {b : Addr} {m : Str → Option Value}, s.heap.Ns b m → b ≠ a := fun hn e => by
    subst e; exact dictNotSeq hn hobj rfl
  have neCell : ∀ {b : Addr} {v : Option Value}, s.heap.IsCell b v → b ≠ a := fun hn e => by
    subst e; exact cellNotSeq hn hobj rfl
  have key : ∀ y sl v, (ρ.set x (.own a ys)).lookup y = some sl → (∀ sl', ρ.lookup y = some sl' → SlRep B.X s.heap sl' v) → SlRep B.X h' sl v := by
    intro y sl v hy hv
    rw [Loc.lookup_set] at hy
    by_cases hyx : y = x
    · subst hyx; simp at hy; subst hy
      obtain ⟨e, hax, _⟩ := hv _ hx
      exact ⟨e, hax, hl, vs', hp, r⟩
    · simp [hyx] at hy
      exact SlRep.scalar (Loc.others_get ho hy hyx) (hv _ hy)
  have old : ∀ y sl, (ρ.set x (.own a ys)).lookup y = some sl → ∃ sl', ρ.lookup y = some sl' := by
    intro y sl hy
    rw [Loc.lookup_set] at hy
    by_cases hyx : y = x
    · subst hyx; exact ⟨_, hx⟩
    · simp [hyx] at hy; exact ⟨_, hy⟩
  refine ⟨F.wf, fun b o e => (hs.2 b fun q => by subst q; rw [hB] at e; cases e).trans (F.keep b o e), F.kgens, ?_, F.lnew, fun y c hc => ?_, fun y sl hy hk => ?_, F.cnew, fun y b zs hm => ?_, fun y b zs hm => ?_, fun b hb => ?_, F.kind, F.glob, F.blt⟩
  · obtain ⟨m, hm, hv⟩ := F.ns
    refine ⟨m, hm.sameBut hs (neDict hm), fun y sl hy hk => ?_⟩
    obtain ⟨sl', hsl'⟩ := old y sl hy
    obtain ⟨v, h1, h2⟩ := hv y sl' hsl' hk
    exact ⟨v, h1, key y sl v hy fun sl'' e => by rw [hsl'] at e; cases e; exact h2⟩
  · obtain ⟨v, h1, h2⟩ := F.cell y c hc
    refine ⟨v, h1.sameBut hs (neCell h1), fun sl hy hk => ?_⟩
    obtain ⟨sl', hsl'⟩ := old y sl hy
    obtain ⟨u, h3, h4⟩ := h2 sl' hsl' hk
    exact ⟨u, h3, key y sl u hy fun sl'' e => by rw [hsl'] at e; cases e; exact h4⟩
  · obtain ⟨sl', hsl'⟩ := old y sl hy
    exact F.has y sl' hsl' hk
  · rw [Loc.lookup_set] at hm
    by_cases hyx : y = x
    · simp [hyx] at hm; rw [← hm.1]; exact hB
    · simp [hyx] at hm; exact F.onew y b zs hm
  · rw [Loc.lookup_set] at hm
    by_cases hyx : y = x
    · simp [hyx] at hm; rw [← hm.1]; exact ⟨_, hp⟩
    · simp [hyx] at hm
      have := Loc.others_get ho hm hyx
      cases this
  · by_cases hba : b = a
    · subst hba; obtain ⟨n, e⟩ := hp; exact ⟨_, _, _, e, rfl⟩
    · obtain ⟨o, xs, n, e, hd⟩ := F.xok b hb
      exact ⟨o, xs, n, (hs.2 b hba).trans e, hd⟩
theorem seqIndex_lt {i : Int} {n j : Nat} (hj : seqIndex? i n = some j) : j < n := by
  unfold seqIndex? at hj
  have key : ∀ (i : Int), (if (decide (0 ≤ i) && decide (i < (n : Int))) = true then some i.toNat else none) = some j → j < n := by
    intro i hi
    by_cases hc : (decide (0 ≤ i) && decide (i < (n : Int))) = true
    · rw [if_pos hc] at hi
      simp only [Bool.and_eq_true, decide_eq_true_eq] at hc
      have := Option.some.inj hi
      omega
    · rw [if_neg hc] at hi; cases hi
  exact key _ hj
theorem Rep.scalar {X : List Addr} {h h' : Heap} {d : D} {v : Value} (hs : Mine.scalar d = true) (r : Rep X h d v) : Rep X h' d v := by
  cases d <;> first | exact r | cases hs
theorem RepL.scalar {X : List Addr} {h h' : Heap} : ∀ {ds : List D} {vs : List Value}, ds.all Mine.scalar = true → RepL X h ds vs → RepL X h' ds vs
  | [], _, _, r => r
  | d :: ds, _, hs, ⟨v, r, e, a, b⟩ => by
    rw [List.all_cons, Bool.and_eq_true] at hs
    exact ⟨v, r, e, Rep.scalar hs.1 a, RepL.scalar hs.2 b⟩

theorem ST1.append {x : Str} {e : Expr} {a : Addr} {xs : List D} {d : D} {P : Fl → Loc → Prop} {npos apos cpos : Pos} (hx : ρ.lookup x = some (.own a xs)) (ho : ρ.others x = true) (hr : Rd env x) (he : EV p w A env ρ e d)
    (hsc : (xs ++ [d]).all Mine.scalar = true) (hl : (xs ++ [d]).length ≤ lim) (hP : P .next (ρ.set x (.own a (xs ++ [d])))) (hd : (x == ("__debug__" : Str)) = false)
    (hi : interactive env = false)
    (hbase : attributeBase (.Name x npos) (Str.ofString "append") env (eval (.Name x npos) env) = eval (.Name x npos) env := by rfl)
    (hs : starEach [e] env = [(false, eval e env)] := by rfl) (hline : (apos.endLine == cpos.line) = true := by rfl)
    (hsw : swapsWith (.Call (.Attribute (.Name x npos) (Str.ofString "append") apos) [e] [] cpos) none pos.line env = pure false := by rfl) :
    ST1 p w A env ρ (.Expr (.Call (.Attribute (.Name x npos) (Str.ofString "append") apos) [e] [] cpos) pos) P := fun B s Q E F k => by
  refine wpAny_Expr (wpAny_Call_append hbase (by rw [hs]; rfl) hline (by rw [hs]; rfl) ?_) hi hsw
  refine wpAny_Name (LV.name F hx hr fun v r => ?_) hd
  obtain ⟨rfl, _, hlen, vs, ⟨n, hob⟩, rL⟩ := r
  refine ⟨a, _, rfl, ⟨_, n, hob, rfl, rfl, rfl⟩, he B s _ _ F fun y s2 e2 r2 => ?_⟩
  have hob2 := e2.heap _ _ hob
  refine wpAny_list_append_plain ⟨n, hob2⟩ (fun h' hp hs' => ?_) (by rw [List.size_toArray, rL.length]; exact Nat.le_trans hlen lim_size)
  refine k .next _ _ _ hP ((F.evo e2).change (k := s2.toks) (vs' := vs ++ [y]) hx ho hr hl (by simpa using hp) hs' ?_) rfl
  exact RepL.scalar hsc ((rL.mono e2.seq).append (RepL.one r2))

theorem ST1.del {x : Str} {e : Expr} {a : Addr} {xs : List D} {i : Int} {j : Nat} {P : Fl → Loc → Prop} {npos spos : Pos} (hx : ρ.lookup x = some (.own a xs)) (ho : ρ.others x = true) (hr : Rd env x) (he : EV p w A env ρ e (.int i))
    (hfit : Builtin.List.listFitsIndex i = true) (hj : seqIndex? i xs.length = some j)
    (hsc : xs.all Mine.scalar = true) (hP : P .next (ρ.set x (.own a (xs.eraseIdx j)))) (hd : (x == ("__debug__" : Str)) = false) :
    ST1 p w A env ρ (.Delete [.Subscript (.Name x npos) e spos] pos) P := fun B s Q E F k => by
  refine wpAny_Delete ?_
  rw [arm_deleteEach_cons, arm_delete_Subscript]
  refine wpAny_bind (wpAny_bind (wpAny_Name (LV.name F hx hr fun v r => ?_) hd))
  obtain ⟨rfl, _, hlen, vs, ⟨n, hob⟩, rL⟩ := r
  refine wpAny_bind (wpAny_holding (he B s _ _ F fun y s2 e2 r2 => ?_))
  obtain ⟨t, rfl⟩ := r2
  refine wpAny_bind (wpAny_standAt (wpAny_bind (wpAny_holding ?_)))
  refine wpAny_delItem_plain ⟨n, e2.heap _ _ hob⟩ hfit (by rw [List.size_toArray, rL.length]; exact hj) (fun h' hp hs' => ?_) (by rw [List.size_toArray, rL.length]; exact Nat.le_trans hlen lim_size)
  have hrel : ∀ {vs : List Value} {s : Shared} {Q : Unit → Shared → Prop}, Q () s → wpAny (model p w) A (release vs []) Q E s := fun hq Γ pp _ => by rw [Sem.wp_release]; exact hq
  refine hrel ?_
  rw [arm_deleteEach_nil]
  refine wpAny_pure ?_
  have hjl : j < xs.length := seqIndex_lt hj
  have herase : ∀ {ds : List D} {us : List Value} (j : Nat), RepL B.X h' ds us → RepL B.X h' (ds.eraseIdx j) (us.eraseIdx j) := by
    intro ds
    induction ds with
    | nil => intro us j r; cases r; exact rfl
    | cons d ds ih =>
      intro us j ⟨v, r, e1, x, y⟩
      subst e1
      cases j with
      | zero => exact y
      | succ j => exact ⟨v, _, rfl, x, ih j y⟩
  refine k .next _ _ _ hP ((F.evo e2).change (k := s2.toks) (vs' := vs.eraseIdx j) hx ho hr (Nat.le_trans (List.length_eraseIdx_le _ _) hlen) ?_ hs' ?_) rfl
  · have : vs.toArray.eraseIdxIfInBounds j = (vs.eraseIdx j).toArray := by
      rw [Array.eraseIdxIfInBounds, dif_pos (by simpa [rL.length] using hjl)]
      simp
    rw [← this]; exact hp
  · exact herase j (RepL.scalar hsc rL)

/-- from here on the list stands still -/
theorem ST.freeze {x : Str} {a : Addr} {xs : List D} {ss : List Stmt} {P : Fl → Loc → Prop} (hx : ρ.lookup x = some (.own a xs)) (h : ST p w A env (ρ.set x (.val (.lst xs))) ss P) : ST p w A env ρ ss P := fun B s Q E F k => by
  have back : ∀ y b zs, (ρ.set x (.val (.lst xs))).lookup y = some (Slot.own b zs) → ρ.lookup y = some (Slot.own b zs) := by
    intro y b zs hy
    rw [Loc.lookup_set] at hy
    by_cases hyx : y = x
    · simp [hyx] at hy
    · simpa [hyx] using hy
  refine h B s Q E ⟨F.wf, F.keep, F.kgens, ?_, F.lnew, fun y c hc => ?_, fun y sl hy hk => ?_, F.cnew, fun y b zs hm => F.onew y b zs (back y b zs hm), fun y b zs hm => F.alive y b zs (back y b zs hm), F.xok, F.kind, F.glob, F.blt⟩ k
  · obtain ⟨m, hm, hv⟩ := F.ns
    refine ⟨m, hm, fun y sl hy hk => ?_⟩
    rw [Loc.lookup_set] at hy
    by_cases hyx : y = x
    · subst hyx; simp at hy; subst hy
      obtain ⟨v, h1, h2⟩ := hv _ _ hx hk
      exact ⟨v, h1, h2.rep⟩
    · simp [hyx] at hy; exact hv y sl hy hk
  · obtain ⟨v, h1, h2⟩ := F.cell y c hc
    refine ⟨v, h1, fun sl hy hk => ?_⟩
    rw [Loc.lookup_set] at hy
    by_cases hyx : y = x
    · subst hyx; simp at hy; subst hy
      obtain ⟨u, h3, h4⟩ := h2 _ hx hk
      exact ⟨u, h3, h4.rep⟩
    · simp [hyx] at hy; exact h2 sl hy hk
  · rw [Loc.lookup_set] at hy
    by_cases hyx : y = x
    · subst hyx; exact F.has _ _ hx hk
    · simp [hyx] at hy; exact F.has y sl hy hk
end
end Mine
end
section
open PySem PySem.W PyProof.Rows PySem.Builtin.Str PySem.StrLaws
set_option Elab.async false
set_option autoImplicit false
set_option linter.unusedVariables false
namespace Mine

/-- what a frame may change -/
noncomputable def hid (env : Env) (ρ : Loc) : List Addr := env.locals :: ((if env.func.isSome then env.cells.filterMap fun q => env.cells.lookup q.1 else []) ++ ρ.filterMap fun q => match ρ.lookup q.1 with | some (.own a _) => some a | _ => none)
theorem mem_hid {env : Env} {ρ : Loc} {b : Addr} : b ∈ hid env ρ ↔ b = env.locals ∨ (env.func.isSome = true ∧ ∃ x, env.cells.lookup x = some b) ∨ ∃ x xs, ρ.lookup x = some (Slot.own b xs) := by
  unfold hid
  rw [List.mem_cons, List.mem_append]
  refine or_congr Iff.rfl (or_congr ?_ ?_)
  · split
    · rename_i h
      simp only [List.mem_filterMap, h, true_and]
      exact ⟨fun ⟨q, _, e⟩ => ⟨q.1, e⟩, fun ⟨x, e⟩ => ⟨(x, b), PySem.mem_of_lookup e, e⟩⟩
    · rename_i h
      simp [h]
  · simp only [List.mem_filterMap]
    constructor
    · rintro ⟨⟨x, sl⟩, hm, e⟩
      dsimp only at e
      split at e
      · rename_i a xs h
        cases e; exact ⟨x, xs, h⟩
      · cases e
    · rintro ⟨x, xs, hm⟩
      exact ⟨_, PySem.mem_of_lookup hm, by dsimp only; rw [hm]⟩

structure Mv (pr : Addr → Prop) (pg : Nat → Prop) (s s' : Shared) : Prop where
  heap : ∀ b o, ¬ pr b → s.heap.get? b = some o → s'.heap.get? b = some o
  gens : ∀ (g : Nat) (st : GX), ¬ pg g → gk s g = some st → gk s' g = some st

noncomputable def NotSeq (o : Obj) : Prop := ∀ xs n, o.data ≠ .seq xs n

section
variable {p : Program} {w : World} {A : Around} {env : Env} {ρ : Loc} {pos : Pos} {B : Base} {s s' : Shared}

theorem FS.hidden (F : FS p B env ρ s) : ∀ b ∈ hid env ρ, B.heap.get? b = none := fun b hb => by
  rcases mem_hid.mp hb with rfl | ⟨hf, x, hm⟩ | ⟨x, xs, hm⟩
  · exact F.lnew
  · exact (F.cnew hf).1 x b hm
  · exact F.onew x b xs hm

/-- the base goes up to all that stands and is not the frame's own -/
theorem FS.up (F : FS p B env ρ s) : FS p ⟨hideAll s.heap (hid env ρ), gk s, B.X⟩ env ρ s where
  wf := F.wf.keeps fun b o e => hideAll_get _ (F.keep b o e) fun hb => by rw [F.hidden b hb] at e; cases e
  keep := fun b o e => of_hideAll _ e
  kgens := fun _ _ e => e
  ns := F.ns
  lnew := hideAll_none _ (mem_hid.mpr (.inl rfl))
  cell := F.cell
  has := F.has
  cnew := fun hf => ⟨fun x c hm => hideAll_none _ (mem_hid.mpr (.inr (.inl ⟨hf, x, hm⟩))), (F.cnew hf).2⟩
  onew := fun x a xs hm => hideAll_none _ (mem_hid.mpr (.inr (.inr ⟨x, xs, hm⟩)))
  alive := F.alive
  xok := F.xok
  kind := F.kind
  glob := F.glob
  blt := F.blt
theorem FS.down {ρ' : Loc} (F : FS p B env ρ s) (F' : FS p ⟨hideAll s.heap (hid env ρ), gk s, B.X⟩ env ρ' s') : FS p B env ρ' s' where
  wf := F.wf
  keep := fun b o e => F'.keep b o (hideAll_get _ (F.keep b o e) fun hb => by rw [F.hidden b hb] at e; cases e)
  kgens := fun g st e => F'.kgens g st (F.kgens g st e)
  ns := F'.ns
  lnew := F.lnew
  cell := F'.cell
  has := F'.has
  cnew := F.cnew
  onew := fun x a xs hm => by
    cases q : B.heap.get? a with
    | none => rfl
    | some o =>
      have := F'.onew x a xs hm
      have h2 := hideAll_get (hid env ρ) (F.keep a o q) (fun hb => by rw [F.hidden a hb] at q; cases q)
      dsimp only at this
      rw [h2] at this; cases this
  alive := F'.alive
  xok := F'.xok
  kind := F.kind
  glob := F.glob
  blt := F.blt
theorem FS.down_keep {ρ' : Loc} (F' : FS p ⟨hideAll s.heap (hid env ρ), gk s, B.X⟩ env ρ' s') {b : Addr} {o : Obj} (e : s.heap.get? b = some o) (hb : b ∉ hid env ρ) : s'.heap.get? b = some o :=
  F'.keep b o (hideAll_get _ e hb)

/-- something of another's moves on -/
theorem FS.moved {pr : Addr → Prop} {pg : Nat → Prop} (F : FS p B env ρ s) (m : Mv pr pg s s') (hB : ∀ b o, B.heap.get? b = some o → ¬ pr b) (hG : ∀ (g : Nat) st, B.gens g = some st → ¬ pg g)
    (hL : ¬ pr env.locals) (hC : ∀ x c, env.cells.lookup x = some c → ¬ pr c) (hS : ∀ b, pr b → ∃ o, s.heap.get? b = some o ∧ NotSeq o) : FS p B env ρ s' := by
  have hse : SeqExt s.heap s'.heap := fun b o xs n e hd => m.heap b o (fun hp => by
    obtain ⟨o', e', hn⟩ := hS b hp
    rw [e] at e'; cases e'
    exact hn _ _ hd) e
  refine ⟨F.wf, fun b o e => m.heap b o (hB b o e) (F.keep b o e), fun g st e => m.gens g st (hG g st e) (F.kgens g st e), ?_, F.lnew, fun x c hc => ?_, F.has, F.cnew, F.onew, fun x a xs hx => let ⟨vs, n, e⟩ := F.alive x a xs hx; ⟨vs, n, hse _ _ _ _ e rfl⟩, F.xok.ext hse, F.kind, F.glob, F.blt⟩
  · obtain ⟨mm, ⟨o, es, ep, ho, r⟩, hv⟩ := F.ns
    exact ⟨mm, ⟨o, es, ep, m.heap _ _ hL ho, r⟩, fun x sl h k => let ⟨v, a, b⟩ := hv x sl h k; ⟨v, a, b.mono hse⟩⟩
  · obtain ⟨v, ⟨o, ho, hd⟩, hv⟩ := F.cell x c hc
    exact ⟨v, ⟨o, m.heap _ _ (hC x c hc) ho, hd⟩, fun sl h1 h2 => let ⟨u, a, b⟩ := hv sl h1 h2; ⟨u, a, b.mono hse⟩⟩

/-- an iterator and the data it is to give; fp: what its state rests on; pr: what it changes -/
structure Itr (p : Program) (w : World) (A : Around) (X : List Addr) (it : Value) (ds : List D) (sq : Addr → Prop) (pg : Nat → Prop) (St : Nat → (Addr → Prop) → (Addr → Prop) → Shared → Prop) : Prop where
  next : ∀ i d s fp pr (Q : Option Value → Shared → Prop) (E : Value → Shared → Prop), ds[i]? = some d → XOk X s.heap → St i fp pr s →
    (∀ v s' fp' pr', Rep X s'.heap d v → St (i + 1) fp' pr' s' → Mv pr pg s s' → (∀ b, fp' b → fp b ∨ s.heap.get? b = none) → (∀ b, pr' b → pr b ∨ s.heap.get? b = none) → Q (some v) s') → wpAny (model p w) A (pyNext it) Q E s
  done : ∀ s fp pr (Q : Option Value → Shared → Prop) (E : Value → Shared → Prop), XOk X s.heap → St ds.length fp pr s → (∀ s', Mv pr pg s s' → Q none s') → wpAny (model p w) A (pyNext it) Q E s
  frame : ∀ i fp pr s s', St i fp pr s → (∀ b o, fp b → s.heap.get? b = some o → s'.heap.get? b = some o) → (∀ g st, pg g → gk s g = some st → gk s' g = some st) → St i fp pr s'
  shape : ∀ i fp pr s b, St i fp pr s → fp b → ∃ o, s.heap.get? b = some o
  priv : ∀ i fp pr s b, St i fp pr s → pr b → ∃ o, s.heap.get? b = some o ∧ NotSeq o
  sub : ∀ i fp pr s b, St i fp pr s → pr b → fp b
  seqs : ∀ i fp pr s b, St i fp pr s → fp b → isSeqAt s.heap b → sq b
  letGo : ∀ i fp pr s target v (Q : Unit → Shared → Prop) (E : Value → Shared → Prop), St i fp pr s → Q () s → wpAny (model p w) A (letOwnedTupleGo target it v) Q E s
  self : ∀ i fp pr s (Q : Value → Shared → Prop) (E : Value → Shared → Prop), St i fp pr s → Q it s → wpAny (model p w) A (pyIter it) Q E s

/-- an expression that is run through -/
noncomputable def IterE (p : Program) (w : World) (A : Around) (env : Env) (ρ : Loc) (sqf : Bool) (e : Expr) (ds : List D) : Prop :=
  ∀ B s (Q : Value → Shared → Prop) (E : Value → Shared → Prop), FS p B env ρ s →
    (∀ it s' fp sq pr pg St, Evo s s' → (∀ X', (∀ b, b ∈ B.X → b ∈ X') → (∀ d v, Rep B.X s'.heap d v → Rep X' s'.heap d v) → Itr p w A X' it ds sq pg St) → St 0 fp pr s' → (∀ b, b ∈ B.X → fp b → ∃ o, B.heap.get? b = some o) →
      (∀ b, fp b → s.heap.get? b = none ∨ isSeqAt s.heap b ∨ ∃ o, B.heap.get? b = some o) → (∀ b, sq b → sqf = true ∨ ∃ o, B.heap.get? b = some o) → (∀ b, pr b → s.heap.get? b = none) → (∀ g : Nat, pg g → gk s g = none) → Q it s') →
    wpAny (model p w) A (eval e env) (fun x s₁ => wpAny (model p w) A (pyIter x) Q E s₁) E s

noncomputable def Loc.noOwn (ρ : Loc) : Bool := ρ.all fun q => match q.2 with | .own .. => false | _ => true
theorem Loc.noOwn_mem {ρ : Loc} (h : ρ.noOwn = true) {x : Str} {a : Addr} {xs : List D} (hm : ρ.lookup x = some (Slot.own a xs)) : False := by
  have := List.all_eq_true.mp h _ (PySem.mem_of_lookup hm)
  cases this

/-- what a loop's turn leaves -/
noncomputable def turnP (P : Fl → Loc → Prop) (I : Loc → Prop) (fl : Fl) (ρ : Loc) : Prop := match fl with
  | .next | .cont => I ρ
  | .brk => P .next ρ
  | .ret d => P (.ret d) ρ

theorem ST1.for {target iter : Expr} {body : List Stmt} {P : Fl → Loc → Prop} {sqf : Bool} {ds : List D} (Inv : Nat → Loc → Prop) (hi : IterE p w A env ρ sqf iter ds) (h0 : Inv 0 ρ)
    (hown : ∀ i ρ', Inv i ρ' → sqf = true → ρ'.noOwn = true)
    (turn : ∀ i d ρ', ds[i]? = some d → Inv i ρ' → ∃ ρ'', AT p w A env ρ' target d ρ'' ∧ (sqf = true → ρ''.noOwn = true) ∧ ST p w A env ρ'' body (turnP P (Inv (i + 1))))
    (fin : ∀ ρ', Inv ds.length ρ' → P .next ρ')
    (hs : ∀ x, foldedSetIterable iter env x = pure x := by intro _; rfl) : ST1 p w A env ρ (.For target iter body [] pos) P := fun B s₀ Q E F₀ k => by
  refine wpAny_For (hi B s₀ _ _ F₀ fun it s₁ fp₀ sq pr₀ pg St e1 I' hst₀ _ hfp hsq hpr hpg => ?_) hs
  have I := I' B.X (fun _ h => h) fun _ _ r => r
  have F₁ := F₀.evo e1
  have liveL : ∀ {ρ' : Loc} {s : Shared}, FS p B env ρ' s → ∃ o, s.heap.get? env.locals = some o ∧ NotSeq o := fun F => by
    obtain ⟨m, hm, _⟩ := F.ns
    obtain ⟨o, es, ep, ho, hd, _⟩ := id hm
    exact ⟨o, ho, fun xs n e => by rw [hd] at e; cases e⟩
  have liveC : ∀ {ρ' : Loc} {s : Shared}, FS p B env ρ' s → ∀ x c, env.cells.lookup x = some c → ∃ o, s.heap.get? c = some o ∧ NotSeq o := fun F x c hc => by
    obtain ⟨v, ⟨o, ho, hd⟩, _⟩ := F.cell x c hc
    exact ⟨o, ho, fun xs n e => by rw [hd] at e; cases e⟩
  -- what holds of the iterator's objects all the while
  let G (fp pr : Addr → Prop) : Prop := ¬ fp env.locals ∧ (∀ x c, env.cells.lookup x = some c → ¬ pr c) ∧ (env.func.isSome = true → ∀ x c, env.cells.lookup x = some c → ¬ fp c) ∧ (∀ b o, B.heap.get? b = some o → ¬ pr b)
  have G₀ : G fp₀ pr₀ := by
    refine ⟨fun hb => ?_, fun x c hc hb => ?_, fun hf x c hc hb => ?_, fun b o e hp => ?_⟩
    · obtain ⟨o, ho, hn⟩ := liveL F₀
      rcases hfp _ hb with h | ⟨o', xs, n, h, hd⟩ | ⟨o', h⟩
      · rw [h] at ho; cases ho
      · rw [h] at ho; cases ho; exact hn _ _ hd
      · rw [F₀.lnew] at h; cases h
    · obtain ⟨o, ho, hn⟩ := liveC F₀ x c hc
      rw [hpr c hb] at ho; cases ho
    · obtain ⟨o, ho, hn⟩ := liveC F₀ x c hc
      rcases hfp _ hb with h | ⟨o', xs, n, h, hd⟩ | ⟨o', h⟩
      · rw [h] at ho; cases ho
      · rw [h] at ho; cases ho; exact hn _ _ hd
      · rw [(F₀.cnew hf).1 x c hc] at h; cases h
    · have := F₀.keep b o e; rw [hpr b hp] at this; cases this
  have Gstep : ∀ {ρ' : Loc} {s : Shared} {fp pr fp' pr' : Addr → Prop}, FS p B env ρ' s → G fp pr → (∀ b, fp' b → fp b ∨ s.heap.get? b = none) → (∀ b, pr' b → pr b ∨ s.heap.get? b = none) → G fp' pr' := by
    rintro ρ' s fp pr fp' pr' F ⟨g1, g2, g3, g4⟩ h1 h2
    refine ⟨fun hb => ?_, fun x c hc hb => ?_, fun hf x c hc hb => ?_, fun b o e hp => ?_⟩
    · obtain ⟨o, ho, hn⟩ := liveL F
      rcases h1 _ hb with h | h
      · exact g1 h
      · rw [h] at ho; cases ho
    · obtain ⟨o, ho, hn⟩ := liveC F x c hc
      rcases h2 _ hb with h | h
      · exact g2 x c hc h
      · rw [h] at ho; cases ho
    · obtain ⟨o, ho, hn⟩ := liveC F x c hc
      rcases h1 _ hb with h | h
      · exact g3 hf x c hc h
      · rw [h] at ho; cases ho
    · rcases h2 _ hp with h | h
      · exact g4 b o e h
      · have := F.keep b o e; rw [h] at this; cases this
  have step : ∀ {ρ' : Loc} {s s' : Shared} {fp pr : Addr → Prop}, FS p B env ρ' s → Mv pr pg s s' → (∃ i, St i fp pr s) → G fp pr → FS p B env ρ' s' := fun F m ⟨i, hi⟩ ⟨g1, g2, g3, g4⟩ =>
    F.moved m g4 (fun g st e hp => by have := F₀.kgens g st e; rw [hpg g hp] at this; cases this)
      (fun hp => g1 (I.sub _ _ _ _ _ hi hp)) (fun x c hc hp => g2 x c hc hp) fun b hp => I.priv i _ _ _ b hi hp
  have notHid : ∀ {ρ' : Loc} {s : Shared} {i : Nat} {fp pr : Addr → Prop}, FS p B env ρ' s → (sqf = true → ρ'.noOwn = true) → St i fp pr s → G fp pr → ∀ b, fp b → b ∉ hid env ρ' := by
    rintro ρ' s i fp pr F hno hst ⟨g1, g2, g3, g4⟩ b hb hm
    rcases mem_hid.mp hm with rfl | ⟨hf, x, hm⟩ | ⟨x, xs, hm⟩
    · exact g1 hb
    · exact g3 hf x b hm hb
    · obtain ⟨vs, n, e⟩ := F.alive x b xs hm
      rcases hsq b (I.seqs i _ _ s b hst hb ⟨_, _, _, e, rfl⟩) with h | ⟨o, h⟩
      · exact Loc.noOwn_mem (hno h) hm
      · rw [F.onew x b xs hm] at h; cases h
  refine codeAny_forLoop_any (fun n s => ∃ i ρ' fp pr, n = ds.length + 1 - i ∧ i ≤ ds.length ∧ Inv i ρ' ∧ FS p B env ρ' s ∧ St i fp pr s ∧ G fp pr) ?_ (ds.length + 1) ⟨0, ρ, fp₀, pr₀, by omega, Nat.zero_le _, h0, F₁, hst₀, G₀⟩
  rintro n s ⟨i, ρ', fp, pr, rfl, hle, hInv, F, hst, hG⟩
  by_cases hlt : i < ds.length
  · obtain ⟨d, hd⟩ : ∃ d, ds[i]? = some d := ⟨ds[i], by simp [hlt]⟩
    refine I.next i d s fp pr _ _ hd F.xok hst fun v s₂ fp' pr' r hst₂ m h1 h2 => ?_
    have F₂ := step F m ⟨i, hst⟩ hG
    have hG₂ := Gstep F hG h1 h2
    obtain ⟨ρ'', hat, hno, hbody⟩ := turn i d ρ' hd hInv
    refine I.letGo (i + 1) _ _ s₂ _ _ _ _ hst₂ ?_
    have U := F₂.up
    refine hat _ s₂ _ _ v U r fun s₃ F₃ => ?_
    refine hbody _ s₃ _ _ F₃ fun fl f s₄ ρ₄ hp F₄ hf => ?_
    have F₅ := F₂.down F₄
    have hst₅ : St (i + 1) fp' pr' s₄ := I.frame _ _ _ _ _ hst₂ (fun b o hb e => F₄.keep b o (hideAll_get _ e (notHid F₂ (hown i ρ' hInv) hst₂ hG₂ b hb))) (fun g st _ e => F₄.kgens g st e)
    cases fl with
    | next => cases hf; exact ⟨_, by omega, i + 1, ρ₄, fp', pr', rfl, hlt, hp, F₅, hst₅, hG₂⟩
    | cont => cases hf; exact ⟨_, by omega, i + 1, ρ₄, fp', pr', rfl, hlt, hp, F₅, hst₅, hG₂⟩
    | brk => cases hf; exact k .next _ _ ρ₄ hp F₅ rfl
    | ret d => obtain ⟨v, rfl, r⟩ := hf; exact k (.ret d) _ _ ρ₄ hp F₅ ⟨v, rfl, r⟩
  · have : i = ds.length := by omega
    subst this
    refine I.done s _ _ _ _ F.xok hst fun s₂ m => ?_
    exact wpAny_execs_nil (k .next _ _ ρ' (fin ρ' hInv) (step F m ⟨_, hst⟩ hG) rfl)
end
end Mine
end
section
open PySem PySem.W PyProof.Rows PySem.Builtin.Str PySem.StrLaws
set_option Elab.async false
set_option autoImplicit false
set_option linter.unusedVariables false
namespace Mine
section
variable {p : Program} {w : World} {A : Around} {env : Env} {ρ : Loc} {pos : Pos}

theorem ST1.while {test : Expr} {body orelse : List Stmt} {P : Fl → Loc → Prop} (Inv : Nat → Loc → Prop) {n : Nat} (h0 : Inv n ρ)
    (turn : ∀ n ρ', Inv n ρ' → ∃ b, BV p w A env ρ' test b ∧ (b = true → ST p w A env ρ' body (turnP P fun ρ'' => ∃ m, m < n ∧ Inv m ρ'')) ∧ (b = false → ST p w A env ρ' orelse P)) :
    ST1 p w A env ρ (.While test body orelse pos) P := fun B s Q E F k => by
  refine wpAny_While (codeAny_whileLoop (fun n s => ∃ ρ', Inv n ρ' ∧ FS p B env ρ' s) ?_ n ⟨ρ, h0, F⟩)
  rintro n s ⟨ρ', hi, F'⟩
  obtain ⟨b, hb, h1, h2⟩ := turn n ρ' hi
  refine hb B s _ _ F' fun s2 e2 => ?_
  cases b with
  | true =>
    refine h1 rfl B s2 _ _ (F'.evo e2) fun fl f s3 ρ3 hp F3 hf => ?_
    cases fl with
    | next => cases hf; obtain ⟨m, hm, hi⟩ := hp; exact ⟨m, hm, ρ3, hi, F3⟩
    | cont => cases hf; obtain ⟨m, hm, hi⟩ := hp; exact ⟨m, hm, ρ3, hi, F3⟩
    | brk => cases hf; exact k .next _ _ ρ3 hp F3 rfl
    | ret d => obtain ⟨v, rfl, r⟩ := hf; exact k (.ret d) _ _ ρ3 hp F3 ⟨v, rfl, r⟩
  | false => exact h2 rfl B s2 _ _ (F'.evo e2) k

noncomputable def plainNames : List String := ["list_iterator", "str_ascii_iterator", "str_iterator", "range_iterator", "generator", "tuple_iterator"]
theorem letGo_plain {s : Shared} {target : Expr} {I : Addr} {v : Value} {o : Obj} {ty : String} {Q : Unit → Shared → Prop} {E : Value → Shared → Prop} (ho : s.heap.get? I = some o) (hc : o.cls = .type ty) (ht : ty ∈ plainNames) (h : Q () s) :
    wpAny (model p w) A (letOwnedTupleGo target (.ref I) v) Q E s := by
  have hn : ["enumerate", "zip", "dict_itemiterator", "dict_reverseitemiterator", "odict_iterator", "itertools.zip_longest", "itertools.pairwise"].contains ty = false := by
    simp only [plainNames, List.mem_cons, List.not_mem_nil, or_false] at ht
    rcases ht with rfl | rfl | rfl | rfl | rfl | rfl <;> decide
  unfold letOwnedTupleGo
  split
  · cases v <;> first
      | exact wpAny_pure h
      | (refine wpAny_bind (wpAny_load ho ?_)
         rw [hc]
         split
         · rename_i n' _ vs heq hd
           cases heq
           rw [hn]
           exact wpAny_pure h
         · exact wpAny_pure h)
  · cases v <;> first
      | exact wpAny_pure h
      | (refine wpAny_bind (wpAny_load ho ?_)
         rw [hc]
         split
         · rename_i n' _ vs heq hd
           cases heq
           rw [hn]
           exact wpAny_pure h
         · exact wpAny_pure h)
  · exact wpAny_pure h


theorem RepL.map {X X' : List Addr} {h : Heap} (f : ∀ d v, Rep X h d v → Rep X' h d v) : ∀ {ds : List D} {vs : List Value}, RepL X h ds vs → RepL X' h ds vs
  | [], _, r => r
  | _ :: _, _, ⟨v, r, e, a, b⟩ => ⟨v, r, e, f _ _ a, RepL.map f b⟩
theorem itr_list {X₀ X : List Addr} {s₁ : Shared} {I l : Addr} {ds : List D} {vs : List Value} (hA : A.handled = none) (hX : ∀ b, b ∈ X₀ → b ∈ X) (hlX : l ∉ X₀) (hl : s₁.heap.IsList l vs.toArray) (hr : RepL X s₁.heap ds vs) :
    Itr p w A X (.ref I) ds (fun _ => True) (fun _ => False)
      (fun i fp pr s => fp = (fun b => b = I ∨ (isSeqAt s₁.heap b ∧ b ∉ X₀)) ∧ pr = (fun b => b = I) ∧ s.heap.IsListIter I l i ∧ ¬ isSeqAt s₁.heap I ∧ ∀ b o xs n, b ∉ X₀ → s₁.heap.get? b = some o → o.data = .seq xs n → s.heap.get? b = some o) where
  next := by
    rintro i d s fp pr Q E hd hXo ⟨rfl, rfl, hi, hI, hk⟩ k
    obtain ⟨v, hv, r⟩ := hr.get hd
    obtain ⟨ol, hol, hcl, n, hdl⟩ := id hl
    have hl' : s.heap.IsList l vs.toArray := ⟨ol, hk _ _ _ _ hlX hol hdl, hcl, n, hdl⟩
    refine wpAny_pyNext_list_item hi hl' (by simpa using hv) fun h' hi' hs => ?_
    have hk' : ∀ b o xs n, b ∉ X₀ → s₁.heap.get? b = some o → o.data = .seq xs n → h'.get? b = some o := fun b o xs n hb e hd => (hs.2 b fun q => hI (q ▸ ⟨o, xs, n, e, hd⟩)).trans (hk b o xs n hb e hd)
    exact k v _ _ _ (r.monoB fun b o xs n hb e hd => hk' b o xs n (fun h => hb (hX b h)) e hd) ⟨rfl, rfl, hi', hI, hk'⟩ ⟨fun b o hp e => (hs.2 b fun q => hp q).trans e, fun _ _ _ e => e⟩ (fun b h => .inl h) (fun b h => .inl h)
  done := by
    rintro s fp pr Q E hXo ⟨rfl, rfl, hi, hI, hk⟩ k
    obtain ⟨ol, hol, hcl, n, hdl⟩ := id hl
    have hl' : s.heap.IsList l vs.toArray := ⟨ol, hk _ _ _ _ hlX hol hdl, hcl, n, hdl⟩
    exact wpAny_pyNext_list_end hA hi hl' (by simp [hr.length]) fun h' hs => k _ ⟨fun b o hp e => hs b o (fun q => hp q) e, fun _ _ _ e => e⟩
  frame := by
    rintro i fp pr s s' ⟨rfl, rfl, ⟨o, ho, r⟩, hI, hk⟩ hf _
    exact ⟨rfl, rfl, ⟨o, hf _ _ (.inl rfl) ho, r⟩, hI, fun b o xs n hb e hd => hf b o (.inr ⟨⟨o, xs, n, e, hd⟩, hb⟩) (hk b o xs n hb e hd)⟩
  shape := by
    rintro i fp pr s b ⟨rfl, rfl, ⟨o, ho, hc, hd⟩, hI, hk⟩ (rfl | ⟨⟨o', xs, n, e, hd'⟩, hb⟩)
    · exact ⟨o, ho⟩
    · exact ⟨o', hk _ _ _ _ hb e hd'⟩
  priv := by
    rintro i fp pr s b ⟨rfl, rfl, ⟨o, ho, hc, hd⟩, hI, hk⟩ rfl
    exact ⟨o, ho, fun xs n e => by rw [hd] at e; cases e⟩
  sub := by
    rintro i fp pr s b ⟨rfl, rfl, _⟩ hb
    exact .inl hb
  seqs := fun _ _ _ _ _ _ _ _ => trivial
  letGo := by
    rintro i fp pr s target v Q E ⟨rfl, rfl, ⟨o, ho, hc, _⟩, _⟩ hq
    exact letGo_plain ho hc (by decide) hq
  self := by
    rintro i fp pr s Q E ⟨rfl, rfl, hi, _⟩ hq
    exact wpAny_pyIter_listiter hi hq

theorem IterE.list {e : Expr} {ds : List D} (hA : A.handled = none) (he : EV p w A env ρ e (.lst ds)) : IterE p w A env ρ true e ds := fun B s Q E F k =>
  he B s _ _ F fun v s1 e1 r1 => by
    obtain ⟨hlen, l, vs, rfl, hlX, hL, rL⟩ := r1
    refine wpAny_pyIter_list hL ?_
    let s2 : Shared := { s1 with heap := s1.heap.push { cls := .type "list_iterator", data := .fields #[.ref l, .int 0 0] } }
    have e2 : Evo s1 s2 := Evo.push s1 _ s1.toks
    have hfr : s.heap.get? s1.heap.objs.size = none := by
      cases q : s.heap.get? s1.heap.objs.size with
      | none => rfl
      | some ob => exact absurd (Heap.lt_size (e1.heap _ _ q)) (Nat.lt_irrefl _)
    have hold : ∀ b, isSeqAt s2.heap b → s.heap.get? b = none ∨ isSeqAt s.heap b := fun b ⟨o, xs, n, e, hd⟩ => by
      cases q : s.heap.get? b with
      | none => exact .inl rfl
      | some ob =>
        have := e2.heap _ _ (e1.heap _ _ q)
        rw [e] at this; cases this
        exact .inr ⟨o, xs, n, q, hd⟩
    have hIs : ¬ isSeqAt s2.heap s1.heap.objs.size := fun ⟨o, xs, n, e, hd⟩ => by
      have : s2.heap.get? s1.heap.objs.size = some _ := Heap.get?_push_size s1.heap rfl
      rw [this] at e; cases e; cases hd
    refine k _ s2 (fun b => b = s1.heap.objs.size ∨ (isSeqAt s2.heap b ∧ b ∉ B.X)) _ (fun b => b = s1.heap.objs.size) _ _ (e1.trans e2) (fun X' hX hX' => itr_list (s₁ := s2) (l := l) (vs := vs) hA hX hlX (hL.push _) (RepL.map hX' (rL.mono e2.seq))) ⟨rfl, rfl, ⟨_, Heap.get?_push_size _ rfl, rfl, rfl⟩, hIs, fun _ _ _ _ _ e _ => e⟩ ?_ ?_ (fun b hb => .inl rfl) ?_ (fun g h => h.elim)
    · rintro b hb (rfl | ⟨_, hn⟩)
      · exfalso; obtain ⟨o, _, _, e, _⟩ := F.xok _ hb
        rw [hfr] at e; cases e
      · exact absurd hb hn
    · rintro b (rfl | ⟨hb, _⟩)
      · exact .inl hfr
      · exact (hold b hb).imp_right .inl
    · rintro b rfl; exact hfr

theorem itr_one {X : List Addr} {I : Addr} {ds : List D} {ty : String} (hA : A.handled = none) (Good : Nat → Obj → Prop) (ht : ty ∈ plainNames) (hty : ∀ i o, Good i o → o.cls = .type ty) (hns : ∀ i o, Good i o → NotSeq o)
    (item : ∀ i d s (Q : Option Value → Shared → Prop) (E : Value → Shared → Prop) o, ds[i]? = some d → s.heap.get? I = some o → Good i o → (∀ v h' k o', Rep X h' d v → h'.get? I = some o' → Good (i + 1) o' → Heap.SameBut I s.heap h' → Q (some v) { s with heap := h', toks := k }) → wpAny (model p w) A (pyNext (.ref I)) Q E s)
    (fin : ∀ s (Q : Option Value → Shared → Prop) (E : Value → Shared → Prop) o, s.heap.get? I = some o → Good ds.length o → (∀ h', Heap.ExtBut I s.heap h' → Q none { s with heap := h' }) → wpAny (model p w) A (pyNext (.ref I)) Q E s)
    (self : ∀ i s (Q : Value → Shared → Prop) (E : Value → Shared → Prop) o, s.heap.get? I = some o → Good i o → Q (.ref I) s → wpAny (model p w) A (pyIter (.ref I)) Q E s) :
    Itr p w A X (.ref I) ds (fun _ => False) (fun _ => False) (fun i fp pr s => fp = (fun b => b = I) ∧ pr = (fun b => b = I) ∧ ∃ o, s.heap.get? I = some o ∧ Good i o) where
  next := by
    rintro i d s fp pr Q E hd hX ⟨rfl, rfl, o, ho, hg⟩ k
    exact item i d s Q E o hd ho hg fun v h' kk o' r ho' hg' hs => k v _ _ _ r ⟨rfl, rfl, o', ho', hg'⟩ ⟨fun b o hp e => (hs.2 b hp).trans e, fun _ _ _ e => e⟩ (fun b h => .inl h) (fun b h => .inl h)
  done := by
    rintro s fp pr Q E hX ⟨rfl, rfl, o, ho, hg⟩ k
    exact fin s Q E o ho hg fun h' hs => k _ ⟨fun b o hp e => hs b o hp e, fun _ _ _ e => e⟩
  frame := by
    rintro i fp pr s s' ⟨rfl, rfl, o, ho, hg⟩ hf _
    exact ⟨rfl, rfl, o, hf _ _ rfl ho, hg⟩
  shape := by
    rintro i fp pr s b ⟨rfl, rfl, o, ho, hg⟩ rfl
    exact ⟨o, ho⟩
  priv := by
    rintro i fp pr s b ⟨rfl, rfl, o, ho, hg⟩ rfl
    exact ⟨o, ho, hns i o hg⟩
  sub := by
    rintro i fp pr s b ⟨rfl, rfl, _⟩ hb
    exact hb
  seqs := by
    rintro i fp pr s b ⟨rfl, rfl, o, ho, hg⟩ rfl ⟨o', xs, n, e, hd⟩
    rw [ho] at e; cases e
    exact hns i o hg _ _ hd
  letGo := by
    rintro i fp pr s target v Q E ⟨rfl, rfl, o, ho, hg⟩ hq
    exact letGo_plain ho (hty i o hg) ht hq
  self := by
    rintro i fp pr s Q E ⟨rfl, rfl, o, ho, hg⟩ hq
    exact self i s Q E o ho hg hq

theorem IterE.str {e : Expr} {l : List Nat} (hA : A.handled = none) (he : EV p w A env ρ e (.str l)) : IterE p w A env ρ false e (l.map fun c => D.str [c]) := fun B s Q E F k =>
  he B s _ _ F fun v s1 e1 r1 => by
    obtain ⟨hlen, t, rfl⟩ := r1
    have hfr : s.heap.get? s1.heap.objs.size = none := by
      cases q : s.heap.get? s1.heap.objs.size with
      | none => rfl
      | some ob => exact absurd (Heap.lt_size (e1.heap _ _ q)) (Nat.lt_irrefl _)
    have one : (1 : Nat) ≤ lim := by decide
    cases ha : ((⟨l.toArray⟩ : Str).cps.all fun x => decide (x < 128)) with
    | true =>
      refine wpAny_pyIter_ascii ha ?_
      refine k _ _ (fun b => b = s1.heap.objs.size) _ (fun b => b = s1.heap.objs.size) _ _ (e1.trans (Evo.push s1 _ s1.toks)) (fun X' _ _ => itr_one (ty := "str_ascii_iterator") (I := s1.heap.objs.size) hA (fun i o => o.cls = .type "str_ascii_iterator" ∧ o.data = .fields #[.str ⟨l.toArray⟩ t, .int i 0]) (by decide) (fun _ _ h => h.1) (fun _ _ h xs n e => by rw [h.2] at e; cases e) ?_ ?_ ?_)
        ⟨rfl, rfl, _, Heap.get?_push_size _ rfl, rfl, rfl⟩ (fun b hb q => by subst q; exfalso; obtain ⟨o, _, _, e, _⟩ := F.xok _ hb; rw [hfr] at e; cases e) (fun b hb => by subst hb; exact .inl hfr) (fun b h => h.elim) (fun b hb => by subst hb; exact hfr) (fun g h => h.elim)
      · intro i d s Q E o hd ho hg kk
        rw [List.getElem?_map] at hd
        obtain ⟨c, hc, rfl⟩ := Option.map_eq_some_iff.mp hd
        refine wpAny_pyNext_ascii_item (x := ⟨l.toArray⟩) (t := t) ⟨o, ho, hg⟩ (by simpa using hc) fun h' ⟨o', ho', hg'⟩ hs => ?_
        exact kk _ h' _ o' ⟨one, _, rfl⟩ ho' hg' hs
      · intro s Q E o ho hg kk
        rw [List.length_map] at hg
        exact wpAny_pyNext_ascii_end hA (x := ⟨l.toArray⟩) (t := t) ⟨o, ho, hg⟩ (by simp) kk
      · intro i s Q E o ho hg hq
        exact wpAny_pyIter_striter_ascii (x := ⟨l.toArray⟩) (t := t) ⟨o, ho, hg⟩ hq
    | false =>
      refine wpAny_pyIter_wide ha ?_
      refine k _ _ (fun b => b = s1.heap.objs.size) _ (fun b => b = s1.heap.objs.size) _ _ (e1.trans (Evo.push s1 _ s1.toks)) (fun X' _ _ => itr_one (ty := "str_iterator") (I := s1.heap.objs.size) hA (fun i o => o.cls = .type "str_iterator" ∧ o.data = .fields #[.str ⟨l.toArray⟩ t, .int i 0]) (by decide) (fun _ _ h => h.1) (fun _ _ h xs n e => by rw [h.2] at e; cases e) ?_ ?_ ?_)
        ⟨rfl, rfl, _, Heap.get?_push_size _ rfl, rfl, rfl⟩ (fun b hb q => by subst q; exfalso; obtain ⟨o, _, _, e, _⟩ := F.xok _ hb; rw [hfr] at e; cases e) (fun b hb => by subst hb; exact .inl hfr) (fun b h => h.elim) (fun b hb => by subst hb; exact hfr) (fun g h => h.elim)
      · intro i d s Q E o hd ho hg kk
        rw [List.getElem?_map] at hd
        obtain ⟨c, hc, rfl⟩ := Option.map_eq_some_iff.mp hd
        refine wpAny_pyNext_wide_item (x := ⟨l.toArray⟩) (t := t) ⟨o, ho, hg⟩ (by simpa using hc) fun h' ⟨o', ho', hg'⟩ hs => ?_
        exact kk _ h' _ o' ⟨one, _, rfl⟩ ho' hg' hs
      · intro s Q E o ho hg kk
        rw [List.length_map] at hg
        exact wpAny_pyNext_wide_end hA (x := ⟨l.toArray⟩) (t := t) ⟨o, ho, hg⟩ (by simp) kk
      · intro i s Q E o ho hg hq
        exact wpAny_pyIter_striter_wide (x := ⟨l.toArray⟩) (t := t) ⟨o, ho, hg⟩ hq
end
end Mine
end
section
open PySem PySem.W PyProof.Rows PySem.Builtin.Str PySem.StrLaws
set_option Elab.async false
set_option autoImplicit false
set_option linter.unusedVariables false
namespace Mine
section
variable {p : Program} {w : World} {A : Around} {env : Env} {ρ : Loc} {pos : Pos}
theorem IterE.range {e : Expr} {N : Int} {npos : Pos} (hA : A.handled = none) (he : EV p w A env ρ e (.int N)) (hlo : -(2 ^ 62) ≤ N) (hhi : N < 2 ^ 62) (hk : env.kindOf (Str.ofString "range") = some .globalImplicit)
    (hs : starEach [e] env = [(false, eval e env)] := by rfl) :
    IterE p w A env ρ false (.Call (.Name (Str.ofString "range") npos) [e] [] pos) ((List.range N.toNat).map fun (k : Nat) => D.int k) := fun B s Q E F k => by
  refine wpAny_Call_NameR ?_
  obtain ⟨mg, mb, hg, hb, hB, _, hn, _⟩ := wf_none F.world
  refine Calls.Name_function_global F.kind hk (Calls.loadGlobal_builtin (by rw [F.glob]; exact hg) hn (by rw [F.blt]; exact hb) ((hB _ (by decide)).trans (show bootBuiltins (Str.ofString "range") = some (.type "range") by decide +kernel)) ?_) (by decide)
  rw [hs]
  refine PyProof.Rows.callWith_type (A := A) rfl (Calls.evalArgs_plain (Calls.spliced_cons (he B s _ _ F fun v s1 e1 r1 => Calls.spliced_nil ?_)))
  obtain ⟨t, rfl⟩ := r1
  refine call_range_1 ?_
  refine wpAny_pyIter_range (IsRange.new ..) (small_one (by decide) (by decide) (by omega) (by omega)) ?_
  have hsz : Builtin.Range.rangeSize 0 N 1 = (N.toNat : Int) := by rw [rangeSize_one]; split <;> omega
  have hfr : ∀ b, s1.heap.objs.size ≤ b → s.heap.get? b = none := fun b hb => by
    cases q : s.heap.get? b with
    | none => rfl
    | some ob => exact absurd (Heap.lt_size (e1.heap _ _ q)) (Nat.not_lt.mpr hb)
  refine k _ _ (fun b => b = _) _ (fun b => b = _) _ _ (e1.trans ((Evo.push s1 _ (s1.toks + 1 + 1)).trans (Evo.push _ _ _))) (fun X' _ _ => itr_one (ty := "range_iterator") hA (fun i o => o = { cls := .type "range_iterator", data := .fields #[rawInt i, rawInt (N.toNat - i), rawInt 1] }) (by decide) (fun _ _ h => by rw [h]) (fun _ _ h xs n e => by rw [h] at e; cases e) ?_ ?_ ?_)
    ⟨rfl, rfl, _, Heap.get?_push_size _ rfl, ?_⟩ (fun b hb q => by subst q; exfalso; obtain ⟨o, _, _, e, _⟩ := F.xok _ hb; rw [hfr _ (by rw [Heap.size_push]; omega)] at e; cases e) (fun b hb => by subst hb; exact .inl (hfr _ (by rw [Heap.size_push]; omega))) (fun b h => h.elim) (fun b hb => by subst hb; exact hfr _ (by rw [Heap.size_push]; omega)) (fun g h => h.elim)
  · intro i d s Q E o hd ho hg kk
    subst hg
    rw [List.getElem?_map] at hd
    obtain ⟨c, hc, rfl⟩ := Option.map_eq_some_iff.mp hd
    obtain ⟨hc1, rfl⟩ : i < N.toNat ∧ i = c := by
      rw [List.getElem?_eq_some_iff] at hc
      obtain ⟨h1, h2⟩ := hc
      rw [List.getElem_range] at h2
      exact ⟨by simpa using h1, h2⟩
    refine wpAny_pyNext_range_item (it := _) (x := (i : Int)) (left := (N.toNat - i : Int)) (step := 1) ho (by omega) fun h' ho' hs => ?_
    have e1 : ((i : Int) + 1) = ((i + 1 : Nat) : Int) := by omega
    have e2 : ((N.toNat : Int) - (i : Int) - 1) = ((N.toNat : Int) - ((i + 1 : Nat) : Int)) := by omega
    rw [e1, e2] at ho'
    exact kk _ h' _ _ ⟨_, rfl⟩ ho' rfl hs
  · intro s Q E o ho hg kk
    subst hg
    simp only [List.length_map, List.length_range] at ho
    exact wpAny_pyNext_range_end hA (x := (N.toNat : Int)) (left := (N.toNat - N.toNat : Int)) (step := 1) ho (by omega) kk
  · intro i s Q E o ho hg hq
    subst hg
    exact wpAny_pyIter_rangeiter (x := (i : Int)) (left := (N.toNat - i : Int)) (step := 1) ho hq
  · rw [hsz]; simp
end
end Mine
end
section
open PySem PySem.W PyProof.Rows PySem.Builtin.Str PySem.StrLaws
set_option Elab.async false
set_option autoImplicit false
set_option linter.unusedVariables false
namespace Mine
section
variable {p : Program} {w : World} {A : Around} {env : Env} {ρ : Loc} {pos : Pos}

theorem AT.pair {x y : Str} {d1 d2 : D} {k : Nat} {p1 p2 tpos : Pos} (hA : A.handled = none) (hd2 : scalar d2 = true) (hx : Wr env x) (hy : Wr env y) :
    AT p w A env ρ (.Tuple [.Name x p1, .Name y p2] k tpos) (.tup [d1, d2]) ((ρ.set x (.val d1)).set y (.val d2)) := fun B s Q E v F r kk => by
  obtain ⟨hl, a, vs, rfl, hax, hT, v1, _, rfl, r1, v2, _, rfl, r2, rfl⟩ := r
  rw [arm_assign_Tuple]
  refine wpAny_bind (wpAny_standAt ?_)
  refine wpAny_unpack_tuple hA hT rfl rfl fun h' hext => ?_
  have e : Evo s { s with heap := h' } := ⟨fun b o e => hext b o (Nat.ne_of_lt (Heap.lt_size e)) e, fun _ _ e => e⟩
  show wpAny _ _ (assignInOrder [assign (.Name x p1) env, assign (.Name y p2) env] [v1, v2]) _ _ _
  have h1 := AT.name (p := p) (w := w) (A := A) (env := env) (ρ := ρ) (pos := p1) (d := d1) hx
  have h2 := AT.name (p := p) (w := w) (A := A) (env := env) (ρ := ρ.set x (.val d1)) (pos := p2) (d := d2) hy
  refine wpAny_bind (wpAny_holding (h1 { B with heap := hideAll s.heap (hid env ρ), gens := gk s } { s with heap := h' } _ _ v1 ((F.up).evo e) (r1.mono e.seq) fun s2 F2 => ?_))
  have F2' := F.down F2
  refine wpAny_bind (wpAny_holding (h2 B s2 _ _ v2 F2' (Rep.scalar hd2 r2) fun s3 F3 => ?_))
  exact wpAny_pure (kk _ F3)

/-- names and what they hold, no fewer -/
noncomputable def Sub (ρ ρ' : Loc) : Prop := ∀ x sl, ρ.lookup x = some sl → ρ'.lookup x = some sl
theorem Sub.refl (ρ : Loc) : Sub ρ ρ := fun _ _ h => h
theorem Sub.set {ρ ρ' : Loc} (h : Sub ρ ρ') {x : Str} (hx : ρ.lookup x = none) (sl : Slot) : Sub ρ (ρ'.set x sl) := fun y s hy => by
  rw [Loc.lookup_set]
  have : y ≠ x := fun e => by subst e; rw [hx] at hy; cases hy
  rw [if_neg this]; exact h y s hy
theorem FS.weaken {ρ ρ' : Loc} {B : Base} {s : Shared} (F : FS p B env ρ' s) (h : Sub ρ ρ') : FS p B env ρ s where
  wf := F.wf
  keep := F.keep
  kgens := F.kgens
  ns := let ⟨m, hm, hv⟩ := F.ns; ⟨m, hm, fun x sl hx hk => hv x sl (h x sl hx) hk⟩
  lnew := F.lnew
  cell := fun x c hc => let ⟨v, h1, h2⟩ := F.cell x c hc; ⟨v, h1, fun sl hx hk => h2 sl (h x sl hx) hk⟩
  has := fun x sl hx hk => F.has x sl (h x sl hx) hk
  cnew := F.cnew
  onew := fun x a xs hx => F.onew x a xs (h _ _ hx)
  alive := fun x a xs hx => F.alive x a xs (h _ _ hx)
  xok := F.xok
  kind := F.kind
  glob := F.glob
  blt := F.blt

/-- a list that the frame cannot see is changed -/
theorem FS.bump {B : Base} {s : Shared} {D : Addr} {h' : Heap} {k : Nat} (F : FS p B env ρ s) (hD : D ∈ B.X) (hB : B.heap.get? D = none) (hs : Heap.SameBut D s.heap h') (hq : isSeqAt h' D) (hno : ρ.noOwn = true) : FS p B env ρ { s with heap := h', toks := k } := by
  have hse : SeqBut B.X s.heap h' := fun b o xs n hb e _ => (hs.2 b fun q => hb (q ▸ hD)).trans e
  obtain ⟨oD, xD, nD, eD, hdD⟩ := F.xok D hD
  have neL : env.locals ≠ D := fun e => by obtain ⟨m, hm, _⟩ := F.ns; exact dictNotSeq hm (e ▸ eD) hdD
  have neC : ∀ x c, env.cells.lookup x = some c → c ≠ D := fun x c hc e => by obtain ⟨u, h1, _⟩ := F.cell x c hc; exact cellNotSeq h1 (e ▸ eD) hdD
  have slmono : ∀ {sl : Slot} {v : Value}, SlRep B.X s.heap sl v → SlRep B.X h' sl v := fun r => r.monoB hse
  refine ⟨F.wf, fun b o e => (hs.2 b fun q => by subst q; rw [hB] at e; cases e).trans (F.keep b o e), F.kgens, ?_, F.lnew, fun x c hc => ?_, F.has, F.cnew, F.onew, fun x a xs hx => ?_, fun b hb => ?_, F.kind, F.glob, F.blt⟩
  · obtain ⟨m, hm, hv⟩ := F.ns
    exact ⟨m, hm.sameBut hs neL, fun x sl hx hk => let ⟨v, h1, h2⟩ := hv x sl hx hk; ⟨v, h1, slmono h2⟩⟩
  · obtain ⟨v, h1, h2⟩ := F.cell x c hc
    exact ⟨v, h1.sameBut hs (neC x c hc), fun sl hx hk => let ⟨u, h3, h4⟩ := h2 sl hx hk; ⟨u, h3, slmono h4⟩⟩
  · exact (Loc.noOwn_mem hno hx).elim
  · by_cases hb' : b = D
    · subst hb'; exact hq
    · obtain ⟨o, xs, n, e, hd⟩ := F.xok b hb
      exact ⟨o, xs, n, (hs.2 b hb').trans e, hd⟩
end
end Mine
end
section
open PySem PySem.W PyProof.Rows PySem.Builtin.Str PySem.StrLaws
set_option Elab.async false
set_option autoImplicit false
set_option linter.unusedVariables false
namespace Mine
noncomputable def cellsFor (env : Env) : List (Str × NameKind) → List (Str × Addr) → List (Str × Addr)
  | [], cs => cs
  | (n, k) :: r, cs => cellsFor env r (if k == .free then (n, (env.cells.lookup n).getD 0) :: cs else cs)
theorem cellsFor_lookup {env : Env} : ∀ (names : List (Str × NameKind)) (cs : List (Str × Addr)), (∀ n, (n, NameKind.free) ∈ names → (env.cells.lookup n).isSome = true) → (∀ n c, cs.lookup n = some c → env.cells.lookup n = some c) →
    ∀ n c, (cellsFor env names cs).lookup n = some c → env.cells.lookup n = some c
  | [], cs, _, h, n, c, e => h n c e
  | (m, k) :: r, cs, hf, h, n, c, e => by
    refine cellsFor_lookup r _ (fun n hn => hf n (List.mem_cons_of_mem _ hn)) (fun n' c' e' => ?_) n c e
    split at e'
    · rename_i hk
      rw [List.lookup_cons] at e'
      cases hb : n' == m with
      | true =>
        rw [hb] at e'
        have hk' : k = .free := by simpa using hk
        subst hk'
        obtain ⟨c0, hc0⟩ := Option.isSome_iff_exists.mp (hf m List.mem_cons_self)
        rw [hc0] at e'; cases e'
        rw [beq_iff_eq.mp hb]; exact hc0
      | false => rw [hb] at e'; exact h n' c' e'
    · exact h n' c' e'
theorem cellsFor_some {env : Env} : ∀ (names : List (Str × NameKind)) (cs : List (Str × Addr)) (n : Str), ((n, NameKind.free) ∈ names ∨ (cs.lookup n).isSome = true) → ((cellsFor env names cs).lookup n).isSome = true
  | [], cs, n, h => h.elim (fun h => nomatch h) id
  | (m, k) :: r, cs, n, h => by
    refine cellsFor_some r _ n ?_
    rcases h with h | h
    · rcases List.mem_cons.mp h with h | h
      · cases h; right; simp
      · exact .inl h
    · right
      split
      · rw [List.lookup_cons]; split
        · rfl
        · exact h
      · exact h
theorem closureFor_pure {sc : Scope} {env : Env} (h : ∀ n, (n, NameKind.free) ∈ sc.names → (env.cells.lookup n).isSome = true) : closureFor sc env = pure (cellsFor env sc.names []) := by
  unfold closureFor
  have key : ∀ (names : List (Str × NameKind)) (cs : List (Str × Addr)), (∀ n, (n, NameKind.free) ∈ names → (env.cells.lookup n).isSome = true) →
      (forIn names cs fun x __s => match x with
        | (name, kind) => if (kind == NameKind.free) = true then do let c ← cellOf env name; pure (ForInStep.yield ((name, c) :: __s)) else pure (ForInStep.yield __s) : Sem (List (Str × Addr))) = pure (cellsFor env names cs) := by
    intro names
    induction names with
    | nil => intro cs _; rfl
    | cons x r ih =>
      intro cs hf
      obtain ⟨n, k⟩ := x
      rw [List.forIn_cons]
      by_cases hk : k = .free
      · subst hk
        obtain ⟨c0, hc0⟩ := Option.isSome_iff_exists.mp (hf n List.mem_cons_self)
        have hcell : cellOf env n = pure c0 := by unfold cellOf; rw [hc0]
        simp only [beq_self_eq_true, if_true, hcell, pure_bind]
        rw [ih _ fun n hn => hf n (List.mem_cons_of_mem _ hn)]
        conv => rhs; rw [cellsFor]
        simp [hc0]
      · have hb : (k == NameKind.free) = false := by simpa using hk
        simp only [hb, Bool.false_eq_true, if_false, pure_bind]
        rw [ih _ fun n hn => hf n (List.mem_cons_of_mem _ hn)]
        conv => rhs; rw [cellsFor]
        simp [hb]
  show ((forIn sc.names ([] : List (Str × Addr)) fun x __s => match x with
        | (name, kind) => if (kind == NameKind.free) = true then do let c ← cellOf env name; pure (ForInStep.yield ((name, c) :: __s)) else pure (ForInStep.yield __s) : Sem (List (Str × Addr))) >>= pure) = _
  rw [key sc.names [] h]
  rfl

/-- a name of the frame that an inner block may read -/
noncomputable def Cap (env : Env) (n : Str) : Prop := (env.kindOf n = some .cell ∨ env.kindOf n = some .free) ∧ (env.cells.lookup n).isSome = true

/-- a comprehension's own frame -/
structure CEnv (sc : Scope) (env : Env) (C : Addr) (cenv : Env) : Prop where
  scope : cenv.scope = relabel sc env
  locals : cenv.locals = C
  func : cenv.func = none
  globals : cenv.globals = env.globals
  builtins : cenv.builtins = env.builtins
  cells : cenv.cells = cellsFor env sc.names []
section
variable {sc : Scope} {env cenv : Env} {C : Addr}
theorem relabel_lookup {x : Str} : ∀ {names : List (Str × NameKind)}, (names.map fun (n, k) => if (k == NameKind.free && env.scope.kind == .function && env.kindOf n == some .cell) then (n, NameKind.cell) else (n, k)).lookup x =
    (names.lookup x).map fun k => if (k == NameKind.free && env.scope.kind == .function && env.kindOf x == some .cell) then NameKind.cell else k
  | [] => rfl
  | (n, k) :: r => by
    have ih := @relabel_lookup x r
    show List.lookup x ((if (k == NameKind.free && env.scope.kind == .function && env.kindOf n == some .cell) = true then (n, NameKind.cell) else (n, k)) :: _) = _
    cases hx : x == n with
    | true =>
      have := beq_iff_eq.mp hx
      subst this
      by_cases hc : (k == NameKind.free && env.scope.kind == ScopeKind.function && env.kindOf x == some NameKind.cell) = true
      · rw [if_pos hc, List.lookup_cons, List.lookup_cons, hx]; simp only [Option.map_some, hc, if_true]
      · rw [if_neg hc, List.lookup_cons, List.lookup_cons, hx]; simp only [Option.map_some, hc, if_false, Bool.false_eq_true]
    | false =>
      rw [show List.lookup x ((n, k) :: r) = List.lookup x r by rw [List.lookup_cons, hx]]
      by_cases hc : (k == NameKind.free && env.scope.kind == ScopeKind.function && env.kindOf n == some NameKind.cell) = true
      · rw [if_pos hc, List.lookup_cons, hx]; exact ih
      · rw [if_neg hc, List.lookup_cons, hx]; exact ih
theorem CEnv.kind (h : CEnv sc env C cenv) (x : Str) : cenv.kindOf x = (sc.names.lookup x).map fun k => if (k == NameKind.free && env.scope.kind == .function && env.kindOf x == some .cell) then NameKind.cell else k := by
  unfold Env.kindOf; rw [h.scope]; exact relabel_lookup
theorem CEnv.loc (h : CEnv sc env C cenv) {x : Str} (e : sc.names.lookup x = some .local) : cenv.kindOf x = some .local := by rw [h.kind, e]; rfl
theorem CEnv.glob (h : CEnv sc env C cenv) {x : Str} (e : sc.names.lookup x = some .globalImplicit) : cenv.kindOf x = some .globalImplicit := by rw [h.kind, e]; rfl
theorem CEnv.free (h : CEnv sc env C cenv) {x : Str} (e : sc.names.lookup x = some .free) : cenv.kindOf x = some .cell ∨ cenv.kindOf x = some .free := by
  rw [h.kind, e]
  simp only [Option.map_some]
  split
  · exact .inl rfl
  · exact .inr rfl
theorem mem_of_lookup_names {x : Str} {k : NameKind} {names : List (Str × NameKind)} (e : names.lookup x = some k) : (x, k) ∈ names := PySem.mem_of_lookup e
theorem CEnv.cap (h : CEnv sc env C cenv) {x : Str} (e : sc.names.lookup x = some .free) : Cap cenv x := ⟨h.free e, by rw [h.cells]; exact cellsFor_some _ _ _ (.inl (mem_of_lookup_names e))⟩
theorem CEnv.rdL (h : CEnv sc env C cenv) {x : Str} (e : sc.names.lookup x = some .local) : Rd cenv x := .inl (h.loc e)
theorem CEnv.rdF (h : CEnv sc env C cenv) {x : Str} (e : sc.names.lookup x = some .free) (hc : (x == ("__classdict__" : Str)) = false) : Rd cenv x := (h.free e).elim (fun a => .inr (.inl a)) fun a => .inr (.inr ⟨a, hc⟩)
theorem CEnv.wr (h : CEnv sc env C cenv) {x : Str} (e : sc.names.lookup x = some .local) : Wr cenv x := .inl (h.loc e)
theorem FEnv.cap {sc : Scope} {env : Env} (h : FEnv sc env) {x : Str} (e : sc.names.lookup x = some .cell) : Cap env x := ⟨.inl (h.kind e), h.cells x e⟩
end

/-- what an inner block sees of the frame's names -/
noncomputable def inner (sc : Scope) (ρ : Loc) : Loc := ρ.filterMap fun q => if sc.names.lookup q.1 == some .free then some (q.1, .val q.2.d) else none
theorem inner_lookup {sc : Scope} : ∀ {ρ : Loc} {x : Str} {sl : Slot}, (inner sc ρ).lookup x = some sl → sc.names.lookup x = some .free ∧ ∃ sl', ρ.lookup x = some sl' ∧ sl = .val sl'.d
  | [], x, sl, h => by simp [inner] at h
  | (y, u) :: r, x, sl, h => by
    unfold inner at h
    rw [List.filterMap_cons] at h
    by_cases hy : (sc.names.lookup y == some .free) = true
    · simp only [hy, if_true] at h
      rw [List.lookup_cons] at h
      cases hx : x == y with
      | true =>
        rw [hx] at h; cases h
        have := beq_iff_eq.mp hx
        subst this
        exact ⟨by simpa using hy, u, by simp, rfl⟩
      | false =>
        rw [hx] at h
        obtain ⟨h1, sl', h2, h3⟩ := inner_lookup (ρ := r) h
        exact ⟨h1, sl', by rw [List.lookup_cons, hx]; exact h2, h3⟩
    · simp only [hy] at h
      obtain ⟨h1, sl', h2, h3⟩ := inner_lookup (ρ := r) h
      refine ⟨h1, sl', ?_, h3⟩
      rw [List.lookup_cons]
      cases hx : x == y with
      | true =>
        have := beq_iff_eq.mp hx
        subst this
        rw [h1] at hy; exact absurd rfl hy
      | false => exact h2
theorem inner_noOwn (sc : Scope) (ρ : Loc) : (inner sc ρ).noOwn = true := by
  unfold Loc.noOwn inner
  rw [List.all_eq_true]
  intro q hq
  obtain ⟨q', _, e⟩ := List.mem_filterMap.mp hq
  split at e
  · cases e; rfl
  · cases e

section
variable {p : Program} {w : World} {A : Around} {env cenv : Env} {ρ : Loc} {sc : Scope} {C D : Addr}
/-- the comprehension's frame, at any later state -/
theorem FS.comp {B : Base} {s s' : Shared} (F : FS p B env ρ s) (h : CEnv sc env C cenv) (hsc : sc.kind = .function) (hcap : ∀ n, (n, NameKind.free) ∈ sc.names → Cap env n)
    (hk : ∀ b o, s.heap.get? b = some o → s'.heap.get? b = some o) (hg : ∀ (g : Nat) st, gk s g = some st → gk s' g = some st) {m : Str → Option Value} (hn : s'.heap.Ns C m) (hC : s.heap.get? C = none)
    (hD : s.heap.get? D = none) (hDs : isSeqAt s'.heap D) : FS p ⟨s.heap, gk s, D :: B.X⟩ cenv (inner sc ρ) s' := by
  have hse : SeqExt s.heap s'.heap := fun b o _ _ e _ => hk b o e
  refine ⟨F.world, hk, hg, ⟨m, by rw [h.locals]; exact hn, fun x sl hx hkx => ?_⟩, by rw [h.locals]; exact hC, fun x c hc => ?_, fun x sl hx hkx => ?_, (fun hf => by rw [h.func] at hf; cases hf), fun x a xs hx => (Loc.noOwn_mem (inner_noOwn sc ρ) hx).elim, fun x a xs hx => (Loc.noOwn_mem (inner_noOwn sc ρ) hx).elim, ?_, by rw [h.scope]; exact hsc, by rw [h.globals]; exact F.glob, by rw [h.builtins]; exact F.blt⟩
  · obtain ⟨h1, _⟩ := inner_lookup hx
    rcases h.free h1 with e | e <;> rw [e] at hkx <;> cases hkx
  · rw [h.cells] at hc
    have hc' := cellsFor_lookup sc.names [] (fun n hn => (hcap n hn).2) (fun n c e => by simp at e) x c hc
    obtain ⟨v, h1, h2⟩ := F.cell x c hc'
    refine ⟨v, h1.keeps hk, fun sl hx hkx => ?_⟩
    obtain ⟨h3, sl', h4, rfl⟩ := inner_lookup hx
    obtain ⟨u, h5, h6⟩ := h2 sl' h4 (hcap x (mem_of_lookup_names h3)).1
    exact ⟨u, h5, (Rep.avoid hD h6.rep).mono hse⟩
  · obtain ⟨h3, _⟩ := inner_lookup hx
    exact (h.cap h3).2
  · intro b hb
    rcases List.mem_cons.mp hb with rfl | hb
    · exact hDs
    · exact (F.xok b hb).ext hse
end
end Mine
end
section
open PySem PySem.W PyProof.Rows PySem.Builtin.Str PySem.StrLaws
set_option Elab.async false
set_option autoImplicit false
set_option linter.unusedVariables false
namespace Mine
/-- one turn of a comprehension's loop, its inner part held apart -/
noncomputable def turnT (e : Expr) (depth : Nat) (target iter : Expr) (ifs : List Expr) (it acc : Value) (env : Env) (inn : Sem PySem.Fin → Sem PySem.Fin) : Sem PySem.Fin :=
  standAt iter.pos >>= fun _ => pyNext it >>= fun r => match r with
    | none => pure (Fin.done .next)
    | some v => letOwnedTupleGo target it v >>= fun _ => assign target env v >>= fun _ =>
      (forIn ifs true fun c ok => if ok = true then (isTrue c env (eval c env) >>= fun ok => pure (ForInStep.yield ok)) else pure (ForInStep.yield ok)) >>= fun ok =>
        if ok = true then inn (again (.compLoop e depth it acc env)) else again (.compLoop e depth it acc env)
noncomputable def emitT (elt : Expr) (acc : Value) (env : Env) (k : Sem PySem.Fin) : Sem PySem.Fin := (eval elt env >>= fun x => call (.builtin "list.append") [acc, x] >>= fun _ => pure ()) >>= fun _ => k
theorem turn1 (elt target iter : Expr) (ifs : List Expr) (scope : Scope) (pos : Pos) (it acc : Value) (env : Env) :
    compTurn (.ListComp elt [⟨target, iter, ifs, 0⟩] scope pos) 0 it acc env = turnT (.ListComp elt [⟨target, iter, ifs, 0⟩] scope pos) 0 target iter ifs it acc env (emitT elt acc env) := by rfl
theorem turn2b (elt t0 i0 t1 i1 : Expr) (scope : Scope) (pos : Pos) (it acc : Value) (env : Env) :
    compTurn (.ListComp elt [⟨t0, i0, [], 0⟩, ⟨t1, i1, [], 0⟩] scope pos) 1 it acc env = turnT (.ListComp elt [⟨t0, i0, [], 0⟩, ⟨t1, i1, [], 0⟩] scope pos) 1 t1 i1 [] it acc env (emitT elt acc env) := by rfl
noncomputable def nestT (e : Expr) (depth : Nat) (i1 : Expr) (acc : Value) (env : Env) (k : Sem PySem.Fin) : Sem PySem.Fin :=
  eval i1 env >>= fun x => standAt i1.pos >>= fun _ => foldedSetIterable i1 env x >>= fun x => holding [x] (pyIter x) >>= fun it => runOwn (.compStart e depth it acc env) env >>= fun _ => k
theorem turn2a (elt t0 i0 t1 i1 : Expr) (scope : Scope) (pos : Pos) (it acc : Value) (env : Env) :
    compTurn (.ListComp elt [⟨t0, i0, [], 0⟩, ⟨t1, i1, [], 0⟩] scope pos) 0 it acc env = turnT (.ListComp elt [⟨t0, i0, [], 0⟩, ⟨t1, i1, [], 0⟩] scope pos) 0 t0 i0 [] it acc env
      (nestT (.ListComp elt [⟨t0, i0, [], 0⟩, ⟨t1, i1, [], 0⟩] scope pos) 1 i1 acc env) := by rfl

/-- the list under way -/
noncomputable def Acc (X : List Addr) (a : Addr) (outs : List D) (s : Shared) : Prop := ∃ ys : List Value, s.heap.PlainList a ys.toArray ∧ RepL X s.heap outs ys
/-- all stays but for two objects -/
structure Kp (C a : Addr) (s s' : Shared) : Prop where
  heap : ∀ b o, b ≠ C → b ≠ a → s.heap.get? b = some o → s'.heap.get? b = some o
  gens : ∀ (g : Nat) st, gk s g = some st → gk s' g = some st
theorem Kp.refl (C a : Addr) (s : Shared) : Kp C a s s := ⟨fun _ _ _ _ e => e, fun _ _ e => e⟩
theorem Kp.trans {C a : Addr} {s s' s'' : Shared} (x : Kp C a s s') (y : Kp C a s' s'') : Kp C a s s'' := ⟨fun b o h1 h2 e => y.heap b o h1 h2 (x.heap b o h1 h2 e), fun g st e => y.gens g st (x.gens g st e)⟩
theorem Kp.evo {C a : Addr} {s s' : Shared} (e : Evo s s') : Kp C a s s' := ⟨fun b o _ _ h => e.heap b o h, e.gens⟩

section
variable {p : Program} {w : World} {A : Around}
/-- the tests of a clause -/
noncomputable def BVs (p : Program) (w : World) (A : Around) (env : Env) (ρ : Loc) (ifs : List Expr) (b : Bool) : Prop :=
  ∀ B (s : Shared) (Q : Bool → Shared → Prop) (E : Value → Shared → Prop), FS p B env ρ s → (∀ s', Evo s s' → Q b s') →
    wpAny (model p w) A (forIn ifs true fun c ok => if ok = true then (isTrue c env (eval c env) >>= fun ok => pure (ForInStep.yield ok)) else pure (ForInStep.yield ok)) Q E s
theorem BVs.nil {env : Env} {ρ : Loc} : BVs p w A env ρ [] true := fun B s Q E F k => by rw [List.forIn_nil]; exact wpAny_pure (k s (Evo.refl s))
theorem BVs.one {env : Env} {ρ : Loc} {c : Expr} {b : Bool} (h : BV p w A env ρ c b) : BVs p w A env ρ [c] b := fun B s Q E F k => by
  rw [List.forIn_cons]
  simp only [if_true]
  refine wpAny_bind (wpAny_bind (h B s _ _ F fun s1 e1 => wpAny_pure ?_))
  dsimp only
  rw [List.forIn_nil]
  exact wpAny_pure (k s1 e1)

/-- what a clause's inner part does -/
noncomputable def InnT (p : Program) (w : World) (A : Around) (cenv : Env) (a : Addr) (ρ : Loc) (inn : Sem PySem.Fin → Sem PySem.Fin) (ds : List D) : Prop :=
  ∀ B (s : Shared) outs (k : Sem PySem.Fin) (Q : PySem.Fin → Shared → Prop) (E : Value → Shared → Prop), a ∈ B.X → B.heap.get? a = none → FS p B cenv ρ s → Acc B.X a outs s → (outs ++ ds).length ≤ lim →
    (∀ s', FS p B cenv ρ s' → Acc B.X a (outs ++ ds) s' → Kp cenv.locals a s s' → wpAny (model p w) A k Q E s') → wpAny (model p w) A (inn k) Q E s

theorem InnT.emit {cenv : Env} {a : Addr} {ρ : Loc} {elt : Expr} {d : D} (hno : ρ.noOwn = true) (he : EV p w A cenv ρ elt d) : InnT p w A cenv a ρ (emitT elt (.ref a) cenv) [d] := fun B s outs k Q E ha hB F hacc hlen kk => by
  refine wpAny_bind (wpAny_bind (he B s _ _ F fun v s1 e1 r1 => wpAny_bind ?_))
  obtain ⟨ys, hp, r⟩ := hacc
  have hys := r.length
  obtain ⟨n, hob⟩ := hp
  rw [List.length_append, List.length_singleton] at hlen
  refine wpAny_list_append_plain ⟨n, e1.heap _ _ hob⟩ (fun h' hp' hs' => wpAny_pure ?_) (by rw [List.size_toArray, hys]; exact Nat.le_trans (by omega) lim_size)
  have F1 := F.evo e1
  have hq : isSeqAt h' a := let ⟨n, e⟩ := hp'; ⟨_, _, _, e, rfl⟩
  have hse : SeqBut B.X s1.heap h' := fun b o xs n hb e _ => (hs'.2 b fun q => hb (q ▸ ha)).trans e
  refine kk _ (F1.bump (k := s1.toks) ha hB hs' hq hno) ⟨ys ++ [v], by simpa using hp', ?_⟩ ⟨fun b o _ hb e => (hs'.2 b hb).trans (e1.heap b o e), e1.gens⟩
  exact ((r.mono e1.seq).append (RepL.one r1)).monoB hse
end

section
variable {p : Program} {w : World} {A : Around} {cenv : Env} {a : Addr} {ρ : Loc}
/-- a clause's loop -/
theorem comp_loop {B : Base} {s₁ : Shared} {e : Expr} {depth : Nat} {target iter : Expr} {ifs : List Expr} {it : Value} {inn : Sem PySem.Fin → Sem PySem.Fin} {ds : List D} {fp₀ sq pr₀ : Addr → Prop} {pg : Nat → Prop} {St : Nat → (Addr → Prop) → (Addr → Prop) → Shared → Prop}
    {outs₀ : List D} {R : Result → Shared → Prop} (he : ∃ elt gens scope pos, e = .ListComp elt gens scope pos) (hturn : compTurn e depth it (.ref a) cenv = turnT e depth target iter ifs it (.ref a) cenv inn)
    (I : Itr p w A B.X it ds sq pg St) (hst₀ : St 0 fp₀ pr₀ s₁) (F₁ : FS p B cenv ρ s₁) (hacc : Acc B.X a outs₀ s₁) (ha : a ∈ B.X) (hB : B.heap.get? a = none) (hf : cenv.func = none) (hno : ρ.noOwn = true)
    (fpL : ¬ fp₀ cenv.locals) (fpA : ¬ fp₀ a) (fpC : ∀ x c, cenv.cells.lookup x = some c → ¬ pr₀ c) (prB : ∀ b o, B.heap.get? b = some o → ¬ pr₀ b) (pgB : ∀ (g : Nat) st, B.gens g = some st → ¬ pg g)
    (out : Nat → List D) (hlen : (outs₀ ++ ((List.range ds.length).map out).flatten).length ≤ lim)
    (turn : ∀ i d, ds[i]? = some d → ∃ ρ'', AT p w A cenv ρ target d ρ'' ∧ Sub ρ ρ'' ∧ ρ''.noOwn = true ∧ ∃ b, BVs p w A cenv ρ'' ifs b ∧ (b = true → InnT p w A cenv a ρ'' inn (out i)) ∧ (b = false → out i = []))
    (hR : ∀ s', FS p B cenv ρ s' → Acc B.X a (outs₀ ++ ((List.range ds.length).map out).flatten) s' → Mv (fun b => pr₀ b ∨ b = cenv.locals ∨ b = a) pg s₁ s' → R (.ok .next) s') :
    codeAny (model p w) A (.compLoop e depth it (.ref a) cenv) R s₁ := by
  let G (fp pr : Addr → Prop) : Prop := ¬ fp cenv.locals ∧ ¬ fp a ∧ (∀ x c, cenv.cells.lookup x = some c → ¬ pr c) ∧ (∀ b o, B.heap.get? b = some o → ¬ pr b) ∧ (∀ b, pr b → pr₀ b ∨ s₁.heap.get? b = none)
  have G₀ : G fp₀ pr₀ := ⟨fpL, fpA, fpC, prB, fun b h => .inl h⟩
  have aliveA : ∀ {s : Shared} {outs : List D}, Acc B.X a outs s → ∃ o, s.heap.get? a = some o ∧ ¬ NotSeq o := fun ⟨ys, ⟨n, hob⟩, _⟩ => ⟨_, hob, fun h => h _ _ rfl⟩
  have Gstep : ∀ {ρ' : Loc} {s : Shared} {fp pr fp' pr' : Addr → Prop} {outs : List D}, FS p B cenv ρ' s → Acc B.X a outs s → Mv (fun b => pr₀ b ∨ b = cenv.locals ∨ b = a) pg s₁ s → G fp pr → (∀ b, fp' b → fp b ∨ s.heap.get? b = none) → (∀ b, pr' b → pr b ∨ s.heap.get? b = none) → G fp' pr' := by
    rintro ρ' s fp pr fp' pr' outs F hac mv ⟨g1, g2, g3, g4, g5⟩ h1 h2
    refine ⟨fun hb => ?_, fun hb => ?_, fun x c hc hb => ?_, fun b o e hp => ?_, fun b hb => ?_⟩
    · obtain ⟨m, ⟨o, es, ep, ho, _⟩, _⟩ := F.ns
      rcases h1 _ hb with h | h
      · exact g1 h
      · rw [h] at ho; cases ho
    · obtain ⟨o, ho, _⟩ := aliveA hac
      rcases h1 _ hb with h | h
      · exact g2 h
      · rw [h] at ho; cases ho
    · obtain ⟨v, ⟨o, ho, _⟩, _⟩ := F.cell x c hc
      rcases h2 _ hb with h | h
      · exact g3 x c hc h
      · rw [h] at ho; cases ho
    · rcases h2 _ hp with h | h
      · exact g4 b o e h
      · have := F.keep b o e; rw [h] at this; cases this
    · rcases h2 _ hb with h | h
      · exact g5 b h
      · cases q : s₁.heap.get? b with
        | none => exact .inr rfl
        | some o =>
          by_cases hp0 : pr₀ b
          · exact .inl hp0
          · by_cases hbL : b = cenv.locals
            · subst hbL
              obtain ⟨m, ⟨o, es, ep, ho, _⟩, _⟩ := F.ns
              rw [h] at ho; cases ho
            · by_cases hba : b = a
              · subst hba
                obtain ⟨o, ho, _⟩ := aliveA hac
                rw [h] at ho; cases ho
              · have := mv.heap b o (fun hh => by rcases hh with hh | hh | hh; exact hp0 hh; exact hbL hh; exact hba hh) q
                rw [h] at this; cases this
  have step : ∀ {ρ' : Loc} {s s' : Shared} {fp pr : Addr → Prop}, FS p B cenv ρ' s → Mv pr pg s s' → (∃ i, St i fp pr s) → G fp pr → FS p B cenv ρ' s' := fun F m ⟨i, hi⟩ ⟨g1, g2, g3, g4, _⟩ =>
    F.moved m g4 pgB (fun hp => g1 (I.sub _ _ _ _ _ hi hp)) g3 fun b hp => I.priv i _ _ _ b hi hp
  have accMv : ∀ {s s' : Shared} {outs : List D} {fp pr : Addr → Prop}, Acc B.X a outs s → Mv pr pg s s' → (∃ i, St i fp pr s) → G fp pr → Acc B.X a outs s' := fun ⟨ys, ⟨n, hob⟩, r⟩ m ⟨i, hi⟩ ⟨g1, g2, _⟩ =>
    ⟨ys, ⟨n, m.heap _ _ (fun hp => g2 (I.sub _ _ _ _ _ hi hp)) hob⟩, r.mono fun b o xs n e hd => m.heap b o (fun hp => by
      obtain ⟨o', e', h⟩ := I.priv i _ _ _ b hi hp
      rw [e] at e'; cases e'
      exact h _ _ hd) e⟩
  have mvAll : ∀ {s s' : Shared} {fp pr : Addr → Prop}, G fp pr → Mv (fun b => pr₀ b ∨ b = cenv.locals ∨ b = a) pg s₁ s → Mv pr pg s s' → Mv (fun b => pr₀ b ∨ b = cenv.locals ∨ b = a) pg s₁ s' := fun ⟨_, _, _, _, g5⟩ hmv m =>
    ⟨fun b o hb e => m.heap b o (fun h => by
      rcases g5 b h with h | h
      · exact hb (.inl h)
      · rw [h] at e; cases e) (hmv.heap b o hb e), fun g st hg e => m.gens g st hg (hmv.gens g st hg e)⟩
  have hidE : ∀ {ρ' : Loc}, ρ'.noOwn = true → ∀ b, b ∈ hid cenv ρ' → b = cenv.locals := fun hn b hb => by
    rcases mem_hid.mp hb with rfl | ⟨hf', _⟩ | ⟨x, xs, hm⟩
    · rfl
    · rw [hf] at hf'; cases hf'
    · exact (Loc.noOwn_mem hn hm).elim
  have pre : ∀ i, i < ds.length → outs₀ ++ ((List.range (i + 1)).map out).flatten = (outs₀ ++ ((List.range i).map out).flatten) ++ out i := fun i _ => by
    rw [List.range_succ, List.map_append, List.flatten_append]; simp
  have lenp : ∀ i, i ≤ ds.length → (outs₀ ++ ((List.range i).map out).flatten).length ≤ lim := fun i hi => by
    refine Nat.le_trans ?_ hlen
    rw [List.length_append, List.length_append]
    refine Nat.add_le_add_left ?_ _
    have : List.range ds.length = List.range i ++ (List.range (ds.length - i)).map (i + ·) := by
      rw [← List.range_add]; congr 1; omega
    rw [this, List.map_append, List.flatten_append, List.length_append]
    omega
  refine codeAny_loop (by obtain ⟨elt, gens, scope, pos, rfl⟩ := he; rfl) (fun n s => ∃ i fp pr, n = ds.length + 1 - i ∧ i ≤ ds.length ∧ FS p B cenv ρ s ∧ St i fp pr s ∧ G fp pr ∧ Acc B.X a (outs₀ ++ ((List.range i).map out).flatten) s ∧ Mv (fun b => pr₀ b ∨ b = cenv.locals ∨ b = a) pg s₁ s) ?_ (ds.length + 1)
    ⟨0, fp₀, pr₀, by omega, Nat.zero_le _, F₁, hst₀, G₀, by simpa using hacc, ⟨fun _ _ _ e => e, fun _ _ _ e => e⟩⟩
  rintro n s ⟨i, fp, pr, rfl, hle, F, hst, hG, hacc, hmv⟩
  obtain ⟨elt, gens, scope, pos, rfl⟩ := he
  show wpAny _ _ ((compTurn (.ListComp elt gens scope pos) depth it (.ref a) cenv).onRaise (fun x => do noteFrame x cenv; theTreesLotGoes x)) _ _ s
  refine wpAny_noted ?_
  rw [hturn]
  unfold turnT
  show wpAny _ A _ _ _ s
  refine wpAny_bind (wpAny_standAt (wpAny_bind ?_))
  by_cases hlt : i < ds.length
  · obtain ⟨d, hd⟩ : ∃ d, ds[i]? = some d := ⟨ds[i], by simp [hlt]⟩
    refine I.next i d s _ _ _ _ hd F.xok hst fun v s₂ fp' pr' r hst₂ m h1' h2' => ?_
    have F₂ := step F m ⟨i, hst⟩ hG
    have acc₂ := accMv hacc m ⟨i, hst⟩ hG
    have mv₂ := mvAll hG hmv m
    have hG₂ := Gstep F hacc hmv hG h1' h2'
    obtain ⟨ρ'', hat, hsub, hno'', b, hbv, h1, h2⟩ := turn i d hd
    refine wpAny_bind (I.letGo (i + 1) _ _ s₂ _ _ _ _ hst₂ (wpAny_bind ?_))
    refine hat _ s₂ _ _ v F₂.up r fun s₃ F₃ => wpAny_bind ?_
    have FD := F₂.down F₃
    have keep₃ : ∀ b o, b ≠ cenv.locals → s₂.heap.get? b = some o → s₃.heap.get? b = some o := fun b o hb e => F₃.keep b o (hideAll_get _ e fun hm => hb (hidE hno b hm))
    have hst₃ : St (i + 1) fp' pr' s₃ := I.frame _ _ _ _ _ hst₂ (fun b o hb e => keep₃ b o (fun q => hG₂.1 (q ▸ hb)) e) (fun g st _ e => F₃.kgens g st e)
    have neA : a ≠ cenv.locals := fun q => by
      obtain ⟨o, xs, n, e, hd⟩ := F.xok a ha
      obtain ⟨mm, hm, _⟩ := F.ns
      exact dictNotSeq hm (q ▸ e) hd
    have acc₃ : Acc B.X a (outs₀ ++ ((List.range i).map out).flatten) s₃ := by
      obtain ⟨ys, ⟨n, hob⟩, rr⟩ := acc₂
      refine ⟨ys, ⟨n, keep₃ _ _ neA hob⟩, rr.mono fun b o xs n e hd => keep₃ b o (fun q => ?_) e⟩
      obtain ⟨mm, hm, _⟩ := F₂.ns
      exact dictNotSeq hm (q ▸ e) hd
    have mv₃ : Mv (fun b => pr₀ b ∨ b = cenv.locals ∨ b = a) pg s₁ s₃ := ⟨fun b o hb e => keep₃ b o (fun q => hb (.inr (.inl q))) (mv₂.heap b o hb e), fun g st hg e => F₃.kgens g st (mv₂.gens g st hg e)⟩
    refine hbv B s₃ _ _ FD fun s₄ e₄ => ?_
    have F₄ := FD.evo e₄
    have hst₄ : St (i + 1) fp' pr' s₄ := I.frame _ _ _ _ _ hst₃ (fun b o _ e => e₄.heap b o e) (fun g st _ e => e₄.gens g st e)
    have acc₄ : Acc B.X a (outs₀ ++ ((List.range i).map out).flatten) s₄ := let ⟨ys, ⟨n, hob⟩, rr⟩ := acc₃; ⟨ys, ⟨n, e₄.heap _ _ hob⟩, rr.mono e₄.seq⟩
    have mv₄ : Mv (fun b => pr₀ b ∨ b = cenv.locals ∨ b = a) pg s₁ s₄ := ⟨fun b o hb e => e₄.heap b o (mv₃.heap b o hb e), fun g st hg e => e₄.gens g st (mv₃.gens g st hg e)⟩
    cases b with
    | false =>
      rw [if_neg Bool.false_ne_true]
      refine wpAny_pure ⟨rfl, ds.length + 1 - (i + 1), by omega, i + 1, fp', pr', rfl, hlt, F₄.weaken hsub, hst₄, hG₂, ?_, mv₄⟩
      rw [pre i hlt, h2 rfl, List.append_nil]; exact acc₄
    | true =>
      rw [if_pos rfl]
      refine h1 rfl B s₄ _ _ _ _ ha hB F₄ acc₄ (by rw [← pre i hlt]; exact lenp (i + 1) hlt) fun s₅ F₅ acc₅ kp => ?_
      refine wpAny_pure ⟨rfl, ds.length + 1 - (i + 1), by omega, i + 1, fp', pr', rfl, hlt, F₅.weaken hsub, ?_, hG₂, by rw [pre i hlt]; exact acc₅, ?_⟩
      · exact I.frame _ _ _ _ _ hst₄ (fun b o hb e => kp.heap b o (fun q => hG₂.1 (q ▸ hb)) (fun q => hG₂.2.1 (q ▸ hb)) e) (fun g st _ e => kp.gens g st e)
      · exact ⟨fun b o hb e => kp.heap b o (fun q => hb (.inr (.inl q))) (fun q => hb (.inr (.inr q))) (mv₄.heap b o hb e), fun g st hg e => kp.gens g st (mv₄.gens g st hg e)⟩
  · have : i = ds.length := by omega
    subst this
    refine I.done s _ _ _ _ F.xok hst fun s₂ m => wpAny_pure ?_
    exact hR s₂ (step F m ⟨_, hst⟩ hG) (accMv hacc m ⟨_, hst⟩ hG) (mvAll hG hmv m)
end
end Mine
end
section
open PySem PySem.W PyProof.Rows PySem.Builtin.Str PySem.StrLaws
set_option Elab.async false
set_option autoImplicit false
set_option linter.unusedVariables false
namespace Mine
section
variable {p : Program} {w : World} {A : Around} {env : Env} {ρ : Loc} {pos : Pos}

/-- what a comprehension's loop does from its first state -/
noncomputable def LoopOk (p : Program) (w : World) (A : Around) (sc : Scope) (env : Env) (ρ : Loc) (e : Expr) (ds res : List D) : Prop :=
  ∀ (cenv : Env) (C a : Addr) (B : Base) (s₁ : Shared) (it : Value) (fp sq pr : Addr → Prop) (pg : Nat → Prop) (St : Nat → (Addr → Prop) → (Addr → Prop) → Shared → Prop) (R : Result → Shared → Prop),
    CEnv sc env C cenv → Itr p w A B.X it ds sq pg St → St 0 fp pr s₁ → FS p B cenv (inner sc ρ) s₁ → Acc B.X a [] s₁ → a ∈ B.X → B.heap.get? a = none →
    (¬ fp cenv.locals) → (¬ fp a) → (∀ x c, cenv.cells.lookup x = some c → ¬ pr c) → (∀ b o, B.heap.get? b = some o → ¬ pr b) → (∀ (g : Nat) st, B.gens g = some st → ¬ pg g) →
    (∀ s', FS p B cenv (inner sc ρ) s' → Acc B.X a res s' → R (.ok .next) s') → codeAny (model p w) A (.compLoop e 0 it (.ref a) cenv) R s₁

theorem isListCompLoop {elt target iter : Expr} {ifs : List Expr} {rest : List Comprehension} {sc : Scope} {it acc : Value} {cenv : Env} {s : Shared} {R : Result → Shared → Prop}
    (h : codeAny (model p w) A (.compLoop (.ListComp elt (⟨target, iter, ifs, 0⟩ :: rest) sc pos) 0 it acc cenv) R s)
    (hself : ∀ (Q : Value → Shared → Prop) (E : Value → Shared → Prop), Q it s → wpAny (model p w) A (pyIter it) Q E s) :
    codeAny (model p w) A (.compStart (.ListComp elt (⟨target, iter, ifs, 0⟩ :: rest) sc pos) 0 it acc cenv) R s :=
  codeAny_compStart_list h (hself _ _ h)

theorem comp_core {elt target iter : Expr} {ifs : List Expr} {rest : List Comprehension} {sc : Scope} {ds res : List D} {sqf : Bool} {B : Base} {s : Shared} {E : Value → Shared → Prop} {RR : Value → Addr → Result → Shared → Prop} (F : FS p B env ρ s)
    (hi : IterE p w A env ρ sqf iter ds) (hsc : sc.kind = .function) (hcells : ∀ x ∈ sc.names, x.2 ≠ .cell) (hcap : ∀ n, (n, NameKind.free) ∈ sc.names → Cap env n) (hres : res.length ≤ lim)
    (hloop : LoopOk p w A sc env ρ (.ListComp elt (⟨target, iter, ifs, 0⟩ :: rest) sc pos) ds res)
    (hRR : ∀ a C s' ys, (∀ b o, s.heap.get? b = some o → s'.heap.get? b = some o) → (∀ (g : Nat) st, gk s g = some st → gk s' g = some st) → s.heap.get? a = none → s.heap.get? C = none → a ≠ C → (∃ m, s'.heap.Ns C m) →
      s'.heap.PlainList a (List.toArray ys) → RepL (a :: B.X) s'.heap res ys → RR (.ref a) C (.ok .next) s') :
    wpAny (model p w) A (eval iter env) (fun x s₁ => wpAny (model p w) A (pyIter x) (fun it s₂ => wpAny (model p w) A (newList []) (fun acc s₃ =>
      wpAny (model p w) A (newFunctionEnv sc env.globals (cellsFor env sc.names []) [] env.qual none .none (some env)) (fun cenv s₄ =>
        codeAny (model p w) A (.compStart (.ListComp elt (⟨target, iter, ifs, 0⟩ :: rest) sc pos) 0 it acc { cenv with scope := relabel sc env }) (RR acc cenv.locals) s₄) E s₃) E s₂) E s₁) E s := by
  refine hi B s _ _ F fun it s₂ fp sq pr pg St e1 I' hst _ hfp hsq hpr hpg => ?_
  have F₂ := F.evo e1
  refine wpAny_newObj_type (wpAny_newFunctionEnv hcells (by intro y hy; simp at hy) (fun h₁ hns₁ hsb₁ => ?_) hsc)
  dsimp only at hns₁ hsb₁ ⊢
  generalize hH2 : s₂.heap.push { cls := .type "list", dict := none, data := .seq ([] : List Value).toArray } = H2 at hns₁ hsb₁ ⊢
  have hC : H2.objs.size = s₂.heap.objs.size + 1 := by rw [← hH2, Heap.size_push]
  have fresh : ∀ b, s₂.heap.objs.size ≤ b → s₂.heap.get? b = none := fun b hb => by
    cases q : s₂.heap.get? b with
    | none => rfl
    | some ob => exact absurd (Heap.lt_size q) (Nat.not_lt.mpr hb)
  have fresh0 : ∀ b, s₂.heap.objs.size ≤ b → s.heap.get? b = none := fun b hb => by
    cases q : s.heap.get? b with
    | none => rfl
    | some ob => have := fresh b hb; rw [e1.heap _ _ q] at this; cases this
  have haC : s₂.heap.objs.size ≠ H2.objs.size := by rw [hC]; exact Nat.ne_of_lt (Nat.lt_succ_self _)
  have old : ∀ b o, s₂.heap.get? b = some o → h₁.get? b = some o := fun b o e =>
    hsb₁.extBut b o (fun q => Nat.ne_of_lt (Nat.lt_of_lt_of_le (Heap.lt_size e) (by rw [hC]; exact Nat.le_succ _)) q) (Heap.get?_push_of_some _ (hH2 ▸ Heap.get?_push_of_some _ e))
  have hacc : h₁.get? s₂.heap.objs.size = some { cls := .type "list", dict := none, data := .seq ([] : List Value).toArray } :=
    hsb₁.extBut _ _ haC (Heap.get?_push_of_some _ (hH2 ▸ Heap.get?_push_size _ rfl))
  generalize hs4 : ({ s₂ with heap := h₁, toks := s₂.toks + ([] : List (Str × Value)).length } : Shared) = s₄
  have ev : Evo s₂ s₄ := by subst hs4; exact Evo.ofHeap _ old
  have hX' : ∀ d v, Rep B.X s₂.heap d v → Rep (s₂.heap.objs.size :: B.X) s₂.heap d v := fun d v r => Rep.avoid (fresh _ (Nat.le_refl _)) r
  have I := I' _ (fun b hb => List.mem_cons_of_mem _ hb) hX'
  have CE : CEnv sc env H2.objs.size (compEnvC sc (cellsFor env sc.names []) H2.objs.size env) := ⟨rfl, rfl, rfl, rfl, rfl, rfl⟩
  have e14 := e1.trans ev
  have hns4 : s₄.heap.Ns H2.objs.size fun x => ([] : List (Str × Value)).reverse.lookup x := by subst hs4; exact hns₁
  have hacc4 : s₄.heap.get? s₂.heap.objs.size = some { cls := .type "list", dict := none, data := .seq ([] : List Value).toArray } := by subst hs4; exact hacc
  have F₄ := FS.comp (s' := s₄) (D := s₂.heap.objs.size) F CE hsc hcap e14.heap e14.gens hns4 (fresh0 H2.objs.size (by rw [hC]; exact Nat.le_succ _)) (fresh0 _ (Nat.le_refl _)) ⟨_, _, _, hacc4, rfl⟩
  have hst4 : St 0 fp pr s₄ := I.frame _ _ _ _ _ hst (fun b o _ e => ev.heap b o e) (fun g st _ e => ev.gens g st e)
  have fpAlive : ∀ b, fp b → ∃ o, s₂.heap.get? b = some o := fun b hb => I.shape 0 _ _ _ b hst hb
  have nfp : ∀ b, s₂.heap.objs.size ≤ b → ¬ fp b := fun b hb h => by obtain ⟨o, ho⟩ := fpAlive b h; rw [fresh b hb] at ho; cases ho
  refine isListCompLoop (cenv := compEnvC sc (cellsFor env sc.names []) H2.objs.size env) ?_ (fun Q E hq => I.self 0 _ _ s₄ Q E hst4 hq)
  refine hloop _ _ s₂.heap.objs.size _ s₄ it fp sq pr pg St _ CE I hst4 F₄ ⟨[], ⟨_, hacc4⟩, rfl⟩ List.mem_cons_self (fresh0 _ (Nat.le_refl _)) (nfp H2.objs.size (by rw [hC]; exact Nat.le_succ _)) (nfp _ (Nat.le_refl _)) ?_ ?_ ?_ ?_
  · intro x c hc hb
    have hc' := cellsFor_lookup sc.names [] (fun n hn => (hcap n hn).2) (fun n c e => by simp at e) x c hc
    obtain ⟨v, ⟨o, ho, hd⟩, _⟩ := F.cell x c hc'
    rw [hpr c hb] at ho; cases ho
  · intro b o hb hp
    have := hpr b hp
    dsimp only at hb
    rw [this] at hb; cases hb
  · intro g st hg hp
    have := hpg g hp
    dsimp only at hg
    rw [this] at hg; cases hg
  · intro s' F' hacc'
    obtain ⟨ys, hp, r⟩ := hacc'
    obtain ⟨m, hm, _⟩ := F'.ns
    exact hRR _ _ s' ys F'.keep F'.kgens (fresh0 _ (Nat.le_refl _)) (fresh0 H2.objs.size (by rw [hC]; exact Nat.le_succ _)) haC ⟨m, hm⟩ hp r

theorem EV.comp {elt target iter : Expr} {ifs : List Expr} {rest : List Comprehension} {sc : Scope} {ds res : List D} {sqf : Bool}
    (hi : IterE p w A env ρ sqf iter ds) (hsc : sc.kind = .function) (hcells : ∀ x ∈ sc.names, x.2 ≠ .cell) (hnames : ∀ y ∈ sc.names, y.2 = .local → sc.names.lookup y.1 = some .local) (hcap : ∀ n, (n, NameKind.free) ∈ sc.names → Cap env n) (hres : res.length ≤ lim)
    (hloop : LoopOk p w A sc env ρ (.ListComp elt (⟨target, iter, ifs, 0⟩ :: rest) sc pos) ds res)
    (hs : ∀ x, foldedSetIterable iter env x = pure x := by intro _; rfl) :
    EV p w A env ρ (.ListComp elt (⟨target, iter, ifs, 0⟩ :: rest) sc pos) (.lst res) := fun B s Q E F k => by
  rw [eval_ListComp]
  refine wpAny_comprehension_free (use := none) rfl hs (closureFor_pure fun n hn => (hcap n hn).2) hsc hnames ?_
  refine comp_core (RR := fun acc C => compPost (model p w) A E none Q acc C) F hi hsc hcells hcap hres hloop fun a C s' ys hk hg hna hnC hne hm hp r => ?_
  obtain ⟨m, hm⟩ := hm
  refine ⟨m, hm, fun h' hs' => k _ _ ⟨fun b o e => (hs'.2 b fun q => by subst q; rw [hnC] at e; cases e).trans (hk b o e), hg⟩ ?_⟩
  obtain ⟨n, hob⟩ := hp
  refine ⟨hres, a, ys, rfl, (fun hx => by obtain ⟨o, _, _, e, _⟩ := F.xok a hx; rw [hna] at e; cases e), ⟨_, (hs'.2 a hne).trans hob, rfl, _, rfl⟩, ?_⟩
  refine ((r.weak fun b hb => List.mem_cons_of_mem _ hb).mono fun b o xs n e hd => (hs'.2 b fun q => ?_).trans e)
  subst q
  exact dictNotSeq hm e hd

theorem ST1.comp {x : Str} {pos' : Pos} {spos : Pos} {P : Fl → Loc → Prop} {elt target iter : Expr} {ifs : List Expr} {rest : List Comprehension} {sc : Scope} {ds res : List D} {sqf : Bool}
    (hi : IterE p w A env ρ sqf iter ds) (hsc : sc.kind = .function) (hcells : ∀ x ∈ sc.names, x.2 ≠ .cell) (hnames : ∀ y ∈ sc.names, y.2 = .local → sc.names.lookup y.1 = some .local) (hcap : ∀ n, (n, NameKind.free) ∈ sc.names → Cap env n) (hres : res.length ≤ lim)
    (hloop : LoopOk p w A sc env ρ (.ListComp elt (⟨target, iter, ifs, 0⟩ :: rest) sc pos) ds res) (hk : Wr env x) (hP : P .next (ρ.set x (.val (.lst res)))) (hno : ρ.noOwn = true)
    (hsw : swapsWith (.ListComp elt (⟨target, iter, ifs, 0⟩ :: rest) sc pos) (some (.Name x pos')) spos.line env = pure true)
    (hs : ∀ x, foldedSetIterable iter env x = pure x := by intro _; rfl) :
    ST1 p w A env ρ (.Assign [.Name x pos'] (.ListComp elt (⟨target, iter, ifs, 0⟩ :: rest) sc pos) spos) P := fun B s Q E F k => by
  rw [exec_Assign_Name_used _ _ _ _ hsw]
  refine wpAny_bind (wpAny_standAt (wpAny_bind ?_))
  show wpAny _ A (do let _ ← comprehension (.ListComp elt (⟨target, iter, ifs, 0⟩ :: rest) sc pos) sc env _ (newList []) false (eval iter env) (some (PySem.assign (.Name x pos') env))) _ _ s
  refine wpAny_bind (wpAny_mono (wpAny_comprehension_free (use := some (PySem.assign (.Name x pos') env)) (Q := fun _ s' => Q .next s') rfl hs (closureFor_pure fun n hn => (hcap n hn).2) hsc hnames ?_) (fun _ s' hq => wpAny_pure (wpAny_pure hq)) fun _ _ e => e)
  refine comp_core (RR := fun acc C => compPost (model p w) A E (some (PySem.assign (.Name x pos') env)) (fun _ s' => Q .next s') acc C) F hi hsc hcells hcap hres hloop fun a C s' ys hkk hg hna hnC hne hm hp r => ?_
  obtain ⟨m, hm⟩ := hm
  show wpAny _ A (PySem.assign (.Name x pos') env (.ref a)) _ _ _
  have ev : Evo s s' := ⟨hkk, hg⟩
  have F' := F.evo ev
  have hLC : env.locals ≠ C := fun q => by obtain ⟨mm, ⟨o, _, _, ho, _⟩, _⟩ := F.ns; rw [q, hnC] at ho; cases ho
  have hCC : ∀ y c, env.cells.lookup y = some c → c ≠ C := fun y c hc q => by obtain ⟨u, ⟨o, ho, _⟩, _⟩ := F.cell y c hc; rw [q, hnC] at ho; cases ho
  obtain ⟨n, hob⟩ := hp
  have rep : Rep B.X s'.heap (.lst res) (.ref a) := ⟨hres, a, ys, rfl, (fun hx => by obtain ⟨o, _, _, e, _⟩ := F.xok a hx; rw [hna] at e; cases e), ⟨_, hob, rfl, _, rfl⟩, r.weak fun b hb => List.mem_cons_of_mem _ hb⟩
  refine AT.name (p := p) (w := w) (A := A) (pos := pos') hk _ s' _ _ _ F'.up rep fun s'' F'' => ?_
  have FD := F'.down F''
  have hCh : C ∉ hid env ρ := fun hmem => by
    rcases mem_hid.mp hmem with q | ⟨hf, y, hy⟩ | ⟨y, xs, hy⟩
    · exact hLC q.symm
    · exact hCC y C hy rfl
    · exact Loc.noOwn_mem hno hy
  obtain ⟨oC, es, ep, hoC, r1, r2⟩ := hm
  have hm2 : s''.heap.Ns C m := ⟨oC, es, ep, F''.keep _ _ (hideAll_get _ hoC hCh), r1, r2⟩
  refine ⟨m, hm2, fun h' hs' => ?_⟩
  have mv : Mv (fun b => b = C) (fun _ => False) s'' { s'' with heap := h' } := ⟨fun b o hb e => (hs'.2 b hb).trans e, fun _ _ _ e => e⟩
  refine k .next _ _ _ hP (FD.moved mv (fun b o e q => ?_) (fun _ _ _ h => h) (fun q => hLC q) (fun y c hc q => hCC y c hc q) fun b q => ?_) rfl
  · subst q
    have := F.keep _ _ e
    rw [hnC] at this; cases this
  · subst q
    obtain ⟨o, es, ep, ho, hd, _⟩ := hm2
    exact ⟨o, ho, fun xs n e => by rw [hd] at e; cases e⟩
end
end Mine
end
section
open PySem PySem.W PyProof.Rows PySem.Builtin.Str PySem.StrLaws
set_option Elab.async false
set_option autoImplicit false
set_option linter.unusedVariables false
namespace Mine
section
variable {p : Program} {w : World} {A : Around} {env : Env} {ρ : Loc} {pos : Pos}

theorem range_out {α : Type} (xs : List α) (t : α → Bool) (f : α → D) : ((List.range xs.length).map fun i => match xs[i]? with | some x => if t x then [f x] else [] | none => []).flatten = (xs.filter t).map f := by
  induction xs with
  | nil => rfl
  | cons x r ih =>
    rw [List.length_cons, List.range_succ_eq_map, List.map_cons, List.map_map, List.flatten_cons, List.filter_cons]
    have : (List.map ((fun i => match (x :: r)[i]? with | some x => if t x then [f x] else [] | none => []) ∘ Nat.succ) (List.range r.length)) = List.map (fun i => match r[i]? with | some x => if t x then [f x] else [] | none => []) (List.range r.length) := by
      apply List.map_congr_left; intro i _; simp
    rw [this, ih]
    simp only [List.getElem?_cons_zero]
    split <;> simp

theorem LoopOk.one {elt target iter : Expr} {ifs : List Expr} {sc : Scope} {α : Type} (xs : List α) (g : α → D) (t : α → Bool) (f : α → D) (hlen : ((xs.filter t).map f).length ≤ lim)
    (turn : ∀ cenv C, CEnv sc env C cenv → ∀ x ∈ xs, ∃ ρ'', AT p w A cenv (inner sc ρ) target (g x) ρ'' ∧ Sub (inner sc ρ) ρ'' ∧ ρ''.noOwn = true ∧ BVs p w A cenv ρ'' ifs (t x) ∧ (t x = true → EV p w A cenv ρ'' elt (f x))) :
    LoopOk p w A sc env ρ (.ListComp elt [⟨target, iter, ifs, 0⟩] sc pos) (xs.map g) ((xs.filter t).map f) := by
  intro cenv C a B s₁ it fp sq pr pg St R CE I hst F₁ hacc ha hB fpL fpA fpC prB pgB hR
  have ho := range_out xs t f
  refine comp_loop (inn := emitT elt (.ref a) cenv) (outs₀ := []) ⟨_, _, _, _, rfl⟩ (turn1 _ _ _ _ _ _ _ _ _) I hst F₁ hacc ha hB CE.func (inner_noOwn _ _) fpL fpA fpC prB pgB (fun i => match xs[i]? with | some x => if t x then [f x] else [] | none => []) ?_ ?_ ?_
  · rw [List.length_map, List.nil_append, ho]; exact hlen
  · intro i d hd
    rw [List.getElem?_map] at hd
    obtain ⟨x, hx, rfl⟩ := Option.map_eq_some_iff.mp hd
    obtain ⟨ρ'', h1, h2, h3, h4, h5⟩ := turn cenv C CE x (List.mem_of_getElem? hx)
    refine ⟨ρ'', h1, h2, h3, t x, h4, fun hb => ?_, fun hb => ?_⟩
    · simp only [hx, hb, if_true]; exact InnT.emit h3 (h5 hb)
    · simp only [hx, hb, Bool.false_eq_true, if_false]
  · intro s' F' hacc' _
    rw [List.length_map, List.nil_append, ho] at hacc'
    exact hR s' F' hacc'

theorem codeAny_compStart1 {elt t0 i0 t1 i1 : Expr} {scope : Scope} {pos : Pos} {it acc : Value} {cenv : Env} {s : Shared} {R : Result → Shared → Prop}
    (h0 : codeAny (model p w) A (.compLoop (.ListComp elt [⟨t0, i0, [], 0⟩, ⟨t1, i1, [], 0⟩] scope pos) 1 it acc cenv) R s)
    (h : ∀ (Q : Value → Shared → Prop) (E : Value → Shared → Prop), Q it s → wpAny (model p w) A (pyIter it) Q E s) :
    codeAny (model p w) A (.compStart (.ListComp elt [⟨t0, i0, [], 0⟩, ⟨t1, i1, [], 0⟩] scope pos) 1 it acc cenv) R s := by
  refine codeAny_of_tree ?_
  show wpAny _ _ ((compStart (.ListComp elt [⟨t0, i0, [], 0⟩, ⟨t1, i1, [], 0⟩] scope pos) 1 it acc cenv).onRaise (fun x => do noteFrame x cenv; standAt theWindowsPlace)) _ _ s
  refine wpAny_notedAt ?_
  unfold compStart
  show wpAny _ _ (ask >>= _) _ _ s
  refine wpAny_bind (wpAny_askSetting (wpAny_ite ?_))
  split
  · first
      | exact wpAny_bind (wpAny_pure (wpAny_pure (And.intro rfl h0)))
      | exact wpAny_pure (And.intro rfl h0)
  · first
      | exact wpAny_bind (wpAny_rule (wpAny_bind (wpAny_standAt (wpAny_bind (h _ _ (wpAny_pure (And.intro rfl h0)))))))
      | (refine wpAny_bind (wpAny_rule ?_); show wpAny _ _ (standAt _ >>= _) _ _ s; exact wpAny_bind (wpAny_standAt (wpAny_bind (h _ _ (wpAny_pure (And.intro rfl h0))))))

theorem range_all {α : Type} (xs : List α) (f : α → D) : ((List.range xs.length).map fun i => match xs[i]? with | some x => [f x] | none => []).flatten = xs.map f := by
  have := range_out xs (fun _ => true) f
  rw [List.filter_eq_self.mpr (by simp)] at this
  simpa using this
theorem range_flat {α : Type} (xs : List α) (f : α → List D) : ((List.range xs.length).map fun i => match xs[i]? with | some x => f x | none => []).flatten = xs.flatMap f := by
  induction xs with
  | nil => rfl
  | cons x r ih =>
    rw [List.length_cons, List.range_succ_eq_map, List.map_cons, List.map_map, List.flatten_cons, List.flatMap_cons]
    have : (List.map ((fun i => match (x :: r)[i]? with | some x => f x | none => []) ∘ Nat.succ) (List.range r.length)) = List.map (fun i => match r[i]? with | some x => f x | none => []) (List.range r.length) := by
      apply List.map_congr_left; intro i _; simp
    rw [this, ih]
    simp

theorem InnT.nest {elt t0 i0 t1 i1 : Expr} {scope : Scope} {cenv : Env} {a : Addr} {ρ : Loc} {sqf : Bool} {α : Type} (ys : List α) (g : α → D) (f : α → D) (hno : ρ.noOwn = true) (hf : cenv.func = none)
    (hi : IterE p w A cenv ρ sqf i1 (ys.map g)) (hs : ∀ x, foldedSetIterable i1 cenv x = pure x)
    (turn : ∀ y ∈ ys, ∃ ρ'', AT p w A cenv ρ t1 (g y) ρ'' ∧ Sub ρ ρ'' ∧ ρ''.noOwn = true ∧ EV p w A cenv ρ'' elt (f y)) :
    InnT p w A cenv a ρ (nestT (.ListComp elt [⟨t0, i0, [], 0⟩, ⟨t1, i1, [], 0⟩] scope pos) 1 i1 (.ref a) cenv) (ys.map f) := fun B s outs k Q E ha hB F hacc hlen kk => by
  unfold nestT
  refine wpAny_bind ?_
  have hh := hi B s (fun it s₁ => wpAny (model p w) A (runOwn (.compStart (.ListComp elt [⟨t0, i0, [], 0⟩, ⟨t1, i1, [], 0⟩] scope pos) 1 it (.ref a) cenv) cenv >>= fun _ => k) Q E s₁) E F fun it s₁ fp sq pr pg St e1 I' hst hfX hfp hsq hpr hpg => ?_
  · refine wpAny_mono hh (fun x s₁ h₁ => ?_) fun _ _ e => e
    exact wpAny_bind (wpAny_standAt (wpAny_bind (wpAny_of_eq (hs x) (wpAny_bind (wpAny_holding h₁)))))
  have I := I' B.X (fun _ h => h) fun _ _ r => r
  have F₁ := F.evo e1
  obtain ⟨zs, ⟨n, hob⟩, rz⟩ := hacc
  have fpL : ¬ fp cenv.locals := fun hb => by
    obtain ⟨m, ⟨o, es, ep, ho, hd, _⟩, _⟩ := F.ns
    rcases hfp _ hb with h | ⟨o', xs, n, h, hd'⟩ | ⟨o', h⟩
    · rw [h] at ho; cases ho
    · rw [h] at ho; cases ho; rw [hd] at hd'; cases hd'
    · rw [F.lnew] at h; cases h
  have fpC : ∀ x c, cenv.cells.lookup x = some c → ¬ pr c := fun x c hc hb => by
    obtain ⟨v, ⟨o, ho, hd⟩, _⟩ := F.cell x c hc
    rw [hpr c hb] at ho; cases ho
  have e0 : A.mark none = A := rfl
  have ho := range_all ys f
  refine wpAny_bind (wpAny_runOwn (codeAny_compStart1 ?_ fun Q E hq => I.self 0 _ _ s₁ Q E hst hq))
  rw [e0]
  refine comp_loop (inn := emitT elt (.ref a) cenv) (outs₀ := outs) ⟨_, _, _, _, rfl⟩ (turn2b _ _ _ _ _ _ _ _ _ _) I hst F₁ ⟨zs, ⟨n, e1.heap _ _ hob⟩, rz.mono e1.seq⟩ ha hB hf hno fpL (fun h => by obtain ⟨o, e⟩ := hfX a ha h; rw [hB] at e; cases e) fpC ?_ ?_ (fun i => match ys[i]? with | some y => [f y] | none => []) ?_ ?_ ?_
  · intro b o e hp
    have := F.keep b o e
    rw [hpr b hp] at this; cases this
  · intro g st e hp
    have := F.kgens g st e
    rw [hpg g hp] at this; cases this
  · rw [List.length_map, ho]; exact hlen
  · intro i d hd
    rw [List.getElem?_map] at hd
    obtain ⟨y, hy, rfl⟩ := Option.map_eq_some_iff.mp hd
    obtain ⟨ρ'', h1, h2, h3, h4⟩ := turn y (List.mem_of_getElem? hy)
    refine ⟨ρ'', h1, h2, h3, true, BVs.nil, fun _ => ?_, fun h => by cases h⟩
    simp only [hy]; exact InnT.emit h3 h4
  · intro s' F' hacc' mv
    rw [List.length_map, ho] at hacc'
    refine kk s' F' hacc' ⟨fun b o h1 h2 e => mv.heap b o (fun h => ?_) (e1.heap b o e), fun g st e => mv.gens g st (fun h => ?_) (e1.gens g st e)⟩
    · rcases h with h | h | h
      · rw [hpr b h] at e; cases e
      · exact h1 h
      · exact h2 h
    · rw [hpg g h] at e; cases e

theorem LoopOk.two {elt t0 i0 t1 i1 : Expr} {sc : Scope} {α β : Type} (xs : List α) (g : α → D) (ys : List β) (g1 : β → D) (f : α → β → D) (hlen : (xs.flatMap fun x => ys.map (f x)).length ≤ lim) {sqf : Bool}
    (hs : ∀ cenv x, foldedSetIterable i1 cenv x = pure x)
    (turn : ∀ cenv C, CEnv sc env C cenv → ∀ x ∈ xs, ∃ ρ1, AT p w A cenv (inner sc ρ) t0 (g x) ρ1 ∧ Sub (inner sc ρ) ρ1 ∧ ρ1.noOwn = true ∧ IterE p w A cenv ρ1 sqf i1 (ys.map g1) ∧
      ∀ y ∈ ys, ∃ ρ2, AT p w A cenv ρ1 t1 (g1 y) ρ2 ∧ Sub ρ1 ρ2 ∧ ρ2.noOwn = true ∧ EV p w A cenv ρ2 elt (f x y)) :
    LoopOk p w A sc env ρ (.ListComp elt [⟨t0, i0, [], 0⟩, ⟨t1, i1, [], 0⟩] sc pos) (xs.map g) (xs.flatMap fun x => ys.map (f x)) := by
  intro cenv C a B s₁ it fp sq pr pg St R CE I hst F₁ hacc ha hB fpL fpA fpC prB pgB hR
  have ho := range_flat xs fun x => ys.map (f x)
  refine comp_loop (inn := nestT (.ListComp elt [⟨t0, i0, [], 0⟩, ⟨t1, i1, [], 0⟩] sc pos) 1 i1 (.ref a) cenv) (outs₀ := []) ⟨_, _, _, _, rfl⟩ (turn2a _ _ _ _ _ _ _ _ _ _) I hst F₁ hacc ha hB CE.func (inner_noOwn _ _) fpL fpA fpC prB pgB (fun i => match xs[i]? with | some x => ys.map (f x) | none => []) ?_ ?_ ?_
  · rw [List.length_map, List.nil_append, ho]; exact hlen
  · intro i d hd
    rw [List.getElem?_map] at hd
    obtain ⟨x, hx, rfl⟩ := Option.map_eq_some_iff.mp hd
    obtain ⟨ρ1, h1, h2, h3, h4, h5⟩ := turn cenv C CE x (List.mem_of_getElem? hx)
    refine ⟨ρ1, h1, h2, h3, true, BVs.nil, fun _ => ?_, fun h => by cases h⟩
    simp only [hx]
    exact InnT.nest ys g1 (f x) h3 CE.func h4 (hs cenv) h5
  · intro s' F' hacc' _
    rw [List.length_map, List.nil_append, ho] at hacc'
    exact hR s' F' hacc'
end
end Mine
end
section
open PySem PySem.W PyProof.Rows PySem.Builtin.Str PySem.StrLaws
set_option Elab.async false
set_option autoImplicit false
set_option linter.unusedVariables false
namespace Mine
section
variable {M : Model} {A : Around} {R : GenEnd} {Y : Protocol} {n : Nat} {s₀ : Shared} {c : Code} {fs : List Frame} {s : Shared} {env : Env}
  {K : Flow → Sem PySem.Fin} {H : Value → Sem PySem.Fin} {gd : Bool → Bool} {lv : List Value → List Value}
theorem seg_If {test : Expr} {body orelse : List Stmt} {pos : Pos}
    (h : wpAny M (A.over c fs) (isTrue test env (eval test env)) (fun b s' => if b = true then Seg M A R Y n s₀ c ((execs body env).wrap K H gd lv) fs s' else Seg M A R Y n s₀ c ((execs orelse env).wrap K H gd lv) fs s') (fun x s' => Seg M A R Y n s₀ c (H x) fs s') s) :
    Seg M A R Y n s₀ c ((exec (.If test body orelse pos) env).wrap K H gd lv) fs s := by
  rw [exec_If]
  refine seg_bind_wrap (wpAny_standAt (seg_bind_wrap (wpAny_mono h (fun b s' hb => ?_) fun _ _ e => e)))
  cases b with
  | true => exact hb
  | false => exact hb
noncomputable def retFor (env : Env) (K : Flow → Sem PySem.Fin) (H : Value → Sem PySem.Fin) (gd : Bool → Bool) (lv : List Value → List Value) : Result → Sem PySem.Fin := fun r => ((match r with | .ok f => (.pure f : Sem Flow) | .error e => .raise e).onRaise fun (x : Value) => do
        if (← field x 1) == Value.none then unsupported "frame.own-activation:exception-without-traceback"
        setFlight x env.frame).wrap K H gd lv
theorem seg_For {target iter : Expr} {body orelse : List Stmt} {pos : Pos} (hs : ∀ x, foldedSetIterable iter env x = pure x)
    (h : wpAny M (A.over c fs) (eval iter env) (fun x s₁ => wpAny M (A.over c fs) (pyIter x) (fun it s₂ => ∀ p, Seg M A R Y n s₀ (.forLoop target it body orelse env) (M.den (.forLoop target it body orelse env))
      (.ret (retFor env K H gd lv) none (gd false) (lv []) c p [] :: fs) s₂) (fun x s' => Seg M A R Y n s₀ c (H x) fs s') s₁) (fun x s' => Seg M A R Y n s₀ c (H x) fs s') s) :
    Seg M A R Y n s₀ c ((exec (.For target iter body orelse pos) env).wrap K H gd lv) fs s := by
  rw [arm_exec_For]
  refine seg_bind_wrap (wpAny_standAt (seg_bind_wrap (wpAny_mono h (fun x s₁ h₁ => ?_) fun _ _ e => e)))
  refine seg_bind_wrap (wpAny_of_eq (hs x) (seg_bind_wrap (wpAny_standAt (seg_bind_wrap (wpAny_holding (wpAny_mono h₁ (fun it s₂ h₂ => ?_) fun _ _ e => e))))))
  exact seg_call h₂
end

section
variable {p : Program} {w : World} {A : Around} {R : GenEnd} {Y : Protocol} {n : Nat} {s₀ : Shared} {fs : List Frame} {s : Shared} {env : Env}
noncomputable def loopK (target : Expr) (it : Value) (body orelse : List Stmt) (env : Env) : Flow → Sem PySem.Fin := fun f => match f with
  | .next | .cont => .pure (.again (.forLoop target it body orelse env))
  | .brk => .pure (.done .next)
  | .ret v => .pure (.done (.ret v))
noncomputable def loopH (env : Env) : Value → Sem PySem.Fin := fun e => (do noteFrame e env; theTreesLotGoes e : Sem Unit).wrap (fun _ => .raise e) .raise id id
theorem seg_forLoop {target : Expr} {it : Value} {body orelse : List Stmt}
    (h : ∀ E', wpAny (model p w) (A.over (.forLoop target it body orelse env) fs) (pyNext it) (fun r s' => match r with
        | none => Seg (model p w) A R Y n s₀ (.forLoop target it body orelse env) (.pure (.again (.block orelse env))) fs s'
        | some v => wpAny (model p w) (A.over (.forLoop target it body orelse env) fs) (letOwnedTupleGo target it v) (fun _ s₂ => wpAny (model p w) (A.over (.forLoop target it body orelse env) fs) (assign target env v)
            (fun _ s₃ => Seg (model p w) A R Y n s₀ (.forLoop target it body orelse env) ((execs body env).wrap (loopK target it body orelse env) (loopH env) id id) fs s₃) E' s₂) E' s') E' s) :
    Seg (model p w) A R Y n s₀ (.forLoop target it body orelse env) ((model p w).den (.forLoop target it body orelse env)) fs s := by
  show Seg _ A R Y n s₀ _ ((forTurn target it body orelse env).onRaise (fun x => do noteFrame x env; theTreesLotGoes x)) fs s
  unfold forTurn
  rw [Sem.onRaise_eq_wrap]
  refine seg_bind_wrap (wpAny_standAt (seg_bind_wrap (wpAny_onRaise (wpAny_mono (h _) (fun r s₁ h₁ => ?_) fun x s' e => wpAny_standAt e))))
  cases r with
  | none => exact h₁
  | some v =>
    refine seg_bind_wrap (wpAny_mono h₁ (fun _ s₂ h₂ => seg_bind_wrap (wpAny_mono h₂ (fun _ s₃ h₃ => ?_) fun _ _ e => e)) fun _ _ e => e)
    rw [Sem.bind_eq_wrap', Sem.wrap_wrap]
    rw [Sem.wrap_congr (execs body env) _ _ (K' := loopK target it body orelse env) (H' := loopH env)
        (fun f => by cases f <;> rfl)
        (fun e => by show (do noteFrame e env; theTreesLotGoes e : Sem Unit).bind (fun _ => .raise e) = _; rw [Sem.bind_eq_wrap]; rfl)]
    exact h₃
end
end Mine
end
section
open PySem PySem.W PyProof.Rows PySem.Builtin.Str PySem.StrLaws
set_option Elab.async false
set_option autoImplicit false
set_option linter.unusedVariables false
namespace Mine
noncomputable def Kb (P : List Addr) (s₀ s : Shared) : Prop := (∀ b o, b ∉ P → s₀.heap.get? b = some o → s.heap.get? b = some o) ∧ ∀ (g : Nat) st, gk s₀ g = some st → gk s g = some st
theorem Kb.refl (P : List Addr) (s : Shared) : Kb P s s := ⟨fun _ _ _ e => e, fun _ _ e => e⟩
theorem Kb.trans {P : List Addr} {s s' s'' : Shared} (x : Kb P s s') (y : Kb P s' s'') : Kb P s s'' := ⟨fun b o h1 e => y.1 b o h1 (x.1 b o h1 e), fun g st e => y.2 g st (x.2 g st e)⟩
theorem Kb.evo {P : List Addr} {s s' : Shared} (e : Evo s s') : Kb P s s' := ⟨fun b o _ h => e.heap b o h, e.gens⟩
theorem Kb.more {P P' : List Addr} {s s' : Shared} (h : ∀ b, b ∈ P → b ∈ P') (x : Kb P s s') : Kb P' s s' := ⟨fun b o hb e => x.1 b o (fun q => hb (h b q)) e, x.2⟩
noncomputable def Live (P : List Addr) (s : Shared) : Prop := ∀ b, b ∈ P → ∃ o, s.heap.get? b = some o ∧ NotSeq o
noncomputable def KF (Bh : Heap) (P : List Addr) (s s' : Shared) : Prop := ∀ b o, (b ∈ P ∨ ∃ o', Bh.get? b = some o') → s.heap.get? b = some o → s'.heap.get? b = some o
noncomputable def pv (L N : Addr) (tl : Bool) (m : Nat) : List Addr := if (m == 0 && tl) = true then [L] else [L, N, N + 1]
theorem pv_sub {L N : Addr} {tl : Bool} {m : Nat} : ∀ b, b ∈ pv L N tl m → b ∈ [L, N, N + 1] := fun b hb => by
  unfold pv at hb
  split at hb
  · rw [List.mem_singleton] at hb; rw [hb]; exact List.mem_cons_self
  · exact hb
noncomputable def flat (ρ : Loc) : Prop := ∀ x sl, ρ.lookup x = some sl → sl.scalar = true
theorem flat.set {ρ : Loc} (h : flat ρ) {x : Str} {d : D} (hd : scalar d = true) : flat (ρ.set x (.val d)) := fun y sl e => by
  rw [Loc.lookup_set] at e
  split at e
  · cases e; exact hd
  · exact h y sl e
structure GE (env : Env) : Prop where
  addr : env.kindOf (Str.ofString "addr") = some .local
  pos : env.kindOf (Str.ofString "pos") = some .local
  escape : env.kindOf (Str.ofString "escape") = some .local
  ch : env.kindOf (Str.ofString "ch") = some .local
  enum : env.kindOf (Str.ofString "enumerate") = some .globalImplicit
  cells : env.cells = []
  co : env.scope.isCoroutine = false
  inter : interactive env = false

structure GI (p : Program) (Bh : Heap) (env : Env) (N : Nat) (x : Str) (t : Tok) (j : Nat) (ρ : Loc) (s : Shared) : Prop where
  fs : FS p ⟨Bh, fun _ => none, []⟩ env ρ s
  flat : flat ρ
  en : ∃ old, IsEnum s.heap (N + 1) N j old
  si : s.heap.IsStrIter N (strIterType x) x t j
  bn : Bh.get? N = none
  be : Bh.get? (N + 1) = none

section
variable {p : Program} {w : World} {A : Around} {env : Env} {ρ : Loc} {Bh : Heap} {s s' : Shared} {N : Nat} {x : Str} {t : Tok} {j : Nat}
theorem hid_flat (hc : env.cells = []) (hf : flat ρ) {b : Addr} (hb : b ∈ hid env ρ) : b = env.locals := by
  rcases mem_hid.mp hb with rfl | ⟨_, x, hx⟩ | ⟨x, xs, hx⟩
  · rfl
  · rw [hc] at hx; cases hx
  · exact absurd (hf _ _ hx) (by simp [Slot.scalar])
theorem FS.carry {g : Nat → Option GX} (F : FS p ⟨Bh, g, []⟩ env ρ s) (hc : env.cells = []) (hf : flat ρ) (k : ∀ b o, (b = env.locals ∨ ∃ o', Bh.get? b = some o') → s.heap.get? b = some o → s'.heap.get? b = some o) : FS p ⟨Bh, fun _ => none, []⟩ env ρ s' where
  wf := F.wf
  keep := fun b o e => k b o (.inr ⟨o, e⟩) (F.keep b o e)
  kgens := fun g st e => by simp at e
  ns := by
    obtain ⟨m, ⟨o, es, ep, ho, r⟩, hv⟩ := F.ns
    exact ⟨m, ⟨o, es, ep, k _ _ (.inl rfl) ho, r⟩, fun x sl hx hk => let ⟨v, h1, h2⟩ := hv x sl hx hk; ⟨v, h1, SlRep.scalar (hf x sl hx) h2⟩⟩
  lnew := F.lnew
  cell := fun x c h => by rw [hc] at h; cases h
  has := F.has
  cnew := fun _ => ⟨fun x c h => (by rw [hc] at h; cases h), by rw [hc]; exact List.Pairwise.nil⟩
  onew := fun x a xs h => absurd (hf _ _ h) (by simp [Slot.scalar])
  alive := fun x a xs h => absurd (hf _ _ h) (by simp [Slot.scalar])
  xok := fun b hb => nomatch hb
  kind := F.kind
  glob := F.glob
  blt := F.blt
theorem GI.evo (h : GI p Bh env N x t j ρ s) (e : Evo s s') : GI p Bh env N x t j ρ s' :=
  ⟨h.fs.evo e, h.flat, let ⟨old, a⟩ := h.en; ⟨old, e.heap _ _ a⟩, let ⟨o, a, b⟩ := h.si; ⟨o, e.heap _ _ a, b⟩, h.bn, h.be⟩
theorem GI.carry (h : GI p Bh env N x t j ρ s) (hc : env.cells = []) (k : KF Bh [env.locals, N, N + 1] s s') : GI p Bh env N x t j ρ s' :=
  ⟨h.fs.carry hc h.flat fun b o hb => k b o (hb.elim (fun q => .inl (by rw [q]; simp)) .inr), h.flat, let ⟨old, a⟩ := h.en; ⟨old, k _ _ (.inl (by simp)) a⟩, let ⟨o, a, b⟩ := h.si; ⟨o, k _ _ (.inl (by simp)) a, b⟩, h.bn, h.be⟩
theorem GI.neN (h : GI p Bh env N x t j ρ s) : N ≠ env.locals := fun q => by
  obtain ⟨m, ⟨o, es, ep, ho, hd, _⟩, _⟩ := h.fs.ns
  obtain ⟨o', ho', _, hd'⟩ := h.si
  rw [q, ho] at ho'; cases ho'; rw [hd] at hd'; cases hd'
theorem GI.neE (h : GI p Bh env N x t j ρ s) : N + 1 ≠ env.locals := fun q => by
  obtain ⟨m, ⟨o, es, ep, ho, hd, _⟩, _⟩ := h.fs.ns
  obtain ⟨old, ho'⟩ := h.en
  rw [q] at ho'
  have ho2 := ho.symm.trans ho'
  cases ho2; cases hd
/-- plain statements within the generator -/
theorem GI.run {ss : List Stmt} {P : Fl → Loc → Prop} {Q : Flow → Shared → Prop} {E : Value → Shared → Prop} (h : GI p Bh env N x t j ρ s) (hc : env.cells = []) (hst : ST p w A env ρ ss P) (hfl : ∀ fl ρ', P fl ρ' → Mine.flat ρ')
    (k : ∀ fl f s' ρ', P fl ρ' → GI p Bh env N x t j ρ' s' → FlRep [] s'.heap fl f → Kb [env.locals] s s' → Q f s') : wpAny (model p w) A (execs ss env) Q E s := by
  refine hst _ s _ _ h.fs.up fun fl f s' ρ' hp F' hf => ?_
  have kk : ∀ b o, b ≠ env.locals → s.heap.get? b = some o → s'.heap.get? b = some o := fun b o hb e => FS.down_keep (B := ⟨Bh, fun _ => none, []⟩) F' e fun hm => hb (hid_flat hc h.flat hm)
  exact k fl f s' ρ' hp ⟨h.fs.down F', hfl _ _ hp, let ⟨old, a⟩ := h.en; ⟨old, kk _ _ h.neE a⟩, let ⟨o, a, b⟩ := h.si; ⟨o, kk _ _ h.neN a, b⟩, h.bn, h.be⟩ hf ⟨fun b o h1 e => kk b o (fun q => h1 (by rw [q]; simp)) e, fun g st e => F'.kgens g st e⟩
end

noncomputable def gY (Bh : Heap) (L N : Addr) (tl : Bool) (ds : List D) : Protocol := fun m s₀ v s' kap =>
  ∃ d tt, ds[ds.length - 1 - m]? = some d ∧ v = .ref tt ∧ ¬ isSeqAt s₀.heap tt ∧ (∀ X, tt ∉ X → Rep X s'.heap d v) ∧ Kb [L, N, N + 1] s₀ s' ∧ Live (pv L N tl m) s' ∧ ∀ s'', KF Bh (pv L N tl m) s' s'' → kap (.send .none) s''
noncomputable def gP (L N : Addr) (tl : Bool) : Nat → Shared → Shared → Prop := fun n s₀ s₁ => n = 0 ∧ Kb (pv L N tl 0) s₀ s₁
noncomputable def gR (L N : Addr) (tl : Bool) : GenEnd := fun n s₀ r s₁ => r = .ok (.ret .none) ∧ gP L N tl n s₀ s₁
theorem GI.live {p : Program} {env : Env} {ρ : Loc} {Bh : Heap} {s : Shared} {N : Nat} {x : Str} {t : Tok} {j : Nat} (h : GI p Bh env N x t j ρ s) : Live [env.locals, N, N + 1] s := by
  intro b hb
  simp only [List.mem_cons, List.not_mem_nil, or_false] at hb
  rcases hb with rfl | rfl | rfl
  · obtain ⟨m, ⟨o, es, ep, ho, hd, _⟩, _⟩ := h.fs.ns
    exact ⟨o, ho, fun xs n e => by rw [hd] at e; cases e⟩
  · obtain ⟨o, ho, _, hd⟩ := h.si
    exact ⟨o, ho, fun xs n e => by rw [hd] at e; cases e⟩
  · obtain ⟨old, e⟩ := h.en
    exact ⟨_, e, fun xs n e => by cases e⟩
theorem Live.notSeq {P : List Addr} {s : Shared} (h : Live P s) : ∀ b ∈ P, ¬ isSeqAt s.heap b := fun b hb ⟨o, xs, n, e, hd⟩ => by
  obtain ⟨o', e', hn⟩ := h b hb
  rw [e] at e'; cases e'; exact hn _ _ hd

section
variable {p : Program} {w : World} {A : Around} {env : Env} {ρ : Loc} {Bh : Heap} {s s₀ : Shared} {N : Nat} {tl : Bool} {n : Nat} {ds : List D} {c : Code} {fs : List Frame} {K : Flow → Sem PySem.Fin} {H : Value → Sem PySem.Fin} {gd : Bool → Bool} {lv : List Value → List Value}
theorem gen_yield {e1 e2 : Expr} {i : Int} {l : List Nat} {tk : Nat} {tp yp pos : Pos} (J : Shared → Prop) (hJ : ∀ s, J s → FS p ⟨Bh, fun _ => none, []⟩ env ρ s) (hev : ∀ s s', J s → Evo s s' → J s') (hca : ∀ s s', J s → KF Bh (pv env.locals N tl n) s s' → J s') (hlv : ∀ s, J s → Live (pv env.locals N tl n) s)
    (G : GE env) (hfs : splitAtGen fs = none) (hgd : gd false = false) (hfg : fs.any Frame.guarded = false) (h : J s) (kb : Kb [env.locals, N, N + 1] s₀ s) (hs0 : ∀ b ∈ [env.locals, N, N + 1], ¬ isSeqAt s₀.heap b)
    (h1 : EV p w (A.over c fs) env ρ e1 (.int i)) (h2 : EV p w (A.over c fs) env ρ e2 (.str l)) (hd : ds[ds.length - 1 - n]? = some (.tup [.int i, .str l])) (hs1 : starEach [e1, e2] env = (false, eval e1 env) :: starEach [e2] env) (hs2 : starEach [e2] env = (false, eval e2 env) :: starEach [] env)
    (k : ∀ s'', J s'' → Seg (model p w) A (gR env.locals N tl) (gY Bh env.locals N tl ds) n s'' c (K .next) fs s'') :
    Seg (model p w) A (gR env.locals N tl) (gY Bh env.locals N tl ds) (n + 1) s₀ c ((exec (.Expr (.Yield (some (.Tuple [e1, e2] tk tp)) yp) pos) env).wrap K H gd lv) fs s := by
  refine seg_Expr_Yield hfs hgd hfg ?_ G.co G.inter
  refine wpAny_Tuple ((EVL.cons h1 (EVL.cons h2 EVL.nil hs2) hs1) _ tp s _ _ (hJ s h) fun vs s1 e1 r1 => ⟨by rw [r1.length]; rw [sizeLine_eq]; exact (by decide : 2 ≤ 16777216), ?_⟩)
  intro kap hkap
  have ev : Evo s { s1 with heap := s1.heap.push { cls := .type "tuple", data := .seq vs.toArray } } := e1.trans (Evo.push s1 _ s1.toks)
  have h' := hev _ _ h ev
  have fr : s1.heap.get? s1.heap.objs.size = none := by
    cases q : s1.heap.get? s1.heap.objs.size with
    | none => rfl
    | some o => exact absurd (Heap.lt_size q) (Nat.lt_irrefl _)
  refine ⟨_, s1.heap.objs.size, hd, rfl, ?_, fun X hX => ?_, kb.trans (Kb.evo ev), hlv _ h', fun s'' hk => hkap .none s'' (k s'' (hca _ _ h' hk))⟩
  · intro hq
    by_cases hm : s1.heap.objs.size ∈ [env.locals, N, N + 1]
    · exact hs0 _ hm hq
    · obtain ⟨o, xs, n', e, hd'⟩ := hq
      have := e1.heap _ _ (kb.1 _ o hm e)
      rw [fr] at this; cases this
  · obtain ⟨v1, _, rfl, ra, v2, _, rfl, rb, rfl⟩ := r1
    exact ⟨(by decide : 2 ≤ lim), _, _, rfl, hX, ⟨_, Heap.get?_push_size _ rfl, rfl, _, rfl⟩, v1, _, rfl, ra, v2, _, rfl, rb, rfl⟩
end
end Mine
end
section
open PySem PySem.W PyProof.Rows PySem.Builtin.Str PySem.StrLaws
set_option Elab.async false
set_option autoImplicit false
set_option linter.unusedVariables false
namespace Mine
noncomputable def escG : Int → Bool → List Nat → List (Int × List Nat)
  | i, esc, [] => if esc then [(i - 1, [92])] else []
  | i, true, c :: r => (i, [92, c]) :: escG (i + 1) false r
  | i, false, c :: r => if c = 92 then escG (i + 1) true r else (i, [c]) :: escG (i + 1) false r
noncomputable def uD (q : Int × List Nat) : D := .tup [.int q.1, .str q.2]
noncomputable def escD (i : Int) (esc : Bool) (l : List Nat) : List D := (escG i esc l).map uD

section
variable {p : Program} {w : World} {A : Around}
theorem drawsAny (hh : A.handled = none) (N : Addr) (x : Str) (t : Tok) : Draws p w A N [N] x.cps.size (fun i v => ∃ c u, x.cps[i]? = some c ∧ v = .str ⟨#[c]⟩ u) (fun i h => h.IsStrIter N (strIterType x) x t i) := by
  unfold strIterType
  split
  · exact Draws.strAscii hh N x t
  · exact Draws.strWide hh N x t

noncomputable abbrev sPos : Str := Str.ofString "pos"
noncomputable abbrev sEsc : Str := Str.ofString "escape"
noncomputable abbrev sCh : Str := Str.ofString "ch"
noncomputable abbrev sBs : Str := Str.ofString "\\"
theorem lkEP : (sEsc = sPos) = False := by simp only [eq_iff_iff, iff_false]; decide +kernel
theorem lkEC : (sEsc = sCh) = False := by simp only [eq_iff_iff, iff_false]; decide +kernel
theorem lkPC : (sPos = sCh) = False := by simp only [eq_iff_iff, iff_false]; decide +kernel
theorem lkPE : (sPos = sEsc) = False := by simp only [eq_iff_iff, iff_false]; decide +kernel

/-- what the loop keeps of the names -/
structure GL (i : Int) (esc : Bool) (ρ : Loc) : Prop where
  fl : flat ρ
  es : ρ.lookup sEsc = some (.val (.bool esc))
  ps : esc = true → ρ.lookup sPos = some (.val (.int (i - 1)))

theorem EV.bs {env : Env} {ρ : Loc} {k : Nat} {pos : Pos} : EV p w A env ρ (.Constant (.str sBs) k pos) (.str [92]) := EV.cstr [92] k (by decide +kernel) (by decide)
theorem EV.val {env : Env} {ρ : Loc} {x : Str} {d : D} {pos : Pos} (h : ρ.lookup x = some (.val d)) (hk : env.kindOf x = some .local) (hd : (x == ("__debug__" : Str)) = false) : EV p w A env ρ (.Name x pos) d :=
  EV.name (sl := .val d) h (.inl hk) hd

noncomputable def endEsc : Bool → List Nat → Bool
  | esc, [] => esc
  | true, _ :: r => endEsc false r
  | false, c :: r => if c = 92 then endEsc true r else endEsc false r
theorem endEsc_pos : ∀ (r : List Nat) (i : Int) (esc : Bool), endEsc esc r = true → 0 < (escD i esc r).length
  | [], i, esc, h => by
    have : esc = true := h
    subst this; simp [escD, escG]
  | c :: r, i, true, h => by unfold escD escG; simp
  | c :: r, i, false, h => by
    unfold endEsc at h
    unfold escD escG
    split at h
    · rename_i hc; rw [if_pos hc]; exact endEsc_pos r (i + 1) true h
    · rename_i hc; rw [if_neg hc]; simp
theorem pv_more {L N : Addr} {r : List Nat} {i : Int} {esc : Bool} : pv L N (endEsc esc r) (escD i esc r).length = [L, N, N + 1] := by
  unfold pv
  rw [if_neg]
  intro h
  rw [Bool.and_eq_true] at h
  have := endEsc_pos r i esc h.2
  have h1 : (escD i esc r).length = 0 := by simpa using h.1
  omega

theorem at_last {ds done tail : List D} {d : D} (h : ds = done ++ d :: tail) : ds[ds.length - 1 - tail.length]? = some d := by
  subst h
  have : (done ++ d :: tail).length - 1 - tail.length = done.length := by simp
  rw [this]; simp

theorem gen_loop {env : Env} {Bh : Heap} {N : Nat} {l : List Nat} {t : Tok} {ds : List D} {tl : Bool} {K : Flow → Sem PySem.Fin} {H : Value → Sem PySem.Fin} {c₀ : Code} {pp : Pos}
    {p1 p2 p3 p4 p5 p6 p7 p8 p9 p10 p11 p12 p13 p14 p15 p16 p17 p18 p19 p20 p21 p22 p23 p24 t1 t2 t3 : Pos} (G : GE env) (hA : A.handled = none) (hl : l.length ≤ lim)
    (hend : ∀ ρ s₀ s, (tl = true → ds[ds.length - 1]? = some (uD (l.length - 1, [92]))) → GL l.length tl ρ → FS p ⟨Bh, fun _ => none, []⟩ env ρ s → Kb [env.locals, N, N + 1] s₀ s → (∀ b ∈ [env.locals, N, N + 1], ¬ isSeqAt s₀.heap b) →
      Seg (model p w) A (gR env.locals N tl) (gY Bh env.locals N tl ds) (if tl = true then 1 else 0) s₀ c₀ (K .next) [] s) :
    ∀ (rest pre : List Nat) (esc : Bool) (done : List D) (ρ : Loc) (s₀ s : Shared), l = pre ++ rest → ds = done ++ escD pre.length esc rest → tl = endEsc esc rest → GL pre.length esc ρ → GI p Bh env N ⟨l.toArray⟩ t pre.length ρ s → Kb [env.locals, N, N + 1] s₀ s →
      (∀ b ∈ [env.locals, N, N + 1], ¬ isSeqAt s₀.heap b) →
      Seg (model p w) A (gR env.locals N tl) (gY Bh env.locals N tl ds) (escD pre.length esc rest).length s₀
        (.forLoop (.Tuple [.Name sPos t1, .Name sCh t2] 0 t3) (.ref (N + 1))
          [.If (.Name sEsc p1)
            [.Expr (.Yield (some (.Tuple [.Name sPos p2, .BinOp (.Constant (.str sBs) 0 p3) .Add (.Name sCh p4) p5] 0 p6)) p7) p8, .Assign [.Name sEsc p9] (.Constant (.bool false) 0 p10) p11]
            [.If (.Compare (.Name sCh p12) [.Eq] [.Constant (.str sBs) 0 p13] p14) [.Assign [.Name sEsc p15] (.Constant (.bool true) 0 p16) p17]
              [.Expr (.Yield (some (.Tuple [.Name sPos p18, .Name sCh p19] 0 p20)) p21) p22] p23] p24] [] env)
        ((model p w).den (.forLoop (.Tuple [.Name sPos t1, .Name sCh t2] 0 t3) (.ref (N + 1))
          [.If (.Name sEsc p1)
            [.Expr (.Yield (some (.Tuple [.Name sPos p2, .BinOp (.Constant (.str sBs) 0 p3) .Add (.Name sCh p4) p5] 0 p6)) p7) p8, .Assign [.Name sEsc p9] (.Constant (.bool false) 0 p10) p11]
            [.If (.Compare (.Name sCh p12) [.Eq] [.Constant (.str sBs) 0 p13] p14) [.Assign [.Name sEsc p15] (.Constant (.bool true) 0 p16) p17]
              [.Expr (.Yield (some (.Tuple [.Name sPos p18, .Name sCh p19] 0 p20)) p21) p22] p23] p24] [] env))
        [.ret (retFor env K H id id) none (id false) (id []) c₀ pp []] s := by
  have hOver : ∀ (c : Code) k c' q, (A.over c [Frame.ret k none (id false) (id []) c' q []]).handled = none := fun _ _ _ _ => hA
  have wrE : Wr env sEsc := .inl G.escape
  have DA := fun c k c' q => drawsAny (p := p) (w := w) (A := (A.over c [Frame.ret k none (id false) (id []) c' q []]).in1) (hOver c k c' q) N ⟨l.toArray⟩ t
  intro rest
  induction rest with
  | nil =>
    intro pre esc done ρ s₀ s hle hds htl hgl hgi hkb hs0
    have hpre : pre = l := by rw [hle, List.append_nil]
    subst hpre
    have htl' : tl = esc := htl
    subst htl'
    refine seg_forLoop fun E' => ?_
    obtain ⟨old, hen⟩ := hgi.en
    have hsi := hgi.si
    have hNL := hgi.neN
    refine wpAny_pyNext_enum_endD (DA _ _ _ _) hen (by simpa using hsi) fun h' hx => ?_
    refine seg_again rfl ?_
    show Seg (model p w) A _ _ _ s₀ _ (leafOf (.ok .next)) _ _
    refine seg_leaf (.ok .next) ?_
    show Seg (model p w) A _ _ _ s₀ _ (K .next) _ _
    have hn : (escD pre.length tl []).length = if tl = true then 1 else 0 := by unfold escD escG; cases tl <;> rfl
    rw [hn]
    refine hend ρ s₀ _ (fun h => ?_) hgl (hgi.fs.carry G.cells hgl.fl fun b o hb e => hx b o (fun q => ?_) e) (hkb.trans ⟨fun b o hb e => hx b o (fun q => hb (by rw [q]; simp)) e, fun _ _ e => e⟩) hs0
    · rw [h] at hds
      exact at_last (tail := []) hds
    · rcases hb with hb | ⟨o', hb⟩
      · exact hNL (q.symm.trans hb)
      · rw [q, hgi.bn] at hb; cases hb
  | cons ch r ih =>
    intro pre esc done ρ s₀ s hle hds htl hgl hgi hkb hs0
    have hch : l[pre.length]? = some ch := by rw [hle]; simp
    have hle' : l = (pre ++ [ch]) ++ r := by rw [hle]; simp
    have hplen : ((pre ++ [ch]).length : Int) = pre.length + 1 := by simp
    have hlen : pre.length < l.length := by rw [hle]; simp
    refine seg_forLoop fun E' => ?_
    obtain ⟨old, hen⟩ := hgi.en
    refine wpAny_pyNext_enum_itemD (DA _ _ _ _) hen hgi.si (by simpa using hlen) (Nat.succ_ne_self N) (by simp) fun x h1 tk hPx heo hit htup hsz hkeep => ?_
    obtain ⟨c, u, hc, rfl⟩ := hPx
    have hcc : c = ch := by
      have : l[pre.length]? = some c := by simpa using hc
      rw [hch] at this; cases this; rfl
    subst hcc
    refine wpAny_letOwnedTupleGo_enum heo fun h2 he2 hs2 => ?_
    have hsi2 : h2.IsStrIter N (strIterType ⟨l.toArray⟩) ⟨l.toArray⟩ t (pre.length + 1) := by
      obtain ⟨o, ho, r⟩ := hit
      exact ⟨o, (hs2.2 N (Nat.succ_ne_self N).symm).trans ho, r⟩
    have kp2 : ∀ b o, b ≠ N → b ≠ N + 1 → s.heap.get? b = some o → h2.get? b = some o := fun b o h1 h2 e => (hs2.2 b h2).trans (hkeep b o h2 h1 e)
    have gi2 : GI p Bh env N ⟨l.toArray⟩ t (pre.length + 1) ρ { s with heap := h2, toks := tk + 1 } := by
      refine ⟨hgi.fs.carry G.cells hgl.fl fun b o hb e => kp2 b o (fun q => ?_) (fun q => ?_) e, hgl.fl, ⟨_, by simpa using he2⟩, hsi2, hgi.bn, hgi.be⟩
      · rcases hb with hb | ⟨o', hb⟩
        · exact hgi.neN (q.symm.trans hb)
        · rw [q, hgi.bn] at hb; cases hb
      · rcases hb with hb | ⟨o', hb⟩
        · exact hgi.neE (q.symm.trans hb)
        · rw [q, hgi.be] at hb; cases hb
    have kb2 : Kb [env.locals, N, N + 1] s₀ { s with heap := h2, toks := tk + 1 } := hkb.trans ⟨fun b o hb e => kp2 b o (fun q => hb (by rw [q]; simp)) (fun q => hb (by rw [q]; simp)) e, fun _ _ e => e⟩
    have htup2 : h2.get? s.heap.objs.size = some { cls := .type "tuple", data := .seq #[.int pre.length tk, .str ⟨#[c]⟩ u] } := by
      refine (hs2.2 _ (fun q => ?_)).trans htup
      exact absurd q (Nat.ne_of_gt (Heap.lt_size hen))
    have one : ([c] : List Nat).length ≤ lim := (by decide : 1 ≤ lim)
    have rep : Rep [] h2 (.tup [.int pre.length, .str [c]]) (.ref s.heap.objs.size) := ⟨(by decide : 2 ≤ lim), _, _, rfl, by simp, ⟨_, htup2, rfl, _, rfl⟩, _, _, rfl, ⟨_, rfl⟩, _, _, rfl, ⟨one, _, rfl⟩, rfl⟩
    refine (AT.pair (p := p) (w := w) (k := 0) (d1 := .int pre.length) (d2 := .str [c]) (hOver _ _ _ _) rfl (.inl G.pos) (.inl G.ch)) _ _ _ _ _ gi2.fs.up rep fun s3 F3 => ?_
    have fl3 : flat ((ρ.set sPos (.val (.int pre.length))).set sCh (.val (.str [c]))) := (hgl.fl.set rfl).set rfl
    have kk3 : ∀ b o, b ≠ env.locals → h2.get? b = some o → s3.heap.get? b = some o := fun b o hb e => FS.down_keep (B := ⟨Bh, fun _ => none, []⟩) F3 e fun hm => hb (hid_flat G.cells hgl.fl hm)
    have gi3 : GI p Bh env N ⟨l.toArray⟩ t (pre.length + 1) ((ρ.set sPos (.val (.int pre.length))).set sCh (.val (.str [c]))) s3 :=
      ⟨gi2.fs.down F3, fl3, let ⟨old, a⟩ := gi2.en; ⟨old, kk3 _ _ gi2.neE a⟩, let ⟨o, a, b⟩ := gi2.si; ⟨o, kk3 _ _ gi2.neN a, b⟩, hgi.bn, hgi.be⟩
    have kb3 : Kb [env.locals, N, N + 1] s₀ s3 := kb2.trans ⟨fun b o hb e => kk3 b o (fun q => hb (by rw [q]; simp)) e, fun g st e => F3.kgens g st e⟩
    generalize hρ : (ρ.set sPos (.val (.int pre.length))).set sCh (.val (.str [c])) = ρ3 at fl3 gi3
    have lkE : ρ3.lookup sEsc = some (.val (.bool esc)) := by
      rw [← hρ, Loc.lookup_set, Loc.lookup_set]; simp only [lkEP, lkEC, if_false]; exact hgl.es
    have lkP : ρ3.lookup sPos = some (.val (.int pre.length)) := by
      rw [← hρ, Loc.lookup_set, Loc.lookup_set]; simp only [lkPC, if_false, if_true]
    have lkC : ρ3.lookup sCh = some (.val (.str [c])) := by
      rw [← hρ, Loc.lookup_set]; simp only [if_true]
    have next : ∀ (esc' : Bool) (done' : List D) (ρ' : Loc) (s₁ s' : Shared), ds = done' ++ escD (pre.length + 1) esc' r → tl = endEsc esc' r → ρ'.lookup sEsc = some (.val (.bool esc')) → (ρ'.lookup sPos = some (.val (.int pre.length))) → GI p Bh env N ⟨l.toArray⟩ t (pre.length + 1) ρ' s' →
        Kb [env.locals, N, N + 1] s₁ s' → (∀ b ∈ [env.locals, N, N + 1], ¬ isSeqAt s₁.heap b) → _ := fun esc' done' ρ' s₁ s' e1 e2 e3 e4 e5 e6 e7 =>
      ih (pre ++ [c]) esc' done' ρ' s₁ s' hle' (by rw [hplen]; exact e1) e2 ⟨e5.flat, e3, fun _ => by rw [e4, hplen]; simp⟩ (by simpa using e5) e6 e7
    simp only [hplen] at next
    refine seg_execs_cons (seg_If ?_)
    refine (BV.plain (EV.val lkE G.escape (by decide)) (TruthV.bool esc)) _ _ _ _ gi3.fs fun s4 e4 => ?_
    have gi4 := gi3.evo e4
    have kb4 := kb3.trans (Kb.evo e4)
    cases esc with
    | true =>
      rw [if_pos rfl]
      have hds' : ds = (done ++ [uD (pre.length, [92, c])]) ++ escD (pre.length + 1) false r := by rw [hds]; unfold escD; rw [escG]; simp
      have hn : (escD pre.length true (c :: r)).length = (escD (pre.length + 1) false r).length + 1 := by unfold escD; rw [escG]; simp
      have htl2 : tl = endEsc false r := htl
      rw [hn]
      refine seg_execs_cons (gen_yield (GI p Bh env N ⟨l.toArray⟩ t (pre.length + 1) ρ3) (fun s h => h.fs) (fun s s' h e => h.evo e) ?_ ?_ G rfl rfl rfl gi4 kb4 hs0 (EV.val lkP G.pos (by decide)) (EV.binop EV.bs (EV.val lkC G.ch (by decide)) (BinV.add_str [92] [c] (by decide : 2 ≤ lim))) ?_ rfl rfl fun s5 gi5 => ?_)
      · intro s s' h hk; rw [htl2, pv_more] at hk; exact h.carry G.cells hk
      · intro s h; rw [htl2, pv_more]; exact h.live
      · exact at_last (done := done) (d := uD (pre.length, [92, c])) (by rw [hds']; simp)
      · refine seg_wrap (gi5.run (P := fun fl ρ' => fl = .next ∧ ρ' = ρ3.set sEsc (.val (.bool false))) G.cells (ST.cons (ST1.assign (EV.cbool false 0) (ST.nil ⟨rfl, rfl⟩) wrE)) (fun fl ρ' h => by rw [h.2]; exact fl3.set rfl) fun fl f s6 ρ6 hp gi6 hf kb6 => ?_)
        obtain ⟨rfl, rfl⟩ := hp
        cases hf
        refine seg_again rfl ?_
        refine next false _ _ s5 s6 hds' htl2 ?_ ?_ gi6 (kb6.more (by simp)) gi5.live.notSeq
        · rw [Loc.lookup_set]; simp
        · rw [Loc.lookup_set]; simp only [lkPE, if_false]; exact lkP
    | false =>
      rw [if_neg Bool.false_ne_true]
      refine seg_execs_cons (seg_If ?_)
      refine (BV.cmp (EV.val lkC G.ch (by decide)) EV.bs (CmpV.eq_str [c] [92])) _ _ _ _ gi4.fs fun s5 e5 => ?_
      have gi5 := gi4.evo e5
      have kb5 := kb4.trans (Kb.evo e5)
      by_cases hc92 : c = 92
      · subst hc92
        rw [if_pos (by decide)]
        have hds' : escD pre.length false (92 :: r) = escD (pre.length + 1) true r := by unfold escD; rw [escG, if_pos rfl]
        have htl2 : tl = endEsc true r := by rw [htl]; unfold endEsc; rw [if_pos rfl]; cases r <;> rfl
        rw [hds'] at hds ⊢
        refine seg_wrap (gi5.run (P := fun fl ρ' => fl = .next ∧ ρ' = ρ3.set sEsc (.val (.bool true))) G.cells (ST.cons (ST1.assign (EV.cbool true 0) (ST.nil ⟨rfl, rfl⟩) wrE)) (fun fl ρ' h => by rw [h.2]; exact fl3.set rfl) fun fl f s6 ρ6 hp gi6 hf kb6 => ?_)
        obtain ⟨rfl, rfl⟩ := hp
        cases hf
        refine seg_execs_nil ?_
        refine seg_again rfl ?_
        refine next true _ _ s₀ s6 hds htl2 ?_ ?_ gi6 (kb5.trans (kb6.more (by simp))) hs0
        · rw [Loc.lookup_set]; simp
        · rw [Loc.lookup_set]; simp only [lkPE, if_false]; exact lkP
      · have hcb : decide (([c] : List Nat) = [92]) = false := by simpa using hc92
        rw [hcb, if_neg Bool.false_ne_true]
        have hds2 : escD pre.length false (c :: r) = uD (pre.length, [c]) :: escD (pre.length + 1) false r := by unfold escD; rw [escG, if_neg hc92]; rfl
        have hds' : ds = (done ++ [uD (pre.length, [c])]) ++ escD (pre.length + 1) false r := by rw [hds, hds2]; simp
        have hn : (escD pre.length false (c :: r)).length = (escD (pre.length + 1) false r).length + 1 := by rw [hds2]; rfl
        have htl2 : tl = endEsc false r := by rw [htl]; conv => lhs; unfold endEsc
                                              rw [if_neg hc92]
        rw [hn]
        refine seg_execs_cons (gen_yield (GI p Bh env N ⟨l.toArray⟩ t (pre.length + 1) ρ3) (fun s h => h.fs) (fun s s' h e => h.evo e) ?_ ?_ G rfl rfl rfl gi5 kb5 hs0 (EV.val lkP G.pos (by decide)) (EV.val lkC G.ch (by decide)) ?_ rfl rfl fun s6 gi6 => ?_)
        · intro s s' h hk; rw [htl2, pv_more] at hk; exact h.carry G.cells hk
        · intro s h; rw [htl2, pv_more]; exact h.live
        · exact at_last (done := done) (d := uD (pre.length, [c])) (by rw [hds']; simp)
        · refine seg_execs_nil ?_
          refine seg_execs_nil ?_
          refine seg_again rfl ?_
          exact next false _ _ s6 s6 hds' htl2 lkE lkP gi6 (Kb.refl _ _) gi6.live.notSeq
end
end Mine
end
section
open PySem PySem.W PyProof.Rows PySem.Builtin.Str PySem.StrLaws
set_option Elab.async false
set_option autoImplicit false
set_option linter.unusedVariables false
namespace Mine
section
variable {w : World} {A : Around} {env : Env} {ρ : Loc} {Bh : Heap} {s : Shared}
theorem FS.storeK {p : Program} {x : Str} {d : D} {v : Value} {Q : Unit → Shared → Prop} {E : Value → Shared → Prop} (F : FS p ⟨Bh, fun _ => none, []⟩ env ρ s) (hc : env.cells = []) (hf : flat ρ) (hk : env.kindOf x = some .local)
    (hr : Rep [] s.heap d v) (k : ∀ s', s'.heap.objs.size = s.heap.objs.size → FS p ⟨Bh, fun _ => none, []⟩ env (ρ.set x (.val d)) s' → Kb [env.locals] s s' → Q () s') : wpAny (model p w) A (storeName env x v) Q E s :=
  F.up.storeZ (sl := .val d) (.inl hk) hr (fun a xs e => by cases e) fun s' hz F' => k s' hz (F.down F') ⟨fun b o hb e => FS.down_keep (B := ⟨Bh, fun _ => none, []⟩) F' e fun hm => hb (by rw [hid_flat hc hf hm]; simp), fun g st e => F'.kgens g st e⟩

theorem gen_first {l : List Nat} (G : GE env) (hA : A.handled = none) (hl : l.length ≤ lim) (F : FS pw ⟨Bh, fun _ => none, []⟩ env [(Str.ofString "addr", .val (.str l))] s) :
    Seg (model pw w) A (gR env.locals s.heap.objs.size (endEsc false l)) (gY Bh env.locals s.heap.objs.size (endEsc false l) (escD 0 false l)) (escD 0 false l).length s (.func (defAt 4).body env) ((model pw w).den (.func (defAt 4).body env)) [] s := by
  have hA0 : ∀ c, (A.over c []).handled = none := fun _ => hA
  have fl0 : flat [(Str.ofString "addr", .val (.str l))] := fun y sl e => by
    rw [List.lookup_cons] at e
    split at e
    · cases e; rfl
    · cases e
  have fresh : ∀ b, s.heap.objs.size ≤ b → s.heap.get? b = none := fun b hb => by
    cases q : s.heap.get? b with
    | none => rfl
    | some o => exact absurd (Heap.lt_size q) (Nat.not_lt.mpr hb)
  have bfresh : ∀ b, s.heap.objs.size ≤ b → Bh.get? b = none := fun b hb => by
    cases q : Bh.get? b with
    | none => rfl
    | some o => have := F.keep b o q; rw [fresh b hb] at this; cases this
  have hs0 : ∀ b ∈ [env.locals, s.heap.objs.size, s.heap.objs.size + 1], ¬ isSeqAt s.heap b := by
    rintro b hb ⟨o, xs, n, e, hd⟩
    simp only [List.mem_cons, List.not_mem_nil, or_false] at hb
    rcases hb with rfl | rfl | rfl
    · obtain ⟨m, hm, _⟩ := F.ns
      exact dictNotSeq hm e hd
    · rw [fresh _ (Nat.le_refl _)] at e; cases e
    · rw [fresh _ (Nat.le_succ _)] at e; cases e
  refine seg_func ?_
  generalize hdd : (fun f => Sem.pure (PySem.Fin.done (Flow.ret (match f with | Flow.ret v => v | _ => Value.none))) : Flow → Sem PySem.Fin) = K2
  have hK2 : K2 .next = leafOf (.ok (.ret .none)) := by rw [← hdd]; rfl
  generalize (fun e => ((leaving env e).wrap (fun _ => Sem.raise e) Sem.raise id id : Sem PySem.Fin)) = H2
  refine seg_execs_cons (seg_wrap (wpAny_Assign_Name (wpAny_Constant_int (FS.storeK (F.evo (Evo.tok s _)) G.cells fl0 G.pos (d := .int 0) ⟨_, rfl⟩ fun s1 z1 F1 k1 => ?_)) rfl))
  refine seg_execs_cons (seg_wrap (wpAny_Assign_Name (wpAny_Constant_bool (FS.storeK F1 G.cells (fl0.set rfl) G.escape (d := .bool false) rfl fun s2 z2 F2 k2 => ?_)) rfl))
  refine seg_execs_cons (seg_For (fun _ => rfl) ?_)
  have z : s2.heap.objs.size = s.heap.objs.size := z2.trans z1
  have fl2 : flat (Loc.set (Loc.set [(Str.ofString "addr", Slot.val (.str l))] sPos (.val (.int 0))) sEsc (.val (.bool false))) := (fl0.set rfl).set rfl
  have kb2 : Kb [env.locals] s s2 := (Kb.evo (Evo.tok s _)).trans (k1.trans k2)
  refine wpAny_Call_NameR ?_
  obtain ⟨mg, mb, hg, hb, hB, _, _, hn⟩ := wf_none F2.world
  refine Calls.Name_function_global F2.kind G.enum (Calls.loadGlobal_builtin (by rw [F2.glob]; exact hg) hn (by rw [F2.blt]; exact hb) ((hB _ (by decide)).trans (show bootBuiltins (Str.ofString "enumerate") = some (.type "enumerate") by decide +kernel)) ?_) (by decide)
  refine PyProof.Rows.callWith_type rfl (Calls.evalArgs_plain (Calls.spliced_cons (wpAny_Name (LV.name F2 (x := Str.ofString "addr") (sl := .val (.str l)) (by rw [Loc.lookup_set, Loc.lookup_set, if_neg (by decide +kernel), if_neg (by decide +kernel)]; rfl) (.inl G.addr) fun v r => Calls.spliced_nil ?_) (by decide))))
  obtain ⟨_, t, rfl⟩ := r
  refine call_enumerate_str fun h' he hit hsz hk => ?_
  refine wpAny_pyIter_enum he ?_
  rw [z] at he hit ⊢
  intro pp
  have kb3 : Kb [env.locals, s.heap.objs.size, s.heap.objs.size + 1] s { s2 with heap := h' } := Kb.more (P := [env.locals]) (by simp) (kb2.trans ⟨fun b o _ e => hk b o e, fun _ _ e => e⟩)
  have gi : GI pw Bh env s.heap.objs.size ⟨l.toArray⟩ t 0 (Loc.set (Loc.set [(Str.ofString "addr", Slot.val (.str l))] sPos (.val (.int 0))) sEsc (.val (.bool false))) { s2 with heap := h' } :=
    ⟨F2.carry G.cells fl2 fun b o _ e => hk b o e, fl2, ⟨_, he⟩, hit, bfresh _ (Nat.le_refl _), bfresh _ (Nat.le_succ _)⟩
  refine gen_loop (l := l) (t := t) (ds := escD 0 false l) (tl := endEsc false l) G hA hl ?_ l [] false [] _ s _ rfl rfl rfl ⟨fl2, by rw [Loc.lookup_set]; simp, fun h => by cases h⟩ gi kb3 hs0
  intro ρ s₀ s5 hlast hgl F5 kb5 hs5
  refine seg_execs_cons (seg_If ?_)
  refine (BV.plain (EV.val hgl.es G.escape (by decide)) (TruthV.bool _)) _ _ _ _ F5 fun s6 e6 => ?_
  have F6 := F5.evo e6
  have kb6 := kb5.trans (Kb.evo e6)
  cases htl : endEsc false l with
  | true =>
    rw [htl] at hgl hlast
    have hpv : pv env.locals s.heap.objs.size true 0 = [env.locals] := rfl
    rw [if_pos rfl, if_pos rfl]
    refine seg_execs_cons (gen_yield (n := 0) (i := l.length - 1) (l := [92]) (FS pw ⟨Bh, fun _ => none, []⟩ env ρ) (fun s h => h) (fun s s' h e => h.evo e) (fun s s' h hk => ?_) (fun s h => ?_) G rfl rfl rfl F6 kb6 hs5 (EV.val (hgl.ps rfl) G.pos (by decide)) EV.bs ?_ rfl rfl fun s7 F7 => ?_)
    · exact h.carry G.cells hgl.fl fun b o hb e => hk b o (hb.imp_left fun q => by rw [hpv, q]; simp) e
    · intro b hb
      rw [hpv, List.mem_singleton] at hb
      subst hb
      obtain ⟨m, ⟨o, es, ep, ho, hd, _⟩, _⟩ := h.ns
      exact ⟨o, ho, fun xs n e => by rw [hd] at e; cases e⟩
    · exact hlast rfl
    · refine seg_execs_nil (seg_execs_nil ?_)
      rw [hK2]
      exact seg_end _ ⟨rfl, rfl, Kb.refl _ _⟩
  | false =>
    rw [if_neg Bool.false_ne_true, if_neg Bool.false_ne_true]
    refine seg_execs_nil (seg_execs_nil ?_)
    rw [hK2]
    exact seg_end _ ⟨rfl, rfl, kb6⟩
end
end Mine
end
section
open PySem PySem.W PyProof.Rows PySem.Builtin.Str PySem.StrLaws
set_option Elab.async false
set_option autoImplicit false
set_option linter.unusedVariables false
namespace Mine
theorem setGen_ne {s : Shared} {g g' : Nat} {x : GenState} (h : g' ≠ g) : (s.setGen g x).gens[g']? = s.gens[g']? := by
  unfold Shared.setGen
  simp only
  rw [Array.getElem?_setIfInBounds_ne (Ne.symm h)]
theorem gk_setGen {s : Shared} {g g' : Nat} {x : GenState} {st : GX} (h : g' ≠ g + 2) (hx : x.bare = true) (e : gk s g' = some st) : gk (s.setGen g x) g' = some st := by
  match g', h, e with
  | 0, _, e => exact e
  | 1, _, e =>
    have hb : AllBare s.gens := by
      by_cases q : s.gens.all GenState.bare = true
      · exact fun y hy => by have := Array.all_eq_true'.mp q y hy; exact this
      · unfold gk at e; rw [if_neg q] at e; cases e
    have hb' : AllBare (s.setGen g x).gens := GenOnlyQ.bare (g := g) (.inr ⟨GenOnly.setGen s g x, fun y hy => by
      by_cases hlt : g < s.gens.size
      · have := setGen_self (gs := s.gens[g]) (x := x) (s := s) (g := g) (Array.getElem?_eq_getElem hlt)
        rw [this] at hy; cases hy; exact hx
      · exfalso
        rw [Array.getElem?_eq_none (by show (s.gens.setIfInBounds g x).size ≤ g; rw [Array.size_setIfInBounds]; omega)] at hy; cases hy⟩) hb
    have e1 := gk_bare.mpr hb
    rw [e1] at e; cases e
    exact gk_bare.mpr hb'
  | k + 2, h, e =>
    have : k ≠ g := fun q => h (by rw [q])
    show (s.setGen g x).gens[k]?.map GX.gen = some st
    rw [setGen_ne this]; exact e
theorem gk_heap (s : Shared) (h : Heap) (g : Nat) : gk { s with heap := h } g = gk s g := match g with
  | 0 => rfl
  | 1 => rfl
  | _ + 2 => rfl
theorem gk_push {s : Shared} {h : Heap} {t : Nat} {x : GenState} (hx : x.bare = true) : ∀ g st, gk s g = some st → gk { s with gens := s.gens.push x, heap := h, toks := t } g = some st := by
  intro g st e
  match g, e with
  | 0, e => exact e
  | 1, e =>
    have hb : AllBare s.gens := by
      by_cases q : s.gens.all GenState.bare = true
      · exact fun y hy => by have := Array.all_eq_true'.mp q y hy; exact this
      · unfold gk at e; rw [if_neg q] at e; cases e
    rw [gk_bare.mpr hb] at e; cases e
    exact gk_bare.mpr (AllBare.push hb hx)
  | k + 2, e =>
    show (s.gens.push x)[k]?.map GX.gen = some st
    have e' : s.gens[k]?.map GX.gen = some st := e
    rw [Array.getElem?_push, if_neg]
    · exact e'
    · intro q; subst q; rw [Array.getElem?_eq_none (Nat.le_refl _)] at e'; cases e'
/-- an empty StopIteration is made -/
theorem stop_new {M : Model} {A : Around} {Q : Value → Shared → Prop} {E : Value → Shared → Prop} {s : Shared}
    (k : ∀ h' e o, (∀ b ob, s.heap.get? b = some ob → h'.get? b = some ob) → h'.get? e = some o → o.cls = .type "StopIteration" → Q (.ref e) { s with heap := h' }) : wpAny M A (newExc (.type "StopIteration") []) Q E s := by
  unfold newExc newTuple
  exact wpAny_bind (wpAny_newObj_type (wpAny_bind (m := firstArgMember _ _) (wpAny_of_eq (a := Value.none) rfl (wpAny_newObj_type
    (k _ _ _ (fun b ob e => Heap.get?_push_of_some _ (Heap.get?_push_of_some _ e)) (Heap.get?_push_size _ rfl) rfl) (by size_fits)))) (by size_fits))
/-- the generator's own wake: a value, and a state with no cleanup left; or, where the code ends with None, a StopIteration -/
theorem gen_woken {M : Model} {A : Around} {R : GenEnd} {Y : Protocol} {Q : PySem.Fin → Shared → Prop} {E : Value → Shared → Prop} {s : Shared} {a : Addr} {g n : Nat} {gs : GenState} (hA : A.handled = none) (hlim : s.heap.NoLimit) (hroom : A.depth < recursionLimit) (hg : s.heap.IsGen a g) (hgs : s.gens[g]? = some gs)
    (go : gs.Goes M A R Y n (.send .none) (s.setGen g .running))
    (item : ∀ v s₁ gs', gs'.bare = true → Y (n - 1) (s.setGen g .running) v s₁ (fun r' s'' => match n with | 0 => False | m + 1 => gs'.Goes M A R Y m r' s'') → Q (.done (.ret v)) (s₁.setGen g gs'))
    (stop : ∀ r s₁, R n (s.setGen g .running) r s₁ → r = .ok (.ret .none) ∧ ∀ h' e o, (∀ b ob, s₁.heap.get? b = some ob → h'.get? b = some ob) → h'.get? e = some o → o.cls = .type "StopIteration" → E (.ref e) { s₁.setGen g .finished with heap := h' }) :
    wpAny M A (Builtin.Generator.genWake (.ref a) (.send .none)) Q E s := by
  have cont : ∀ {k : GenResult → Sem PySem.Fin}, (∀ v, k (.yielded v) = PySem.ret v) → (∃ jp : PUnit → Sem PySem.Fin, k (.returned .none) = (newExc (.type "StopIteration") [] >>= fun e => raiseNew e >>= jp)) → wpAny M A (.resume g (.send .none) [] k) Q E s := fun h1 ⟨jp, h2⟩ =>
    wpAny_resumeQ hgs go
      (fun r s₁ hr => by
        obtain ⟨rfl, hs⟩ := stop r s₁ hr
        show wpAny M A (_ : Sem PySem.Fin) Q E _
        rw [show (End.ret (.ok (.ret .none)) : PySem.End).result = .returned .none from rfl, h2]
        exact wpAny_bind (stop_new fun h' e o x1 x2 x3 => wpAny_bind (wpAny_raiseNew_none hA (hs h' e o x1 x2 x3))))
      fun v s₁ gs' hb hy => by rw [h1]; exact wpAny_pure (item v s₁ gs' hb hy)
  unfold Builtin.Generator.genWake
  refine wpAny_bind (wpAny_holding (wpAny_genNumber hg (wpAny_bind (wpAny_genState hgs ?_))))
  cases gs with
  | running => exact go.elim
  | finished => exact go.elim
  | fresh c => exact wpAny_bind (wpAny_roomToWake hlim hroom (cont (fun _ => rfl) ⟨_, rfl⟩))
  | suspended x1 x2 x3 x4 x5 x6 => exact wpAny_bind (wpAny_roomToWake hlim hroom (cont (fun _ => rfl) ⟨_, rfl⟩))
/-- the next item of a def's generator -/
theorem next_bare {p : Program} {w : World} {A : Around} {R : GenEnd} {Y : Protocol} {Q : Option Value → Shared → Prop} {E : Value → Shared → Prop} {s : Shared} {a : Addr} {g n : Nat} {gs : GenState} (hA : A.handled = none) (hlim : s.heap.NoLimit) (hroom : A.depth < recursionLimit) (hg : s.heap.IsGen a g) (hgs : s.gens[g]? = some gs)
    (go : gs.Goes (model p w) A.in1 R Y n (.send .none) (s.setGen g .running))
    (item : ∀ v s₁ gs', gs'.bare = true → Y (n - 1) (s.setGen g .running) v s₁ (fun r' s'' => match n with | 0 => False | m + 1 => gs'.Goes (model p w) A.in1 R Y m r' s'') → Q (some v) (s₁.setGen g gs'))
    (stop : ∀ r s₁, R n (s.setGen g .running) r s₁ → r = .ok (.ret .none) ∧ ∀ h', (∀ b ob, s₁.heap.get? b = some ob → h'.get? b = some ob) → Q none { s₁.setGen g .finished with heap := h' }) : wpAny (model p w) A (pyNext (.ref a)) Q E s := by
  unfold pyNext
  refine wpAny_bind (wpAny_attempt (wpAny_callSpecial?_slot (name := Str.ofString "__next__") hg.typeIs slot_gen_next (wpAny_call_entry slot_gen_next hg.typeIs entry_gen_next (gen_woken hA hlim hroom hg hgs go ?_ ?_) (args_gen_next _))))
  · exact fun v s₁ gs' hb hy => ⟨v, rfl, wpAny_pure (item v s₁ gs' hb hy)⟩
  · intro r s₁ hr
    refine ⟨(stop r s₁ hr).1, fun h' e o x1 x2 x3 => ?_⟩
    exact wpAny_bind (wpAny_isInstance (T := "StopIteration") (b := true) ⟨o, x2, x3⟩ isSubtype_stop (wpAny_pure ((stop r s₁ hr).2 h' x1)))
noncomputable def gW (L N : Addr) (tl : Bool) (len i : Nat) : List Addr := if i < len then [L, N, N + 1] else pv L N tl 0
theorem gW_sub {L N : Addr} {tl : Bool} {len i : Nat} : ∀ b, b ∈ gW L N tl len i → b ∈ [L, N, N + 1] := fun b hb => by
  unfold gW at hb
  split at hb
  · exact hb
  · exact pv_sub b hb
structure gSt (w : World) (A : Around) (Bh : Heap) (L a : Addr) (g : Nat) (tl : Bool) (ds : List D) (i : Nat) (fp pr : Addr → Prop) (s : Shared) (pl : List Addr) (gs : GenState) : Prop where
  isGen : s.heap.IsGen a g
  le : i ≤ ds.length
  hpr : pr = fun b => b ∈ pl
  hfp : fp = fun b => b = a ∨ b ∈ pl ∨ ∃ o, Bh.get? b = some o
  live : Live pl s
  hB : ∀ b ∈ pl, Bh.get? b = none
  ha : a ∉ pl
  hL : L ∈ pl
  keep : ∀ b o, Bh.get? b = some o → s.heap.get? b = some o
  hgs : s.gens[g]? = some gs
  go : ∀ s₁, KF Bh pl s s₁ → ∃ N, (∀ b ∈ gW L N tl ds.length i, b ∈ pl ∨ s₁.heap.get? b = none) ∧ gs.Goes (model pw w) A.in1 (gR L N tl) (gY Bh L N tl ds) (ds.length - i) (.send .none) s₁

theorem itr_gen {w : World} {A : Around} {Bh : Heap} {L a : Addr} {g : Nat} {tl : Bool} {ds : List D} {X : List Addr} (hA : Ok 1 A) (W : Wf pw Bh) :
    Itr pw w A X (.ref a) ds (fun b => ∃ o, Bh.get? b = some o) (fun g' => g' = g + 2) (fun i fp pr s => ∃ pl gs, gSt w A Bh L a g tl ds i fp pr s pl gs) := by
  have nolim : ∀ s : Shared, (∀ b o, Bh.get? b = some o → s.heap.get? b = some o) → s.heap.NoLimit := fun s hk => by
    obtain ⟨_, _, _, _, T, _⟩ := W.top
    exact T.nolimit.keeps hk
  have room : A.depth < recursionLimit := by have := hA.2.1; show A.depth < 1000; omega
  have kfset : ∀ {s : Shared} {x : GenState} {pl : List Addr}, KF Bh pl s (s.setGen g x) := fun _ _ _ e => e
  refine ⟨?_, ?_, ?_, ?_, ?_, ?_, ?_, ?_, ?_⟩
  · rintro i d s fp pr Q E hd hX ⟨pl, gs, S⟩ k
    have hi : i < ds.length := by
      rcases Nat.lt_or_ge i ds.length with h | h
      · exact h
      · rw [List.getElem?_eq_none h] at hd; cases hd
    obtain ⟨N, hN, hgo⟩ := S.go _ (kfset (x := .running))
    have hN' : ∀ b ∈ [L, N, N + 1], b ∈ pl ∨ s.heap.get? b = none := fun b hb => hN b (by unfold gW; rw [if_pos hi]; exact hb)
    obtain ⟨m, hm⟩ : ∃ m, ds.length - i = m + 1 := ⟨ds.length - i - 1, by omega⟩
    refine next_bare hA.1 (nolim s S.keep) room S.isGen S.hgs hgo (fun v s₁ gs' hb hy => ?_) (fun r s₁ hr => ⟨hr.1, ?_⟩)
    · rw [hm] at hy
      obtain ⟨d', tt, hd', rfl, hns, rep, kb, lv, kap⟩ := hy
      have hmi : ds.length - 1 - (m + 1 - 1) = i := by omega
      rw [hmi, hd] at hd'; cases hd'
      have m1 : m + 1 - 1 = m := rfl
      rw [m1] at lv kap
      have aliveN : ∀ b ∈ [L, N, N + 1], Bh.get? b = none := fun b hb => by
        rcases hN' b hb with h | h
        · exact S.hB b h
        · cases q : Bh.get? b with
          | none => rfl
          | some o => have := S.keep b o q; rw [h] at this; cases this
      have aN : a ∉ [L, N, N + 1] := fun hb => by
        rcases hN' a hb with h | h
        · exact S.ha h
        · obtain ⟨o, _, _, e, _⟩ := S.isGen
          rw [h] at e; cases e
      have hg1 : s₁.gens[g]? = some .running := gk_gen.mp (kb.2 (g + 2) _ (gk_gen.mpr (setGen_self S.hgs)))
      refine k _ _ (fun b => b = a ∨ b ∈ pv L N tl m ∨ ∃ o, Bh.get? b = some o) (fun b => b ∈ pv L N tl m) (rep X fun h => hns (hX tt h)) ⟨pv L N tl m, gs', ?_, hi, rfl, rfl, lv, fun b hb => aliveN b (pv_sub b hb), fun hb => aN (pv_sub a hb), ?_, ?_, setGen_self hg1, ?_⟩ ⟨?_, ?_⟩ ?_ ?_
      · obtain ⟨o, nm, qn, e, r⟩ := S.isGen
        exact ⟨o, nm, qn, kb.1 a o aN e, r⟩
      · unfold pv; split <;> simp
      · intro b o e
        exact kb.1 b o (fun hb => by rw [aliveN b hb] at e; cases e) (S.keep b o e)
      · intro s₂ hk
        refine ⟨N, fun b hb => .inl ?_, ?_⟩
        · unfold gW at hb
          split at hb
          · rename_i hlt
            have : pv L N tl m = [L, N, N + 1] := by unfold pv; rw [if_neg]; simp; omega
            rw [this]; exact hb
          · rename_i hlt
            have : m = 0 := by omega
            rw [this]; exact hb
        · have := kap s₂ hk
          have e1 : ds.length - (i + 1) = m := by omega
          rw [e1]; exact this
      · intro b o hb e
        refine kb.1 b o (fun h => ?_) e
        rcases hN' b h with h | h
        · exact hb (by rw [S.hpr]; exact h)
        · rw [h] at e; cases e
      · intro g' st hg e
        exact gk_setGen hg hb (kb.2 g' st (gk_setGen hg rfl e))
      · rintro b (rfl | hb | hb)
        · left; rw [S.hfp]; exact .inl rfl
        · rcases hN' b (pv_sub b hb) with h | h
          · left; rw [S.hfp]; exact .inr (.inl h)
          · exact .inr h
        · left; rw [S.hfp]; exact .inr (.inr hb)
      · intro b hb
        rcases hN' b (pv_sub b hb) with h | h
        · left; rw [S.hpr]; exact h
        · exact .inr h
    · have := hr.2.1
      omega
  · rintro s fp pr Q E hX ⟨pl, gs, S⟩ k
    obtain ⟨N, hN, hgo⟩ := S.go _ (kfset (x := .running))
    have hN' : ∀ b ∈ pv L N tl 0, b ∈ pl ∨ s.heap.get? b = none := fun b hb => hN b (by unfold gW; rw [if_neg (Nat.lt_irrefl _)]; exact hb)
    refine next_bare hA.1 (nolim s S.keep) room S.isGen S.hgs hgo (fun v s₁ gs' hb hy => ?_) (fun r s₁ hr => ⟨hr.1, fun h' hk => ?_⟩)
    rotate_left
    have hp := hr.2
    rotate_left
    · rw [Nat.sub_self] at hy
      obtain ⟨_, _, _, _, _, _, _, _, kap⟩ := hy
      exact (kap s₁ fun _ _ _ e => e).elim
    · refine k _ ⟨fun b o hb e => ?_, fun g' st hg e => ?_⟩
      · refine hk b o (hp.2.1 b o (fun h => ?_) e)
        rcases hN' b h with h | h
        · exact hb (by rw [S.hpr]; exact h)
        · rw [h] at e; cases e
      · have q1 : gk (s.setGen g .running) g' = some st := gk_setGen hg rfl e
        have q2 : gk s₁ g' = some st := hp.2.2 g' st q1
        have q3 : gk (s₁.setGen g .finished) g' = some st := gk_setGen hg rfl q2
        exact (gk_heap _ _ _).trans q3
  · rintro i fp pr s s' ⟨pl, gs, S⟩ hf hg
    have hfp : ∀ b, fp b ↔ (b = a ∨ b ∈ pl ∨ ∃ o, Bh.get? b = some o) := fun b => by rw [S.hfp]
    refine ⟨pl, gs, ?_, S.le, S.hpr, S.hfp, ?_, S.hB, S.ha, S.hL, ?_, gk_gen.mp (hg (g + 2) (.gen gs) rfl (gk_gen.mpr S.hgs)), ?_⟩
    · obtain ⟨o, nm, qn, e, r⟩ := S.isGen
      exact ⟨o, nm, qn, hf _ _ ((hfp _).mpr (.inl rfl)) e, r⟩
    · intro b hb
      obtain ⟨o, e, hn⟩ := S.live b hb
      exact ⟨o, hf _ _ ((hfp _).mpr (.inr (.inl hb))) e, hn⟩
    · exact fun b o e => hf _ _ ((hfp _).mpr (.inr (.inr ⟨o, e⟩))) (S.keep b o e)
    · exact fun s₁ hk => S.go s₁ fun b o hb e => hk b o hb (hf b o ((hfp b).mpr (.inr hb)) e)
  · rintro i fp pr s b ⟨pl, gs, S⟩ hb
    rw [S.hfp] at hb
    rcases hb with rfl | hb | ⟨o, hb⟩
    · obtain ⟨o, nm, qn, e, r⟩ := S.isGen; exact ⟨o, e⟩
    · obtain ⟨o, e, _⟩ := S.live b hb; exact ⟨o, e⟩
    · exact ⟨o, S.keep b o hb⟩
  · rintro i fp pr s b ⟨pl, gs, S⟩ hb
    rw [S.hpr] at hb
    exact S.live b hb
  · rintro i fp pr s b ⟨pl, gs, S⟩ hb
    rw [S.hpr] at hb
    rw [S.hfp]; exact .inr (.inl hb)
  · rintro i fp pr s b ⟨pl, gs, S⟩ hb hq
    rw [S.hfp] at hb
    rcases hb with rfl | hb | hb
    · obtain ⟨o, nm, qn, e, _, hd, _⟩ := S.isGen
      obtain ⟨o', xs, n, e', hd'⟩ := hq
      rw [e] at e'; cases e'; rw [hd] at hd'; cases hd'
    · exact (S.live.notSeq b hb hq).elim
    · exact hb
  · rintro i fp pr s target v Q E ⟨pl, gs, S⟩ hq
    obtain ⟨o, nm, qn, e, hc, _⟩ := S.isGen
    exact letGo_plain e hc (by decide) hq
  · rintro i fp pr s Q E ⟨pl, gs, S⟩ hq
    exact wpAny_pyIter_gen S.isGen hq

theorem gen_ready {w : World} {A : Around} {env genv : Env} {ρ : Loc} {l : List Nat} {B : Base} {s s1 s4 : Shared} {Q E : Value → Shared → Prop} {v : Value} {a : Addr} (hA : Ok 1 A) (F : FS pw B env ρ s)
    (k : ∀ it s' fp sq pr pg St, Evo s s' → (∀ X', (∀ b, b ∈ B.X → b ∈ X') → (∀ d v, Rep B.X s'.heap d v → Rep X' s'.heap d v) → Itr pw w A X' it (escD 0 false l) sq pg St) → St 0 fp pr s' → (∀ b, b ∈ B.X → fp b → ∃ o, B.heap.get? b = some o) →
      (∀ b, fp b → s.heap.get? b = none ∨ isSeqAt s.heap b ∨ ∃ o, B.heap.get? b = some o) → (∀ b, sq b → false = true ∨ ∃ o, B.heap.get? b = some o) → (∀ b, pr b → s.heap.get? b = none) → (∀ g : Nat, pg g → gk s g = none) → Q it s')
    (hv : Rep B.X s1.heap (.str l) v) (e1 : Evo s s1) (h1 : genv.scope = (defAt 4).scope) (h2 : genv.locals = s1.heap.objs.size) (h3 : genv.cells = []) (h4 : genv.globals = mainGlobals) (h5 : genv.builtins = builtinsNs)
    (e4 : Evo s1 s4) (hns : s4.heap.Ns s1.heap.objs.size (fun x => [(Str.ofString "addr", v)].reverse.lookup x)) (hg : s4.heap.IsGen a s1.gens.size) (ha : s1.heap.objs.size < a) (hgs : s4.gens[s1.gens.size]? = some (.fresh (.func (defAt 4).body genv))) :
    wpAny (model pw w) A (pyIter (.ref a)) Q E s4 := by
  have e14 := e1.trans e4
  have fresh : ∀ b, s1.heap.objs.size ≤ b → s.heap.get? b = none := fun b hb => by
    cases q : s.heap.get? b with
    | none => rfl
    | some o => exact absurd (Heap.lt_size (e1.heap _ _ q)) (Nat.not_lt.mpr hb)
  have bfresh : ∀ b, s1.heap.objs.size ≤ b → B.heap.get? b = none := fun b hb => by
    cases q : B.heap.get? b with
    | none => rfl
    | some o => have := F.keep b o q; rw [fresh b hb] at this; cases this
  have xfresh : ∀ b, s1.heap.objs.size ≤ b → b ∉ B.X := fun b hb hX => by
    obtain ⟨o, _, _, e, _⟩ := F.xok b hX
    rw [fresh b hb] at e; cases e
  have kd : ∀ x k, (defAt 4).scope.names.lookup x = some k → genv.kindOf x = some k := fun x k e => by unfold Env.kindOf; rw [h1]; exact e
  have G : GE genv := ⟨kd _ _ (by decide +kernel), kd _ _ (by decide +kernel), kd _ _ (by decide +kernel), kd _ _ (by decide +kernel), kd _ _ (by decide +kernel), h3, by rw [h1]; kernel_rfl, by unfold interactive; rw [h1]; kernel_rfl⟩
  have fl : flat [(Str.ofString "addr", Slot.val (.str l))] := fun y sl e => by
    rw [List.lookup_cons] at e
    split at e
    · cases e; rfl
    · cases e
  have hF : FS pw ⟨B.heap, fun _ => none, []⟩ genv [(Str.ofString "addr", Slot.val (.str l))] s4 := by
    refine ⟨F.wf, fun b o e => e14.heap b o (F.keep b o e), (fun g st e => by simp at e), ⟨_, (by rw [h2]; exact hns), fun x sl hx hk => ?_⟩, (by rw [h2]; exact bfresh _ (Nat.le_refl _)), (fun x c hc => by rw [h3] at hc; cases hc), fun x sl hx hk => ?_, fun _ => ⟨(fun x c hc => by rw [h3] at hc; cases hc), (by rw [h3]; exact List.Pairwise.nil)⟩,
      fun x a xs h => absurd (fl _ _ h) (by simp [Slot.scalar]), fun x a xs h => absurd (fl _ _ h) (by simp [Slot.scalar]), (fun b hb => nomatch hb), (by rw [h1]; kernel_rfl), h4, h5⟩
    · rw [List.lookup_cons] at hx
      split at hx
      · rename_i hxx
        cases hx
        refine ⟨v, ?_, hv⟩
        show List.lookup x [(Str.ofString "addr", v)] = some v
        rw [List.lookup_cons, hxx]
      · cases hx
    · exfalso
      rw [List.lookup_cons] at hx
      split at hx
      · rename_i hxx
        have : x = Str.ofString "addr" := beq_iff_eq.mp hxx
        subst this
        rw [G.addr] at hk
        rcases hk with h | h <;> cases h
      · cases hx
  refine wpAny_pyIter_gen hg ?_
  have hl : l.length ≤ lim := hv.1
  have hLs : ∃ o, s4.heap.get? genv.locals = some o ∧ NotSeq o := by
    obtain ⟨o, es, ep, ho, hd, _⟩ := hns
    exact ⟨o, by rw [h2]; exact ho, fun xs n e => by rw [hd] at e; cases e⟩
  have haL : a ≠ genv.locals := by rw [h2]; exact Nat.ne_of_gt ha
  refine k _ s4 _ _ _ _ _ e14 (fun X' _ _ => itr_gen (Bh := B.heap) (L := genv.locals) (a := a) (g := s1.gens.size) (tl := endEsc false l) hA F.wf)
    ⟨[genv.locals], _, hg, Nat.zero_le _, rfl, rfl, ?_, ?_, ?_, by simp, fun b o e => e14.heap b o (F.keep b o e), hgs, fun s₁ hk => ⟨s₁.heap.objs.size, ?_, rfl, ?_⟩⟩ ?_ ?_ (fun b h => .inr h) ?_ ?_
  · intro b hb
    rw [List.mem_singleton] at hb; subst hb; exact hLs
  · intro b hb
    rw [List.mem_singleton] at hb; subst hb; rw [h2]; exact bfresh _ (Nat.le_refl _)
  · intro h
    rw [List.mem_singleton] at h; exact haL h
  · intro b hb
    have hb := gW_sub b hb
    have nofresh : ∀ b, s₁.heap.objs.size ≤ b → s₁.heap.get? b = none := fun b hb => by
      cases q : s₁.heap.get? b with
      | none => rfl
      | some o => exact absurd (Heap.lt_size q) (Nat.not_lt.mpr hb)
    simp only [List.mem_cons, List.not_mem_nil, or_false] at hb
    rcases hb with rfl | rfl | rfl
    · left; simp
    · right; exact nofresh _ (Nat.le_refl _)
    · right; exact nofresh _ (Nat.le_succ _)
  · exact gen_first G hA.1 hl (hF.carry h3 fl fun b o hb e => hk b o (hb.imp_left fun q => by rw [q]; simp) e)
  · rintro b hb (rfl | hb' | hb')
    · exact absurd hb (xfresh _ (Nat.le_of_lt ha))
    · rw [List.mem_singleton, h2] at hb'; subst hb'; exact absurd hb (xfresh _ (Nat.le_refl _))
    · exact hb'
  · rintro b (rfl | hb' | hb')
    · exact .inl (fresh _ (Nat.le_of_lt ha))
    · rw [List.mem_singleton, h2] at hb'; subst hb'; exact .inl (fresh _ (Nat.le_refl _))
    · exact .inr (.inr hb')
  · intro b hb
    have hb' : b ∈ [genv.locals] := hb
    rw [List.mem_singleton, h2] at hb'; subst hb'; exact fresh _ (Nat.le_refl _)
  · rintro g rfl
    cases q : gk s (s1.gens.size + 2) with
    | none => rfl
    | some st =>
      have : s1.gens[s1.gens.size]?.map GX.gen = some st := e1.gens _ _ q
      rw [Array.getElem?_eq_none (Nat.le_refl _)] at this; cases this

theorem IterE.gen {w : World} {A : Around} {env : Env} {ρ : Loc} {pos : Pos} {e : Expr} {l : List Nat} {npos : Pos} (hA : Ok 1 A) (he : EV pw w A env ρ e (.str l)) (hk : env.kindOf (Str.ofString "_iter_escaped_chars") = some .globalImplicit)
    (hs : starEach [e] env = [(false, eval e env)] := by rfl) :
    IterE pw w A env ρ false (.Call (.Name (Str.ofString "_iter_escaped_chars") npos) [e] [] pos) (escD 0 false l) := fun B s Q E F k =>
  wpAny_Call_NameR (by
    obtain ⟨loose, mean, mg, mb, T, _⟩ := F.world.top
    obtain ⟨a, o, pm, code, doc, hm, ho, hdat, hcd⟩ := T.fn _ r_iter
    refine Calls.Name_function_global F.kind hk (Calls.loadGlobal_global (by rw [F.glob]; exact T.g) hm ?_) (by decide)
    refine callWith_function_kw (o := o) (fd := Calls.docDef (defAt 4).name (defAt 4).params (defAt 4).body (defAt 4).scope pm code doc) ?_
    rw [hs]
    refine Calls.evalArgs_plain (Calls.spliced_cons (he B s _ _ F fun v s1 e1 r1 => Calls.spliced_nil ⟨⟨e1.heap _ _ ho, hdat⟩, ?_⟩))
    refine wpAny_call (codeAny_call_generator (body := (defAt 4).body) (by have := hA.2.1; show A.depth < 1000; omega) (e1.heap _ _ ho) hdat (by kernel_rfl) (by kernel_rfl) rfl (hcd.keeps e1.heap) ?_)
    show wpAny _ _ (bindArgs _ ⟨[v], []⟩) _ _ _
    rw [show bindArgs (Calls.docDef (defAt 4).name (defAt 4).params (defAt 4).body (defAt 4).scope pm code doc) ⟨[v], []⟩ = pure [(Str.ofString "addr", v)] from rfl]
    refine wpAny_pure (wpAny_newFunctionEnv (show ∀ x ∈ (defAt 4).scope.names, x.2 ≠ .cell by decide +kernel) (by intro x hx; rw [List.mem_singleton] at hx; subst hx; exact (show (defAt 4).scope.names.lookup (Str.ofString "addr") = some .local by decide +kernel)) (fun h' hns hsb => ⟨(T.nolimit.keeps e1.heap).fresh _ hsb, ?_⟩) (by kernel_rfl))
    dsimp only at hns hsb ⊢
    have hz : h'.objs.size = s1.heap.objs.size + 1 := by rw [hsb.1, Heap.size_push]
    have hk1 : ∀ b o, s1.heap.get? b = some o → h'.get? b = some o := fun b o e => hsb.extBut b o (Nat.ne_of_lt (Heap.lt_size e)) (Heap.get?_push_of_some _ e)
    refine gen_ready (genv := newEnv (defAt 4).scope s1.heap.objs.size mainGlobals [] ((Calls.docDef (defAt 4).name (defAt 4).params (defAt 4).body (defAt 4).scope pm code doc).qualname ++ Str.ofString ".<locals>.") (some a) (Calls.docDef (defAt 4).name (defAt 4).params (defAt 4).body (defAt 4).scope pm code doc).code none builtinsNs) hA F k r1 e1 rfl rfl rfl rfl rfl ⟨fun b o e => Heap.get?_push_of_some _ (hk1 b o e), gk_push rfl⟩ (hns.push _) ⟨_, _, _, Heap.get?_push_size _ rfl, rfl, rfl, rfl⟩ (by rw [hz]; exact Nat.lt_succ_self _) ?_
    show (s1.gens.push _)[s1.gens.size]? = _
    rw [Array.getElem?_push, if_pos rfl]; rfl)
end Mine
end
section
open PySem PySem.W PyProof.Rows PySem.Builtin.Str PySem.StrLaws
set_option Elab.async false
set_option autoImplicit false
set_option linter.unusedVariables false
namespace Mine
section
variable {p : Program} {w : World} {A : Around} {env : Env} {ρ : Loc} {pos : Pos}
theorem ST1.swap2 {x y : Str} {p1 p2 tpos : Pos} {k : Nat} {value : Expr} {d1 d2 : D} {P : Fl → Loc → Prop} (hA : A.handled = none) (he : EV p w A env ρ value (.tup [d1, d2])) (hs1 : scalar d1 = true) (hs2 : scalar d2 = true) (hx : Wr env x) (hy : Wr env y)
    (hP : P .next ((ρ.set y (.val d2)).set x (.val d1)))
    (hs : swapsWithSole [.Tuple [.Name x p1, .Name y p2] k tpos] value pos.line env = pure false) (hw : swappedStores [.Tuple [.Name x p1, .Name y p2] k tpos] value env = pure (some [x, y])) :
    ST1 p w A env ρ (.Assign [.Tuple [.Name x p1, .Name y p2] k tpos] value pos) P := fun B s Q E F kk => by
  refine Assign_Tuple_swapped (names := [x, y]) (he B s _ _ F fun v s1 e1 r1 => ?_) hs hw
  obtain ⟨hl, a, vs, rfl, hax, hT, v1, _, rfl, r1, v2, _, rfl, r2, rfl⟩ := r1
  refine unpackItems_tuple (items := #[v1, v2]) hA hT fun h' hext => ?_
  have e2 : Evo s1 { s1 with heap := h' } := ⟨fun b o e => hext b o (Nat.ne_of_lt (Heap.lt_size e)) e, fun _ _ e => e⟩
  show wpAny _ _ (assignInOrder [bindName env y, bindName env x] [v2, v1]) _ _ _
  refine wpAny_bind (wpAny_holding (wpAny_bindName (FS.store (sl := .val d2) (F.evo (e1.trans e2)) hy (Rep.scalar hs2 r2) (fun a xs e => by cases e) fun s2 F2 => ?_)))
  refine wpAny_bind (wpAny_holding (wpAny_bindName (FS.store (sl := .val d1) F2 hx (Rep.scalar hs1 r1) (fun a xs e => by cases e) fun s3 F3 => ?_)))
  exact wpAny_pure (kk .next _ s3 _ hP F3 rfl)
end

theorem swp {env : Env} {x y : Str} {p1 p2 tpos vp : Pos} {k k2 : Nat} {v1 v2 : Expr} (hb : env.blockKind = .function) (hx : env.kindOf x = some .local) (hy : env.kindOf y = some .local) (hne : (y == x) = false) (hl : (p2.line == p1.line) = true)
    (hs : ([v1, v2].any fun | .Starred .. => true | _ => false) = false) (hf : [v1, v2].all (foldedForSure 8) = false) (hc : [v1, v2].all (constantsAlone 8) = false) :
    swappedStores [.Tuple [.Name x p1, .Name y p2] k tpos] (.Tuple [v1, v2] k2 vp) env = pure (some [x, y]) := by
  have hl' : p2.line = p1.line := by simpa using hl
  have hne' : ¬ y = x := by simpa using hne
  unfold swappedStores
  simp [hb, hx, hy, Expr.pos, hl']
  rw [if_neg (by intro h; simp only [List.any_cons, List.any_nil, Bool.or_false] at hs; rw [Bool.or_eq_false_iff] at hs; exact h.elim (fun h => absurd (h.symm.trans hs.1) (by decide)) fun h => absurd (h.symm.trans hs.2) (by decide))]
  rw [if_pos (by simp [List.eraseDups_cons, hne])]
  rw [if_neg (by intro h; simp [h.1, h.2] at hf), if_neg (by intro h; simp [h.1, h.2] at hc)]
theorem EV.nv {p : Program} {w : World} {A : Around} {env : Env} {ρ : Loc} {x : Str} {d : D} {pos : Pos} (h : ρ.lookup x = some (.val d)) (hk : Rd env x) (hd : (x == ("__debug__" : Str)) = false := by decide) : EV p w A env ρ (.Name x pos) d := EV.name h hk hd
theorem EV.no {p : Program} {w : World} {A : Around} {env : Env} {ρ : Loc} {x : Str} {a : Addr} {xs : List D} {pos : Pos} (h : ρ.lookup x = some (.own a xs)) (hk : Rd env x) (hd : (x == ("__debug__" : Str)) = false := by decide) : EV p w A env ρ (.Name x pos) (.lst xs) := EV.name h hk hd
noncomputable def dots : List Nat := [46, 46, 46]
noncomputable def emLoop (got : List Nat) (en : Nat) : Nat → List (List Nat) → Bool
  | _, [] => true
  | st, w :: r => if findB got w st en < 0 then false else emLoop got en ((findB got w st en).toNat + w.length) r
noncomputable def emTail (got : List Nat) (st : Nat) (ws : List (List Nat)) : Bool :=
  if ws.getLastD [] = [] then (if got.length < st then false else emLoop got got.length st ws)
  else if ewB got (ws.getLastD []) then (if got.length - (ws.getLastD []).length < st then false else emLoop got (got.length - (ws.getLastD []).length) st ws.dropLast) else false
noncomputable def emP (want got : List Nat) : Bool :=
  if inStr dots want then
    (if (splitD want dots).headD [] = [] then emTail got 0 (splitD want dots)
     else if swB got ((splitD want dots).headD []) then emTail got ((splitD want dots).headD []).length (splitD want dots).tail else false)
  else decide (want = got)

theorem map_eraseIdx {α β : Type} (f : α → β) : ∀ (l : List α) (i : Nat), (l.eraseIdx i).map f = (l.map f).eraseIdx i
  | [], _ => rfl
  | _ :: _, 0 => rfl
  | a :: l, i + 1 => by rw [List.eraseIdx_cons_succ, List.map_cons, List.map_cons, List.eraseIdx_cons_succ, map_eraseIdx f l i]
theorem em_name : (defAt 2).name = Str.ofString "_ellipsis_match" := by kernel_rfl
section
variable {w : World}
theorem fn_mul {a b : Int} (h : IntMulOk a b) : FN pw w 1 (Str.ofString "mul") [.int a, .int b] (.int (a * b)) := by
  refine FN.intro (n := 0) (rc := defAt 9) (names := [Str.ofString "a", Str.ofString "b"]) r_mul ?_ rfl (by decide +kernel) (by decide +kernel) (by kernel_rfl) (by kernel_rfl) (by kernel_rfl) ?_
  · intro pm code doc vs hv
    match vs, hv with
    | [a, b], _ => rfl
  · intro A env hA FE
    conv => arg 6; whnf
    exact ST.cons (ST1.ret (EV.binop (EV.name rfl (FE.rd (by decide +kernel))) (EV.name rfl (FE.rd (by decide +kernel))) (BinV.mul_int a b h)) rfl)
theorem fn_neg {a : Int} : FN pw w 1 (Str.ofString "neg") [.int a] (.int (-a)) := by
  refine FN.intro (n := 0) (rc := defAt 10) (names := [Str.ofString "a"]) r_neg ?_ rfl (by decide +kernel) (by decide +kernel) (by kernel_rfl) (by kernel_rfl) (by kernel_rfl) ?_
  · intro pm code doc vs hv
    match vs, hv with
    | [a], _ => rfl
  · intro A env hA FE
    conv => arg 6; whnf
    exact ST.cons (ST1.ret (EV.unop (EV.name rfl (FE.rd (by decide +kernel))) (UnV.neg a)) rfl)
theorem fn_contains {a b : List Nat} : FN pw w 1 (Str.ofString "contains") [.str a, .str b] (.bool (inStr b a)) := by
  refine FN.intro (n := 0) (rc := defAt 11) (names := [Str.ofString "a", Str.ofString "b"]) r_contains ?_ rfl (by decide +kernel) (by decide +kernel) (by kernel_rfl) (by kernel_rfl) (by kernel_rfl) ?_
  · intro pm code doc vs hv
    match vs, hv with
    | [a, b], _ => rfl
  · intro A env hA FE
    conv => arg 6; whnf
    exact ST.cons (ST1.ret (EV.cmp (EV.name rfl (FE.rd (by decide +kernel))) (EV.name rfl (FE.rd (by decide +kernel))) (CmpV.in_str b a)) rfl)

noncomputable abbrev emρ (want got : List Nat) (a : Addr) (ws : List (List Nat)) (st en : Nat) (wd : List Nat) : Loc :=
  [(Str.ofString "want", .val (.str want)), (Str.ofString "got", .val (.str got)), (Str.ofString "ws", .own a (ws.map D.str)), (Str.ofString "endpos", .val (.int en)), (Str.ofString "startpos", .val (.int st)), (Str.ofString "w", .val (.str wd))]
noncomputable abbrev emv (want got : List Nat) (ws : List (List Nat)) (st en : Int) (wd : List Nat) : Loc :=
  [(Str.ofString "want", .val (.str want)), (Str.ofString "got", .val (.str got)), (Str.ofString "ws", .val (.lst (ws.map D.str))), (Str.ofString "endpos", .val (.int en)), (Str.ofString "startpos", .val (.int st)), (Str.ofString "w", .val (.str wd))]

theorem em_loop {A : Around} {env : Env} {want got wd : List Nat} {ws : List (List Nat)} {st en : Nat} (hA : Ok 0 A) (FE : FEnv (defAt 2).scope env) (hen : en ≤ got.length) :
    ST pw w A env (emv want got ws st en wd) ((defAt 2).body.drop 9) (fun fl _ => fl = .ret (.bool (emLoop got en st ws))) := by
  have rdG := FE.rd (x := Str.ofString "got") (by decide +kernel)
  have rdW := FE.rd (x := Str.ofString "w") (by decide +kernel)
  have rdS := FE.rd (x := Str.ofString "startpos") (by decide +kernel)
  have rdE := FE.rd (x := Str.ofString "endpos") (by decide +kernel)
  have rdWs := FE.rd (x := Str.ofString "ws") (by decide +kernel)
  have wrW := FE.wr (x := Str.ofString "w") (by decide +kernel)
  have wrS := FE.wr (x := Str.ofString "startpos") (by decide +kernel)
  have kL := FE.kind (x := Str.ofString "len") (k := .globalImplicit) (by decide +kernel)
  conv => arg 6; whnf
  refine ST.cons (ST1.for (sqf := true) (ds := ws.map D.str) (fun i ρ' => ∃ (si : Nat) (wi : List Nat), ρ' = emv want got ws si en wi ∧ emLoop got en st ws = emLoop got en si (ws.drop i))
    (IterE.list hA.1 (EV.nv rfl rdWs)) ⟨st, wd, rfl, rfl⟩ (fun i ρ' h _ => ?_) (fun i d ρ' hd h => ?_) fun ρ' h => ?_)
  · obtain ⟨si, wi, rfl, _⟩ := h; rfl
  · obtain ⟨si, wi, rfl, heq⟩ := h
    rw [List.getElem?_map] at hd
    obtain ⟨x, hx, rfl⟩ := Option.map_eq_some_iff.mp hd
    have hdrop : ws.drop i = x :: ws.drop (i + 1) := by
      obtain ⟨hi, rfl⟩ := List.getElem?_eq_some_iff.mp hx
      exact List.drop_eq_getElem_cons hi
    rw [hdrop, emLoop] at heq
    refine ⟨emv want got ws si en x, AT.name wrW, fun _ => rfl, ?_⟩
    refine ST.cons (ST1.assign (EV.meth PySem.F.slot_str_find PySem.F.type_str_find (EV.nv rfl rdG) (EVL.cons (EV.nv rfl rdW) (EVL.cons (EV.nv rfl rdS) (EVL.cons (EV.nv rfl rdE) EVL.nil))) (CallV.find4 got x si en hen) rfl rfl rfl ⟨_, _, rfl, rfl, rfl⟩) ?_ wrS)
    refine ST.cons (ST1.ite (BV.cmp (EV.nv rfl rdS) (EV.cint 0 0) (CmpV.lt_int _ _)) (fun hb => ?_) fun hb => ?_)
    · have hb' : findB got x si en < 0 := by simpa using hb
      rw [if_pos hb'] at heq
      refine ST.cons (ST1.ret (EV.cbool false 0) ?_)
      show Fl.ret (.bool false) = _
      rw [heq]
    · have hb' : ¬ findB got x si en < 0 := by simpa using hb
      rw [if_neg hb'] at heq
      refine ST.nil ?_
      refine ST.cons (ST1.aug rfl rdS (EV.len (EV.nv rfl rdW) (len_D_str x) kL) (InV.add_int _ _) ?_ wrS)
      refine ST.nil ⟨(findB got x si en).toNat + x.length, x, ?_, heq⟩
      have : ((((findB got x si en).toNat + x.length : Nat)) : Int) = findB got x si en + x.length := by omega
      rw [this]; rfl
  · obtain ⟨si, wi, rfl, heq⟩ := h
    rw [List.length_map, List.drop_length, emLoop] at heq
    refine ST.cons (ST1.ret (EV.cbool true 0) ?_)
    show Fl.ret (.bool true) = _
    rw [heq]

theorem em_cmp {A : Around} {env : Env} {want got wd : List Nat} {ws : List (List Nat)} {st en : Nat} {a : Addr} (hA : Ok 0 A) (FE : FEnv (defAt 2).scope env) (hen : en ≤ got.length) :
    ST pw w A env (emρ want got a ws st en wd) ((defAt 2).body.drop 8) (fun fl _ => fl = .ret (.bool (if en < st then false else emLoop got en st ws))) := by
  have rdS := FE.rd (x := Str.ofString "startpos") (by decide +kernel)
  have rdE := FE.rd (x := Str.ofString "endpos") (by decide +kernel)
  conv => arg 6; whnf
  refine ST.cons (ST1.ite (BV.cmp (EV.nv rfl rdS) (EV.nv rfl rdE) (CmpV.gt_int _ _)) (fun hb => ?_) fun hb => ?_)
  · have hb' : en < st := by have : (en : Int) < st := by simpa using hb
                             omega
    refine ST.cons (ST1.ret (EV.cbool false 0) ?_)
    show Fl.ret (.bool false) = _
    rw [if_pos hb']
  · have hb' : ¬ en < st := by have : ¬ (en : Int) < st := by simpa using hb
                               omega
    rw [if_neg hb']
    refine ST.nil ?_
    refine ST.freeze (x := Str.ofString "ws") rfl ?_
    exact em_loop hA FE hen

theorem em_tail {A : Around} {env : Env} {want got wd : List Nat} {ws : List (List Nat)} {st : Nat} {a : Addr} (hA : Ok 0 A) (FE : FEnv (defAt 2).scope env) (hws : ws ≠ []) (hwl : ws.length ≤ lim) :
    ST pw w A env (emρ want got a ws st got.length wd) ((defAt 2).body.drop 6) (fun fl _ => fl = .ret (.bool (emTail got st ws))) := by
  have rdG := FE.rd (x := Str.ofString "got") (by decide +kernel)
  have rdW := FE.rd (x := Str.ofString "w") (by decide +kernel)
  have rdWs := FE.rd (x := Str.ofString "ws") (by decide +kernel)
  have rdE := FE.rd (x := Str.ofString "endpos") (by decide +kernel)
  have wrW := FE.wr (x := Str.ofString "w") (by decide +kernel)
  have wrE := FE.wr (x := Str.ofString "endpos") (by decide +kernel)
  have kL := FE.kind (x := Str.ofString "len") (k := .globalImplicit) (by decide +kernel)
  have hpos : 0 < ws.length := List.length_pos_iff.mpr hws
  have hlim : ws.length ≤ 1048576 := hwl
  have hidx : seqIndex? (-1) (ws.map D.str).length = some (ws.length - 1) := by
    rw [List.length_map, StrLaws.seqIndex_neg (by omega) (by omega)]; congr 1; omega
  have hlast : ws[ws.length - 1]? = some (ws.getLastD []) := by
    rw [← List.getLast?_eq_getElem?, List.getLast?_eq_some_getLast hws, List.getLastD_eq_getLast?, List.getLast?_eq_some_getLast hws]; rfl
  conv => arg 6; whnf
  refine ST.cons (ST1.assign (EV.sub (EV.no rfl rdWs) (EV.unop (EV.cint 1 0) (UnV.neg 1)) (ItemV.lst (d := .str (ws.getLastD [])) (by decide) (by decide) hidx (by rw [List.getElem?_map, hlast]; rfl))) ?_ wrW)
  refine ST.cons (ST1.ite (BV.plain (EV.nv rfl rdW) (TruthV.str (ws.getLastD []))) (fun hb => ?_) fun hb => ?_)
  · have hb' : ws.getLastD [] ≠ [] := by simpa using hb
    refine ST.cons (ST1.ite (BV.plain (EV.meth PySem.F.slot_str_endswith PySem.F.type_str_endswith (EV.nv rfl rdG) (EVL.cons (EV.nv rfl rdW) EVL.nil) (CallV.endswith got (ws.getLastD [])) rfl rfl rfl ⟨_, _, rfl, rfl, rfl⟩) (TruthV.bool _)) (fun he => ?_) fun he => ?_)
    · have hle : (ws.getLastD []).length ≤ got.length := by
        have : (ws.getLastD []).length ≤ got.length ∧ _ := of_decide_eq_true he
        exact this.1
      refine ST.cons (ST1.aug rfl rdE (EV.len (EV.nv rfl rdW) (len_D_str _) kL) (InV.sub_int _ _) ?_ wrE)
      refine ST.cons (ST1.del (a := a) (xs := ws.map D.str) rfl rfl rdWs (EV.unop (EV.cint 1 0) (UnV.neg 1)) (by decide) hidx (by simp [scalar]) ?_ (by decide))
      have e1 : ((got.length : Int) - ((ws.getLastD []).length : Int)) = ((got.length - (ws.getLastD []).length : Nat) : Int) := by omega
      have e2 : (ws.map D.str).eraseIdx (ws.length - 1) = ws.dropLast.map D.str := by
        rw [← map_eraseIdx]; congr 1
        rw [List.eraseIdx_eq_dropLast]; omega
      refine ST.nil (ST.nil ?_)
      rw [e2]
      show ST pw w A env [(Str.ofString "want", .val (.str want)), (Str.ofString "got", .val (.str got)), (Str.ofString "ws", .own a (ws.dropLast.map D.str)), (Str.ofString "endpos", .val (.int ((got.length : Int) - ((ws.getLastD []).length : Int)))), (Str.ofString "startpos", .val (.int st)), (Str.ofString "w", .val (.str (ws.getLastD [])))] _ _
      rw [e1]
      have := em_cmp (w := w) (want := want) (got := got) (wd := ws.getLastD []) (ws := ws.dropLast) (st := st) (en := got.length - (ws.getLastD []).length) (a := a) hA FE (Nat.sub_le _ _)
      refine ST.mono this fun fl ρ' h => ?_
      rw [h]
      unfold emTail
      rw [if_neg hb', if_pos he]
    · refine ST.cons (ST1.ret (EV.cbool false 0) ?_)
      show Fl.ret (.bool false) = _
      unfold emTail
      rw [if_neg hb', if_neg (by rw [he]; decide)]
  · have hb' : ws.getLastD [] = [] := by simpa using hb
    refine ST.nil ?_
    refine ST.mono (em_cmp (w := w) (want := want) (got := got) (wd := ws.getLastD []) (ws := ws) (st := st) (en := got.length) (a := a) hA FE (Nat.le_refl _)) fun fl ρ' h => ?_
    rw [h]
    unfold emTail
    rw [if_pos hb']

theorem fn_em {want got : List Nat} (hparts : (splitD want dots).length ≤ lim) (htwo : inStr dots want = true → 2 ≤ (splitD want dots).length) (hpos : 0 < (splitD want dots).length) : FN pw w 1 (Str.ofString "_ellipsis_match") [.str want, .str got] (.bool (emP want got)) := by
  refine FN.intro (n := 0) (rc := defAt 2) (names := [Str.ofString "want", Str.ofString "got"]) r_em ?_ rfl (by decide +kernel) (by decide +kernel) (by kernel_rfl) (by kernel_rfl) (by kernel_rfl) ?_
  · intro pm code doc vs hv
    match vs, hv with
    | [a, b], _ => rfl
  intro A env hA FE
  have rdG := FE.rd (x := Str.ofString "got") (by decide +kernel)
  have rdWt := FE.rd (x := Str.ofString "want") (by decide +kernel)
  have rdW := FE.rd (x := Str.ofString "w") (by decide +kernel)
  have rdWs := FE.rd (x := Str.ofString "ws") (by decide +kernel)
  have wrW := FE.wr (x := Str.ofString "w") (by decide +kernel)
  have wrWs := FE.wr (x := Str.ofString "ws") (by decide +kernel)
  have wrE := FE.wr (x := Str.ofString "endpos") (by decide +kernel)
  have wrS := FE.wr (x := Str.ofString "startpos") (by decide +kernel)
  have kL := FE.kind (x := Str.ofString "len") (k := .globalImplicit) (by decide +kernel)
  have kD := FE.kind (x := Str.ofString "ELLIPSIS_MARKER") (k := .globalImplicit) (by decide +kernel)
  have gD : ∀ {ρ : Loc} {pos : Pos}, EV pw w A env ρ (.Name (Str.ofString "ELLIPSIS_MARKER") pos) (.str dots) := EV.gstr (show valOf pw (Str.ofString "ELLIPSIS_MARKER") = some (.str ⟨dots.toArray⟩) by kernel_rfl) (by decide) kD (by decide)
  conv => arg 6; whnf
  refine ST.cons (ST1.ite (BV.cmp gD (EV.nv rfl rdWt) (CmpV.notIn_str dots want)) (fun hb => ?_) fun hb => ?_)
  · refine ST.cons (ST1.ret (EV.cmp (EV.nv rfl rdWt) (EV.nv rfl rdG) (CmpV.eq_str want got)) ?_)
    show Fl.ret (.bool (decide (want = got))) = Fl.ret (.bool (emP want got))
    unfold emP
    rw [if_neg (by simpa using hb)]
  have hin : inStr dots want = true := by simpa using hb
  have h2 := htwo hin
  refine ST.nil ?_
  refine ST.cons (ST1.split (EV.nv rfl rdWt) gD (by decide) hparts (fun a => ?_) wrWs)
  refine ST.cons (ST1.assert (BV.cmp (b := true) (EV.len (EV.no rfl rdWs) (len_D_lst ((splitD want dots).map D.str)) kL) (EV.cint 2 0) (by
    have := CmpV.ge_int (p := pw) (w := w) (A := A) ((((splitD want dots).map D.str).length : Nat) : Int) 2
    rw [decide_eq_true (by rw [List.length_map]; omega)] at this; exact this)) ?_)
  refine ST.cons (ST1.swap2 hA.1 (EV.ctuple (EVL.cons (EV.cint 0 0) (EVL.cons (EV.len (EV.nv rfl rdG) (len_D_str got) kL) EVL.nil)) (by decide : 2 ≤ lim)) rfl rfl wrS wrE ?_ rfl (swp (by unfold Env.blockKind; rw [FE.scope]; kernel_rfl) (FE.kind (by decide +kernel)) (FE.kind (by decide +kernel)) (by decide) (by decide) (by rfl) (by rfl) (by rfl)))
  have h0 : (splitD want dots)[0]? = some ((splitD want dots).headD []) := by
    cases h : splitD want dots with
    | nil => rw [h] at hpos; exact absurd hpos (by decide)
    | cons x r => rfl
  have hlim : (splitD want dots).length ≤ 1048576 := hparts
  have hne : splitD want dots ≠ [] := List.length_pos_iff.mp hpos
  have hidx : seqIndex? 0 ((splitD want dots).map D.str).length = some 0 := StrLaws.seqIndex_nonneg (by omega) (by rw [List.length_map]; omega)
  refine ST.cons (ST1.assign (EV.sub (EV.no rfl rdWs) (EV.cint 0 0) (ItemV.lst (d := .str ((splitD want dots).headD [])) (by decide) (by decide) hidx (by rw [List.getElem?_map, h0]; rfl))) ?_ wrW)
  refine ST.cons (ST1.ite (BV.plain (EV.nv rfl rdW) (TruthV.str ((splitD want dots).headD []))) (fun hb => ?_) fun hb => ?_)
  · have hb' : (splitD want dots).headD [] ≠ [] := by simpa using hb
    refine ST.cons (ST1.ite (BV.plain (EV.meth PySem.F.slot_str_startswith PySem.F.type_str_startswith (EV.nv rfl rdG) (EVL.cons (EV.nv rfl rdW) EVL.nil) (CallV.startswith got ((splitD want dots).headD [])) rfl rfl rfl ⟨_, _, rfl, rfl, rfl⟩) (TruthV.bool _)) (fun he => ?_) fun he => ?_)
    · refine ST.cons (ST1.assign (EV.len (EV.nv rfl rdW) (len_D_str _) kL) ?_ wrS)
      refine ST.cons (ST1.del (a := a) (xs := (splitD want dots).map D.str) rfl rfl rdWs (EV.cint 0 0) (by decide) hidx (by simp [scalar]) ?_ (by decide))
      refine ST.nil (ST.nil ?_)
      have e2 : ((splitD want dots).map D.str).eraseIdx 0 = (splitD want dots).tail.map D.str := by
        rw [← map_eraseIdx, List.eraseIdx_zero]
      rw [e2]
      refine ST.mono (em_tail (w := w) (want := want) (got := got) (wd := (splitD want dots).headD []) (ws := (splitD want dots).tail) (st := ((splitD want dots).headD []).length) (a := a) hA FE (fun h => ?_) (by rw [List.length_tail]; omega)) fun fl ρ' h => ?_
      · have := congrArg List.length h
        rw [List.length_tail] at this; simp at this; omega
      · rw [h]; unfold emP
        rw [if_pos hin, if_neg hb', if_pos he]
    · refine ST.cons (ST1.ret (EV.cbool false 0) ?_)
      show Fl.ret (.bool false) = Fl.ret (.bool (emP want got))
      unfold emP
      rw [if_pos hin, if_neg hb', if_neg (by rw [he]; decide)]
  · have hb' : (splitD want dots).headD [] = [] := by simpa using hb
    refine ST.nil ?_
    refine ST.mono (em_tail (w := w) (want := want) (got := got) (wd := (splitD want dots).headD []) (ws := splitD want dots) (st := 0) (a := a) hA FE hne hparts) fun fl ρ' h => ?_
    rw [h]; unfold emP
    rw [if_pos hin, if_pos hb']
end
end Mine
end
section
open PySem PySem.W PyProof.Rows PySem.Builtin.Str PySem.StrLaws
set_option Elab.async false
set_option autoImplicit false
set_option linter.unusedVariables false
namespace Mine
theorem FEnv.inter {sc : Scope} {env : Env} (h : FEnv sc env) (hk : sc.kind = .function) : interactive env = false := by unfold interactive; rw [h.scope, hk]; rfl
noncomputable def oD : Option Int → D
  | none => .none
  | some i => .int i
structure SS where
  start : Int
  opn : Option Int
  res : List (List Nat)
noncomputable def stepS (addr : List Nat) (st : SS) (q : Int × List Nat) : SS :=
  if q.2 = [34] then
    (match st.opn with
     | none => ⟨st.start, some q.1, st.res⟩
     | some o => ⟨q.1 + 1, none, if st.start ≠ o then st.res ++ [sl addr (some st.start) (some o)] else st.res⟩)
  else st
noncomputable def stripS (addr : List Nat) : SS := (escG 0 false addr).foldl (stepS addr) ⟨0, none, []⟩
noncomputable def stripP (addr : List Nat) : List Nat :=
  if inStr [34] addr then joinL [] ((stripS addr).res ++ if (stripS addr).start < addr.length then [sl addr (some (stripS addr).start) none] else [])
  else addr
theorem escG_length : ∀ (l : List Nat) (i : Int) (esc : Bool), (escG i esc l).length ≤ l.length + 1
  | [], i, esc => by unfold escG; split <;> simp
  | c :: r, i, true => by
    have := escG_length r (i + 1) false
    unfold escG; rw [List.length_cons, List.length_cons]; omega
  | c :: r, i, false => by
    unfold escG
    split
    · have := escG_length r (i + 1) true
      rw [List.length_cons]; omega
    · have := escG_length r (i + 1) false
      rw [List.length_cons, List.length_cons]; omega
theorem stepS_res (addr : List Nat) (st : SS) (q : Int × List Nat) : (stepS addr st q).res.length ≤ st.res.length + 1 := by
  unfold stepS
  split
  · split
    · simp
    · dsimp only; split
      · simp
      · simp
  · simp
theorem stepS_sl (addr : List Nat) (st : SS) (q : Int × List Nat) (h : ∀ x ∈ st.res, x.length ≤ addr.length) : ∀ x ∈ (stepS addr st q).res, x.length ≤ addr.length := by
  unfold stepS
  split
  · split
    · exact h
    · dsimp only
      split
      · intro x hx
        rcases List.mem_append.mp hx with hx | hx
        · exact h x hx
        · rw [List.mem_singleton] at hx; rw [hx]; exact sl_length _ _ _
      · exact h
  · exact h
theorem sum_le (n : Nat) : ∀ (ls : List (List Nat)), (∀ x ∈ ls, x.length ≤ n) → (ls.map List.length).sum ≤ ls.length * n
  | [], _ => by simp
  | x :: ls, h => by
    have := sum_le n ls fun y hy => h y (List.mem_cons_of_mem _ hy)
    have := h x List.mem_cons_self
    rw [List.map_cons, List.sum_cons, List.length_cons, Nat.succ_mul]; omega

noncomputable abbrev sρ (addr : List Nat) (st : SS) (a : Addr) : Loc := [(Str.ofString "addr", .val (.str addr)), (Str.ofString "start", .val (.int st.start)), (Str.ofString "open_pos", .val (oD st.opn)), (Str.ofString "result", .own a (st.res.map D.str))]
section
variable {w : World}
theorem hm {A : Around} {env : Env} {ρ : Loc} {p1 a1 c : Pos} (e : Expr) (ls : List (List Nat)) (h : EV pw w A env ρ e (.lst (ls.map D.str))) (hc : CallV pw w A (.builtin "str.join") [.str [], .lst (ls.map D.str)] (.str (joinL [] ls)))
    (hs : starEach [e] env = (false, eval e env) :: starEach [] env := by rfl) (hl : (a1.endLine == c.line) = true := by rfl) :
    EV pw w A env ρ (.Call (.Attribute (.Constant (.str (Str.ofString "")) 0 p1) (Str.ofString "join") a1) [e] [] c) (.str (joinL [] ls)) := by
  refine EV.meth PySem.F.slot_str_join PySem.F.type_str_join (EV.cstr [] 0 (by decide +kernel) (Nat.zero_le _)) (EVL.cons h EVL.nil hs) hc rfl ?_ hl ?_
  · rw [hs]; rfl
  · exact ⟨_, _, rfl, hs, by rw [hs]; rfl⟩
set_option maxRecDepth 8000 in
theorem fn_strip {addr : List Nat} (hlen : addr.length ≤ 500) : FN pw w 2 (Str.ofString "_strip_quoted_realnames") [.str addr] (.str (stripP addr)) := by
  refine FN.intro (n := 1) (rc := defAt 5) (names := [Str.ofString "addr"]) r_strip ?_ rfl (by decide +kernel) (by decide +kernel) (by kernel_rfl) (by kernel_rfl) (by kernel_rfl) ?_
  · intro pm code doc vs hv
    match vs, hv with
    | [a], _ => rfl
  intro A env hA FE
  have hI := FE.inter (by kernel_rfl)
  have rdA := FE.rd (x := Str.ofString "addr") (by decide +kernel)
  have rdS := FE.rd (x := Str.ofString "start") (by decide +kernel)
  have rdO := FE.rd (x := Str.ofString "open_pos") (by decide +kernel)
  have rdR := FE.rd (x := Str.ofString "result") (by decide +kernel)
  have rdP := FE.rd (x := Str.ofString "pos") (by decide +kernel)
  have rdC := FE.rd (x := Str.ofString "ch") (by decide +kernel)
  have wrS := FE.wr (x := Str.ofString "start") (by decide +kernel)
  have wrO := FE.wr (x := Str.ofString "open_pos") (by decide +kernel)
  have wrR := FE.wr (x := Str.ofString "result") (by decide +kernel)
  have wrP := FE.wr (x := Str.ofString "pos") (by decide +kernel)
  have wrC := FE.wr (x := Str.ofString "ch") (by decide +kernel)
  have kL := FE.kind (x := Str.ofString "len") (k := .globalImplicit) (by decide +kernel)
  have kG := FE.kind (x := Str.ofString "_iter_escaped_chars") (k := .globalImplicit) (by decide +kernel)
  have hll : addr.length ≤ lim := Nat.le_trans hlen (by decide)
  have one : ([34] : List Nat).length ≤ lim := (by decide : 1 ≤ lim)
  conv => arg 6; whnf
  refine ST.cons (ST1.ite (BV.cmp (EV.cstr [34] 0 (by decide +kernel) one) (EV.nv rfl rdA) (CmpV.notIn_str [34] addr)) (fun hb => ?_) fun hb => ?_)
  · refine ST.cons (ST1.ret (EV.nv rfl rdA) ?_)
    show Fl.ret (.str addr) = Fl.ret (.str (stripP addr))
    unfold stripP
    rw [if_neg (by simpa using hb)]
  have hin : inStr [34] addr = true := by simpa using hb
  refine ST.nil ?_
  refine ST.cons (ST1.assign (EV.cint 0 0) ?_ wrS)
  refine ST.cons (ST1.assign (EV.cnone 0) ?_ wrO)
  refine ST.cons (ST1.ownNil (fun a => ?_) wrR)
  refine ST.cons (ST1.for (sqf := false) (ds := (escG 0 false addr).map uD) (fun i ρ' => ∃ st : SS, (∃ pr, (ρ' = sρ addr st a ∧ pr = ()) ∨ ∃ q : Int × List Nat, ρ' = sρ addr st a ++ [(Str.ofString "pos", .val (.int q.1)), (Str.ofString "ch", .val (.str q.2))]) ∧ st = ((escG 0 false addr).take i).foldl (stepS addr) ⟨0, none, []⟩ ∧ st.res.length ≤ i ∧ ∀ x ∈ st.res, x.length ≤ addr.length)
    (IterE.gen hA (EV.nv rfl rdA) kG) ⟨⟨0, none, []⟩, ⟨(), .inl ⟨rfl, rfl⟩⟩, rfl, Nat.le_refl _, fun x h => nomatch h⟩ (fun i ρ' h e => by cases e) (fun i d ρ' hd h => ?_) fun ρ' h => ?_)
  · obtain ⟨st, hρ, hst, hres, hxs⟩ := h
    rw [List.getElem?_map] at hd
    obtain ⟨q, hq, rfl⟩ := Option.map_eq_some_iff.mp hd
    have hil : i < addr.length + 1 := by
      obtain ⟨hi, _⟩ := List.getElem?_eq_some_iff.mp hq
      exact Nat.lt_of_lt_of_le hi (escG_length _ _ _)
    refine ⟨sρ addr st a ++ [(Str.ofString "pos", .val (.int q.1)), (Str.ofString "ch", .val (.str q.2))], ?_, (fun e => by cases e), ?_⟩
    · obtain ⟨_, ⟨rfl, _⟩ | ⟨q', rfl⟩⟩ := hρ
      · exact AT.pair (d1 := .int q.1) (d2 := .str q.2) hA.1 rfl wrP wrC
      · exact AT.pair (d1 := .int q.1) (d2 := .str q.2) hA.1 rfl wrP wrC
    · have hnext : ((escG 0 false addr).take (i + 1)).foldl (stepS addr) ⟨0, none, []⟩ = stepS addr st q := by
        rw [List.take_add_one, hq, List.foldl_append, ← hst]; rfl
      have hr := stepS_res addr st q
      have hx := stepS_sl addr st q hxs
      clear hρ
      have fin : ∀ ρ', ρ' = sρ addr (stepS addr st q) a ++ [(Str.ofString "pos", .val (.int q.1)), (Str.ofString "ch", .val (.str q.2))] → ∃ st' : SS, (∃ pr, (ρ' = sρ addr st' a ∧ pr = ()) ∨ ∃ q : Int × List Nat, ρ' = sρ addr st' a ++ [(Str.ofString "pos", .val (.int q.1)), (Str.ofString "ch", .val (.str q.2))]) ∧ st' = ((escG 0 false addr).take (i + 1)).foldl (stepS addr) ⟨0, none, []⟩ ∧ st'.res.length ≤ i + 1 ∧ ∀ x ∈ st'.res, x.length ≤ addr.length :=
        fun ρ' e => ⟨_, ⟨(), .inr ⟨q, e⟩⟩, hnext.symm, by omega, hx⟩
      refine ST.cons (ST1.ite (BV.cmp (EV.nv rfl rdC) (EV.cstr [34] 0 (by decide +kernel) one) (CmpV.eq_str q.2 [34])) (fun hb => ?_) fun hb => ?_)
      · have hb' : q.2 = [34] := by simpa using hb
        obtain ⟨start, opn, res⟩ := st
        cases opn with
        | none =>
          refine ST.cons (ST1.ite (BV.cmp (b := true) (EV.nv (d := .none) rfl rdO) (EV.cnone 0) CmpV.is_none_none) (fun _ => ?_) fun h => by cases h)
          refine ST.cons (ST1.assign (EV.nv rfl rdP) ?_ wrO)
          refine ST.nil (ST.nil (ST.nil (fin _ ?_)))
          unfold stepS
          rw [if_pos hb']; rfl
        | some o =>
          refine ST.cons (ST1.ite (BV.cmp (b := false) (EV.nv (d := .int o) rfl rdO) (EV.cnone 0) (CmpV.is_none_int o)) (fun h => by cases h) fun _ => ?_)
          refine ST.cons (ST1.ite (BV.cmp (EV.nv (d := .int start) rfl rdS) (EV.nv (d := .int o) rfl rdO) (CmpV.ne_int start o)) (fun hb2 => ?_) fun hb2 => ?_)
          · have hb2' : start ≠ o := by simpa using hb2
            refine ST.cons (ST1.append (a := a) (xs := res.map D.str) (d := .str (sl addr (some start) (some o))) rfl rfl rdR (EV.slice_str (EV.nv rfl rdA) (EVO.osome (EV.nv rfl rdS)) (EVO.osome (EV.nv (d := .int o) rfl rdO))) (by simp [scalar]) ?_ ?_ (by decide) hI)
            · have : res.length ≤ i := hres
              rw [List.length_append, List.length_map, List.length_singleton]
              have : 502 ≤ lim := by decide
              omega
            refine ST.nil ?_
            refine ST.cons (ST1.assign (EV.binop (EV.nv rfl rdP) (EV.cint 1 0) (BinV.add_int q.1 1)) ?_ wrS)
            refine ST.cons (ST1.assign (EV.cnone 0) ?_ wrO)
            refine ST.nil (ST.nil (ST.nil (fin _ ?_)))
            unfold stepS
            rw [if_pos hb']
            simp only [if_pos hb2', sρ, List.map_append]
            rfl
          · have hb2' : start = o := by simpa using hb2
            refine ST.nil ?_
            refine ST.cons (ST1.assign (EV.binop (EV.nv rfl rdP) (EV.cint 1 0) (BinV.add_int q.1 1)) ?_ wrS)
            refine ST.cons (ST1.assign (EV.cnone 0) ?_ wrO)
            refine ST.nil (ST.nil (ST.nil (fin _ ?_)))
            unfold stepS
            rw [if_pos hb']
            simp only [hb2', ne_eq, not_true_eq_false, if_false, sρ]
            rfl
      · have hb' : ¬ q.2 = [34] := by simpa using hb
        refine ST.nil (ST.nil (fin _ ?_))
        unfold stepS
        rw [if_neg hb']
  · obtain ⟨st, hρ, hst, hres, hxs⟩ := h
    rw [List.length_map] at hst hres
    rw [List.take_length] at hst
    have hst' : st = stripS addr := hst
    have hl1 := escG_length addr 0 false
    have hkey : ∀ ρ' : Loc, ρ'.lookup (Str.ofString "addr") = some (.val (.str addr)) → ρ'.lookup (Str.ofString "start") = some (.val (.int st.start)) → ρ'.lookup (Str.ofString "result") = some (.own a (st.res.map D.str)) → ρ'.others (Str.ofString "result") = true →
        ST pw w A env ρ' ((defAt 5).body.drop 5) (fun fl _ => fl = .ret (.str (stripP addr))) := by
      intro ρ' l1 l2 l3 l4
      conv => arg 6; whnf
      have hres' : st.res.length ≤ 501 := by omega
      have h502 : 502 ≤ lim := by decide
      have hsum : ∀ ls : List (List Nat), ls.length ≤ 502 → (∀ x ∈ ls, x.length ≤ addr.length) → (ls.map List.length).sum + ls.length * ([] : List Nat).length ≤ lim := fun ls h1 h2 => by
        have := sum_le addr.length ls h2
        have : ls.length * addr.length ≤ 502 * 500 := Nat.mul_le_mul h1 hlen
        have : 502 * 500 ≤ lim := by decide
        simp; omega
      have hjoin : ∀ ls : List (List Nat), ls.length ≤ 502 → (∀ x ∈ ls, x.length ≤ addr.length) → CallV pw w A (.builtin "str.join") [.str [], .lst (ls.map D.str)] (.str (joinL [] ls)) := fun ls h1 h2 => CallV.join [] ls (hsum ls h1 h2)
      refine ST.cons (ST1.ite (BV.cmp (EV.nv l2 rdS) (EV.len (EV.nv l1 rdA) (len_D_str addr) kL) (CmpV.lt_int st.start addr.length)) (fun hb => ?_) fun hb => ?_)
      · have hb' : st.start < addr.length := by simpa using hb
        refine ST.cons (ST1.append (a := a) (xs := st.res.map D.str) (d := .str (sl addr (some st.start) none)) l3 l4 rdR (EV.slice_str (EV.nv l1 rdA) (EVO.osome (EV.nv l2 rdS)) EVO.onone) (by simp [scalar]) (by rw [List.length_append, List.length_map, List.length_singleton]; omega) ?_ (by decide) hI)
        refine ST.nil ?_
        have e : st.res.map D.str ++ [D.str (sl addr (some st.start) none)] = (st.res ++ [sl addr (some st.start) none]).map D.str := by simp
        rw [e]
        have hj := hjoin (st.res ++ [sl addr (some st.start) none]) (by simp; omega) (fun x hx => ?_)
        refine ST.cons (ST1.ret (hm _ _ (EV.no (a := a) (by rw [Loc.lookup_set]; simp) rdR) hj) ?_)
        rotate_left 1
        · rcases List.mem_append.mp hx with hx | hx
          · exact hxs x hx
          · rw [List.mem_singleton] at hx; rw [hx]; exact sl_length _ _ _
        · show Fl.ret (.str _) = Fl.ret (.str _)
          unfold stripP
          rw [if_pos hin, ← hst', if_pos hb']
      · have hb' : ¬ st.start < addr.length := by simpa using hb
        refine ST.nil ?_
        refine ST.cons (ST1.ret (hm _ _ (EV.no l3 rdR) (hjoin st.res (by omega) hxs)) ?_)
        show Fl.ret (.str _) = Fl.ret (.str _)
        unfold stripP
        rw [if_pos hin, ← hst', if_neg hb', List.append_nil]
    obtain ⟨_, ⟨rfl, _⟩ | ⟨q', rfl⟩⟩ := hρ
    · exact hkey _ rfl rfl rfl (by obtain ⟨_, opn, _⟩ := st; cases opn <;> rfl)
    · exact hkey _ rfl rfl rfl (by obtain ⟨_, opn, _⟩ := st; cases opn <;> rfl)
end
end Mine
end
section
open PySem PySem.W PyProof.Rows PySem.Builtin.Str PySem.StrLaws
set_option Elab.async false
set_option autoImplicit false
set_option linter.unusedVariables false
namespace Mine
noncomputable def chkS : Int → List (Int × List Nat) → Bool
  | o, [] => decide (o = 0)
  | o, (_, ch) :: r => if ch = [40] then chkS (o + 1) r else if ch = [41] then (if o - 1 < 0 then false else chkS (o - 1) r) else chkS o r
noncomputable def checkP (addr : List Nat) : Bool := chkS 0 (escG 0 false (stripP addr))
noncomputable def sizeF (row : List Nat) : Nat → Nat → Nat
  | 0, size => size
  | f + 1, size => if size < row.length ∧ checkP (row.take size) = false then sizeF row f (size + 3) else size
noncomputable def thingSize (row : List Nat) : Nat := if row.head? = some 40 then sizeF row row.length 4 else 1
noncomputable def thingsF : Nat → List Nat → List (List Nat)
  | 0, _ => []
  | n + 1, row => if row = [] then [] else row.take (thingSize row) :: thingsF n (row.drop (thingSize row))
noncomputable def thingsP (row : List Nat) : List (List Nat) := thingsF row.length row
theorem sizeF_ge (row : List Nat) : ∀ f size, size ≤ sizeF row f size
  | 0, size => Nat.le_refl _
  | f + 1, size => by
    unfold sizeF
    split
    · have := sizeF_ge row f (size + 3); omega
    · exact Nat.le_refl _
theorem thingSize_pos (row : List Nat) : 1 ≤ thingSize row := by
  unfold thingSize
  split
  · have := sizeF_ge row row.length 4; omega
  · exact Nat.le_refl _
theorem clip_nat (k n d : Nat) : clipI (some (k : Int)) n d = min k n := by
  show (if (k : Int) < 0 then ((k : Int) + n).toNat else min (k : Int).toNat n) = _
  rw [if_neg (by omega)]; simp
theorem take_min {α : Type} (l : List α) (k : Nat) : l.take (min k l.length) = l.take k := by
  rcases Nat.le_total k l.length with h | h
  · rw [Nat.min_eq_left h]
  · rw [Nat.min_eq_right h, List.take_of_length_le (Nat.le_refl _), List.take_of_length_le h]
theorem drop_min {α : Type} (l : List α) (k n : Nat) (hn : l.length ≤ n) : l.drop (min k n) = l.drop k := by
  rcases Nat.le_total k n with h | h
  · rw [Nat.min_eq_left h]
  · rw [Nat.min_eq_right h, List.drop_of_length_le hn, List.drop_of_length_le (by omega)]
theorem sl_take {α : Type} (l : List α) (k : Nat) : sl l none (some (k : Int)) = l.take k := by
  unfold sl
  rw [clip_nat]
  show (l.take _).drop 0 = _
  rw [List.drop_zero, take_min]
theorem sl_drop {α : Type} (l : List α) (k : Nat) : sl l (some (k : Int)) none = l.drop k := by
  unfold sl
  rw [clip_nat]
  show (l.take l.length).drop _ = _
  rw [List.take_length, drop_min _ _ _ (Nat.le_refl _)]
theorem sl_mid {α : Type} (l : List α) (a b : Nat) : sl l (some (a : Int)) (some (b : Int)) = (l.take b).drop a := by
  unfold sl
  rw [clip_nat, clip_nat, take_min, drop_min]
  rw [List.length_take]; omega

section
variable {w : World}
theorem fn_check {addr : List Nat} (hlen : addr.length ≤ 500) : FN pw w 3 (Str.ofString "_check_parenthesis") [.str addr] (.bool (checkP addr)) := by
  refine FN.intro (n := 2) (rc := defAt 6) (names := [Str.ofString "addr"]) r_check ?_ rfl (by decide +kernel) (by decide +kernel) (by kernel_rfl) (by kernel_rfl) (by kernel_rfl) ?_
  · intro pm code doc vs hv
    match vs, hv with
    | [a], _ => rfl
  intro A env hA FE
  have rdA := FE.rd (x := Str.ofString "addr") (by decide +kernel)
  have rdO := FE.rd (x := Str.ofString "opens") (by decide +kernel)
  have rdC := FE.rd (x := Str.ofString "ch") (by decide +kernel)
  have wrA := FE.wr (x := Str.ofString "addr") (by decide +kernel)
  have wrO := FE.wr (x := Str.ofString "opens") (by decide +kernel)
  have wrP := FE.wr (x := Str.ofString "pos") (by decide +kernel)
  have wrC := FE.wr (x := Str.ofString "ch") (by decide +kernel)
  have kG := FE.kind (x := Str.ofString "_iter_escaped_chars") (k := .globalImplicit) (by decide +kernel)
  have kS := FE.kind (x := Str.ofString "_strip_quoted_realnames") (k := .globalImplicit) (by decide +kernel)
  have one : ([0] : List Nat).length ≤ lim := (by decide : 1 ≤ lim)
  conv => arg 6; whnf
  refine ST.cons (ST1.assign (EV.call (fn_strip hlen) (EVL.cons (EV.nv rfl rdA) EVL.nil) hA (names_in _ (by kernel_rfl)) kS (by decide) ⟨_, _, rfl, rfl, rfl⟩) ?_ wrA)
  refine ST.cons (ST1.assign (EV.cint 0 0) ?_ wrO)
  refine ST.cons (ST1.for (sqf := false) (ds := (escG 0 false (stripP addr)).map uD) (fun i ρ' => ∃ o : Int, ((ρ' = [(Str.ofString "addr", .val (.str (stripP addr))), (Str.ofString "opens", .val (.int o))]) ∨ ∃ q : Int × List Nat, ρ' = [(Str.ofString "addr", .val (.str (stripP addr))), (Str.ofString "opens", .val (.int o)), (Str.ofString "pos", .val (.int q.1)), (Str.ofString "ch", .val (.str q.2))]) ∧ checkP addr = chkS o ((escG 0 false (stripP addr)).drop i))
    (IterE.gen (hA.le (by decide)) (EV.nv rfl rdA) kG) ⟨0, .inl rfl, rfl⟩ (fun i ρ' h e => by cases e) (fun i d ρ' hd h => ?_) fun ρ' h => ?_)
  · obtain ⟨o, hρ, hc⟩ := h
    rw [List.getElem?_map] at hd
    obtain ⟨q, hq, rfl⟩ := Option.map_eq_some_iff.mp hd
    have hdrop : (escG 0 false (stripP addr)).drop i = q :: (escG 0 false (stripP addr)).drop (i + 1) := by
      obtain ⟨hi, rfl⟩ := List.getElem?_eq_some_iff.mp hq
      exact List.drop_eq_getElem_cons hi
    rw [hdrop] at hc
    obtain ⟨qi, qc⟩ := q
    rw [chkS] at hc
    refine ⟨[(Str.ofString "addr", .val (.str (stripP addr))), (Str.ofString "opens", .val (.int o)), (Str.ofString "pos", .val (.int qi)), (Str.ofString "ch", .val (.str qc))], ?_, (fun e => by cases e), ?_⟩
    · rcases hρ with rfl | ⟨q', rfl⟩
      · exact AT.pair (d1 := .int qi) (d2 := .str qc) hA.1 rfl wrP wrC
      · exact AT.pair (d1 := .int qi) (d2 := .str qc) hA.1 rfl wrP wrC
    · clear hρ
      refine ST.cons (ST1.ite (BV.cmp (EV.nv rfl rdC) (EV.cstr [40] 0 (by decide +kernel) one) (CmpV.eq_str qc [40])) (fun hb => ?_) fun hb => ?_)
      · have hb' : qc = [40] := by simpa using hb
        rw [if_pos hb'] at hc
        refine ST.cons (ST1.aug rfl rdO (EV.cint 1 0) (InV.add_int _ _) ?_ wrO)
        exact ST.nil (ST.nil ⟨o + 1, .inr ⟨(qi, qc), rfl⟩, hc⟩)
      · have hb' : ¬ qc = [40] := by simpa using hb
        rw [if_neg hb'] at hc
        refine ST.cons (ST1.ite (BV.cmp (EV.nv rfl rdC) (EV.cstr [41] 0 (by decide +kernel) one) (CmpV.eq_str qc [41])) (fun hb2 => ?_) fun hb2 => ?_)
        · have hb2' : qc = [41] := by simpa using hb2
          rw [if_pos hb2'] at hc
          refine ST.cons (ST1.aug rfl rdO (EV.cint 1 0) (InV.sub_int _ _) ?_ wrO)
          refine ST.cons (ST1.ite (BV.cmp (EV.nv rfl rdO) (EV.cint 0 0) (CmpV.lt_int (o - 1) 0)) (fun hb3 => ?_) fun hb3 => ?_)
          · have hb3' : o - 1 < 0 := by simpa using hb3
            rw [if_pos hb3'] at hc
            refine ST.cons (ST1.ret (EV.cbool false 0) ?_)
            show Fl.ret (.bool false) = Fl.ret (.bool (checkP addr))
            rw [hc]
          · have hb3' : ¬ o - 1 < 0 := by simpa using hb3
            rw [if_neg hb3'] at hc
            exact ST.nil (ST.nil (ST.nil (ST.nil ⟨o - 1, .inr ⟨(qi, qc), rfl⟩, hc⟩)))
        · have hb2' : ¬ qc = [41] := by simpa using hb2
          rw [if_neg hb2'] at hc
          exact ST.nil (ST.nil (ST.nil ⟨o, .inr ⟨(qi, qc), rfl⟩, hc⟩))
  · obtain ⟨o, hρ, hc⟩ := h
    rw [List.length_map, List.drop_length, chkS] at hc
    have key : ∀ ρ' : Loc, ρ'.lookup (Str.ofString "opens") = some (.val (.int o)) → ST pw w A env ρ' ((defAt 6).body.drop 3) (fun fl _ => fl = .ret (.bool (checkP addr))) := by
      intro ρ' l1
      conv => arg 6; whnf
      refine ST.cons (ST1.ret (EV.cmp (EV.nv l1 rdO) (EV.cint 0 0) (CmpV.eq_int o 0)) ?_)
      show Fl.ret (.bool _) = Fl.ret (.bool (checkP addr))
      rw [hc]
    rcases hρ with rfl | ⟨q', rfl⟩
    · exact key _ rfl
    · exact key _ rfl
end
end Mine
end
section
open PySem PySem.W PyProof.Rows PySem.Builtin.Str PySem.StrLaws
set_option Elab.async false
set_option autoImplicit false
set_option linter.unusedVariables false
namespace Mine
noncomputable def bodyOf : List Stmt → List Stmt
  | .While _ b _ _ :: _ => b
  | .For _ _ b _ _ :: _ => b
  | .If _ b _ _ :: _ => b
  | _ => []
section
variable {w : World}
theorem fn_things {row : List Nat} (hlen : row.length ≤ 500) : FN pw w 4 (Str.ofString "_law_things") [.str row] (.lst ((thingsP row).map D.str)) := by
  refine FN.intro (n := 3) (rc := defAt 14) (names := [Str.ofString "row"]) r_things ?_ rfl (by decide +kernel) (by decide +kernel) (by kernel_rfl) (by kernel_rfl) (by kernel_rfl) ?_
  · intro pm code doc vs hv
    match vs, hv with
    | [a], _ => rfl
  intro A env hA FE
  have hI := FE.inter (by kernel_rfl)
  have rdR := FE.rd (x := Str.ofString "row") (by decide +kernel)
  have rdT := FE.rd (x := Str.ofString "things") (by decide +kernel)
  have rdS := FE.rd (x := Str.ofString "size") (by decide +kernel)
  have wrR := FE.wr (x := Str.ofString "row") (by decide +kernel)
  have wrT := FE.wr (x := Str.ofString "things") (by decide +kernel)
  have wrS := FE.wr (x := Str.ofString "size") (by decide +kernel)
  have kL := FE.kind (x := Str.ofString "len") (k := .globalImplicit) (by decide +kernel)
  have kC := FE.kind (x := Str.ofString "_check_parenthesis") (k := .globalImplicit) (by decide +kernel)
  have one : ([0] : List Nat).length ≤ lim := (by decide : 1 ≤ lim)
  conv => arg 6; whnf
  refine ST.cons (ST1.ownNil (fun a => ?_) wrT)
  refine ST.cons (ST1.while (n := row.length) (fun n ρ' => ∃ (r : List Nat) (ts : List (List Nat)), ((ρ' = [(Str.ofString "row", .val (.str r)), (Str.ofString "things", .own a (ts.map D.str))]) ∨ ∃ z : Int, ρ' = [(Str.ofString "row", .val (.str r)), (Str.ofString "things", .own a (ts.map D.str)), (Str.ofString "size", .val (.int z))]) ∧
      r.length ≤ n ∧ ts ++ thingsF n r = thingsP row ∧ ts.length + r.length ≤ row.length) ⟨row, [], .inl rfl, Nat.le_refl _, rfl, by simp⟩ ?_)
  rintro n ρ' ⟨r, ts, hρ, hn, hts, hlen2⟩
  have l1 : ρ'.lookup (Str.ofString "row") = some (.val (.str r)) := by rcases hρ with rfl | ⟨z, rfl⟩ <;> rfl
  have l2 : ρ'.lookup (Str.ofString "things") = some (.own a (ts.map D.str)) := by rcases hρ with rfl | ⟨z, rfl⟩ <;> rfl
  refine ⟨decide (r ≠ []), BV.cmp (EV.nv l1 rdR) (EV.cstr [] 0 (by decide +kernel) (Nat.zero_le _)) (CmpV.ne_str r []), fun hb => ?_, fun hb => ?_⟩
  · have hb' : r ≠ [] := by simpa using hb
    obtain ⟨c, r', rfl⟩ : ∃ c r', r = c :: r' := by
      cases r with
      | nil => exact absurd rfl hb'
      | cons c r' => exact ⟨c, r', rfl⟩
    obtain ⟨m, rfl⟩ : ∃ m, n = m + 1 := ⟨n - 1, by simp at hn; omega⟩
    have hset : ∀ z : Int, ρ'.set (Str.ofString "size") (.val (.int z)) = [(Str.ofString "row", .val (.str (c :: r'))), (Str.ofString "things", .own a (ts.map D.str)), (Str.ofString "size", .val (.int z))] := by
      intro z; rcases hρ with rfl | ⟨z, rfl⟩ <;> rfl
    refine ST.cons (ST1.assign (EV.cint 1 0) ?_ wrS)
    rw [hset]
    clear hρ hset l1 l2
    have hr500 : (c :: r').length ≤ 500 := by omega
    have hrl : (c :: r').length ≤ lim := Nat.le_trans hr500 (by decide)
    have key : ∀ P : Fl → Loc → Prop, P .next [(Str.ofString "row", .val (.str ((c :: r').drop (thingSize (c :: r'))))), (Str.ofString "things", .own a (ts.map D.str ++ [.str ((c :: r').take (thingSize (c :: r')))])), (Str.ofString "size", .val (.int (thingSize (c :: r'))))] →
        ST pw w A env [(Str.ofString "row", .val (.str (c :: r'))), (Str.ofString "things", .own a (ts.map D.str)), (Str.ofString "size", .val (.int (thingSize (c :: r'))))] ((bodyOf ((defAt 14).body.drop 1)).drop 2) P := by
      intro P hP
      conv => arg 6; whnf
      refine ST.cons (ST1.append (a := a) (xs := ts.map D.str) (d := .str ((c :: r').take (thingSize (c :: r')))) rfl rfl rdT (by rw [← sl_take]; exact EV.slice_str (EV.nv rfl rdR) EVO.onone (EVO.osome (EV.nv rfl rdS))) (by simp [scalar]) (by rw [List.length_append, List.length_map, List.length_singleton]; have : 502 ≤ lim := (by decide); omega) ?_ (by decide) hI)
      refine ST.cons (ST1.assign (d := .str ((c :: r').drop (thingSize (c :: r')))) (by rw [← sl_drop]; exact EV.slice_str (EV.nv rfl rdR) (EVO.osome (EV.nv rfl rdS)) EVO.onone) ?_ wrR)
      exact ST.nil hP
    have key2 : ∃ k, k < m + 1 ∧ ∃ (r : List Nat) (ts' : List (List Nat)), (([(Str.ofString "row", Slot.val (.str ((c :: r').drop (thingSize (c :: r'))))), (Str.ofString "things", .own a (ts.map D.str ++ [.str ((c :: r').take (thingSize (c :: r')))])), (Str.ofString "size", .val (.int (thingSize (c :: r'))))] = [(Str.ofString "row", .val (.str r)), (Str.ofString "things", .own a (ts'.map D.str))]) ∨ ∃ z : Int, [(Str.ofString "row", Slot.val (.str ((c :: r').drop (thingSize (c :: r'))))), (Str.ofString "things", .own a (ts.map D.str ++ [.str ((c :: r').take (thingSize (c :: r')))])), (Str.ofString "size", .val (.int (thingSize (c :: r'))))] = [(Str.ofString "row", .val (.str r)), (Str.ofString "things", .own a (ts'.map D.str)), (Str.ofString "size", .val (.int z))]) ∧
      r.length ≤ k ∧ ts' ++ thingsF k r = thingsP row ∧ ts'.length + r.length ≤ row.length := by
      refine ⟨m, Nat.lt_succ_self _, (c :: r').drop (thingSize (c :: r')), ts ++ [(c :: r').take (thingSize (c :: r'))], .inr ⟨thingSize (c :: r'), ?_⟩, ?_, ?_, ?_⟩
      · rw [List.map_append]; rfl
      · have := thingSize_pos (c :: r')
        rw [List.length_drop]; omega
      · rw [← hts]; conv => rhs; rw [thingsF, if_neg hb']
        simp
      · have := thingSize_pos (c :: r')
        rw [List.length_append, List.length_drop, List.length_singleton]
        simp only [List.length_cons] at hlen2 ⊢
        omega
    refine ST.cons (ST1.ite (BV.cmp (EV.sub (EV.nv rfl rdR) (EV.cint 0 0) (ItemV.str (c := c) (by decide) (by decide) (StrLaws.seqIndex_nonneg (Int.le_refl _) (by simp)) rfl)) (EV.cstr [40] 0 (by decide +kernel) one) (CmpV.eq_str [c] [40])) (fun hc => ?_) fun hc => ?_)
    · have hc' : c = 40 := by simpa using hc
      refine ST.cons (ST1.assign (EV.cint 4 0) ?_ wrS)
      refine ST.cons (ST1.while (n := (c :: r').length) (fun m ρ' => ∃ z : Nat, ρ' = [(Str.ofString "row", .val (.str (c :: r'))), (Str.ofString "things", .own a (ts.map D.str)), (Str.ofString "size", .val (.int z))] ∧ sizeF (c :: r') m z = thingSize (c :: r') ∧ (c :: r').length ≤ z + m)
        ⟨4, rfl, by unfold thingSize; rw [if_pos (by rw [hc']; rfl)], by omega⟩ ?_)
      rintro m' ρ' ⟨z, rfl, hz, hzl⟩
      refine ⟨_, BV.and2 (BV.cmp (EV.nv rfl rdS) (EV.len (EV.nv rfl rdR) (len_D_str (c :: r')) kL) (CmpV.lt_int z (c :: r').length)) (fun _ => BV.not (BV.plain (EV.call (fn_check (addr := (c :: r').take z) (by rw [List.length_take]; omega)) (EVL.cons (by rw [← sl_take]; exact EV.slice_str (EV.nv rfl rdR) EVO.onone (EVO.osome (EV.nv rfl rdS))) EVL.nil) hA (names_in _ (by kernel_rfl)) kC (by decide) ⟨_, _, rfl, rfl, rfl⟩) (TruthV.bool _))), fun ht => ?_, fun ht => ?_⟩
      · have ht' : z < (c :: r').length ∧ checkP ((c :: r').take z) = false := by
          rw [Bool.and_eq_true] at ht
          refine ⟨?_, by simpa using ht.2⟩
          have := of_decide_eq_true ht.1
          omega
        obtain ⟨f, rfl⟩ : ∃ f, m' = f + 1 := ⟨m' - 1, by omega⟩
        rw [sizeF, if_pos ht'] at hz
        refine ST.cons (ST1.assign (EV.binop (EV.nv rfl rdS) (EV.cint 3 0) (BinV.add_int z 3)) ?_ wrS)
        exact ST.nil ⟨f, Nat.lt_succ_self _, z + 3, rfl, hz, by omega⟩
      · have ht' : ¬ (z < (c :: r').length ∧ checkP ((c :: r').take z) = false) := by
          rintro ⟨h1, h2⟩
          rw [h2, decide_eq_true (by omega)] at ht
          cases ht
        have hzz : z = thingSize (c :: r') := by
          cases m' with
          | zero => exact hz
          | succ f => rw [sizeF, if_neg ht'] at hz; exact hz
        rw [hzz]
        exact ST.nil (ST.nil (key _ key2))
    · have hc' : ¬ c = 40 := by simpa using hc
      have : thingSize (c :: r') = 1 := by unfold thingSize; rw [if_neg (by simpa using hc')]
      rw [this] at key key2
      exact ST.nil (key _ key2)
  · have hb' : r = [] := by simpa using hb
    subst hb'
    have : thingsF n [] = [] := by cases n <;> rfl
    rw [this, List.append_nil] at hts
    subst hts
    exact ST.nil (ST.cons (ST1.ret (EV.no l2 rdT) rfl))
end
end Mine
end
section
open PySem PySem.W PyProof.Rows PySem.Builtin.Str PySem.StrLaws
set_option Elab.async false
set_option autoImplicit false
set_option linter.unusedVariables false
namespace Mine
theorem swC {env : Env} {elt : Expr} {gens : List Comprehension} {sc : Scope} {pos tp : Pos} {t : Str} {line : Nat} (hb : env.blockKind = .function) (hk : env.kindOf t = some .local) (hl : (tp.line == pos.line) = true) (hn : (sc.names.any fun (n, k) => n == t && (k == .local || k == .cell)) = false) :
    swapsWith (.ListComp elt gens sc pos) (some (.Name t tp)) line env = pure true := by
  unfold swapsWith
  simp only [hb, hk]
  show pure (_ && (tp.line == pos.line) && !(sc.names.any fun (n, k) => n == t && (k == .local || k == .cell))) = _
  rw [hl, hn]; rfl
theorem swCell {env : Env} {elt : Expr} {gens : List Comprehension} {sc : Scope} {pos tp : Pos} {t : Str} {line : Nat} (hk : env.kindOf t = some .cell) :
    swapsWith (.ListComp elt gens sc pos) (some (.Name t tp)) line env = pure false := by
  unfold swapsWith
  simp only [hk]
  show pure ((_ && false) && _ && _) = _
  simp
theorem FEnv.block {sc : Scope} {env : Env} (h : FEnv sc env) (hk : sc.kind = .function) : env.blockKind = .function := by unfold Env.blockKind; rw [h.scope, hk]; rfl

noncomputable abbrev Wd := List Nat × Int
noncomputable def wD (x : Wd) : D := .tup [.str x.1, .int x.2]
noncomputable def wsD (v : List Wd) : D := .lst (v.map wD)
noncomputable def stepP (words value : List Wd) : List Wd := words.flatMap fun x => value.map fun y => (x.1 ++ y.1, x.2 * y.2)
noncomputable def prodP (values : List (List Wd)) : List Wd := values.foldl stepP [([], 1)]
noncomputable def sg (n : Int) : Prop := n = 1 ∨ n = -1
noncomputable def OkV (v : List Wd) : Prop := v.length ≤ 16 ∧ ∀ x ∈ v, x.1.length ≤ 5 ∧ sg x.2
theorem sg.mul {a b : Int} (h : sg a) (h' : sg b) : sg (a * b) := by
  unfold sg; rcases h with rfl | rfl <;> rcases h' with rfl | rfl <;> simp
theorem sg.ok {a b : Int} (h : sg a) : IntMulOk a b := by
  refine PySem.IntMulOk.of_left (PySem.intBits_le_64 ?_ ?_) <;> rcases h with rfl | rfl <;> decide
theorem stepP_length (words value : List Wd) : (stepP words value).length = words.length * value.length := by
  unfold stepP
  induction words with
  | nil => simp
  | cons x r ih => rw [List.flatMap_cons, List.length_append, ih, List.length_map, List.length_cons, Nat.succ_mul]; omega
theorem stepP_ok {words value : List Wd} {n : Nat} (h : ∀ x ∈ words, x.1.length ≤ 5 * n ∧ sg x.2) (hv : OkV value) : ∀ x ∈ stepP words value, x.1.length ≤ 5 * (n + 1) ∧ sg x.2 := by
  intro z hz
  unfold stepP at hz
  obtain ⟨x, hx, hz⟩ := List.mem_flatMap.mp hz
  obtain ⟨y, hy, rfl⟩ := List.mem_map.mp hz
  have h1 := h x hx
  have h2 := hv.2 y hy
  exact ⟨by simp only [List.length_append]; omega, h1.2.mul h2.2⟩

section
variable {w : World}
theorem pow16 {n k : Nat} (h : n ≤ 4) (hk : k ≤ 16 ^ n) (m : Nat) (hm : m ≤ 16) : k * m ≤ lim := by
  have h1 : 16 ^ n ≤ 16 ^ 4 := Nat.pow_le_pow_right (by decide) h
  have h2 : k * m ≤ 16 ^ 4 * 16 := Nat.mul_le_mul (by omega) hm
  exact Nat.le_trans h2 (by decide)
theorem fn_product {values : List (List Wd)} (hlen : values.length ≤ 5) (hv : ∀ v ∈ values, OkV v) : FN pw w 2 (Str.ofString "_law_product") [.lst (values.map wsD)] (wsD (prodP values)) := by
  refine FN.intro (n := 1) (rc := defAt 15) (names := [Str.ofString "values"]) r_product ?_ rfl (by decide +kernel) (by decide +kernel) (by kernel_rfl) (by kernel_rfl) (by kernel_rfl) ?_
  · intro pm code doc vs hv
    match vs, hv with
    | [a], _ => rfl
  intro A env hA FE
  have rdV := FE.rd (x := Str.ofString "values") (by decide +kernel)
  have rdW := FE.rd (x := Str.ofString "words") (by decide +kernel)
  have wrW := FE.wr (x := Str.ofString "words") (by decide +kernel)
  have wrV := FE.wr (x := Str.ofString "value") (by decide +kernel)
  have capV : Cap env (Str.ofString "value") := FE.cap (by decide +kernel)
  have kW : env.kindOf (Str.ofString "words") = some .local := FE.kind (by decide +kernel)
  have bk := FE.block (by kernel_rfl)
  have one : ([([], 1)] : List Wd).length ≤ lim := (by decide : 1 ≤ lim)
  conv => arg 6; whnf
  refine ST.cons (ST1.assign (d := wsD [([], 1)]) (EV.clist (EVL.cons (EV.ctuple (EVL.cons (EV.cstr [] 0 (by decide +kernel) (Nat.zero_le _)) (EVL.cons (EV.cint 1 0) EVL.nil)) (by decide : 2 ≤ lim)) EVL.nil) (by decide : 1 ≤ lim)) ?_ wrW)
  refine ST.cons (ST1.for (sqf := true) (ds := values.map wsD) (fun i ρ' => ∃ ws : List Wd, ((ρ' = [(Str.ofString "values", .val (.lst (values.map wsD))), (Str.ofString "words", .val (wsD ws))]) ∨ ∃ d : D, ρ' = [(Str.ofString "values", .val (.lst (values.map wsD))), (Str.ofString "words", .val (wsD ws)), (Str.ofString "value", .val d)]) ∧
      (values.drop i).foldl stepP ws = prodP values ∧ ws.length ≤ 16 ^ i ∧ ∀ x ∈ ws, x.1.length ≤ 5 * i ∧ sg x.2)
    (IterE.list hA.1 (EV.nv rfl rdV)) ⟨[([], 1)], .inl rfl, rfl, Nat.le_refl _, fun x hx => by rw [List.mem_singleton] at hx; subst hx; exact ⟨Nat.le_refl _, .inl rfl⟩⟩ (fun i ρ' h _ => by obtain ⟨ws, rfl | ⟨d, rfl⟩, _⟩ := h <;> rfl) (fun i d ρ' hd h => ?_) fun ρ' h => ?_)
  · obtain ⟨ws, hρ, hf, hwl, hwx⟩ := h
    rw [List.getElem?_map] at hd
    obtain ⟨v, hvi, rfl⟩ := Option.map_eq_some_iff.mp hd
    have hok := hv v (List.mem_of_getElem? hvi)
    obtain ⟨hi, hvi'⟩ := List.getElem?_eq_some_iff.mp hvi
    have hdrop : values.drop i = v :: values.drop (i + 1) := by rw [← hvi']; exact List.drop_eq_getElem_cons hi
    rw [hdrop, List.foldl_cons] at hf
    refine ⟨[(Str.ofString "values", .val (.lst (values.map wsD))), (Str.ofString "words", .val (wsD ws)), (Str.ofString "value", .val (wsD v))], ?_, fun _ => rfl, ?_⟩
    · rcases hρ with rfl | ⟨d, rfl⟩
      · exact AT.name wrV
      · exact AT.name wrV
    clear hρ
    have hres : ((ws.flatMap fun x => v.map fun y => wD (x.1 ++ y.1, x.2 * y.2))).length ≤ lim := by
      have : (ws.flatMap fun x => v.map fun y => wD (x.1 ++ y.1, x.2 * y.2)) = (stepP ws v).map wD := by
        unfold stepP; rw [List.map_flatMap]; simp [List.map_map, Function.comp_def]
      rw [this, List.length_map, stepP_length]
      exact pow16 (by omega) hwl _ hok.1
    have e : D.lst (ws.flatMap fun x => v.map fun y => wD (x.1 ++ y.1, x.2 * y.2)) = wsD (stepP ws v) := by
      unfold wsD stepP; rw [List.map_flatMap]; simp [List.map_map, Function.comp_def]
    refine ST.cons (ST1.comp (sqf := true) (ds := ws.map wD) (res := ws.flatMap fun x => v.map fun y => wD (x.1 ++ y.1, x.2 * y.2)) (IterE.list hA.1 (EV.nv (d := .lst (ws.map wD)) rfl rdW)) rfl (by decide +kernel) (by decide +kernel) (fun n hn => ?_) hres
      (LoopOk.two (sqf := true) ws wD v wD (fun x y => wD (x.1 ++ y.1, x.2 * y.2)) hres (fun _ _ => rfl) fun cenv C CE x hx => ?_) wrW ?_ rfl (swC bk kW (by rfl) (by decide +kernel)))
    · have : n = Str.ofString "value" := by
        simp only [List.mem_cons, Prod.mk.injEq, reduceCtorEq, and_false, List.not_mem_nil, or_false, false_or, and_true] at hn
        exact hn
      rw [this]; exact capV
    · have h1 := hwx x hx
      refine ⟨_, AT.pair (d1 := .str x.1) (d2 := .int x.2) hA.1 rfl (CE.wr (by decide +kernel)) (CE.wr (by decide +kernel)), ?_, rfl, IterE.list hA.1 (EV.nv (d := .lst (v.map wD)) rfl (CE.rdF (by decide +kernel) (by decide))), fun y hy => ⟨_, AT.pair (d1 := .str y.1) (d2 := .int y.2) hA.1 rfl (CE.wr (by decide +kernel)) (CE.wr (by decide +kernel)), ?_, rfl, ?_⟩⟩
      · exact Sub.set (Sub.set (Sub.refl _) rfl _) rfl _
      · exact Sub.set (Sub.set (Sub.refl _) rfl _) rfl _
      · have h2 := hok.2 y hy
        have hl5 : (x.1 ++ y.1).length ≤ lim := by
          rw [List.length_append]
          have : 30 ≤ lim := by decide
          omega
        exact EV.ctuple (EVL.cons (EV.call (fn_add fun A => BinV.add_str x.1 y.1 hl5) (EVL.cons (EV.nv rfl (CE.rdL (by decide +kernel))) (EVL.cons (EV.nv rfl (CE.rdL (by decide +kernel))) EVL.nil)) (hA.le (by decide)) (names_in _ (by kernel_rfl)) (CE.glob (by decide +kernel)) (by decide) ⟨_, _, rfl, rfl, rfl⟩)
          (EVL.cons (EV.call (fn_mul h1.2.ok) (EVL.cons (EV.nv rfl (CE.rdL (by decide +kernel))) (EVL.cons (EV.nv rfl (CE.rdL (by decide +kernel))) EVL.nil)) (hA.le (by decide)) (names_in _ (by kernel_rfl)) (CE.glob (by decide +kernel)) (by decide) ⟨_, _, rfl, rfl, rfl⟩) EVL.nil)) (by decide : 2 ≤ lim)
    · rw [e]
      refine ST.nil ⟨stepP ws v, .inr ⟨wsD v, rfl⟩, hf, ?_, stepP_ok hwx hok⟩
      rw [stepP_length, Nat.pow_succ]
      exact Nat.mul_le_mul hwl hok.1
  · obtain ⟨ws, hρ, hf, _⟩ := h
    rw [List.length_map, List.drop_length] at hf
    have hf' : ws = prodP values := hf
    subst hf'
    rcases hρ with rfl | ⟨d, rfl⟩
    · exact ST.cons (ST1.ret (EV.nv rfl rdW) rfl)
    · exact ST.cons (ST1.ret (EV.nv rfl rdW) rfl)
end
end Mine
end
section
open PySem PySem.W PyProof.Rows PySem.Builtin.Str PySem.StrLaws
set_option Elab.async false
set_option autoImplicit false
set_option linter.unusedVariables false
namespace Mine
inductive Tree where
  | leaf (c : Nat)
  | node (l r : Tree)
noncomputable def sh : Tree → List Nat
  | .leaf c => [c]
  | .node l r => [40] ++ sh l ++ sh r ++ [41]
noncomputable def leaves : Tree → List Nat
  | .leaf c => [c]
  | .node l r => leaves l ++ leaves r
noncomputable def ht : Tree → Nat
  | .leaf _ => 0
  | .node l r => max (ht l) (ht r) + 1
noncomputable def letter (c : Nat) : Prop := 97 ≤ c ∧ c ≤ 101
noncomputable def LtT (t : Tree) : Prop := ∀ c ∈ leaves t, letter c
noncomputable def negP (v : List Wd) : List Wd := v.map fun x => (x.1, -x.2)
noncomputable def valT : Tree → List Wd
  | .leaf c => [([c], 1)]
  | .node l r => prodP [valT l, valT r] ++ negP (prodP [valT r, valT l])
theorem leaves_pos : ∀ t : Tree, 1 ≤ (leaves t).length
  | .leaf _ => Nat.le_refl _
  | .node l r => by have := leaves_pos l; rw [leaves, List.length_append]; omega
theorem sh_len : ∀ t : Tree, (sh t).length + 2 = 3 * (leaves t).length
  | .leaf _ => rfl
  | .node l r => by
    have h1 := sh_len l
    have h2 := sh_len r
    simp only [sh, leaves, List.length_append, List.length_cons, List.length_nil]
    omega
theorem prod2 (a b : List Wd) : prodP [a, b] = stepP a b := by
  unfold prodP
  simp only [List.foldl_cons, List.foldl_nil]
  congr 1
  unfold stepP
  simp
theorem valT_ok : ∀ t : Tree, (leaves t).length ≤ 5 → (valT t).length = 2 ^ ((leaves t).length - 1) ∧ ∀ x ∈ valT t, x.1.length = (leaves t).length ∧ sg x.2
  | .leaf c, _ => ⟨rfl, fun x hx => by
      have : x = ([c], 1) := by simpa [valT] using hx
      subst this; exact ⟨rfl, .inl rfl⟩⟩
  | .node l r, h => by
    have pl := leaves_pos l
    have pr := leaves_pos r
    have hll : (leaves (.node l r)).length = (leaves l).length + (leaves r).length := by rw [leaves, List.length_append]
    have hl := valT_ok l (by omega)
    have hr := valT_ok r (by omega)
    refine ⟨?_, ?_⟩
    · rw [valT, List.length_append, negP, List.length_map, prod2, prod2, stepP_length, stepP_length, hl.1, hr.1, hll]
      rw [Nat.mul_comm (2 ^ ((leaves r).length - 1)), ← Nat.pow_add, ← Nat.two_mul, ← Nat.pow_succ']
      congr 1; omega
    · intro x hx
      rw [hll]
      rw [valT, List.mem_append] at hx
      rcases hx with hx | hx
      · rw [prod2] at hx
        obtain ⟨a, ha, hx⟩ := List.mem_flatMap.mp hx
        obtain ⟨b, hb, rfl⟩ := List.mem_map.mp hx
        have h1 := hl.2 a ha
        have h2 := hr.2 b hb
        exact ⟨by rw [List.length_append, h1.1, h2.1], h1.2.mul h2.2⟩
      · obtain ⟨y, hy, rfl⟩ := List.mem_map.mp hx
        rw [prod2] at hy
        obtain ⟨a, ha, hy⟩ := List.mem_flatMap.mp hy
        obtain ⟨b, hb, rfl⟩ := List.mem_map.mp hy
        have h1 := hr.2 a ha
        have h2 := hl.2 b hb
        refine ⟨by simp only [List.length_append]; omega, ?_⟩
        have := h1.2.mul h2.2
        unfold sg at *
        dsimp only
        omega
theorem valT_okv {t : Tree} (h : (leaves t).length ≤ 5) : OkV (valT t) := by
  have := valT_ok t h
  refine ⟨?_, fun x hx => ⟨by rw [(this.2 x hx).1]; exact h, (this.2 x hx).2⟩⟩
  rw [this.1]
  exact Nat.le_trans (Nat.pow_le_pow_right (by decide) (show (leaves t).length - 1 ≤ 4 by omega)) (by decide)
theorem FN.le {p : Program} {w : World} {n m : Nat} {f : Str} {ds : List D} {d : D} (h : FN p w n f ds d) (hm : n ≤ m) : FN p w m f ds d := fun A X s Q E vs fa mg hA => h A X s Q E vs fa mg (hA.le hm)
theorem sh_inner (l r : Tree) : sl (sh (.node l r)) (some 1) (some (-1)) = sh l ++ sh r := by
  unfold sl
  have h1 : clipI (some (1 : Int)) (sh (.node l r)).length 0 = 1 := by
    rw [show (1 : Int) = ((1 : Nat) : Int) from rfl, clip_nat]
    simp [sh]
  have h2 : clipI (some (-1 : Int)) (sh (.node l r)).length (sh (.node l r)).length = (sh l ++ sh r).length + 1 := by
    show (if (-1 : Int) < 0 then ((-1 : Int) + ((sh (.node l r)).length : Int)).toNat else min (-1 : Int).toNat (sh (.node l r)).length) = _
    rw [if_pos (by decide)]
    simp only [sh, List.length_append, List.length_cons, List.length_nil]
    omega
  rw [h1, h2]
  show (([40] ++ sh l ++ sh r ++ [41]).take _).drop 1 = _
  have : [40] ++ sh l ++ sh r ++ [41] = 40 :: ((sh l ++ sh r) ++ [41]) := by simp
  rw [this, List.take_succ_cons, List.drop_succ_cons, List.drop_zero, List.take_left]

theorem noFree {env : Env} {names : List (Str × NameKind)} (h : (names.all fun q => q.2 != .free) = true) : ∀ n, (n, NameKind.free) ∈ names → Cap env n := fun n hn => by
  have := List.all_eq_true.mp h _ hn
  cases this
section
variable {w : World}
theorem fn_value (H : ∀ l r : Tree, LtT l → LtT r → thingsP (sh l ++ sh r) = [sh l, sh r]) : ∀ t : Tree, LtT t → (leaves t).length ≤ 5 → FN pw w (5 + ht t) (Str.ofString "_law_value") [.str (sh t)] (wsD (valT t)) := by
  intro t
  induction t with
  | leaf c =>
    intro _ _
    refine FN.intro (n := 4) (rc := defAt 16) (names := [Str.ofString "thing"]) r_value ?_ rfl (by decide +kernel) (by decide +kernel) (by kernel_rfl) (by kernel_rfl) (by kernel_rfl) ?_
    · intro pm code doc vs hv
      match vs, hv with
      | [a], _ => rfl
    intro A env hA FE
    have rdT := FE.rd (x := Str.ofString "thing") (by decide +kernel)
    have kL := FE.kind (x := Str.ofString "len") (k := .globalImplicit) (by decide +kernel)
    conv => arg 6; whnf
    refine ST.cons (ST1.ite (b := true) (BV.cmp (EV.len (EV.nv (d := .str [c]) rfl rdT) (len_D_str [c]) kL) (EV.cint 1 0) (CmpV.eq_int 1 1)) (fun _ => ?_) fun h => by cases h)
    exact ST.cons (ST1.ret (d := wsD [([c], 1)]) (EV.clist (EVL.cons (EV.ctuple (EVL.cons (EV.nv (d := .str [c]) rfl rdT) (EVL.cons (EV.cint 1 0) EVL.nil)) (by decide : 2 ≤ lim)) EVL.nil) (by decide : 1 ≤ lim)) rfl)
  | node l r ihl ihr =>
    intro hlt hle
    have pl := leaves_pos l
    have pr := leaves_pos r
    have hll : (leaves (.node l r)).length = (leaves l).length + (leaves r).length := by rw [leaves, List.length_append]
    have ltl : LtT l := fun c hc => hlt c (by rw [leaves]; exact List.mem_append_left _ hc)
    have ltr : LtT r := fun c hc => hlt c (by rw [leaves]; exact List.mem_append_right _ hc)
    have fl := ihl ltl (by omega)
    have fr := ihr ltr (by omega)
    have hsl := sh_len l
    have hsr := sh_len r
    have hs := sh_len (.node l r)
    have okl := valT_okv (t := l) (by omega)
    have okr := valT_okv (t := r) (by omega)
    refine FN.intro (n := 5 + max (ht l) (ht r)) (rc := defAt 16) (names := [Str.ofString "thing"]) r_value ?_ rfl (by decide +kernel) (by decide +kernel) (by kernel_rfl) (by kernel_rfl) (by kernel_rfl) ?_
    · intro pm code doc vs hv
      match vs, hv with
      | [a], _ => rfl
    intro A env hA FE
    have rdT := FE.rd (x := Str.ofString "thing") (by decide +kernel)
    have rdP := FE.rd (x := Str.ofString "parts") (by decide +kernel)
    have wrP := FE.wr (x := Str.ofString "parts") (by decide +kernel)
    have kP : env.kindOf (Str.ofString "parts") = some .local := FE.kind (by decide +kernel)
    have kL := FE.kind (x := Str.ofString "len") (k := .globalImplicit) (by decide +kernel)
    have kT := FE.kind (x := Str.ofString "_law_things") (k := .globalImplicit) (by decide +kernel)
    have kPr := FE.kind (x := Str.ofString "_law_product") (k := .globalImplicit) (by decide +kernel)
    have bk := FE.block (by kernel_rfl)
    conv => arg 6; whnf
    refine ST.cons (ST1.ite (b := false) (BV.cmp (EV.len (EV.nv (d := .str (sh (.node l r))) rfl rdT) (len_D_str (sh (.node l r))) kL) (EV.cint 1 0) (by
      have := CmpV.eq_int (p := pw) (w := w) (A := A) ((sh (.node l r)).length : Int) 1
      rw [decide_eq_false (by omega)] at this; exact this)) (fun h => by cases h) fun _ => ?_)
    refine ST.nil ?_
    have hinn : (sh l ++ sh r).length ≤ 500 := by rw [List.length_append]; omega
    have ft : FN pw w 4 (Str.ofString "_law_things") [.str (sh l ++ sh r)] (.lst ([l, r].map fun t => D.str (sh t))) := by
      have := fn_things (w := w) hinn
      rw [H l r ltl ltr] at this
      exact this
    refine ST.cons (ST1.comp (sqf := true) (ds := [l, r].map fun t => D.str (sh t)) (res := ([l, r].filter fun _ => true).map fun t => wsD (valT t)) (IterE.list hA.1 (EV.call ft (by rw [← sh_inner]; exact EVL.cons (EV.slice_str (EV.nv rfl rdT) (EVO.osome (EV.cint 1 0)) (EVO.osome (EV.unop (EV.cint 1 0) (UnV.neg 1)))) EVL.nil) (hA.le (by omega)) (names_in _ (by kernel_rfl)) kT (by decide) ⟨_, _, rfl, rfl, rfl⟩)) rfl (by decide +kernel) (by decide +kernel) (noFree (by decide +kernel)) (by decide : 2 ≤ lim)
      (LoopOk.one [l, r] (fun t => D.str (sh t)) (fun _ => true) (fun t => wsD (valT t)) (by decide : 2 ≤ lim) fun cenv C CE x hx => ?_) wrP ?_ rfl (swC bk kP (by rfl) (by decide +kernel)))
    · refine ⟨_, AT.name (d := .str (sh x)) (CE.wr (by decide +kernel)), Sub.set (Sub.refl _) rfl _, rfl, BVs.nil, fun _ => ?_⟩
      simp only [List.mem_cons, List.not_mem_nil, or_false] at hx
      rcases hx with rfl | rfl
      · exact EV.call fl (EVL.cons (EV.nv rfl (CE.rdL (by decide +kernel))) EVL.nil) (hA.le (by omega)) (names_in _ (by kernel_rfl)) (CE.glob (by decide +kernel)) (by decide) ⟨_, _, rfl, rfl, rfl⟩
      · exact EV.call fr (EVL.cons (EV.nv rfl (CE.rdL (by decide +kernel))) EVL.nil) (hA.le (by omega)) (names_in _ (by kernel_rfl)) (CE.glob (by decide +kernel)) (by decide) ⟨_, _, rfl, rfl, rfl⟩
    have e1 : (([l, r].filter fun _ => true).map fun t => wsD (valT t)) = [valT l, valT r].map wsD := rfl
    rw [e1]
    have v1 := valT_ok l (by omega)
    have v2 := valT_ok r (by omega)
    have b4 : ∀ k, k ≤ 4 → 2 ^ k ≤ 16 := fun k hk => Nat.le_trans (Nat.pow_le_pow_right (by decide) hk) (by decide)
    have pb : ∀ a b : List Wd, a.length ≤ 16 → b.length ≤ 16 → (prodP [a, b]).length ≤ 256 := fun a b h1 h2 => by
      rw [prod2, stepP_length]; exact Nat.mul_le_mul h1 h2
    have big : 512 ≤ lim := by decide
    refine ST.cons (ST1.ret (d := wsD (valT (.node l r))) (EV.binop (d1 := .lst ((prodP [valT l, valT r]).map wD)) (d2 := .lst ((negP (prodP [valT r, valT l])).map wD)) (EV.call (fn_product (values := [valT l, valT r]) (by decide : 2 ≤ 5) (by intro v hv; simp only [List.mem_cons, List.not_mem_nil, or_false] at hv; rcases hv with rfl | rfl; exact okl; exact okr)) (EVL.cons (EV.nv (d := .lst ([valT l, valT r].map wsD)) rfl rdP) EVL.nil) (hA.le (by omega)) (names_in _ (by kernel_rfl)) kPr (by decide) ⟨_, _, rfl, rfl, rfl⟩) ?_ ?_) rfl)
    · have e2 : (negP (prodP [valT r, valT l])).map wD = ((prodP [valT r, valT l]).filter fun _ => true).map fun x => D.tup [.str x.1, .int (-x.2)] := by
        rw [List.filter_eq_self.mpr (by simp)]; unfold negP; rw [List.map_map]; rfl
      rw [e2]
      have hlen2 : (((prodP [valT r, valT l]).filter fun _ => true).map fun x => D.tup [.str x.1, .int (-x.2)]).length ≤ lim := by
        rw [← e2, List.length_map, negP, List.length_map]; exact Nat.le_trans (pb _ _ okr.1 okl.1) (by omega)
      refine EV.comp (sqf := true) (ds := (prodP [valT r, valT l]).map wD) (IterE.list hA.1 (EV.call (fn_product (values := [valT r, valT l]) (by decide : 2 ≤ 5) (by intro v hv; simp only [List.mem_cons, List.not_mem_nil, or_false] at hv; rcases hv with rfl | rfl; exact okr; exact okl)) (EVL.cons (EV.clist (EVL.cons (EV.sub (EV.nv (d := .lst ([valT l, valT r].map wsD)) rfl rdP) (EV.cint 1 0) (ItemV.lst (j := 1) (d := wsD (valT r)) (by decide) (by decide) rfl rfl)) (EVL.cons (EV.sub (EV.nv (d := .lst ([valT l, valT r].map wsD)) rfl rdP) (EV.cint 0 0) (ItemV.lst (j := 0) (d := wsD (valT l)) (by decide) (by decide) rfl rfl)) EVL.nil)) (by decide : 2 ≤ lim)) EVL.nil) (hA.le (by omega)) (names_in _ (by kernel_rfl)) kPr (by decide) ⟨_, _, rfl, rfl, rfl⟩)) rfl (by decide +kernel) (by decide +kernel) (noFree (by decide +kernel)) hlen2
        (LoopOk.one (prodP [valT r, valT l]) wD (fun _ => true) (fun x => D.tup [.str x.1, .int (-x.2)]) hlen2 fun cenv C CE x hx => ?_)
      refine ⟨_, AT.pair (d1 := .str x.1) (d2 := .int x.2) hA.1 rfl (CE.wr (by decide +kernel)) (CE.wr (by decide +kernel)), Sub.set (Sub.set (Sub.refl _) rfl _) rfl _, rfl, BVs.nil, fun _ => ?_⟩
      exact EV.ctuple (EVL.cons (EV.nv rfl (CE.rdL (by decide +kernel))) (EVL.cons (EV.call fn_neg (EVL.cons (EV.nv rfl (CE.rdL (by decide +kernel))) EVL.nil) (hA.le (by omega)) (names_in _ (by kernel_rfl)) (CE.glob (by decide +kernel)) (by decide) ⟨_, _, rfl, rfl, rfl⟩) EVL.nil)) (by decide : 2 ≤ lim)
    · have : wsD (valT (.node l r)) = .lst (((prodP [valT l, valT r]).map wD) ++ ((negP (prodP [valT r, valT l])).map wD)) := by
        rw [valT, wsD, List.map_append]
      rw [this]
      refine BinV.add_list _ _ ?_
      rw [List.length_append, List.length_map, List.length_map, negP, List.length_map]
      have := pb _ _ okl.1 okr.1
      have := pb _ _ okr.1 okl.1
      omega
end
end Mine
end
section
open PySem PySem.W PyProof.Rows PySem.Builtin.Str PySem.StrLaws
set_option Elab.async false
set_option autoImplicit false
set_option linter.unusedVariables false
namespace Mine
section
variable {p : Program} {w : World} {A : Around} {env : Env} {ρ : Loc} {pos : Pos}
theorem EV.and {e₁ e₂ : Expr} {rest : List Expr} {b c : Bool} (h1 : EV p w A env ρ e₁ (.bool b)) (h2 : b = true → EV p w A env ρ (.BoolOp .And (e₂ :: rest) pos) (.bool c)) : EV p w A env ρ (.BoolOp .And (e₁ :: e₂ :: rest) pos) (.bool (b && c)) :=
  fun B s Q E F k => BoolOp_and (h1 B s _ _ F fun v s1 e1 r1 => by
    have : v = .bool b := r1
    subst this
    refine wpAny_truthy_bool ?_
    cases b with
    | false => exact k _ s1 e1 rfl
    | true => exact h2 rfl B s1 _ _ (F.evo e1) fun v2 s2 e2 r2 => k v2 s2 (e1.trans e2) r2)
theorem EV.and1 {e : Expr} {c : Bool} (h : EV p w A env ρ e (.bool c)) : EV p w A env ρ (.BoolOp .And [e] pos) (.bool c) := fun B s Q E F k => BoolOp_one (h B s Q E F k)
theorem EV.and2 {e₁ e₂ : Expr} {b c : Bool} (h1 : EV p w A env ρ e₁ (.bool b)) (h2 : b = true → EV p w A env ρ e₂ (.bool c)) : EV p w A env ρ (.BoolOp .And [e₁, e₂] pos) (.bool (b && c)) := EV.and h1 fun h => EV.and1 (h2 h)
theorem EV.and3 {e₁ e₂ e₃ : Expr} {b c d : Bool} (h1 : EV p w A env ρ e₁ (.bool b)) (h2 : b = true → EV p w A env ρ e₂ (.bool c)) (h3 : c = true → EV p w A env ρ e₃ (.bool d)) : EV p w A env ρ (.BoolOp .And [e₁, e₂, e₃] pos) (.bool (b && (c && d))) := EV.and h1 fun h => EV.and (h2 h) fun h => EV.and1 (h3 h)

theorem ints_are {X : List Addr} {h : Heap} : ∀ {is : List Int} {vs : List Value}, RepL X h (is.map D.int) vs → IntsAre vs is
  | [], _, r => by cases r; exact .nil
  | i :: is, _, ⟨v, r, e, ⟨t, ht⟩, hr⟩ => by subst e ht; exact .cons i t (ints_are hr)
theorem CmpV.ne_nil_ints (is : List Int) (hu : A.units + 64 < cLine) : CmpV p w A .NotEq (.lst (is.map D.int)) (.lst []) (!decide (is = [])) := by
  rintro X s Q E _ _ hX ⟨_, a, vs, rfl, _, ha, ra⟩ ⟨_, b, us, rfl, _, hb, rb⟩ k
  exact ne_intsK ha (ints_are ra) hb (ints_are (is := []) rb) hu (k s (Evo.refl s))
theorem CmpV.eq_nil (xs : List D) (hu : A.units + 64 < cLine) : CmpV p w A .Eq (.lst xs) (.lst []) (decide (xs = [])) := by
  rintro X s Q E _ _ hX ⟨_, a, vs, rfl, _, ha, ra⟩ ⟨_, b, us, rfl, _, hb, rb⟩ k
  cases xs with
  | nil =>
    have := eq_intsK (prog := p) (w := w) (A := A) (E := E) (Q := Q) (s := s) ha (ints_are (is := []) ra) hb (ints_are (is := []) rb) hu
    exact this (k s (Evo.refl s))
  | cons x r =>
    have hra := ra.length
    have hrb := rb.length
    exact PySem.SeqAt.eq_list_lengthsAt ha hb (by simp only [List.size_toArray, hra, hrb]; rfl) (by omega) (k s (Evo.refl s))
end

theorem strKind_one (x : Str) : 1 ≤ Builtin.Str.strKind x := by unfold Builtin.Str.strKind; split; decide; split <;> decide
theorem split_two {want : List Nat} (h : inStr dots want = true) : 2 ≤ (splitD want dots).length := by
  unfold inStr at h
  have e0 : want.length = (⟨want.toArray⟩ : Str).length := by simp [Str.length]
  rw [e0] at h
  obtain ⟨i, h1, h2⟩ := (found_iff _ _).mp h
  have hlen : (⟨dots.toArray⟩ : Str).length = 3 := rfl
  have hk : Builtin.Str.strKind ⟨dots.toArray⟩ = 1 := by decide +kernel
  have hkw := strKind_one ⟨want.toArray⟩
  unfold splitD Txt.split
  rw [List.length_map, if_neg (by rw [hk]; simp only [Bool.or_eq_true, decide_eq_true_eq]; omega)]
  rcases occ_head (⟨want.toArray⟩ : Str) ⟨dots.toArray⟩ ((⟨want.toArray⟩ : Str).length + 1) (by omega) with ⟨_, hn⟩ | ⟨i, r, e, _⟩
  · exact absurd ⟨h1, h2⟩ (hn i)
  · rw [e, if_neg (by simp), len_partsBetween]; simp
theorem fn_em' {w : World} {want got : List Nat} (hl : want.length ≤ 1000) : FN pw w 1 (Str.ofString "_ellipsis_match") [.str want, .str got] (.bool (emP want got)) := by
  refine fn_em ?_ split_two ?_
  · have := split_le (⟨want.toArray⟩ : Str) ⟨dots.toArray⟩
    unfold splitD
    rw [List.length_map]
    have h2 : (⟨want.toArray⟩ : Str).length = want.length := by simp [Str.length]
    have : 1002 ≤ lim := by decide
    omega
  · have := split_pos (⟨want.toArray⟩ : Str) ⟨dots.toArray⟩
    unfold splitD; rw [List.length_map]; omega

noncomputable def standsP (text : List Nat) (words : List Wd) : Int := words.foldl (fun s x => if x.1 = text then s + x.2 else s) 0
noncomputable def cutsP (word head tail : List Nat) : List Nat := (List.range 6).filter fun k => inStr head (word.take k) && inStr tail (word.drop k)
noncomputable def joinedP (word head tail : List Nat) : Bool :=
  if emP (head ++ tail) word = decide (head ++ tail = word) then
    (if emP (head ++ dots ++ tail) word = (decide (head.length ≤ 5 - tail.length) && (decide (word.take head.length = head) && decide (word.drop (5 - tail.length) = tail))) then
      (if emP (dots ++ head ++ dots ++ tail) word = (decide (word.drop (5 - tail.length) = tail) && inStr head (word.take (5 - tail.length))) then
        emP (dots ++ head ++ dots ++ tail ++ dots) word == !decide (cutsP word head tail = [])
      else false) else false) else false

section
variable {w : World}
theorem EV.em {A : Around} {env : Env} {ρ : Loc} {x word : List Nat} {e ew : Expr} {p1 p2 : Pos} (hA : Ok 1 A) (kE : env.kindOf (Str.ofString "_ellipsis_match") = some .globalImplicit) (hx : x.length ≤ 1000) (he : EV pw w A env ρ e (.str x)) (hw : EV pw w A env ρ ew (.str word))
    (h1 : starEach [e, ew] env = (false, eval e env) :: starEach [ew] env := by rfl) (h2 : starEach [ew] env = (false, eval ew env) :: starEach [] env := by rfl) :
    EV pw w A env ρ (.Call (.Name (Str.ofString "_ellipsis_match") p1) [e, ew] [] p2) (.bool (emP x word)) :=
  EV.call (fn_em' hx) (EVL.cons he (EVL.cons hw EVL.nil h2) h1) hA (names_in _ (by kernel_rfl)) kE (by decide) ⟨_, _, rfl, h1, by rw [h1, h2]; rfl⟩
theorem fn_stands {text : List Nat} {words : List Wd} : FN pw w 2 (Str.ofString "_law_stands") [.str text, wsD words] (.int (standsP text words)) := by
  refine FN.intro (n := 1) (rc := defAt 17) (names := [Str.ofString "text", Str.ofString "words"]) r_stands ?_ rfl (by decide +kernel) (by decide +kernel) (by kernel_rfl) (by kernel_rfl) (by kernel_rfl) ?_
  · intro pm code doc vs hv
    match vs, hv with
    | [a, b], _ => rfl
  intro A env hA FE
  have rdT := FE.rd (x := Str.ofString "text") (by decide +kernel)
  have rdW := FE.rd (x := Str.ofString "words") (by decide +kernel)
  have rdS := FE.rd (x := Str.ofString "stands") (by decide +kernel)
  have rdWd := FE.rd (x := Str.ofString "word") (by decide +kernel)
  have rdN := FE.rd (x := Str.ofString "number") (by decide +kernel)
  have wrS := FE.wr (x := Str.ofString "stands") (by decide +kernel)
  have wrWd := FE.wr (x := Str.ofString "word") (by decide +kernel)
  have wrN := FE.wr (x := Str.ofString "number") (by decide +kernel)
  have kA := FE.kind (x := Str.ofString "add") (k := .globalImplicit) (by decide +kernel)
  conv => arg 6; whnf
  refine ST.cons (ST1.assign (EV.cint 0 0) ?_ wrS)
  refine ST.cons (ST1.for (sqf := true) (ds := words.map wD) (fun i ρ' => ∃ n : Int, ((ρ' = [(Str.ofString "text", .val (.str text)), (Str.ofString "words", .val (wsD words)), (Str.ofString "stands", .val (.int n))]) ∨ ∃ q : Wd, ρ' = [(Str.ofString "text", .val (.str text)), (Str.ofString "words", .val (wsD words)), (Str.ofString "stands", .val (.int n)), (Str.ofString "word", .val (.str q.1)), (Str.ofString "number", .val (.int q.2))]) ∧
      (words.drop i).foldl (fun s x => if x.1 = text then s + x.2 else s) n = standsP text words)
    (IterE.list hA.1 (EV.nv rfl rdW)) ⟨0, .inl rfl, rfl⟩ (fun i ρ' h _ => by obtain ⟨n, rfl | ⟨q, rfl⟩, _⟩ := h <;> rfl) (fun i d ρ' hd h => ?_) fun ρ' h => ?_)
  · obtain ⟨n, hρ, hc⟩ := h
    rw [List.getElem?_map] at hd
    obtain ⟨q, hq, rfl⟩ := Option.map_eq_some_iff.mp hd
    have hdrop : words.drop i = q :: words.drop (i + 1) := by
      obtain ⟨hi, rfl⟩ := List.getElem?_eq_some_iff.mp hq
      exact List.drop_eq_getElem_cons hi
    rw [hdrop, List.foldl_cons] at hc
    refine ⟨[(Str.ofString "text", .val (.str text)), (Str.ofString "words", .val (wsD words)), (Str.ofString "stands", .val (.int n)), (Str.ofString "word", .val (.str q.1)), (Str.ofString "number", .val (.int q.2))], ?_, (fun _ => rfl), ?_⟩
    · rcases hρ with rfl | ⟨q', rfl⟩
      · exact AT.pair (d1 := .str q.1) (d2 := .int q.2) hA.1 rfl wrWd wrN
      · exact AT.pair (d1 := .str q.1) (d2 := .int q.2) hA.1 rfl wrWd wrN
    clear hρ
    refine ST.cons (ST1.ite (BV.cmp (EV.nv rfl rdWd) (EV.nv rfl rdT) (CmpV.eq_str q.1 text)) (fun hb => ?_) fun hb => ?_)
    · rw [if_pos (by simpa using hb)] at hc
      refine ST.cons (ST1.assign (EV.call (fn_add fun A => BinV.add_int n q.2) (EVL.cons (EV.nv rfl rdS) (EVL.cons (EV.nv rfl rdN) EVL.nil)) hA (names_in _ (by kernel_rfl)) kA (by decide) ⟨_, _, rfl, rfl, rfl⟩) ?_ wrS)
      exact ST.nil (ST.nil ⟨n + q.2, .inr ⟨q, rfl⟩, hc⟩)
    · rw [if_neg (by simpa using hb)] at hc
      exact ST.nil (ST.nil ⟨n, .inr ⟨q, rfl⟩, hc⟩)
  · obtain ⟨n, hρ, hc⟩ := h
    rw [List.length_map, List.drop_length, List.foldl_nil] at hc
    subst hc
    rcases hρ with rfl | ⟨q', rfl⟩
    · exact ST.cons (ST1.ret (EV.nv rfl rdS) rfl)
    · exact ST.cons (ST1.ret (EV.nv rfl rdS) rfl)

theorem fn_joined {word head tail : List Nat} (hh : head.length ≤ 5) (ht : tail.length ≤ 5) : FN pw w 5 (Str.ofString "_law_joined") [.str word, .str head, .str tail] (.bool (joinedP word head tail)) := by
  refine FN.intro (n := 4) (rc := defAt 18) (names := [Str.ofString "word", Str.ofString "head", Str.ofString "tail"]) r_joined ?_ rfl (by decide +kernel) (by decide +kernel) (by kernel_rfl) (by kernel_rfl) (by kernel_rfl) ?_
  · intro pm code doc vs hv
    match vs, hv with
    | [a, b, c], _ => rfl
  intro A env hA FE
  have rdW := FE.rd (x := Str.ofString "word") (by decide +kernel)
  have rdH := FE.rd (x := Str.ofString "head") (by decide +kernel)
  have rdT := FE.rd (x := Str.ofString "tail") (by decide +kernel)
  have rdF := FE.rd (x := Str.ofString "front") (by decide +kernel)
  have rdB := FE.rd (x := Str.ofString "back") (by decide +kernel)
  have rdC := FE.rd (x := Str.ofString "cuts") (by decide +kernel)
  have wrF := FE.wr (x := Str.ofString "front") (by decide +kernel)
  have wrB := FE.wr (x := Str.ofString "back") (by decide +kernel)
  have wrC := FE.wr (x := Str.ofString "cuts") (by decide +kernel)
  have kCu : env.kindOf (Str.ofString "cuts") = some .local := FE.kind (by decide +kernel)
  have kL := FE.kind (x := Str.ofString "len") (k := .globalImplicit) (by decide +kernel)
  have kR := FE.kind (x := Str.ofString "range") (k := .globalImplicit) (by decide +kernel)
  have kE := FE.kind (x := Str.ofString "_ellipsis_match") (k := .globalImplicit) (by decide +kernel)
  have kCo := FE.kind (x := Str.ofString "contains") (k := .globalImplicit) (by decide +kernel)
  have bk := FE.block (by kernel_rfl)
  have capW : Cap env (Str.ofString "word") := FE.cap (by decide +kernel)
  have capH : Cap env (Str.ofString "head") := FE.cap (by decide +kernel)
  have capT : Cap env (Str.ofString "tail") := FE.cap (by decide +kernel)
  have hu : A.units + 64 < cLine := by have := hA.2.2; show _ < 9900; omega
  have three : dots.length ≤ lim := (by decide : 3 ≤ lim)
  have big : 30 ≤ lim := by decide
  have hd3 : dots.length = 3 := rfl
  conv => arg 6; whnf
  refine ST.cons (ST1.assign (EV.len (EV.nv rfl rdH) (len_D_str head) kL) ?_ wrF)
  refine ST.cons (ST1.assign (EV.binop (EV.cint 5 0) (EV.len (EV.nv rfl rdT) (len_D_str tail) kL) (BinV.sub_int 5 tail.length)) ?_ wrB)
  have eb : (5 : Int) - (tail.length : Int) = ((5 - tail.length : Nat) : Int) := by omega
  rw [eb]
  have hhl : head.length ≤ lim := by omega
  have htl : tail.length ≤ lim := by omega
  have lenEq : ∀ ks : List Nat, (ks.map fun (k : Nat) => D.int (k : Int)) = (ks.map fun (k : Nat) => (k : Int)).map D.int := fun ks => by rw [List.map_map]; rfl
  refine ST.cons (ST1.comp (sqf := false) (ds := (List.range 6).map fun (k : Nat) => D.int k) (res := (cutsP word head tail).map fun (k : Nat) => D.int k) (IterE.range (N := 6) hA.1 (EV.cint 6 0) (by decide) (by decide) kR) rfl (by decide +kernel) (by decide +kernel) (fun n hn => ?_) (Nat.le_trans (by rw [List.length_map]; exact List.length_filter_le _ _) (by decide : 6 ≤ lim))
    (LoopOk.one (List.range 6) (fun (k : Nat) => D.int k) (fun k => inStr head (word.take k) && inStr tail (word.drop k)) (fun (k : Nat) => D.int k) (Nat.le_trans (by rw [List.length_map]; exact List.length_filter_le _ _) (by decide : 6 ≤ lim)) fun cenv C CE k hk => ?_) wrC ?_ rfl (swC bk kCu (by rfl) (by decide +kernel)))
  · simp only [List.mem_cons, Prod.mk.injEq, reduceCtorEq, and_false, List.not_mem_nil, or_false, false_or, and_true] at hn
    rcases hn with rfl | rfl | rfl
    · exact capH
    · exact capT
    · exact capW
  · have rW : Rd cenv (Str.ofString "word") := CE.rdF (by decide +kernel) (by decide)
    have rH : Rd cenv (Str.ofString "head") := CE.rdF (by decide +kernel) (by decide)
    have rT : Rd cenv (Str.ofString "tail") := CE.rdF (by decide +kernel) (by decide)
    have rK : Rd cenv (Str.ofString "k") := CE.rdL (by decide +kernel)
    have gC := CE.glob (x := Str.ofString "contains") (by decide +kernel)
    refine ⟨_, AT.name (d := .int k) (CE.wr (by decide +kernel)), Sub.set (Sub.refl _) rfl _, rfl, BVs.one (BV.and2 (BV.plain (EV.call (fn_contains (a := word.take k) (b := head)) (EVL.cons (by rw [← sl_take]; exact EV.slice_str (EV.nv rfl rW) EVO.onone (EVO.osome (EV.nv rfl rK))) (EVL.cons (EV.nv rfl rH) EVL.nil)) (hA.le (by decide)) (names_in _ (by kernel_rfl)) gC (by decide) ⟨_, _, rfl, rfl, rfl⟩) (TruthV.bool _)) fun _ => BV.plain (EV.call (fn_contains (a := word.drop k) (b := tail)) (EVL.cons (by rw [← sl_drop]; exact EV.slice_str (EV.nv rfl rW) (EVO.osome (EV.nv rfl rK)) EVO.onone) (EVL.cons (EV.nv rfl rT) EVL.nil)) (hA.le (by decide)) (names_in _ (by kernel_rfl)) gC (by decide) ⟨_, _, rfl, rfl, rfl⟩) (TruthV.bool _)), fun _ => EV.nv rfl rK⟩
  have eD : ∀ {ρ : Loc} {k : Nat} {pos : Pos}, EV pw w A env ρ (.Constant (.str (Str.ofString "...")) k pos) (.str dots) := fun {ρ k pos} => EV.cstr dots k (by decide +kernel) three
  have l1 : (head ++ tail).length ≤ lim := by rw [List.length_append]; omega
  have l2 : (head ++ dots).length ≤ lim := by rw [List.length_append]; omega
  have l3 : (head ++ dots ++ tail).length ≤ lim := by rw [List.length_append, List.length_append]; omega
  have l4 : (dots ++ head).length ≤ lim := by rw [List.length_append]; omega
  have l5 : (dots ++ head ++ dots).length ≤ lim := by rw [List.length_append, List.length_append]; omega
  have l6 : (dots ++ head ++ dots ++ tail).length ≤ lim := by rw [List.length_append, List.length_append, List.length_append]; omega
  have l7 : (dots ++ head ++ dots ++ tail ++ dots).length ≤ lim := by rw [List.length_append, List.length_append, List.length_append, List.length_append]; omega
  generalize hρ : Loc.set (Loc.set (Loc.set (List.zip _ _) _ _) _ _) _ _ = ρ
  have kW : ρ.lookup (Str.ofString "word") = some (.val (.str word)) := by rw [← hρ]; rfl
  have kH : ρ.lookup (Str.ofString "head") = some (.val (.str head)) := by rw [← hρ]; rfl
  have kT : ρ.lookup (Str.ofString "tail") = some (.val (.str tail)) := by rw [← hρ]; rfl
  have kF : ρ.lookup (Str.ofString "front") = some (.val (.int head.length)) := by rw [← hρ]; rfl
  have kB : ρ.lookup (Str.ofString "back") = some (.val (.int ((5 - tail.length : Nat) : Int))) := by rw [← hρ]; rfl
  have kC : ρ.lookup (Str.ofString "cuts") = some (.val (.lst ((cutsP word head tail).map fun (k : Nat) => D.int k))) := by rw [← hρ]; rfl
  clear hρ
  have hA1 : Ok 1 A := hA.le (by decide)
  have evW : ∀ {pos : Pos}, EV pw w A env ρ (.Name (Str.ofString "word") pos) (.str word) := fun {pos} => EV.nv kW rdW
  have evH : ∀ {pos : Pos}, EV pw w A env ρ (.Name (Str.ofString "head") pos) (.str head) := fun {pos} => EV.nv kH rdH
  have evT : ∀ {pos : Pos}, EV pw w A env ρ (.Name (Str.ofString "tail") pos) (.str tail) := fun {pos} => EV.nv kT rdT
  have l30 : dots.length + head.length + dots.length + tail.length + dots.length ≤ 1000 := by omega
  have e1 : (head ++ tail).length ≤ 1000 := by rw [List.length_append]; omega
  have e2 : (head ++ dots ++ tail).length ≤ 1000 := by rw [List.length_append, List.length_append]; omega
  have e3 : (dots ++ head ++ dots ++ tail).length ≤ 1000 := by rw [List.length_append, List.length_append, List.length_append]; omega
  have e4 : (dots ++ head ++ dots ++ tail ++ dots).length ≤ 1000 := by rw [List.length_append, List.length_append, List.length_append, List.length_append]; omega
  have evDrop : ∀ {p1 p2 p3 p4 : Pos}, EV pw w A env ρ (.Subscript (.Name (Str.ofString "word") p1) (.Slice (some (.Name (Str.ofString "back") p2)) none none p3) p4) (.str (word.drop (5 - tail.length))) := fun {p1 p2 p3 p4} => by
    rw [← sl_drop]; exact EV.slice_str evW (EVO.osome (EV.nv kB rdB)) EVO.onone
  have evTakeF : ∀ {p1 p2 p3 p4 : Pos}, EV pw w A env ρ (.Subscript (.Name (Str.ofString "word") p1) (.Slice none (some (.Name (Str.ofString "front") p2)) none p3) p4) (.str (word.take head.length)) := fun {p1 p2 p3 p4} => by
    rw [← sl_take]; exact EV.slice_str evW EVO.onone (EVO.osome (EV.nv kF rdF))
  have evTakeB : ∀ {p1 p2 p3 p4 : Pos}, EV pw w A env ρ (.Subscript (.Name (Str.ofString "word") p1) (.Slice none (some (.Name (Str.ofString "back") p2)) none p3) p4) (.str (word.take (5 - tail.length))) := fun {p1 p2 p3 p4} => by
    rw [← sl_take]; exact EV.slice_str evW EVO.onone (EVO.osome (EV.nv kB rdB))
  refine ST.cons (ST1.ite (BV.cmp (EV.em hA1 kE e1 (EV.binop evH evT (BinV.add_str head tail l1)) evW) (EV.cmp (EV.binop evH evT (BinV.add_str head tail l1)) evW (CmpV.eq_str (head ++ tail) word)) (CmpV.isNot_bool _ _)) (fun hb => ?_) fun hb => ?_)
  · refine ST.cons (ST1.ret (EV.cbool false 0) ?_)
    show Fl.ret (.bool false) = Fl.ret (.bool (joinedP word head tail))
    unfold joinedP
    rw [if_neg (by intro h; rw [h] at hb; simp at hb)]
  have hb1 : emP (head ++ tail) word = decide (head ++ tail = word) := by
    have : (emP (head ++ tail) word == decide (head ++ tail = word)) = true := by simpa using hb
    exact beq_iff_eq.mp this
  refine ST.nil ?_
  have ele : decide ((head.length : Int) ≤ ((5 - tail.length : Nat) : Int)) = decide (head.length ≤ 5 - tail.length) := by
    rw [decide_eq_decide]; omega
  refine ST.cons (ST1.ite (BV.cmp (EV.em hA1 kE e2 (EV.binop (EV.binop evH eD (BinV.add_str head dots l2)) evT (BinV.add_str (head ++ dots) tail l3)) evW) (EV.and3 (EV.cmp (EV.nv kF rdF) (EV.nv kB rdB) (CmpV.le_int _ _)) (fun _ => EV.cmp evTakeF evH (CmpV.eq_str (word.take head.length) head)) (fun _ => EV.cmp evDrop evT (CmpV.eq_str (word.drop (5 - tail.length)) tail))) (CmpV.isNot_bool _ _)) (fun hb => ?_) fun hb => ?_)
  · refine ST.cons (ST1.ret (EV.cbool false 0) ?_)
    show Fl.ret (.bool false) = Fl.ret (.bool (joinedP word head tail))
    rw [ele] at hb
    unfold joinedP
    rw [if_pos hb1, if_neg (by intro h; rw [h] at hb; simp at hb)]
  have hb2 : emP (head ++ dots ++ tail) word = (decide (head.length ≤ 5 - tail.length) && (decide (word.take head.length = head) && decide (word.drop (5 - tail.length) = tail))) := by
    rw [ele] at hb
    have : (emP (head ++ dots ++ tail) word == (decide (head.length ≤ 5 - tail.length) && (decide (word.take head.length = head) && decide (word.drop (5 - tail.length) = tail)))) = true := by rwa [Bool.not_eq_false'] at hb
    exact beq_iff_eq.mp this
  refine ST.nil ?_
  refine ST.cons (ST1.ite (BV.cmp (EV.em hA1 kE e3 (EV.binop (EV.binop (EV.binop eD evH (BinV.add_str dots head l4)) eD (BinV.add_str (dots ++ head) dots l5)) evT (BinV.add_str (dots ++ head ++ dots) tail l6)) evW) (EV.and2 (EV.cmp evDrop evT (CmpV.eq_str (word.drop (5 - tail.length)) tail)) (fun _ => EV.call (fn_contains (a := word.take (5 - tail.length)) (b := head)) (EVL.cons evTakeB (EVL.cons evH EVL.nil)) hA1 (names_in _ (by kernel_rfl)) kCo (by decide) ⟨_, _, rfl, rfl, rfl⟩)) (CmpV.isNot_bool _ _)) (fun hb => ?_) fun hb => ?_)
  · refine ST.cons (ST1.ret (EV.cbool false 0) ?_)
    show Fl.ret (.bool false) = Fl.ret (.bool (joinedP word head tail))
    unfold joinedP
    rw [if_pos hb1, if_pos hb2, if_neg (by intro h; rw [h] at hb; simp at hb)]
  have hb3 : emP (dots ++ head ++ dots ++ tail) word = (decide (word.drop (5 - tail.length) = tail) && inStr head (word.take (5 - tail.length))) := by
    have : (emP (dots ++ head ++ dots ++ tail) word == (decide (word.drop (5 - tail.length) = tail) && inStr head (word.take (5 - tail.length)))) = true := by rwa [Bool.not_eq_false'] at hb
    exact beq_iff_eq.mp this
  refine ST.nil ?_
  refine ST.cons (ST1.ret (EV.cmp (EV.em hA1 kE e4 (EV.binop (EV.binop (EV.binop (EV.binop eD evH (BinV.add_str dots head l4)) eD (BinV.add_str (dots ++ head) dots l5)) evT (BinV.add_str (dots ++ head ++ dots) tail l6)) eD (BinV.add_str (dots ++ head ++ dots ++ tail) dots l7)) evW) (EV.cmp (EV.nv kC rdC) (EV.clist EVL.nil (Nat.zero_le _)) (by rw [lenEq]; exact CmpV.ne_nil_ints _ hu)) (CmpV.is_bool _ _)) ?_)
  show Fl.ret (.bool _) = Fl.ret (.bool (joinedP word head tail))
  unfold joinedP
  rw [if_pos hb1, if_pos hb2, if_pos hb3]
  have : decide ((cutsP word head tail).map (fun (k : Nat) => (k : Int)) = []) = decide (cutsP word head tail = []) := by rw [decide_eq_decide]; simp
  rw [this]
end
end Mine
end
section
open PySem PySem.W PyProof.Rows PySem.Builtin.Str PySem.StrLaws
set_option Elab.async false
set_option autoImplicit false
set_option linter.unusedVariables false
namespace Mine
noncomputable def num (numbers : List Int) (i : Nat) : Int := numbers.getD i 0
noncomputable def placeL (numbers : List Int) (k : Nat) : Nat := ((num numbers k).fmod ((k : Int) + 2)).toNat
noncomputable def insS (numbers : List Int) (ls : List Nat) (k : Nat) : List Nat := ls.take (placeL numbers k) ++ [98 + k] ++ ls.drop (placeL numbers k)
noncomputable def lettersF (numbers : List Int) (i : Nat) : List Nat := (List.range i).foldl (insS numbers) [97]
noncomputable def placeM (numbers : List Int) (n k : Nat) : Nat := ((num numbers (5 + k)).fmod ((n : Int) - 1)).toNat
noncomputable def mergeAt (ts : List Tree) (pl : Nat) : List Tree := match ts.drop pl with
  | a :: b :: r => ts.take pl ++ [.node a b] ++ r
  | _ => ts
noncomputable def mergeS (numbers : List Int) (ts : List Tree) (k : Nat) : List Tree := mergeAt ts (placeM numbers ts.length k)
noncomputable def mergeF (numbers : List Int) (i : Nat) : List Tree := (List.range i).foldl (mergeS numbers) ((lettersF numbers 4).map Tree.leaf)
noncomputable def merges (numbers : List Int) : Nat := ((num numbers 4).fmod 5).toNat
noncomputable def treesP (numbers : List Int) : List Tree := mergeF numbers (merges numbers)
noncomputable def shs (ts : List Tree) : List Nat := ts.flatMap sh
noncomputable def lvs (ts : List Tree) : List Nat := ts.flatMap leaves
noncomputable def br (c : Nat) : Bool := c == 40 || c == 41
noncomputable def preK (k : Int) : List Nat := (if k = 1 then [34, 41, 34] else []) ++ (if k = 2 then [92, 40] else [])
noncomputable def postK (k : Int) : List Nat := if k = 3 then [34, 92, 34, 40, 34] else []
noncomputable def dressS (numbers : List Int) (st : List Nat × Nat) (c : Nat) : List Nat × Nat :=
  if br c = true then (st.1 ++ [c], st.2) else (st.1 ++ preK ((num numbers (11 + st.2)).fmod 4) ++ [c] ++ postK ((num numbers (11 + st.2)).fmod 4), st.2 + 1)
noncomputable def dressF (numbers : List Int) (signs : List Nat) : List Nat × Nat := signs.foldl (dressS numbers) ([], 0)
noncomputable def rowP (numbers : List Int) : List Nat := (dressF numbers (shs (treesP numbers))).1

theorem fmod_lt {a b : Int} (hb : 0 < b) : 0 ≤ a.fmod b ∧ a.fmod b < b := ⟨Int.fmod_nonneg_of_pos a hb, Int.fmod_lt_of_pos a hb⟩
theorem placeL_eq (numbers : List Int) (k : Nat) : (placeL numbers k : Int) = (num numbers k).fmod ((k : Int) + 2) ∧ placeL numbers k ≤ k + 1 := by
  have := fmod_lt (a := num numbers k) (b := (k : Int) + 2) (by omega)
  unfold placeL; omega
theorem placeM_eq (numbers : List Int) (n k : Nat) (hn : 2 ≤ n) : (placeM numbers n k : Int) = (num numbers (5 + k)).fmod ((n : Int) - 1) ∧ placeM numbers n k + 1 < n := by
  have := fmod_lt (a := num numbers (5 + k)) (b := (n : Int) - 1) (by omega)
  unfold placeM; omega
theorem merges_eq (numbers : List Int) : (merges numbers : Int) = (num numbers 4).fmod 5 ∧ merges numbers ≤ 4 := by
  have := fmod_lt (a := num numbers 4) (b := 5) (by omega)
  unfold merges; omega
theorem lettersF_succ (numbers : List Int) (i : Nat) : lettersF numbers (i + 1) = insS numbers (lettersF numbers i) i := by
  unfold lettersF; rw [List.range_succ, List.foldl_append]; rfl
theorem lettersF_len (numbers : List Int) : ∀ i, (lettersF numbers i).length = i + 1
  | 0 => rfl
  | i + 1 => by
    have ih := lettersF_len numbers i
    have := (placeL_eq numbers i).2
    rw [lettersF_succ, insS, List.length_append, List.length_append, List.length_take, List.length_drop, ih, List.length_singleton]; omega
theorem insS_perm (numbers : List Int) (ls : List Nat) (k : Nat) : (insS numbers ls k).Perm ((98 + k) :: ls) := by
  unfold insS
  rw [List.append_assoc]
  have h1 : (List.take (placeL numbers k) ls ++ ([98 + k] ++ List.drop (placeL numbers k) ls)).Perm ([98 + k] ++ (List.take (placeL numbers k) ls ++ List.drop (placeL numbers k) ls)) := by
    rw [← List.append_assoc, ← List.append_assoc]
    exact List.Perm.append_right _ List.perm_append_comm
  rw [List.take_append_drop] at h1
  exact h1
theorem letters_perm (numbers : List Int) : (lettersF numbers 4).Perm [101, 100, 99, 98, 97] := by
  rw [lettersF_succ]
  refine (insS_perm _ _ _).trans (List.Perm.cons _ ?_)
  rw [lettersF_succ]
  refine (insS_perm _ _ _).trans (List.Perm.cons _ ?_)
  rw [lettersF_succ]
  refine (insS_perm _ _ _).trans (List.Perm.cons _ ?_)
  rw [lettersF_succ]
  exact (insS_perm _ _ _).trans (List.Perm.cons _ (List.Perm.refl _))
theorem mergeF_succ (numbers : List Int) (i : Nat) : mergeF numbers (i + 1) = mergeS numbers (mergeF numbers i) i := by
  unfold mergeF; rw [List.range_succ, List.foldl_append]; rfl
theorem drop_two {α : Type} {ts : List α} {pl : Nat} (h : pl + 1 < ts.length) : ∃ a b, ts.drop pl = a :: b :: ts.drop (pl + 2) ∧ ts[pl]? = some a ∧ ts[pl + 1]? = some b := by
  refine ⟨ts[pl], ts[pl + 1], ?_, by simp, by simp⟩
  rw [List.drop_eq_getElem_cons (by omega), List.drop_eq_getElem_cons h]
theorem mergeAt_eq {ts : List Tree} {pl : Nat} {a b : Tree} (h : ts.drop pl = a :: b :: ts.drop (pl + 2)) : mergeAt ts pl = ts.take pl ++ [.node a b] ++ ts.drop (pl + 2) := by
  unfold mergeAt; rw [h]
theorem mergeF_len (numbers : List Int) : ∀ i, i ≤ 4 → (mergeF numbers i).length = 5 - i
  | 0, _ => by show ((lettersF numbers 4).map Tree.leaf).length = 5; rw [List.length_map, lettersF_len]
  | i + 1, hi => by
    have ih := mergeF_len numbers i (by omega)
    have hp := (placeM_eq numbers (mergeF numbers i).length i (by omega)).2
    obtain ⟨a, b, h, _⟩ := drop_two hp
    rw [mergeF_succ, mergeS, mergeAt_eq h, List.length_append, List.length_append, List.length_take, List.length_drop, List.length_singleton]; omega
theorem lvs_merge (ts : List Tree) (pl : Nat) : lvs (mergeAt ts pl) = lvs ts := by
  unfold mergeAt
  split
  · rename_i a b r h
    have : ts = ts.take pl ++ (a :: b :: r) := by rw [← h, List.take_append_drop]
    conv => rhs; rw [this]
    unfold lvs
    simp [leaves]
  · rfl
theorem lvs_leaf (ls : List Nat) : lvs (ls.map Tree.leaf) = ls := by
  unfold lvs; rw [List.flatMap_map]; simp [leaves]
theorem lvs_merges (numbers : List Int) : ∀ i, lvs (mergeF numbers i) = lettersF numbers 4
  | 0 => lvs_leaf _
  | i + 1 => by rw [mergeF_succ, mergeS, lvs_merge, lvs_merges numbers i]
theorem letter_of (numbers : List Int) : ∀ c ∈ lettersF numbers 4, letter c := fun c hc => by
  have := (letters_perm numbers).mem_iff.mp hc
  simp only [List.mem_cons, List.not_mem_nil, or_false] at this
  unfold letter; omega
theorem br_letter {c : Nat} (h : letter c) : br c = false := by
  unfold letter at h
  unfold br
  simp; omega
theorem sh_filter : ∀ t : Tree, LtT t → (sh t).filter (fun c => !br c) = leaves t
  | .leaf c, h => by
    have := br_letter (h c (by simp [leaves]))
    simp [sh, leaves, this]
  | .node l r, h => by
    have h1 := sh_filter l fun c hc => h c (by rw [leaves]; exact List.mem_append_left _ hc)
    have h2 := sh_filter r fun c hc => h c (by rw [leaves]; exact List.mem_append_right _ hc)
    simp only [sh, List.filter_append, h1, h2, leaves]
    have e1 : ([40] : List Nat).filter (fun c => !br c) = [] := by decide
    have e2 : ([41] : List Nat).filter (fun c => !br c) = [] := by decide
    rw [e1, e2]; simp
theorem shs_filter (ts : List Tree) (h : ∀ c ∈ lvs ts, letter c) : (shs ts).filter (fun c => !br c) = lvs ts := by
  induction ts with
  | nil => rfl
  | cons t r ih =>
    unfold shs lvs at *
    rw [List.flatMap_cons, List.filter_append, List.flatMap_cons, sh_filter t (fun c hc => h c (by rw [List.flatMap_cons]; exact List.mem_append_left _ hc)), ih fun c hc => h c (by rw [List.flatMap_cons]; exact List.mem_append_right _ hc)]
theorem shs_len (ts : List Tree) : (shs ts).length ≤ 3 * (lvs ts).length := by
  induction ts with
  | nil => exact Nat.le_refl _
  | cons t r ih =>
    unfold shs lvs at *
    have := sh_len t
    rw [List.flatMap_cons, List.length_append, List.flatMap_cons, List.length_append]; omega
theorem dress_snoc (numbers : List Int) (l : List Nat) (c : Nat) : dressF numbers (l ++ [c]) = dressS numbers (dressF numbers l) c := by
  unfold dressF; rw [List.foldl_append]; rfl
theorem dress_snd (numbers : List Int) (signs : List Nat) : (dressF numbers signs).2 = (signs.filter fun c => !br c).length := by
  have key : ∀ (signs : List Nat) (st : List Nat × Nat), (signs.foldl (dressS numbers) st).2 = st.2 + (signs.filter fun c => !br c).length := by
    intro signs
    induction signs with
    | nil => intro st; rfl
    | cons c r ih =>
      intro st
      rw [List.foldl_cons, ih, List.filter_cons]
      unfold dressS
      cases hb : br c with
      | true => simp
      | false => simp; omega
  have := key signs ([], 0)
  rw [show (([], 0) : List Nat × Nat).2 = 0 from rfl, Nat.zero_add] at this
  exact this
theorem preK_len (k : Int) : (preK k).length ≤ 3 := by
  unfold preK
  by_cases h1 : k = 1
  · subst h1; decide
  · by_cases h2 : k = 2
    · subst h2; decide
    · simp [h1, h2]
theorem postK_len (k : Int) : (postK k).length ≤ 5 := by
  unfold postK; split <;> simp
theorem dress_len (numbers : List Int) (signs : List Nat) : (dressF numbers signs).1.length ≤ 9 * signs.length := by
  have key : ∀ (signs : List Nat) (st : List Nat × Nat), (signs.foldl (dressS numbers) st).1.length ≤ st.1.length + 9 * signs.length := by
    intro signs
    induction signs with
    | nil => intro st; simp
    | cons c r ih =>
      intro st
      rw [List.foldl_cons]
      refine Nat.le_trans (ih _) ?_
      have := preK_len ((num numbers (11 + st.2)).fmod 4)
      have := postK_len ((num numbers (11 + st.2)).fmod 4)
      unfold dressS
      split
      · simp only [List.length_append, List.length_cons, List.length_nil]; omega
      · simp only [List.length_append, List.length_cons, List.length_nil]; omega
  have := key signs ([], 0)
  unfold dressF; simpa using this
theorem inBr (c : Nat) : inStr [c] [40, 41] = br c := by
  unfold inStr
  have := found_one (⟨#[40, 41]⟩ : Str) c
  have e : (!(occurrences (⟨[40, 41].toArray⟩ : Str) ⟨[c].toArray⟩ 0 [40, 41].length 1).isEmpty) = decide (c ∈ [40, 41]) := this
  rw [e]
  unfold br
  rw [Bool.eq_iff_iff]
  simp
end Mine
end
section
open PySem PySem.W PyProof.Rows PySem.Builtin.Str PySem.StrLaws
set_option Elab.async false
set_option autoImplicit false
set_option linter.unusedVariables false
namespace Mine
theorem lkS {ρ : Loc} {x y : Str} {v s : Slot} (hne : (y == x) = false) (h : ρ.lookup y = some s) : (ρ.set x v).lookup y = some s := by
  rw [Loc.lookup_set, if_neg (by simpa using hne)]; exact h
theorem lkE {ρ : Loc} {x : Str} {v : Slot} : (ρ.set x v).lookup x = some v := by rw [Loc.lookup_set, if_pos rfl]
theorem noOwn_set {x : Str} {d : D} : ∀ {ρ : Loc}, ρ.noOwn = true → (ρ.set x (.val d)).noOwn = true
  | [], _ => rfl
  | (y, u) :: r, h => by
    unfold Loc.noOwn at h
    rw [List.all_cons, Bool.and_eq_true] at h
    unfold Loc.set
    split
    · unfold Loc.noOwn; rw [List.all_cons, Bool.and_eq_true]; exact ⟨rfl, h.2⟩
    · unfold Loc.noOwn; rw [List.all_cons, Bool.and_eq_true]; exact ⟨h.1, noOwn_set (ρ := r) h.2⟩
theorem inner_none {sc : Scope} {ρ : Loc} {x : Str} (h : sc.names.lookup x = some .local) : (inner sc ρ).lookup x = none := by
  cases e : (inner sc ρ).lookup x with
  | none => rfl
  | some sl => obtain ⟨h1, _⟩ := inner_lookup e; rw [h] at h1; cases h1

section
variable {w : World}
theorem evNum {A : Around} {env : Env} {ρ : Loc} {e : Expr} {p1 p2 : Pos} {numbers : List Int} {i : Nat} (h18 : numbers.length = 18) (hi : i < 18) (hn : EV pw w A env ρ (.Name (Str.ofString "numbers") p1) (.lst (numbers.map D.int))) (he : EV pw w A env ρ e (.int i)) :
    EV pw w A env ρ (.Subscript (.Name (Str.ofString "numbers") p1) e p2) (.int (num numbers i)) := by
  have hg : numbers[i]? = some (num numbers i) := by
    unfold num; rw [List.getD_eq_getElem?_getD, List.getElem?_eq_getElem (by omega)]; rfl
  exact EV.sub hn he (ItemV.lst (j := i) (by omega) (by omega) (by rw [List.length_map, h18]; exact StrLaws.seqIndex_nonneg (by omega) (by omega)) (by rw [List.getElem?_map, hg]; rfl))

structure LK (numbers : List Int) (t : List Nat) (d c : Nat) (kd : Int) (ρ : Loc) : Prop where
  n : ρ.lookup (Str.ofString "numbers") = some (.val (.lst (numbers.map D.int)))
  t : ρ.lookup (Str.ofString "text") = some (.val (.str t))
  d : ρ.lookup (Str.ofString "dressed") = some (.val (.int d))
  s : ρ.lookup (Str.ofString "sign") = some (.val (.str [c]))
  k : ρ.lookup (Str.ofString "kind") = some (.val (.int kd))
theorem LK.text {numbers : List Int} {t t' : List Nat} {d c : Nat} {kd : Int} {ρ : Loc} (h : LK numbers t d c kd ρ) : LK numbers t' d c kd (ρ.set (Str.ofString "text") (.val (.str t'))) :=
  ⟨lkS (by decide +kernel) h.n, lkE, lkS (by decide +kernel) h.d, lkS (by decide +kernel) h.s, lkS (by decide +kernel) h.k⟩
theorem addIf {A : Around} {env : Env} {ρ : Loc} {numbers : List Int} {t lit : List Nat} {d c : Nat} {kd n : Int} {x : Str} {P : Fl → Loc → Prop} {q1 q2 q3 q4 q5 q6 q7 q8 q9 : Pos} (rdK : Rd env (Str.ofString "kind")) (rdX : Rd env (Str.ofString "text")) (wrX : Wr env (Str.ofString "text"))
    (hx : x = ⟨lit.toArray⟩) (hl : (t ++ lit).length ≤ lim) (h : LK numbers t d c kd ρ) (k : ∀ ρ', LK numbers (t ++ if kd = n then lit else []) d c kd ρ' → P .next ρ') :
    ST1 pw w A env ρ (.If (.Compare (.Name (Str.ofString "kind") q1) [.Eq] [.Constant (.int n) 0 q2] q3) [.Assign [.Name (Str.ofString "text") q4] (.BinOp (.Name (Str.ofString "text") q5) .Add (.Constant (.str x) 0 q6) q7) q8] [] q9) P := by
  refine ST1.ite (BV.cmp (EV.nv h.k rdK) (EV.cint n 0) (CmpV.eq_int kd n)) (fun hb => ?_) fun hb => ?_
  · have hb' : kd = n := by simpa using hb
    refine ST.cons (ST1.assign (EV.binop (EV.nv h.t rdX) (EV.cstr lit 0 hx (by rw [List.length_append] at hl; omega)) (BinV.add_str t lit hl)) ?_ wrX)
    refine ST.nil (k _ ?_)
    rw [if_pos hb']; exact h.text
  · have hb' : ¬ kd = n := by simpa using hb
    refine ST.nil (k _ ?_)
    rw [if_neg hb', List.append_nil]; exact h
theorem joinL_nil : ∀ ls : List (List Nat), joinL [] ls = ls.flatten
  | [] => rfl
  | [x] => by simp [joinL]
  | x :: y :: r => by
    have := joinL_nil (y :: r)
    rw [joinL, this]
    simp
set_option maxRecDepth 8000 in
theorem fn_row {numbers : List Int} (h18 : numbers.length = 18) : FN pw w 5 (Str.ofString "_law_row") [.lst (numbers.map D.int)] (.str (rowP numbers)) := by
  refine FN.intro (n := 4) (rc := defAt 13) (names := [Str.ofString "numbers"]) r_row ?_ rfl (by decide +kernel) (by decide +kernel) (by kernel_rfl) (by kernel_rfl) (by kernel_rfl) ?_
  · intro pm code doc vs hv
    match vs, hv with
    | [a], _ => rfl
  intro A env hA FE
  have hA1 : Ok 1 A := hA.le (by decide)
  have rdN := FE.rd (x := Str.ofString "numbers") (by decide +kernel)
  have rdL := FE.rd (x := Str.ofString "letters") (by decide +kernel)
  have rdK := FE.rd (x := Str.ofString "k") (by decide +kernel)
  have rdP := FE.rd (x := Str.ofString "place") (by decide +kernel)
  have rdT := FE.rd (x := Str.ofString "things") (by decide +kernel)
  have rdX := FE.rd (x := Str.ofString "text") (by decide +kernel)
  have rdD := FE.rd (x := Str.ofString "dressed") (by decide +kernel)
  have rdS := FE.rd (x := Str.ofString "sign") (by decide +kernel)
  have rdKi := FE.rd (x := Str.ofString "kind") (by decide +kernel)
  have wrL := FE.wr (x := Str.ofString "letters") (by decide +kernel)
  have wrK := FE.wr (x := Str.ofString "k") (by decide +kernel)
  have wrP := FE.wr (x := Str.ofString "place") (by decide +kernel)
  have wrT := FE.wr (x := Str.ofString "things") (by decide +kernel)
  have wrX := FE.wr (x := Str.ofString "text") (by decide +kernel)
  have wrD := FE.wr (x := Str.ofString "dressed") (by decide +kernel)
  have wrS := FE.wr (x := Str.ofString "sign") (by decide +kernel)
  have wrKi := FE.wr (x := Str.ofString "kind") (by decide +kernel)
  have kT : env.kindOf (Str.ofString "things") = some .local := FE.kind (by decide +kernel)
  have kR := FE.kind (x := Str.ofString "range") (k := .globalImplicit) (by decide +kernel)
  have kLe := FE.kind (x := Str.ofString "len") (k := .globalImplicit) (by decide +kernel)
  have kC := FE.kind (x := Str.ofString "contains") (k := .globalImplicit) (by decide +kernel)
  have bk := FE.block (by kernel_rfl)
  have one : 1 ≤ lim := by decide
  have big : 1000 ≤ lim := by decide
  conv => arg 6; whnf
  refine ST.cons (ST1.assign (EV.cstr [97] 0 (by decide +kernel) one) ?_ wrL)
  refine ST.cons (ST1.for (sqf := false) (ds := (List.range 4).map fun (k : Nat) => D.int k) (fun i ρ' => ρ'.lookup (Str.ofString "numbers") = some (.val (.lst (numbers.map D.int))) ∧ ρ'.lookup (Str.ofString "letters") = some (.val (.str (lettersF numbers i))) ∧ ρ'.noOwn = true)
    (IterE.range (N := 4) hA.1 (EV.cint 4 0) (by decide) (by decide) kR) ⟨rfl, rfl, rfl⟩ (fun i ρ' h e => by cases e) (fun i d ρ' hd h => ?_) fun ρ' h => ?_)
  · obtain ⟨l1, l2, l3⟩ := h
    rw [List.getElem?_map] at hd
    obtain ⟨k, hk, rfl⟩ := Option.map_eq_some_iff.mp hd
    obtain ⟨hi4, hki⟩ := List.getElem?_eq_some_iff.mp hk
    rw [List.getElem_range] at hki
    rw [List.length_range] at hi4
    subst hki
    have hpl := placeL_eq numbers i
    have hll := lettersF_len numbers i
    refine ⟨_, AT.name (d := .int i) wrK, (fun e => by cases e), ?_⟩
    refine ST.cons (ST1.assign (d := .int (placeL numbers i)) (by rw [hpl.1]; exact EV.binop (evNum h18 (by omega) (EV.nv (lkS (by decide +kernel) l1) rdN) (EV.nv lkE rdK)) (EV.binop (EV.nv lkE rdK) (EV.cint 2 0) (BinV.add_int i 2)) (BinV.mod_int _ _ (by omega))) ?_ wrP)
    have hg : ([98, 99, 100, 101] : List Nat)[i]? = some (98 + i) := by
      match i, hi4 with
      | 0, _ => rfl
      | 1, _ => rfl
      | 2, _ => rfl
      | 3, _ => rfl
    refine ST.cons (ST1.assign (d := .str (lettersF numbers (i + 1))) (by
      rw [lettersF_succ]
      unfold insS
      refine EV.binop (EV.binop (d1 := .str ((lettersF numbers i).take (placeL numbers i))) (d2 := .str [98 + i]) (by rw [← sl_take]; exact EV.slice_str (EV.nv (lkS (by decide +kernel) (lkS (by decide +kernel) l2)) rdL) EVO.onone (EVO.osome (EV.nv lkE rdP)))
        (EV.sub (EV.cstr [98, 99, 100, 101] 0 (by decide +kernel) (by decide : 4 ≤ lim)) (EV.nv (lkS (by decide +kernel) lkE) rdK) (ItemV.str (j := i) (by omega) (by omega) (StrLaws.seqIndex_nonneg (by omega) (by show (i : Int) < 4; omega)) hg)) (BinV.add_str _ _ ?_))
        (by rw [← sl_drop]; exact EV.slice_str (EV.nv (lkS (by decide +kernel) (lkS (by decide +kernel) l2)) rdL) (EVO.osome (EV.nv lkE rdP)) EVO.onone) (BinV.add_str _ _ ?_)
      · rw [List.length_append, List.length_take, List.length_singleton]; omega
      · rw [List.length_append, List.length_append, List.length_take, List.length_drop, List.length_singleton]; omega) ?_ wrL)
    refine ST.nil ⟨lkS (by decide +kernel) (lkS (by decide +kernel) (lkS (by decide +kernel) l1)), lkE, noOwn_set (noOwn_set (noOwn_set l3))⟩
  obtain ⟨l1, l2, l3⟩ := h
  have l2' : ρ'.lookup (Str.ofString "letters") = some (.val (.str (lettersF numbers 4))) := l2
  have hll := lettersF_len numbers 4
  have hres : (((lettersF numbers 4).filter fun _ => true).map fun c => D.str [c]).length ≤ lim := by rw [List.length_map, List.filter_eq_self.mpr (by simp), hll]; omega
  refine ST.cons (ST1.comp (sqf := false) (ds := (lettersF numbers 4).map fun c => D.str [c]) (res := ((lettersF numbers 4).filter fun _ => true).map fun c => D.str [c]) (IterE.str hA.1 (EV.nv l2' rdL)) rfl (by decide +kernel) (by decide +kernel) (noFree (by decide +kernel)) hres
    (LoopOk.one (lettersF numbers 4) (fun c => D.str [c]) (fun _ => true) (fun c => D.str [c]) hres fun cenv C CE c hc => ⟨_, AT.name (d := .str [c]) (CE.wr (by decide +kernel)), Sub.set (Sub.refl _) (inner_none (by decide +kernel)) _, noOwn_set (inner_noOwn _ _), BVs.nil, fun _ => EV.nv lkE (CE.rdL (by decide +kernel))⟩) wrT ?_ l3 (swC bk kT (by rfl) (by decide +kernel)))
  have e0 : (((lettersF numbers 4).filter fun _ => true).map fun c => D.str [c]) = (mergeF numbers 0).map fun t => D.str (sh t) := by
    rw [List.filter_eq_self.mpr (by simp)]
    show _ = ((lettersF numbers 4).map Tree.leaf).map fun t => D.str (sh t)
    rw [List.map_map]; rfl
  rw [e0]
  have hmg := merges_eq numbers
  refine ST.cons (ST1.for (sqf := false) (ds := (List.range (merges numbers)).map fun (k : Nat) => D.int k) (fun i ρ' => ρ'.lookup (Str.ofString "numbers") = some (.val (.lst (numbers.map D.int))) ∧ ρ'.lookup (Str.ofString "things") = some (.val (.lst ((mergeF numbers i).map fun t => D.str (sh t)))))
    (IterE.range (N := (num numbers 4).fmod 5) hA.1 (EV.binop (evNum (i := 4) h18 (by omega) (EV.nv (lkS (by decide +kernel) l1) rdN) (EV.cint 4 0)) (EV.cint 5 0) (BinV.mod_int _ _ (by decide))) (by omega) (by omega) kR) ⟨lkS (by decide +kernel) l1, lkE⟩ (fun i ρ' h e => by cases e) (fun i d ρ2 hd h => ?_) fun ρ2 h => ?_)
  · obtain ⟨m1, m2⟩ := h
    rw [List.getElem?_map] at hd
    obtain ⟨k, hk, rfl⟩ := Option.map_eq_some_iff.mp hd
    obtain ⟨hi4, hki⟩ := List.getElem?_eq_some_iff.mp hk
    rw [List.getElem_range] at hki
    rw [List.length_range] at hi4
    subst hki
    have hml := mergeF_len numbers i (by omega)
    have hpm := placeM_eq numbers (mergeF numbers i).length i (by omega)
    obtain ⟨a, b, hd2, ha, hb⟩ := drop_two hpm.2
    have hms : mergeF numbers (i + 1) = (mergeF numbers i).take (placeM numbers (mergeF numbers i).length i) ++ [.node a b] ++ (mergeF numbers i).drop (placeM numbers (mergeF numbers i).length i + 2) := by rw [mergeF_succ, mergeS, mergeAt_eq hd2]
    generalize hP : placeM numbers (mergeF numbers i).length i = P at *
    generalize hTS : mergeF numbers i = ts at *
    have hlv := lvs_merges numbers i
    rw [hTS] at hlv
    have hlvl : (lvs ts).length = 5 := by rw [hlv, hll]
    have lenOf : ∀ t ∈ ts, (sh t).length ≤ 15 := fun t ht => by
      have h1 := sh_len t
      have h2 : (leaves t).length ≤ (lvs ts).length := by
        obtain ⟨s1, s2, rfl⟩ := List.append_of_mem ht
        unfold lvs; rw [List.flatMap_append, List.flatMap_cons, List.length_append, List.length_append]; omega
      omega
    have la := lenOf a (List.mem_of_getElem? ha)
    have lb := lenOf b (List.mem_of_getElem? hb)
    refine ⟨_, AT.name (d := .int i) wrK, (fun e => by cases e), ?_⟩
    refine ST.cons (ST1.assign (d := .int P) (by
      rw [hpm.1]
      refine EV.binop (evNum (i := 5 + i) h18 (by omega) (EV.nv (lkS (by decide +kernel) m1) rdN) (EV.binop (EV.cint 5 0) (EV.nv lkE rdK) (BinV.add_int 5 i))) (EV.binop (EV.len (EV.nv (lkS (by decide +kernel) m2) rdT) (len_D_lst _) kLe) (EV.cint 1 0) (BinV.sub_int _ 1)) ?_
      rw [List.length_map]
      exact BinV.mod_int _ _ (by omega)) ?_ wrP)
    have evT : ∀ {pos : Pos}, EV pw w A env ((ρ2.set (Str.ofString "k") (.val (.int i))).set (Str.ofString "place") (.val (.int P))) (.Name (Str.ofString "things") pos) (.lst (ts.map fun t => D.str (sh t))) := fun {pos} => EV.nv (lkS (by decide +kernel) (lkS (by decide +kernel) m2)) rdT
    have evP : ∀ {pos : Pos}, EV pw w A env ((ρ2.set (Str.ofString "k") (.val (.int i))).set (Str.ofString "place") (.val (.int P))) (.Name (Str.ofString "place") pos) (.int P) := fun {pos} => EV.nv lkE rdP
    have hlt : ts.length ≤ 5 := by omega
    have idx : ∀ j : Nat, j < ts.length → seqIndex? (j : Int) (ts.map fun t => D.str (sh t)).length = some j := fun j hj => by rw [List.length_map]; exact StrLaws.seqIndex_nonneg (by omega) (by omega)
    refine ST.cons (ST1.assign (d := .lst ((mergeF numbers (i + 1)).map fun t => D.str (sh t))) (by
      rw [hms, List.map_append, List.map_append]
      refine EV.binop (EV.binop (d1 := .lst ((ts.take P).map fun t => D.str (sh t))) (d2 := .lst [.str (sh (.node a b))]) (by rw [List.map_take, ← sl_take]; exact EV.slice_list evT EVO.onone (EVO.osome evP)) ?_ (BinV.add_list _ _ ?_))
        (by rw [List.map_drop, ← sl_drop]; exact EV.slice_list evT (EVO.osome (EV.binop evP (EV.cint 2 0) (BinV.add_int P 2))) EVO.onone) (BinV.add_list _ _ ?_)
      · refine EV.clist (EVL.cons ?_ EVL.nil) one
        refine EV.binop (d1 := .str ([40] ++ sh a ++ sh b)) (EV.binop (EV.binop (EV.cstr [40] 0 (by decide +kernel) one) (EV.sub evT evP (ItemV.lst (j := P) (d := .str (sh a)) (by omega) (by omega) (idx P (by omega)) (by rw [List.getElem?_map, ha]; rfl))) (BinV.add_str [40] (sh a) ?_))
          (EV.sub evT (EV.binop evP (EV.cint 1 0) (BinV.add_int P 1)) (ItemV.lst (j := P + 1) (d := .str (sh b)) (by omega) (by omega) (idx (P + 1) (by omega)) (by rw [List.getElem?_map, hb]; rfl))) (BinV.add_str ([40] ++ sh a) (sh b) ?_)) (EV.cstr [41] 0 (by decide +kernel) one) (BinV.add_str ([40] ++ sh a ++ sh b) [41] ?_)
        · simp only [List.length_append, List.length_cons, List.length_nil]; omega
        · simp only [List.length_append, List.length_cons, List.length_nil]; omega
        · simp only [List.length_append, List.length_cons, List.length_nil]; omega
      · rw [List.length_append, List.length_map, List.length_take, List.length_singleton]; omega
      · simp only [List.length_append, List.length_map, List.length_take, List.length_drop, List.length_cons, List.length_nil]; omega) ?_ wrT)
    refine ST.nil ⟨lkS (by decide +kernel) (lkS (by decide +kernel) (lkS (by decide +kernel) m1)), lkE⟩
  obtain ⟨m1, m2⟩ := h
  have m2' : ρ2.lookup (Str.ofString "things") = some (.val (.lst ((treesP numbers).map fun t => D.str (sh t)))) := by
    rw [List.length_map, List.length_range] at m2; exact m2
  have hlv : lvs (treesP numbers) = lettersF numbers 4 := lvs_merges numbers _
  have hlt : ∀ c ∈ lvs (treesP numbers), letter c := fun c hc => letter_of numbers c (by rw [← hlv]; exact hc)
  have hsl : (shs (treesP numbers)).length ≤ 15 := by
    have := shs_len (treesP numbers)
    rw [hlv, hll] at this; exact this
  have hfl := shs_filter _ hlt
  generalize hTS : treesP numbers = ts at *
  have hrow : rowP numbers = (dressF numbers (shs ts)).1 := by unfold rowP; rw [hTS]
  have hjn : joinL [] (ts.map sh) = shs ts := by rw [joinL_nil]; unfold shs; rw [List.flatMap_def]
  have hsum : ((ts.map sh).map List.length).sum + (ts.map sh).length * ([] : List Nat).length ≤ lim := by
    have : ((ts.map sh).map List.length).sum = (shs ts).length := by unfold shs; rw [List.flatMap_def, List.length_flatten]
    rw [this, List.length_nil, Nat.mul_zero]; omega
  refine ST.cons (ST1.assign (EV.cstr [] 0 (by decide +kernel) (Nat.zero_le _)) ?_ wrX)
  refine ST.cons (ST1.assign (EV.cint 0 0) ?_ wrD)
  have evT3 : ∀ {ρ : Loc} {pos : Pos}, ρ.lookup (Str.ofString "things") = some (.val (.lst (ts.map fun t => D.str (sh t)))) → EV pw w A env ρ (.Name (Str.ofString "things") pos) (.lst ((ts.map sh).map D.str)) := fun {ρ pos} h => by
    have e : (ts.map sh).map D.str = ts.map fun t => D.str (sh t) := by rw [List.map_map]; rfl
    rw [e]; exact EV.nv h rdT
  have evJ : ∀ {ρ : Loc} {p1 p2 p3 p4 : Pos}, ρ.lookup (Str.ofString "things") = some (.val (.lst (ts.map fun t => D.str (sh t)))) → (p2.endLine == p4.line) = true → EV pw w A env ρ (.Call (.Attribute (.Constant (.str (Str.ofString "")) 0 p1) (Str.ofString "join") p2) [.Name (Str.ofString "things") p3] [] p4) (.str (shs ts)) := fun {ρ p1 p2 p3 p4} h hl => by
    have := hm (w := w) (A := A) (env := env) (ρ := ρ) (p1 := p1) (a1 := p2) (c := p4) (.Name (Str.ofString "things") p3) (ts.map sh) (evT3 h) (CallV.join [] (ts.map sh) hsum) rfl hl
    rw [hjn] at this; exact this
  refine ST.cons (ST1.for (sqf := false) (ds := (shs ts).map fun c => D.str [c]) (fun i ρ' => ρ'.lookup (Str.ofString "numbers") = some (.val (.lst (numbers.map D.int))) ∧ ρ'.lookup (Str.ofString "text") = some (.val (.str (dressF numbers ((shs ts).take i)).1)) ∧ ρ'.lookup (Str.ofString "dressed") = some (.val (.int ((dressF numbers ((shs ts).take i)).2 : Nat))))
    (IterE.str hA.1 (evJ (lkS (by decide +kernel) (lkS (by decide +kernel) m2')) rfl)) ⟨lkS (by decide +kernel) (lkS (by decide +kernel) m1), lkS (by decide +kernel) lkE, lkE⟩ (fun i ρ' h e => by cases e) (fun i d ρ3 hd h => ?_) fun ρ3 h => ?_)
  · obtain ⟨n1, n2, n3⟩ := h
    rw [List.getElem?_map] at hd
    obtain ⟨c, hc, rfl⟩ := Option.map_eq_some_iff.mp hd
    have hnext : dressF numbers ((shs ts).take (i + 1)) = dressS numbers (dressF numbers ((shs ts).take i)) c := by
      rw [List.take_add_one, hc, ← dress_snoc]; rfl
    have hdl := dress_len numbers ((shs ts).take i)
    have hds := dress_snd numbers ((shs ts).take i)
    have htl : ((shs ts).take i).length ≤ 15 := by rw [List.length_take]; omega
    rw [hnext]
    have hcnt : br c = false → (dressF numbers ((shs ts).take i)).2 ≤ 4 := fun hb => by
      have h5 : ((shs ts).filter fun c => !br c).length = 5 := by rw [hfl, hlv, hll]
      have : (shs ts).take (i + 1) = (shs ts).take i ++ [c] := by rw [List.take_add_one, hc]; rfl
      have h6 : (((shs ts).take (i + 1)).filter fun c => !br c).length ≤ 5 := by
        rw [← h5]
        exact List.Sublist.length_le ((List.take_sublist _ _).filter _)
      rw [this, List.filter_append, List.length_append] at h6
      have h7 : ([c].filter fun c => !br c).length = 1 := by simp [hb]
      rw [hds]; omega
    generalize dressF numbers ((shs ts).take i) = st at *
    obtain ⟨tx, dd⟩ := st
    dsimp only at n2 n3 hdl hds hcnt
    refine ⟨_, AT.name (d := .str [c]) wrS, (fun e => by cases e), ?_⟩
    refine ST.cons (ST1.ite (BV.plain (EV.call (fn_contains (a := [40, 41]) (b := [c])) (EVL.cons (EV.cstr [40, 41] 0 (by decide +kernel) (by decide : 2 ≤ lim)) (EVL.cons (EV.nv lkE rdS) EVL.nil)) hA1 (names_in _ (by kernel_rfl)) kC (by decide) ⟨_, _, rfl, rfl, rfl⟩) (TruthV.bool _)) (fun hb => ?_) fun hb => ?_)
    · rw [inBr] at hb
      have e : dressS numbers (tx, dd) c = (tx ++ [c], dd) := by unfold dressS; rw [if_pos hb]
      refine ST.cons (ST1.assign (EV.binop (EV.nv (lkS (by decide +kernel) n2) rdX) (EV.nv lkE rdS) (BinV.add_str tx [c] (by rw [List.length_append, List.length_singleton]; omega))) ?_ wrX)
      refine ST.nil (ST.nil ⟨lkS (by decide +kernel) (lkS (by decide +kernel) n1), ?_, ?_⟩)
      · rw [e]; exact lkE
      · rw [e]; exact lkS (by decide +kernel) (lkS (by decide +kernel) n3)
    · rw [inBr] at hb
      have hdd := hcnt hb
      have e : dressS numbers (tx, dd) c = (tx ++ preK ((num numbers (11 + dd)).fmod 4) ++ [c] ++ postK ((num numbers (11 + dd)).fmod 4), dd + 1) := by unfold dressS; rw [if_neg (by rw [hb]; decide)]
      refine ST.cons (ST1.assign (d := .int ((num numbers (11 + dd)).fmod 4)) (EV.binop (evNum (i := 11 + dd) h18 (by omega) (EV.nv (lkS (by decide +kernel) n1) rdN) (EV.binop (EV.cint 11 0) (EV.nv (lkS (by decide +kernel) n3) rdD) (BinV.add_int 11 dd))) (EV.cint 4 0) (BinV.mod_int _ _ (by decide))) ?_ wrKi)
      refine ST.cons (ST1.assign (EV.binop (EV.nv (lkS (by decide +kernel) (lkS (by decide +kernel) n3)) rdD) (EV.cint 1 0) (BinV.add_int dd 1)) ?_ wrD)
      generalize hkd : (num numbers (11 + dd)).fmod 4 = kd at *
      have LK0 : LK numbers tx (dd + 1) c kd (((ρ3.set (Str.ofString "sign") (.val (.str [c]))).set (Str.ofString "kind") (.val (.int kd))).set (Str.ofString "dressed") (.val (.int ((dd : Int) + 1)))) :=
        ⟨lkS (by decide +kernel) (lkS (by decide +kernel) (lkS (by decide +kernel) n1)), lkS (by decide +kernel) (lkS (by decide +kernel) (lkS (by decide +kernel) n2)), lkE, lkS (by decide +kernel) (lkS (by decide +kernel) lkE), lkS (by decide +kernel) lkE⟩
      have lenIf : ∀ (n : Int) (l : List Nat) (m : Nat), l.length ≤ m → (if kd = n then l else []).length ≤ m := fun n l m h => by split; exact h; exact Nat.zero_le _
      refine ST.cons (addIf (lit := [34, 41, 34]) rdKi rdX wrX (by decide +kernel) (by rw [List.length_append]; have : ([34, 41, 34] : List Nat).length = 3 := rfl; omega) LK0 fun ρ4 LK1 => ?_)
      have g1 := lenIf 1 [34, 41, 34] 3 (Nat.le_refl _)
      refine ST.cons (addIf (lit := [92, 40]) rdKi rdX wrX (by decide +kernel) (by rw [List.length_append, List.length_append]; have : ([92, 40] : List Nat).length = 2 := rfl; omega) LK1 fun ρ5 LK2 => ?_)
      have g2 := lenIf 2 [92, 40] 2 (Nat.le_refl _)
      refine ST.cons (ST1.assign (EV.binop (EV.nv LK2.t rdX) (EV.nv LK2.s rdS) (BinV.add_str _ [c] (by rw [List.length_append, List.length_append, List.length_append, List.length_singleton]; omega))) ?_ wrX)
      have LK3 := LK2.text (t' := (tx ++ if kd = 1 then [34, 41, 34] else []) ++ (if kd = 2 then [92, 40] else []) ++ [c])
      refine ST.cons (addIf (lit := [34, 92, 34, 40, 34]) rdKi rdX wrX (by decide +kernel) (by rw [List.length_append, List.length_append, List.length_append, List.length_append, List.length_singleton]; have : ([34, 92, 34, 40, 34] : List Nat).length = 5 := rfl; omega) LK3 fun ρ6 LK4 => ?_)
      refine ST.nil (ST.nil ⟨LK4.n, ?_, ?_⟩)
      · rw [LK4.t, e]
        unfold preK postK
        simp [List.append_assoc]
      · rw [LK4.d, e]
  · obtain ⟨n1, n2, n3⟩ := h
    rw [List.length_map, List.take_length] at n2
    refine ST.cons (ST1.ret (EV.nv n2 rdX) ?_)
    show Fl.ret (.str _) = Fl.ret (.str (rowP numbers))
    rw [hrow]
end
end Mine
end
section
open PySem PySem.W PyProof.Rows PySem.Builtin.Str PySem.StrLaws
set_option Elab.async false
set_option autoImplicit false
set_option linter.unusedVariables false
namespace Mine
theorem inner_some {sc : Scope} {x : Str} (hx : sc.names.lookup x = some .free) : ∀ {ρ : Loc} {sl : Slot}, ρ.lookup x = some sl → (inner sc ρ).lookup x = some (.val sl.d)
  | [], _, h => by simp at h
  | (y, u) :: r, sl, h => by
    have ih := @inner_some sc x hx r
    unfold inner at ih ⊢
    rw [List.filterMap_cons]
    rw [List.lookup_cons] at h
    cases hb : x == y with
    | true =>
      rw [hb] at h; cases h
      have := beq_iff_eq.mp hb
      subst this
      simp [hx]
    | false =>
      rw [hb] at h
      have := ih h
      by_cases hy : (sc.names.lookup y == some .free) = true
      · simp only [hy, if_true]
        rw [List.lookup_cons, hb]; exact this
      · simp only [hy]; exact this
section
variable {p : Program} {w : World} {A : Around} {env : Env} {ρ : Loc} {pos : Pos}
theorem rev_str (l : List Nat) (u : Tok) : Txt.sliceBy ⟨l.toArray⟩ none none (-1, u) = ⟨l.reverse.toArray⟩ := by
  have h := step_rev_list ⟨l.toArray⟩ u
  refine PySem.Str.ext' ?_
  apply Array.toList_inj.mp
  rw [h]
  apply List.ext_getElem
  · simp [Str.length]
  · intro i h1 h2
    simp only [List.getElem_map, List.getElem_range, Str.length, List.size_toArray, List.getElem_reverse]
    have hi : i < l.length := by simpa [Str.length] using h1
    rw [Array.getD_eq_getD_getElem?]
    simp only [List.getElem?_toArray]
    rw [List.getElem?_eq_getElem (by omega)]
    rfl
theorem EV.rev {value e : Expr} {l : List Nat} {spos : Pos} (hv : EV p w A env ρ value (.str l)) (he : EV p w A env ρ e (.int (-1))) : EV p w A env ρ (.Subscript value (.Slice Option.none Option.none (some e) spos) pos) (.str l.reverse) := fun B s Q E F k =>
  Subscript_ (hv B s _ _ F fun v1 s1 e1 ⟨hlen, t, ht⟩ => wpAny_Slice (wpAny_pure (wpAny_pure (EVO.osome he B s1 _ _ (F.evo e1) fun vk s3 e3 pk => by
    subst ht
    cases pk with
    | int _ uk =>
    obtain ⟨ops, ho⟩ := subscripted_ops (.Slice Option.none Option.none (some e) spos) (.str ⟨l.toArray⟩ t) (.ref s3.heap.objs.size)
    have hsz : (⟨l.toArray⟩ : Str).length ≤ sizeLine := by simpa [Str.length] using Nat.le_trans hlen lim_size
    refine tail_any (typeIs_str _ _ _) PySem.F.slot_str_getitem.lookup (wpAny_getItem_str_slice (l := none) (u := none) (st := some (-1, uk)) ⟨_, Heap.get?_push_size _ rfl, rfl, rfl⟩ rfl
      (post_val_or_str ⟨Nat.le_trans (Txt.sliceBy_le _ none none (-1, uk) (show (-1 : Int) ≠ 0 by decide)) hsz, fun t' c => ?_⟩)) ho
    have hr := rev_str l uk
    unfold Txt.sliceBy at hr
    rw [hr]
    exact k _ _ (e1.trans (e3.trans (Evo.ofHeap _ fun b o e => Heap.get?_push_of_some _ e))) ⟨by rw [List.length_reverse]; exact hlen, _, rfl⟩))))
theorem small_div {a b : Int} (h : b.natAbs.log2 / 30 + 1 ≤ 300) : Builtin.divisionGoesByPylong a b = false := by
  unfold Builtin.divisionGoesByPylong
  have : ¬ ((if (b == 0) = true then 0 else b.natAbs.log2 / 30 + 1) > 300) := by split <;> omega
  simp only [decide_eq_false this, Bool.false_and]
end
end Mine
end
section
open PySem PySem.W PyProof.Rows PySem.Builtin.Str PySem.StrLaws
set_option Elab.async false
set_option autoImplicit false
set_option linter.unusedVariables false
namespace Mine
noncomputable def tof (T : List Tree) (k : Nat) : Tree := T.getD k (.leaf 0)
theorem range_tof (T : List Tree) : (List.range T.length).map (tof T) = T := by
  apply List.ext_getElem
  · simp
  · intro i h1 h2
    simp only [List.getElem_map, List.getElem_range]
    unfold tof
    rw [List.getD_eq_getElem?_getD, List.getElem?_eq_getElem h2]; rfl
theorem tof_get {T : List Tree} {k : Nat} (h : k < T.length) : T[k]? = some (tof T k) ∧ tof T k ∈ T := by
  unfold tof
  rw [List.getD_eq_getElem?_getD, List.getElem?_eq_getElem h]
  exact ⟨rfl, List.getElem_mem h⟩
theorem filter_tof {β : Type} (T : List Tree) (q : Tree → Bool) (g : Tree → β) : ((List.range T.length).filter fun k => q (tof T k)).map (fun k => g (tof T k)) = (T.filter q).map g := by
  conv => rhs; rw [← range_tof T]
  rw [List.filter_map, List.map_map]; rfl
/-- no letter of the text in the thing -/
noncomputable def clear (x : List Nat) (t : Tree) : Bool := decide ((sh t).filter (fun c => inStr [c] x) = [])
noncomputable def lastP (T : List Tree) (first second : List Nat) (total : Int) : Bool :=
  if ((T.filter (clear second)).length : Int) + ((T.filter (clear first)).length : Int) < (T.length : Int) then decide (total = 0)
  else decide (total = standsP first (prodP ((T.filter (clear second)).map valT)) * standsP second (prodP ((T.filter (clear first)).map valT)))
theorem stands_le (text : List Nat) (words : List Wd) (h : ∀ x ∈ words, sg x.2) : (standsP text words).natAbs ≤ words.length := by
  have key : ∀ (words : List Wd) (n : Int), (∀ x ∈ words, sg x.2) → (words.foldl (fun s x => if x.1 = text then s + x.2 else s) n).natAbs ≤ n.natAbs + words.length := by
    intro words
    induction words with
    | nil => intro n _; exact Nat.le_refl _
    | cons x r ih =>
      intro n h
      rw [List.foldl_cons]
      refine Nat.le_trans (ih _ fun y hy => h y (List.mem_cons_of_mem _ hy)) ?_
      have hx := h x List.mem_cons_self
      rw [List.length_cons]
      unfold sg at hx
      split <;> omega
  have := key words 0 h
  simpa [standsP] using this
theorem prodP_ok {vs : List (List Wd)} (hl : vs.length ≤ 5) (hv : ∀ v ∈ vs, OkV v) : (prodP vs).length ≤ lim ∧ ∀ x ∈ prodP vs, sg x.2 := by
  have key : ∀ (vs : List (List Wd)) (ws : List Wd) (n : Nat), (∀ v ∈ vs, OkV v) → ws.length ≤ 16 ^ n → (∀ x ∈ ws, x.1.length ≤ 5 * n ∧ sg x.2) → (vs.foldl stepP ws).length ≤ 16 ^ (n + vs.length) ∧ ∀ x ∈ vs.foldl stepP ws, x.1.length ≤ 5 * (n + vs.length) ∧ sg x.2 := by
    intro vs
    induction vs with
    | nil => intro ws n _ h1 h2; exact ⟨h1, h2⟩
    | cons v r ih =>
      intro ws n hv h1 h2
      have hok := hv v List.mem_cons_self
      have := ih (stepP ws v) (n + 1) (fun y hy => hv y (List.mem_cons_of_mem _ hy)) (by rw [stepP_length, Nat.pow_succ]; exact Nat.mul_le_mul h1 hok.1) (stepP_ok h2 hok)
      rw [List.foldl_cons, List.length_cons, show n + (r.length + 1) = n + 1 + r.length by omega]
      exact this
  have := key vs [([], 1)] 0 hv (Nat.le_refl _) (fun x hx => by rw [List.mem_singleton] at hx; subst hx; exact ⟨Nat.le_refl _, .inl rfl⟩)
  rw [Nat.zero_add] at this
  refine ⟨Nat.le_trans this.1 (Nat.le_trans (Nat.pow_le_pow_right (by decide) hl) (by decide)), fun x hx => (this.2 x hx).2⟩
theorem stands_mul {t1 t2 : List Nat} {v1 v2 : List (List Wd)} (h1 : v1.length ≤ 5) (h2 : ∀ v ∈ v1, OkV v) : IntMulOk (standsP t1 (prodP v1)) (standsP t2 (prodP v2)) := by
  obtain ⟨a, b⟩ := prodP_ok h1 h2
  have := stands_le t1 _ b
  have hl : lim = 1048576 := rfl
  exact PySem.IntMulOk.of_left (PySem.intBits_le_64 (by omega) (by omega))

section
variable {w : World}
/-- one of the two lists at the end -/
theorem sideOk {A : Around} {env : Env} {ρ : Loc} {T : List Tree} {x : List Nat} {nm : Str} {sc sc2 : Scope} {it0 : Expr} {pos q1 q2 q3 q4 q10 q11 q12 q13 q14 q15 q16 q17 q18 q19 q20 q21 : Pos} (hA : Ok 4 A) (hTl : T.length ≤ 5) (hsh : ∀ t ∈ T, (sh t).length ≤ 15)
    (l1 : ρ.lookup (Str.ofString "things") = some (.val (.lst (T.map fun t => D.str (sh t))))) (l2 : ρ.lookup (Str.ofString "values") = some (.val (.lst (T.map fun t => wsD (valT t))))) (l3 : ρ.lookup nm = some (.val (.str x)))
    (n1 : sc.names.lookup (Str.ofString "things") = some .free) (n2 : sc.names.lookup (Str.ofString "values") = some .free) (n3 : sc.names.lookup nm = some .free) (n4 : sc.names.lookup (Str.ofString "k") = some .local)
    (m1 : sc2.names.lookup nm = some .free) (m2 : sc2.names.lookup (Str.ofString "sign") = some .local) (m3 : sc2.names.lookup (Str.ofString "contains") = some .globalImplicit) (hcd : (nm == ("__classdict__" : Str)) = false) (hdb : (nm == ("__debug__" : Str)) = false) (hkn : (nm == Str.ofString "k") = false) (hsn : (nm == Str.ofString "sign") = false)
    (hsc2 : sc2.kind = .function) (hcells2 : ∀ x ∈ sc2.names, x.2 ≠ .cell) (hnames2 : ∀ y ∈ sc2.names, y.2 = .local → sc2.names.lookup y.1 = some .local) (hfree2 : ∀ n, (n, NameKind.free) ∈ sc2.names → n = nm) :
    LoopOk pw w A sc env ρ (.ListComp (.Subscript (.Name (Str.ofString "values") q1) (.Name (Str.ofString "k") q2) q3) [⟨.Name (Str.ofString "k") q4, it0,
      [.Compare (.ListComp (.Name (Str.ofString "sign") q10) [⟨.Name (Str.ofString "sign") q11, .Subscript (.Name (Str.ofString "things") q14) (.Name (Str.ofString "k") q15) q16, [.Call (.Name (Str.ofString "contains") q17) [.Name nm q12, .Name (Str.ofString "sign") q13] [] q18], 0⟩] sc2 q19) [.Eq] [.List [] q20] q21], 0⟩] sc pos)
      ((List.range T.length).map fun (k : Nat) => D.int k) (((T.filter (clear x)).map valT).map wsD) := by
  have e : ((T.filter (clear x)).map valT).map wsD = ((List.range T.length).filter fun k => clear x (tof T k)).map fun k => wsD (valT (tof T k)) := by
    rw [List.map_map]; exact (filter_tof T (clear x) fun t => wsD (valT t)).symm
  rw [e]
  have big : 30 ≤ lim := by decide
  have hu : A.units + 64 < cLine := by have := hA.2.2; show _ < 9900; omega
  refine LoopOk.one (List.range T.length) (fun (k : Nat) => D.int k) (fun k => clear x (tof T k)) (fun k => wsD (valT (tof T k))) ?_ fun cenv C CE k hk => ?_
  · rw [List.length_map]
    exact Nat.le_trans (List.length_filter_le _ _) (by rw [List.length_range]; omega)
  have hkl : k < T.length := List.mem_range.mp hk
  obtain ⟨hg, hmem⟩ := tof_get hkl
  have hshk := hsh _ hmem
  have rdT : Rd cenv (Str.ofString "things") := CE.rdF n1 (by decide)
  have rdV : Rd cenv (Str.ofString "values") := CE.rdF n2 (by decide)
  have rdK : Rd cenv (Str.ofString "k") := CE.rdL n4
  have idx : ∀ {f : Tree → D}, seqIndex? (k : Int) (T.map f).length = some k := fun {f} => by rw [List.length_map]; exact StrLaws.seqIndex_nonneg (by omega) (by omega)
  refine ⟨(inner sc ρ).set (Str.ofString "k") (.val (.int k)), AT.name (CE.wr n4), Sub.set (Sub.refl _) (inner_none n4) _, noOwn_set (inner_noOwn _ _), BVs.one ?_, fun _ => ?_⟩
  · have hcl : clear x (tof T k) = decide ((((sh (tof T k)).filter fun c => inStr [c] x).map fun c => D.str [c]) = []) := by
      unfold clear; rw [decide_eq_decide]; simp
    rw [hcl]
    have hlen2 : (((sh (tof T k)).filter fun c => inStr [c] x).map fun c => D.str [c]).length ≤ lim := by
      rw [List.length_map]; exact Nat.le_trans (List.length_filter_le _ _) (by omega)
    refine BV.cmp (EV.comp (sqf := false) (ds := (sh (tof T k)).map fun c => D.str [c]) (IterE.str hA.1 (EV.sub (EV.nv (lkS (by decide +kernel) (inner_some n1 l1)) rdT) (EV.nv lkE rdK) (ItemV.lst (j := k) (d := .str (sh (tof T k))) (by omega) (by omega) idx (by rw [List.getElem?_map, hg]; rfl)))) hsc2 hcells2 hnames2 (fun n hn => by rw [hfree2 n hn]; exact CE.cap n3) hlen2
      (LoopOk.one (sh (tof T k)) (fun c => D.str [c]) (fun c => inStr [c] x) (fun c => D.str [c]) hlen2 fun cenv2 C2 CE2 c hc => ?_)) (EV.clist EVL.nil (Nat.zero_le _)) (CmpV.eq_nil _ hu)
    refine ⟨_, AT.name (d := .str [c]) (CE2.wr m2), Sub.set (Sub.refl _) (inner_none m2) _, noOwn_set (inner_noOwn _ _), BVs.one (BV.plain (EV.call (fn_contains (a := x) (b := [c])) (EVL.cons (EV.nv (lkS hsn (inner_some m1 (lkS hkn (inner_some n3 l3)))) (CE2.rdF m1 hcd) hdb) (EVL.cons (EV.nv lkE (CE2.rdL m2)) EVL.nil)) (hA.le (by decide)) (names_in _ (by kernel_rfl)) (CE2.glob m3) (by decide) ⟨_, _, rfl, rfl, rfl⟩) (TruthV.bool _)), fun _ => EV.nv lkE (CE2.rdL m2)⟩
  · exact EV.sub (EV.nv (lkS (by decide +kernel) (inner_some n2 l2)) rdV) (EV.nv lkE rdK) (ItemV.lst (j := k) (d := wsD (valT (tof T k))) (by omega) (by omega) idx (by rw [List.getElem?_map, hg]; rfl))
end
end Mine
end
section
open PySem PySem.W PyProof.Rows PySem.Builtin.Str PySem.StrLaws
set_option Elab.async false
set_option autoImplicit false
set_option linter.unusedVariables false
namespace Mine
section
variable {w : World}
theorem EV.lenM {A : Around} {env : Env} {ρ : Loc} {α : Type} {xs : List α} {f : α → D} {e : Expr} {p1 p2 : Pos} (he : EV pw w A env ρ e (.lst (xs.map f))) (hk : env.kindOf (Str.ofString "len") = some .globalImplicit) (hs : starEach [e] env = [(false, eval e env)] := by rfl) :
    EV pw w A env ρ (.Call (.Name (Str.ofString "len") p1) [e] [] p2) (.int xs.length) := by
  have := EV.len (npos := p1) (pos := p2) he (len_D_lst (xs.map f)) hk hs
  rw [List.length_map] at this; exact this
theorem IterE.upTo {A : Around} {env : Env} {ρ : Loc} {n : Nat} {e : Expr} {npos pos : Pos} (hA : A.handled = none) (he : EV pw w A env ρ e (.int n)) (hn : n < 1000) (hk : env.kindOf (Str.ofString "range") = some .globalImplicit) (hs : starEach [e] env = [(false, eval e env)] := by rfl) :
    IterE pw w A env ρ false (.Call (.Name (Str.ofString "range") npos) [e] [] pos) ((List.range n).map fun (k : Nat) => D.int k) := by
  have := IterE.range (npos := npos) (pos := pos) (N := (n : Int)) hA he (by omega) (by omega) hk hs
  rw [Int.toNat_natCast] at this; exact this

theorem law_end {A : Around} {env : Env} {ρ : Loc} {T : List Tree} {first second : List Nat} {total : Int} (hA : Ok 11 A) (FE : FEnv (defAt 19).scope env) (hTl : T.length ≤ 5) (hsh : ∀ t ∈ T, (sh t).length ≤ 15) (hok : ∀ t ∈ T, OkV (valT t))
    (hno : ρ.noOwn = true) (l1 : ρ.lookup (Str.ofString "things") = some (.val (.lst (T.map fun t => D.str (sh t))))) (l2 : ρ.lookup (Str.ofString "values") = some (.val (.lst (T.map fun t => wsD (valT t))))) (l3 : ρ.lookup (Str.ofString "first") = some (.val (.str first)))
    (l4 : ρ.lookup (Str.ofString "second") = some (.val (.str second))) (l5 : ρ.lookup (Str.ofString "total") = some (.val (.int total))) :
    ST pw w A env ρ ((defAt 19).body.drop 15) (fun fl _ => fl = .ret (.bool (lastP T first second total))) := by
  have rdT := FE.rd (x := Str.ofString "things") (by decide +kernel)
  have rdF := FE.rd (x := Str.ofString "first") (by decide +kernel)
  have rdS := FE.rd (x := Str.ofString "second") (by decide +kernel)
  have rdTo := FE.rd (x := Str.ofString "total") (by decide +kernel)
  have rdL := FE.rd (x := Str.ofString "lefts") (by decide +kernel)
  have rdR := FE.rd (x := Str.ofString "rights") (by decide +kernel)
  have wrL := FE.wr (x := Str.ofString "lefts") (by decide +kernel)
  have wrR := FE.wr (x := Str.ofString "rights") (by decide +kernel)
  have kLs : env.kindOf (Str.ofString "lefts") = some .local := FE.kind (by decide +kernel)
  have kRs : env.kindOf (Str.ofString "rights") = some .local := FE.kind (by decide +kernel)
  have kLe := FE.kind (x := Str.ofString "len") (k := .globalImplicit) (by decide +kernel)
  have kRa := FE.kind (x := Str.ofString "range") (k := .globalImplicit) (by decide +kernel)
  have kM := FE.kind (x := Str.ofString "mul") (k := .globalImplicit) (by decide +kernel)
  have kSt := FE.kind (x := Str.ofString "_law_stands") (k := .globalImplicit) (by decide +kernel)
  have kP := FE.kind (x := Str.ofString "_law_product") (k := .globalImplicit) (by decide +kernel)
  have bk := FE.block (by kernel_rfl)
  have capT : Cap env (Str.ofString "things") := FE.cap (by decide +kernel)
  have capV : Cap env (Str.ofString "values") := FE.cap (by decide +kernel)
  have capF : Cap env (Str.ofString "first") := FE.cap (by decide +kernel)
  have capS : Cap env (Str.ofString "second") := FE.cap (by decide +kernel)
  have big : 30 ≤ lim := by decide
  have hA4 : Ok 4 A := hA.le (by decide)
  have hA2 : Ok 2 A := hA.le (by decide)
  have hlen : ∀ x : List Nat, (((T.filter (clear x)).map valT).map wsD).length ≤ lim := fun x => by
    rw [List.length_map, List.length_map]; exact Nat.le_trans (List.length_filter_le _ _) (by omega)
  have hl5 : ∀ x : List Nat, ((T.filter (clear x)).map valT).length ≤ 5 := fun x => by rw [List.length_map]; exact Nat.le_trans (List.length_filter_le _ _) hTl
  have hv : ∀ x : List Nat, ∀ v ∈ (T.filter (clear x)).map valT, OkV v := fun x v hv => by
    obtain ⟨t, ht, rfl⟩ := List.mem_map.mp hv
    exact hok t (List.mem_filter.mp ht).1
  conv => arg 6; whnf
  refine ST.cons (ST1.comp (sqf := false) (ds := (List.range T.length).map fun (k : Nat) => D.int k) (res := ((T.filter (clear second)).map valT).map wsD) (IterE.upTo hA.1 (EV.lenM (EV.nv l1 rdT) kLe) (by omega) kRa) rfl (by decide +kernel) (by decide +kernel) (fun n hn => ?_) (hlen second)
    (sideOk (nm := Str.ofString "second") hA4 hTl hsh l1 l2 l4 (by decide +kernel) (by decide +kernel) (by decide +kernel) (by decide +kernel) (by decide +kernel) (by decide +kernel) (by decide +kernel) (by decide) (by decide) (by decide) (by decide) rfl (by decide +kernel) (by decide +kernel) (fun n hn => ?_)) wrL ?_ hno (swC bk kLs (by rfl) (by decide +kernel)))
  · simp only [List.mem_cons, Prod.mk.injEq, reduceCtorEq, and_false, List.not_mem_nil, or_false, false_or, and_true] at hn
    rcases hn with rfl | rfl | rfl
    · exact capS
    · exact capT
    · exact capV
  · simp only [List.mem_cons, Prod.mk.injEq, reduceCtorEq, and_false, List.not_mem_nil, or_false, false_or, and_true] at hn
    exact hn
  refine ST.cons (ST1.comp (sqf := false) (ds := (List.range T.length).map fun (k : Nat) => D.int k) (res := ((T.filter (clear first)).map valT).map wsD) (IterE.upTo hA.1 (EV.lenM (EV.nv (lkS (by decide +kernel) l1) rdT) kLe) (by omega) kRa) rfl (by decide +kernel) (by decide +kernel) (fun n hn => ?_) (hlen first)
    (sideOk (nm := Str.ofString "first") hA4 hTl hsh (lkS (by decide +kernel) l1) (lkS (by decide +kernel) l2) (lkS (by decide +kernel) l3) (by decide +kernel) (by decide +kernel) (by decide +kernel) (by decide +kernel) (by decide +kernel) (by decide +kernel) (by decide +kernel) (by decide) (by decide) (by decide) (by decide) rfl (by decide +kernel) (by decide +kernel) (fun n hn => ?_)) wrR ?_ (noOwn_set hno) (swC bk kRs (by rfl) (by decide +kernel)))
  · simp only [List.mem_cons, Prod.mk.injEq, reduceCtorEq, and_false, List.not_mem_nil, or_false, false_or, and_true] at hn
    rcases hn with rfl | rfl | rfl
    · exact capF
    · exact capT
    · exact capV
  · simp only [List.mem_cons, Prod.mk.injEq, reduceCtorEq, and_false, List.not_mem_nil, or_false, false_or, and_true] at hn
    exact hn
  generalize hρ : Loc.set (Loc.set ρ _ _) _ _ = ρ2
  have k1 : ρ2.lookup (Str.ofString "things") = some (.val (.lst (T.map fun t => D.str (sh t)))) := by rw [← hρ]; exact lkS (by decide +kernel) (lkS (by decide +kernel) l1)
  have k3 : ρ2.lookup (Str.ofString "first") = some (.val (.str first)) := by rw [← hρ]; exact lkS (by decide +kernel) (lkS (by decide +kernel) l3)
  have k4 : ρ2.lookup (Str.ofString "second") = some (.val (.str second)) := by rw [← hρ]; exact lkS (by decide +kernel) (lkS (by decide +kernel) l4)
  have k5 : ρ2.lookup (Str.ofString "total") = some (.val (.int total)) := by rw [← hρ]; exact lkS (by decide +kernel) (lkS (by decide +kernel) l5)
  have k6 : ρ2.lookup (Str.ofString "lefts") = some (.val (.lst (((T.filter (clear second)).map valT).map wsD))) := by rw [← hρ]; exact lkS (by decide +kernel) lkE
  have k7 : ρ2.lookup (Str.ofString "rights") = some (.val (.lst (((T.filter (clear first)).map valT).map wsD))) := by rw [← hρ]; exact lkE
  refine ST.cons (ST1.ite (BV.cmp (EV.binop (EV.lenM (EV.nv k6 rdL) kLe) (EV.lenM (EV.nv k7 rdR) kLe) (BinV.add_int _ _)) (EV.lenM (EV.nv k1 rdT) kLe) (CmpV.lt_int _ _)) (fun hb => ?_) fun hb => ?_)
  · refine ST.cons (ST1.ret (EV.cmp (EV.nv k5 rdTo) (EV.cint 0 0) (CmpV.eq_int total 0)) ?_)
    show Fl.ret (.bool _) = Fl.ret (.bool (lastP T first second total))
    rw [List.length_map, List.length_map] at hb
    unfold lastP
    rw [if_pos (of_decide_eq_true hb)]
  · refine ST.nil ?_
    refine ST.cons (ST1.ret (EV.cmp (EV.nv k5 rdTo) (EV.call (fn_mul (stands_mul (t1 := first) (t2 := second) (v1 := (T.filter (clear second)).map valT) (v2 := (T.filter (clear first)).map valT) (hl5 second) (hv second)))
      (EVL.cons (EV.call fn_stands (EVL.cons (EV.nv k3 rdF) (EVL.cons (EV.call (fn_product (hl5 second) (hv second)) (EVL.cons (EV.nv k6 rdL) EVL.nil) hA2 (names_in _ (by kernel_rfl)) kP (by decide) ⟨_, _, rfl, rfl, rfl⟩) EVL.nil)) hA2 (names_in _ (by kernel_rfl)) kSt (by decide) ⟨_, _, rfl, rfl, rfl⟩)
        (EVL.cons (EV.call fn_stands (EVL.cons (EV.nv k4 rdS) (EVL.cons (EV.call (fn_product (hl5 first) (hv first)) (EVL.cons (EV.nv k7 rdR) EVL.nil) hA2 (names_in _ (by kernel_rfl)) kP (by decide) ⟨_, _, rfl, rfl, rfl⟩) EVL.nil)) hA2 (names_in _ (by kernel_rfl)) kSt (by decide) ⟨_, _, rfl, rfl, rfl⟩) EVL.nil))
      (hA.le (by decide)) (names_in _ (by kernel_rfl)) kM (by decide) ⟨_, _, rfl, rfl, rfl⟩) (CmpV.eq_int total _)) ?_)
    show Fl.ret (.bool _) = Fl.ret (.bool (lastP T first second total))
    rw [List.length_map, List.length_map] at hb
    unfold lastP
    rw [if_neg (of_decide_eq_false hb)]
end
end Mine
end
section
open PySem PySem.W PyProof.Rows PySem.Builtin.Str PySem.StrLaws
set_option Elab.async false
set_option autoImplicit false
set_option linter.unusedVariables false
namespace Mine
noncomputable def dd (x : List Nat) : List Nat := dots ++ joinL dots (x.map fun c => [c]) ++ dots
noncomputable def totalP (W : List Wd) (first second : List Nat) : Int := W.foldl (fun s x => if (emP (dd first) x.1 && emP (dd second) x.1) = true then s + x.2 else s) 0
noncomputable def cutA (numbers : List Int) : Nat := ((num numbers 16).fmod 6).toNat
noncomputable def cutB (numbers : List Int) : Nat := ((num numbers 17).fmod 6).toNat
structure LQ (numbers : List Int) (T : List Tree) (picked first second : List Nat) (ρ : Loc) : Prop where
  n : ρ.lookup (Str.ofString "numbers") = some (.val (.lst (numbers.map D.int)))
  t : ρ.lookup (Str.ofString "things") = some (.val (.lst (T.map fun t => D.str (sh t))))
  v : ρ.lookup (Str.ofString "values") = some (.val (.lst (T.map fun t => wsD (valT t))))
  p : ρ.lookup (Str.ofString "picked") = some (.val (.str picked))
  f : ρ.lookup (Str.ofString "first") = some (.val (.str first))
  s : ρ.lookup (Str.ofString "second") = some (.val (.str second))
  no : ρ.noOwn = true
theorem LQ.set {numbers : List Int} {T : List Tree} {picked first second : List Nat} {ρ : Loc} {x : Str} {d : D} (h : LQ numbers T picked first second ρ)
    (hx : ([Str.ofString "numbers", Str.ofString "things", Str.ofString "values", Str.ofString "picked", Str.ofString "first", Str.ofString "second"].all fun y => !(y == x)) = true) : LQ numbers T picked first second (ρ.set x (.val d)) := by
  simp only [List.all_cons, List.all_nil, Bool.and_true, Bool.and_eq_true, Bool.not_eq_true'] at hx
  obtain ⟨h1, h2, h3, h4, h5, h6⟩ := hx
  exact ⟨lkS h1 h.n, lkS h2 h.t, lkS h3 h.v, lkS h4 h.p, lkS h5 h.f, lkS h6 h.s, noOwn_set h.no⟩
section
variable {w : World}
theorem hmS {A : Around} {env : Env} {ρ : Loc} {p1 a1 c : Pos} (e : Expr) (l : List Nat) (hA : A.handled = none) (hl : l.length ≤ 100) (h : EV pw w A env ρ e (.str l))
    (hs : starEach [e] env = (false, eval e env) :: starEach [] env := by rfl) (hline : (a1.endLine == c.line) = true := by rfl) :
    EV pw w A env ρ (.Call (.Attribute (.Constant (.str (Str.ofString "...")) 0 p1) (Str.ofString "join") a1) [e] [] c) (.str (joinL dots (l.map fun c => [c]))) := by
  have : 400 ≤ lim := by decide
  refine EV.meth PySem.F.slot_str_join PySem.F.type_str_join (EV.cstr dots 0 (by decide +kernel) (by decide : 3 ≤ lim)) (EVL.cons h EVL.nil hs) (CallV.joinStr dots l hA (by rw [show dots.length = 3 from rfl]; omega)) rfl ?_ hline ?_
  · rw [hs]; rfl
  · exact ⟨_, _, rfl, hs, by rw [hs]; rfl⟩
theorem dd_len (x : List Nat) (h : x.length ≤ 5) : (joinL dots (x.map fun c => [c])).length ≤ 20 ∧ (dd x).length ≤ 30 := by
  have h1 := joinL_length dots (x.map fun c => [c])
  rw [sum_ones, List.length_map, show dots.length = 3 from rfl] at h1
  refine ⟨by omega, ?_⟩
  unfold dd
  rw [List.length_append, List.length_append, show dots.length = 3 from rfl]; omega
theorem evDD {A : Around} {env : Env} {ρ : Loc} {e : Expr} {x : List Nat} {k1 k2 : Nat} {p1 p2 p3 p4 p5 a1 c : Pos} (hA : A.handled = none) (hx : x.length ≤ 5) (h : EV pw w A env ρ e (.str x))
    (hs : starEach [e] env = (false, eval e env) :: starEach [] env := by rfl) (hline : (a1.endLine == c.line) = true := by rfl) :
    EV pw w A env ρ (.BinOp (.BinOp (.Constant (.str (Str.ofString "...")) k1 p1) .Add (.Call (.Attribute (.Constant (.str (Str.ofString "...")) 0 p2) (Str.ofString "join") a1) [e] [] c) p3) .Add (.Constant (.str (Str.ofString "...")) k2 p4) p5) (.str (dd x)) := by
  have hl := dd_len x hx
  have : 100 ≤ lim := by decide
  have h3 : dots.length = 3 := rfl
  have eD : ∀ {k : Nat} {pos : Pos}, EV pw w A env ρ (.Constant (.str (Str.ofString "...")) k pos) (.str dots) := fun {k pos} => EV.cstr dots k (by decide +kernel) (by decide : 3 ≤ lim)
  exact EV.binop (EV.binop eD (hmS e x hA (by omega) h hs hline) (BinV.add_str dots _ (by rw [List.length_append]; omega))) eD (BinV.add_str _ dots (by have := hl.2; unfold dd at this; omega))

set_option maxRecDepth 8000 in
theorem law_for {A : Around} {env : Env} {ρ : Loc} {T : List Tree} {W : List Wd} {numbers : List Int} {picked first second : List Nat} (hA : Ok 11 A) (FE : FEnv (defAt 19).scope env) (h18 : numbers.length = 18) (hTl : T.length ≤ 5) (hsh : ∀ t ∈ T, (sh t).length ≤ 15) (hok : ∀ t ∈ T, OkV (valT t))
    (hp : picked.length ≤ 5) (hf : first.length ≤ 5) (hs : second.length ≤ 5) (hj : ∀ x ∈ W, joinedP x.1 (picked.take (cutA numbers)) (picked.drop (cutB numbers)) = true)
    (L : LQ numbers T picked first second ρ) (lW : ρ.lookup (Str.ofString "words") = some (.val (wsD W))) :
    ST pw w A env ρ ((defAt 19).body.drop 13) (fun fl _ => fl = .ret (.bool (lastP T first second (totalP W first second)))) := by
  have rdN := FE.rd (x := Str.ofString "numbers") (by decide +kernel)
  have rdP := FE.rd (x := Str.ofString "picked") (by decide +kernel)
  have rdF := FE.rd (x := Str.ofString "first") (by decide +kernel)
  have rdS := FE.rd (x := Str.ofString "second") (by decide +kernel)
  have rdTo := FE.rd (x := Str.ofString "total") (by decide +kernel)
  have rdW := FE.rd (x := Str.ofString "words") (by decide +kernel)
  have rdWd := FE.rd (x := Str.ofString "word") (by decide +kernel)
  have rdNu := FE.rd (x := Str.ofString "number") (by decide +kernel)
  have wrTo := FE.wr (x := Str.ofString "total") (by decide +kernel)
  have wrWd := FE.wr (x := Str.ofString "word") (by decide +kernel)
  have wrNu := FE.wr (x := Str.ofString "number") (by decide +kernel)
  have kJ := FE.kind (x := Str.ofString "_law_joined") (k := .globalImplicit) (by decide +kernel)
  have kE := FE.kind (x := Str.ofString "_ellipsis_match") (k := .globalImplicit) (by decide +kernel)
  have kA := FE.kind (x := Str.ofString "add") (k := .globalImplicit) (by decide +kernel)
  have hA1 : Ok 1 A := hA.le (by decide)
  have hca : (cutA numbers : Int) = (num numbers 16).fmod 6 := by
    have := fmod_lt (a := num numbers 16) (b := 6) (by omega)
    unfold cutA; omega
  have hcb : (cutB numbers : Int) = (num numbers 17).fmod 6 := by
    have := fmod_lt (a := num numbers 17) (b := 6) (by omega)
    unfold cutB; omega
  conv => arg 6; whnf
  refine ST.cons (ST1.assign (EV.cint 0 0) ?_ wrTo)
  refine ST.cons (ST1.for (sqf := true) (ds := W.map wD) (fun i ρ' => LQ numbers T picked first second ρ' ∧ ∃ n : Int, ρ'.lookup (Str.ofString "total") = some (.val (.int n)) ∧ (W.drop i).foldl (fun s x => if (emP (dd first) x.1 && emP (dd second) x.1) = true then s + x.2 else s) n = totalP W first second)
    (IterE.list hA.1 (EV.nv (d := .lst (W.map wD)) (lkS (by decide +kernel) lW) rdW)) ⟨L.set (by decide +kernel), 0, lkE, rfl⟩ (fun i ρ' h _ => h.1.no) (fun i d ρ' hd h => ?_) fun ρ' h => ?_)
  · obtain ⟨L', n, hn, hfold⟩ := h
    rw [List.getElem?_map] at hd
    obtain ⟨q, hq, rfl⟩ := Option.map_eq_some_iff.mp hd
    have hdrop : W.drop i = q :: W.drop (i + 1) := by
      obtain ⟨hi, rfl⟩ := List.getElem?_eq_some_iff.mp hq
      exact List.drop_eq_getElem_cons hi
    rw [hdrop, List.foldl_cons] at hfold
    have hjq := hj q (List.mem_of_getElem? hq)
    refine ⟨_, AT.pair (d1 := .str q.1) (d2 := .int q.2) hA.1 rfl wrWd wrNu, (fun _ => noOwn_set (noOwn_set L'.no)), ?_⟩
    have L2 : LQ numbers T picked first second ((ρ'.set (Str.ofString "word") (.val (.str q.1))).set (Str.ofString "number") (.val (.int q.2))) := (L'.set (by decide +kernel)).set (by decide +kernel)
    have hn2 : ((ρ'.set (Str.ofString "word") (.val (.str q.1))).set (Str.ofString "number") (.val (.int q.2))).lookup (Str.ofString "total") = some (.val (.int n)) := lkS (by decide +kernel) (lkS (by decide +kernel) hn)
    have hw2 : ((ρ'.set (Str.ofString "word") (.val (.str q.1))).set (Str.ofString "number") (.val (.int q.2))).lookup (Str.ofString "word") = some (.val (.str q.1)) := lkS (by decide +kernel) lkE
    have hu2 : ((ρ'.set (Str.ofString "word") (.val (.str q.1))).set (Str.ofString "number") (.val (.int q.2))).lookup (Str.ofString "number") = some (.val (.int q.2)) := lkE
    generalize (ρ'.set (Str.ofString "word") (.val (.str q.1))).set (Str.ofString "number") (.val (.int q.2)) = ρ2 at L2 hn2 hw2 hu2
    refine ST.cons (ST1.ite (b := false) (by
      have hB : (!joinedP q.1 (picked.take (cutA numbers)) (picked.drop (cutB numbers))) = false := by rw [hjq]; rfl
      rw [← hB]
      refine BV.not (BV.plain (EV.call (fn_joined (word := q.1) (head := picked.take (cutA numbers)) (tail := picked.drop (cutB numbers)) (by rw [List.length_take]; omega) (by rw [List.length_drop]; omega)) (EVL.cons (EV.nv hw2 rdWd) (EVL.cons ?_ (EVL.cons ?_ EVL.nil))) (hA.le (by decide)) (names_in _ (by kernel_rfl)) kJ (by decide) ⟨_, _, rfl, rfl, rfl⟩) (TruthV.bool _))
      · rw [← sl_take, hca]
        exact EV.slice_str (EV.nv L2.p rdP) EVO.onone (EVO.osome (EV.binop (evNum (i := 16) h18 (by omega) (EV.nv L2.n rdN) (EV.cint 16 0)) (EV.cint 6 0) (BinV.mod_int _ _ (by decide))))
      · rw [← sl_drop, hcb]
        exact EV.slice_str (EV.nv L2.p rdP) (EVO.osome (EV.binop (evNum (i := 17) h18 (by omega) (EV.nv L2.n rdN) (EV.cint 17 0)) (EV.cint 6 0) (BinV.mod_int _ _ (by decide)))) EVO.onone) (fun h => by cases h) fun _ => ?_)
    refine ST.nil ?_
    have ldF := (dd_len first hf).2
    have ldS := (dd_len second hs).2
    refine ST.cons (ST1.ite (BV.and2 (BV.plain (EV.em hA1 kE (by omega) (evDD hA.1 hf (EV.nv L2.f rdF)) (EV.nv hw2 rdWd)) (TruthV.bool (emP (dd first) q.1))) (fun _ => BV.plain (EV.em hA1 kE (by omega) (evDD hA.1 hs (EV.nv L2.s rdS)) (EV.nv hw2 rdWd)) (TruthV.bool (emP (dd second) q.1)))) (fun hb => ?_) fun hb => ?_)
    · rw [if_pos hb] at hfold
      refine ST.cons (ST1.assign (EV.call (fn_add fun A => BinV.add_int n q.2) (EVL.cons (EV.nv hn2 rdTo) (EVL.cons (EV.nv hu2 rdNu) EVL.nil)) hA1 (names_in _ (by kernel_rfl)) kA (by decide) ⟨_, _, rfl, rfl, rfl⟩) ?_ wrTo)
      exact ST.nil (ST.nil ⟨L2.set (by decide +kernel), n + q.2, lkE, hfold⟩)
    · rw [if_neg (by rw [hb]; decide)] at hfold
      exact ST.nil (ST.nil ⟨L2, n, hn2, hfold⟩)
  · obtain ⟨L', n, hn, hfold⟩ := h
    rw [List.length_map, List.drop_length, List.foldl_nil] at hfold
    subst hfold
    exact law_end hA FE hTl hsh hok L'.no L'.t L'.v L'.f L'.s hn
end
end Mine
end
section
open PySem PySem.W PyProof.Rows PySem.Builtin.Str PySem.StrLaws
set_option Elab.async false
set_option autoImplicit false
set_option linter.unusedVariables false
namespace Mine
noncomputable def bitsP (numbers : List Int) : Int := (num numbers 10).fdiv 2
noncomputable def tst (bits : Int) (k : Nat) : Bool := decide ((bits.fdiv (2 ^ k)).fmod 2 = 1)
noncomputable def partsP (numbers : List Int) (T : List Tree) : List (List Nat) := if (num numbers 10).fmod 2 = 0 then T.map sh else [[97], [98], [99], [100], [101]]
noncomputable def chosenP (numbers : List Int) (T : List Tree) : List Nat := (((List.range (partsP numbers T).length).filter (tst (bitsP numbers))).map fun k => (partsP numbers T).getD k []).flatten
noncomputable def pickF (picked chosen : List Nat) : List Nat := picked.filter fun c => inStr [c] chosen
noncomputable def secondP (picked chosen : List Nat) : List Nat := picked.filter fun c => !inStr [c] chosen
noncomputable def firstP (bits : Int) (picked chosen : List Nat) : List Nat := if (bits.fdiv 32).fmod 2 = 1 then (pickF picked chosen).reverse else pickF picked chosen
theorem joinOnes (l : List Nat) : joinL [] (l.map fun c => [c]) = l := by
  rw [joinL_nil]
  induction l with
  | nil => rfl
  | cons a r ih => rw [List.map_cons, List.flatten_cons, ih]; rfl
section
variable {w : World}
set_option maxRecDepth 8000 in
theorem hmJ {A : Around} {env : Env} {ρ : Loc} {p1 a1 c : Pos} (e : Expr) (ls : List (List Nat)) (res : List Nat) (hr : joinL [] ls = res) (hsum : (ls.map List.length).sum ≤ 1000) (h : EV pw w A env ρ e (.lst (ls.map D.str)))
    (hs : starEach [e] env = (false, eval e env) :: starEach [] env := by rfl) (hl : (a1.endLine == c.line) = true := by rfl) :
    EV pw w A env ρ (.Call (.Attribute (.Constant (.str (Str.ofString "")) 0 p1) (Str.ofString "join") a1) [e] [] c) (.str res) := by
  subst hr
  have : 1000 ≤ lim := by decide
  exact hm e ls h (CallV.join [] ls (by rw [List.length_nil, Nat.mul_zero]; omega)) hs hl
set_option maxRecDepth 8000 in
/-- the letters of the picked order that a test lets through -/
theorem EV.sieve {A : Around} {env : Env} {ρ : Loc} {picked : List Nat} {q : Nat → Bool} {sc : Scope} {test : Expr} {p1 p2 p3 p4 p5 p6 pos : Pos} (hA : Ok 11 A) (hp : picked.length ≤ 5) (rdP : Rd env (Str.ofString "picked")) (lp : ρ.lookup (Str.ofString "picked") = some (.val (.str picked)))
    (hsc : sc.kind = .function) (hcells : ∀ x ∈ sc.names, x.2 ≠ .cell) (hnames : ∀ y ∈ sc.names, y.2 = .local → sc.names.lookup y.1 = some .local) (hcap : ∀ n, (n, NameKind.free) ∈ sc.names → Cap env n) (n1 : sc.names.lookup (Str.ofString "letter") = some .local)
    (ht : ∀ cenv C c, CEnv sc env C cenv → BV pw w A cenv ((inner sc ρ).set (Str.ofString "letter") (.val (.str [c]))) test (q c)) (hl : (p5.endLine == p6.line) = true) :
    EV pw w A env ρ (.Call (.Attribute (.Constant (.str (Str.ofString "")) 0 p4) (Str.ofString "join") p5) [.ListComp (.Name (Str.ofString "letter") p1) [⟨.Name (Str.ofString "letter") p2, .Name (Str.ofString "picked") p3, [test], 0⟩] sc pos] [] p6) (.str (picked.filter q)) := by
  have big : 30 ≤ lim := by decide
  have hf := List.length_filter_le q picked
  refine hmJ _ ((picked.filter q).map fun c => [c]) _ (joinOnes _) (by rw [sum_ones]; omega) ?_ rfl hl
  have e : ((picked.filter q).map fun c => [c]).map D.str = (picked.filter q).map fun c => D.str [c] := by rw [List.map_map]; rfl
  rw [e]
  have hlen : ((picked.filter q).map fun c => D.str [c]).length ≤ lim := by rw [List.length_map]; omega
  exact EV.comp (sqf := false) (ds := picked.map fun c => D.str [c]) (IterE.str hA.1 (EV.nv lp rdP)) hsc hcells hnames hcap hlen
    (LoopOk.one picked (fun c => D.str [c]) q (fun c => D.str [c]) hlen fun cenv C CE c hc => ⟨_, AT.name (d := .str [c]) (CE.wr n1), Sub.set (Sub.refl _) (inner_none n1) _, noOwn_set (inner_noOwn _ _), BVs.one (ht cenv C c CE), fun _ => EV.nv lkE (CE.rdL n1)⟩)

set_option maxRecDepth 8000 in
theorem law_c {A : Around} {env : Env} {ρ : Loc} {T : List Tree} {W : List Wd} {numbers : List Int} {picked chosen : List Nat} {bits : Int} (hA : Ok 11 A) (FE : FEnv (defAt 19).scope env) (h18 : numbers.length = 18) (hTl : T.length ≤ 5) (hsh : ∀ t ∈ T, (sh t).length ≤ 15) (hok : ∀ t ∈ T, OkV (valT t))
    (hp : picked.length ≤ 5) (hj : ∀ x ∈ W, joinedP x.1 (picked.take (cutA numbers)) (picked.drop (cutB numbers)) = true)
    (l1 : ρ.lookup (Str.ofString "numbers") = some (.val (.lst (numbers.map D.int)))) (l2 : ρ.lookup (Str.ofString "things") = some (.val (.lst (T.map fun t => D.str (sh t))))) (l3 : ρ.lookup (Str.ofString "values") = some (.val (.lst (T.map fun t => wsD (valT t)))))
    (l4 : ρ.lookup (Str.ofString "words") = some (.val (wsD W))) (l5 : ρ.lookup (Str.ofString "picked") = some (.val (.str picked))) (l6 : ρ.lookup (Str.ofString "bits") = some (.val (.int bits))) (l7 : ρ.lookup (Str.ofString "chosen") = some (.val (.str chosen))) (hno : ρ.noOwn = true) :
    ST pw w A env ρ ((defAt 19).body.drop 10) (fun fl _ => fl = .ret (.bool (lastP T (firstP bits picked chosen) (secondP picked chosen) (totalP W (firstP bits picked chosen) (secondP picked chosen))))) := by
  have rdP := FE.rd (x := Str.ofString "picked") (by decide +kernel)
  have rdF := FE.rd (x := Str.ofString "first") (by decide +kernel)
  have rdB := FE.rd (x := Str.ofString "bits") (by decide +kernel)
  have wrF := FE.wr (x := Str.ofString "first") (by decide +kernel)
  have wrS := FE.wr (x := Str.ofString "second") (by decide +kernel)
  have capC : Cap env (Str.ofString "chosen") := FE.cap (by decide +kernel)
  have hA1 : Ok 1 A := hA.le (by decide)
  have hfl : (pickF picked chosen).length ≤ 5 := Nat.le_trans (List.length_filter_le _ _) hp
  have hsl : (secondP picked chosen).length ≤ 5 := Nat.le_trans (List.length_filter_le _ _) hp
  conv => arg 6; whnf
  refine ST.cons (ST1.assign (d := .str (pickF picked chosen)) (EV.sieve hA hp rdP l5 rfl (by decide +kernel) (by decide +kernel) (fun n hn => ?_) (by decide +kernel) (fun cenv C c CE => BV.plain (EV.call (fn_contains (a := chosen) (b := [c])) (EVL.cons (EV.nv (lkS (by decide +kernel) (inner_some (by decide +kernel) l7)) (CE.rdF (by decide +kernel) (by decide))) (EVL.cons (EV.nv lkE (CE.rdL (by decide +kernel))) EVL.nil)) hA1 (names_in _ (by kernel_rfl)) (CE.glob (by decide +kernel)) (by decide) ⟨_, _, rfl, rfl, rfl⟩) (TruthV.bool _)) rfl) ?_ wrF)
  · simp only [List.mem_cons, Prod.mk.injEq, reduceCtorEq, and_false, List.not_mem_nil, or_false, false_or, and_true] at hn
    rw [hn]; exact capC
  refine ST.cons (ST1.assign (d := .str (secondP picked chosen)) (EV.sieve hA hp rdP (lkS (by decide +kernel) l5) rfl (by decide +kernel) (by decide +kernel) (fun n hn => ?_) (by decide +kernel) (fun cenv C c CE => BV.not (BV.plain (EV.call (fn_contains (a := chosen) (b := [c])) (EVL.cons (EV.nv (lkS (by decide +kernel) (inner_some (by decide +kernel) (lkS (by decide +kernel) l7))) (CE.rdF (by decide +kernel) (by decide))) (EVL.cons (EV.nv lkE (CE.rdL (by decide +kernel))) EVL.nil)) hA1 (names_in _ (by kernel_rfl)) (CE.glob (by decide +kernel)) (by decide) ⟨_, _, rfl, rfl, rfl⟩) (TruthV.bool _))) rfl) ?_ wrS)
  · simp only [List.mem_cons, Prod.mk.injEq, reduceCtorEq, and_false, List.not_mem_nil, or_false, false_or, and_true] at hn
    rw [hn]; exact capC
  have L0 : LQ numbers T picked (pickF picked chosen) (secondP picked chosen) ((ρ.set (Str.ofString "first") (.val (.str (pickF picked chosen)))).set (Str.ofString "second") (.val (.str (secondP picked chosen)))) :=
    ⟨lkS (by decide +kernel) (lkS (by decide +kernel) l1), lkS (by decide +kernel) (lkS (by decide +kernel) l2), lkS (by decide +kernel) (lkS (by decide +kernel) l3), lkS (by decide +kernel) (lkS (by decide +kernel) l5), lkS (by decide +kernel) lkE, lkE, noOwn_set (noOwn_set hno)⟩
  have m4 : ((ρ.set (Str.ofString "first") (.val (.str (pickF picked chosen)))).set (Str.ofString "second") (.val (.str (secondP picked chosen)))).lookup (Str.ofString "words") = some (.val (wsD W)) := lkS (by decide +kernel) (lkS (by decide +kernel) l4)
  have m6 : ((ρ.set (Str.ofString "first") (.val (.str (pickF picked chosen)))).set (Str.ofString "second") (.val (.str (secondP picked chosen)))).lookup (Str.ofString "bits") = some (.val (.int bits)) := lkS (by decide +kernel) (lkS (by decide +kernel) l6)
  generalize (ρ.set (Str.ofString "first") (.val (.str (pickF picked chosen)))).set (Str.ofString "second") (.val (.str (secondP picked chosen))) = ρ2 at L0 m4 m6
  refine ST.cons (ST1.ite (BV.cmp (EV.binop (EV.binop (EV.nv m6 rdB) (EV.cint 32 0) (BinV.div_int bits 32 (by decide) (small_div (by decide)))) (EV.cint 2 0) (BinV.mod_int _ 2 (by decide))) (EV.cint 1 0) (CmpV.eq_int _ 1)) (fun hb => ?_) fun hb => ?_)
  · have hb' : (bits.fdiv 32).fmod 2 = 1 := of_decide_eq_true hb
    have e : firstP bits picked chosen = (pickF picked chosen).reverse := by unfold firstP; rw [if_pos hb']
    refine ST.cons (ST1.assign (EV.rev (EV.nv L0.f rdF) (EV.unop (EV.cint 1 0) (UnV.neg 1))) ?_ wrF)
    refine ST.nil ?_
    rw [e]
    exact law_for hA FE h18 hTl hsh hok hp (by rw [List.length_reverse]; exact hfl) hsl hj ⟨lkS (by decide +kernel) L0.n, lkS (by decide +kernel) L0.t, lkS (by decide +kernel) L0.v, lkS (by decide +kernel) L0.p, lkE, lkS (by decide +kernel) L0.s, noOwn_set L0.no⟩ (lkS (by decide +kernel) m4)
  · have hb' : ¬ (bits.fdiv 32).fmod 2 = 1 := of_decide_eq_false hb
    have e : firstP bits picked chosen = pickF picked chosen := by unfold firstP; rw [if_neg hb']
    refine ST.nil ?_
    rw [e]
    exact law_for hA FE h18 hTl hsh hok hp hfl hsl hj L0 m4
end
end Mine
end
section
open PySem PySem.W PyProof.Rows PySem.Builtin.Str PySem.StrLaws
set_option Elab.async false
set_option autoImplicit false
set_option linter.unusedVariables false
namespace Mine
section
variable {w : World}
theorem pow_ok {k : Nat} (h : k < 5) : Builtin.Int.intTooBig (↑(Builtin.Int.intBits 2) * (k : Int)) = false := by
  match k, h with
  | 0, _ => decide +kernel
  | 1, _ => decide +kernel
  | 2, _ => decide +kernel
  | 3, _ => decide +kernel
  | 4, _ => decide +kernel
theorem pow_small {k : Nat} (h : k < 5) : ((2 : Int) ^ k) ≠ 0 ∧ ((2 : Int) ^ k).natAbs.log2 / 30 + 1 ≤ 300 := by
  match k, h with
  | 0, _ => decide +kernel
  | 1, _ => decide +kernel
  | 2, _ => decide +kernel
  | 3, _ => decide +kernel
  | 4, _ => decide +kernel
set_option maxRecDepth 8000 in
theorem EV.chosen {A : Around} {env : Env} {ρ : Loc} {ps : List (List Nat)} {dP : D} {bits : Int} {sc : Scope} {p1 p2 p3 p4 p5 p6 p7 p8 p9 p10 p11 p12 p13 p14 p15 p16 p17 p18 p19 p20 p21 p22 : Pos} {i1 i2 i3 : Nat} (hA : Ok 11 A) (hps : ps.length ≤ 5) (hpl : ∀ x ∈ ps, x.length ≤ 15)
    (rdP : Rd env (Str.ofString "parts")) (lp : ρ.lookup (Str.ofString "parts") = some (.val dP)) (lb : ρ.lookup (Str.ofString "bits") = some (.val (.int bits))) (kR : env.kindOf (Str.ofString "range") = some .globalImplicit)
    (hLen : EV pw w A env ρ (.Call (.Name (Str.ofString "len") p1) [.Name (Str.ofString "parts") p2] [] p3) (.int ps.length))
    (hItem : ∀ (cenv : Env) (ρ' : Loc) (k : Nat), k < ps.length → ρ'.lookup (Str.ofString "parts") = some (.val dP) → Rd cenv (Str.ofString "parts") → EV pw w A cenv ρ' (.Name (Str.ofString "k") p5) (.int k) → EV pw w A cenv ρ' (.Subscript (.Name (Str.ofString "parts") p4) (.Name (Str.ofString "k") p5) p6) (.str (ps.getD k [])))
    (hsc : sc.kind = .function) (hcells : ∀ x ∈ sc.names, x.2 ≠ .cell) (hnames : ∀ y ∈ sc.names, y.2 = .local → sc.names.lookup y.1 = some .local) (hcap : ∀ n, (n, NameKind.free) ∈ sc.names → Cap env n) (n1 : sc.names.lookup (Str.ofString "k") = some .local) (n2 : sc.names.lookup (Str.ofString "parts") = some .free) (n3 : sc.names.lookup (Str.ofString "bits") = some .free)
    (hl : (p18.endLine == p19.line) = true) :
    EV pw w A env ρ (.Call (.Attribute (.Constant (.str (Str.ofString "")) 0 p17) (Str.ofString "join") p18) [.ListComp (.Subscript (.Name (Str.ofString "parts") p4) (.Name (Str.ofString "k") p5) p6) [⟨.Name (Str.ofString "k") p7, .Call (.Name (Str.ofString "range") p8) [.Call (.Name (Str.ofString "len") p1) [.Name (Str.ofString "parts") p2] [] p3] [] p9,
      [.Compare (.BinOp (.BinOp (.Name (Str.ofString "bits") p10) .FloorDiv (.BinOp (.Constant (.int 2) i1 p11) .Pow (.Name (Str.ofString "k") p12) p13) p14) .Mod (.Constant (.int 2) i2 p15) p16) [.Eq] [.Constant (.int 1) i3 p20] p21], 0⟩] sc p22] [] p19)
      (.str ((((List.range ps.length).filter (tst bits)).map fun k => ps.getD k []).flatten)) := by
  have big : 100 ≤ lim := by decide
  have e : ((((List.range ps.length).filter (tst bits)).map fun k => ps.getD k []).map D.str) = ((List.range ps.length).filter (tst bits)).map fun k => D.str (ps.getD k []) := by rw [List.map_map]; rfl
  have hfl := List.length_filter_le (tst bits) (List.range ps.length)
  rw [List.length_range] at hfl
  have hget : ∀ k, (ps.getD k []).length ≤ 15 := fun k => by
    rw [List.getD_eq_getElem?_getD]
    cases h : ps[k]? with
    | none => exact Nat.zero_le _
    | some x => exact hpl x (List.mem_of_getElem? h)
  refine hmJ _ (((List.range ps.length).filter (tst bits)).map fun k => ps.getD k []) _ (joinL_nil _) ?_ ?_ rfl hl
  · have := sum_le 15 (((List.range ps.length).filter (tst bits)).map fun k => ps.getD k []) (fun x hx => by
      obtain ⟨k, _, rfl⟩ := List.mem_map.mp hx
      exact hget k)
    rw [List.length_map] at this; omega
  rw [e]
  have hlen : (((List.range ps.length).filter (tst bits)).map fun k => D.str (ps.getD k [])).length ≤ lim := by rw [List.length_map]; omega
  refine EV.comp (sqf := false) (ds := (List.range ps.length).map fun (k : Nat) => D.int k) (IterE.upTo hA.1 hLen (by omega) kR) hsc hcells hnames hcap hlen
    (LoopOk.one (List.range ps.length) (fun (k : Nat) => D.int k) (tst bits) (fun k => D.str (ps.getD k [])) hlen fun cenv C CE k hk => ?_)
  have hk5 : k < ps.length := List.mem_range.mp hk
  have hp := pow_small (k := k) (by omega)
  refine ⟨_, AT.name (d := .int k) (CE.wr n1), Sub.set (Sub.refl _) (inner_none n1) _, noOwn_set (inner_noOwn _ _), BVs.one ?_, fun _ => hItem cenv _ k hk5 (lkS (by decide +kernel) (inner_some n2 lp)) (CE.rdF n2 (by decide)) (EV.nv lkE (CE.rdL n1))⟩
  exact BV.cmp (EV.binop (EV.binop (EV.nv (lkS (by decide +kernel) (inner_some n3 lb)) (CE.rdF n3 (by decide))) (EV.binop (EV.cint 2 i1) (EV.nv lkE (CE.rdL n1)) (BinV.pow_int 2 k k (by decide) rfl (pow_ok (by omega)))) (BinV.div_int bits _ hp.1 (small_div hp.2))) (EV.cint 2 i2) (BinV.mod_int _ 2 (by decide))) (EV.cint 1 i3) (CmpV.eq_int _ 1)

set_option maxHeartbeats 2000000 in
set_option maxRecDepth 8000 in
theorem law_b {A : Around} {env : Env} {ρ : Loc} {T : List Tree} {W : List Wd} {numbers : List Int} {picked : List Nat} (hA : Ok 11 A) (FE : FEnv (defAt 19).scope env) (h18 : numbers.length = 18) (hTl : T.length ≤ 5) (hsh : ∀ t ∈ T, (sh t).length ≤ 15) (hok : ∀ t ∈ T, OkV (valT t))
    (hp : picked.length ≤ 5) (hj : ∀ x ∈ W, joinedP x.1 (picked.take (cutA numbers)) (picked.drop (cutB numbers)) = true)
    (l1 : ρ.lookup (Str.ofString "numbers") = some (.val (.lst (numbers.map D.int)))) (l2 : ρ.lookup (Str.ofString "things") = some (.val (.lst (T.map fun t => D.str (sh t))))) (l3 : ρ.lookup (Str.ofString "values") = some (.val (.lst (T.map fun t => wsD (valT t)))))
    (l4 : ρ.lookup (Str.ofString "words") = some (.val (wsD W))) (l5 : ρ.lookup (Str.ofString "picked") = some (.val (.str picked))) (hno : ρ.noOwn = true) :
    ST pw w A env ρ ((defAt 19).body.drop 7) (fun fl _ => fl = .ret (.bool (lastP T (firstP (bitsP numbers) picked (chosenP numbers T)) (secondP picked (chosenP numbers T)) (totalP W (firstP (bitsP numbers) picked (chosenP numbers T)) (secondP picked (chosenP numbers T)))))) := by
  have rdN := FE.rd (x := Str.ofString "numbers") (by decide +kernel)
  have rdT := FE.rd (x := Str.ofString "things") (by decide +kernel)
  have rdPa := FE.rd (x := Str.ofString "parts") (by decide +kernel)
  have wrB := FE.wr (x := Str.ofString "bits") (by decide +kernel)
  have wrPa := FE.wr (x := Str.ofString "parts") (by decide +kernel)
  have wrC := FE.wr (x := Str.ofString "chosen") (by decide +kernel)
  have kR := FE.kind (x := Str.ofString "range") (k := .globalImplicit) (by decide +kernel)
  have kLe := FE.kind (x := Str.ofString "len") (k := .globalImplicit) (by decide +kernel)
  have capB : Cap env (Str.ofString "bits") := FE.cap (by decide +kernel)
  have capP : Cap env (Str.ofString "parts") := FE.cap (by decide +kernel)
  have five : 5 ≤ lim := by decide
  conv => arg 6; whnf
  refine ST.cons (ST1.assign (d := .int (bitsP numbers)) (EV.binop (evNum (i := 10) h18 (by omega) (EV.nv l1 rdN) (EV.cint 10 0)) (EV.cint 2 0) (BinV.div_int _ 2 (by decide) (small_div (by decide)))) ?_ wrB)
  have m1 : (ρ.set (Str.ofString "bits") (.val (.int (bitsP numbers)))).lookup (Str.ofString "numbers") = some (.val (.lst (numbers.map D.int))) := lkS (by decide +kernel) l1
  have m2 : (ρ.set (Str.ofString "bits") (.val (.int (bitsP numbers)))).lookup (Str.ofString "things") = some (.val (.lst (T.map fun t => D.str (sh t)))) := lkS (by decide +kernel) l2
  have m3 : (ρ.set (Str.ofString "bits") (.val (.int (bitsP numbers)))).lookup (Str.ofString "values") = some (.val (.lst (T.map fun t => wsD (valT t)))) := lkS (by decide +kernel) l3
  have m4 : (ρ.set (Str.ofString "bits") (.val (.int (bitsP numbers)))).lookup (Str.ofString "words") = some (.val (wsD W)) := lkS (by decide +kernel) l4
  have m5 : (ρ.set (Str.ofString "bits") (.val (.int (bitsP numbers)))).lookup (Str.ofString "picked") = some (.val (.str picked)) := lkS (by decide +kernel) l5
  have m6 : (ρ.set (Str.ofString "bits") (.val (.int (bitsP numbers)))).lookup (Str.ofString "bits") = some (.val (.int (bitsP numbers))) := lkE
  have mno : (ρ.set (Str.ofString "bits") (.val (.int (bitsP numbers)))).noOwn = true := noOwn_set hno
  generalize ρ.set (Str.ofString "bits") (.val (.int (bitsP numbers))) = ρ1 at m1 m2 m3 m4 m5 m6 mno
  have hcap : ∀ n, (n = Str.ofString "bits" ∨ n = Str.ofString "parts") → Cap env n := fun n h => by rcases h with rfl | rfl; exact capB; exact capP
  by_cases hpar : (num numbers 10).fmod 2 = 0
  · have hparts : partsP numbers T = T.map sh := by unfold partsP; rw [if_pos hpar]
    have e1 : (T.map sh).map D.str = T.map fun t => D.str (sh t) := by rw [List.map_map]; rfl
    refine ST.cons (ST1.assign (d := .lst ((T.map sh).map D.str)) (EV.ifexp (BV.cmp (EV.binop (evNum (i := 10) h18 (by omega) (EV.nv m1 rdN) (EV.cint 10 0)) (EV.cint 2 0) (BinV.mod_int _ 2 (by decide))) (EV.cint 0 0) (CmpV.eq_int _ 0)) (fun _ => by rw [e1]; exact EV.nv m2 rdT) fun h => absurd hpar (of_decide_eq_false h)) ?_ wrPa)
    refine ST.cons (ST1.assign (EV.chosen (ps := T.map sh) (dP := .lst ((T.map sh).map D.str)) hA (by rw [List.length_map]; exact hTl) (fun x hx => by obtain ⟨t, ht, rfl⟩ := List.mem_map.mp hx; exact hsh t ht) rdPa lkE (lkS (by decide +kernel) m6) kR (EV.lenM (EV.nv lkE rdPa) kLe)
      (fun cenv ρ' k hk lp rp hK => EV.sub (EV.nv lp rp) hK (ItemV.lst (j := k) (by rw [List.length_map] at hk; omega) (by omega) (by rw [List.length_map]; exact StrLaws.seqIndex_nonneg (by omega) (by omega)) (by rw [List.getElem?_map, List.getElem?_eq_getElem hk, List.getD_eq_getElem?_getD, List.getElem?_eq_getElem hk]; rfl)))
      rfl (by decide +kernel) (by decide +kernel) (fun n hn => ?_) (by decide +kernel) (by decide +kernel) (by decide +kernel) rfl) ?_ wrC)
    · simp only [List.mem_cons, Prod.mk.injEq, reduceCtorEq, and_false, List.not_mem_nil, or_false, false_or, and_true] at hn
      exact hcap n hn
    have := law_c (w := w) (chosen := chosenP numbers T) (bits := bitsP numbers) hA FE h18 hTl hsh hok hp hj (lkS (x := Str.ofString "chosen") (v := .val (.str (chosenP numbers T))) (by decide +kernel) (lkS (x := Str.ofString "parts") (v := .val (.lst ((T.map sh).map D.str))) (by decide +kernel) m1)) (lkS (by decide +kernel) (lkS (by decide +kernel) m2)) (lkS (by decide +kernel) (lkS (by decide +kernel) m3)) (lkS (by decide +kernel) (lkS (by decide +kernel) m4)) (lkS (by decide +kernel) (lkS (by decide +kernel) m5)) (lkS (by decide +kernel) (lkS (by decide +kernel) m6)) lkE (noOwn_set (noOwn_set mno))
    have hch : chosenP numbers T = ((((List.range (T.map sh).length).filter (tst (bitsP numbers))).map fun k => (T.map sh).getD k []).flatten) := by unfold chosenP; rw [hparts]
    rw [← hch]
    exact this
  · have hparts : partsP numbers T = [[97], [98], [99], [100], [101]] := by unfold partsP; rw [if_neg hpar]
    refine ST.cons (ST1.assign (d := .str [97, 98, 99, 100, 101]) (EV.ifexp (BV.cmp (EV.binop (evNum (i := 10) h18 (by omega) (EV.nv m1 rdN) (EV.cint 10 0)) (EV.cint 2 0) (BinV.mod_int _ 2 (by decide))) (EV.cint 0 0) (CmpV.eq_int _ 0)) (fun h => absurd (of_decide_eq_true h) hpar) fun _ => EV.cstr [97, 98, 99, 100, 101] 0 (by decide +kernel) five) ?_ wrPa)
    have hg : ∀ k, k < 5 → ([97, 98, 99, 100, 101] : List Nat)[k]? = some (97 + k) ∧ ([[97], [98], [99], [100], [101]] : List (List Nat)).getD k [] = [97 + k] := fun k hk => by
      match k, hk with
      | 0, _ => exact ⟨rfl, rfl⟩
      | 1, _ => exact ⟨rfl, rfl⟩
      | 2, _ => exact ⟨rfl, rfl⟩
      | 3, _ => exact ⟨rfl, rfl⟩
      | 4, _ => exact ⟨rfl, rfl⟩
    refine ST.cons (ST1.assign (EV.chosen (ps := [[97], [98], [99], [100], [101]]) (dP := .str [97, 98, 99, 100, 101]) hA (Nat.le_refl _) (by decide) rdPa lkE (lkS (by decide +kernel) m6) kR (EV.len (EV.nv (d := .str [97, 98, 99, 100, 101]) lkE rdPa) (len_D_str [97, 98, 99, 100, 101]) kLe)
      (fun cenv ρ' k hk lp rp hK => by
        have hk5 : k < 5 := hk
        rw [(hg k hk5).2]
        exact EV.sub (EV.nv lp rp) hK (ItemV.str (j := k) (by omega) (by omega) (StrLaws.seqIndex_nonneg (by omega) (by show (k : Int) < 5; omega)) (hg k hk5).1))
      rfl (by decide +kernel) (by decide +kernel) (fun n hn => ?_) (by decide +kernel) (by decide +kernel) (by decide +kernel) rfl) ?_ wrC)
    · simp only [List.mem_cons, Prod.mk.injEq, reduceCtorEq, and_false, List.not_mem_nil, or_false, false_or, and_true] at hn
      exact hcap n hn
    have := law_c (w := w) (chosen := chosenP numbers T) (bits := bitsP numbers) hA FE h18 hTl hsh hok hp hj (lkS (x := Str.ofString "chosen") (v := .val (.str (chosenP numbers T))) (by decide +kernel) (lkS (x := Str.ofString "parts") (v := .val (.str [97, 98, 99, 100, 101])) (by decide +kernel) m1)) (lkS (by decide +kernel) (lkS (by decide +kernel) m2)) (lkS (by decide +kernel) (lkS (by decide +kernel) m3)) (lkS (by decide +kernel) (lkS (by decide +kernel) m4)) (lkS (by decide +kernel) (lkS (by decide +kernel) m5)) (lkS (by decide +kernel) (lkS (by decide +kernel) m6)) lkE (noOwn_set (noOwn_set mno))
    have hch : chosenP numbers T = ((((List.range ([[97], [98], [99], [100], [101]] : List (List Nat)).length).filter (tst (bitsP numbers))).map fun k => ([[97], [98], [99], [100], [101]] : List (List Nat)).getD k []).flatten) := by unfold chosenP; rw [hparts]
    rw [← hch]
    exact this
end
end Mine
end
section
open PySem PySem.W PyProof.Rows PySem.Builtin.Str PySem.StrLaws
set_option Elab.async false
set_option autoImplicit false
set_option linter.unusedVariables false
namespace Mine
noncomputable def firstsL : List Int := [1, 0, 2, 3, 3, 1, 0, 1, 0, 5, 2, 1, 2, 3, 0, 1, 3, 2]
noncomputable def numAt (script : List Int) (k : Nat) : Int := if k < script.length then script.getD k 0 else firstsL.getD k 0
noncomputable def numbersP (script : List Int) : List Int := (List.range 18).map (numAt script)
noncomputable def wordsP (T : List Tree) : List Wd := prodP (T.map valT)
noncomputable def pickI (numbers : List Int) (W : List Wd) : Nat := ((num numbers 9).fmod W.length).toNat
noncomputable def pickedP (numbers : List Int) (W : List Wd) : List Nat := (W.getD (pickI numbers W) ([], 0)).1
noncomputable def unitsP (numbers : List Int) : List (List Nat) := (escG 0 false (stripP (rowP numbers))).map (·.2)
theorem escG_two : ∀ (l : List Nat) (i : Int) (esc : Bool), ∀ q ∈ escG i esc l, q.2.length ≤ 2
  | [], i, esc => by
    unfold escG
    split
    · intro q hq; rw [List.mem_singleton] at hq; subst hq; exact (by decide : 1 ≤ 2)
    · intro q hq; cases hq
  | c :: r, i, true => by
    unfold escG
    intro q hq
    rcases List.mem_cons.mp hq with rfl | hq
    · exact Nat.le_refl 2
    · exact escG_two r (i + 1) false q hq
  | c :: r, i, false => by
    unfold escG
    split
    · exact escG_two r (i + 1) true
    · intro q hq
      rcases List.mem_cons.mp hq with rfl | hq
      · exact (by decide : 1 ≤ 2)
      · exact escG_two r (i + 1) false q hq
theorem joinL_len0 : ∀ ls : List (List Nat), (joinL [] ls).length = (ls.map List.length).sum := fun ls => by rw [joinL_nil, List.length_flatten]
theorem stripS_bound (addr : List Nat) : (stripS addr).res.length ≤ addr.length + 1 ∧ ∀ x ∈ (stripS addr).res, x.length ≤ addr.length := by
  have key : ∀ (qs : List (Int × List Nat)) (st : SS) (n : Nat), st.res.length ≤ n → (∀ x ∈ st.res, x.length ≤ addr.length) → (qs.foldl (stepS addr) st).res.length ≤ n + qs.length ∧ ∀ x ∈ (qs.foldl (stepS addr) st).res, x.length ≤ addr.length := by
    intro qs
    induction qs with
    | nil => intro st n h1 h2; exact ⟨h1, h2⟩
    | cons q r ih =>
      intro st n h1 h2
      have := ih (stepS addr st q) (n + 1) (by have := stepS_res addr st q; omega) (stepS_sl addr st q h2)
      rw [List.foldl_cons, List.length_cons]
      exact ⟨by omega, this.2⟩
  have := key (escG 0 false addr) ⟨0, none, []⟩ 0 (Nat.le_refl _) (fun x h => nomatch h)
  have h2 := escG_length addr 0 false
  exact ⟨by have := this.1; unfold stripS; omega, this.2⟩
theorem stripP_len (addr : List Nat) : (stripP addr).length ≤ (addr.length + 2) * addr.length + addr.length := by
  unfold stripP
  split
  · rw [joinL_len0]
    have hb := stripS_bound addr
    refine Nat.le_trans (sum_le addr.length _ fun x hx => ?_) ?_
    · rcases List.mem_append.mp hx with hx | hx
      · exact hb.2 x hx
      · split at hx
        · rw [List.mem_singleton] at hx; rw [hx]; exact sl_length _ _ _
        · cases hx
    · refine Nat.le_trans (Nat.mul_le_mul_right _ (show _ ≤ addr.length + 2 from ?_)) (Nat.le_add_right _ _)
      rw [List.length_append]
      have : (if (stripS addr).start < (addr.length : Int) then [sl addr (some (stripS addr).start) none] else []).length ≤ 1 := by split <;> simp
      omega
  · exact Nat.le_add_left _ _
theorem rowP_len (numbers : List Int) : (rowP numbers).length ≤ 135 := by
  unfold rowP
  have h1 := dress_len numbers (shs (treesP numbers))
  have h2 := shs_len (treesP numbers)
  have h3 : lvs (treesP numbers) = lettersF numbers 4 := lvs_merges numbers _
  rw [h3, lettersF_len] at h2
  omega
theorem numbersP_len (script : List Int) : (numbersP script).length = 18 := by unfold numbersP; rw [List.length_map, List.length_range]

section
variable {w : World}
theorem seC {c : Const} {k : Nat} {p : Pos} {es : List Expr} {env : Env} : starEach (.Constant c k p :: es) env = (false, eval (.Constant c k p) env) :: starEach es env := rfl
theorem EVL.int {A : Around} {env : Env} {ρ : Loc} {i : Int} {k : Nat} {p : Pos} {es : List Expr} {ds : List D} (h : EVL pw w A env ρ es ds) : EVL pw w A env ρ (.Constant (.int i) k p :: es) (.int i :: ds) := EVL.cons (EV.cint i k) h seC
theorem EV.firsts {A : Around} {env : Env} {ρ : Loc} {pos : Pos} {p1 p2 p3 p4 p5 p6 p7 p8 p9 p10 p11 p12 p13 p14 p15 p16 p17 p18 : Pos} : EV pw w A env ρ (.List [.Constant (.int 1) 0 p1, .Constant (.int 0) 0 p2, .Constant (.int 2) 0 p3, .Constant (.int 3) 0 p4, .Constant (.int 3) 0 p5, .Constant (.int 1) 0 p6, .Constant (.int 0) 0 p7, .Constant (.int 1) 0 p8, .Constant (.int 0) 0 p9, .Constant (.int 5) 0 p10, .Constant (.int 2) 0 p11, .Constant (.int 1) 0 p12, .Constant (.int 2) 0 p13, .Constant (.int 3) 0 p14, .Constant (.int 0) 0 p15, .Constant (.int 1) 0 p16, .Constant (.int 3) 0 p17, .Constant (.int 2) 0 p18] pos) (.lst (firstsL.map D.int)) := by
  have e : firstsL.map D.int = [.int 1, .int 0, .int 2, .int 3, .int 3, .int 1, .int 0, .int 1, .int 0, .int 5, .int 2, .int 1, .int 2, .int 3, .int 0, .int 1, .int 3, .int 2] := rfl
  rw [e]
  refine EV.clist ?_ ?_
  · iterate 18 refine EVL.int ?_
    exact EVL.nil
  · simp only [List.length_cons, List.length_nil]; decide
set_option maxHeartbeats 400000 in
set_option maxRecDepth 8000 in
theorem fn_law {script : List Int} (hs63 : script.length ≤ 63) (H : ∀ l r : Tree, LtT l → LtT r → thingsP (sh l ++ sh r) = [sh l, sh r]) {numbers : List Int} (hnum : numbersP script = numbers) {T : List Tree} (hT : treesP numbers = T) {W : List Wd} (hW : wordsP T = W)
    (hP1 : joinL [] ((unitsP numbers).filter fun u => decide (u.length = 1)) = shs T) (hP2 : thingsP (shs T) = T.map sh) (hTl : T.length ≤ 5) (hlt : ∀ t ∈ T, LtT t ∧ (leaves t).length ≤ 5 ∧ ht t ≤ 4) (hW0 : 0 < W.length) (hpk : (pickedP numbers W).length ≤ 5)
    (hj : ∀ x ∈ W, joinedP x.1 ((pickedP numbers W).take (cutA numbers)) ((pickedP numbers W).drop (cutB numbers)) = true) :
    FN pw w 12 (Str.ofString "law") [.lst (script.map D.int)] (.bool (lastP T (firstP (bitsP numbers) (pickedP numbers W) (chosenP numbers T)) (secondP (pickedP numbers W) (chosenP numbers T)) (totalP W (firstP (bitsP numbers) (pickedP numbers W) (chosenP numbers T)) (secondP (pickedP numbers W) (chosenP numbers T))))) := by
  refine FN.intro (n := 11) (rc := defAt 19) (names := [Str.ofString "script"]) r_law ?_ rfl (by decide +kernel) (by decide +kernel) (by kernel_rfl) (by kernel_rfl) (by kernel_rfl) ?_
  · intro pm code doc vs hv
    match vs, hv with
    | [a], _ => rfl
  intro A env hA FE
  have h18 : numbers.length = 18 := by rw [← hnum]; exact numbersP_len script
  have hsh : ∀ t ∈ T, (sh t).length ≤ 15 := fun t ht => by have := sh_len t; have := (hlt t ht).2.1; omega
  have hok : ∀ t ∈ T, OkV (valT t) := fun t ht => valT_okv (hlt t ht).2.1
  have rdN := FE.rd (x := Str.ofString "numbers") (by decide +kernel)
  have rdU := FE.rd (x := Str.ofString "units") (by decide +kernel)
  have rdT := FE.rd (x := Str.ofString "things") (by decide +kernel)
  have rdV := FE.rd (x := Str.ofString "values") (by decide +kernel)
  have rdW := FE.rd (x := Str.ofString "words") (by decide +kernel)
  have wrFi := FE.wr (x := Str.ofString "firsts") (by decide +kernel)
  have wrN := FE.wr (x := Str.ofString "numbers") (by decide +kernel)
  have wrU := FE.wr (x := Str.ofString "units") (by decide +kernel)
  have wrT := FE.wr (x := Str.ofString "things") (by decide +kernel)
  have wrV := FE.wr (x := Str.ofString "values") (by decide +kernel)
  have wrW := FE.wr (x := Str.ofString "words") (by decide +kernel)
  have wrP := FE.wr (x := Str.ofString "picked") (by decide +kernel)
  have kN : env.kindOf (Str.ofString "numbers") = some .local := FE.kind (by decide +kernel)
  have kU : env.kindOf (Str.ofString "units") = some .local := FE.kind (by decide +kernel)
  have kVc : env.kindOf (Str.ofString "values") = some .cell := FE.kind (by decide +kernel)
  have kR := FE.kind (x := Str.ofString "range") (k := .globalImplicit) (by decide +kernel)
  have kLe := FE.kind (x := Str.ofString "len") (k := .globalImplicit) (by decide +kernel)
  have kIt := FE.kind (x := Str.ofString "_iter_escaped_chars") (k := .globalImplicit) (by decide +kernel)
  have kSt := FE.kind (x := Str.ofString "_strip_quoted_realnames") (k := .globalImplicit) (by decide +kernel)
  have kRow := FE.kind (x := Str.ofString "_law_row") (k := .globalImplicit) (by decide +kernel)
  have kTh := FE.kind (x := Str.ofString "_law_things") (k := .globalImplicit) (by decide +kernel)
  have kPr := FE.kind (x := Str.ofString "_law_product") (k := .globalImplicit) (by decide +kernel)
  have bk := FE.block (by kernel_rfl)
  have capS : Cap env (Str.ofString "script") := FE.cap (by decide +kernel)
  have capF : Cap env (Str.ofString "firsts") := FE.cap (by decide +kernel)
  have big : 1000 ≤ lim := by decide
  conv => arg 6; whnf
  refine ST.cons ?_
  refine @ST1.assign pw w A env _ _ _ _ (.lst (firstsL.map D.int)) _ _ ?_ ?_ wrFi ?_
  rotate_left 2
  · rfl
  · with_reducible exact EV.firsts
  · have l0 : ([Str.ofString "script"].zip ([D.lst (script.map D.int)].map Slot.val)).lookup (Str.ofString "script") = some (.val (.lst (script.map D.int))) := rfl
    have hno0 : Loc.noOwn ([Str.ofString "script"].zip ([D.lst (script.map D.int)].map Slot.val)) = true := rfl
    generalize [Str.ofString "script"].zip ([D.lst (script.map D.int)].map Slot.val) = ρ0 at l0 hno0
    have eN : (numbers.map D.int) = ((List.range 18).filter fun _ => true).map fun k => D.int (numAt script k) := by
      rw [List.filter_eq_self.mpr (by simp), ← hnum, numbersP, List.map_map]; rfl
    have hlN : (((List.range 18).filter fun _ => true).map fun k => D.int (numAt script k)).length ≤ lim := by rw [← eN, List.length_map, h18]; omega
    refine ST.cons (ST1.comp (sqf := false) (ds := (List.range 18).map fun (k : Nat) => D.int k) (res := ((List.range 18).filter fun _ => true).map fun k => D.int (numAt script k)) (IterE.upTo hA.1 (EV.cint 18 0) (by decide) kR) rfl (by decide +kernel) (by decide +kernel) (fun n hn => ?_) hlN
      (LoopOk.one (List.range 18) (fun (k : Nat) => D.int k) (fun _ => true) (fun k => D.int (numAt script k)) hlN fun cenv C CE k hk => ?_) wrN ?_ (noOwn_set hno0) (swC bk kN (by rfl) (by decide +kernel)))
    · simp only [List.mem_cons, Prod.mk.injEq, reduceCtorEq, and_false, List.not_mem_nil, or_false, false_or, and_true] at hn
      rcases hn with rfl | rfl
      · exact capF
      · exact capS
    · have hk18 : k < 18 := List.mem_range.mp hk
      refine ⟨_, AT.name (d := .int k) (CE.wr (by decide +kernel)), Sub.set (Sub.refl _) (inner_none (by decide +kernel)) _, noOwn_set (inner_noOwn _ _), BVs.nil, fun _ => ?_⟩
      have evK : ∀ {pos : Pos} {ρ : Loc}, EV pw w A cenv (ρ.set (Str.ofString "k") (.val (.int k))) (.Name (Str.ofString "k") pos) (.int k) := fun {pos ρ} => EV.nv lkE (CE.rdL (by decide +kernel))
      refine EV.ifexp (BV.cmp evK (EV.lenM (EV.nv (lkS (by decide +kernel) (inner_some (by decide +kernel) (lkS (by decide +kernel) l0))) (CE.rdF (by decide +kernel) (by decide))) (CE.glob (by decide +kernel))) (CmpV.lt_int _ _)) (fun hb => ?_) fun hb => ?_
      · have hb' : k < script.length := by have := of_decide_eq_true hb; omega
        refine EV.sub (EV.nv (lkS (by decide +kernel) (inner_some (by decide +kernel) (lkS (by decide +kernel) l0))) (CE.rdF (by decide +kernel) (by decide))) evK (ItemV.lst (j := k) (by omega) (by omega) (by rw [List.length_map]; exact StrLaws.seqIndex_nonneg (by omega) (by omega)) ?_)
        rw [List.getElem?_map, List.getElem?_eq_getElem hb', numAt, if_pos hb', List.getD_eq_getElem?_getD, List.getElem?_eq_getElem hb']; rfl
      · have hb' : ¬ k < script.length := by have := of_decide_eq_false hb; omega
        have hfl : k < firstsL.length := hk18
        refine EV.sub (EV.nv (lkS (by decide +kernel) (inner_some (by decide +kernel) lkE)) (CE.rdF (by decide +kernel) (by decide))) evK (ItemV.lst (j := k) (by omega) (by omega) (by rw [List.length_map]; exact StrLaws.seqIndex_nonneg (by omega) (by omega)) ?_)
        rw [List.getElem?_map, List.getElem?_eq_getElem hfl, numAt, if_neg hb', List.getD_eq_getElem?_getD, List.getElem?_eq_getElem hfl]; rfl
    rw [← eN]
    have l1 : (Loc.set (Loc.set ρ0 (Str.ofString "firsts") (.val (.lst (firstsL.map D.int)))) (Str.ofString "numbers") (.val (.lst (numbers.map D.int)))).lookup (Str.ofString "numbers") = some (.val (.lst (numbers.map D.int))) := lkE
    have hno1 : (Loc.set (Loc.set ρ0 (Str.ofString "firsts") (.val (.lst (firstsL.map D.int)))) (Str.ofString "numbers") (.val (.lst (numbers.map D.int)))).noOwn = true := noOwn_set (noOwn_set hno0)
    generalize Loc.set (Loc.set ρ0 (Str.ofString "firsts") (.val (.lst (firstsL.map D.int)))) (Str.ofString "numbers") (.val (.lst (numbers.map D.int))) = ρ1 at l1 hno1
    have hA1 : Ok 1 A := hA.le (by decide)
    have hrl := rowP_len numbers
    have hel := escG_length (stripP (rowP numbers)) 0 false
    have hstl := stripP_len (rowP numbers)
    have hst2 : (stripP (rowP numbers)).length ≤ 137 * 135 + 135 := Nat.le_trans hstl (Nat.add_le_add (Nat.mul_le_mul (by omega) hrl) hrl)
    have lbig : 100000 ≤ lim := by decide
    have eU : (unitsP numbers).map D.str = ((escG 0 false (stripP (rowP numbers))).filter fun _ => true).map fun q => D.str q.2 := by
      rw [List.filter_eq_self.mpr (by simp), unitsP, List.map_map]; rfl
    have hul : (unitsP numbers).length ≤ 20000 := by unfold unitsP; rw [List.length_map]; omega
    have hlU : (((escG 0 false (stripP (rowP numbers))).filter fun _ => true).map fun q => D.str q.2).length ≤ lim := by rw [← eU, List.length_map]; omega
    refine ST.cons (ST1.comp (sqf := false) (ds := (escG 0 false (stripP (rowP numbers))).map uD) (res := ((escG 0 false (stripP (rowP numbers))).filter fun _ => true).map fun q => D.str q.2)
      (IterE.gen hA1 (EV.call (fn_strip (by omega)) (EVL.cons (EV.call (fn_row h18) (EVL.cons (EV.nv l1 rdN) EVL.nil) (hA.le (by decide)) (names_in _ (by kernel_rfl)) kRow (by decide) ⟨_, _, rfl, rfl, rfl⟩) EVL.nil) (hA.le (by decide)) (names_in _ (by kernel_rfl)) kSt (by decide) ⟨_, _, rfl, rfl, rfl⟩) kIt) rfl (by decide +kernel) (by decide +kernel) (noFree (by decide +kernel)) hlU
      (LoopOk.one (escG 0 false (stripP (rowP numbers))) uD (fun _ => true) (fun q => D.str q.2) hlU fun cenv C CE q hq => ⟨_, AT.pair (d1 := .int q.1) (d2 := .str q.2) hA.1 rfl (CE.wr (by decide +kernel)) (CE.wr (by decide +kernel)), Sub.set (Sub.set (Sub.refl _) (inner_none (by decide +kernel)) _) (inner_none (by decide +kernel)) _, noOwn_set (noOwn_set (inner_noOwn _ _)), BVs.nil, fun _ => EV.nv lkE (CE.rdL (by decide +kernel))⟩) wrU ?_ hno1 (swC bk kU (by rfl) (by decide +kernel)))
    rw [← eU]
    have l2 : (ρ1.set (Str.ofString "units") (.val (.lst ((unitsP numbers).map D.str)))).lookup (Str.ofString "numbers") = some (.val (.lst (numbers.map D.int))) := lkS (by decide +kernel) l1
    have u2 : (ρ1.set (Str.ofString "units") (.val (.lst ((unitsP numbers).map D.str)))).lookup (Str.ofString "units") = some (.val (.lst ((unitsP numbers).map D.str))) := lkE
    have hno2 : (ρ1.set (Str.ofString "units") (.val (.lst ((unitsP numbers).map D.str)))).noOwn = true := noOwn_set hno1
    generalize ρ1.set (Str.ofString "units") (.val (.lst ((unitsP numbers).map D.str))) = ρ2 at l2 u2 hno2
    have hTs : (shs T).length ≤ 75 := by
      have h1 := sum_le 15 (T.map sh) (fun x hx => by obtain ⟨t, ht, rfl⟩ := List.mem_map.mp hx; exact hsh t ht)
      rw [List.length_map] at h1
      have h2 : (shs T).length = ((T.map sh).map List.length).sum := by unfold shs; rw [List.flatMap_def, List.length_flatten]
      omega
    have ft : FN pw w 4 (Str.ofString "_law_things") [.str (shs T)] (.lst (T.map fun t => D.str (sh t))) := by
      have := fn_things (w := w) (row := shs T) (by omega)
      rw [hP2, List.map_map] at this
      exact this
    have et : (fun u : List Nat => decide ((u.length : Int) = 1)) = fun u => decide (u.length = 1) := by funext u; rw [decide_eq_decide]; omega
    have hfu := List.length_filter_le (fun u : List Nat => decide (u.length = 1)) (unitsP numbers)
    have hlF : (((unitsP numbers).filter fun u => decide (u.length = 1)).map D.str).length ≤ lim := by rw [List.length_map]; omega
    refine ST.cons (ST1.assign (d := .lst (T.map fun t => D.str (sh t))) (EV.call ft (EVL.cons (hmJ _ ((unitsP numbers).filter fun u => decide (u.length = 1)) (shs T) hP1 (by rw [← joinL_len0, hP1]; omega)
      (EV.comp (sqf := true) (ds := (unitsP numbers).map D.str) (IterE.list hA.1 (EV.nv u2 rdU)) rfl (by decide +kernel) (by decide +kernel) (noFree (by decide +kernel)) hlF
        (LoopOk.one (unitsP numbers) D.str (fun u => decide (u.length = 1)) D.str hlF fun cenv C CE u hu => ⟨_, AT.name (d := .str u) (CE.wr (by decide +kernel)), Sub.set (Sub.refl _) (inner_none (by decide +kernel)) _, noOwn_set (inner_noOwn _ _), BVs.one (by
          have e := congrFun et u
          rw [← e]
          exact BV.cmp (EV.len (EV.nv lkE (CE.rdL (by decide +kernel))) (len_D_str u) (CE.glob (by decide +kernel))) (EV.cint 1 0) (CmpV.eq_int _ 1)), fun _ => EV.nv lkE (CE.rdL (by decide +kernel))⟩))) EVL.nil) (hA.le (by decide)) (names_in _ (by kernel_rfl)) kTh (by decide) ⟨_, _, rfl, rfl, rfl⟩) ?_ wrT)
    have eV : (T.map fun t => wsD (valT t)) = (T.filter fun _ => true).map fun t => wsD (valT t) := by rw [List.filter_eq_self.mpr (by simp)]
    have hlV : ((T.filter fun _ => true).map fun t => wsD (valT t)).length ≤ lim := by rw [← eV, List.length_map]; omega
    refine ST.cons (ST1.assign (d := .lst (T.map fun t => wsD (valT t))) (by
      rw [eV]
      exact EV.comp (sqf := true) (ds := T.map fun t => D.str (sh t)) (IterE.list hA.1 (EV.nv lkE rdT)) rfl (by decide +kernel) (by decide +kernel) (noFree (by decide +kernel)) hlV
        (LoopOk.one T (fun t => D.str (sh t)) (fun _ => true) (fun t => wsD (valT t)) hlV fun cenv C CE t ht => ⟨_, AT.name (d := .str (sh t)) (CE.wr (by decide +kernel)), Sub.set (Sub.refl _) (inner_none (by decide +kernel)) _, noOwn_set (inner_noOwn _ _), BVs.nil, fun _ =>
          EV.call (fn_value H t (hlt t ht).1 (hlt t ht).2.1) (EVL.cons (EV.nv lkE (CE.rdL (by decide +kernel))) EVL.nil) (hA.le (by have := (hlt t ht).2.2; omega)) (names_in _ (by kernel_rfl)) (CE.glob (by decide +kernel)) (by decide) ⟨_, _, rfl, rfl, rfl⟩⟩)) ?_ wrV (swCell kVc))
    have fp : FN pw w 2 (Str.ofString "_law_product") [.lst (T.map fun t => wsD (valT t))] (wsD W) := by
      have := fn_product (w := w) (values := T.map valT) (by rw [List.length_map]; exact hTl) (fun v hv => by obtain ⟨t, ht, rfl⟩ := List.mem_map.mp hv; exact hok t ht)
      rw [List.map_map] at this
      rw [← hW]; exact this
    refine ST.cons (ST1.assign (d := wsD W) (EV.call fp (EVL.cons (EV.nv lkE rdV) EVL.nil) (hA.le (by decide)) (names_in _ (by kernel_rfl)) kPr (by decide) ⟨_, _, rfl, rfl, rfl⟩) ?_ wrW)
    have hWl : W.length ≤ lim := by
      rw [← hW]
      exact (prodP_ok (vs := T.map valT) (by rw [List.length_map]; exact hTl) (fun v hv => by obtain ⟨t, ht, rfl⟩ := List.mem_map.mp hv; exact hok t ht)).1
    have hlim : lim = 1048576 := rfl
    have hpi := fmod_lt (a := num numbers 9) (b := (W.length : Int)) (by omega)
    have hpI : (pickI numbers W : Int) = (num numbers 9).fmod (W.length : Int) ∧ pickI numbers W < W.length := by unfold pickI; omega
    have hgW : W[pickI numbers W]? = some (W.getD (pickI numbers W) ([], 0)) := by rw [List.getD_eq_getElem?_getD, List.getElem?_eq_getElem hpI.2]; rfl
    refine ST.cons (ST1.assign (d := .str (pickedP numbers W)) (EV.sub (d2 := .int 0) (EV.sub (d1 := .lst (W.map wD)) (d2 := .int (pickI numbers W)) (d := wD (W.getD (pickI numbers W) ([], 0))) (EV.nv lkE rdW) (by
      rw [hpI.1]
      exact EV.binop (evNum (i := 9) h18 (by omega) (EV.nv (lkS (by decide +kernel) (lkS (by decide +kernel) (lkS (by decide +kernel) l2))) rdN) (EV.cint 9 0)) (EV.lenM (EV.nv (d := .lst (W.map wD)) lkE rdW) kLe) (BinV.mod_int _ _ (by omega)))
      (ItemV.lst (j := pickI numbers W) (by omega) (by omega) (by rw [List.length_map]; exact StrLaws.seqIndex_nonneg (by omega) (by omega)) (by rw [List.getElem?_map, hgW]; rfl))) (EV.cint 0 0) (ItemV.tup (j := 0) (by decide) (by decide) rfl rfl)) ?_ wrP)
    exact law_b hA FE h18 hTl hsh hok hpk hj (lkS (by decide +kernel) (lkS (by decide +kernel) (lkS (by decide +kernel) (lkS (by decide +kernel) l2)))) (lkS (by decide +kernel) (lkS (by decide +kernel) (lkS (by decide +kernel) lkE))) (lkS (by decide +kernel) (lkS (by decide +kernel) lkE)) (lkS (by decide +kernel) lkE) lkE (noOwn_set (noOwn_set (noOwn_set (noOwn_set hno2))))
end
end Mine
end
section
open PySem PySem.W PyProof.Rows PySem.Builtin.Str PySem.StrLaws
set_option Elab.async false
set_option autoImplicit false
set_option linter.unusedVariables false
namespace Mine
noncomputable def AtL (x y : List Nat) (hi i : Nat) : Prop := i + y.length ≤ hi ∧ (x.drop i).take y.length = y
theorem at_iff (x y : List Nat) (hi i : Nat) : At ⟨x.toArray⟩ ⟨y.toArray⟩ hi i ↔ AtL x y hi i := by
  unfold At AtL
  rw [subAt_eq]
  simp [Str.length]
theorem find_spec (x y : List Nat) (lo hi : Nat) : (findB x y lo hi = -1 ∧ ∀ i, lo ≤ i → ¬ AtL x y hi i) ∨ ∃ i : Nat, findB x y lo hi = (i : Int) ∧ lo ≤ i ∧ AtL x y hi i ∧ ∀ k, lo ≤ k → k < i → ¬ AtL x y hi k := by
  unfold findB
  rw [occ_eq]
  rcases occ_first ⟨x.toArray⟩ ⟨y.toArray⟩ hi 1 (Nat.le_refl _) (List.range' lo (hi + 1 - lo)) lo (fun i hi => (List.mem_range'_1.mp hi).1) with ⟨h0, hn⟩ | ⟨pre, a, post, e, h0, ha, hn⟩
  · refine .inl ⟨by rw [h0], fun i hlo hi' => hn i ?_ ((at_iff x y hi i).mpr hi')⟩
    have := hi'.1
    rw [List.mem_range'_1]; omega
  · have hs := range'_split_from e
    refine .inr ⟨a, ?_, hs.1, (at_iff x y hi a).mp ha, fun k hk0 hk hk' => hn k (hs.2 k hk0 hk) ((at_iff x y hi k).mpr hk')⟩
    generalize (forIn (List.range' lo (hi + 1 - lo)) ((#[] : Array Nat), lo) (occBody ⟨x.toArray⟩ ⟨y.toArray⟩ hi 1)).run.fst = arr at h0
    have h1 : arr.toList[0]? = some a := by simpa using h0
    cases hL : arr.toList with
    | nil => rw [hL] at h1; cases h1
    | cons b t => rw [hL] at h1; simp at h1; rw [h1]
theorem inStr_iff (x y : List Nat) : inStr x y = true ↔ ∃ a b, y = a ++ x ++ b := by
  unfold inStr
  have e0 : y.length = (⟨y.toArray⟩ : Str).length := by simp [Str.length]
  rw [e0, found_iff]
  constructor
  · rintro ⟨i, h⟩
    have h' : AtL y x y.length i := (at_iff y x y.length i).mp (by rw [← e0] at h; exact h)
    refine ⟨y.take i, y.drop (i + x.length), ?_⟩
    have e1 := List.take_append_drop i y
    have e2 := List.take_append_drop x.length (y.drop i)
    rw [h'.2, List.drop_drop] at e2
    rw [List.append_assoc, e2, e1]
  · rintro ⟨a, b, rfl⟩
    refine ⟨a.length, ?_⟩
    rw [← e0]
    exact (at_iff (a ++ x ++ b) x (a ++ x ++ b).length a.length).mpr ⟨by simp, by simp⟩

/-- the pieces stand one behind the other in the text -/
noncomputable def mt : List (List Nat) → List Nat → Prop
  | [], _ => True
  | w :: r, s => ∃ a b, s = a ++ w ++ b ∧ mt r b
theorem mt_more : ∀ (ws : List (List Nat)) (a s : List Nat), mt ws s → mt ws (a ++ s)
  | [], _, _, _ => trivial
  | w :: r, a, _, ⟨c, b, rfl, h⟩ => ⟨a ++ c, b, by simp, h⟩
theorem seg_split {got : List Nat} {st en i : Nat} {w : List Nat} (h1 : st ≤ i) (h2 : AtL got w en i) (hen : en ≤ got.length) : (got.take en).drop st = ((got.drop st).take (i - st)) ++ w ++ (got.take en).drop (i + w.length) := by
  obtain ⟨h3, h4⟩ := h2
  have e1 : (got.take en).drop st = ((got.take en).drop st).take (i - st) ++ ((got.take en).drop st).drop (i - st) := (List.take_append_drop _ _).symm
  have e2 : ((got.take en).drop st).drop (i - st) = (got.take en).drop i := by rw [List.drop_drop]; congr 1; omega
  have e3 : (got.take en).drop i = ((got.take en).drop i).take w.length ++ ((got.take en).drop i).drop w.length := (List.take_append_drop _ _).symm
  have e4 : ((got.take en).drop i).take w.length = w := by
    conv => rhs; rw [← h4]
    rw [List.drop_take, List.take_take]
    congr 1; omega
  have e5 : ((got.take en).drop st).take (i - st) = (got.drop st).take (i - st) := by
    rw [List.drop_take, List.take_take]; congr 1; omega
  rw [e1, e2, e5, List.append_assoc]
  congr 1
  rw [e3, e4, List.drop_drop]
theorem emLoop_iff (got : List Nat) (en : Nat) (hen : en ≤ got.length) : ∀ (ws : List (List Nat)) (st : Nat), st ≤ en → (emLoop got en st ws = true ↔ mt ws ((got.take en).drop st))
  | [], st, _ => by simp [emLoop, mt]
  | w :: r, st, hst => by
    rw [emLoop]
    rcases find_spec got w st en with ⟨hf, hn⟩ | ⟨i, hf, hi, hat, hmin⟩
    · rw [hf, if_pos (by decide)]
      refine ⟨fun h => (by cases h), ?_⟩
      rintro ⟨a, b, e, _⟩
      exfalso
      refine hn (st + a.length) (Nat.le_add_right _ _) ?_
      have hl := congrArg List.length e
      simp only [List.length_drop, List.length_take, List.length_append] at hl
      refine ⟨by omega, ?_⟩
      have e2 : (got.take en).drop (st + a.length) = w ++ b := by
        rw [← List.drop_drop, e]; simp
      have e3 : ((got.take en).drop (st + a.length)).take w.length = w := by rw [e2]; simp
      conv => rhs; rw [← e3]
      rw [List.drop_take, List.take_take]; congr 1; omega
    · rw [hf, if_neg (by omega)]
      have hw := hat.1
      rw [Int.toNat_natCast, emLoop_iff got en hen r (i + w.length) hw]
      constructor
      · intro h
        exact ⟨_, _, seg_split hi hat hen, h⟩
      · rintro ⟨a, b, e, h⟩
        have hl := congrArg List.length e
        simp only [List.length_drop, List.length_take, List.length_append] at hl
        have hat2 : AtL got w en (st + a.length) := by
          refine ⟨by omega, ?_⟩
          have e2 : (got.take en).drop (st + a.length) = w ++ b := by rw [← List.drop_drop, e]; simp
          have e3 : ((got.take en).drop (st + a.length)).take w.length = w := by rw [e2]; simp
          conv => rhs; rw [← e3]
          rw [List.drop_take, List.take_take]; congr 1; omega
        have hle : i ≤ st + a.length := by
          rcases Nat.lt_or_ge (st + a.length) i with h' | h'
          · exact absurd hat2 (hmin _ (Nat.le_add_right _ _) h')
          · exact h'
        have eb : b = (got.take en).drop (st + a.length + w.length) := by
          rw [← List.drop_drop, ← List.drop_drop, e]; simp
        have : (got.take en).drop (i + w.length) = ((got.take en).drop (i + w.length)).take (st + a.length - i) ++ b := by
          conv => lhs; rw [← List.take_append_drop (st + a.length - i) ((got.take en).drop (i + w.length))]
          rw [List.drop_drop, eb]; congr 2; omega
        rw [this]
        exact mt_more r _ _ h
end Mine
end
section
open PySem PySem.W PyProof.Rows PySem.Builtin.Str PySem.StrLaws
set_option Elab.async false
set_option autoImplicit false
set_option linter.unusedVariables false
namespace Mine
noncomputable def stepO (x y : List Nat) (hi limit : Nat) (st : Array Nat × Nat) (i : Nat) : Array Nat × Nat :=
  if ((st.fst.size < limit ∧ st.snd ≤ i) ∧ i + (⟨y.toArray⟩ : Str).length ≤ hi) ∧ subAt ⟨x.toArray⟩ ⟨y.toArray⟩ i = true then (st.fst.push i, i + (⟨y.toArray⟩ : Str).length) else st
theorem occ_fold (x y : List Nat) (hi limit : Nat) : ∀ (l : List Nat) (st : Array Nat × Nat), (forIn l st (occBody ⟨x.toArray⟩ ⟨y.toArray⟩ hi limit)).run = l.foldl (stepO x y hi limit) st
  | [], st => rfl
  | i :: l, st => by
    rw [List.forIn_cons, List.foldl_cons, ← occ_fold x y hi limit l]
    unfold stepO occBody
    split
    · rfl
    · rfl
theorem step_skip {x y : List Nat} {hi limit : Nat} : ∀ (l : List Nat) (st : Array Nat × Nat), (∀ i ∈ l, st.2 ≤ i → ¬ AtL x y hi i) → l.foldl (stepO x y hi limit) st = st
  | [], _, _ => rfl
  | i :: l, st, h => by
    have : stepO x y hi limit st i = st := by
      unfold stepO
      rw [if_neg]
      rintro ⟨⟨⟨_, h1⟩, h2⟩, h3⟩
      exact h i List.mem_cons_self h1 ((at_iff x y hi i).mp ⟨h2, h3⟩)
    rw [List.foldl_cons, this]
    exact step_skip l st fun j hj => h j (List.mem_cons_of_mem _ hj)
noncomputable def cutsOf : Nat → List (List Nat) → List Nat
  | _, [] => []
  | _, [_] => []
  | a, p :: q :: r => (a + p.length) :: cutsOf (a + p.length + 3) (q :: r)
noncomputable def free46 (p : List Nat) : Prop := 46 ∉ p
theorem at_dot {s : List Nat} {hi i : Nat} (h : AtL s dots hi i) : s[i]? = some 46 := by
  have := h.2
  have h0 : ((s.drop i).take dots.length)[0]? = some 46 := by rw [this]; rfl
  rw [List.getElem?_take_of_lt (by decide), List.getElem?_drop] at h0
  simpa using h0
theorem cuts_run (s : List Nat) : ∀ (ps : List (List Nat)) (pre : List Nat) (found : Array Nat), ps ≠ [] → (∀ p ∈ ps, free46 p) → s = pre ++ joinL dots ps → found.size ≤ pre.length →
    ((List.range' pre.length (s.length + 1 - pre.length)).foldl (stepO s dots s.length (s.length + 1)) (found, pre.length)).1 = found ++ (cutsOf pre.length ps).toArray
  | [], _, _, h, _, _, _ => absurd rfl h
  | [p], pre, found, _, hp, hs, hf => by
    rw [step_skip]
    · simp [cutsOf]
    · intro i hi _ hat
      have h1 := at_dot hat
      have h2 := hat.1
      rw [List.mem_range'_1] at hi
      rw [hs] at h1
      have : joinL dots [p] = p := rfl
      rw [this, List.getElem?_append_right hi.1] at h1
      exact hp p List.mem_cons_self (List.mem_of_getElem? h1)
  | p :: q :: r, pre, found, _, hp, hs, hf => by
    have hj : joinL dots (p :: q :: r) = p ++ dots ++ joinL dots (q :: r) := rfl
    have hd : dots.length = 3 := rfl
    have hs' : s = (pre ++ p ++ dots) ++ joinL dots (q :: r) := by rw [hs, hj]; simp
    have hlen : s.length = pre.length + p.length + 3 + (joinL dots (q :: r)).length := by rw [hs']; simp [hd]; omega
    have hr : List.range' pre.length (s.length + 1 - pre.length) = List.range' pre.length p.length ++ ([pre.length + p.length] ++ ([pre.length + p.length + 1, pre.length + p.length + 2] ++ List.range' (pre ++ p ++ dots).length (s.length + 1 - (pre ++ p ++ dots).length))) := by
      have e1 : (pre ++ p ++ dots).length = pre.length + p.length + 3 := by rw [List.length_append, List.length_append, hd]
      rw [e1]
      have : s.length + 1 - pre.length = p.length + (3 + (s.length + 1 - (pre.length + p.length + 3))) := by omega
      rw [this, ← List.range'_append_1]
      congr 1
      rw [← List.range'_append_1]
      simp [List.range']
    rw [hr, List.foldl_append, List.foldl_append, List.foldl_append]
    rw [step_skip (List.range' pre.length p.length)]
    · have hat : AtL s dots s.length (pre.length + p.length) := by
        refine ⟨by omega, ?_⟩
        rw [hs']
        have : pre.length + p.length = (pre ++ p).length := by simp
        rw [this, List.append_assoc (pre ++ p), List.drop_left]
        simp
      have h2 := (at_iff s dots s.length (pre.length + p.length)).mpr hat
      have e1 : [pre.length + p.length].foldl (stepO s dots s.length (s.length + 1)) (found, pre.length) = (found.push (pre.length + p.length), pre.length + p.length + 3) := by
        rw [List.foldl_cons, List.foldl_nil]
        unfold stepO
        rw [if_pos ⟨⟨⟨by simp only; omega, by simp only; omega⟩, h2.1⟩, h2.2⟩]
        rfl
      rw [e1, step_skip [_, _]]
      · have hlp : (pre ++ p ++ dots).length = pre.length + p.length + 3 := by rw [List.length_append, List.length_append, hd]
        have ih := cuts_run s (q :: r) (pre ++ p ++ dots) (found.push (pre.length + p.length)) (by simp) (fun x hx => hp x (List.mem_cons_of_mem _ hx)) hs' (by rw [Array.size_push, hlp]; omega)
        rw [hlp] at ih ⊢
        rw [ih, cutsOf]
        simp
      · intro i hi h3
        simp only [List.mem_cons, List.not_mem_nil, or_false] at hi
        dsimp only at h3
        omega
    · intro i hi _ hat
      have h1 := at_dot hat
      rw [List.mem_range'_1] at hi
      rw [hs, hj, List.getElem?_append_right hi.1, List.append_assoc, List.getElem?_append_left (by omega)] at h1
      exact hp p List.mem_cons_self (List.mem_of_getElem? h1)
theorem parts_run (s : List Nat) : ∀ (ps : List (List Nat)) (pre : List Nat), ps ≠ [] → s = pre ++ joinL dots ps → (partsFrom ⟨s.toArray⟩ 3 pre.length (cutsOf pre.length ps)).map (fun z => z.cps.toList) = ps
  | [], _, h, _ => absurd rfl h
  | [p], pre, _, hs => by
    show [(strSub ⟨s.toArray⟩ pre.length (⟨s.toArray⟩ : Str).length).cps.toList] = [p]
    rw [strSub_toList]
    have : joinL dots [p] = p := rfl
    rw [this] at hs
    subst hs
    simp [Str.length]
  | p :: q :: r, pre, _, hs => by
    have hj : joinL dots (p :: q :: r) = p ++ dots ++ joinL dots (q :: r) := rfl
    have hd : dots.length = 3 := rfl
    have hs' : s = (pre ++ p ++ dots) ++ joinL dots (q :: r) := by rw [hs, hj]; simp
    have hlp : (pre ++ p ++ dots).length = pre.length + p.length + 3 := by rw [List.length_append, List.length_append, hd]
    have ih := parts_run s (q :: r) (pre ++ p ++ dots) (by simp) hs'
    rw [hlp] at ih
    rw [cutsOf, partsFrom, List.map_cons, ih, strSub_toList]
    congr 1
    show (s.drop pre.length).take (pre.length + p.length - pre.length) = p
    rw [hs, hj, List.drop_left, Nat.add_sub_cancel_left, List.append_assoc, List.take_left]
theorem occ_cuts (ps : List (List Nat)) (h : ps ≠ []) (hp : ∀ p ∈ ps, free46 p) : occurrences ⟨(joinL dots ps).toArray⟩ ⟨dots.toArray⟩ 0 (joinL dots ps).length ((joinL dots ps).length + 1) = cutsOf 0 ps := by
  rw [occ_eq, occ_fold]
  have := cuts_run (joinL dots ps) ps [] #[] h hp rfl (Nat.le_refl _)
  rw [show (0 : Nat) = ([] : List Nat).length from rfl, this]
  simp
theorem split_pieces (ps : List (List Nat)) (h : ps ≠ []) (hp : ∀ p ∈ ps, free46 p) : splitD (joinL dots ps) dots = ps := by
  have hocc := occ_cuts ps h hp
  have hl : (⟨(joinL dots ps).toArray⟩ : Str).length = (joinL dots ps).length := by simp [Str.length]
  unfold splitD Txt.split
  rw [hl, hocc]
  match ps, h with
  | [p], _ =>
    have e : (if (cutsOf 0 [p]).isEmpty = true then [(⟨(joinL dots [p]).toArray⟩ : Str)] else partsBetween ⟨(joinL dots [p]).toArray⟩ (cutsOf 0 [p]) (⟨dots.toArray⟩ : Str).length) = [(⟨(joinL dots [p]).toArray⟩ : Str)] := rfl
    rw [e]
    split <;> rfl
  | p :: q :: r, _ =>
    have hj : joinL dots (p :: q :: r) = p ++ dots ++ joinL dots (q :: r) := rfl
    have hk : Builtin.Str.strKind ⟨dots.toArray⟩ = 1 := by decide +kernel
    have hkw := strKind_one ⟨(joinL dots (p :: q :: r)).toArray⟩
    have hlen : 3 ≤ (joinL dots (p :: q :: r)).length := by rw [hj, List.length_append, List.length_append]; have : dots.length = 3 := rfl; omega
    have hdl : (⟨dots.toArray⟩ : Str).length = 3 := rfl
    rw [if_neg (by rw [hk, hdl]; simp only [Bool.or_eq_true, decide_eq_true_eq]; omega), if_neg (by simp [cutsOf]), partsBetween_eq, hdl]
    exact parts_run (joinL dots (p :: q :: r)) (p :: q :: r) [] (by simp) rfl
theorem in_pieces (p q : List Nat) (r : List (List Nat)) : inStr dots (joinL dots (p :: q :: r)) = true := (inStr_iff _ _).mpr ⟨p, joinL dots (q :: r), rfl⟩
theorem in_free {p : List Nat} (h : free46 p) : inStr dots p = false := by
  cases hb : inStr dots p with
  | false => rfl
  | true =>
    obtain ⟨a, b, rfl⟩ := (inStr_iff _ _).mp hb
    exact absurd (by simp [dots]) h
end Mine
end
section
open PySem PySem.W PyProof.Rows PySem.Builtin.Str PySem.StrLaws
set_option Elab.async false
set_option autoImplicit false
set_option linter.unusedVariables false
namespace Mine
theorem mt_nil_cons (m : List (List Nat)) (s : List Nat) : mt ([] :: m) s ↔ mt m s := by
  constructor
  · rintro ⟨a, b, rfl, h⟩
    rw [List.append_nil]; exact mt_more m a b h
  · intro h; exact ⟨[], s, rfl, h⟩
theorem mt_snoc_nil : ∀ (m : List (List Nat)) (s : List Nat), mt (m ++ [[]]) s ↔ mt m s
  | [], s => by
    show mt [[]] s ↔ True
    rw [mt_nil_cons]; simp [mt]
  | w :: r, s => by
    show (∃ a b, s = a ++ w ++ b ∧ mt (r ++ [[]]) b) ↔ ∃ a b, s = a ++ w ++ b ∧ mt r b
    constructor
    · rintro ⟨a, b, e, h⟩; exact ⟨a, b, e, (mt_snoc_nil r b).mp h⟩
    · rintro ⟨a, b, e, h⟩; exact ⟨a, b, e, (mt_snoc_nil r b).mpr h⟩
theorem last_snoc (m : List (List Nat)) (p : List Nat) : (m ++ [p]).getLastD [] = p ∧ (m ++ [p]).dropLast = m := by
  refine ⟨?_, List.dropLast_concat⟩
  rw [List.getLastD_eq_getLast?]; simp
theorem emTail_iff (got : List Nat) (st : Nat) (m : List (List Nat)) (p : List Nat) (hst : st ≤ got.length) : emTail got st (m ++ [p]) = true ↔ ∃ seg, got.drop st = seg ++ p ∧ mt m seg := by
  obtain ⟨h1, h2⟩ := last_snoc m p
  unfold emTail
  rw [h1, h2]
  by_cases hp : p = []
  · subst hp
    rw [if_pos rfl, if_neg (by omega), emLoop_iff got got.length (Nat.le_refl _) _ st hst, mt_snoc_nil, List.take_length]
    constructor
    · intro h; exact ⟨_, (List.append_nil _).symm, h⟩
    · rintro ⟨seg, e, h⟩; rw [e, List.append_nil]; exact h
  · rw [if_neg hp]
    cases he : ewB got p with
    | false =>
      rw [if_neg Bool.false_ne_true]
      refine ⟨fun h => (by cases h), ?_⟩
      rintro ⟨seg, e, _⟩
      exfalso
      have hl := congrArg List.length e
      rw [List.length_drop, List.length_append] at hl
      have hlp : 0 < p.length := List.length_pos_iff.mpr hp
      have : ewB got p = true := by
        unfold ewB
        rw [decide_eq_true_eq]
        refine ⟨by omega, ?_⟩
        have : got.length - p.length = st + seg.length := by omega
        rw [this, ← List.drop_drop, e]; simp
      rw [he] at this; cases this
    | true =>
      have he' : p.length ≤ got.length ∧ got.drop (got.length - p.length) = p := of_decide_eq_true he
      rw [if_pos rfl]
      by_cases hlt : got.length - p.length < st
      · rw [if_pos hlt]
        refine ⟨fun h => (by cases h), ?_⟩
        rintro ⟨seg, e, _⟩
        exfalso
        have hl := congrArg List.length e
        rw [List.length_drop, List.length_append] at hl
        have hlp : 0 < p.length := List.length_pos_iff.mpr hp
        omega
      · rw [if_neg hlt, emLoop_iff got _ (Nat.sub_le _ _) m st (by omega)]
        have hsplit : got.drop st = (got.take (got.length - p.length)).drop st ++ p := by
          conv => lhs; rw [← List.take_append_drop (got.length - p.length) got]
          rw [List.drop_append_of_le_length (by rw [List.length_take]; omega), he'.2]
        constructor
        · intro h; exact ⟨_, hsplit, h⟩
        · rintro ⟨seg, e, h⟩
          have : (got.take (got.length - p.length)).drop st = seg := List.append_cancel_right (hsplit.symm.trans e)
          rw [this]; exact h
theorem em_iff {p0 pn : List Nat} {mid : List (List Nat)} (got : List Nat) (h0 : free46 p0) (hm : ∀ p ∈ mid, free46 p) (hn : free46 pn) : emP (joinL dots (p0 :: (mid ++ [pn]))) got = true ↔ ∃ seg, got = p0 ++ seg ++ pn ∧ mt mid seg := by
  have hin : inStr dots (joinL dots (p0 :: (mid ++ [pn]))) = true := by
    cases mid with
    | nil => exact in_pieces p0 pn []
    | cons q r => exact in_pieces p0 q (r ++ [pn])
  have hsp : splitD (joinL dots (p0 :: (mid ++ [pn]))) dots = p0 :: (mid ++ [pn]) := split_pieces _ (by simp) (fun p hp => by
    rcases List.mem_cons.mp hp with rfl | hp
    · exact h0
    · rcases List.mem_append.mp hp with hp | hp
      · exact hm p hp
      · rw [List.mem_singleton] at hp; rw [hp]; exact hn)
  unfold emP
  rw [if_pos hin, hsp]
  show (if p0 = [] then emTail got 0 (([] ++ (p0 :: mid)) ++ [pn]) else if swB got p0 = true then emTail got p0.length (mid ++ [pn]) else false) = true ↔ _
  by_cases hp0 : p0 = []
  · subst hp0
    rw [if_pos rfl, emTail_iff got 0 _ pn (Nat.zero_le _)]
    simp only [List.nil_append, List.drop_zero, mt_nil_cons]
  · rw [if_neg hp0]
    unfold swB
    by_cases hs : got.take p0.length = p0
    · rw [if_pos (by simpa using hs)]
      have hl : p0.length ≤ got.length := by have := congrArg List.length hs; rw [List.length_take] at this; omega
      rw [emTail_iff got _ _ pn hl]
      have hg : got = p0 ++ got.drop p0.length := by conv => lhs; rw [← List.take_append_drop p0.length got, hs]
      constructor
      · rintro ⟨seg, e, h⟩; exact ⟨seg, by rw [List.append_assoc, ← e]; exact hg, h⟩
      · rintro ⟨seg, e, h⟩
        refine ⟨seg, ?_, h⟩
        rw [e, List.append_assoc, List.drop_left]
    · rw [if_neg (by simpa using hs)]
      refine ⟨fun h => (by cases h), ?_⟩
      rintro ⟨seg, e, _⟩
      exfalso
      apply hs
      rw [e, List.append_assoc, List.take_left]
theorem em_free {x word : List Nat} (h : free46 x) : emP x word = decide (x = word) := by
  unfold emP
  rw [in_free h, if_neg Bool.false_ne_true]
end Mine
end
section
open PySem PySem.W PyProof.Rows PySem.Builtin.Str PySem.StrLaws
set_option Elab.async false
set_option autoImplicit false
set_option linter.unusedVariables false
namespace Mine
theorem beq_of_iff {a b : Bool} (h : a = true ↔ b = true) : a = b := Bool.eq_iff_iff.mpr h
theorem free46_app {x y : List Nat} (hx : free46 x) (hy : free46 y) : free46 (x ++ y) := fun h => (List.mem_append.mp h).elim hx hy
theorem free46_nil : free46 [] := fun h => nomatch h
theorem take_drop_iff {word tail : List Nat} (hw : word.length = 5) (ht : tail.length ≤ 5) : word.drop (5 - tail.length) = tail ↔ word = word.take (5 - tail.length) ++ tail := by
  constructor
  · intro h; conv => lhs; rw [← List.take_append_drop (5 - tail.length) word, h]
  · intro h
    have h2 := List.take_append_drop (5 - tail.length) word
    exact List.append_cancel_left (h2.trans h)
theorem joined_true {word head tail : List Nat} (hw : word.length = 5) (fh : free46 head) (ft : free46 tail) (hh : head.length ≤ 5) (ht : tail.length ≤ 5) : joinedP word head tail = true := by
  have hcut : ∀ seg, word = seg ++ tail → word.drop (5 - tail.length) = tail ∧ word.take (5 - tail.length) = seg := fun seg e => by
    have hl := congrArg List.length e
    rw [List.length_append, hw] at hl
    have : 5 - tail.length = seg.length := by omega
    rw [this, e, List.drop_left, List.take_left]; exact ⟨rfl, rfl⟩
  have b1 : emP (head ++ tail) word = decide (head ++ tail = word) := em_free (free46_app fh ft)
  have b2 : emP (head ++ dots ++ tail) word = (decide (head.length ≤ 5 - tail.length) && (decide (word.take head.length = head) && decide (word.drop (5 - tail.length) = tail))) := by
    apply beq_of_iff
    have e : head ++ dots ++ tail = joinL dots (head :: ([] ++ [tail])) := by show _ = head ++ dots ++ tail; rfl
    rw [e, em_iff (mid := []) word fh (by intro p h; cases h) ft]
    simp only [Bool.and_eq_true, decide_eq_true_eq]
    constructor
    · rintro ⟨seg, e, _⟩
      have hl := congrArg List.length e
      simp only [List.length_append, hw] at hl
      have hc := hcut (head ++ seg) e
      refine ⟨by omega, ?_, hc.1⟩
      rw [e, List.append_assoc, List.take_left]
    · rintro ⟨h1, h2, h3⟩
      have h4 := (take_drop_iff hw ht).mp h3
      refine ⟨(word.take (5 - tail.length)).drop head.length, ?_, trivial⟩
      have h5 : (word.take (5 - tail.length)).take head.length = head := by rw [List.take_take, Nat.min_eq_left h1, h2]
      conv => lhs; rw [h4, ← List.take_append_drop head.length (word.take (5 - tail.length)), h5]
  have b3 : emP (dots ++ head ++ dots ++ tail) word = (decide (word.drop (5 - tail.length) = tail) && inStr head (word.take (5 - tail.length))) := by
    apply beq_of_iff
    have e : dots ++ head ++ dots ++ tail = joinL dots ([] :: ([head] ++ [tail])) := by
      show _ = [] ++ dots ++ (head ++ dots ++ tail); simp
    rw [e, em_iff word free46_nil (fun p h => by rw [List.mem_singleton] at h; rw [h]; exact fh) ft]
    simp only [Bool.and_eq_true, decide_eq_true_eq, inStr_iff, List.nil_append]
    constructor
    · rintro ⟨seg, e, a, b, e2, _⟩
      have hc := hcut seg e
      exact ⟨hc.1, a, b, by rw [hc.2]; exact e2⟩
    · rintro ⟨h1, a, b, e2⟩
      exact ⟨_, (take_drop_iff hw ht).mp h1, a, b, e2, trivial⟩
  have b4 : emP (dots ++ head ++ dots ++ tail ++ dots) word = !decide (cutsP word head tail = []) := by
    apply beq_of_iff
    have e : dots ++ head ++ dots ++ tail ++ dots = joinL dots ([] :: ([head, tail] ++ [[]])) := by
      show _ = [] ++ dots ++ (head ++ dots ++ (tail ++ dots ++ [])); simp
    rw [e, em_iff word free46_nil (fun p h => by
      simp only [List.mem_cons, List.not_mem_nil, or_false] at h
      rcases h with rfl | rfl
      · exact fh
      · exact ft) free46_nil]
    simp only [List.nil_append, List.append_nil, Bool.not_eq_true', decide_eq_false_iff_not]
    constructor
    · rintro ⟨seg, rfl, a, b, e2, c, d, e3, _⟩
      intro hn
      have hl := congrArg List.length e2
      simp only [List.length_append, hw] at hl
      have hm : a.length + head.length ∈ cutsP word head tail := by
        unfold cutsP
        rw [List.mem_filter, Bool.and_eq_true, inStr_iff, inStr_iff]
        refine ⟨List.mem_range.mpr (by omega), ⟨a, [], ?_⟩, ⟨c, d, ?_⟩⟩
        · rw [e2, List.append_nil]
          have : a.length + head.length = (a ++ head).length := by simp
          rw [this, List.take_left]
        · rw [e2]
          have : a.length + head.length = (a ++ head).length := by simp
          rw [this, List.drop_left, e3]
      rw [hn] at hm; cases hm
    · intro hn
      obtain ⟨k, hk⟩ := List.exists_mem_of_ne_nil _ hn
      unfold cutsP at hk
      rw [List.mem_filter, Bool.and_eq_true, inStr_iff, inStr_iff] at hk
      obtain ⟨_, ⟨a, b, e1⟩, c, d, e2⟩ := hk
      refine ⟨word, rfl, a, b ++ word.drop k, ?_, b ++ c, d, ?_, trivial⟩
      · conv => lhs; rw [← List.take_append_drop k word, e1]
        simp
      · rw [e2]; simp
  unfold joinedP
  rw [if_pos b1, if_pos b2, if_pos b3, b4]
  simp
theorem mt_sub : ∀ (x s : List Nat), mt (x.map fun c => [c]) s ↔ x.Sublist s
  | [], s => by simp [mt]
  | c :: r, s => by
    show (∃ a b, s = a ++ [c] ++ b ∧ mt (r.map fun c => [c]) b) ↔ _
    rw [List.cons_sublist_iff]
    constructor
    · rintro ⟨a, b, e, h⟩
      exact ⟨a ++ [c], b, e, by simp, (mt_sub r b).mp h⟩
    · rintro ⟨r1, r2, e, hm, h⟩
      obtain ⟨a, b, rfl⟩ := List.append_of_mem hm
      refine ⟨a, b ++ r2, by rw [e]; simp, (mt_sub r _).mpr (h.trans (List.sublist_append_right _ _))⟩
theorem joinL_snoc : ∀ (L : List (List Nat)), L ≠ [] → joinL dots (L ++ [[]]) = joinL dots L ++ dots
  | [], h => absurd rfl h
  | [x], _ => by show x ++ dots ++ [] = x ++ dots; simp
  | x :: y :: r, _ => by
    have ih := joinL_snoc (y :: r) (by simp)
    show x ++ dots ++ joinL dots ((y :: r) ++ [[]]) = x ++ dots ++ joinL dots (y :: r) ++ dots
    rw [ih]; simp
theorem em_dd {x word : List Nat} (hx : free46 x) : emP (dd x) word = decide (x.Sublist word) := by
  apply beq_of_iff
  rw [decide_eq_true_eq]
  cases x with
  | nil =>
    have e : dd [] = joinL dots ([] :: ([[]] ++ [[]])) := rfl
    rw [e, em_iff word free46_nil (fun p h => by rw [List.mem_singleton] at h; rw [h]; exact free46_nil) free46_nil]
    simp only [List.nil_append, List.append_nil, List.nil_sublist, iff_true]
    exact ⟨word, rfl, [], word, rfl, trivial⟩
  | cons c r =>
    have e : dd (c :: r) = joinL dots ([] :: (((c :: r).map fun c => [c]) ++ [[]])) := by
      unfold dd
      have h1 : joinL dots ([] :: (((c :: r).map fun c => [c]) ++ [[]])) = [] ++ dots ++ joinL dots (((c :: r).map fun c => [c]) ++ [[]]) := rfl
      rw [h1, joinL_snoc _ (by simp)]; simp
    rw [e, em_iff word free46_nil (fun p hp => by
      obtain ⟨d, hd, rfl⟩ := List.mem_map.mp hp
      intro h
      rw [List.mem_singleton] at h
      exact hx (by rw [h]; exact hd)) free46_nil]
    simp only [List.nil_append, List.append_nil]
    constructor
    · rintro ⟨seg, rfl, h⟩; exact (mt_sub _ _).mp h
    · intro h; exact ⟨word, rfl, (mt_sub _ _).mpr h⟩
end Mine
end
section
open PySem PySem.W PyProof.Rows PySem.Builtin.Str PySem.StrLaws
set_option Elab.async false
set_option autoImplicit false
set_option linter.unusedVariables false
namespace Mine
theorem in_one (c : Nat) (y : List Nat) : inStr [c] y = decide (c ∈ y) := by
  apply beq_of_iff
  rw [inStr_iff, decide_eq_true_eq]
  constructor
  · rintro ⟨a, b, rfl⟩; simp
  · intro h
    obtain ⟨a, b, rfl⟩ := List.append_of_mem h
    exact ⟨a, b, by simp⟩
noncomputable def bal : Int → List Nat → Bool
  | o, [] => decide (o = 0)
  | o, c :: r => if c = 40 then bal (o + 1) r else if c = 41 then (if o - 1 < 0 then false else bal (o - 1) r) else bal o r
theorem chk_bal : ∀ (l : List Nat) (i o : Int), 92 ∉ l → chkS o (escG i false l) = bal o l
  | [], i, o, _ => by unfold escG; rfl
  | c :: r, i, o, h => by
    have hc : ¬ c = 92 := fun e => h (by rw [e]; exact List.mem_cons_self)
    have hr : 92 ∉ r := fun e => h (List.mem_cons_of_mem _ e)
    unfold escG
    rw [if_neg hc, chkS, bal]
    simp only [List.cons.injEq, and_true, chk_bal r _ _ hr]
theorem check_bal {l : List Nat} (h34 : 34 ∉ l) (h92 : 92 ∉ l) : checkP l = bal 0 l := by
  unfold checkP stripP
  rw [in_one, if_neg (by simpa using h34), chk_bal l 0 0 h92]
noncomputable def plainC (c : Nat) : Prop := letter c ∨ c = 40 ∨ c = 41
theorem plain_not {l : List Nat} (h : ∀ c ∈ l, plainC c) : 34 ∉ l ∧ 92 ∉ l ∧ 46 ∉ l := by
  refine ⟨fun hm => ?_, fun hm => ?_, fun hm => ?_⟩ <;>
  · have := h _ hm
    unfold plainC letter at this
    omega
theorem sh_plain : ∀ t : Tree, LtT t → ∀ c ∈ sh t, plainC c
  | .leaf c, h, d, hd => by
    have : d = c := by simpa [sh] using hd
    subst this
    exact .inl (h d (by simp [leaves]))
  | .node l r, h, d, hd => by
    have hl := sh_plain l fun c hc => h c (by rw [leaves]; exact List.mem_append_left _ hc)
    have hr := sh_plain r fun c hc => h c (by rw [leaves]; exact List.mem_append_right _ hc)
    simp only [sh, List.mem_append, List.mem_singleton] at hd
    rcases hd with ((rfl | hd) | hd) | rfl
    · exact .inr (.inl rfl)
    · exact hl d hd
    · exact hr d hd
    · exact .inr (.inr rfl)
theorem bal_letter {c : Nat} (h : letter c) (o : Int) (q : List Nat) : bal o (c :: q) = bal o q := by
  unfold letter at h
  rw [bal, if_neg (by omega), if_neg (by omega)]
theorem bal_open (o : Int) (q : List Nat) : bal o (40 :: q) = bal (o + 1) q := by rw [bal, if_pos rfl]
theorem bal_close (o : Int) (q : List Nat) (h : 0 ≤ o) : bal (o + 1) (41 :: q) = bal o q := by
  rw [bal, if_neg (by decide), if_pos rfl, if_neg (by omega), show o + 1 - 1 = o by omega]
theorem bal_sh : ∀ (t : Tree), LtT t → ∀ (o : Int) (q : List Nat), 0 ≤ o → bal o (sh t ++ q) = bal o q
  | .leaf c, h, o, q, _ => bal_letter (h c (by simp [leaves])) o q
  | .node l r, h, o, q, ho => by
    have hl := bal_sh l fun c hc => h c (by rw [leaves]; exact List.mem_append_left _ hc)
    have hr := bal_sh r fun c hc => h c (by rw [leaves]; exact List.mem_append_right _ hc)
    have e : sh (.node l r) ++ q = 40 :: (sh l ++ (sh r ++ (41 :: q))) := by simp [sh]
    rw [e, bal_open, hl _ _ (by omega), hr _ _ (by omega), bal_close o q ho]
/-- a front part of a thing opens no fewer than it closes -/
theorem bal_front : ∀ (t : Tree), LtT t → ∀ k : Nat, ∃ n : Int, 0 ≤ n ∧ ∀ (o : Int) (q : List Nat), 0 ≤ o → bal o ((sh t).take k ++ q) = bal (o + n) q
  | .leaf c, h, 0 => ⟨0, Int.le_refl _, fun o q _ => by simp⟩
  | .leaf c, h, k + 1 => ⟨0, Int.le_refl _, fun o q _ => by
      have : (sh (.leaf c)).take (k + 1) = [c] := by simp [sh]
      rw [this, Int.add_zero]; exact bal_letter (h c (by simp [leaves])) o q⟩
  | .node l r, h, 0 => ⟨0, Int.le_refl _, fun o q _ => by simp⟩
  | .node l r, h, k + 1 => by
    have hlt : LtT l := fun c hc => h c (by rw [leaves]; exact List.mem_append_left _ hc)
    have hrt : LtT r := fun c hc => h c (by rw [leaves]; exact List.mem_append_right _ hc)
    have e : sh (.node l r) = 40 :: (sh l ++ (sh r ++ [41])) := by simp [sh]
    rcases Nat.lt_or_ge k ((sh l).length + (sh r).length + 1) with hk | hk
    · obtain ⟨n1, hn1, f1⟩ := bal_front l hlt k
      obtain ⟨n2, hn2, f2⟩ := bal_front r hrt (k - (sh l).length)
      refine ⟨1 + n1 + n2, by omega, fun o q ho => ?_⟩
      have e2 : (sh (.node l r)).take (k + 1) ++ q = 40 :: ((sh l).take k ++ ((sh r).take (k - (sh l).length) ++ q)) := by
        rw [e, List.take_succ_cons, List.take_append, List.take_append]
        have : ([41] : List Nat).take (k - (sh l).length - (sh r).length) = [] := by
          have : k - (sh l).length - (sh r).length = 0 := by omega
          rw [this]; rfl
        rw [this]; simp
      rw [e2, bal_open, f1 _ _ (by omega), f2 _ _ (by omega)]
      congr 1; omega
    · refine ⟨0, Int.le_refl _, fun o q ho => ?_⟩
      have : (sh (.node l r)).take (k + 1) = sh (.node l r) := List.take_of_length_le (by simp [sh]; omega)
      rw [this, Int.add_zero]; exact bal_sh _ h o q ho
theorem bal_part (l r : Tree) (h : LtT (.node l r)) (k : Nat) (hk : k < (sh l).length + (sh r).length + 1) : bal 0 ((sh (.node l r)).take (k + 1)) = false := by
  have hlt : LtT l := fun c hc => h c (by rw [leaves]; exact List.mem_append_left _ hc)
  have hrt : LtT r := fun c hc => h c (by rw [leaves]; exact List.mem_append_right _ hc)
  obtain ⟨n1, hn1, f1⟩ := bal_front l hlt k
  obtain ⟨n2, hn2, f2⟩ := bal_front r hrt (k - (sh l).length)
  have e : sh (.node l r) = 40 :: (sh l ++ (sh r ++ [41])) := by simp [sh]
  have e2 : (sh (.node l r)).take (k + 1) = 40 :: ((sh l).take k ++ ((sh r).take (k - (sh l).length) ++ [])) := by
    rw [e, List.take_succ_cons, List.take_append, List.take_append]
    have : ([41] : List Nat).take (k - (sh l).length - (sh r).length) = [] := by
      have : k - (sh l).length - (sh r).length = 0 := by omega
      rw [this]; rfl
    rw [this]
  rw [e2, bal_open, f1 _ _ (by omega), f2 _ _ (by omega), bal]
  simp; omega
end Mine
end
section
open PySem PySem.W PyProof.Rows PySem.Builtin.Str PySem.StrLaws
set_option Elab.async false
set_option autoImplicit false
set_option linter.unusedVariables false
namespace Mine
theorem sizeF_stop (row : List Nat) (N : Nat) (hN : N ≤ row.length) (hfull : N < row.length → checkP (row.take N) = true) (hpart : ∀ k, 1 ≤ k → k < N → checkP (row.take k) = false) :
    ∀ (f z j : Nat), z + 3 * j = N → 1 ≤ z → row.length ≤ z + f → sizeF row f z = N
  | 0, z, j, h1, h2, h3 => by show z = N; omega
  | f + 1, z, j, h1, h2, h3 => by
    rw [sizeF]
    cases j with
    | zero =>
      have hz : z = N := by omega
      subst hz
      rw [if_neg]
      rintro ⟨h4, h5⟩
      rw [hfull h4] at h5; cases h5
    | succ j =>
      rw [if_pos ⟨by omega, hpart z h2 (by omega)⟩]
      exact sizeF_stop row N hN hfull hpart f (z + 3) j (by omega) (by omega) (by omega)
theorem check_plain {l : List Nat} (h : ∀ c ∈ l, plainC c) : checkP l = bal 0 l := check_bal (plain_not h).1 (plain_not h).2.1
theorem thingSize_sh (t : Tree) (h : LtT t) (rest : List Nat) (hr : ∀ c ∈ rest, plainC c) : thingSize (sh t ++ rest) = (sh t).length := by
  cases t with
  | leaf c =>
    have hc := h c (by simp [leaves])
    unfold thingSize
    rw [if_neg]
    · rfl
    · unfold letter at hc
      simp [sh]; omega
  | node l r =>
    have hpl := sh_plain _ h
    have e : sh (.node l r) = 40 :: (sh l ++ (sh r ++ [41])) := by simp [sh]
    have hlen : (sh (.node l r)).length = (sh l).length + (sh r).length + 2 := by rw [e]; simp; omega
    have h3 := sh_len (.node l r)
    have hl1 := sh_len l
    have hr1 := sh_len r
    have pl := leaves_pos l
    have pr := leaves_pos r
    have hll : (leaves (.node l r)).length = (leaves l).length + (leaves r).length := by rw [leaves, List.length_append]
    unfold thingSize
    rw [if_pos (by rw [e]; rfl)]
    refine sizeF_stop _ _ (by simp) (fun _ => ?_) (fun k hk1 hk2 => ?_) _ 4 ((leaves l).length + (leaves r).length - 2) (by omega) (by decide) (by omega)
    · rw [List.take_left, check_plain hpl]
      have := bal_sh _ h 0 [] (Int.le_refl _)
      rw [List.append_nil] at this
      rw [this]; rfl
    · have e2 : (sh (.node l r) ++ rest).take k = (sh (.node l r)).take (k - 1 + 1) := by
        rw [List.take_append_of_le_length (by omega)]; congr 1; omega
      rw [e2, check_plain (fun c hc => hpl c (List.mem_of_mem_take hc))]
      exact bal_part l r h (k - 1) (by omega)
theorem things_go : ∀ (T : List Tree) (n : Nat), (∀ t ∈ T, LtT t) → (shs T).length ≤ n → thingsF n (shs T) = T.map sh
  | [], n, _, _ => by cases n <;> rfl
  | t :: T, n, h, hn => by
    have ht := h t List.mem_cons_self
    have hT : ∀ u ∈ T, LtT u := fun u hu => h u (List.mem_cons_of_mem _ hu)
    have hs : shs (t :: T) = sh t ++ shs T := by unfold shs; rw [List.flatMap_cons]
    have h3 := sh_len t
    have pl := leaves_pos t
    have hpT : ∀ c ∈ shs T, plainC c := fun c hc => by
      unfold shs at hc
      obtain ⟨u, hu, hc⟩ := List.mem_flatMap.mp hc
      exact sh_plain u (hT u hu) c hc
    rw [hs] at hn ⊢
    rw [List.length_append] at hn
    obtain ⟨m, rfl⟩ : ∃ m, n = m + 1 := ⟨n - 1, by omega⟩
    rw [thingsF, if_neg (by intro e; have := congrArg List.length e; rw [List.length_append, List.length_nil] at this; omega), thingSize_sh t ht _ hpT, List.take_left, List.drop_left, things_go T m hT (by omega), List.map_cons]
theorem things_shs (T : List Tree) (h : ∀ t ∈ T, LtT t) : thingsP (shs T) = T.map sh := things_go T _ h (Nat.le_refl _)
theorem things_two (l r : Tree) (hl : LtT l) (hr : LtT r) : thingsP (sh l ++ sh r) = [sh l, sh r] := by
  have := things_shs [l, r] (fun t ht => by
    simp only [List.mem_cons, List.not_mem_nil, or_false] at ht
    rcases ht with rfl | rfl
    · exact hl
    · exact hr)
  have e : shs [l, r] = sh l ++ sh r := by unfold shs; simp
  rw [e] at this; exact this
end Mine
end
section
open PySem PySem.W PyProof.Rows PySem.Builtin.Str PySem.StrLaws
set_option Elab.async false
set_option autoImplicit false
set_option linter.unusedVariables false
namespace Mine
noncomputable def unitsOf (e : Bool) (l : List Nat) : List (List Nat) := (escG 0 e l).map (·.2)
theorem escG_units : ∀ (l : List Nat) (i j : Int) (e : Bool), (escG i e l).map (·.2) = (escG j e l).map (·.2)
  | [], i, j, e => by unfold escG; split <;> rfl
  | c :: r, i, j, true => by unfold escG; rw [List.map_cons, List.map_cons, escG_units r (i + 1) (j + 1) false]
  | c :: r, i, j, false => by
    unfold escG
    split
    · exact escG_units r (i + 1) (j + 1) true
    · rw [List.map_cons, List.map_cons, escG_units r (i + 1) (j + 1) false]
theorem escG_append (B : List Nat) : ∀ (A : List Nat) (i : Int) (e : Bool), endEsc e A = false → escG i e (A ++ B) = escG i e A ++ escG (i + A.length) false B
  | [], i, e, h => by
    have : e = false := h
    subst this
    simp [escG]
  | c :: r, i, true, h => by
    have ih := escG_append B r (i + 1) false h
    rw [List.cons_append, escG, escG, ih, List.cons_append, List.length_cons]
    congr 3; omega
  | c :: r, i, false, h => by
    rw [List.cons_append, escG, escG]
    unfold endEsc at h
    split at h
    · rename_i hc
      rw [if_pos hc, if_pos hc, escG_append B r (i + 1) true h, List.length_cons]
      congr 2; omega
    · rename_i hc
      rw [if_neg hc, if_neg hc, escG_append B r (i + 1) false h, List.cons_append, List.length_cons]
      congr 3; omega
theorem unitsOf_append {A B : List Nat} (h : endEsc false A = false) : unitsOf false (A ++ B) = unitsOf false A ++ unitsOf false B := by
  unfold unitsOf
  rw [escG_append B A 0 false h, List.map_append]
  congr 1
  exact escG_units _ _ _ _
noncomputable abbrev Sg := Bool × List Nat
noncomputable def txt (s : Sg) : List Nat := if s.1 = true then 34 :: (s.2 ++ [34]) else s.2
noncomputable def keepT (s : Sg) : List Nat := if s.1 = true then [] else s.2
noncomputable def okS (s : Sg) : Prop := endEsc false s.2 = false ∧ ∀ u ∈ unitsOf false s.2, u ≠ [34]
theorem fold_plain (addr : List Nat) (l : List Nat) (h : ∀ u ∈ unitsOf false l, u ≠ [34]) (i : Int) (st : SS) : (escG i false l).foldl (stepS addr) st = st := by
  have h' : ∀ q ∈ escG i false l, q.2 ≠ [34] := fun q hq => h q.2 (by unfold unitsOf; rw [escG_units l 0 i false]; exact List.mem_map_of_mem hq)
  generalize escG i false l = qs at h'
  induction qs with
  | nil => rfl
  | cons q r ih =>
    have : stepS addr st q = st := by unfold stepS; rw [if_neg (h' q List.mem_cons_self)]
    rw [List.foldl_cons, this]
    exact ih fun x hx => h' x (List.mem_cons_of_mem _ hx)
theorem fold_segs (addr : List Nat) : ∀ (segs : List Sg) (A : List Nat) (st : SS) (s : Nat) (K : List Nat), (∀ g ∈ segs, okS g) → addr = A ++ segs.flatMap txt → st.opn = none → st.start = (s : Int) → s ≤ A.length → st.res.flatten ++ (addr.take A.length).drop s = K →
    ∃ s' : Nat, ((escG A.length false (segs.flatMap txt)).foldl (stepS addr) st).start = (s' : Int) ∧ s' ≤ addr.length ∧ ((escG A.length false (segs.flatMap txt)).foldl (stepS addr) st).res.flatten ++ addr.drop s' = K ++ segs.flatMap keepT
  | [], A, st, s, K, _, ha, ho, hs, hle, hK => by
    have hA : addr = A := by rw [ha]; simp
    refine ⟨s, ?_, by rw [hA]; exact hle, ?_⟩
    · have : escG A.length false (([] : List Sg).flatMap txt) = [] := rfl
      rw [this]; exact hs
    · have : escG A.length false (([] : List Sg).flatMap txt) = [] := rfl
      rw [this, List.foldl_nil, ← hK, hA, List.take_length]; simp
  | (false, l) :: segs, A, st, s, K, hok, ha, ho, hs, hle, hK => by
    have hg := hok _ List.mem_cons_self
    have e0 : ((false, l) :: segs).flatMap txt = l ++ segs.flatMap txt := by rw [List.flatMap_cons]; rfl
    have e1 : ((false, l) :: segs).flatMap keepT = l ++ segs.flatMap keepT := by rw [List.flatMap_cons]; rfl
    rw [e0] at ha ⊢
    have ha' : addr = (A ++ l) ++ segs.flatMap txt := by rw [ha]; simp
    have hlen : (((A ++ l).length : Nat) : Int) = (A.length : Int) + (l.length : Int) := by simp
    have ih := fold_segs addr segs (A ++ l) st s (K ++ l) (fun g hg => hok g (List.mem_cons_of_mem _ hg)) ha' ho hs (by rw [List.length_append]; omega) (by
      have h1 : addr.take (A ++ l).length = A ++ l := by rw [ha', List.take_left]
      have h2 : addr.take A.length = A := by rw [ha, List.take_left]
      rw [h1, List.drop_append_of_le_length hle, ← List.append_assoc, ← hK, h2])
    rw [escG_append _ _ _ _ hg.1, List.foldl_append, fold_plain addr l hg.2, e1, ← List.append_assoc]
    rw [hlen] at ih
    exact ih
  | (true, l) :: segs, A, st, s, K, hok, ha, ho, hs, hle, hK => by
    have hg := hok _ List.mem_cons_self
    have e0 : ((true, l) :: segs).flatMap txt = 34 :: (l ++ (34 :: segs.flatMap txt)) := by rw [List.flatMap_cons]; show (34 :: (l ++ [34])) ++ _ = _; simp
    have e1 : ((true, l) :: segs).flatMap keepT = segs.flatMap keepT := by rw [List.flatMap_cons]; rfl
    rw [e0] at ha ⊢
    have ha' : addr = (A ++ (34 :: (l ++ [34]))) ++ segs.flatMap txt := by rw [ha]; simp
    have hal : (A ++ (34 :: (l ++ [34]))).length = A.length + l.length + 2 := by simp; omega
    have h2 : addr.take A.length = A := by rw [ha, List.take_left]
    obtain ⟨start, opn, res⟩ := st
    dsimp only at ho hs hK
    subst ho hs
    have hE : escG A.length false (34 :: (l ++ (34 :: segs.flatMap txt))) = ((A.length : Int), [34]) :: (escG (A.length + 1) false l ++ (((A.length : Int) + 1 + l.length, [34]) :: escG (((A ++ (34 :: (l ++ [34]))).length : Nat) : Int) false (segs.flatMap txt))) := by
      have hg1 : endEsc false l = false := hg.1
      have e9 : (((A ++ (34 :: (l ++ [34]))).length : Nat) : Int) = (A.length : Int) + 1 + l.length + 1 := by rw [hal]; omega
      rw [e9, escG, if_neg (by decide), escG_append _ _ _ _ hg1, escG, if_neg (by decide)]
    have hg2 : ∀ u ∈ unitsOf false l, u ≠ [34] := hg.2
    rw [hE, List.foldl_cons, List.foldl_append, List.foldl_cons, fold_plain addr l hg2]
    have hs1 : stepS addr ⟨(s : Int), none, res⟩ ((A.length : Int), [34]) = ⟨(s : Int), some (A.length : Int), res⟩ := by unfold stepS; rw [if_pos rfl]
    rw [hs1]
    have hs2 : stepS addr ⟨(s : Int), some (A.length : Int), res⟩ ((A.length : Int) + 1 + l.length, [34]) = ⟨(A.length : Int) + 1 + l.length + 1, none, if (s : Int) ≠ (A.length : Int) then res ++ [sl addr (some (s : Int)) (some (A.length : Int))] else res⟩ := by unfold stepS; rw [if_pos rfl]
    rw [hs2, e1]
    refine fold_segs addr segs (A ++ (34 :: (l ++ [34]))) _ (A.length + l.length + 2) K (fun g hg => hok g (List.mem_cons_of_mem _ hg)) ha' rfl (by dsimp only; omega) (by rw [hal]; exact Nat.le_refl _) ?_
    dsimp only
    have h3 : (addr.take (A ++ (34 :: (l ++ [34]))).length).drop (A.length + l.length + 2) = [] := List.drop_of_length_le (by rw [hal, List.length_take]; omega)
    rw [h3, List.append_nil, ← hK]
    by_cases hsa : s = A.length
    · subst hsa
      rw [if_neg (by simp), h2, List.drop_of_length_le (Nat.le_refl _), List.append_nil]
    · rw [if_pos (by omega), sl_mid, List.flatten_append]
      simp
end Mine
end
section
open PySem PySem.W PyProof.Rows PySem.Builtin.Str PySem.StrLaws
set_option Elab.async false
set_option autoImplicit false
set_option linter.unusedVariables false
namespace Mine
theorem strip_segs (segs : List Sg) (h : ∀ g ∈ segs, okS g) : stripP (segs.flatMap txt) = segs.flatMap keepT := by
  unfold stripP
  rw [in_one]
  by_cases h34 : 34 ∈ segs.flatMap txt
  · rw [if_pos (by simpa using h34)]
    obtain ⟨s', h1, h2, h3⟩ := fold_segs (segs.flatMap txt) segs [] ⟨0, none, []⟩ 0 [] h rfl rfl rfl (Nat.le_refl _) rfl
    rw [joinL_nil]
    have hS : stripS (segs.flatMap txt) = (escG (([] : List Nat).length : Int) false (segs.flatMap txt)).foldl (stepS (segs.flatMap txt)) ⟨0, none, []⟩ := rfl
    rw [hS, h1, List.flatten_append]
    rw [List.nil_append] at h3
    rw [← h3]
    congr 1
    by_cases hl : s' < (segs.flatMap txt).length
    · rw [if_pos (by omega), sl_drop]; simp
    · rw [if_neg (by omega), List.drop_of_length_le (by omega)]; rfl
  · rw [if_neg (by simpa using h34)]
    clear h
    induction segs with
    | nil => rfl
    | cons g r ih =>
      rw [List.flatMap_cons] at h34 ⊢
      rw [List.flatMap_cons, ih fun hm => h34 (List.mem_append_right _ hm)]
      congr 1
      unfold txt keepT at *
      split
      · rename_i hg
        exact absurd (List.mem_append_left _ (by rw [if_pos hg]; exact List.mem_cons_self)) h34
      · rfl
noncomputable def uS (g : Sg) : List (List Nat) := if g.1 = true then [] else unitsOf false g.2
theorem units_segs : ∀ (segs : List Sg), (∀ g ∈ segs, okS g) → unitsOf false (segs.flatMap keepT) = segs.flatMap uS
  | [], _ => rfl
  | (true, l) :: r, h => by
    rw [List.flatMap_cons, List.flatMap_cons]
    exact units_segs r fun g hg => h g (List.mem_cons_of_mem _ hg)
  | (false, l) :: r, h => by
    have hg := h _ List.mem_cons_self
    rw [List.flatMap_cons, List.flatMap_cons]
    show unitsOf false (l ++ _) = unitsOf false l ++ _
    rw [unitsOf_append hg.1, units_segs r fun g hg => h g (List.mem_cons_of_mem _ hg)]
noncomputable def ones (segs : List Sg) : List Nat := ((segs.flatMap uS).filter fun u => decide (u.length = 1)).flatten
theorem ones_append (a b : List Sg) : ones (a ++ b) = ones a ++ ones b := by unfold ones; rw [List.flatMap_append, List.filter_append, List.flatten_append]
noncomputable def sgS (c : Nat) (kd : Int) : List Sg := if br c = true then [(false, [c])] else
  (if kd = 1 then [(true, [41])] else []) ++ (if kd = 2 then [(false, [92, 40])] else []) ++ [(false, [c])] ++ (if kd = 3 then [(true, [92, 34, 40])] else [])
theorem ok_c {c : Nat} (h : plainC c) : okS (false, [c]) ∧ ones [(false, [c])] = [c] := by
  have h92 : ¬ c = 92 := by unfold plainC letter at h; omega
  have h34 : ¬ c = 34 := by unfold plainC letter at h; omega
  have hu : unitsOf false [c] = [[c]] := by unfold unitsOf escG escG; rw [if_neg h92]; rfl
  refine ⟨⟨?_, ?_⟩, ?_⟩
  · show endEsc false [c] = false
    unfold endEsc; rw [if_neg h92]; rfl
  · intro u hu'
    have : u ∈ unitsOf false [c] := hu'
    rw [hu, List.mem_singleton] at this
    subst this; simpa using h34
  · unfold ones uS
    simp [hu]
theorem ok_1 : okS (true, [41]) ∧ ones [(true, [41])] = [] := ⟨⟨rfl, by decide⟩, rfl⟩
theorem ok_2 : okS (false, [92, 40]) ∧ ones [(false, [92, 40])] = [] := ⟨⟨rfl, by decide⟩, rfl⟩
theorem ok_3 : okS (true, [92, 34, 40]) ∧ ones [(true, [92, 34, 40])] = [] := ⟨⟨rfl, by decide⟩, rfl⟩
theorem ok_sg {c : Nat} (h : plainC c) (kd : Int) : (∀ g ∈ sgS c kd, okS g) ∧ ones (sgS c kd) = [c] := by
  have hc := ok_c h
  unfold sgS
  cases hb : br c with
  | true =>
    rw [if_pos rfl]
    exact ⟨fun g hg => by rw [List.mem_singleton] at hg; rw [hg]; exact hc.1, hc.2⟩
  | false =>
    rw [if_neg Bool.false_ne_true]
    refine ⟨fun g hg => ?_, ?_⟩
    · simp only [List.mem_append, List.mem_singleton] at hg
      rcases hg with ((hg | hg) | rfl) | hg
      · split at hg
        · rw [List.mem_singleton] at hg; rw [hg]; exact ok_1.1
        · cases hg
      · split at hg
        · rw [List.mem_singleton] at hg; rw [hg]; exact ok_2.1
        · cases hg
      · exact hc.1
      · split at hg
        · rw [List.mem_singleton] at hg; rw [hg]; exact ok_3.1
        · cases hg
    · rw [ones_append, ones_append, ones_append, hc.2]
      have e1 : ones (if kd = 1 then [(true, [41])] else []) = [] := by split; exact ok_1.2; rfl
      have e2 : ones (if kd = 2 then [(false, [92, 40])] else []) = [] := by split; exact ok_2.2; rfl
      have e3 : ones (if kd = 3 then [(true, [92, 34, 40])] else []) = [] := by split; exact ok_3.2; rfl
      rw [e1, e2, e3]; rfl
theorem txt_sg (c : Nat) (kd : Int) : (sgS c kd).flatMap txt = if br c = true then [c] else preK kd ++ [c] ++ postK kd := by
  unfold sgS
  split
  · rfl
  · unfold preK postK
    rw [List.flatMap_append, List.flatMap_append, List.flatMap_append]
    have e1 : (if kd = 1 then [((true, [41]) : Sg)] else []).flatMap txt = if kd = 1 then [34, 41, 34] else [] := by split <;> rfl
    have e2 : (if kd = 2 then [((false, [92, 40]) : Sg)] else []).flatMap txt = if kd = 2 then [92, 40] else [] := by split <;> rfl
    have e3 : (if kd = 3 then [((true, [92, 34, 40]) : Sg)] else []).flatMap txt = if kd = 3 then [34, 92, 34, 40, 34] else [] := by split <;> rfl
    rw [e1, e2, e3]; rfl
theorem dress_segs (numbers : List Int) : ∀ (signs : List Nat) (st : List Nat × Nat) (segs : List Sg), (∀ c ∈ signs, plainC c) → st.1 = segs.flatMap txt → (∀ g ∈ segs, okS g) →
    ∃ segs' : List Sg, (signs.foldl (dressS numbers) st).1 = segs'.flatMap txt ∧ (∀ g ∈ segs', okS g) ∧ ones segs' = ones segs ++ signs
  | [], st, segs, _, h1, h2 => ⟨segs, h1, h2, (List.append_nil _).symm⟩
  | c :: r, st, segs, hp, h1, h2 => by
    have hc := ok_sg (hp c List.mem_cons_self) ((num numbers (11 + st.2)).fmod 4)
    have ht := txt_sg c ((num numbers (11 + st.2)).fmod 4)
    obtain ⟨segs', e1, e2, e3⟩ := dress_segs numbers r (dressS numbers st c) (segs ++ sgS c ((num numbers (11 + st.2)).fmod 4)) (fun d hd => hp d (List.mem_cons_of_mem _ hd)) (by
      rw [List.flatMap_append, ht, ← h1]
      unfold dressS
      split
      · rfl
      · simp) (fun g hg => by
      rcases List.mem_append.mp hg with hg | hg
      · exact h2 g hg
      · exact hc.1 g hg)
    refine ⟨segs', e1, e2, ?_⟩
    rw [e3, ones_append, hc.2]; simp
theorem lt_of_row (numbers : List Int) : ∀ t ∈ treesP numbers, LtT t := fun t ht c hc => by
  have hlv : lvs (treesP numbers) = lettersF numbers 4 := lvs_merges numbers _
  refine letter_of numbers c ?_
  rw [← hlv]
  exact List.mem_flatMap.mpr ⟨t, ht, hc⟩
theorem units_row (numbers : List Int) : joinL [] ((unitsP numbers).filter fun u => decide (u.length = 1)) = shs (treesP numbers) := by
  have hpl : ∀ c ∈ shs (treesP numbers), plainC c := fun c hc => by
    obtain ⟨u, hu, hc⟩ := List.mem_flatMap.mp hc
    exact sh_plain u (lt_of_row numbers u hu) c hc
  obtain ⟨segs, e1, e2, e3⟩ := dress_segs numbers (shs (treesP numbers)) ([], 0) [] hpl rfl (fun g hg => nomatch hg)
  have hr : rowP numbers = segs.flatMap txt := e1
  have hu : unitsP numbers = segs.flatMap uS := by
    show unitsOf false (stripP (rowP numbers)) = _
    rw [hr, strip_segs segs e2, units_segs segs e2]
  rw [joinL_nil, hu]
  exact e3
end Mine
end
section
open PySem PySem.W PyProof.Rows PySem.Builtin.Str PySem.StrLaws
set_option Elab.async false
set_option autoImplicit false
set_option linter.unusedVariables false
namespace Mine
theorem ht_lt : ∀ t : Tree, ht t + 1 ≤ (leaves t).length
  | .leaf _ => Nat.le_refl _
  | .node l r => by
    have h1 := ht_lt l
    have h2 := ht_lt r
    have p1 := leaves_pos l
    have p2 := leaves_pos r
    rw [ht, leaves, List.length_append]; omega
theorem leaves_le {T : List Tree} {t : Tree} (h : t ∈ T) : (leaves t).length ≤ (lvs T).length := by
  obtain ⟨s1, s2, rfl⟩ := List.append_of_mem h
  unfold lvs; rw [List.flatMap_append, List.flatMap_cons, List.length_append, List.length_append]; omega
theorem step_mem {a b : List Wd} {x : Wd} : x ∈ stepP a b ↔ ∃ u ∈ a, ∃ v ∈ b, x = (u.1 ++ v.1, u.2 * v.2) := by
  unfold stepP
  rw [List.mem_flatMap]
  constructor
  · rintro ⟨u, hu, hx⟩
    obtain ⟨v, hv, rfl⟩ := List.mem_map.mp hx
    exact ⟨u, hu, v, hv, rfl⟩
  · rintro ⟨u, hu, v, hv, rfl⟩
    exact ⟨u, hu, List.mem_map.mpr ⟨v, hv, rfl⟩⟩
theorem val_perm : ∀ (t : Tree), ∀ x ∈ valT t, x.1.Perm (leaves t)
  | .leaf c, x, hx => by
    have : x = ([c], 1) := by simpa [valT] using hx
    subst this; exact List.Perm.refl _
  | .node l r, x, hx => by
    rw [valT, List.mem_append] at hx
    rcases hx with hx | hx
    · rw [prod2] at hx
      obtain ⟨u, hu, v, hv, rfl⟩ := step_mem.mp hx
      exact (val_perm l u hu).append (val_perm r v hv)
    · obtain ⟨y, hy, rfl⟩ := List.mem_map.mp hx
      rw [prod2] at hy
      obtain ⟨u, hu, v, hv, rfl⟩ := step_mem.mp hy
      exact ((val_perm r u hu).append (val_perm l v hv)).trans List.perm_append_comm
theorem fold_perm : ∀ (T : List Tree) (ws : List Wd) (L : List Nat), (∀ x ∈ ws, x.1.Perm L) → ∀ x ∈ (T.map valT).foldl stepP ws, x.1.Perm (L ++ lvs T)
  | [], ws, L, h, x, hx => by unfold lvs; simpa using h x hx
  | t :: T, ws, L, h, x, hx => by
    have := fold_perm T (stepP ws (valT t)) (L ++ leaves t) (fun y hy => by
      obtain ⟨u, hu, v, hv, rfl⟩ := step_mem.mp hy
      exact (h u hu).append (val_perm t v hv)) x hx
    unfold lvs at *
    rw [List.flatMap_cons, ← List.append_assoc]; exact this
theorem words_perm (T : List Tree) : ∀ x ∈ wordsP T, x.1.Perm (lvs T) := fun x hx => by
  have := fold_perm T [([], 1)] [] (fun y hy => by rw [List.mem_singleton] at hy; subst hy; exact List.Perm.refl _) x hx
  simpa using this
theorem val_ne (t : Tree) : 0 < (valT t).length := by
  induction t with
  | leaf c => exact Nat.one_pos
  | node l r ihl ihr => rw [valT, List.length_append, prod2, stepP_length]; have := Nat.mul_pos ihl ihr; omega
theorem words_ne (T : List Tree) : 0 < (wordsP T).length := by
  have key : ∀ (T : List Tree) (ws : List Wd), 0 < ws.length → 0 < ((T.map valT).foldl stepP ws).length := by
    intro T
    induction T with
    | nil => intro ws h; exact h
    | cons t T ih => intro ws h; exact ih _ (by rw [stepP_length]; exact Nat.mul_pos h (val_ne t))
  exact key T [([], 1)] Nat.one_pos
/-- what the row is, in one place -/
structure RowOk (numbers : List Int) : Prop where
  len : (treesP numbers).length ≤ 5
  each : ∀ t ∈ treesP numbers, LtT t ∧ (leaves t).length ≤ 5 ∧ ht t ≤ 4
  lv : (lvs (treesP numbers)).Perm [101, 100, 99, 98, 97]
theorem row_ok (numbers : List Int) : RowOk numbers := by
  have hlv : lvs (treesP numbers) = lettersF numbers 4 := lvs_merges numbers _
  have hm := merges_eq numbers
  have hl5 : (lvs (treesP numbers)).length = 5 := by rw [hlv, lettersF_len]
  refine ⟨?_, fun t ht => ?_, by rw [hlv]; exact letters_perm numbers⟩
  · have := mergeF_len numbers (merges numbers) hm.2
    unfold treesP; omega
  · have h1 := leaves_le ht
    have h2 := ht_lt t
    exact ⟨lt_of_row numbers t ht, by omega, by omega⟩
theorem words_len (numbers : List Int) : ∀ x ∈ wordsP (treesP numbers), x.1.length = 5 ∧ x.1.Nodup ∧ (∀ c ∈ x.1, letter c) ∧ ∀ c, letter c → c ∈ x.1 := fun x hx => by
  have hp := (words_perm _ x hx).trans (row_ok numbers).lv
  refine ⟨hp.length_eq, hp.nodup_iff.mpr (by decide), fun c hc => ?_, fun c hc => hp.mem_iff.mpr ?_⟩
  · have := hp.mem_iff.mp hc
    simp only [List.mem_cons, List.not_mem_nil, or_false] at this
    unfold letter; omega
  · unfold letter at hc
    simp only [List.mem_cons, List.not_mem_nil, or_false]; omega
theorem picked_mem (numbers : List Int) (W : List Wd) (h : 0 < W.length) : ∃ x ∈ W, pickedP numbers W = x.1 := by
  have hpi := fmod_lt (a := num numbers 9) (b := (W.length : Int)) (by omega)
  have hlt : pickI numbers W < W.length := by unfold pickI; omega
  refine ⟨W[pickI numbers W], List.getElem_mem hlt, ?_⟩
  unfold pickedP
  rw [List.getD_eq_getElem?_getD, List.getElem?_eq_getElem hlt]; rfl
theorem free_letters {l : List Nat} (h : ∀ c ∈ l, letter c) : free46 l := fun hm => by
  have := h _ hm
  unfold letter at this; omega
theorem law_joined (numbers : List Int) : ∀ x ∈ wordsP (treesP numbers), joinedP x.1 ((pickedP numbers (wordsP (treesP numbers))).take (cutA numbers)) ((pickedP numbers (wordsP (treesP numbers))).drop (cutB numbers)) = true := fun x hx => by
  obtain ⟨y, hy, e⟩ := picked_mem numbers _ (words_ne (treesP numbers))
  have hyl := words_len numbers y hy
  rw [e]
  refine joined_true (words_len numbers x hx).1 (free_letters fun c hc => hyl.2.2.1 c (List.mem_of_mem_take hc)) (free_letters fun c hc => hyl.2.2.1 c (List.mem_of_mem_drop hc)) ?_ ?_
  · rw [List.length_take]; omega
  · rw [List.length_drop]; omega
section
variable {w : World}
/-- the walk, with all that the row gives -/
theorem fn_law2 {script : List Int} (hs63 : script.length ≤ 63) : ∃ b, FN pw w 12 (Str.ofString "law") [.lst (script.map D.int)] (.bool b) ∧
    b = lastP (treesP (numbersP script)) (firstP (bitsP (numbersP script)) (pickedP (numbersP script) (wordsP (treesP (numbersP script)))) (chosenP (numbersP script) (treesP (numbersP script)))) (secondP (pickedP (numbersP script) (wordsP (treesP (numbersP script)))) (chosenP (numbersP script) (treesP (numbersP script))))
      (totalP (wordsP (treesP (numbersP script))) (firstP (bitsP (numbersP script)) (pickedP (numbersP script) (wordsP (treesP (numbersP script)))) (chosenP (numbersP script) (treesP (numbersP script)))) (secondP (pickedP (numbersP script) (wordsP (treesP (numbersP script)))) (chosenP (numbersP script) (treesP (numbersP script))))) := by
  have R := row_ok (numbersP script)
  obtain ⟨y, hy, e⟩ := picked_mem (numbersP script) _ (words_ne (treesP (numbersP script)))
  exact ⟨_, fn_law hs63 things_two rfl rfl rfl (units_row _) (things_shs _ fun t ht => (R.each t ht).1) R.len R.each (words_ne _) (by rw [e, (words_len _ y hy).1]; exact Nat.le_refl _) (law_joined _), rfl⟩
end
end Mine
end
section
open PySem PySem.W PyProof.Rows PySem.Builtin.Str PySem.StrLaws
set_option Elab.async false
set_option autoImplicit false
set_option linter.unusedVariables false
namespace Mine
section
variable (p : Nat → Bool)
noncomputable def hitS (x y : List Nat) (v : List Nat) : Bool := decide (v.filter p = x ∧ v.filter (fun c => !p c) = y)
noncomputable def S (V : List Wd) (x y : List Nat) : Int := (V.map fun v => if hitS p x y v.1 = true then v.2 else 0).sum
noncomputable def Ln (V : List Wd) (n m : Nat) : Prop := ∀ v ∈ V, (v.1.filter p).length = n ∧ (v.1.filter fun c => !p c).length = m
end
section
variable {p : Nat → Bool}
theorem S_nil (x y : List Nat) : S p [] x y = 0 := rfl
theorem S_cons (v : Wd) (V : List Wd) (x y : List Nat) : S p (v :: V) x y = (if hitS p x y v.1 = true then v.2 else 0) + S p V x y := by unfold S; rw [List.map_cons, List.sum_cons]
theorem S_append (V U : List Wd) (x y : List Nat) : S p (V ++ U) x y = S p V x y + S p U x y := by unfold S; rw [List.map_append, List.sum_append]
theorem S_neg : ∀ (V : List Wd) (x y : List Nat), S p (negP V) x y = - S p V x y
  | [], x, y => rfl
  | v :: V, x, y => by
    show S p ((v.1, -v.2) :: negP V) x y = _
    rw [S_cons, S_cons, S_neg V]
    dsimp only
    split <;> omega
theorem S_len {V : List Wd} {n m : Nat} {x y : List Nat} (h : Ln p V n m) (hne : ¬ (x.length = n ∧ y.length = m)) : S p V x y = 0 := by
  induction V with
  | nil => rfl
  | cons v V ih =>
    rw [S_cons, ih fun u hu => h u (List.mem_cons_of_mem _ hu), if_neg]
    · rfl
    · intro hh
      unfold hitS at hh
      have := of_decide_eq_true hh
      have hl := h v List.mem_cons_self
      rw [this.1, this.2] at hl
      exact hne hl
theorem app_iff {u v x : List Nat} {n : Nat} (hu : u.length = n) : u ++ v = x ↔ u = x.take n ∧ v = x.drop n := by
  constructor
  · rintro rfl
    subst hu
    rw [List.take_left, List.drop_left]; exact ⟨rfl, rfl⟩
  · rintro ⟨rfl, rfl⟩; exact List.take_append_drop _ _
theorem hit_app {u v x y : List Nat} {n m : Nat} (h1 : (u.filter p).length = n) (h2 : (u.filter fun c => !p c).length = m) : hitS p x y (u ++ v) = (hitS p (x.take n) (y.take m) u && hitS p (x.drop n) (y.drop m) v) := by
  apply beq_of_iff
  unfold hitS
  rw [Bool.and_eq_true, decide_eq_true_eq, decide_eq_true_eq, decide_eq_true_eq, List.filter_append, List.filter_append, app_iff h1, app_iff h2]
  constructor
  · rintro ⟨⟨a, b⟩, c, d⟩; exact ⟨⟨a, c⟩, b, d⟩
  · rintro ⟨⟨a, c⟩, b, d⟩; exact ⟨⟨a, b⟩, c, d⟩
theorem S_map {u : Wd} {n m : Nat} {x y : List Nat} (h1 : (u.1.filter p).length = n) (h2 : (u.1.filter fun c => !p c).length = m) : ∀ b : List Wd, S p (b.map fun v => (u.1 ++ v.1, u.2 * v.2)) x y = (if hitS p (x.take n) (y.take m) u.1 = true then u.2 else 0) * S p b (x.drop n) (y.drop m)
  | [] => by rw [List.map_nil, S_nil, S_nil, Int.mul_zero]
  | v :: b => by
    rw [List.map_cons, S_cons, S_cons, S_map h1 h2 b, Int.mul_add]
    congr 1
    dsimp only
    rw [hit_app h1 h2]
    cases hitS p (x.take n) (y.take m) u.1 <;> cases hitS p (x.drop n) (y.drop m) v.1 <;> simp
theorem S_step {n m : Nat} {x y : List Nat} : ∀ (a b : List Wd), Ln p a n m → S p (stepP a b) x y = S p a (x.take n) (y.take m) * S p b (x.drop n) (y.drop m)
  | [], b, _ => by
    have : stepP [] b = [] := rfl
    rw [this, S_nil, S_nil, Int.zero_mul]
  | u :: a, b, h => by
    have hu := h u List.mem_cons_self
    have e : stepP (u :: a) b = (b.map fun v => (u.1 ++ v.1, u.2 * v.2)) ++ stepP a b := by unfold stepP; rw [List.flatMap_cons]
    rw [e, S_append, S_cons, S_map hu.1 hu.2 b, S_step a b fun v hv => h v (List.mem_cons_of_mem _ hv), Int.add_mul]
end
end Mine
end
section
open PySem PySem.W PyProof.Rows PySem.Builtin.Str PySem.StrLaws
set_option Elab.async false
set_option autoImplicit false
set_option linter.unusedVariables false
namespace Mine
section
variable (p : Nat → Bool)
noncomputable def nT (t : Tree) : Nat := ((leaves t).filter p).length
noncomputable def mT (t : Tree) : Nat := ((leaves t).filter fun c => !p c).length
noncomputable def SP : List Tree → List Nat → List Nat → Int
  | [], x, y => if x = [] ∧ y = [] then 1 else 0
  | t :: T, x, y => S p (valT t) (x.take (nT p t)) (y.take (mT p t)) * SP T (x.drop (nT p t)) (y.drop (mT p t))
end
section
variable {p : Nat → Bool}
theorem ln_val (t : Tree) : Ln p (valT t) (nT p t) (mT p t) := fun v hv => by
  have h := val_perm t v hv
  exact ⟨(h.filter p).length_eq, (h.filter _).length_eq⟩
theorem nT_node (l r : Tree) : nT p (.node l r) = nT p l + nT p r ∧ mT p (.node l r) = mT p l + mT p r := by
  unfold nT mT
  rw [leaves, List.filter_append, List.filter_append, List.length_append, List.length_append]; exact ⟨rfl, rfl⟩
theorem nm_pos (t : Tree) : 1 ≤ nT p t + mT p t := by
  have h := leaves_pos t
  unfold nT mT
  cases hl : leaves t with
  | nil => rw [hl] at h; exact absurd h (by decide)
  | cons c r =>
    cases hc : p c with
    | true => simp [List.filter_cons, hc]; omega
    | false => simp [List.filter_cons, hc]; omega
theorem mixed_zero : ∀ (t : Tree) (x y : List Nat), 0 < nT p t → 0 < mT p t → S p (valT t) x y = 0
  | .leaf c, x, y, h1, h2 => by
    exfalso
    have e1 : nT p (.leaf c) = ([c].filter p).length := rfl
    have e2 : mT p (.leaf c) = ([c].filter fun c => !p c).length := rfl
    rw [e1] at h1
    rw [e2] at h2
    cases hc : p c with
    | true => simp [List.filter_cons, hc] at h2
    | false => simp [List.filter_cons, hc] at h1
  | .node l r, x, y, h1, h2 => by
    by_cases hlen : x.length = nT p (.node l r) ∧ y.length = mT p (.node l r)
    · have hn := nT_node (p := p) l r
      have hpl := nm_pos (p := p) l
      have hpr := nm_pos (p := p) r
      rw [valT, S_append, S_neg, prod2, prod2, S_step _ _ (ln_val l), S_step _ _ (ln_val r)]
      by_cases ml : 0 < nT p l ∧ 0 < mT p l
      · rw [mixed_zero l _ _ ml.1 ml.2, mixed_zero l _ _ ml.1 ml.2]; simp
      by_cases mr : 0 < nT p r ∧ 0 < mT p r
      · rw [mixed_zero r _ _ mr.1 mr.2, mixed_zero r _ _ mr.1 mr.2]; simp
      have hc : (mT p l = 0 ∧ nT p r = 0) ∨ (nT p l = 0 ∧ mT p r = 0) := by omega
      rcases hc with ⟨a, b⟩ | ⟨a, b⟩
      · have ex1 : x.take (nT p l) = x := List.take_of_length_le (by omega)
        have ex2 : x.drop (nT p l) = [] := List.drop_of_length_le (by omega)
        have ey1 : y.take (mT p r) = y := List.take_of_length_le (by omega)
        have ey2 : y.drop (mT p r) = [] := List.drop_of_length_le (by omega)
        rw [ex1, ex2, ey1, ey2, a, b]
        simp only [List.take_zero, List.drop_zero]
        rw [Int.mul_comm (S p (valT r) [] y)]; omega
      · have ey1 : y.take (mT p l) = y := List.take_of_length_le (by omega)
        have ey2 : y.drop (mT p l) = [] := List.drop_of_length_le (by omega)
        have ex1 : x.take (nT p r) = x := List.take_of_length_le (by omega)
        have ex2 : x.drop (nT p r) = [] := List.drop_of_length_le (by omega)
        rw [ex1, ex2, ey1, ey2, a, b]
        simp only [List.take_zero, List.drop_zero]
        rw [Int.mul_comm (S p (valT r) x [])]; omega
    · exact S_len (ln_val _) hlen
theorem S_fold : ∀ (T : List Tree) (ws : List Wd) (n m : Nat) (x y : List Nat), Ln p ws n m → S p ((T.map valT).foldl stepP ws) x y = S p ws (x.take n) (y.take m) * SP p T (x.drop n) (y.drop m)
  | [], ws, n, m, x, y, h => by
    show S p ws x y = S p ws (x.take n) (y.take m) * (if x.drop n = [] ∧ y.drop m = [] then 1 else 0)
    by_cases hd : x.drop n = [] ∧ y.drop m = []
    · rw [if_pos hd, Int.mul_one]
      have e1 : x.take n = x := by have := List.take_append_drop n x; rw [hd.1, List.append_nil] at this; exact this
      have e2 : y.take m = y := by have := List.take_append_drop m y; rw [hd.2, List.append_nil] at this; exact this
      rw [e1, e2]
    · rw [if_neg hd, Int.mul_zero]
      refine S_len h fun hl => hd ⟨List.drop_of_length_le (by omega), List.drop_of_length_le (by omega)⟩
  | t :: T, ws, n, m, x, y, h => by
    have hn : Ln p (stepP ws (valT t)) (n + nT p t) (m + mT p t) := fun v hv => by
      obtain ⟨u, hu, w, hw, rfl⟩ := step_mem.mp hv
      have h1 := h u hu
      have h2 := ln_val (p := p) t w hw
      simp only [List.filter_append, List.length_append]; omega
    show S p ((T.map valT).foldl stepP (stepP ws (valT t))) x y = S p ws (x.take n) (y.take m) * (S p (valT t) ((x.drop n).take (nT p t)) ((y.drop m).take (mT p t)) * SP p T ((x.drop n).drop (nT p t)) ((y.drop m).drop (mT p t)))
    rw [S_fold T (stepP ws (valT t)) _ _ x y hn, S_step _ _ h, List.take_take, List.take_take, Nat.min_eq_left (Nat.le_add_right _ _), Nat.min_eq_left (Nat.le_add_right _ _), List.drop_drop, List.drop_drop, Int.mul_assoc]
    congr 2
    congr 1
    · rw [List.drop_take, Nat.add_sub_cancel_left]
    · rw [List.drop_take, Nat.add_sub_cancel_left]
theorem S_words (T : List Tree) (x y : List Nat) : S p (prodP (T.map valT)) x y = SP p T x y := by
  have h : Ln p [([], 1)] 0 0 := fun v hv => by rw [List.mem_singleton] at hv; subst hv; exact ⟨rfl, rfl⟩
  have := S_fold T [([], 1)] 0 0 x y h
  simp only [List.take_zero, List.drop_zero] at this
  have e : S p [([], 1)] [] [] = 1 := by rw [S_cons, S_nil]; simp [hitS]
  rw [e, Int.one_mul] at this
  exact this
theorem SP_mixed : ∀ (T : List Tree) (x y : List Nat) (t : Tree), t ∈ T → 0 < nT p t → 0 < mT p t → SP p T x y = 0
  | [], _, _, _, h, _, _ => nomatch h
  | u :: T, x, y, t, h, h1, h2 => by
    rw [SP]
    rcases List.mem_cons.mp h with rfl | h
    · rw [mixed_zero t _ _ h1 h2, Int.zero_mul]
    · rw [SP_mixed T _ _ t h h1 h2, Int.mul_zero]
theorem SP_pure : ∀ (T : List Tree) (x y : List Nat), (∀ t ∈ T, ¬ (0 < nT p t ∧ 0 < mT p t)) → SP p T x y = SP p (T.filter fun t => decide (mT p t = 0)) x [] * SP p (T.filter fun t => decide (nT p t = 0)) [] y
  | [], x, y, _ => by
    show (if x = [] ∧ y = [] then (1 : Int) else 0) = (if x = [] ∧ ([] : List Nat) = [] then 1 else 0) * (if ([] : List Nat) = [] ∧ y = [] then 1 else 0)
    by_cases hx : x = [] <;> by_cases hy : y = [] <;> simp [hx, hy]
  | t :: T, x, y, h => by
    have ht := h t List.mem_cons_self
    have hp := nm_pos (p := p) t
    have ih := fun x y => SP_pure T x y fun u hu => h u (List.mem_cons_of_mem _ hu)
    rw [SP, List.filter_cons, List.filter_cons, ih]
    by_cases hm : mT p t = 0
    · have hn : ¬ nT p t = 0 := by omega
      rw [if_pos (by simpa using hm), if_neg (by simpa using hn), SP, hm]
      simp only [List.take_zero, List.drop_zero]
      rw [Int.mul_assoc]
    · have hn : nT p t = 0 := by omega
      rw [if_neg (by simpa using hm), if_pos (by simpa using hn), SP, hn]
      simp only [List.take_zero, List.drop_zero]
      rw [← Int.mul_assoc, ← Int.mul_assoc]
      congr 1
      exact Int.mul_comm _ _
end
end Mine
end
section
open PySem PySem.W PyProof.Rows PySem.Builtin.Str PySem.StrLaws
set_option Elab.async false
set_option autoImplicit false
set_option linter.unusedVariables false
namespace Mine
/-- two texts that share the letters -/
structure Two (first second : List Nat) : Prop where
  nd1 : first.Nodup
  nd2 : second.Nodup
  let1 : ∀ c ∈ first, letter c
  let2 : ∀ c ∈ second, letter c
  dis : ∀ c, c ∈ first → c ∈ second → False
  all : ∀ c, letter c → c ∈ first ∨ c ∈ second
noncomputable def pF (first : List Nat) (c : Nat) : Bool := decide (c ∈ first)
theorem sub_filter {x v : List Nat} {q : Nat → Bool} (hx : x.Nodup) (hv : v.Nodup) (h : ∀ c, c ∈ x ↔ (c ∈ v ∧ q c = true)) : x.Sublist v ↔ v.filter q = x := by
  constructor
  · intro hs
    have h1 : x.filter q = x := List.filter_eq_self.mpr fun c hc => ((h c).mp hc).2
    have h2 : x.Sublist (v.filter q) := by
      have := hs.filter q
      rw [h1] at this; exact this
    have h3 : (v.filter q).Perm x := (List.perm_ext_iff_of_nodup (hv.filter q) hx).mpr fun c => by rw [List.mem_filter, h c]
    exact (h2.eq_of_length h3.length_eq.symm).symm
  · intro e
    rw [← e]; exact List.filter_sublist
theorem foldl_sum {α : Type} (f : α → Int) : ∀ (l : List α) (n : Int), l.foldl (fun s x => s + f x) n = n + (l.map f).sum
  | [], n => by simp
  | a :: l, n => by rw [List.foldl_cons, foldl_sum f l, List.map_cons, List.sum_cons]; omega
theorem total_S {W : List Wd} {first second : List Nat} (T2 : Two first second) (hW : ∀ x ∈ W, x.1.Nodup ∧ (∀ c ∈ x.1, letter c) ∧ ∀ c, letter c → c ∈ x.1) : totalP W first second = S (pF first) W first second := by
  have e : totalP W first second = W.foldl (fun s x => s + (if hitS (pF first) first second x.1 = true then x.2 else 0)) 0 := by
    unfold totalP
    have key : ∀ (V : List Wd) (n : Int), (∀ x ∈ V, x ∈ W) → V.foldl (fun s x => if (emP (dd first) x.1 && emP (dd second) x.1) = true then s + x.2 else s) n = V.foldl (fun s x => s + (if hitS (pF first) first second x.1 = true then x.2 else 0)) n := by
      intro V
      induction V with
      | nil => intro n _; rfl
      | cons v V ih =>
        intro n hV
        rw [List.foldl_cons, List.foldl_cons, ih _ fun x hx => hV x (List.mem_cons_of_mem _ hx)]
        congr 1
        obtain ⟨h1, h2, h3⟩ := hW v (hV v List.mem_cons_self)
        have hit : (emP (dd first) v.1 && emP (dd second) v.1) = hitS (pF first) first second v.1 := by
          rw [em_dd (free_letters T2.let1), em_dd (free_letters T2.let2)]
          apply beq_of_iff
          unfold hitS
          rw [Bool.and_eq_true, decide_eq_true_eq, decide_eq_true_eq, decide_eq_true_eq]
          rw [sub_filter (q := pF first) T2.nd1 h1 (fun c => ?_), sub_filter (q := fun c => !pF first c) T2.nd2 h1 (fun c => ?_)]
          · unfold pF
            simp only [Bool.not_eq_true', decide_eq_false_iff_not]
            constructor
            · intro hc; exact ⟨h3 c (T2.let2 c hc), fun h => T2.dis c h hc⟩
            · rintro ⟨hc, hn⟩
              exact (T2.all c (h2 c hc)).resolve_left hn
          · unfold pF
            rw [decide_eq_true_eq]
            exact ⟨fun hc => ⟨h3 c (T2.let1 c hc), hc⟩, fun hc => hc.2⟩
        rw [hit]
        split <;> simp
    exact key W 0 fun _ h => h
  rw [e, foldl_sum]
  unfold S
  omega
end Mine
end
section
open PySem PySem.W PyProof.Rows PySem.Builtin.Str PySem.StrLaws
set_option Elab.async false
set_option autoImplicit false
set_option linter.unusedVariables false
namespace Mine
theorem filter_zero {l : List Nat} {q : Nat → Bool} : (l.filter q).length = 0 ↔ ∀ c ∈ l, q c = false := by
  rw [List.length_eq_zero_iff, List.filter_eq_nil_iff]
  exact ⟨fun h c hc => by simpa using h c hc, fun h c hc => by rw [h c hc]; decide⟩
theorem leaves_sub (t : Tree) (h : LtT t) : ∀ c, c ∈ leaves t ↔ (c ∈ sh t ∧ letter c) := fun c => by
  have := sh_filter t h
  constructor
  · intro hc
    have h2 := h c hc
    rw [← this] at hc
    exact ⟨(List.mem_filter.mp hc).1, h2⟩
  · rintro ⟨h1, h2⟩
    rw [← this, List.mem_filter]
    exact ⟨h1, by rw [br_letter h2]; rfl⟩
theorem clear_iff {t : Tree} (h : LtT t) {x : List Nat} (hx : ∀ c ∈ x, letter c) : clear x t = decide (∀ c ∈ leaves t, c ∉ x) := by
  apply beq_of_iff
  unfold clear
  rw [decide_eq_true_eq, decide_eq_true_eq, List.filter_eq_nil_iff]
  constructor
  · intro hh c hc hcx
    have := hh c ((leaves_sub t h c).mp hc).1
    rw [in_one] at this
    simp [hcx] at this
  · intro hh c hc
    rw [in_one]
    intro hcx
    have hcx' : c ∈ x := by simpa using hcx
    exact hh c ((leaves_sub t h c).mpr ⟨hc, hx c hcx'⟩) hcx'
theorem clear_second {t : Tree} (h : LtT t) {first second : List Nat} (T2 : Two first second) : clear second t = decide (mT (pF first) t = 0) := by
  rw [clear_iff h T2.let2]
  rw [decide_eq_decide]
  unfold mT
  rw [filter_zero]
  constructor
  · intro hh c hc
    have := (T2.all c (h c hc)).resolve_right (hh c hc)
    unfold pF; simpa using this
  · intro hh c hc hcx
    have := hh c hc
    unfold pF at this
    exact T2.dis c (by simpa using this) hcx
theorem clear_first {t : Tree} (h : LtT t) {first second : List Nat} (T2 : Two first second) : clear first t = decide (nT (pF first) t = 0) := by
  rw [clear_iff h T2.let1]
  rw [decide_eq_decide]
  unfold nT
  rw [filter_zero]
  constructor
  · intro hh c hc
    unfold pF; simpa using hh c hc
  · intro hh c hc
    have := hh c hc
    unfold pF at this; simpa using this
theorem count_two {p : Nat → Bool} : ∀ (T : List Tree), (T.filter fun t => decide (mT p t = 0)).length + (T.filter fun t => decide (nT p t = 0)).length < T.length → ∃ t ∈ T, 0 < nT p t ∧ 0 < mT p t
  | [], h => absurd h (Nat.lt_irrefl 0)
  | t :: T, h => by
    by_cases hm : 0 < nT p t ∧ 0 < mT p t
    · exact ⟨t, List.mem_cons_self, hm⟩
    · have hp := nm_pos (p := p) t
      rw [List.filter_cons, List.filter_cons] at h
      have : (T.filter fun t => decide (mT p t = 0)).length + (T.filter fun t => decide (nT p t = 0)).length < T.length := by
        rw [List.length_cons] at h
        by_cases h1 : mT p t = 0
        · rw [if_pos (by simpa using h1), if_neg (by simp; omega), List.length_cons] at h; omega
        · rw [if_neg (by simpa using h1), if_pos (by simp; omega), List.length_cons] at h; omega
      obtain ⟨u, hu, hh⟩ := count_two T this
      exact ⟨u, List.mem_cons_of_mem _ hu, hh⟩
theorem count_ge {p : Nat → Bool} : ∀ (T : List Tree), (T.filter fun t => decide (mT p t = 0)).length + (T.filter fun t => decide (nT p t = 0)).length ≤ T.length ∧ ((T.filter fun t => decide (mT p t = 0)).length + (T.filter fun t => decide (nT p t = 0)).length = T.length → ∀ t ∈ T, ¬ (0 < nT p t ∧ 0 < mT p t))
  | [] => ⟨Nat.le_refl _, fun _ _ h => nomatch h⟩
  | t :: T => by
    obtain ⟨ih1, ih2⟩ := count_ge (p := p) T
    have hp := nm_pos (p := p) t
    rw [List.filter_cons, List.filter_cons, List.length_cons]
    by_cases h1 : mT p t = 0
    · rw [if_pos (by simpa using h1), if_neg (by simp; omega), List.length_cons]
      refine ⟨by omega, fun e u hu => ?_⟩
      rcases List.mem_cons.mp hu with rfl | hu
      · omega
      · exact ih2 (by omega) u hu
    · by_cases h2 : nT p t = 0
      · rw [if_neg (by simpa using h1), if_pos (by simpa using h2), List.length_cons]
        refine ⟨by omega, fun e u hu => ?_⟩
        rcases List.mem_cons.mp hu with rfl | hu
        · omega
        · exact ih2 (by omega) u hu
      · rw [if_neg (by simpa using h1), if_neg (by simpa using h2)]
        exact ⟨by omega, fun e => by omega⟩
theorem stands_S {V : List Wd} {text : List Nat} {p : Nat → Bool} {x y : List Nat} (h : ∀ v ∈ V, (v.1 = text ↔ hitS p x y v.1 = true)) : standsP text V = S p V x y := by
  have e : standsP text V = V.foldl (fun s v => s + (if hitS p x y v.1 = true then v.2 else 0)) 0 := by
    unfold standsP
    have key : ∀ (U : List Wd) (n : Int), (∀ v ∈ U, v ∈ V) → U.foldl (fun s v => if v.1 = text then s + v.2 else s) n = U.foldl (fun s v => s + (if hitS p x y v.1 = true then v.2 else 0)) n := by
      intro U
      induction U with
      | nil => intro n _; rfl
      | cons v U ih =>
        intro n hU
        rw [List.foldl_cons, List.foldl_cons, ih _ fun u hu => hU u (List.mem_cons_of_mem _ hu)]
        congr 1
        have := h v (hU v List.mem_cons_self)
        by_cases hv : v.1 = text
        · rw [if_pos hv, if_pos (this.mp hv)]
        · rw [if_neg hv, if_neg (fun q => hv (this.mpr q))]; omega
    exact key V 0 fun _ h => h
  rw [e, foldl_sum]
  unfold S
  omega
theorem last_true {T : List Tree} {first second : List Nat} (T2 : Two first second) (hT : ∀ t ∈ T, LtT t) : lastP T first second (S (pF first) (prodP (T.map valT)) first second) = true := by
  have e1 : T.filter (clear second) = T.filter fun t => decide (mT (pF first) t = 0) := List.filter_congr fun t ht => clear_second (hT t ht) T2
  have e2 : T.filter (clear first) = T.filter fun t => decide (nT (pF first) t = 0) := List.filter_congr fun t ht => clear_first (hT t ht) T2
  unfold lastP
  rw [e1, e2, S_words]
  obtain ⟨c1, c2⟩ := count_ge (p := pF first) T
  split
  · rename_i hlt
    obtain ⟨t, ht, h1, h2⟩ := count_two (p := pF first) T (by omega)
    rw [SP_mixed T _ _ t ht h1 h2]; rfl
  · rename_i hge
    rw [SP_pure T first second (c2 (by omega)), decide_eq_true_eq]
    congr 1
    · rw [stands_S (p := pF first) (x := first) (y := []), S_words]
      intro v hv
      have hperm := words_perm _ v hv
      have hall : ∀ c ∈ v.1, pF first c = true := fun c hc => by
        have := hperm.mem_iff.mp hc
        obtain ⟨t, ht, hct⟩ := List.mem_flatMap.mp this
        have hm := of_decide_eq_true (List.mem_filter.mp ht).2
        unfold mT at hm
        simpa using filter_zero.mp hm c hct
      have f1 : v.1.filter (pF first) = v.1 := List.filter_eq_self.mpr hall
      have f2 : (v.1.filter fun c => !pF first c) = [] := List.filter_eq_nil_iff.mpr fun c hc => by rw [hall c hc]; decide
      unfold hitS
      rw [f1, f2]; simp
    · rw [stands_S (p := pF first) (x := []) (y := second), S_words]
      intro v hv
      have hperm := words_perm _ v hv
      have hall : ∀ c ∈ v.1, pF first c = false := fun c hc => by
        have := hperm.mem_iff.mp hc
        obtain ⟨t, ht, hct⟩ := List.mem_flatMap.mp this
        have hm := of_decide_eq_true (List.mem_filter.mp ht).2
        unfold nT at hm
        exact filter_zero.mp hm c hct
      have f1 : v.1.filter (pF first) = [] := List.filter_eq_nil_iff.mpr fun c hc => by rw [hall c hc]; decide
      have f2 : (v.1.filter fun c => !pF first c) = v.1 := List.filter_eq_self.mpr fun c hc => by rw [hall c hc]; rfl
      unfold hitS
      rw [f1, f2]; simp
end Mine
end
section
open PySem PySem.W PyProof.Rows PySem.Builtin.Str PySem.StrLaws
set_option Elab.async false
set_option autoImplicit false
set_option linter.unusedVariables false
namespace Mine
theorem mem_first {bits : Int} {picked chosen : List Nat} (c : Nat) : c ∈ firstP bits picked chosen ↔ c ∈ picked ∧ c ∈ chosen := by
  have h : c ∈ pickF picked chosen ↔ c ∈ picked ∧ c ∈ chosen := by
    unfold pickF; rw [List.mem_filter, in_one, decide_eq_true_eq]
  unfold firstP
  split
  · rw [List.mem_reverse]; exact h
  · exact h
theorem mem_second {picked chosen : List Nat} (c : Nat) : c ∈ secondP picked chosen ↔ c ∈ picked ∧ c ∉ chosen := by
  unfold secondP; rw [List.mem_filter, in_one]; simp
theorem two_of {bits : Int} {picked chosen : List Nat} (hn : picked.Nodup) (hl : ∀ c ∈ picked, letter c) (ha : ∀ c, letter c → c ∈ picked) : Two (firstP bits picked chosen) (secondP picked chosen) where
  nd1 := by
    have h : (pickF picked chosen).Nodup := hn.filter _
    unfold firstP
    split
    · exact (List.reverse_perm _).nodup_iff.mpr h
    · exact h
  nd2 := hn.filter _
  let1 := fun c hc => hl c ((mem_first c).mp hc).1
  let2 := fun c hc => hl c ((mem_second c).mp hc).1
  dis := fun c h1 h2 => ((mem_second c).mp h2).2 ((mem_first c).mp h1).2
  all := fun c hc => by
    by_cases h : c ∈ chosen
    · exact .inl ((mem_first c).mpr ⟨ha c hc, h⟩)
    · exact .inr ((mem_second c).mpr ⟨ha c hc, h⟩)
theorem fn_law3 {w : World} {script : List Int} (hs63 : script.length ≤ 63) : FN pw w 12 (Str.ofString "law") [.lst (script.map D.int)] (.bool true) := by
  obtain ⟨b, h, e⟩ := fn_law2 (w := w) hs63
  obtain ⟨y, hy, ey⟩ := picked_mem (numbersP script) _ (words_ne (treesP (numbersP script)))
  have hyl := words_len _ y hy
  rw [ey] at e
  have T2 : Two (firstP (bitsP (numbersP script)) y.1 (chosenP (numbersP script) (treesP (numbersP script)))) (secondP y.1 (chosenP (numbersP script) (treesP (numbersP script)))) := two_of hyl.2.1 hyl.2.2.1 hyl.2.2.2
  rw [total_S T2 fun x hx => ⟨(words_len _ x hx).2.1, (words_len _ x hx).2.2.1, (words_len _ x hx).2.2.2⟩] at e
  have := last_true T2 (fun t ht => ((row_ok (numbersP script)).each t ht).1)
  unfold wordsP at e
  rw [this] at e
  rw [e] at h; exact h
end Mine
end
section
open PySem PySem.W PyProof.Rows
set_option Elab.async false
set_option autoImplicit false
namespace Mine
noncomputable abbrev rl : PySem.W.RowW := PySem.Challenge.rw_ux0007_01.row.toRowW

theorem items_ints {R : WRecords} : ∀ {xs : List WData}, WShape.hasItems R xs .int = true → ∃ script : List Int, xs = script.map WData.int
  | [], _ => ⟨[], rfl⟩
  | x :: xs, h => by
    have h' : WShape.has R x .int = true ∧ WShape.hasItems R xs .int = true := by simpa [WShape.hasItems] using h
    obtain ⟨i, rfl⟩ := hasW_int h'.1
    obtain ⟨r, rfl⟩ := items_ints h'.2
    exact ⟨i :: r, rfl⟩
theorem reps_ints {R : WRecords} {cl : Str → Option Addr} {h : Heap} {X : List Addr} : ∀ {script : List Int} {vs : List Value} {as : List Addr}, ReadsAllW R cl h vs (script.map WData.int) as → RepL X h (script.map D.int) vs
  | [], _, _, r => (readsAllW_nil_inv r).1
  | i :: s, _, _, r => by
    obtain ⟨v, vs, as1, as2, rfl, rfl, r1, r2⟩ := readsAllW_cons_inv r
    obtain ⟨t, rfl, _⟩ := readsW_int_inv r1
    exact ⟨_, vs, rfl, ⟨t, rfl⟩, reps_ints r2⟩
theorem law_args {args : List WData} (h : rl.claim.pre args = true) : ∃ script : List Int, args = [.list (script.map WData.int)] ∧ script.length ≤ 63 := by
  have hs : WShape.hasAll [] args [.list .int] = true := (pre_splitW h).1
  have hc : (PySem.Challenge.rw_ux0007_01.pre).holds [] { args := args } = true := (pre_splitW h).2
  obtain ⟨d, r, rfl, h1, h2⟩ := hasAllW_cons hs
  have := hasAllW_nil h2
  subst this
  obtain ⟨xs, rfl, hi⟩ := hasW_list h1
  obtain ⟨script, rfl⟩ := items_ints hi
  refine ⟨script, rfl, ?_⟩
  have h3 := (holds_andW hc).1
  have h4 := condW_of h3 (by wtm_val)
  have h5 : (script.length : Int) ≤ 63 := by simpa using h4
  omega

theorem val_names {x : Str} (h : x ∈ valNames pw) : x = Str.ofString "__name__" ∨ x = Str.ofString "ELLIPSIS_MARKER" := by
  have k : ((valNames pw).all fun y => y == Str.ofString "__name__" || y == Str.ofString "ELLIPSIS_MARKER") = true := by decide +kernel
  have := List.all_eq_true.mp k x h
  simpa using this
theorem ok_caller : Ok 12 callerA := ⟨rfl, by decide, by decide⟩

theorem walk_law {q : Program} {XP : (Str → Option Value) → Heap → Prop} {YP : World → Heap → Prop} {d : DefRec} {kwd : List (Str × Expr)}
    (hlaw : ∀ (w : World) (script : List Int), script.length ≤ 63 → FN pw w 12 (Str.ofString "law") [.lst (script.map D.int)] (.bool true))
    (hd : d.name = Str.ofString "law") (hr : recsOf q = recsOf pw) (hv : valOf q (Str.ofString "ELLIPSIS_MARKER") = valOf pw (Str.ofString "ELLIPSIS_MARKER"))
    (hf : ∀ x ∈ [Str.ofString "len", Str.ofString "range", Str.ofString "enumerate"], x ∉ startupNames ∧ x ∉ looseW q [] ∧ x ∉ (recsOf q).map (·.name) ∧ x ∉ (litsOf q).map (·.1) ∧ x ∉ (clssOf q (looseW q [])).map (·.name)) :
    WalkO q [] XP YP rl d kwd (fun f vs => call f vs) := by
  intro w s₀ s₁ mg mb G Y a o pm cd doc dV kV ho hdat hcd hD hmg hg args vals as hpre hlay hrd hwl hlo
  obtain ⟨script, rfl, h63⟩ := law_args hpre
  have T := G.T
  have TL : TopL pw mg mb s₁.heap := ⟨T.g, T.b, T.nolimit, fun d hd => T.fn d (hr ▸ hd), fun x d hn h => T.const x d (by rcases val_names (valOf_name h) with e | e; exact (hn e).elim; rw [e] at h ⊢; exact hv.trans h), T.builtins⟩
  have nn : ∀ x ∈ [Str.ofString "len", Str.ofString "range", Str.ofString "enumerate"], mg x = none := fun x hx => let ⟨a, b, c, d, e⟩ := hf x hx; T.free x a b c d e
  have W : Wf pw s₁.heap := ⟨(), (), mg, mb, TL, nn _ (by simp), nn _ (by simp), nn _ (by simp)⟩
  obtain ⟨v, vs, as1, as2, rfl, rfl, r1, r2⟩ := readsAllW_cons_inv hrd
  obtain ⟨rfl, rfl⟩ := readsAllW_nil_inv r2
  cases r1 with
  | @list l ol its n _ as hl hcl hda hra =>
  have rep : Rep [] s₁.heap (.lst (script.map D.int)) (.ref l) := by
    refine ⟨by rw [List.length_map]; exact Nat.le_trans h63 (by decide), l, its.toList, rfl, (fun h => nomatch h), ⟨ol, hl, hcl, n, by simpa using hda⟩, reps_ints hra⟩
  rw [hd] at hmg
  refine hlaw w script h63 callerA [] s₁ _ _ _ a mg ok_caller W T.g hmg (fun x hx => nomatch hx) (RepL.one rep) fun v s' e rv => ?_
  have rv' : v = .bool true := rv
  subst rv'
  refine ⟨.inl ⟨_, .bool true, [], rfl, fun cls => rfl, .bool true, ?_, fun _ => ⟨.nil, fun _ h => nomatch h⟩⟩, .of_keep e.heap, gk_os e.gens, gk_bare.mp (e.gens 1 .bare (gk_bare.mpr (.of_eq hg)))⟩
  exact postW_of (by wrow_shape) (by wtm_val) (by w_fin)
end Mine
end
open PySem PySem.W PyProof.Rows
set_option Elab.async false
set_option maxRecDepth 100000 in
set_option maxHeartbeats 8000000 in
theorem PySem.Challenge.cw_ux0007_01_holds : PySem.Challenge.rw_ux0007_01.Holds := by
  w_on
  o_law
  o_head Hook.none
  case hw => w_witness2
  refine Mine.walk_law (fun _ _ h => Mine.fn_law3 h) rfl ?_ ?_ ?_
  · kernel_rfl
  · kernel_rfl
  · decide +kernel
