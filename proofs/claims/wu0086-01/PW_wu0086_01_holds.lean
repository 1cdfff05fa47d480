import PyProof.Rows.All
import Wide.All
import OpenK.AllK
import Wide.FinOn
import Lean
import PySem.Challenge.RW_wu0086_01

section PartB1
open PySem PySem.W PyProof.Rows
set_option Elab.async false
set_option maxRecDepth 100000
set_option linter.unusedVariables false
namespace Mine.Internal

/- pure values -/
inductive PV where
  | none
  | bool (b : Bool)
  | int (i : Int)
  | str (x : Str)
  | lst (xs : List PV)
  | tup (xs : List PV)
  | dct (es : List (Str × PV))
  | obj (c : Addr) (i : Option Addr) (es : List (Str × PV))

noncomputable abbrev KMap := Addr → Option Obj
/- a list's object -/
noncomputable def LObj (o : Obj) (vs : Array Value) : Prop := o.cls = .type "list" ∧ ∃ n, o.data = .seq vs n
theorem LObj.new (vs : Array Value) (n : Nat) : LObj (listOf vs n) vs := ⟨rfl, n, rfl⟩
noncomputable abbrev tupObj (vs : Array Value) (n : Nat) : Obj := { cls := .type "tuple", data := .seq vs n }

mutual
/- the frozen part K bears the pure value at v -/
inductive Rep (P : Params) (K : KMap) : Value → PV → Prop
  | none : Rep P K .none .none
  | bool (b : Bool) : Rep P K (.bool b) (.bool b)
  | int (i : Int) (t : Tok) : Rep P K (.int i t) (.int i)
  | str (x : Str) (t : Tok) : Rep P K (.str x t) (.str x)
  | lst {a : Addr} {o : Obj} {vs : List Value} {xs : List PV} : K a = some o → LObj o vs.toArray → RepL P K vs xs → Rep P K (.ref a) (.lst xs)
  | tup {a : Addr} {vs : List Value} {n : Nat} {xs : List PV} : K a = some (tupObj vs.toArray n) → RepL P K vs xs → Rep P K (.ref a) (.tup xs)
  | dct {a : Addr} {es : List DictEntry} {n : Nat} {kvs : List (Str × PV)} : (a == sysModules) = false → K a = some (dictOf es n) → RepD P K es kvs → Rep P K (.ref a) (.dct kvs)
  | obj {a c d : Addr} {i : Option Addr} {es : List DictEntry} {n : Nat} {kvs : List (Str × PV)} : (i = none ∨ i = some a) → K a = some (instObj c d) → K d = some (dictOf es n) → RepD P K es kvs → Rep P K (.ref a) (.obj c i kvs)
inductive RepL (P : Params) (K : KMap) : List Value → List PV → Prop
  | nil : RepL P K [] []
  | cons {v : Value} {vs : List Value} {p : PV} {ps : List PV} : Rep P K v p → RepL P K vs ps → RepL P K (v :: vs) (p :: ps)
inductive RepD (P : Params) (K : KMap) : List DictEntry → List (Str × PV) → Prop
  | nil : RepD P K [] []
  | cons {v : Value} {es : List DictEntry} {p : PV} {ps : List (Str × PV)} {x : Str} {t : Tok} : Rep P K v p → RepD P K es ps → RepD P K (⟨PyData.keyHash P x, .str x t, v⟩ :: es) ((x, p) :: ps)
end

mutual
theorem Rep.mono {P : Params} {K K' : KMap} (h : ∀ a o, K a = some o → K' a = some o) : ∀ {v : Value} {p : PV}, Rep P K v p → Rep P K' v p
  | _, _, .none => .none
  | _, _, .bool b => .bool b
  | _, _, .int i t => .int i t
  | _, _, .str x t => .str x t
  | _, _, .lst e q r => .lst (h _ _ e) q (RepL.mono h r)
  | _, _, .tup e r => .tup (h _ _ e) (RepL.mono h r)
  | _, _, .dct m e r => .dct m (h _ _ e) (RepD.mono h r)
  | _, _, .obj q e f r => .obj q (h _ _ e) (h _ _ f) (RepD.mono h r)
theorem RepL.mono {P : Params} {K K' : KMap} (h : ∀ a o, K a = some o → K' a = some o) : ∀ {vs : List Value} {ps : List PV}, RepL P K vs ps → RepL P K' vs ps
  | _, _, .nil => .nil
  | _, _, .cons r rs => .cons (Rep.mono h r) (RepL.mono h rs)
theorem RepD.mono {P : Params} {K K' : KMap} (h : ∀ a o, K a = some o → K' a = some o) : ∀ {es : List DictEntry} {ps : List (Str × PV)}, RepD P K es ps → RepD P K' es ps
  | _, _, .nil => .nil
  | _, _, .cons r rs => .cons (Rep.mono h r) (RepD.mono h rs)
end

theorem RepL.length {P : Params} {K : KMap} : ∀ {vs : List Value} {ps : List PV}, RepL P K vs ps → vs.length = ps.length
  | _, _, .nil => rfl
  | _, _, .cons _ r => by rw [List.length_cons, List.length_cons, RepL.length r]
theorem RepL.append {P : Params} {K : KMap} : ∀ {vs ws : List Value} {ps qs : List PV}, RepL P K vs ps → RepL P K ws qs → RepL P K (vs ++ ws) (ps ++ qs)
  | _, _, _, _, .nil, h => h
  | _, _, _, _, .cons a r, h => .cons a (RepL.append r h)
theorem RepL.one {P : Params} {K : KMap} {v : Value} {p : PV} (h : Rep P K v p) : RepL P K [v] [p] := .cons h .nil
theorem RepL.get {P : Params} {K : KMap} : ∀ {vs : List Value} {ps : List PV}, RepL P K vs ps → ∀ {i : Nat} {p : PV}, ps[i]? = some p → ∃ v, vs[i]? = some v ∧ Rep P K v p
  | _, _, .nil, _, _, e => by simp at e
  | _, _, .cons a r, 0, _, e => by
    simp at e; subst e; exact ⟨_, rfl, a⟩
  | _, _, .cons a r, i + 1, _, e => by
    simp only [List.getElem?_cons_succ] at e ⊢; exact RepL.get r e

/- what the step from (s, K) to (s', K') keeps: all that R says, all that is frozen -/
structure StepG (gp : List Nat) (R : Addr → Prop) (s : Shared) (K : KMap) (s' : Shared) (K' : KMap) : Prop where
  heap : ∀ a, R a → ∀ o, s.heap.get? a = some o → s'.heap.get? a = some o
  sub : ∀ a o, K' a = some o → s'.heap.get? a = some o
  mono : ∀ a o, K a = some o → K' a = some o
  old : ∀ a, R a → K' a = K a
  gens : (AllBare s.gens → AllBare s'.gens) ∧ s.gens.size ≤ s'.gens.size ∧ ∀ g, g < s.gens.size → g ∉ gp → s'.gens[g]? = s.gens[g]?
  os : s'.os = s.os

noncomputable abbrev Step := StepG []
noncomputable abbrev Alive (s : Shared) : Addr → Prop := fun a => (s.heap.get? a).isSome = true
noncomputable abbrev StepE (s : Shared) (K : KMap) (s' : Shared) (K' : KMap) : Prop := Step (Alive s) s K s' K'

theorem Step.refl {R : Addr → Prop} {s : Shared} {K : KMap} (h : ∀ a o, K a = some o → s.heap.get? a = some o) : Step R s K s K :=
  ⟨fun _ _ _ e => e, h, fun _ _ e => e, fun _ _ => rfl, ⟨id, Nat.le_refl _, fun _ _ _ => rfl⟩, rfl⟩
theorem StepG.weaken {gp : List Nat} {R R' : Addr → Prop} {s s' : Shared} {K K' : KMap} (x : StepG gp R s K s' K') (h : ∀ a, R' a → R a) : StepG gp R' s K s' K' :=
  ⟨fun a r => x.heap a (h a r), x.sub, x.mono, fun a r => x.old a (h a r), x.gens, x.os⟩
theorem Step.weaken {R R' : Addr → Prop} {s s' : Shared} {K K' : KMap} (x : Step R s K s' K') (h : ∀ a, R' a → R a) : Step R' s K s' K' := StepG.weaken x h
theorem Step.toG {gp : List Nat} {R : Addr → Prop} {s s' : Shared} {K K' : KMap} (x : Step R s K s' K') : StepG gp R s K s' K' :=
  ⟨x.heap, x.sub, x.mono, x.old, ⟨x.gens.1, x.gens.2.1, fun g h _ => x.gens.2.2 g h (fun h => nomatch h)⟩, x.os⟩
theorem StepG.trans {gp : List Nat} {R : Addr → Prop} {s s' s'' : Shared} {K K' K'' : KMap} (x : StepG gp R s K s' K') (y : StepG gp R s' K' s'' K'') : StepG gp R s K s'' K'' :=
  ⟨fun a r o e => y.heap a r o (x.heap a r o e), y.sub, fun a o e => y.mono a o (x.mono a o e), fun a r => (y.old a r).trans (x.old a r),
    ⟨fun b => y.gens.1 (x.gens.1 b), Nat.le_trans x.gens.2.1 y.gens.2.1, fun g h n => (y.gens.2.2 g (Nat.lt_of_lt_of_le h x.gens.2.1) n).trans (x.gens.2.2 g h n)⟩, y.os.trans x.os⟩
theorem Step.trans {R : Addr → Prop} {s s' s'' : Shared} {K K' K'' : KMap} (x : Step R s K s' K') (y : Step R s' K' s'' K'') : Step R s K s'' K'' := StepG.trans x y
/- a step that turns but what was made behind s₀ -/
theorem Step.then {gp : List Nat} {R : Addr → Prop} {s s' s'' : Shared} {K K' K'' : KMap} (x : Step R s K s' K') (y : StepG gp R s' K' s'' K'') (h : ∀ g ∈ gp, s.gens.size ≤ g) : Step R s K s'' K'' :=
  ⟨fun a r o e => y.heap a r o (x.heap a r o e), y.sub, fun a o e => y.mono a o (x.mono a o e), fun a r => (y.old a r).trans (x.old a r),
    ⟨fun b => y.gens.1 (x.gens.1 b), Nat.le_trans x.gens.2.1 y.gens.2.1, fun g h' _ => (y.gens.2.2 g (Nat.lt_of_lt_of_le h' x.gens.2.1) (fun hm => Nat.lt_irrefl _ (Nat.lt_of_lt_of_le h' (h g hm)))).trans (x.gens.2.2 g h' (fun h => nomatch h))⟩, y.os.trans x.os⟩
theorem isGen_at {h h' : Heap} {a : Addr} {g : Nat} (x : h.IsGen a g) (hk : ∀ o, h.get? a = some o → h'.get? a = some o) : h'.IsGen a g :=
  let ⟨o, nm, qn, ho, r⟩ := x; ⟨o, nm, qn, hk _ ho, r⟩
theorem StepG.alive {gp : List Nat} {R : Addr → Prop} {s s' : Shared} {K K' : KMap} (x : StepG gp R s K s' K') {a : Addr} (r : R a) (h : Alive s a) : Alive s' a := by
  obtain ⟨o, e⟩ := Option.isSome_iff_exists.mp h
  exact Option.isSome_iff_exists.mpr ⟨o, x.heap a r o e⟩
theorem Step.alive {R : Addr → Prop} {s s' : Shared} {K K' : KMap} (x : Step R s K s' K') {a : Addr} (r : R a) (h : Alive s a) : Alive s' a := by
  obtain ⟨o, e⟩ := Option.isSome_iff_exists.mp h
  exact Option.isSome_iff_exists.mpr ⟨o, x.heap a r o e⟩
theorem StepE.get {s s' : Shared} {K K' : KMap} (x : StepE s K s' K') {a : Addr} {o : Obj} (e : s.heap.get? a = some o) : s'.heap.get? a = some o :=
  x.heap a (by show (s.heap.get? a).isSome = true; rw [e]; rfl) o e
theorem StepE.trans {s s' s'' : Shared} {K K' K'' : KMap} (x : StepE s K s' K') (y : StepE s' K' s'' K'') : StepE s K s'' K'' :=
  Step.trans x (y.weaken fun _ h => Step.alive x h h)
/- a step that keeps everything old, seen from a set R of live addresses -/
theorem StepE.to {R : Addr → Prop} {s s' : Shared} {K K' : KMap} (x : StepE s K s' K') (h : ∀ a, R a → Alive s a) : Step R s K s' K' := x.weaken h

/- the state is turned at fresh places alone, nothing is frozen -/
theorem StepE.same {s : Shared} {K : KMap} {h' : Heap} {tk : Nat} (hs : ∀ a o, K a = some o → s.heap.get? a = some o) (hk : ∀ a o, s.heap.get? a = some o → h'.get? a = some o) :
    StepE s K { s with heap := h', toks := tk } K :=
  ⟨fun a _ o e => hk a o e, fun a o e => hk a o (hs a o e), fun _ _ e => e, fun _ _ => rfl, ⟨id, Nat.le_refl _, fun _ _ _ => rfl⟩, rfl⟩

noncomputable def KMap.put (K : KMap) (a : Addr) (o : Obj) : KMap := fun b => if b = a then some o else K b
theorem KMap.put_self (K : KMap) (a : Addr) (o : Obj) : K.put a o a = some o := by simp [KMap.put]
theorem KMap.put_other (K : KMap) {a b : Addr} (o : Obj) (h : b ≠ a) : K.put a o b = K b := by simp [KMap.put, h]
theorem KMap.put_mono {K : KMap} {a : Addr} {o : Obj} (h : K a = none) : ∀ b p, K b = some p → K.put a o b = some p := fun b p e => by
  rw [KMap.put_other]
  · exact e
  · rintro rfl; rw [h] at e; cases e

/- a new object is frozen at once -/
theorem StepE.freeze {s : Shared} {K : KMap} {h' : Heap} {tk : Nat} {a : Addr} {o : Obj} (hs : ∀ a o, K a = some o → s.heap.get? a = some o) (hk : ∀ a o, s.heap.get? a = some o → h'.get? a = some o)
    (hn : s.heap.get? a = none) (ha : h'.get? a = some o) : StepE s K { s with heap := h', toks := tk } (K.put a o) := by
  have hK : K a = none := by
    cases e : K a with
    | none => rfl
    | some o' => have := hs a o' e; rw [hn] at this; cases this
  refine ⟨fun a _ o e => hk a o e, fun b p e => ?_, KMap.put_mono hK, fun b hb => KMap.put_other _ _ (by rintro rfl; rw [Alive, hn] at hb; cases hb), ⟨id, Nat.le_refl _, fun _ _ _ => rfl⟩, rfl⟩
  by_cases hb : b = a
  · subst hb; rw [KMap.put_self] at e; cases e; exact ha
  · rw [KMap.put_other _ _ hb] at e; exact hk b p (hs b p e)

theorem size_none (h : Heap) : h.get? h.objs.size = none := by
  cases e : h.get? h.objs.size with
  | none => rfl
  | some o => exact absurd (Heap.lt_size e) (Nat.lt_irrefl _)
theorem StepE.push {s : Shared} {K : KMap} {tk : Nat} {o : Obj} (hs : ∀ a o, K a = some o → s.heap.get? a = some o) (hf : o.isFreed = false) :
    StepE s K { s with heap := s.heap.push o, toks := tk } (K.put s.heap.objs.size o) :=
  StepE.freeze hs (fun _ _ e => Heap.get?_push_of_some _ e) (size_none _) (Heap.get?_push_size _ hf)

inductive Slot where
  | val (p : PV)
  | own (p : PV)
noncomputable abbrev Sig := List (Str × Slot)

noncomputable def upd : Sig → Str → Slot → Sig
  | [], x, sl => [(x, sl)]
  | (y, t) :: r, x, sl => if y == x then (y, sl) :: r else (y, t) :: upd r x sl
theorem beq_str (x y : Str) : (x == y) = decide (x = y) := by
  by_cases h : x = y
  · subst h; simp
  · simp [h]
theorem upd_lookup : ∀ (σ : Sig) (x y : Str) (sl : Slot), (upd σ x sl).lookup y = if y = x then some sl else σ.lookup y
  | [], x, y, sl => by
    rw [upd, List.lookup_cons, List.lookup_nil, beq_str]
    by_cases h : y = x <;> simp [h]
  | (z, t) :: r, x, y, sl => by
    rw [upd, beq_str]
    by_cases hz : z = x
    · subst hz
      simp only [decide_true, if_true]
      rw [List.lookup_cons, List.lookup_cons, beq_str]
      by_cases h : y = z <;> simp [h]
    · simp only [hz, decide_false, Bool.false_eq_true, if_false]
      rw [List.lookup_cons, List.lookup_cons, upd_lookup r, beq_str]
      by_cases h : y = z
      · subst h; simp [hz]
      · simp [h]

/- a list, a dict, an object that the frame alone holds -/
inductive Own (P : Params) (K : KMap) (h : Heap) : Value → PV → List Addr → Prop
  | lst {a : Addr} {vs : List Value} {n : Nat} {xs : List PV} : K a = none → h.get? a = some (listOf vs.toArray n) → RepL P K vs xs → Own P K h (.ref a) (.lst xs) [a]
  | dct {a : Addr} {es : List DictEntry} {n : Nat} {kvs : List (Str × PV)} : (a == sysModules) = false → K a = none → h.get? a = some (dictOf es n) → RepD P K es kvs → Own P K h (.ref a) (.dct kvs) [a]
  | obj {a c d : Addr} {i : Option Addr} {es : List DictEntry} {n : Nat} {kvs : List (Str × PV)} : (i = none ∨ i = some a) → K a = none → K d = none → a ≠ d → h.get? a = some (instObj c d) → h.get? d = some (dictOf es n) → RepD P K es kvs → Own P K h (.ref a) (.obj c i kvs) [a, d]

theorem Own.alive {P : Params} {K : KMap} {h : Heap} {v : Value} {p : PV} {l : List Addr} (x : Own P K h v p l) : ∀ a ∈ l, (h.get? a).isSome = true := by
  cases x with
  | lst _ e _ => intro a ha; rw [List.mem_singleton.mp ha, e]; rfl
  | dct _ _ e _ => intro a ha; rw [List.mem_singleton.mp ha, e]; rfl
  | obj _ _ _ _ e f _ =>
    intro a ha
    rcases List.mem_cons.mp ha with rfl | ha
    · rw [e]; rfl
    · rw [List.mem_singleton.mp ha, f]; rfl
theorem Own.knone {P : Params} {K : KMap} {h : Heap} {v : Value} {p : PV} {l : List Addr} (x : Own P K h v p l) : ∀ a ∈ l, K a = none := by
  cases x with
  | lst k _ _ => intro a ha; rw [List.mem_singleton.mp ha]; exact k
  | dct _ k _ _ => intro a ha; rw [List.mem_singleton.mp ha]; exact k
  | obj _ k k' _ _ _ _ =>
    intro a ha
    rcases List.mem_cons.mp ha with rfl | ha
    · exact k
    · rw [List.mem_singleton.mp ha]; exact k'
theorem Own.keeps {P : Params} {K K' : KMap} {h h' : Heap} {v : Value} {p : PV} {l : List Addr} (x : Own P K h v p l) (hm : ∀ a o, K a = some o → K' a = some o) (hk : ∀ a ∈ l, K' a = K a)
    (hh : ∀ a ∈ l, ∀ o, h.get? a = some o → h'.get? a = some o) : Own P K' h' v p l := by
  cases x with
  | lst k e r => exact .lst ((hk _ (.head _)).trans k) (hh _ (.head _) _ e) (r.mono hm)
  | dct m k e r => exact .dct m ((hk _ (.head _)).trans k) (hh _ (.head _) _ e) (r.mono hm)
  | obj q k k' ne e f r => exact .obj q ((hk _ (.head _)).trans k) ((hk _ (.tail _ (.head _))).trans k') ne (hh _ (.head _) _ e) (hh _ (.tail _ (.head _)) _ f) (r.mono hm)

noncomputable def SlotOk (P : Params) (K : KMap) (h : Heap) (v : Value) : Slot → List Addr → Prop
  | .val p, _ => Rep P K v p
  | .own p, l => Own P K h v p l

noncomputable def At (env : Env) (m : Str → Option Value) (h : Heap) (x : Str) (v : Value) : Prop :=
  (env.kindOf x = some .local ∧ m x = some v) ∨ ((env.kindOf x = some .cell ∨ env.kindOf x = some .free) ∧ ∃ c, env.cells.lookup x = some c ∧ h.IsCell c (some v))

structure StI (P : Params) (h₀ : Heap) (R : Addr → Prop) (W : Str → Bool) (σ : Sig) (env : Env) (K : KMap) (s : Shared) (m : Str → Option Value) (oa : Str → List Addr) : Prop where
  base : ∀ a o, h₀.get? a = some o → K a = some o
  sub : ∀ a o, K a = some o → s.heap.get? a = some o
  live : ∀ a, R a → Alive s a
  ns : s.heap.Ns env.locals m
  nR : ¬ R env.locals
  nK : K env.locals = none
  cell : ∀ x c, env.cells.lookup x = some c → (∃ v, s.heap.IsCell c v) ∧ K c = none ∧ c ≠ env.locals
  cellR : ∀ x c, W x = true → env.cells.lookup x = some c → ¬ R c
  cellInj : ∀ x y c, env.cells.lookup x = some c → env.cells.lookup y = some c → x = y
  val : ∀ x sl, σ.lookup x = some sl → ∃ v, At env m s.heap x v ∧ SlotOk P K s.heap v sl (oa x)
  ownR : ∀ x p, σ.lookup x = some (.own p) → ∀ a ∈ oa x, ¬ R a ∧ a ≠ env.locals ∧ ∀ y c, env.cells.lookup y = some c → a ≠ c
  disj : ∀ x y p q, x ≠ y → σ.lookup x = some (.own p) → σ.lookup y = some (.own q) → ∀ a ∈ oa x, a ∉ oa y

noncomputable def St (P : Params) (h₀ : Heap) (R : Addr → Prop) (W : Str → Bool) (σ : Sig) (env : Env) (K : KMap) (s : Shared) : Prop := ∃ m oa, StI P h₀ R W σ env K s m oa

structure EnvOk (sc : Scope) (env : Env) : Prop where
  scope : env.scope = sc
  glob : env.globals = mainGlobals
  bltn : env.builtins = builtinsNs
  kind : sc.kind = .function
  laid : ∀ x, sc.names.lookup x = some .cell → (env.cells.lookup x).isSome = true

theorem At.keeps {env : Env} {m : Str → Option Value} {h h' : Heap} {x : Str} {v : Value} (X : At env m h x v) (hk : ∀ b o, h.get? b = some o → h'.get? b = some o) : At env m h' x v := by
  rcases X with q | ⟨q, c, e, f⟩
  · exact .inl q
  · exact .inr ⟨q, c, e, f.keeps hk⟩

section
variable {P : Params} {h₀ : Heap} {R : Addr → Prop} {W : Str → Bool} {σ : Sig} {env : Env} {K K' : KMap} {s s' : Shared}

theorem St.sub (x : St P h₀ R W σ env K s) : ∀ a o, K a = some o → s.heap.get? a = some o := let ⟨_, _, y⟩ := x; y.sub
theorem St.live (x : St P h₀ R W σ env K s) : ∀ a, R a → Alive s a := let ⟨_, _, y⟩ := x; y.live
theorem St.base (x : St P h₀ R W σ env K s) : ∀ a o, h₀.get? a = some o → s.heap.get? a = some o := let ⟨_, _, y⟩ := x; fun a o e => y.sub a o (y.base a o e)
theorem St.baseK (x : St P h₀ R W σ env K s) : ∀ a o, h₀.get? a = some o → K a = some o := let ⟨_, _, y⟩ := x; y.base

theorem alive_of {h : Heap} {a : Addr} {o : Obj} (e : h.get? a = some o) : (h.get? a).isSome = true := by rw [e]; rfl

/- an expression's step keeps the frame -/
theorem St.step (x : St P h₀ R W σ env K s) (y : StepE s K s' K') : St P h₀ R W σ env K' s' := by
  obtain ⟨m, oa, x⟩ := x
  have hk : ∀ b o, s.heap.get? b = some o → s'.heap.get? b = some o := fun b o e => StepE.get y e
  have nK : ∀ a, Alive s a → K a = none → K' a = none := fun a h e => (y.old a h).trans e
  refine ⟨m, oa, ⟨fun a o e => y.mono a o (x.base a o e), y.sub, fun a r => Step.alive y (x.live a r) (x.live a r), x.ns.keeps hk, x.nR, ?_, ?_, x.cellR, x.cellInj, ?_, x.ownR, x.disj⟩⟩
  · obtain ⟨_, _, _, e, _⟩ := x.ns
    exact nK _ (alive_of e) x.nK
  · intro n c e
    obtain ⟨⟨v, hv⟩, hn, hl⟩ := x.cell n c e
    exact ⟨⟨v, hv.keeps hk⟩, (by obtain ⟨_, e, _⟩ := hv; exact nK _ (alive_of e) hn), hl⟩
  · intro n sl e
    obtain ⟨v, ha, hs⟩ := x.val n sl e
    refine ⟨v, ha.keeps hk, ?_⟩
    cases sl with
    | val p => exact Rep.mono y.mono hs
    | own p => exact Own.keeps hs y.mono (fun a ha => y.old a (hs.alive a ha)) fun a _ o e => hk a o e
end

end Mine.Internal

end PartB1
section PartB2
open PySem PySem.W PyProof.Rows
set_option Elab.async false
set_option maxRecDepth 100000
set_option linter.unusedVariables false
namespace Mine.Internal

noncomputable abbrev NoE : Value → Shared → Prop := fun _ _ => False

noncomputable def AOk (d : Nat) (A : Around) : Prop := A.handled = none ∧ A.depth + 4 * d + 4 < recursionLimit ∧ A.units + 64 * d + 200 < cLine
theorem AOk.in1 {d : Nat} {A : Around} (h : AOk (d + 1) A) : AOk d A.in1 := by
  obtain ⟨a, b, c⟩ := h
  exact ⟨a, by show A.depth + 4 * d + 4 < _; omega, by show A.units + 1 + 64 * d + 200 < _; omega⟩
theorem AOk.deeper {d : Nat} {A : Around} {env : Env} (h : AOk (d + 1) A) : AOk d (A.deeper env) := by
  obtain ⟨a, b, c⟩ := h
  exact ⟨a, by show A.depth + 1 + 4 * d + 4 < _; omega, by show A.units + 3 + 64 * d + 200 < _; omega⟩
theorem AOk.le {d d' : Nat} {A : Around} (h : AOk d A) (hd : d' ≤ d) : AOk d' A := by
  obtain ⟨a, b, c⟩ := h
  exact ⟨a, by omega, by omega⟩

structure Ok (h₀ : Heap) (K : KMap) (s : Shared) : Prop where
  base : ∀ a o, h₀.get? a = some o → K a = some o
  sub : ∀ a o, K a = some o → s.heap.get? a = some o
theorem Ok.step {h₀ : Heap} {K K' : KMap} {s s' : Shared} (x : Ok h₀ K s) (y : StepE s K s' K') : Ok h₀ K' s' :=
  ⟨fun a o e => y.mono a o (x.base a o e), y.sub⟩
theorem St.ok {P : Params} {h₀ : Heap} {R : Addr → Prop} {W : Str → Bool} {σ : Sig} {env : Env} {K : KMap} {s : Shared} (x : St P h₀ R W σ env K s) : Ok h₀ K s := ⟨x.baseK, x.sub⟩
theorem Ok.keep {h₀ : Heap} {K : KMap} {s : Shared} (x : Ok h₀ K s) : ∀ a o, h₀.get? a = some o → s.heap.get? a = some o := fun a o e => x.sub a o (x.base a o e)

section
variable (prog : Program) (w : World) (h₀ : Heap)

/- the tree gives the pure value, everything that stood stands -/
noncomputable def Gives (A : Around) (t : Sem Value) (K : KMap) (s : Shared) (p : PV) : Prop :=
  wpAny (model prog w) A t (fun v s' => ∃ K', StepE s K s' K' ∧ Rep w.params K' v p) NoE s
noncomputable def GivesB (A : Around) (t : Sem Bool) (K : KMap) (s : Shared) (b : Bool) : Prop :=
  wpAny (model prog w) A t (fun v s' => ∃ K', StepE s K s' K' ∧ v = b) NoE s

noncomputable def EvOK (d : Nat) (sc : Scope) (σ : Sig) (e : Expr) (p : PV) : Prop :=
  ∀ A env K s R W, AOk d A → EnvOk sc env → St w.params h₀ R W σ env K s → Gives prog w A (eval e env) K s p
noncomputable def TestOK (d : Nat) (sc : Scope) (σ : Sig) (e : Expr) (b : Bool) : Prop :=
  ∀ A env K s R W, AOk d A → EnvOk sc env → St w.params h₀ R W σ env K s → GivesB prog w A (isTrue e env (eval e env)) K s b
noncomputable def BinOK (d : Nat) (op : Operator) (p q r : PV) : Prop :=
  ∀ A K s a b, AOk d A → Ok h₀ K s → Rep w.params K a p → Rep w.params K b q → Gives prog w A (binaryOp op a b) K s r
noncomputable def CmpOK (d : Nat) (op : CmpOp) (p q : PV) (r : Bool) : Prop :=
  ∀ A K s a b, AOk d A → Ok h₀ K s → Rep w.params K a p → Rep w.params K b q →
    wpAny (model prog w) A (compareOp op a b) (fun v s' => ∃ K', StepE s K s' K' ∧ v = .bool r) NoE s
noncomputable def TruthOK (d : Nat) (p : PV) (r : Bool) : Prop :=
  ∀ A K s a, AOk d A → Ok h₀ K s → Rep w.params K a p → GivesB prog w A (truthy a) K s r
end

section
variable {prog : Program} {w : World} {h₀ : Heap} {d : Nat} {sc : Scope} {σ : Sig}

theorem Gives.mono {A : Around} {t : Sem Value} {K : KMap} {s : Shared} {p : PV} {Q : Value → Shared → Prop} (h : Gives prog w A t K s p)
    (k : ∀ v s' K', StepE s K s' K' → Rep w.params K' v p → Q v s') : wpAny (model prog w) A t Q NoE s :=
  wpAny_mono h (fun _ _ ⟨_, a, b⟩ => k _ _ _ a b) fun _ _ x => x
theorem GivesB.mono {A : Around} {t : Sem Bool} {K : KMap} {s : Shared} {p : Bool} {Q : Bool → Shared → Prop} (h : GivesB prog w A t K s p)
    (k : ∀ s' K', StepE s K s' K' → Q p s') : wpAny (model prog w) A t Q NoE s :=
  wpAny_mono h (fun _ _ ⟨_, a, b⟩ => b ▸ k _ _ a) fun _ _ x => x

/- literals -/
theorem ev_int {i : Int} {k : Nat} {pos : Pos} : EvOK prog w h₀ d sc σ (.Constant (.int i) k pos) (.int i) := fun _ _ _ _ _ _ _ _ hS =>
  wpAny_Constant_int ⟨_, StepE.same hS.sub fun _ _ e => e, .int _ _⟩
theorem ev_str {x : Str} {k : Nat} {pos : Pos} : EvOK prog w h₀ d sc σ (.Constant (.str x) k pos) (.str x) := fun _ _ _ _ _ _ _ _ hS =>
  wpAny_Constant_str ⟨_, StepE.same hS.sub fun _ _ e => e, .str _ _⟩
theorem ev_bool {b : Bool} {k : Nat} {pos : Pos} : EvOK prog w h₀ d sc σ (.Constant (.bool b) k pos) (.bool b) := fun _ _ _ _ _ _ _ _ hS =>
  wpAny_Constant_bool ⟨_, StepE.same hS.sub fun _ _ e => e, .bool _⟩
theorem ev_none {k : Nat} {pos : Pos} : EvOK prog w h₀ d sc σ (.Constant .none k pos) .none := fun _ _ _ _ _ _ _ _ hS =>
  wpAny_Constant_none ⟨_, StepE.same hS.sub fun _ _ e => e, .none⟩

theorem load_At {A : Around} {env : Env} {m : Str → Option Value} {s : Shared} {x : Str} {v : Value} {E : Value → Shared → Prop} {Q : Value → Shared → Prop} (hE : EnvOk sc env) (hn : s.heap.Ns env.locals m) (h : At env m s.heap x v)
    (hd : (x == ("__classdict__" : Str)) = false) (hQ : Q v s) : wpAny (model prog w) A (loadName env x) Q E s := by
  have hk : env.scope.kind = .function := by rw [hE.scope]; exact hE.kind
  rcases h with ⟨hl, hv⟩ | ⟨hl | hl, c, hc, hv⟩
  · exact wpAny_loadName_local hk hl hn hv hQ
  · exact wpAny_loadName_cell hk hl hc hv hQ
  · exact wpAny_loadName_free hk hl hc hv hQ hd

theorem ev_name {x : Str} {pos : Pos} {p : PV} (h : σ.lookup x = some (.val p)) (hd : (x == ("__debug__" : Str)) = false := by rfl) (hc : (x == ("__classdict__" : Str)) = false := by rfl) :
    EvOK prog w h₀ d sc σ (.Name x pos) p := fun A env K s R W hA hE hS => by
  obtain ⟨m, oa, x'⟩ := id hS
  obtain ⟨v, hat, hv⟩ := x'.val _ _ h
  exact wpAny_Name (load_At hE x'.ns hat hc ⟨K, Step.refl x'.sub, hv⟩) hd

/- operators -/
theorem ev_bin {l r : Expr} {op : Operator} {pos : Pos} {p q o : PV} (hl : EvOK prog w h₀ d sc σ l p) (hr : EvOK prog w h₀ d sc σ r q) (ho : BinOK prog w h₀ d op p q o) :
    EvOK prog w h₀ d sc σ (.BinOp l op r pos) o := fun A env K s R W hA hE hS => by
  refine wpAny_BinOp ((hl A env K s R W hA hE hS).mono fun a s₁ K₁ st₁ ra => ?_)
  refine (hr A env K₁ s₁ R W hA hE (hS.step st₁)).mono fun b s₂ K₂ st₂ rb => ?_
  refine (ho A K₂ s₂ a b hA (hS.step (st₁.trans st₂)).ok (ra.mono st₂.mono) rb).mono fun v s₃ K₃ st₃ rv => ?_
  exact ⟨K₃, (st₁.trans st₂).trans st₃, rv⟩

theorem ev_cmp {l r : Expr} {op : CmpOp} {pos : Pos} {p q : PV} {o : Bool} (hl : EvOK prog w h₀ d sc σ l p) (hr : EvOK prog w h₀ d sc σ r q) (ho : CmpOK prog w h₀ d op p q o)
    (hm : behindInMarks op r = false := by rfl) : EvOK prog w h₀ d sc σ (.Compare l [op] [r] pos) (.bool o) := fun A env K s R W hA hE hS => by
  refine wpAny_Compare1 ((hl A env K s R W hA hE hS).mono fun a s₁ K₁ st₁ ra => ?_) hm
  refine (hr A env K₁ s₁ R W hA hE (hS.step st₁)).mono fun b s₂ K₂ st₂ rb => ?_
  refine wpAny_mono (ho A K₂ s₂ a b hA (hS.step (st₁.trans st₂)).ok (ra.mono st₂.mono) rb) (fun v s₃ h₃ => ?_) fun _ _ x => x
  obtain ⟨K₃, st₃, rfl⟩ := h₃
  exact ⟨K₃, (st₁.trans st₂).trans st₃, .bool _⟩

theorem tst_cmp {l r : Expr} {op : CmpOp} {pos : Pos} {p q : PV} {o : Bool} (hl : EvOK prog w h₀ d sc σ l p) (hr : EvOK prog w h₀ d sc σ r q) (ho : CmpOK prog w h₀ d op p q o)
    (hm : behindInMarks op r = false := by rfl) : TestOK prog w h₀ d sc σ (.Compare l [op] [r] pos) o := fun A env K s R W hA hE hS => by
  refine wpAny_isTrue_Compare1 ((hl A env K s R W hA hE hS).mono fun a s₁ K₁ st₁ ra => ?_) hm
  refine (hr A env K₁ s₁ R W hA hE (hS.step st₁)).mono fun b s₂ K₂ st₂ rb => ?_
  refine wpAny_mono (ho A K₂ s₂ a b hA (hS.step (st₁.trans st₂)).ok (ra.mono st₂.mono) rb) (fun v s₃ h₃ => ?_) fun _ _ x => x
  obtain ⟨K₃, st₃, rfl⟩ := h₃
  exact wpAny_truthy_bool ⟨K₃, (st₁.trans st₂).trans st₃, rfl⟩

theorem tst_not {e : Expr} {pos : Pos} {b : Bool} (h : TestOK prog w h₀ d sc σ e b) : TestOK prog w h₀ d sc σ (.UnaryOp .Not e pos) (!b) := fun A env K s R W hA hE hS => by
  refine wpAny_isTrue_Not ((h A env K s R W hA hE hS).mono fun s' K' st => ?_)
  exact ⟨K', st, rfl⟩
theorem ev_not {e : Expr} {pos : Pos} {p : PV} {b : Bool} (h : EvOK prog w h₀ d sc σ e p) (ht : TruthOK prog w h₀ d p b) : EvOK prog w h₀ d sc σ (.UnaryOp .Not e pos) (.bool (!b)) := fun A env K s R W hA hE hS => by
  refine wpAny_UnaryOp ((h A env K s R W hA hE hS).mono fun v s₁ K₁ st₁ rv => ?_)
  exact not_of ((ht A K₁ s₁ v hA (hS.step st₁).ok rv).mono fun s₂ K₂ st₂ => ⟨K₂, st₁.trans st₂, .bool _⟩)
theorem ev_neg {e : Expr} {pos : Pos} {i : Int} (h : EvOK prog w h₀ d sc σ e (.int i)) : EvOK prog w h₀ d sc σ (.UnaryOp .USub e pos) (.int (-i)) := fun A env K s R W hA hE hS => by
  refine wpAny_UnaryOp ((h A env K s R W hA hE hS).mono fun v s₁ K₁ st₁ rv => ?_)
  cases rv
  exact neg_int ⟨K₁, st₁.trans (StepE.same st₁.sub fun _ _ e => e), .int _ _⟩

theorem truth_bool {b : Bool} : TruthOK prog w h₀ d (.bool b) b := fun A K s a hA hO ra => by
  cases ra; exact wpAny_truthy_bool ⟨K, Step.refl hO.sub, rfl⟩

/- ints -/
theorem bin_add {a b : Int} : BinOK prog w h₀ d .Add (.int a) (.int b) (.int (a + b)) := fun A K s x y hA hO ra rb => by
  cases ra; cases rb
  exact add_int ⟨K, StepE.same hO.sub fun _ _ e => e, .int _ _⟩
theorem bin_sub {a b : Int} : BinOK prog w h₀ d .Sub (.int a) (.int b) (.int (a - b)) := fun A K s x y hA hO ra rb => by
  cases ra; cases rb
  exact sub_int ⟨K, StepE.same hO.sub fun _ _ e => e, .int _ _⟩
theorem bin_mod {a b : Int} (hb : b ≠ 0) : BinOK prog w h₀ d .Mod (.int a) (.int b) (.int (a.fmod b)) := fun A K s x y hA hO ra rb => by
  cases ra; cases rb
  exact mod_int' hb ⟨K, StepE.same hO.sub fun _ _ e => e, .int _ _⟩
theorem bin_fdiv {a b : Int} (hb : b ≠ 0) (hp : Builtin.divisionGoesByPylong a b = false) : BinOK prog w h₀ d .FloorDiv (.int a) (.int b) (.int (a.fdiv b)) := fun A K s x y hA hO ra rb => by
  cases ra; cases rb
  exact floordiv_int hb ⟨K, StepE.same hO.sub fun _ _ e => e, .int _ _⟩ (.inl hp)
theorem bin_pow {a b : Int} (hn : 0 ≤ b) (hn2 : b ≤ 1000000) (ha : a.natAbs < 2 ^ 64) : BinOK prog w h₀ d .Pow (.int a) (.int b) (.int (a ^ b.toNat)) := fun A K s x y hA hO ra rb => by
  cases ra; cases rb
  exact pow_int_small hn hn2 ha ⟨K, StepE.same hO.sub fun _ _ e => e, .int _ _⟩
theorem cmp_eqi {a b : Int} : CmpOK prog w h₀ d .Eq (.int a) (.int b) (a == b) := fun A K s x y hA hO ra rb => by
  cases ra; cases rb
  exact eq_int ⟨K, Step.refl hO.sub, rfl⟩
theorem cmp_nei {a b : Int} : CmpOK prog w h₀ d .NotEq (.int a) (.int b) (a != b) := fun A K s x y hA hO ra rb => by
  cases ra; cases rb
  exact ne_int ⟨K, Step.refl hO.sub, rfl⟩
theorem cmp_lti {a b : Int} : CmpOK prog w h₀ d .Lt (.int a) (.int b) (decide (a < b)) := fun A K s x y hA hO ra rb => by
  cases ra; cases rb
  exact lt_int ⟨K, Step.refl hO.sub, rfl⟩
theorem cmp_lei {a b : Int} : CmpOK prog w h₀ d .LtE (.int a) (.int b) (decide (a ≤ b)) := fun A K s x y hA hO ra rb => by
  cases ra; cases rb
  exact le_int ⟨K, Step.refl hO.sub, rfl⟩
theorem cmp_gti {a b : Int} : CmpOK prog w h₀ d .Gt (.int a) (.int b) (decide (b < a)) := fun A K s x y hA hO ra rb => by
  cases ra; cases rb
  exact gt_int ⟨K, Step.refl hO.sub, rfl⟩
theorem cmp_gei {a b : Int} : CmpOK prog w h₀ d .GtE (.int a) (.int b) (decide (b ≤ a)) := fun A K s x y hA hO ra rb => by
  cases ra; cases rb
  exact ge_int ⟨K, Step.refl hO.sub, rfl⟩

/- strs -/
theorem bin_adds {x y : Str} (hsz : x.length + y.length ≤ sizeLine) : BinOK prog w h₀ d .Add (.str x) (.str y) (.str (x ++ y)) := fun A K s a b hA hO ra rb => by
  cases ra; cases rb
  exact add_str (fun t' tk => ⟨K, StepE.same hO.sub fun _ _ e => e, .str _ _⟩) hsz
theorem bin_muls {x : Str} {n : Int} (hok : MulOk x n) : BinOK prog w h₀ d .Mult (.str x) (.int n) (.str (Txt.mul x n)) := fun A K s a b hA hO ra rb => by
  cases ra; cases rb
  exact SB.mul hok (fun t' tk => ⟨K, StepE.same hO.sub fun _ _ e => e, .str _ _⟩)
theorem cmp_eqs {x y : Str} : CmpOK prog w h₀ d .Eq (.str x) (.str y) (x == y) := fun A K s a b hA hO ra rb => by
  cases ra; cases rb
  exact eq_str ⟨K, Step.refl hO.sub, rfl⟩
theorem cmp_nes {x y : Str} : CmpOK prog w h₀ d .NotEq (.str x) (.str y) (x != y) := fun A K s a b hA hO ra rb => by
  cases ra; cases rb
  exact ne_str ⟨K, Step.refl hO.sub, rfl⟩
theorem cmp_ins {x y : Str} : CmpOK prog w h₀ d .In (.str y) (.str x) (!(Builtin.Str.occurrences x y 0 x.length 1).isEmpty) := fun A K s a b hA hO ra rb => by
  cases ra; cases rb
  exact in_str ⟨K, Step.refl hO.sub, rfl⟩
theorem cmp_nins {x y : Str} : CmpOK prog w h₀ d .NotIn (.str y) (.str x) (!(!(Builtin.Str.occurrences x y 0 x.length 1).isEmpty)) := fun A K s a b hA hO ra rb => by
  cases ra; cases rb
  exact notIn_str ⟨K, Step.refl hO.sub, rfl⟩
end

end Mine.Internal

end PartB2
section PartB3
open PySem PySem.W PyProof.Rows
set_option Elab.async false
set_option maxRecDepth 100000
set_option linter.unusedVariables false
namespace Mine.Internal

section
variable (prog : Program) (w : World) (h₀ : Heap)
noncomputable def EvsOK (d : Nat) (sc : Scope) (σ : Sig) (es : List Expr) (ps : List PV) : Prop :=
  ∀ A env K s R W pos, AOk d A → EnvOk sc env → St w.params h₀ R W σ env K s →
    wpAny (model prog w) A (spliced (backTo pos (starEach es env))) (fun vs s' => ∃ K', StepE s K s' K' ∧ RepL w.params K' vs ps) NoE s
noncomputable def PartOK (d : Nat) (sc : Scope) (σ : Sig) : Option Expr → Option Int → Prop
  | none, none => True
  | some e, some i => EvOK prog w h₀ d sc σ e (.int i)
  | _, _ => False
end

noncomputable def item? : PV → Int → Option PV
  | .lst xs, i => (seqIndex? i xs.length).bind (xs[·]?)
  | .tup xs, i => (seqIndex? i xs.length).bind (xs[·]?)
  | .str x, i => (Txt.charAt x i).map fun c => .str ⟨#[c]⟩
  | _, _ => none
noncomputable def sliceL (xs : List PV) (lo hi st : Option Int) : List PV :=
  (sliceRange (sliceBounds lo hi st xs.length).1 (sliceBounds lo hi st xs.length).2.1 (sliceBounds lo hi st xs.length).2.2).filterMap (xs[·]?)
noncomputable def slice? : PV → Option Int → Option Int → Option Int → Option PV
  | .lst xs, lo, hi, st => if st = some 0 then none else some (.lst (sliceL xs lo hi st))
  | .str x, lo, hi, none => some (.str (Txt.slice x lo hi))
  | _, _, _, _ => none
noncomputable def Fits : PV → Prop
  | .lst xs => xs.length ≤ sizeLine
  | .str x => x.length ≤ sizeLine
  | _ => True

section
variable {prog : Program} {w : World} {h₀ : Heap} {d : Nat} {sc : Scope} {σ : Sig}

theorem evs_nil : EvsOK prog w h₀ d sc σ [] [] := fun A env K s R W pos hA hE hS => Calls.spliced_nil ⟨K, Step.refl hS.sub, .nil⟩
theorem evs_cons {e : Expr} {es : List Expr} {p : PV} {ps : List PV} (he : EvOK prog w h₀ d sc σ e p) (hr : EvsOK prog w h₀ d sc σ es ps) (hs : ∀ env, starEach (e :: es) env = (false, eval e env) :: starEach es env := by intro _; rfl) :
    EvsOK prog w h₀ d sc σ (e :: es) (p :: ps) := fun A env K s R W pos hA hE hS => by
  rw [hs]
  show wpAny _ _ (spliced ((false, eval e env) :: backTo pos (starEach es env))) _ _ _
  refine Calls.spliced_cons ((he A env K s R W hA hE hS).mono fun v s₁ K₁ st₁ rv => ?_)
  refine wpAny_mono (hr A env K₁ s₁ R W pos hA hE (hS.step st₁)) (fun vs s₂ h₂ => ?_) fun _ _ x => x
  obtain ⟨K₂, st₂, rs⟩ := h₂
  exact ⟨K₂, st₁.trans st₂, .cons (rv.mono st₂.mono) rs⟩

theorem ev_list {es : List Expr} {pos : Pos} {ps : List PV} (h : EvsOK prog w h₀ d sc σ es ps) (hsz : ps.length ≤ sizeLine := by decide) : EvOK prog w h₀ d sc σ (.List es pos) (.lst ps) := fun A env K s R W hA hE hS => by
  refine wpAny_List_spliced (wpAny_mono (h A env K s R W pos hA hE hS) (fun vs s₁ h₁ => ?_) fun _ _ x => x)
  obtain ⟨K₁, st₁, rs⟩ := h₁
  have y := StepE.push (tk := s₁.toks) (o := listOf vs.toArray 0) st₁.sub rfl
  exact ⟨by rw [rs.length]; exact hsz, _, st₁.trans y, .lst (KMap.put_self _ _ _) (.new _ _) (rs.mono y.mono)⟩
theorem ev_tuple {es : List Expr} {k : Nat} {pos : Pos} {ps : List PV} (h : EvsOK prog w h₀ d sc σ es ps) (hsz : ps.length ≤ sizeLine := by decide) : EvOK prog w h₀ d sc σ (.Tuple es k pos) (.tup ps) := fun A env K s R W hA hE hS => by
  refine wpAny_Tuple_spliced (wpAny_mono (h A env K s R W pos hA hE hS) (fun vs s₁ h₁ => ?_) fun _ _ x => x)
  obtain ⟨K₁, st₁, rs⟩ := h₁
  have y := StepE.push (tk := s₁.toks) (o := tupObj vs.toArray 0) st₁.sub rfl
  exact ⟨by rw [rs.length]; exact hsz, _, st₁.trans y, .tup (KMap.put_self _ _ _) (rs.mono y.mono)⟩

theorem list_item {A : Around} {K : KMap} {s : Shared} {a : Addr} {o : Obj} {vs : List Value} {xs : List PV} {i : Int} {t : Tok} {p : PV} {value slice : Expr} {Q : Value → Shared → Prop}
    (hl : s.heap.get? a = some o) (hlo' : LObj o vs.toArray) (r : RepL w.params K vs xs) (hi : item? (.lst xs) i = some p) (hlo : -(2 ^ 63) ≤ i) (hhi : i < 2 ^ 63)
    (hs : ∀ o i, subscripted slice false o i = operate [o, i] (getItem o i)) (hQ : ∀ v, Rep w.params K v p → Q v s) : wpAny (model prog w) A (subscriptTail value slice (.ref a) (.int i t)) Q NoE s := by
  have hL : s.heap.IsList a vs.toArray := ⟨_, hl, hlo'⟩
  obtain ⟨j, hj, e⟩ := Option.bind_eq_some_iff.mp hi
  obtain ⟨v, hv, rv⟩ := r.get e
  refine tail_any hL.typeIs slot_list_getitem.lookup ?_ (hs _ _)
  have hlen := r.length
  unfold seqIndex? at hj
  by_cases h0 : i < 0
  · simp only [h0, if_true] at hj
    split at hj
    · rename_i hc
      simp only [Bool.and_eq_true, decide_eq_true_eq] at hc
      cases hj
      refine wpAny_getItem_list_neg hL h0 (by simp; omega) hlo ?_ (hQ v rv)
      simp only [List.size_toArray, List.getElem?_toArray, hlen]
      exact hv
    · cases hj
  · simp only [h0, if_false] at hj
    split at hj
    · cases hj
      refine wpAny_getItem_list hL (by omega) hhi ?_ (hQ v rv)
      simpa using hv
    · cases hj

theorem tup_item {A : Around} {K : KMap} {s : Shared} {a : Addr} {vs : List Value} {n : Nat} {xs : List PV} {i : Int} {t : Tok} {p : PV} {value slice : Expr} {Q : Value → Shared → Prop}
    (hl : s.heap.get? a = some (tupObj vs.toArray n)) (r : RepL w.params K vs xs) (hi : item? (.tup xs) i = some p) (hlo : -(2 ^ 63) ≤ i) (hhi : i < 2 ^ 63)
    (hs : ∀ o i, subscripted slice false o i = operate [o, i] (getItem o i)) (hQ : ∀ v, Rep w.params K v p → Q v s) : wpAny (model prog w) A (subscriptTail value slice (.ref a) (.int i t)) Q NoE s := by
  obtain ⟨j, hj, e⟩ := Option.bind_eq_some_iff.mp hi
  obtain ⟨v, hv, rv⟩ := r.get e
  have hlen := r.length
  exact item_tupleT ⟨_, hl, rfl, n, rfl⟩ hlo hhi (by rw [hlen]; exact hj) hv (hQ v rv) (hs _ _)

theorem ev_item {value slice : Expr} {pos : Pos} {p r : PV} {i : Int} (hv : EvOK prog w h₀ d sc σ value p) (hs : EvOK prog w h₀ d sc σ slice (.int i)) (hi : item? p i = some r)
    (hlo : -(2 ^ 63) ≤ i := by omega) (hhi : i < 2 ^ 63 := by omega) (hsub : ∀ o i, subscripted slice false o i = operate [o, i] (getItem o i) := by intro _ _; rfl) :
    EvOK prog w h₀ d sc σ (.Subscript value slice pos) r := fun A env K s R W hA hE hS => by
  refine Subscript_ ((hv A env K s R W hA hE hS).mono fun v s₁ K₁ st₁ rv => ?_)
  refine (hs A env K₁ s₁ R W hA hE (hS.step st₁)).mono fun iv s₂ K₂ st₂ ri => ?_
  cases ri
  have st := st₁.trans st₂
  cases p with
  | lst xs =>
    cases rv with
    | lst e q rl => exact list_item (st₂.sub _ _ (st₂.mono _ _ e)) q (rl.mono st₂.mono) hi hlo hhi hsub fun v rv => ⟨K₂, st, rv⟩
  | tup xs =>
    cases rv with
    | tup e rl => exact tup_item (st₂.sub _ _ (st₂.mono _ _ e)) (rl.mono st₂.mono) hi hlo hhi hsub fun v rv => ⟨K₂, st, rv⟩
  | str x =>
    cases rv
    obtain ⟨c, hc, rfl⟩ := Option.map_eq_some_iff.mp hi
    refine tail_any (typeIs_str _ _ _) PySem.F.slot_str_getitem.lookup (getItem_str (by simp; omega) hc ⟨K₂, st.trans (StepE.same st₂.sub fun _ _ e => e), .str _ _⟩) (hsub _ _)
  | _ => cases hi

/- an item of a list that the frame alone holds -/
theorem ev_item_own {x : Str} {slice : Expr} {pos xpos : Pos} {xs : List PV} {r : PV} {i : Int} (hx : σ.lookup x = some (.own (.lst xs))) (hs : EvOK prog w h₀ d sc σ slice (.int i)) (hi : item? (.lst xs) i = some r)
    (hlo : -(2 ^ 63) ≤ i := by omega) (hhi : i < 2 ^ 63 := by omega) (hsub : ∀ o i, subscripted slice false o i = operate [o, i] (getItem o i) := by intro _ _; rfl)
    (hd : (x == ("__debug__" : Str)) = false := by rfl) (hc : (x == ("__classdict__" : Str)) = false := by rfl) :
    EvOK prog w h₀ d sc σ (.Subscript (.Name x xpos) slice pos) r := fun A env K s R W hA hE hS => by
  obtain ⟨m, oa, x'⟩ := id hS
  obtain ⟨v, hat, hv⟩ := x'.val _ _ hx
  generalize oa x = oax at hv
  refine Subscript_ (wpAny_Name (load_At hE x'.ns hat hc ?_) hd)
  refine (hs A env K s R W hA hE hS).mono fun iv s₂ K₂ st₂ ri => ?_
  cases ri
  cases hv with
  | lst k e rl => exact list_item (st₂.get e) (.new _ _) (rl.mono st₂.mono) hi hlo hhi hsub fun v rv => ⟨K₂, st₂, rv⟩

theorem RepL.picks {P : Params} {K : KMap} {vs : List Value} {ps : List PV} (r : RepL P K vs ps) : ∀ l : List Nat, RepL P K (l.filterMap (vs[·]?)) (l.filterMap (ps[·]?))
  | [] => .nil
  | i :: l => by
    have ih := r.picks l
    simp only [List.filterMap_cons]
    cases e : ps[i]? with
    | none =>
      have : vs[i]? = none := by rw [List.getElem?_eq_none_iff] at e ⊢; rw [r.length]; exact e
      rw [this]; exact ih
    | some p =>
      obtain ⟨v, hv, rv⟩ := r.get e
      rw [hv]; exact .cons rv ih
theorem RepL.slice {P : Params} {K : KMap} {vs : List Value} {ps : List PV} (r : RepL P K vs ps) (lo hi st : Option Int) : RepL P K (slicePick vs.toArray lo hi st).toList (sliceL ps lo hi st) := by
  unfold slicePick sliceL
  rw [List.size_toArray, r.length]
  simpa using r.picks _

theorem part_ev {e : Option Expr} {i : Option Int} (h : PartOK prog w h₀ d sc σ e i) {A : Around} {env : Env} {K : KMap} {s : Shared} {R : Addr → Prop} {W : Str → Bool} (hA : AOk d A) (hE : EnvOk sc env) (hS : St w.params h₀ R W σ env K s) :
    wpAny (model prog w) A (evalPart e env) (fun v s' => ∃ K', StepE s K s' K' ∧ (∃ q : Option (Int × Tok), v = partValue q ∧ q.map (·.1) = i)) NoE s := by
  cases e with
  | none =>
    cases i with
    | none => exact wpAny_pure ⟨K, Step.refl hS.sub, none, rfl, rfl⟩
    | some i => exact h.elim
  | some e =>
    cases i with
    | none => exact h.elim
    | some i =>
      refine (h A env K s R W hA hE hS).mono fun v s₁ K₁ st₁ rv => ?_
      cases rv
      exact ⟨K₁, st₁, some (i, _), rfl, rfl⟩
theorem isPart {q : Option (Int × Tok)} {i : Option Int} (h : q.map (·.1) = i) : IsPart (partValue q) i := by
  subst h
  cases q with
  | none => exact .none
  | some q => exact .int _ _

theorem ev_slice {value : Expr} {lo hi st : Option Expr} {p r : PV} {pos spos : Pos} {l u k : Option Int} (hv : EvOK prog w h₀ d sc σ value p) (hl : PartOK prog w h₀ d sc σ lo l) (hu : PartOK prog w h₀ d sc σ hi u) (hk : PartOK prog w h₀ d sc σ st k)
    (hr : slice? p l u k = some r) (hf : Fits p) : EvOK prog w h₀ d sc σ (.Subscript value (.Slice lo hi st spos) pos) r := fun A env K s R W hA hE hS => by
  have hsub : ∀ o i, ∃ ops, subscripted (.Slice lo hi st spos) false o i = operate ops (getItem o i) := by
    intro o i; cases st with
    | none => exact ⟨[i, o], rfl⟩
    | some e => exact ⟨[o, i], rfl⟩
  refine Subscript_ ((hv A env K s R W hA hE hS).mono fun v s₁ K₁ st₁ rv => ?_)
  refine wpAny_Slice (wpAny_mono (part_ev hl hA hE (hS.step st₁)) (fun lv s₂ h₂ => ?_) fun _ _ x => x)
  obtain ⟨K₂, st₂, ql, rfl, el⟩ := h₂
  refine wpAny_mono (part_ev hu hA hE (hS.step (st₁.trans st₂))) (fun uv s₃ h₃ => ?_) fun _ _ x => x
  obtain ⟨K₃, st₃, qu, rfl, eu⟩ := h₃
  refine wpAny_mono (part_ev hk hA hE (hS.step ((st₁.trans st₂).trans st₃))) (fun kv s₄ h₄ => ?_) fun _ _ x => x
  obtain ⟨K₄, st₄, qk, rfl, ek⟩ := h₄
  have st := ((st₁.trans st₂).trans st₃).trans st₄
  have y := StepE.push (tk := s₄.toks) (o := ({ cls := .type "slice", data := .fields #[partValue ql, partValue qu, partValue qk] } : Obj)) st₄.sub rfl
  have hsl : (s₄.heap.push { cls := .type "slice", data := .fields #[partValue ql, partValue qu, partValue qk] }).IsSliceOf s₄.heap.objs.size (partValue ql) (partValue qu) (partValue qk) := Heap.IsSliceOf.new _ _ _ _
  have rv' := rv.mono (((st₂.trans st₃).trans st₄).trans y).mono
  cases p with
  | lst xs =>
    cases rv' with
    | @lst a o vs _ e q rl =>
      obtain ⟨ops, hop⟩ := hsub (.ref a) (.ref s₄.heap.objs.size)
      have hk0 : k ≠ some 0 := by rintro rfl; cases hr
      have hr' : r = .lst (sliceL xs l u k) := by rw [slice?, if_neg hk0] at hr; exact (Option.some.inj hr).symm
      subst hr'
      have hL : (s₄.heap.push { cls := .type "slice", data := .fields #[partValue ql, partValue qu, partValue qk] }).IsList a vs.toArray := ⟨_, y.sub _ _ e, q⟩
      refine tail_any (T := "list") ⟨_, y.sub _ _ e, q.1⟩ slot_list_getitem.lookup ?_ hop
      refine wpAny_getItem_list_slice hL hsl (isPart el) (isPart eu) (isPart ek) hk0 ?_ (by rw [List.size_toArray, rl.length]; exact hf)
      have z := StepE.push (tk := s₄.toks) (o := listOf (slicePick vs.toArray l u k) 0) y.sub rfl
      refine ⟨_, (st.trans y).trans z, ?_⟩
      exact .lst (vs := (slicePick vs.toArray l u k).toList) (KMap.put_self _ _ _) (.new _ 0) ((rl.slice l u k).mono z.mono)
  | str x =>
    cases rv' with
    | str _ t =>
    have hk1 : k = none := by
      cases k with
      | none => rfl
      | some _ => cases hr
    subst hk1
    cases hr
    have hqk : qk = none := by
      cases qk with
      | none => rfl
      | some _ => cases ek
    subst hqk
    obtain ⟨ops, hop⟩ := hsub (.str x t) (.ref s₄.heap.objs.size)
    refine tail_any (T := "str") (typeIs_str _ _ _) PySem.F.slot_str_getitem.lookup ?_ hop
    refine wpAny_getItem_str_slice (l := ql) (u := qu) (st := none) ⟨_, Heap.get?_push_size _ rfl, rfl, rfl⟩ rfl ?_
    refine post_val_or_str ?_
    have e : (if (((Option.map (fun x => x.1) (none : Option (Int × Tok))).getD 1 == 1 && (slicePicked x ql qu none).length == x.length) = true) then x else ⟨((slicePicked x ql qu none).filterMap (x.cps[·]?)).toArray⟩) = Txt.slice x l u := by
      unfold Txt.slice slicePicked
      rw [el, eu]; rfl
    rw [e]
    exact ⟨Nat.le_trans (Txt.slice_le x _ _) hf, fun t' k => ⟨_, (st.trans y).trans (StepE.same y.sub fun _ _ e => e), .str _ _⟩⟩
  | _ => cases hr

/- choices -/
theorem ev_ite_t {t b o : Expr} {pos : Pos} {p : PV} (ht : TestOK prog w h₀ d sc σ t true) (hb : EvOK prog w h₀ d sc σ b p) : EvOK prog w h₀ d sc σ (.IfExp t b o pos) p := fun A env K s R W hA hE hS => by
  refine wpAny_IfExp ((ht A env K s R W hA hE hS).mono fun s₁ K₁ st₁ => ?_)
  simp only [if_true]
  exact (hb A env K₁ s₁ R W hA hE (hS.step st₁)).mono fun v s₂ K₂ st₂ rv => ⟨K₂, st₁.trans st₂, rv⟩
theorem ev_ite_f {t b o : Expr} {pos : Pos} {p : PV} (ht : TestOK prog w h₀ d sc σ t false) (hb : EvOK prog w h₀ d sc σ o p) : EvOK prog w h₀ d sc σ (.IfExp t b o pos) p := fun A env K s R W hA hE hS => by
  refine wpAny_IfExp ((ht A env K s R W hA hE hS).mono fun s₁ K₁ st₁ => ?_)
  simp only [Bool.false_eq_true, if_false]
  exact (hb A env K₁ s₁ R W hA hE (hS.step st₁)).mono fun v s₂ K₂ st₂ rv => ⟨K₂, st₁.trans st₂, rv⟩
theorem ev_ite {t b o : Expr} {pos : Pos} {p q : PV} {c : Bool} (ht : TestOK prog w h₀ d sc σ t c) (hb : c = true → EvOK prog w h₀ d sc σ b p) (ho : c = false → EvOK prog w h₀ d sc σ o q) : EvOK prog w h₀ d sc σ (.IfExp t b o pos) (if c then p else q) := by
  cases c with
  | true => exact ev_ite_t ht (hb rfl)
  | false => exact ev_ite_f ht (ho rfl)

/- tests by a value -/
theorem tst_val {e : Expr} {p : PV} {b : Bool} (h : EvOK prog w h₀ d sc σ e p) (ht : TruthOK prog w h₀ d p b) (he : ∀ env whole, isTrue e env whole = (do let v ← whole; standAt e.pos; holding [v] (truthy v)) := by intro _ _; rfl) :
    TestOK prog w h₀ d sc σ e b := fun A env K s R W hA hE hS => by
  refine wpAny_isTrue_value ((h A env K s R W hA hE hS).mono fun v s₁ K₁ st₁ rv => ?_) (he _ _)
  exact (ht A K₁ s₁ v hA (hS.step st₁).ok rv).mono fun s₂ K₂ st₂ => ⟨K₂, st₁.trans st₂, rfl⟩
theorem truth_str {x : Str} (hf : x.length ≤ sizeLine) : TruthOK prog w h₀ d (.str x) ((x.length : Int) != 0) := fun A K s a hA hO ra => by
  cases ra
  exact P.truthy_str (by have := hf; rw [sizeLine_eq] at this; omega) ⟨K, StepE.same hO.sub fun _ _ e => e, rfl⟩
theorem truth_none : TruthOK prog w h₀ d .none false := fun A K s a hA hO ra => by
  cases ra; exact truthy_none ⟨K, Step.refl hO.sub, rfl⟩

section
variable (prog w h₀)
noncomputable def TestsOK (d : Nat) (sc : Scope) (σ : Sig) (op : BoolOp) (es : List Expr) (b : Bool) : Prop :=
  ∀ A env K s R W, AOk d A → EnvOk sc env → St w.params h₀ R W σ env K s → GivesB prog w A (allTrue op es env) K s b
end
theorem tst_bool {op : BoolOp} {es : List Expr} {pos : Pos} {b : Bool} (h : TestsOK prog w h₀ d sc σ op es b) : TestOK prog w h₀ d sc σ (.BoolOp op es pos) b := fun A env K s R W hA hE hS =>
  wpAny_isTrue_BoolOp (h A env K s R W hA hE hS)
theorem and_nil : TestsOK prog w h₀ d sc σ .And [] true := fun A env K s R W hA hE hS => wpAny_allTrue_And_nil ⟨K, Step.refl hS.sub, rfl⟩
theorem or_nil : TestsOK prog w h₀ d sc σ .Or [] false := fun A env K s R W hA hE hS => wpAny_allTrue_Or_nil ⟨K, Step.refl hS.sub, rfl⟩
theorem and_cons {e : Expr} {es : List Expr} {b c : Bool} (h : TestOK prog w h₀ d sc σ e b) (hr : b = true → TestsOK prog w h₀ d sc σ .And es c) : TestsOK prog w h₀ d sc σ .And (e :: es) (b && c) := fun A env K s R W hA hE hS => by
  refine wpAny_allTrue_And_cons ((h A env K s R W hA hE hS).mono fun s₁ K₁ st₁ => ?_)
  cases b with
  | false => exact ⟨K₁, st₁, rfl⟩
  | true => exact (hr rfl A env K₁ s₁ R W hA hE (hS.step st₁)).mono fun s₂ K₂ st₂ => ⟨K₂, st₁.trans st₂, rfl⟩
theorem or_cons {e : Expr} {es : List Expr} {b c : Bool} (h : TestOK prog w h₀ d sc σ e b) (hr : b = false → TestsOK prog w h₀ d sc σ .Or es c) : TestsOK prog w h₀ d sc σ .Or (e :: es) (b || c) := fun A env K s R W hA hE hS => by
  refine wpAny_allTrue_Or_cons ((h A env K s R W hA hE hS).mono fun s₁ K₁ st₁ => ?_)
  cases b with
  | true => exact ⟨K₁, st₁, rfl⟩
  | false => exact (hr rfl A env K₁ s₁ R W hA hE (hS.step st₁)).mono fun s₂ K₂ st₂ => ⟨K₂, st₁.trans st₂, rfl⟩

/- «a and b», «a or b» for a value -/
theorem ev_and {x y : Expr} {pos : Pos} {b : Bool} {q : PV} (hx : EvOK prog w h₀ d sc σ x (.bool b)) (hy : b = true → EvOK prog w h₀ d sc σ y q) : EvOK prog w h₀ d sc σ (.BoolOp .And [x, y] pos) (if b then q else .bool false) := fun A env K s R W hA hE hS => by
  refine wpAny_And2 ((hx A env K s R W hA hE hS).mono fun v s₁ K₁ st₁ rv => ?_)
  cases rv
  refine wpAny_truthy_bool ?_
  cases b with
  | false => exact ⟨K₁, st₁, .bool _⟩
  | true => exact (hy rfl A env K₁ s₁ R W hA hE (hS.step st₁)).mono fun v s₂ K₂ st₂ rv => ⟨K₂, st₁.trans st₂, rv⟩
theorem ev_or_none {x y : Expr} {pos : Pos} {q : PV} (hx : EvOK prog w h₀ d sc σ x .none) (hy : EvOK prog w h₀ d sc σ y q) : EvOK prog w h₀ d sc σ (.BoolOp .Or [x, y] pos) q := fun A env K s R W hA hE hS => by
  refine wpAny_Or2 ((hx A env K s R W hA hE hS).mono fun v s₁ K₁ st₁ rv => ?_)
  cases rv
  refine truthy_none ?_
  exact (hy A env K₁ s₁ R W hA hE (hS.step st₁)).mono fun v s₂ K₂ st₂ rv => ⟨K₂, st₁.trans st₂, rv⟩
end

end Mine.Internal

end PartB3
section PartB4
open PySem PySem.W PyProof.Rows
set_option Elab.async false
set_option maxRecDepth 100000
set_option linter.unusedVariables false
namespace Mine.Internal

inductive Out where
  | next (σ : Sig)
  | brk (σ : Sig)
  | cont (σ : Sig)
  | ret (p : PV)

section
variable (prog : Program) (w : World) (h₀ : Heap)
noncomputable def FlowOk (R : Addr → Prop) (W : Str → Bool) (env : Env) (K : KMap) (s : Shared) : Flow → Out → Prop
  | .next, .next σ => St w.params h₀ R W σ env K s
  | .brk, .brk σ => St w.params h₀ R W σ env K s
  | .cont, .cont σ => St w.params h₀ R W σ env K s
  | .ret v, .ret p => Rep w.params K v p
  | _, _ => False
noncomputable def ExSt (d : Nat) (sc : Scope) (σ : Sig) (st : Stmt) (o : Out) : Prop :=
  ∀ A env K s R, AOk d A → EnvOk sc env → St w.params h₀ R (fun _ => true) σ env K s →
    wpAny (model prog w) A (exec st env) (fun f s' => ∃ K', Step R s K s' K' ∧ FlowOk w h₀ R (fun _ => true) env K' s' f o) NoE s
noncomputable def ExOK (d : Nat) (sc : Scope) (σ : Sig) (ss : List Stmt) (o : Out) : Prop :=
  ∀ A env K s R, AOk d A → EnvOk sc env → St w.params h₀ R (fun _ => true) σ env K s →
    wpAny (model prog w) A (execs ss env) (fun f s' => ∃ K', Step R s K s' K' ∧ FlowOk w h₀ R (fun _ => true) env K' s' f o) NoE s
noncomputable def EvNew (d : Nat) (sc : Scope) (σ : Sig) (e : Expr) (p : PV) : Prop :=
  ∀ A env K s R W, AOk d A → EnvOk sc env → St w.params h₀ R W σ env K s →
    wpAny (model prog w) A (eval e env) (fun v s' => ∃ K' l, StepE s K s' K' ∧ Own w.params K' s'.heap v p l ∧ ∀ a ∈ l, s.heap.get? a = none) NoE s
end

section
variable {prog : Program} {w : World} {h₀ : Heap} {d : Nat} {sc : Scope} {σ : Sig}

/- freezing what one alone holds -/
theorem Own.freeze {P : Params} {K : KMap} {s : Shared} {v : Value} {p : PV} {l : List Addr} (x : Own P K s.heap v p l) (hs : ∀ a o, K a = some o → s.heap.get? a = some o) :
    ∃ K', Rep P K' v p ∧ (∀ a o, K' a = some o → s.heap.get? a = some o) ∧ (∀ a o, K a = some o → K' a = some o) ∧ ∀ a, a ∉ l → K' a = K a := by
  have go : ∀ (K : KMap) (a : Addr) (o : Obj), K a = none → s.heap.get? a = some o → (∀ a o, K a = some o → s.heap.get? a = some o) → ∀ b p, K.put a o b = some p → s.heap.get? b = some p := by
    intro K a o hK e hs b p hb
    by_cases h : b = a
    · subst h; rw [KMap.put_self] at hb; cases hb; exact e
    · rw [KMap.put_other _ _ h] at hb; exact hs b p hb
  cases x with
  | lst k e r => exact ⟨K.put _ _, .lst (KMap.put_self _ _ _) (.new _ _) (r.mono (KMap.put_mono k)), go _ _ _ k e hs, KMap.put_mono k, fun a ha => KMap.put_other _ _ fun h => ha (h ▸ .head _)⟩
  | dct m k e r => exact ⟨K.put _ _, .dct m (KMap.put_self _ _ _) (r.mono (KMap.put_mono k)), go _ _ _ k e hs, KMap.put_mono k, fun a ha => KMap.put_other _ _ fun h => ha (h ▸ .head _)⟩
  | @obj a c dx i es n kvs q k k' ne e f r =>
    have kd : (K.put a (instObj c dx)) dx = none := by rw [KMap.put_other _ _ (Ne.symm ne)]; exact k'
    have m2 : ∀ b o, K b = some o → ((K.put a (instObj c dx)).put dx (dictOf es n)) b = some o := fun b o h => KMap.put_mono kd b o (KMap.put_mono k b o h)
    refine ⟨(K.put a (instObj c dx)).put dx (dictOf es n), .obj q (KMap.put_mono kd _ _ (KMap.put_self _ _ _)) (KMap.put_self _ _ _) (r.mono m2), go _ _ _ kd f (go _ _ _ k e hs), m2, fun b hb => ?_⟩
    rw [KMap.put_other _ _ (by rintro rfl; exact hb (.tail _ (.head _))), KMap.put_other _ _ (by rintro rfl; exact hb (.head _))]

theorem ev_new {e : Expr} {p : PV} (h : EvNew prog w h₀ d sc σ e p) : EvOK prog w h₀ d sc σ e p := fun A env K s R W hA hE hS => by
  refine wpAny_mono (h A env K s R W hA hE hS) (fun v s' h' => ?_) fun _ _ x => x
  obtain ⟨K', l, st, ow, fr⟩ := h'
  obtain ⟨K'', r, hs, hm, ho⟩ := ow.freeze st.sub
  refine ⟨K'', ⟨st.heap, hs, fun a o e => hm a o (st.mono a o e), fun a ha => ?_, st.gens, st.os⟩, r⟩
  rw [ho a fun hl => by rw [Alive, fr a hl] at ha; cases ha]
  exact st.old a ha

/- a store under a name -/
theorem store_name {A : Around} {E : Value → Shared → Prop} {R : Addr → Prop} {W : Str → Bool} {env : Env} {K : KMap} {s : Shared} {m : Str → Option Value} {oa : Str → List Addr} {x : Str} {v : Value} {sl : Slot} {l : List Addr} {Q : Unit → Shared → Prop}
    (hE : EnvOk sc env) (hS : StI w.params h₀ R W σ env K s m oa) (hk : env.kindOf x = some .local ∨ env.kindOf x = some .cell ∧ (env.cells.lookup x).isSome = true) (hW : W x = true) (hs : SlotOk w.params K s.heap v sl l)
    (ho : ∀ p, sl = .own p → ∀ a ∈ l, ¬ R a ∧ a ≠ env.locals ∧ (∀ y c, env.cells.lookup y = some c → a ≠ c) ∧ ∀ y q, y ≠ x → σ.lookup y = some (.own q) → a ∉ oa y)
    (hQ : ∀ s', Step R s K s' K → St w.params h₀ R W (upd σ x sl) env K s' → Q () s') : wpAny (model prog w) A (storeName env x v) Q E s := by
  have hk' : env.scope.kind = .function := by rw [hE.scope]; exact hE.kind
  have ownAl : ∀ y q, σ.lookup y = some (.own q) → ∀ a ∈ oa y, (s.heap.get? a).isSome = true := fun y q e a ha => by
    obtain ⟨u, _, hu⟩ := hS.val y _ e
    exact Own.alive hu a ha
  have disj' : ∀ y z p q, y ≠ z → (upd σ x sl).lookup y = some (.own p) → (upd σ x sl).lookup z = some (.own q) → ∀ a ∈ (if y = x then l else oa y), a ∉ (if z = x then l else oa z) := by
    intro y z p q hyz ey ez a ha
    rw [upd_lookup] at ey ez
    by_cases hy : y = x
    · rw [if_pos hy] at ha ey
      have hz : z ≠ x := fun h => hyz (hy.trans h.symm)
      rw [if_neg hz] at ez ⊢
      exact (ho p (Option.some.inj ey) a ha).2.2.2 z q hz ez
    · rw [if_neg hy] at ha ey
      by_cases hz : z = x
      · rw [if_pos hz] at ez ⊢
        exact fun h => (ho q (Option.some.inj ez) a h).2.2.2 y p hy ey ha
      · rw [if_neg hz] at ez ⊢
        exact hS.disj y z p q hyz ey ez a ha
  have ownR' : ∀ y p, (upd σ x sl).lookup y = some (.own p) → ∀ a ∈ (if y = x then l else oa y), ¬ R a ∧ a ≠ env.locals ∧ ∀ z c, env.cells.lookup z = some c → a ≠ c := by
    intro y p ey a ha
    rw [upd_lookup] at ey
    by_cases hy : y = x
    · rw [if_pos hy] at ha ey
      obtain ⟨h1, h2, h3, _⟩ := ho p (Option.some.inj ey) a ha
      exact ⟨h1, h2, h3⟩
    · rw [if_neg hy] at ha ey
      exact hS.ownR y p ey a ha
  rcases hk with hl | ⟨hl, hc⟩
  · refine wpAny_storeName_local hl hS.ns (fun h' hn hs' => ?_) (by rw [hk']; rfl)
    have keep : ∀ b o, b ≠ env.locals → s.heap.get? b = some o → h'.get? b = some o := fun b o hb e => hs'.extBut b o hb e
    have hsub : ∀ a o, K a = some o → h'.get? a = some o := fun a o e => keep a o (by rintro rfl; rw [hS.nK] at e; cases e) (hS.sub a o e)
    refine hQ _ ⟨fun a r o e => keep a o (fun h => hS.nR (h ▸ r)) e, hsub, fun _ _ e => e, fun _ _ => rfl, ⟨id, Nat.le_refl _, fun _ _ _ => rfl⟩, rfl⟩ ?_
    refine ⟨_, fun y => if y = x then l else oa y, ⟨hS.base, hsub, fun a r => ?_, hn, hS.nR, hS.nK, fun y c e => ?_, hS.cellR, hS.cellInj, fun y t e => ?_, ownR', disj'⟩⟩
    · obtain ⟨o, e⟩ := Option.isSome_iff_exists.mp (hS.live a r)
      exact alive_of (keep a o (fun h => hS.nR (h ▸ r)) e)
    · obtain ⟨⟨u, hu⟩, k, ne⟩ := hS.cell y c e
      exact ⟨⟨u, hu.sameBut hs' ne⟩, k, ne⟩
    · rw [upd_lookup] at e
      by_cases hy : y = x
      · subst hy
        rw [if_pos rfl] at e
        cases e
        refine ⟨v, .inl ⟨hl, by simp⟩, ?_⟩
        simp only [if_true]
        cases sl with
        | val p => exact hs
        | own p => exact Own.keeps hs (fun _ _ e => e) (fun _ _ => rfl) fun a ha o e => keep a o (ho p rfl a ha).2.1 e
      · rw [if_neg hy] at e
        obtain ⟨u, hat, hu⟩ := hS.val y t e
        refine ⟨u, ?_, ?_⟩
        · rcases hat with ⟨q, r⟩ | ⟨q, c, r, z⟩
          · exact .inl ⟨q, by simp [hy, r]⟩
          · exact .inr ⟨q, c, r, z.sameBut hs' (hS.cell y c r).2.2⟩
        · simp only [if_neg hy]
          cases t with
          | val p => exact hu
          | own p => exact Own.keeps hu (fun _ _ e => e) (fun _ _ => rfl) fun a ha o e' => keep a o (hS.ownR y p e a ha).2.1 e'
  · obtain ⟨c, hc⟩ := Option.isSome_iff_exists.mp hc
    obtain ⟨⟨u, hu⟩, kc, ne⟩ := hS.cell x c hc
    refine wpAny_storeName_cell hk' hl hc hu fun h' hc' hs' => ?_
    have keep : ∀ b o, b ≠ c → s.heap.get? b = some o → h'.get? b = some o := fun b o hb e => hs'.extBut b o hb e
    have hsub : ∀ a o, K a = some o → h'.get? a = some o := fun a o e => keep a o (by rintro rfl; rw [kc] at e; cases e) (hS.sub a o e)
    have cR := hS.cellR x c hW hc
    refine hQ _ ⟨fun a r o e => keep a o (fun h => cR (h ▸ r)) e, hsub, fun _ _ e => e, fun _ _ => rfl, ⟨id, Nat.le_refl _, fun _ _ _ => rfl⟩, rfl⟩ ?_
    refine ⟨m, fun y => if y = x then l else oa y, ⟨hS.base, hsub, fun a r => ?_, hS.ns.sameBut hs' (Ne.symm ne), hS.nR, hS.nK, fun y c' e => ?_, hS.cellR, hS.cellInj, fun y t e => ?_, ownR', disj'⟩⟩
    · obtain ⟨o, e⟩ := Option.isSome_iff_exists.mp (hS.live a r)
      exact alive_of (keep a o (fun h => cR (h ▸ r)) e)
    · obtain ⟨⟨u', hu'⟩, k, ne'⟩ := hS.cell y c' e
      by_cases hcc : c' = c
      · subst hcc; exact ⟨⟨_, hc'⟩, k, ne'⟩
      · exact ⟨⟨u', hu'.sameBut hs' hcc⟩, k, ne'⟩
    · rw [upd_lookup] at e
      by_cases hy : y = x
      · subst hy
        rw [if_pos rfl] at e
        cases e
        refine ⟨v, .inr ⟨.inl hl, c, hc, hc'⟩, ?_⟩
        simp only [if_true]
        cases sl with
        | val p => exact hs
        | own p => exact Own.keeps hs (fun _ _ e => e) (fun _ _ => rfl) fun a ha o e => keep a o ((ho p rfl a ha).2.2.1 y c hc) e
      · rw [if_neg hy] at e
        obtain ⟨u', hat, hu'⟩ := hS.val y t e
        refine ⟨u', ?_, ?_⟩
        · rcases hat with ⟨q, r⟩ | ⟨q, c', r, z⟩
          · exact .inl ⟨q, r⟩
          · exact .inr ⟨q, c', r, z.sameBut hs' fun h => hy (hS.cellInj y x c' r (h ▸ hc))⟩
        · simp only [if_neg hy]
          cases t with
          | val p => exact hu'
          | own p => exact Own.keeps hu' (fun _ _ e => e) (fun _ _ => rfl) fun a ha o e' => keep a o ((hS.ownR y p e a ha).2.2 x c hc) e'


theorem EnvOk.can {env : Env} {x : Str} (hE : EnvOk sc env) (h : sc.names.lookup x = some .local ∨ sc.names.lookup x = some .cell) : env.kindOf x = some .local ∨ env.kindOf x = some .cell ∧ (env.cells.lookup x).isSome = true := by
  unfold Env.kindOf
  rw [hE.scope]
  exact h.imp id fun h => ⟨h, hE.laid x h⟩

noncomputable abbrev CanSt (sc : Scope) (x : Str) : Prop := (sc.names.lookup x = some .local ∨ sc.names.lookup x = some .cell)

/- a frozen value goes under a name -/
theorem store_val {A : Around} {E : Value → Shared → Prop} {R : Addr → Prop} {W : Str → Bool} {env : Env} {K : KMap} {s : Shared} {x : Str} {v : Value} {p : PV} {Q : Unit → Shared → Prop}
    (hE : EnvOk sc env) (hS : St w.params h₀ R W σ env K s) (hc : CanSt sc x) (hW : W x = true) (hv : Rep w.params K v p)
    (hQ : ∀ s', Step R s K s' K → St w.params h₀ R W (upd σ x (.val p)) env K s' → Q () s') : wpAny (model prog w) A (storeName env x v) Q E s := by
  obtain ⟨m, oa, hS⟩ := hS
  exact store_name (sl := .val p) (l := []) hE hS (hE.can hc) hW hv (fun p e => by cases e) hQ
/- what one alone holds goes under a name -/
theorem store_own {A : Around} {E : Value → Shared → Prop} {R : Addr → Prop} {W : Str → Bool} {env : Env} {K K' : KMap} {s s' : Shared} {x : Str} {v : Value} {p : PV} {l : List Addr} {Q : Unit → Shared → Prop}
    (hE : EnvOk sc env) (hS : St w.params h₀ R W σ env K s) (st : StepE s K s' K') (hc : CanSt sc x) (hW : W x = true) (hv : Own w.params K' s'.heap v p l) (hf : ∀ a ∈ l, s.heap.get? a = none)
    (hQ : ∀ s'', Step R s' K' s'' K' → St w.params h₀ R W (upd σ x (.own p)) env K' s'' → Q () s'') : wpAny (model prog w) A (storeName env x v) Q E s' := by
  obtain ⟨m, oa, hS⟩ := hS
  have hS' : StI w.params h₀ R W σ env K' s' m oa := by
    have hk : ∀ b o, s.heap.get? b = some o → s'.heap.get? b = some o := fun b o e => StepE.get st e
    have nK : ∀ a, Alive s a → K a = none → K' a = none := fun a h e => (st.old a h).trans e
    refine ⟨fun a o e => st.mono a o (hS.base a o e), st.sub, fun a r => Step.alive st (hS.live a r) (hS.live a r), hS.ns.keeps hk, hS.nR, ?_, ?_, hS.cellR, hS.cellInj, ?_, hS.ownR, hS.disj⟩
    · obtain ⟨_, _, _, e, _⟩ := hS.ns
      exact nK _ (alive_of e) hS.nK
    · intro n c e
      obtain ⟨⟨v, hv⟩, hn, hl⟩ := hS.cell n c e
      exact ⟨⟨v, hv.keeps hk⟩, (by obtain ⟨_, e, _⟩ := hv; exact nK _ (alive_of e) hn), hl⟩
    · intro n sl e
      obtain ⟨v, ha, hs⟩ := hS.val n sl e
      refine ⟨v, ha.keeps hk, ?_⟩
      cases sl with
      | val p => exact Rep.mono st.mono hs
      | own p => exact Own.keeps hs st.mono (fun a ha => st.old a (hs.alive a ha)) fun a _ o e => hk a o e
  refine store_name (sl := .own p) (l := l) hE hS' (hE.can hc) hW hv (fun q e a ha => ?_) hQ
  have dead : ∀ b, Alive s b → a ≠ b := fun b hb h => by subst h; rw [Alive, hf a ha] at hb; cases hb
  refine ⟨fun r => dead a (hS.live a r) rfl, dead _ ?_, fun y c hc => dead c ?_, fun y q _ hy hm => ?_⟩
  · obtain ⟨_, _, _, e, _⟩ := hS.ns
    exact alive_of e
  · obtain ⟨⟨_, _, e, _⟩, _⟩ := hS.cell y c hc
    exact alive_of e
  · obtain ⟨u, _, hu⟩ := hS.val y _ hy
    exact dead a (hu.alive a hm) rfl

theorem StepE.from {R : Addr → Prop} {W : Str → Bool} {env : Env} {K K' : KMap} {s s' : Shared} (x : StepE s K s' K') (h : St w.params h₀ R W σ env K s) : Step R s K s' K' := x.weaken h.live

/- statements in a row -/
theorem ex_nil : ExOK prog w h₀ d sc σ [] (.next σ) := fun A env K s R hA hE hS => wpAny_execs_nil ⟨K, Step.refl hS.sub, hS⟩
theorem ex_cons {σ' : Sig} {st : Stmt} {ss : List Stmt} {o : Out} (h : ExSt prog w h₀ d sc σ st (.next σ')) (hr : ExOK prog w h₀ d sc σ' ss o) : ExOK prog w h₀ d sc σ (st :: ss) o := fun A env K s R hA hE hS => by
  refine wpAny_execs_cons (wpAny_mono (h A env K s R hA hE hS) (fun f s₁ h₁ => ?_) fun _ _ x => x)
  obtain ⟨K₁, st₁, hf⟩ := h₁
  cases f with
  | next =>
    refine wpAny_mono (hr A env K₁ s₁ R hA hE hf) (fun f s₂ h₂ => ?_) fun _ _ x => x
    obtain ⟨K₂, st₂, hf₂⟩ := h₂
    exact ⟨K₂, st₁.trans st₂, hf₂⟩
  | brk => exact hf.elim
  | cont => exact hf.elim
  | ret v => exact hf.elim
/- a statement that does not go on -/
noncomputable def Out.stops : Out → Bool
  | .next _ => false
  | _ => true
theorem ex_stop {st : Stmt} {ss : List Stmt} {o : Out} (h : ExSt prog w h₀ d sc σ st o) (ho : o.stops = true := by rfl) : ExOK prog w h₀ d sc σ (st :: ss) o := fun A env K s R hA hE hS => by
  refine wpAny_execs_cons (wpAny_mono (h A env K s R hA hE hS) (fun f s₁ h₁ => ?_) fun _ _ x => x)
  obtain ⟨K₁, st₁, hf⟩ := h₁
  cases f with
  | next => cases o with
    | next _ => cases ho
    | _ => exact hf.elim
  | brk => exact ⟨K₁, st₁, hf⟩
  | cont => exact ⟨K₁, st₁, hf⟩
  | ret v => exact ⟨K₁, st₁, hf⟩
theorem ex_one {st : Stmt} {o : Out} (h : ExSt prog w h₀ d sc σ st o) : ExOK prog w h₀ d sc σ [st] o := by
  cases o with
  | next σ' => exact ex_cons h ex_nil
  | _ => exact ex_stop h

theorem st_pass {pos : Pos} : ExSt prog w h₀ d sc σ (.Pass pos) (.next σ) := fun A env K s R hA hE hS => wpAny_Pass ⟨K, Step.refl hS.sub, hS⟩
theorem st_break {pos : Pos} : ExSt prog w h₀ d sc σ (.Break pos) (.brk σ) := fun A env K s R hA hE hS => wpAny_Break ⟨K, Step.refl hS.sub, hS⟩
theorem st_continue {pos : Pos} : ExSt prog w h₀ d sc σ (.Continue pos) (.cont σ) := fun A env K s R hA hE hS => wpAny_Continue ⟨K, Step.refl hS.sub, hS⟩
theorem st_return {e : Expr} {pos : Pos} {p : PV} (h : EvOK prog w h₀ d sc σ e p) : ExSt prog w h₀ d sc σ (.Return (some e) pos) (.ret p) := fun A env K s R hA hE hS =>
  wpAny_Return_some ((h A env K s R _ hA hE hS).mono fun v s₁ K₁ st₁ rv => ⟨K₁, st₁.from hS, rv⟩)
theorem st_if {t : Expr} {b o : List Stmt} {pos : Pos} {c : Bool} {out : Out} (ht : TestOK prog w h₀ d sc σ t c) (hb : c = true → ExOK prog w h₀ d sc σ b out) (ho : c = false → ExOK prog w h₀ d sc σ o out) :
    ExSt prog w h₀ d sc σ (.If t b o pos) out := fun A env K s R hA hE hS => by
  refine wpAny_If ((ht A env K s R _ hA hE hS).mono fun s₁ K₁ st₁ => ?_)
  cases c with
  | true =>
    refine wpAny_mono (hb rfl A env K₁ s₁ R hA hE (hS.step st₁)) (fun f s₂ h₂ => ?_) fun _ _ x => x
    obtain ⟨K₂, st₂, hf⟩ := h₂
    exact ⟨K₂, (st₁.from hS).trans st₂, hf⟩
  | false =>
    refine wpAny_mono (ho rfl A env K₁ s₁ R hA hE (hS.step st₁)) (fun f s₂ h₂ => ?_) fun _ _ x => x
    obtain ⟨K₂, st₂, hf⟩ := h₂
    exact ⟨K₂, (st₁.from hS).trans st₂, hf⟩

theorem interactive_no {env : Env} (hE : EnvOk sc env) : interactive env = false := by
  unfold interactive
  rw [hE.scope, hE.kind]; rfl

/- x = e -/
theorem st_assign {x : Str} {xpos pos : Pos} {e : Expr} {p : PV} (h : EvOK prog w h₀ d sc σ e p) (hc : CanSt sc x := by first | exact .inl rfl | exact .inr rfl)
    (hs : ∀ env, swapsWith e (some (.Name x xpos)) pos.line env = pure false := by intro _; rfl) : ExSt prog w h₀ d sc σ (.Assign [.Name x xpos] e pos) (.next (upd σ x (.val p))) := fun A env K s R hA hE hS => by
  refine wpAny_Assign_Name ((h A env K s R _ hA hE hS).mono fun v s₁ K₁ st₁ rv => ?_) (hs env)
  exact store_val hE (hS.step st₁) hc rfl rv fun s₂ st₂ hS₂ => ⟨K₁, (st₁.from hS).trans st₂, hS₂⟩
theorem st_assign_own {x : Str} {xpos pos : Pos} {e : Expr} {p : PV} (h : EvNew prog w h₀ d sc σ e p) (hc : CanSt sc x := by first | exact .inl rfl | exact .inr rfl)
    (hs : ∀ env, swapsWith e (some (.Name x xpos)) pos.line env = pure false := by intro _; rfl) : ExSt prog w h₀ d sc σ (.Assign [.Name x xpos] e pos) (.next (upd σ x (.own p))) := fun A env K s R hA hE hS => by
  refine wpAny_Assign_Name (wpAny_mono (h A env K s R _ hA hE hS) (fun v s₁ h₁ => ?_) fun _ _ x => x) (hs env)
  obtain ⟨K₁, l, st₁, ow, fr⟩ := h₁
  exact store_own hE hS st₁ hc rfl ow fr fun s₂ st₂ hS₂ => ⟨K₁, (st₁.from hS).trans st₂, hS₂⟩
section
variable (prog w h₀)
noncomputable def InpOK (d : Nat) (op : Operator) (p q r : PV) : Prop :=
  ∀ A K s a b, AOk d A → Ok h₀ K s → Rep w.params K a p → Rep w.params K b q → Gives prog w A (inplaceOp op a b) K s r
end
theorem inp_adds {x y : Str} (hsz : x.length + y.length ≤ sizeLine) : InpOK prog w h₀ d .Add (.str x) (.str y) (.str (x ++ y)) := fun A K s a b hA hO ra rb => by
  cases ra; cases rb
  exact iadd_str (fun t' tk => ⟨K, StepE.same hO.sub fun _ _ e => e, .str _ _⟩) hsz
theorem inp_add {a b : Int} : InpOK prog w h₀ d .Add (.int a) (.int b) (.int (a + b)) := fun A K s x y hA hO ra rb => by
  cases ra; cases rb
  exact wpAny_iadd_int ⟨K, StepE.same hO.sub fun _ _ e => e, .int _ _⟩
theorem st_aug {x : Str} {xpos pos : Pos} {op : Operator} {e : Expr} {p q r : PV} (hx : σ.lookup x = some (.val p)) (h : EvOK prog w h₀ d sc σ e q) (ho : InpOK prog w h₀ d op p q r) (hc : CanSt sc x := by first | exact .inl rfl | exact .inr rfl)
    (hcl : (x == ("__classdict__" : Str)) = false := by rfl) : ExSt prog w h₀ d sc σ (.AugAssign (.Name x xpos) op e pos) (.next (upd σ x (.val r))) := fun A env K s R hA hE hS => by
  obtain ⟨m, oa, x'⟩ := id hS
  obtain ⟨v, hat, hv⟩ := x'.val _ _ hx
  refine wpAny_AugAssign_Name (load_At hE x'.ns hat hcl ?_)
  refine (h A env K s R _ hA hE hS).mono fun u s₁ K₁ st₁ ru => ?_
  refine (ho A K₁ s₁ v u hA (hS.step st₁).ok (Rep.mono st₁.mono hv) ru).mono fun y s₂ K₂ st₂ ry => ?_
  exact store_val hE (hS.step (st₁.trans st₂)) hc rfl ry fun s₃ st₃ hS₃ => ⟨K₂, ((st₁.trans st₂).from hS).trans st₃, hS₃⟩
end

end Mine.Internal

end PartB4
section PartB5
open PySem PySem.W PyProof.Rows
set_option Elab.async false
set_option maxRecDepth 100000
set_option linter.unusedVariables false
namespace Mine.Internal

section
variable (prog : Program) (w : World) (h₀ : Heap)

/- an iterator that yields the pure values one by one -/
structure Walk (A : Around) (it : Value) (tg : Expr → Prop) (its : List PV) (T : Nat → List Addr → KMap → Shared → Prop) (gp : List Nat) : Prop where
  frame : ∀ i fp K s K' s', T i fp K s → Ok h₀ K s → Ok h₀ K' s' → (∀ a ∈ fp, ∀ o, s.heap.get? a = some o → s'.heap.get? a = some o) → (∀ a ∈ fp, K' a = K a) → (∀ a o, K a = some o → K' a = some o) → (∀ g ∈ gp, s'.gens[g]? = s.gens[g]?) → T i fp K' s'
  live : ∀ i fp K s, T i fp K s → ∀ a ∈ fp, Alive s a
  liveG : ∀ i fp K s, T i fp K s → ∀ g ∈ gp, g < s.gens.size
  item : ∀ i p fp K s t, its[i]? = some p → T i fp K s → Ok h₀ K s → tg t →
    wpAny (model prog w) A (pyNext it) (fun r s₁ => ∃ v, r = some v ∧ wpAny (model prog w) A (letOwnedTupleGo t it v)
      (fun _ s₂ => ∃ K₂ fp', StepG gp (fun a => Alive s a ∧ a ∉ fp) s K s₂ K₂ ∧ Rep w.params K₂ v p ∧ T (i + 1) fp' K₂ s₂ ∧ (∀ a ∈ fp, a ∈ fp') ∧ ∀ a ∈ fp', a ∈ fp ∨ s.heap.get? a = none) NoE s₁) NoE s
  done : ∀ fp K s, T its.length fp K s → Ok h₀ K s → wpAny (model prog w) A (pyNext it) (fun r s₁ => r = none ∧ ∃ K₁, StepG gp (fun a => Alive s a ∧ a ∉ fp) s K s₁ K₁) NoE s
  self : ∀ i fp K s (Q : Value → Shared → Prop), T i fp K s → Ok h₀ K s → Q it s → wpAny (model prog w) A (pyIter it) Q NoE s

noncomputable def IterGo (d : Nat) (tg : Expr → Prop) (its : List PV) (A : Around) (x : Value) (K : KMap) (s : Shared) : Prop :=
  wpAny (model prog w) A (pyIter x) (fun it s₂ => ∃ K₂ T fp gp, StepE s K s₂ K₂ ∧ T 0 fp K₂ s₂ ∧ (∀ a ∈ fp, s.heap.get? a = none) ∧ (∀ g ∈ gp, s.gens.size ≤ g) ∧ Walk prog w h₀ A it tg its T gp) NoE s
noncomputable def IterOK (d : Nat) (sc : Scope) (σ : Sig) (e : Expr) (tg : Expr → Prop) (its : List PV) : Prop :=
  ∀ A env K s R W, AOk d A → EnvOk sc env → St w.params h₀ R W σ env K s →
    wpAny (model prog w) A (eval e env) (fun x s₁ => wpAny (model prog w) A (pyIter x) (fun it s₂ => ∃ K₂ T fp gp, StepE s K s₂ K₂ ∧ T 0 fp K₂ s₂ ∧ (∀ a ∈ fp, s.heap.get? a = none) ∧ (∀ g ∈ gp, s.gens.size ≤ g) ∧ Walk prog w h₀ A it tg its T gp) NoE s₁) NoE s
noncomputable def AsgOK (d : Nat) (sc : Scope) (W : Str → Bool) (σ : Sig) (t : Expr) (p : PV) (σ' : Sig) : Prop :=
  ∀ A env K s R v, AOk d A → EnvOk sc env → St w.params h₀ R W σ env K s → Rep w.params K v p →
    wpAny (model prog w) A (assign t env v) (fun _ s' => ∃ K', Step R s K s' K' ∧ St w.params h₀ R W σ' env K' s') NoE s
noncomputable def AsgsOK (d : Nat) (sc : Scope) (W : Str → Bool) (σ : Sig) (ts : List Expr) (ps : List PV) (σ' : Sig) : Prop :=
  ∀ A env K s R vs, AOk d A → EnvOk sc env → St w.params h₀ R W σ env K s → RepL w.params K vs ps →
    wpAny (model prog w) A (assignInOrder ((assignEach ts env).map (·.2)) vs) (fun _ s' => ∃ K', Step R s K s' K' ∧ St w.params h₀ R W σ' env K' s') NoE s

noncomputable abbrev WAll : Str → Bool := fun _ => true
inductive Turns (d : Nat) (sc : Scope) (t : Expr) (body : List Stmt) : Sig → List PV → Out → Prop
  | nil {σ : Sig} : Turns d sc t body σ [] (.next σ)
  | next {σ σ₁ σ₂ : Sig} {p : PV} {ps : List PV} {o : Out} : AsgOK prog w h₀ d sc WAll σ t p σ₁ → ExOK prog w h₀ d sc σ₁ body (.next σ₂) → Turns d sc t body σ₂ ps o → Turns d sc t body σ (p :: ps) o
  | cont {σ σ₁ σ₂ : Sig} {p : PV} {ps : List PV} {o : Out} : AsgOK prog w h₀ d sc WAll σ t p σ₁ → ExOK prog w h₀ d sc σ₁ body (.cont σ₂) → Turns d sc t body σ₂ ps o → Turns d sc t body σ (p :: ps) o
  | brk {σ σ₁ σ₂ : Sig} {p : PV} {ps : List PV} : AsgOK prog w h₀ d sc WAll σ t p σ₁ → ExOK prog w h₀ d sc σ₁ body (.brk σ₂) → Turns d sc t body σ (p :: ps) (.next σ₂)
  | ret {σ σ₁ : Sig} {p q : PV} {ps : List PV} : AsgOK prog w h₀ d sc WAll σ t p σ₁ → ExOK prog w h₀ d sc σ₁ body (.ret q) → Turns d sc t body σ (p :: ps) (.ret q)
end

section
variable {prog : Program} {w : World} {h₀ : Heap} {d : Nat} {sc : Scope} {σ : Sig} {W : Str → Bool}

/- targets -/
theorem asg_name {x : Str} {pos : Pos} {p : PV} (hc : CanSt sc x := by first | exact .inl rfl | exact .inr rfl) (hW : W x = true := by rfl) : AsgOK prog w h₀ d sc W σ (.Name x pos) p (upd σ x (.val p)) := fun A env K s R v hA hE hS rv =>
  wpAny_assign_Name (store_val hE hS hc hW rv fun s' st hS' => ⟨K, st, hS'⟩)
theorem asgs_nil : AsgsOK prog w h₀ d sc W σ [] [] σ := fun A env K s R vs hA hE hS rv => by
  cases rv
  exact wpAny_pure ⟨K, Step.refl hS.sub, hS⟩
theorem asgs_cons {t : Expr} {ts : List Expr} {p : PV} {ps : List PV} {σ₁ σ₂ : Sig} (h : AsgOK prog w h₀ d sc W σ t p σ₁) (hr : AsgsOK prog w h₀ d sc W σ₁ ts ps σ₂) (hs : ∀ env, assignEach (t :: ts) env = (false, assign t env) :: assignEach ts env := by intro _; rfl) :
    AsgsOK prog w h₀ d sc W σ (t :: ts) (p :: ps) σ₂ := fun A env K s R vs hA hE hS rv => by
  cases rv with
  | @cons v vs _ _ rv rs =>
  rw [hs]
  show wpAny _ _ (holding vs (assign t env v) >>= fun _ => assignInOrder ((assignEach ts env).map (·.2)) vs) _ _ _
  refine wpAny_bind (wpAny_holding (wpAny_mono (h A env K s R v hA hE hS rv) (fun _ s₁ h₁ => ?_) fun _ _ x => x))
  obtain ⟨K₁, st₁, hS₁⟩ := h₁
  refine wpAny_mono (hr A env K₁ s₁ R vs hA hE hS₁ (rs.mono st₁.mono)) (fun _ s₂ h₂ => ?_) fun _ _ x => x
  obtain ⟨K₂, st₂, hS₂⟩ := h₂
  exact ⟨K₂, st₁.trans st₂, hS₂⟩

theorem extE {s : Shared} {K : KMap} {h' : Heap} {tk : Nat} (hs : ∀ a o, K a = some o → s.heap.get? a = some o) (he : Heap.ExtBut s.heap.objs.size s.heap h') : StepE s K { s with heap := h', toks := tk } K :=
  StepE.same hs fun a o e => he a o (Nat.ne_of_lt (Heap.lt_size e)) e

theorem asg_tup {ts : List Expr} {k : Nat} {pos : Pos} {ps : List PV} {σ' : Sig} (h : AsgsOK prog w h₀ d sc W σ ts ps σ') (hn : ∀ env, (assignEach ts env).length = ps.length := by intro _; rfl) (hs : ∀ env, (assignEach ts env).findIdx? (·.1) = none := by intro _; rfl) :
    AsgOK prog w h₀ d sc W σ (.Tuple ts k pos) (.tup ps) σ' := fun A env K s R v hA hE hS rv => by
  cases rv with
  | @tup a vs n _ e r =>
  refine wpAny_assign_Tuple hA.1 (items := vs.toArray) ⟨_, hS.sub _ _ e, rfl, n, rfl⟩ (by rw [hn, List.size_toArray, r.length]) (hs env) fun h' he => ?_
  have st := extE (tk := s.toks) hS.sub he
  refine wpAny_mono (h A env K _ R vs hA hE (hS.step st) r) (fun _ s₂ h₂ => ?_) fun _ _ x => x
  obtain ⟨K₂, st₂, hS₂⟩ := h₂
  exact ⟨K₂, (st.from hS).trans st₂, hS₂⟩
theorem asg_tup_list {ts : List Expr} {k : Nat} {pos : Pos} {ps : List PV} {σ' : Sig} (h : AsgsOK prog w h₀ d sc W σ ts ps σ') (hn : ∀ env, (assignEach ts env).length = ps.length := by intro _; rfl) (hs : ∀ env, (assignEach ts env).findIdx? (·.1) = none := by intro _; rfl) :
    AsgOK prog w h₀ d sc W σ (.Tuple ts k pos) (.lst ps) σ' := fun A env K s R v hA hE hS rv => by
  cases rv with
  | @lst a o vs _ e q r =>
  rw [arm_assign_Tuple]
  refine wpAny_bind (wpAny_standAt ?_)
  unfold unpack
  have hl : s.heap.IsList a vs.toArray := ⟨_, hS.sub _ _ e, q⟩
  rw [hs env, hn env, ← r.length, ← List.size_toArray]
  refine wpAny_bind (wpAny_holding (kun_itemsOf hA.1 hl fun h' he => ?_))
  have st := extE (tk := s.toks) hS.sub he
  refine wpAny_mono (h A env K _ R vs hA hE (hS.step st) r) (fun _ s₂ h₂ => ?_) fun _ _ x => x
  obtain ⟨K₂, st₂, hS₂⟩ := h₂
  exact ⟨K₂, (st.from hS).trans st₂, hS₂⟩

theorem St.weaken {P : Params} {R R' : Addr → Prop} {env : Env} {K : KMap} {s : Shared} (x : St P h₀ R W σ env K s) (h : ∀ a, R' a → R a) : St P h₀ R' W σ env K s := by
  obtain ⟨m, oa, y⟩ := x
  exact ⟨m, oa, ⟨y.base, y.sub, fun a r => y.live a (h a r), y.ns, fun r => y.nR (h _ r), y.nK, y.cell, fun n c hw e r => y.cellR n c hw e (h _ r), y.cellInj, y.val, fun n p e a ha => ⟨fun r => (y.ownR n p e a ha).1 (h _ r), (y.ownR n p e a ha).2⟩, y.disj⟩⟩
/- more places that the frame leaves alone: fresh ones -/
theorem St.more {P : Params} {R : Addr → Prop} {env : Env} {K K' : KMap} {s s' : Shared} {fp : List Addr} (x : St P h₀ R W σ env K s) (st : StepE s K s' K') (hf : ∀ a ∈ fp, s.heap.get? a = none) (hl : ∀ a ∈ fp, Alive s' a) :
    St P h₀ (fun a => R a ∨ a ∈ fp) W σ env K' s' := by
  obtain ⟨m, oa, z⟩ := id x
  obtain ⟨m', oa', y⟩ := x.step st
  have dead : ∀ b, Alive s b → b ∉ fp := fun b hb h => by rw [Alive, hf b h] at hb; cases hb
  have zL : Alive s env.locals := by obtain ⟨_, _, _, e, _⟩ := z.ns; exact alive_of e
  have zC : ∀ n c, env.cells.lookup n = some c → Alive s c := fun n c e => by obtain ⟨⟨_, _, e, _⟩, _⟩ := z.cell n c e; exact alive_of e
  have hk : ∀ b o, s.heap.get? b = some o → s'.heap.get? b = some o := fun b o e => StepE.get st e
  have nK : ∀ a, Alive s a → K a = none → K' a = none := fun a h e => (st.old a h).trans e
  refine ⟨m, oa, ⟨y.base, y.sub, fun a r => r.elim (y.live a) (hl a), z.ns.keeps hk, fun r => r.elim z.nR (dead _ zL), y.nK, y.cell, fun n c hw e r => r.elim (z.cellR n c hw e) (dead c (zC n c e)), z.cellInj, ?_, fun n p e a ha => ?_, z.disj⟩⟩
  · intro n sl e
    obtain ⟨v, ha, hs⟩ := z.val n sl e
    refine ⟨v, ha.keeps hk, ?_⟩
    cases sl with
    | val p => exact Rep.mono st.mono hs
    | own p => exact Own.keeps hs st.mono (fun a ha => st.old a (hs.alive a ha)) fun a _ o e => hk a o e
  · obtain ⟨u, _, hu⟩ := z.val n _ e
    exact ⟨fun r => r.elim (z.ownR n p e a ha).1 (dead a (hu.alive a ha)), (z.ownR n p e a ha).2⟩
/- a step of an iterator of fp -/
theorem St.stepFp {P : Params} {R R' : Addr → Prop} {env : Env} {K K' : KMap} {s s' : Shared} {fp : List Addr} {gp : List Nat} (x : St P h₀ R W σ env K s) (st : StepG gp (fun a => Alive s a ∧ a ∉ fp) s K s' K') (hfR : ∀ a ∈ fp, R a) (hc : ∀ n c, env.cells.lookup n = some c → c ∉ fp)
    (hl : ∀ a ∈ fp, R' a → Alive s' a) (hR : ∀ a, R' a → R a ∨ (s.heap.get? a = none ∧ Alive s' a)) : St P h₀ R' W σ env K' s' := by
  obtain ⟨m, oa, x⟩ := x
  have kp : ∀ b, b ∉ fp → ∀ o, s.heap.get? b = some o → s'.heap.get? b = some o := fun b hb o e => st.heap b ⟨alive_of e, hb⟩ o e
  have hL : env.locals ∉ fp := fun h => x.nR (hfR _ h)
  have aL : Alive s env.locals := by obtain ⟨_, _, _, e, _⟩ := x.ns; exact alive_of e
  have not2 : ∀ a, Alive s a → R' a → R a := fun a ha r => (hR a r).elim id fun h => by rw [Alive, h.1] at ha; cases ha
  have aC : ∀ n c, env.cells.lookup n = some c → Alive s c := fun n c e => by obtain ⟨⟨_, _, e', _⟩, _⟩ := x.cell n c e; exact alive_of e'
  refine ⟨m, oa, ⟨fun a o e => st.mono a o (x.base a o e), st.sub, fun a r => ?_, ?_, fun r => x.nR (not2 _ aL r), ?_, ?_, fun n c hw e r => x.cellR n c hw e (not2 _ (aC n c e) r), x.cellInj, ?_, fun n p e a ha => ⟨fun r => (x.ownR n p e a ha).1 (not2 _ ?_ r), (x.ownR n p e a ha).2⟩, x.disj⟩⟩
  · by_cases ha : a ∈ fp
    · exact hl a ha r
    · rcases hR a r with h | h
      · exact st.alive ⟨x.live a h, ha⟩ (x.live a h)
      · exact h.2
  · exact x.ns.at' fun o e => kp _ hL o e
  · obtain ⟨_, _, _, e, _⟩ := x.ns
    exact (st.old _ ⟨alive_of e, hL⟩).trans x.nK
  · intro n c e
    obtain ⟨⟨v, o, ho, hd⟩, hn, ne⟩ := x.cell n c e
    exact ⟨⟨v, o, kp c (hc n c e) o ho, hd⟩, (st.old c ⟨alive_of ho, hc n c e⟩).trans hn, ne⟩
  · intro n sl e
    obtain ⟨v, ha, hs⟩ := x.val n sl e
    refine ⟨v, ?_, ?_⟩
    · rcases ha with q | ⟨q, c, e', o, ho, hd⟩
      · exact .inl q
      · exact .inr ⟨q, c, e', o, kp c (hc n c e') o ho, hd⟩
    · cases sl with
      | val p => exact Rep.mono st.mono hs
      | own p =>
        have off : ∀ a ∈ oa n, a ∉ fp := fun a ha h => (x.ownR n p e a ha).1 (hfR a h)
        exact Own.keeps hs st.mono (fun a ha => st.old a ⟨hs.alive a ha, off a ha⟩) fun a ha o e => kp a (off a ha) o e
  · obtain ⟨v, _, hs⟩ := x.val n _ e
    exact hs.alive a ha

theorem St.cellsOff {P : Params} {R : Addr → Prop} {env : Env} {K : KMap} {s : Shared} (x : St P h₀ R WAll σ env K s) : ∀ n c, env.cells.lookup n = some c → ¬ R c := by
  obtain ⟨m, oa, y⟩ := x
  exact fun n c e => y.cellR n c rfl e

theorem IterGo.from {tg : Expr → Prop} {its : List PV} {A : Around} {x : Value} {K K₁ : KMap} {s s₁ : Shared} (h : IterGo prog w h₀ d tg its A x K₁ s₁) (st : StepE s K s₁ K₁) :
    wpAny (model prog w) A (pyIter x) (fun it s₂ => ∃ K₂ T fp gp, StepE s K s₂ K₂ ∧ T 0 fp K₂ s₂ ∧ (∀ a ∈ fp, s.heap.get? a = none) ∧ (∀ g ∈ gp, s.gens.size ≤ g) ∧ Walk prog w h₀ A it tg its T gp) NoE s₁ := by
  refine wpAny_mono h (fun it s₂ h₂ => ?_) fun _ _ x => x
  obtain ⟨K₂, T, fp, gp, st₂, hT0, hfr, hgr, wk⟩ := h₂
  refine ⟨K₂, T, fp, gp, st.trans st₂, hT0, fun a ha => ?_, fun g hg => Nat.le_trans st.gens.2.1 (hgr g hg), wk⟩
  cases e' : s.heap.get? a with
  | none => rfl
  | some o => have := st.get e'; rw [hfr a ha] at this; cases this

/- a for -/
theorem st_for {t e : Expr} {body : List Stmt} {pos : Pos} {tg : Expr → Prop} {its : List PV} {o : Out} (hi : IterOK prog w h₀ d sc σ e tg its) (ht : tg t) (hT : Turns prog w h₀ d sc t body σ its o) (hf : ∀ env x, foldedSetIterable e env x = pure x := by intro _ _; rfl) :
    ExSt prog w h₀ d sc σ (.For t e body [] pos) o := fun A env K s R hA hE hS => by
  refine wpAny_For (wpAny_mono (hi A env K s R _ hA hE hS) (fun x s₁ h₁ => ?_) fun _ _ x => x) (hf env)
  refine wpAny_mono h₁ (fun it s₂ h₂ => ?_) fun _ _ x => x
  obtain ⟨K₂, T, fp₀, gp, st, hT0, hfr', hgp, wk⟩ := h₂
  have hS₂ := hS.more st hfr' (wk.live _ _ _ _ hT0)
  have hRf₀ : ∀ a, R a → a ∉ fp₀ := fun a r h => by have := hS.live a r; rw [Alive, hfr' a h] at this; cases this
  refine codeAny_forLoop_any (fun n s' => ∃ i σ' K' fp, T i fp K' s' ∧ (∀ a, R a → a ∉ fp) ∧ St w.params h₀ (fun a => R a ∨ a ∈ fp) WAll σ' env K' s' ∧ Turns prog w h₀ d sc t body σ' (its.drop i) o ∧ i ≤ its.length ∧ n = its.length + 1 - i ∧ Step R s K s' K') ?_ (its.length + 1)
    ⟨0, σ, K₂, fp₀, hT0, hRf₀, hS₂, by simpa using hT, Nat.zero_le _, rfl, st.from hS⟩
  rintro n s' ⟨i, σ', K', fp, hTi, hRf, hS', hTu, hle, rfl, hst⟩
  have hoff : ∀ n c, env.cells.lookup n = some c → c ∉ fp := fun n c e h => hS'.cellsOff n c e (.inr h)
  have stR : ∀ {s'' K''}, StepG gp (fun a => Alive s' a ∧ a ∉ fp) s' K' s'' K'' → StepG gp R s' K' s'' K'' := fun x => x.weaken fun a r => ⟨hS'.live a (.inl r), hRf a r⟩
  by_cases hlt : i < its.length
  · have hit : its[i]? = some its[i] := List.getElem?_eq_getElem hlt
    have hdr : its.drop i = its[i] :: its.drop (i + 1) := List.drop_eq_getElem_cons hlt
    rw [hdr] at hTu
    refine wpAny_mono (wk.item i its[i] fp K' s' t hit hTi hS'.ok ht) (fun r s₃ h₃ => ?_) fun _ _ x => x.elim
    obtain ⟨v, rfl, h₃⟩ := h₃
    refine wpAny_mono h₃ (fun _ s₄ h₄ => ?_) fun _ _ x => x.elim
    obtain ⟨K₄, fp', st₄, rv, hT₄, hsub, hnew⟩ := h₄
    have al' := wk.live _ _ _ _ hT₄
    have hRf' : ∀ a, R a → a ∉ fp' := fun a r h => (hnew a h).elim (hRf a r) fun hn => by have := hS'.live a (.inl r); rw [Alive, hn] at this; cases this
    have hS₄ := hS'.stepFp (R' := fun a => R a ∨ a ∈ fp') st₄ (fun a h => .inr h) hoff (fun a h _ => al' a (hsub a h)) (fun a r => r.elim (fun r => .inl (.inl r)) fun h => (hnew a h).elim (fun h => .inl (.inr h)) fun hn => .inr ⟨hn, al' a h⟩)
    have fin : ∀ {σ₁ : Sig} {o' : Out} (P : Flow → Shared → Prop), AsgOK prog w h₀ d sc WAll σ' t its[i] σ₁ → ExOK prog w h₀ d sc σ₁ body o' →
        (∀ f s₆ K₆, T (i + 1) fp' K₆ s₆ → FlowOk w h₀ (fun a => R a ∨ a ∈ fp') WAll env K₆ s₆ f o' → Step R s K s₆ K₆ → P f s₆) →
        wpAny (model prog w) A (assign t env v) (fun _ s₅ => wpAny (model prog w) A (execs body env) P (notedBy (model prog w) A env fun e s' => (match (Except.error e : Result) with | .ok f => (fun f s' => ∃ K', Step R s K s' K' ∧ FlowOk w h₀ R WAll env K' s' f o) f s' | .error e => cameBackBy (model prog w) A env NoE e s')) s₅)
          (notedBy (model prog w) A env fun e s' => (match (Except.error e : Result) with | .ok f => (fun f s' => ∃ K', Step R s K s' K' ∧ FlowOk w h₀ R WAll env K' s' f o) f s' | .error e => cameBackBy (model prog w) A env NoE e s')) s₄ := by
      intro σ₁ o' P ha hb hP
      refine wpAny_mono (ha A env K₄ s₄ _ v hA hE hS₄ rv) (fun _ s₅ h₅ => ?_) fun _ _ x => x.elim
      obtain ⟨K₅, st₅, hS₅⟩ := h₅
      have hT₅ := wk.frame _ _ _ _ K₅ s₅ hT₄ hS₄.ok hS₅.ok (fun a ha o e => st₅.heap a (.inr ha) o e) (fun a ha => st₅.old a (.inr ha)) st₅.mono fun g hg => st₅.gens.2.2 g (wk.liveG _ _ _ _ hT₄ g hg) (fun h => nomatch h)
      refine wpAny_mono (hb A env K₅ s₅ _ hA hE hS₅) (fun f s₆ h₆ => ?_) fun _ _ x => x.elim
      obtain ⟨K₆, st₆, hf₆⟩ := h₆
      have hT₆ := wk.frame _ _ _ _ K₆ s₆ hT₅ hS₅.ok ⟨fun a o e => st₆.mono a o (hS₅.baseK a o e), st₆.sub⟩ (fun a ha o e => st₆.heap a (.inr ha) o e) (fun a ha => st₆.old a (.inr ha)) st₆.mono fun g hg => st₆.gens.2.2 g (wk.liveG _ _ _ _ hT₅ g hg) (fun h => nomatch h)
      exact hP f s₆ K₆ hT₆ hf₆ ((hst.then (stR st₄) hgp).trans ((st₅.trans st₆).weaken fun a r => .inl r))
    cases hTu with
    | next ha hb hr =>
      refine fin _ ha hb fun f s₆ K₆ hT₆ hf hst₆ => ?_
      cases f with
      | next => exact ⟨its.length + 1 - (i + 1), by omega, i + 1, _, K₆, fp', hT₆, hRf', hf, hr, hlt, rfl, hst₆⟩
      | brk => exact hf.elim
      | cont => exact hf.elim
      | ret v => exact hf.elim
    | cont ha hb hr =>
      refine fin _ ha hb fun f s₆ K₆ hT₆ hf hst₆ => ?_
      cases f with
      | cont => exact ⟨its.length + 1 - (i + 1), by omega, i + 1, _, K₆, fp', hT₆, hRf', hf, hr, hlt, rfl, hst₆⟩
      | brk => exact hf.elim
      | next => exact hf.elim
      | ret v => exact hf.elim
    | brk ha hb =>
      refine fin _ ha hb fun f s₆ K₆ hT₆ hf hst₆ => ?_
      cases f with
      | brk => exact ⟨K₆, hst₆, St.weaken hf fun a r => .inl r⟩
      | cont => exact hf.elim
      | next => exact hf.elim
      | ret v => exact hf.elim
    | ret ha hb =>
      refine fin _ ha hb fun f s₆ K₆ hT₆ hf hst₆ => ?_
      cases f with
      | ret v => exact ⟨K₆, hst₆, hf⟩
      | cont => exact hf.elim
      | next => exact hf.elim
      | brk => exact hf.elim
  · have hin : i = its.length := by omega
    subst hin
    rw [List.drop_length] at hTu
    cases hTu
    refine wpAny_mono (wk.done fp K' s' hTi hS'.ok) (fun r s₃ h₃ => ?_) fun _ _ x => x.elim
    obtain ⟨rfl, K₃, st₃⟩ := h₃
    refine wpAny_execs_nil ⟨K₃, hst.then (stR st₃) hgp, ?_⟩
    exact hS'.stepFp st₃ (fun a h => Or.inr h) hoff (fun a h r => absurd h (hRf a r)) fun a r => .inl (Or.inl r)
end

end Mine.Internal

end PartB5
section PartB6
open PySem PySem.W PyProof.Rows
set_option Elab.async false
set_option maxRecDepth 100000
set_option linter.unusedVariables false
namespace Mine.Internal

structure Glb (h₀ : Heap) (mg mb : Str → Option Value) : Prop where
  g : h₀.Ns mainGlobals mg
  b : h₀.Ns builtinsNs mb
  lim : h₀.NoLimit
noncomputable def Callee (mg mb : Str → Option Value) (x : Str) (f : Value) : Prop := mg x = some f ∨ (mg x = none ∧ mb x = some f)
noncomputable def KindOk (h₀ : Heap) (f : Value) : Prop := (∃ T, f = .type T) ∨ (∃ id, f = .builtin id) ∨ ∃ a o fd, f = .ref a ∧ h₀.get? a = some o ∧ o.data = .func fd

section
variable (prog : Program) (w : World) (h₀ : Heap)
noncomputable def CallOK (d : Nat) (f : Value) (ps : List PV) (r : PV) : Prop :=
  ∀ A K s vs, AOk d A → Ok h₀ K s → RepL w.params K vs ps → Gives prog w A (call f vs) K s r
noncomputable def CallNew (d : Nat) (f : Value) (ps : List PV) (r : PV) : Prop :=
  ∀ A K s vs, AOk d A → Ok h₀ K s → RepL w.params K vs ps →
    wpAny (model prog w) A (call f vs) (fun v s' => ∃ K' l, StepE s K s' K' ∧ Own w.params K' s'.heap v r l ∧ ∀ a ∈ l, s.heap.get? a = none) NoE s
end

section
variable {prog : Program} {w : World} {h₀ : Heap} {d : Nat} {sc : Scope} {σ : Sig} {W : Str → Bool} {mg mb : Str → Option Value}

theorem callee_name {A : Around} {R : Addr → Prop} {env : Env} {K : KMap} {s : Shared} {x : Str} {pos : Pos} {f : Value} {E : Value → Shared → Prop} {Q : Value → Shared → Prop} (G : Glb h₀ mg mb) (hE : EnvOk sc env) (hS : St w.params h₀ R W σ env K s)
    (hc : Callee mg mb x f) (hx : sc.names.lookup x = some .globalImplicit) (hd : (x == ("__debug__" : Str)) = false) (h : Q f s) : wpAny (model prog w) A (eval (.Name x pos) env) Q E s := by
  have hk : env.scope.kind = .function := by rw [hE.scope]; exact hE.kind
  have hx' : env.kindOf x = some .globalImplicit := by unfold Env.kindOf; rw [hE.scope]; exact hx
  refine Calls.Name_function_global hk hx' ?_ hd
  have hg : s.heap.Ns env.globals mg := by rw [hE.glob]; exact G.g.keeps hS.base
  have hb : s.heap.Ns env.builtins mb := by rw [hE.bltn]; exact G.b.keeps hS.base
  rcases hc with hc | ⟨hm, hc⟩
  · exact Calls.loadGlobal_global hg hc h
  · exact Calls.loadGlobal_builtin hg hm hb hc h


/- arguments, then the call -/
theorem evalArgs_evs {A : Around} {R : Addr → Prop} {env : Env} {K : KMap} {s : Shared} {f : Value} {es : List Expr} {ps : List PV} {pos : Pos} {Q : Args → Shared → Prop} (hA : AOk d A) (hE : EnvOk sc env) (hS : St w.params h₀ R W σ env K s)
    (he : EvsOK prog w h₀ d sc σ es ps) (hp : ∃ t r, starEach es env = (false, t) :: r) (hQ : ∀ vs s' K', StepE s K s' K' → RepL w.params K' vs ps → Q ⟨vs, []⟩ s') :
    wpAny (model prog w) A (evalArgs f true (backTo pos (starEach es env)) []) Q NoE s := by
  have h := he A env K s R W pos hA hE hS
  obtain ⟨t, r, hp⟩ := hp
  rw [hp] at h ⊢
  exact Calls.evalArgs_plain (wpAny_mono h (fun vs s' ⟨K', st, r⟩ => hQ vs s' K' st r) fun _ _ x => x)

theorem callWith_kind {A : Around} {f : Value} {env : Env} {es : List Expr} {pos : Pos} {first : List Value} {s : Shared} {Q : Value → Shared → Prop} (hf : KindOk h₀ f) (hp : (starEach es env).all (fun x => !x.1) = true)
    (h : wpAny (model prog w) A (evalArgs f true (backTo pos (starEach es env)) []) (fun a s₁ => (∀ b o, h₀.get? b = some o → s₁.heap.get? b = some o) ∧ wpAny (model prog w) A (call f (first ++ a.pos) a.kw) Q NoE s₁) NoE s) :
    wpAny (model prog w) A (callWith pos f first (backTo pos (starEach es env)) []) Q NoE s := by
  have hplain : (backTo pos (starEach es env)).any (·.1) = false := by
    unfold backTo
    rw [List.any_map]
    revert hp
    generalize starEach es env = l
    intro hp
    induction l with
    | nil => rfl
    | cons x r ih =>
      rw [List.all_cons, Bool.and_eq_true] at hp
      obtain ⟨b, t⟩ := x
      cases b with
      | true => cases hp.1
      | false => rw [List.any_cons, ih hp.2]; rfl
  rcases hf with ⟨T, rfl⟩ | ⟨id, rfl⟩ | ⟨a, o, fd, rfl, ho, hd⟩
  · exact PyProof.Rows.callWith_type hplain (wpAny_mono h (fun _ _ x => x.2) fun _ _ x => x)
  · exact Calls.callWith_builtin hplain (wpAny_mono h (fun _ _ x => x.2) fun _ _ x => x)
  · exact Calls.callWith_function (wpAny_mono h (fun _ _ x => ⟨⟨x.1 _ _ ho, hd⟩, x.2⟩) fun _ _ x => x)

/- f(e, ..) -/
theorem call_by {A : Around} {R : Addr → Prop} {env : Env} {K : KMap} {s : Shared} {x : Str} {xpos pos : Pos} {f : Value} {es : List Expr} {ps : List PV} {Q : Value → Shared → Prop} (G : Glb h₀ mg mb) (hA : AOk d A) (hE : EnvOk sc env) (hS : St w.params h₀ R W σ env K s)
    (hc : Callee mg mb x f) (hf : KindOk h₀ f) (he : EvsOK prog w h₀ d sc σ es ps)
    (hx : sc.names.lookup x = some .globalImplicit) (hd : (x == ("__debug__" : Str)) = false) (hp : (starEach es env).all (fun x => !x.1) = true) (hn : ∃ t r, starEach es env = (false, t) :: r)
    (h : ∀ vs s' K', StepE s K s' K' → RepL w.params K' vs ps → wpAny (model prog w) A (call f vs) Q NoE s') : wpAny (model prog w) A (eval (.Call (.Name x xpos) es [] pos) env) Q NoE s := by
  refine wpAny_Call_NameR (callee_name G hE hS hc hx hd ?_)
  refine callWith_kind (first := []) hf hp (evalArgs_evs hA hE hS he hn fun vs s' K' st r => ⟨(hS.step st).base, ?_⟩)
  exact h vs s' K' st r
theorem ev_call {x : Str} {xpos pos : Pos} {f : Value} {es : List Expr} {ps : List PV} {r : PV} (G : Glb h₀ mg mb) (hc : Callee mg mb x f) (hf : KindOk h₀ f) (he : EvsOK prog w h₀ d sc σ es ps) (h : CallOK prog w h₀ d f ps r)
    (hx : sc.names.lookup x = some .globalImplicit := by rfl) (hd : (x == ("__debug__" : Str)) = false := by rfl) (hp : ∀ env, (starEach es env).all (fun x => !x.1) = true := by intro _; rfl) (hn : ∀ env, ∃ t r, starEach es env = (false, t) :: r := by intro _; exact ⟨_, _, rfl⟩) :
    EvOK prog w h₀ d sc σ (.Call (.Name x xpos) es [] pos) r := fun A env K s R W hA hE hS => by
  refine call_by G hA hE hS hc hf he hx hd (hp env) (hn env) fun vs s' K' st rs => ?_
  exact (h A K' s' vs hA (hS.step st).ok rs).mono fun v s₂ K₂ st₂ rv => ⟨K₂, st.trans st₂, rv⟩
theorem ev_call_new {x : Str} {xpos pos : Pos} {f : Value} {es : List Expr} {ps : List PV} {r : PV} (G : Glb h₀ mg mb) (hc : Callee mg mb x f) (hf : KindOk h₀ f) (he : EvsOK prog w h₀ d sc σ es ps) (h : CallNew prog w h₀ d f ps r)
    (hx : sc.names.lookup x = some .globalImplicit := by rfl) (hd : (x == ("__debug__" : Str)) = false := by rfl) (hp : ∀ env, (starEach es env).all (fun x => !x.1) = true := by intro _; rfl) (hn : ∀ env, ∃ t r, starEach es env = (false, t) :: r := by intro _; exact ⟨_, _, rfl⟩) :
    EvNew prog w h₀ d sc σ (.Call (.Name x xpos) es [] pos) r := fun A env K s R W hA hE hS => by
  refine call_by G hA hE hS hc hf he hx hd (hp env) (hn env) fun vs s' K' st rs => ?_
  refine wpAny_mono (h A K' s' vs hA (hS.step st).ok rs) (fun v s₂ h₂ => ?_) fun _ _ x => x
  obtain ⟨K₂, l, st₂, ow, fr⟩ := h₂
  refine ⟨K₂, l, st.trans st₂, ow, fun a ha => ?_⟩
  cases e : s.heap.get? a with
  | none => rfl
  | some o => have := st.get e; rw [fr a ha] at this; cases this

/- iterators -/
noncomputable def special : String → Bool := fun n => ["enumerate", "zip", "dict_itemiterator", "dict_reverseitemiterator", "odict_iterator", "itertools.zip_longest", "itertools.pairwise"].contains n
noncomputable def AnyT (t : Expr) : Prop := (∃ x p, t = .Name x p) ∨ ∃ es k p, t = .Tuple es k p
noncomputable def TupT (t : Expr) : Prop := ∃ es k p, t = .Tuple es k p

theorem letGo_plain {A : Around} {t : Expr} {I : Addr} {v : Value} {s : Shared} {o : Obj} {n : String} {E : Value → Shared → Prop} {Q : Unit → Shared → Prop} (ht : AnyT t) (ho : s.heap.get? I = some o) (hc : o.cls = .type n) (hs : special n = false) (hQ : Q () s) :
    wpAny (model prog w) A (letOwnedTupleGo t (.ref I) v) Q E s := by
  rcases ht with ⟨x, p, rfl⟩ | ⟨es, k, p, rfl⟩
  · exact wpAny_pure hQ
  · cases v with
    | ref a =>
      unfold letOwnedTupleGo
      refine wpAny_bind (wpAny_load ho ?_)
      rw [hc]
      cases hd : o.data with
      | fields vs =>
        show wpAny _ _ (if (special n && vs[0]? == some (rawInt a)) = true then _ else _) _ _ _
        rw [hs, Bool.false_and, if_neg Bool.false_ne_true]
        exact wpAny_pure hQ
      | _ => exact wpAny_pure hQ
    | _ => exact wpAny_pure hQ

/- the library's walk over a written iterator as mine -/
theorem Walk.of {I : Addr} {ax : List Addr} {its : List PV} {n : Nat} {P : Nat → Value → Prop} {St : Nat → Heap → Prop} {A : Around} (K₀ : KMap) (WK : Walks prog w A I (I :: ax) [I] n P St) (hn : its.length = n)
    (hcls : ∀ i h, St i h → ∃ o n, h.get? I = some o ∧ o.cls = .type n ∧ special n = false) (hax : ∀ a ∈ ax, ∃ o, K₀ a = some o) (hP : ∀ i v p, P i v → its[i]? = some p → Rep w.params K₀ v p) :
    Walk prog w h₀ A (.ref I) AnyT its (fun i fp K s => fp = [I] ∧ St i s.heap ∧ K I = none ∧ ∀ a o, K₀ a = some o → K a = some o) [] where
  frame := fun i fp K s K' s' ⟨hfp, hst, hI, hm⟩ hO hO' hh hk hmono _ => by
    subst hfp
    refine ⟨rfl, WK.frame i _ _ hst fun b hb o e => ?_, (hk I (.head _)).trans hI, fun a o e => hmono a o (hm a o e)⟩
    rcases List.mem_cons.mp hb with rfl | hb
    · exact hh b (.head _) o e
    · obtain ⟨o', e'⟩ := hax b hb
      have e1 := hO.sub b o' (hm b o' e')
      rw [e] at e1; cases e1
      exact hO'.sub b o (hmono b o (hm b o e'))
  live := fun i fp K s ⟨hfp, hst, _⟩ a ha => by
    subst hfp
    obtain ⟨o, _, e, _⟩ := hcls i _ hst
    rw [List.mem_singleton.mp ha]; exact alive_of e
  liveG := fun i fp K s _ g hg => nomatch hg
  item := fun i p fp K s t hi ⟨hfp, hst, hI, hm⟩ hO ht => by
    subst hfp
    have hlt : i < n := by rw [← hn]; exact (List.getElem?_eq_some_iff.mp hi).1
    refine WK.item i s _ _ hlt hst fun v h' tk hPv hst' hk => ⟨v, rfl, ?_⟩
    obtain ⟨o, nm, e, hc, hsp⟩ := hcls _ _ hst'
    refine letGo_plain ht e hc hsp ⟨K, [I], ⟨fun a r o e => hk a o r.2 e, fun a o e => hk a o (fun h => ?_) (hO.sub a o e), fun _ _ e => e, fun _ _ => rfl, ⟨id, Nat.le_refl _, fun _ _ _ => rfl⟩, rfl⟩, (hP i v p hPv hi).mono hm, ⟨rfl, hst', hI, hm⟩, fun _ h => h, fun _ h => .inl h⟩
    rw [List.mem_singleton.mp h, hI] at e; cases e
  done := fun fp K s ⟨hfp, hst, hI, hm⟩ hO => by
    subst hfp
    rw [hn] at hst
    refine WK.done s _ _ hst fun h' tk hk => ⟨rfl, K, ⟨fun a r o e => hk a o r.2 e, fun a o e => hk a o (fun h => ?_) (hO.sub a o e), fun _ _ e => e, fun _ _ => rfl, ⟨id, Nat.le_refl _, fun _ _ _ => rfl⟩, rfl⟩⟩
    rw [List.mem_singleton.mp h, hI] at e; cases e
  self := fun i fp K s Q ⟨_, hst, _⟩ _ hQ => WK.self i s _ _ hst hQ
end
end Mine.Internal

end PartB6
section PartB7
open PySem PySem.W PyProof.Rows
set_option Elab.async false
set_option maxRecDepth 100000
set_option linter.unusedVariables false
namespace Mine.Internal

/- the signs of a text, one by one -/
noncomputable def signs (x : Str) : List PV := x.cps.toList.map fun c => .str ⟨#[c]⟩
/- a, a + 1, .. (n of them) -/
noncomputable def rng (a : Int) (n : Nat) : List PV := (List.range n).map fun (i : Nat) => PV.int (a + i)

section
variable {prog : Program} {w : World} {h₀ : Heap} {d : Nat} {sc : Scope} {σ : Sig} {W : Str → Bool} {mg mb : Str → Option Value}

theorem knone {K : KMap} {s : Shared} (h : ∀ a o, K a = some o → s.heap.get? a = some o) {a : Addr} (e : s.heap.get? a = none) : K a = none := by
  cases hk : K a with
  | none => rfl
  | some o => have := h a o hk; rw [e] at this; cases this

theorem go_list {A : Around} {K : KMap} {s : Shared} {v : Value} {its : List PV} (hA : AOk d A) (hO : Ok h₀ K s) (rv : Rep w.params K v (.lst its)) : IterGo prog w h₀ d AnyT its A v K s := by
  cases rv with
  | @lst a o vs _ e q r =>
  have hl : s.heap.IsList a vs.toArray := ⟨_, hO.sub _ _ e, q⟩
  have hne : a ≠ s.heap.objs.size := Nat.ne_of_lt (Heap.lt_size (hO.sub _ _ e))
  refine wpAny_pyIter_list hl ?_
  refine ⟨K, _, [s.heap.objs.size], [], StepE.same (tk := s.toks) hO.sub fun _ _ e => Heap.get?_push_of_some _ e, ?_, ?_, (fun g hg => nomatch hg), Walk.of K (Walks.list hA.1 s.heap.objs.size a hne vs.toArray) (by rw [List.size_toArray, r.length]) ?_ ?_ ?_⟩
  · exact ⟨rfl, ⟨⟨_, Heap.get?_push_size _ rfl, rfl, rfl⟩, hl.push _⟩, knone hO.sub (size_none _), fun _ _ e => e⟩
  · intro b hb; rw [List.mem_singleton.mp hb]; exact size_none _
  · rintro i h ⟨⟨o, e, hc, _⟩, _⟩
    exact ⟨o, _, e, hc, by decide⟩
  · intro b hb; rw [List.mem_singleton.mp hb]; exact ⟨_, e⟩
  · intro i v p hv hp
    obtain ⟨u, hu, ru⟩ := r.get hp
    rw [List.getElem?_toArray, hu] at hv
    cases hv; exact ru
theorem go_tup {A : Around} {K : KMap} {s : Shared} {v : Value} {its : List PV} (hA : AOk d A) (hO : Ok h₀ K s) (rv : Rep w.params K v (.tup its)) : IterGo prog w h₀ d AnyT its A v K s := by
  cases rv with
  | @tup a vs n _ e r =>
  have hl : s.heap.IsTuple a vs.toArray := ⟨_, hO.sub _ _ e, rfl, n, rfl⟩
  have hne : a ≠ s.heap.objs.size := Nat.ne_of_lt (Heap.lt_size (hO.sub _ _ e))
  refine wpAny_pyIter_tuple hl ?_
  refine ⟨K, _, [s.heap.objs.size], [], StepE.same (tk := s.toks) hO.sub fun _ _ e => Heap.get?_push_of_some _ e, ?_, ?_, (fun g hg => nomatch hg), Walk.of K (Walks.tuple hA.1 s.heap.objs.size a hne vs.toArray) (by rw [List.size_toArray, r.length]) ?_ ?_ ?_⟩
  · exact ⟨rfl, ⟨⟨_, Heap.get?_push_size _ rfl, rfl, rfl⟩, hl.push _⟩, knone hO.sub (size_none _), fun _ _ e => e⟩
  · intro b hb; rw [List.mem_singleton.mp hb]; exact size_none _
  · rintro i h ⟨⟨o, e, hc, _⟩, _⟩
    exact ⟨o, _, e, hc, by decide⟩
  · intro b hb; rw [List.mem_singleton.mp hb]; exact ⟨_, e⟩
  · intro i v p hv hp
    obtain ⟨u, hu, ru⟩ := r.get hp
    rw [List.getElem?_toArray, hu] at hv
    cases hv; exact ru
theorem go_str {A : Around} {K : KMap} {s : Shared} {v : Value} {x : Str} (hA : AOk d A) (hO : Ok h₀ K s) (rv : Rep w.params K v (.str x)) : IterGo prog w h₀ d AnyT (signs x) A v K s := by
  cases rv with
  | str _ t =>
  have key : ∀ (ty : String) (A' : Around) (WK : Walks prog w A' s.heap.objs.size [s.heap.objs.size] [s.heap.objs.size] x.cps.size (SignAt x) (fun i h => h.IsStrIter s.heap.objs.size ty x t i)), special ty = false →
      Walk prog w h₀ A' (.ref s.heap.objs.size) AnyT (signs x) (fun i fp K' s' => fp = [s.heap.objs.size] ∧ s'.heap.IsStrIter s.heap.objs.size ty x t i ∧ K' s.heap.objs.size = none ∧ ∀ a o, K a = some o → K' a = some o) [] := by
    intro ty A' WK hty
    refine Walk.of (ax := []) K WK (by simp [signs]) ?_ (fun a ha => nomatch ha) ?_
    · rintro i h ⟨o, e, hc, _⟩
      exact ⟨o, _, e, hc, hty⟩
    · rintro i v p ⟨c, u, hc, rfl⟩ hp
      have : p = .str ⟨#[c]⟩ := by simpa [signs, hc] using hp.symm
      subst this; exact .str _ _
  cases ha : x.cps.all (· < 128)
  · refine wpAny_pyIter_wide ha ?_
    refine ⟨K, _, [s.heap.objs.size], [], StepE.same (tk := s.toks) hO.sub fun _ _ e => Heap.get?_push_of_some _ e, ?_, ?_, (fun g hg => nomatch hg), key "str_iterator" A (Walks.strWide hA.1 _ x t) (by decide)⟩
    · exact ⟨rfl, ⟨_, Heap.get?_push_size _ rfl, rfl, rfl⟩, knone hO.sub (size_none _), fun _ _ e => e⟩
    · intro b hb; rw [List.mem_singleton.mp hb]; exact size_none _
  · refine wpAny_pyIter_ascii ha ?_
    refine ⟨K, _, [s.heap.objs.size], [], StepE.same (tk := s.toks) hO.sub fun _ _ e => Heap.get?_push_of_some _ e, ?_, ?_, (fun g hg => nomatch hg), key "str_ascii_iterator" A (Walks.strAscii hA.1 _ x t) (by decide)⟩
    · exact ⟨rfl, ⟨_, Heap.get?_push_size _ rfl, rfl, rfl⟩, knone hO.sub (size_none _), fun _ _ e => e⟩
    · intro b hb; rw [List.mem_singleton.mp hb]; exact size_none _

theorem it_list {e : Expr} {its : List PV} (h : EvOK prog w h₀ d sc σ e (.lst its)) : IterOK prog w h₀ d sc σ e AnyT its := fun A env K s R W hA hE hS =>
  (h A env K s R W hA hE hS).mono fun v s₁ K₁ st rv => (go_list hA (hS.step st).ok rv).from st
theorem it_tup {e : Expr} {its : List PV} (h : EvOK prog w h₀ d sc σ e (.tup its)) : IterOK prog w h₀ d sc σ e AnyT its := fun A env K s R W hA hE hS =>
  (h A env K s R W hA hE hS).mono fun v s₁ K₁ st rv => (go_tup hA (hS.step st).ok rv).from st
theorem it_str {e : Expr} {x : Str} (h : EvOK prog w h₀ d sc σ e (.str x)) : IterOK prog w h₀ d sc σ e AnyT (signs x) := fun A env K s R W hA hE hS =>
  (h A env K s R W hA hE hS).mono fun v s₁ K₁ st rv => (go_str hA (hS.step st).ok rv).from st

theorem go_range {A : Around} {K : KMap} {s : Shared} {r : Addr} {a b : Int} {t u v : Tok} (hA : AOk d A) (hO : Ok h₀ K s) (hr : IsRange s.heap r a b 1 t u v) (ha : -(2 ^ 62) ≤ a) (ha' : a < 2 ^ 62) (hb : -(2 ^ 62) ≤ b) (hb' : b < 2 ^ 62) :
    IterGo prog w h₀ d AnyT (rng a (b - a).toNat) A (.ref r) K s := by
  refine wpAny_pyIter_range hr (small_one ha ha' hb hb') ?_
  have hsz : Builtin.Range.rangeSize a b 1 = ((b - a).toNat : Int) := by rw [rangeSize_one]; split <;> omega
  rw [hsz]
  refine ⟨K, _, [s.heap.objs.size], [], StepE.same (tk := s.toks) hO.sub fun _ _ e => Heap.get?_push_of_some _ e, ?_, ?_, (fun g hg => nomatch hg), Walk.of (ax := []) K (Walks.range hA.1 s.heap.objs.size a 1 (b - a).toNat) (by simp [rng]) ?_ (fun a ha => nomatch ha) ?_⟩
  · refine ⟨rfl, ?_, knone hO.sub (size_none _), fun _ _ e => e⟩
    have : IsRangeIter (s.heap.push { cls := .type "range_iterator", data := .fields #[rawInt a, rawInt ((b - a).toNat : Int), rawInt 1] }) s.heap.objs.size a ((b - a).toNat : Int) 1 := Heap.get?_push_size _ rfl
    simpa using this
  · intro b hb; rw [List.mem_singleton.mp hb]; exact size_none _
  · intro i h e
    exact ⟨_, _, e, rfl, by decide⟩
  · rintro i v p ⟨t, rfl⟩ hp
    have : p = .int (a + i) := by
      simp only [rng, List.getElem?_map, Option.map_eq_some_iff] at hp
      obtain ⟨j, hj, rfl⟩ := hp
      have := List.getElem?_eq_some_iff.mp hj
      obtain ⟨_, h⟩ := this
      simp at h; rw [h]
    subst this
    rw [Int.mul_one]; exact .int _ _

theorem it_range {e : Expr} {xpos pos : Pos} {n : Int} (G : Glb h₀ mg mb) (hc : Callee mg mb ("range" : Str) (.type "range")) (h : EvOK prog w h₀ d sc σ e (.int n)) (hlo : -(2 ^ 62) ≤ n := by omega) (hhi : n < 2 ^ 62 := by omega)
    (hx : sc.names.lookup ("range" : Str) = some .globalImplicit := by rfl) (hp : ∀ env, (starEach [e] env).all (fun x => !x.1) = true := by intro _; rfl) (hn : ∀ env, ∃ t r, starEach [e] env = (false, t) :: r := by intro _; exact ⟨_, _, rfl⟩)
    (hs : ∀ env, starEach [e] env = (false, eval e env) :: starEach [] env := by intro _; rfl) :
    IterOK prog w h₀ d sc σ (.Call (.Name ("range" : Str) xpos) [e] [] pos) AnyT (rng 0 n.toNat) := fun A env K s R W hA hE hS => by
  refine call_by G hA hE hS hc (.inl ⟨_, rfl⟩) (evs_cons h evs_nil hs) hx (by decide) (hp env) (hn env) fun vs s' K' st rs => ?_
  cases rs with
  | cons r rs =>
  cases rs
  cases r with
  | int _ tn =>
  refine call_range_1 ?_
  have y := StepE.same (tk := s'.toks + 1 + 1) (h' := s'.heap.push { cls := .type "range", data := .fields #[.int 0 s'.toks, .int n tn, .int 1 (s'.toks + 1)] }) st.sub fun _ _ e => Heap.get?_push_of_some _ e
  refine IterGo.from (d := d) ?_ (st.trans y)
  have z := go_range (prog := prog) (w := w) (d := d) (A := A) hA ((hS.step st).step y).ok (IsRange.new s'.heap 0 n 1 s'.toks tn (s'.toks + 1)) (by decide) (by decide) hlo hhi
  simpa using z
theorem it_range2 {e f : Expr} {xpos pos : Pos} {a b : Int} (G : Glb h₀ mg mb) (hc : Callee mg mb ("range" : Str) (.type "range")) (h : EvOK prog w h₀ d sc σ e (.int a)) (h' : EvOK prog w h₀ d sc σ f (.int b))
    (ha : -(2 ^ 62) ≤ a) (ha' : a < 2 ^ 62) (hb : -(2 ^ 62) ≤ b) (hb' : b < 2 ^ 62)
    (hx : sc.names.lookup ("range" : Str) = some .globalImplicit) (hp : ∀ env, (starEach [e, f] env).all (fun x => !x.1) = true) (hn : ∀ env, ∃ t r, starEach [e, f] env = (false, t) :: r)
    (hs : ∀ env, starEach [e, f] env = (false, eval e env) :: starEach [f] env) (hs' : ∀ env, starEach [f] env = (false, eval f env) :: starEach [] env) :
    IterOK prog w h₀ d sc σ (.Call (.Name ("range" : Str) xpos) [e, f] [] pos) AnyT (rng a (b - a).toNat) := fun A env K s R W hA hE hS => by
  refine call_by G hA hE hS hc (.inl ⟨_, rfl⟩) (evs_cons h (evs_cons h' evs_nil hs') hs) hx (by decide) (hp env) (hn env) fun vs s' K' st rs => ?_
  cases rs with
  | cons r rs =>
  cases rs with
  | cons r' rs =>
  cases rs
  cases r with
  | int _ ta =>
  cases r' with
  | int _ tb =>
  refine call_range_2 ?_
  have y := StepE.same (tk := s'.toks + 1) (h' := s'.heap.push { cls := .type "range", data := .fields #[.int a ta, .int b tb, .int 1 s'.toks] }) st.sub fun _ _ e => Heap.get?_push_of_some _ e
  exact (go_range hA ((hS.step st).step y).ok (IsRange.new s'.heap a b 1 ta tb s'.toks) ha ha' hb hb').from (st.trans y)

noncomputable def zips (xs ys : List PV) : List PV := List.zipWith (fun x y => .tup [x, y]) xs ys

theorem wr4 {a z TI TO i1 i2 : Addr} (h : a ∈ [z, TO, i1, i2]) : a ∈ [z, TI, TO, i1, i2] := by
  simp only [List.mem_cons, List.not_mem_nil, or_false] at h ⊢
  rcases h with h | h | h | h <;> simp [h]
theorem zip_walk {A : Around} {K₀ : KMap} {z TI TO i1 i2 l1 l2 : Addr} {vs ws : List Value} {o1 o2 : Obj} {xs ys : List PV} (hA : A.handled = none) (D : ZipApart z TI TO i1 i2 l1 l2) (e1 : K₀ l1 = some o1) (e2 : K₀ l2 = some o2)
    (r1 : RepL w.params K₀ vs xs) (r2 : RepL w.params K₀ ws ys) :
    Walk prog w h₀ A (.ref z) TupT (zips xs ys)
      (fun i fp K s => fp = [z, TI, TO, i1, i2] ∧ (IsZip s.heap z TI TO .none ∧ IsPair s.heap TI (.ref i1) (.ref i2) ∧ (∃ a b, IsPair s.heap TO a b) ∧ s.heap.IsListIter i1 l1 i ∧ s.heap.IsListIter i2 l2 i ∧ s.heap.IsList l1 vs.toArray ∧ s.heap.IsList l2 ws.toArray) ∧
        (∀ a ∈ [z, TI, TO, i1, i2], K a = none) ∧ ∀ a o, K₀ a = some o → K a = some o) [] := by
  have WT := WalksT.zip2 (prog := prog) (w := w) hA z TI TO i1 i2 l1 l2 D vs.toArray ws.toArray
  have hlen : min vs.toArray.size ws.toArray.size = (zips xs ys).length := by simp [zips, r1.length, r2.length]
  constructor
  · intro i fp K s K' s' ⟨hfp, hst, hI, hm⟩ hO hO' hh hk hmono _
    subst hfp
    refine ⟨rfl, WT.frame i _ _ hst fun b hb o e => ?_, fun a ha => (hk a ha).trans (hI a ha), fun a o e => hmono a o (hm a o e)⟩
    have hb' : b ∈ [z, TI, TO, i1, i2] ∨ b = l1 ∨ b = l2 := by
      simp only [List.mem_cons, List.not_mem_nil, or_false] at hb ⊢
      rcases hb with h | h | h | h | h | h | h <;> simp [h]
    rcases hb' with hb | rfl | rfl
    · exact hh b hb o e
    · have e3 := hO.sub _ _ (hm _ _ e1)
      rw [e] at e3; cases e3
      exact hO'.sub _ _ (hmono _ _ (hm _ _ e1))
    · have e3 := hO.sub _ _ (hm _ _ e2)
      rw [e] at e3; cases e3
      exact hO'.sub _ _ (hmono _ _ (hm _ _ e2))
  · rintro i fp K s ⟨rfl, ⟨hz, hTI, ⟨a, b, hTO⟩, h1, h2, _⟩, _⟩ c hc
    simp at hc
    rcases hc with rfl | rfl | rfl | rfl | rfl
    · exact alive_of hz
    · exact alive_of hTI
    · exact alive_of hTO
    · obtain ⟨_, e, _⟩ := h1; exact alive_of e
    · obtain ⟨_, e, _⟩ := h2; exact alive_of e
  · exact fun i fp K s _ g hg => nomatch hg
  · rintro i p fp K s t hi ⟨rfl, hst, hI, hm⟩ hO ⟨es, k, pos, rfl⟩
    obtain ⟨hz, hTI, ⟨a, b, hTO⟩, h1, h2, hl1, hl2⟩ := hst
    have hlt : i < min vs.toArray.size ws.toArray.size := by rw [hlen]; exact (List.getElem?_eq_some_iff.mp hi).1
    have hix : i < vs.length := by rw [List.size_toArray, List.size_toArray] at hlt; omega
    have hiy : i < ws.length := by rw [List.size_toArray, List.size_toArray] at hlt; omega
    have hx : vs.toArray[i]? = some vs[i] := by simp [hix]
    have hy : ws.toArray[i]? = some ws[i] := by simp [hiy]
    have hp : ∃ x y, xs[i]? = some x ∧ ys[i]? = some y ∧ p = .tup [x, y] := by
      have ix : i < xs.length := r1.length ▸ hix
      have iy : i < ys.length := r2.length ▸ hiy
      simp only [zips, List.getElem?_zipWith, List.getElem?_eq_getElem ix, List.getElem?_eq_getElem iy] at hi
      exact ⟨_, _, List.getElem?_eq_getElem ix, List.getElem?_eq_getElem iy, (Option.some.inj hi).symm⟩
    obtain ⟨px, py, epx, epy, rfl⟩ := hp
    obtain ⟨u1, hu1, ru1⟩ := r1.get epx
    obtain ⟨u2, hu2, ru2⟩ := r2.get epy
    rw [List.getElem?_eq_getElem hix] at hu1; cases hu1
    rw [List.getElem?_eq_getElem hiy] at hu2; cases hu2
    refine wpAny_pyNext_zip_item D hz hTI hTO h1 h2 hl1 hl2 hx hy fun h' a1 a2 a3 a4 a5 a6 hk => ⟨_, rfl, ?_⟩
    refine wpAny_letOwnedTupleGo_zip a1 fun h'' hz' hs' => ?_
    have zs : z ≠ s.heap.objs.size := Nat.ne_of_lt (Heap.lt_size hz)
    have kp : ∀ c o, c ∉ [z, TI, TO, i1, i2] → s.heap.get? c = some o → h''.get? c = some o := fun c o hc e => by
      simp only [List.mem_cons, List.not_mem_nil, or_false, not_or] at hc
      exact hs'.extBut _ _ hc.1 (hk c o hc.1 hc.2.2.1 hc.2.2.2.1 hc.2.2.2.2 e)
    have hKn := knone hO.sub (size_none s.heap)
    have hT : h''.get? s.heap.objs.size = some (tupObj #[vs[i], ws[i]] 0) := hs'.extBut _ _ (Ne.symm zs) a5
    have hoff : ∀ c o, K c = some o → c ∉ [z, TI, TO, i1, i2] := fun c o e h => by rw [hI c h] at e; cases e
    refine ⟨K.put s.heap.objs.size (tupObj #[vs[i], ws[i]] 0), [z, TI, TO, i1, i2], ⟨fun c r o e => kp c o r.2 e, fun c o e => ?_, KMap.put_mono hKn, fun c r => KMap.put_other _ _ (by rintro rfl; have := r.1; rw [Alive, size_none] at this; cases this), ⟨id, Nat.le_refl _, fun _ _ _ => rfl⟩, rfl⟩, ?_, ⟨rfl, ⟨hz', ?_, ⟨vs[i], ws[i], ?_⟩, ?_, ?_, ?_, ?_⟩, ?_, ?_⟩, fun _ h => h, fun _ h => .inl h⟩
    · by_cases hc : c = s.heap.objs.size
      · subst hc; rw [KMap.put_self] at e; cases e; exact hT
      · rw [KMap.put_other _ _ hc] at e; exact kp c o (hoff c o e) (hO.sub c o e)
    · exact .tup (vs := [vs[i], ws[i]]) (n := 0) (KMap.put_self _ _ _) (.cons ((ru1.mono hm).mono (KMap.put_mono hKn)) (.cons ((ru2.mono hm).mono (KMap.put_mono hKn)) .nil))
    · exact hs'.extBut _ _ D.TIz (hk _ _ D.TIz D.TITO D.TIi1 D.TIi2 hTI)
    · exact hs'.extBut _ _ D.TOz a2
    · exact a3.extBut hs'.extBut D.i1z
    · exact a4.extBut hs'.extBut D.i2z
    · exact (hl1.at fun o e => hk _ o D.l1z D.l1TO D.l1i1 D.l1i2 e).extBut hs'.extBut D.l1z
    · exact (hl2.at fun o e => hk _ o D.l2z D.l2TO D.l2i1 D.l2i2 e).extBut hs'.extBut D.l2z
    · intro c hc
      rw [KMap.put_other]
      · exact hI c hc
      · rintro rfl
        simp only [List.mem_cons, List.not_mem_nil, or_false] at hc
        rcases hc with h | h | h | h | h
        · exact zs h.symm
        · exact absurd (Heap.lt_size hTI) (by rw [← h]; exact Nat.lt_irrefl _)
        · exact absurd (Heap.lt_size hTO) (by rw [← h]; exact Nat.lt_irrefl _)
        · obtain ⟨_, e, _⟩ := h1; exact absurd (Heap.lt_size e) (by rw [← h]; exact Nat.lt_irrefl _)
        · obtain ⟨_, e, _⟩ := h2; exact absurd (Heap.lt_size e) (by rw [← h]; exact Nat.lt_irrefl _)
    · exact fun a o e => KMap.put_mono hKn a o (hm a o e)
  · rintro fp K s ⟨rfl, hst, hI, hm⟩ hO
    rw [← hlen] at hst
    refine WT.done s _ _ hst fun h' tk hk => ⟨rfl, K, ⟨fun a r o e => hk a o (fun h => r.2 (wr4 h)) e, fun a o e => hk a o (fun h => ?_) (hO.sub a o e), fun _ _ e => e, fun _ _ => rfl, ⟨id, Nat.le_refl _, fun _ _ _ => rfl⟩, rfl⟩⟩
    have : K a = none := hI a (wr4 h)
    rw [this] at e; cases e
  · intro i fp K s Q ⟨_, hst, _⟩ _ hQ
    exact WT.self i s Q NoE hst hQ

theorem zip_apart {n l1 l2 : Nat} (h1 : l1 < n) (h2 : l2 < n) : ZipApart (n + 4) (n + 2) (n + 3) n (n + 1) l1 l2 := by
  constructor <;> (refine @neN _ _ ?_; omega)
theorem it_zip {e f : Expr} {xpos pos : Pos} {xs ys : List PV} (G : Glb h₀ mg mb) (hc : Callee mg mb ("zip" : Str) (.type "zip")) (h : EvOK prog w h₀ d sc σ e (.lst xs)) (h' : EvOK prog w h₀ d sc σ f (.lst ys))
    (hx : sc.names.lookup ("zip" : Str) = some .globalImplicit) (hp : ∀ env, (starEach [e, f] env).all (fun x => !x.1) = true) (hn : ∀ env, ∃ t r, starEach [e, f] env = (false, t) :: r)
    (hs : ∀ env, starEach [e, f] env = (false, eval e env) :: starEach [f] env) (hs' : ∀ env, starEach [f] env = (false, eval f env) :: starEach [] env) :
    IterOK prog w h₀ d sc σ (.Call (.Name ("zip" : Str) xpos) [e, f] [] pos) TupT (zips xs ys) := fun A env K s R W hA hE hS => by
  refine call_by G hA hE hS hc (.inl ⟨_, rfl⟩) (evs_cons h (evs_cons h' evs_nil hs') hs) hx (by decide) (hp env) (hn env) fun vs s' K' st rs => ?_
  cases rs with
  | cons r rs =>
  cases rs with
  | cons r' rs =>
  cases rs
  cases r with
  | @lst l1 o1 us _ e1 q1 r1 =>
  cases r' with
  | @lst l2 o2 ws _ e2 q2 r2 =>
  have hl1 : s'.heap.IsList l1 us.toArray := ⟨_, st.sub _ _ e1, q1⟩
  have hl2 : s'.heap.IsList l2 ws.toArray := ⟨_, st.sub _ _ e2, q2⟩
  have lt1 : @LT.lt Nat _ l1 s'.heap.objs.size := Heap.lt_size (st.sub _ _ e1)
  have lt2 : @LT.lt Nat _ l2 s'.heap.objs.size := Heap.lt_size (st.sub _ _ e2)
  refine call_zip_2 hl1 hl2 fun h' z1 z2 z3 z4 z5 z6 hk => ?_
  have y := StepE.same (tk := s'.toks) (h' := h') st.sub hk
  refine wpAny_pyIter_zip z1 ?_
  have D : ZipApart (s'.heap.objs.size + 4) (s'.heap.objs.size + 2) (s'.heap.objs.size + 3) s'.heap.objs.size (s'.heap.objs.size + 1) l1 l2 := by
    exact zip_apart lt1 lt2
  have dead : ∀ k, s'.heap.get? (s'.heap.objs.size + k) = none := fun k => by
    cases e : s'.heap.get? (s'.heap.objs.size + k) with
    | none => rfl
    | some o => exact absurd (Heap.lt_size e) (Nat.not_lt.mpr (Nat.le_add_right _ _))
  refine ⟨K', _, _, [], st.trans y, ⟨rfl, ⟨z1, z2, ⟨_, _, z3⟩, z4, z5, ⟨_, hk _ _ (st.sub _ _ e1), q1⟩, ⟨_, hk _ _ (st.sub _ _ e2), q2⟩⟩, ?_, fun _ _ e => e⟩, ?_, (fun g hg => nomatch hg), zip_walk (K₀ := K') hA.1 D e1 e2 r1 r2⟩
  · intro a ha
    have fr : ∀ k, s.heap.get? (s'.heap.objs.size + k) = none := fun k => by
      cases e : s.heap.get? (s'.heap.objs.size + k) with
      | none => rfl
      | some o => have := st.get e; rw [dead k] at this; cases this
    simp only [List.mem_cons, List.not_mem_nil, or_false] at ha
    rcases ha with rfl | rfl | rfl | rfl | rfl
    · exact fr 4
    · exact fr 2
    · exact fr 3
    · exact fr 0
    · exact fr 1
  · intro a ha
    simp only [List.mem_cons, List.not_mem_nil, or_false] at ha
    rcases ha with rfl | rfl | rfl | rfl | rfl
    · exact knone st.sub (dead 4)
    · exact knone st.sub (dead 2)
    · exact knone st.sub (dead 3)
    · exact knone st.sub (dead 0)
    · exact knone st.sub (dead 1)
end
end Mine.Internal

end PartB7
section PartB8
open PySem PySem.W PyProof.Rows
set_option Elab.async false
set_option maxRecDepth 100000
set_option linter.unusedVariables false
namespace Mine.Internal

theorem bindL_lookup {kindOf : Str → Option NameKind} {x : Str} (hx : kindOf x = some .local) : ∀ (binds : List (Str × Value)) (m : Str → Option Value), bindL kindOf binds m x = (binds.reverse.lookup x).or (m x)
  | [], m => by simp [bindL]
  | (n, v) :: r, m => by
    rw [bindL, bindL_lookup hx r, List.reverse_cons, List.lookup_append, Option.or_assoc]
    congr 1
    by_cases h : x = n
    · subst h; simp [hx]
    · have : (x == n) = false := by simp [h]
      by_cases hn : kindOf n = some .local
      · simp [hn, h, List.lookup_cons, this]
      · simp [hn, List.lookup_cons, this]
theorem bindC_lookup {kindOf : Str → Option NameKind} {x : Str} (hx : kindOf x ≠ some .local) : ∀ (binds : List (Str × Value)) (m : Str → Option Value), bindC kindOf binds m x = (binds.reverse.lookup x).or (m x)
  | [], m => by simp [bindC]
  | (n, v) :: r, m => by
    rw [bindC, bindC_lookup hx r, List.reverse_cons, List.lookup_append, Option.or_assoc]
    congr 1
    by_cases h : x = n
    · subst h; simp [hx]
    · have : (x == n) = false := by simp [h]
      by_cases hn : kindOf n = some .local
      · simp [hn, List.lookup_cons, this]
      · simp [hn, h, List.lookup_cons, this]

/- a plain def of the text's -/
structure FnAt (h₀ : Heap) (a : Addr) (fd : FuncData) (body : List Stmt) : Prop where
  obj : ∃ o, h₀.get? a = some o ∧ o.data = .func fd
  code : h₀.CodeRec fd.code fd.qualname
  body : fd.body = .stmts body
  clo : fd.closure = []
  glob : fd.globals = mainGlobals
  bltn : fd.builtins = builtinsNs
  kind : fd.scope.kind = .function
  co : fd.scope.isCoroutine = false
theorem FnAt.kindOk {h₀ : Heap} {a : Addr} {fd : FuncData} {body : List Stmt} (F : FnAt h₀ a fd body) : KindOk h₀ (.ref a) := by
  obtain ⟨o, e, hd⟩ := F.obj
  exact .inr (.inr ⟨a, o, fd, rfl, e, hd⟩)

section
variable {prog : Program} {w : World} {h₀ : Heap} {d : Nat} {mg mb : Str → Option Value}

/- the frame that a call opens -/
theorem enter_St {fd : FuncData} {a : Addr} {body : List Stmt} (F : FnAt h₀ a fd body) {K : KMap} {s s₁ : Shared} {R : Addr → Prop} {σ : Sig} {oa : Str → List Addr} {binds : List (Str × Value)}
    (hO : Ok h₀ K s) (hR : ∀ a, R a → Alive s a) (hkind : ∀ x ∈ binds, fd.scope.names.lookup x.1 = some .local ∨ fd.scope.names.lookup x.1 = some .cell)
    (hσ : ∀ x sl, σ.lookup x = some sl → ∃ v, binds.reverse.lookup x = some v ∧ SlotOk w.params K s.heap v sl (oa x))
    (hown : ∀ x p, σ.lookup x = some (.own p) → ∀ a ∈ oa x, ¬ R a) (hdisj : ∀ x y p q, x ≠ y → σ.lookup x = some (.own p) → σ.lookup y = some (.own q) → ∀ a ∈ oa x, a ∉ oa y)
    (x : InCallC s (callEnvC fd s.heap.objs.size a).locals (bindL (callEnvC fd s.heap.objs.size a).kindOf binds fun _ => none) (callEnvC fd s.heap.objs.size a).cells (bindC (callEnvC fd s.heap.objs.size a).kindOf binds fun _ => none) s₁) :
    StepE s K s₁ K ∧ EnvOk fd.scope (callEnvC fd s.heap.objs.size a) ∧ St w.params h₀ R WAll σ (callEnvC fd s.heap.objs.size a) K s₁ := by
  have dead : ∀ b : Addr, s.heap.objs.size ≤ b → s.heap.get? b = none := fun b hb => by
    cases e : s.heap.get? b with
    | none => rfl
    | some o => exact absurd (Heap.lt_size e) (Nat.not_lt.mpr hb)
  have dL := dead _ x.toInCall.fresh
  have dC : ∀ n c, (callEnvC fd s.heap.objs.size a).cells.lookup n = some c → s.heap.get? c = none := fun n c e => dead c (Nat.le_trans x.toInCall.fresh (Nat.le_of_lt (x.above n c (mem_of_lookup e))))
  have st : StepE s K s₁ K := by
    obtain ⟨h', tk, rfl⟩ := x.toInCall.same
    exact StepE.same hO.sub x.toInCall.keep
  have hlaid : ∀ n, fd.scope.names.lookup n = some .cell → ((callEnvC fd s.heap.objs.size a).cells.lookup n).isSome = true := fun n e => cellsFrom_some _ _ _ (.inl e)
  refine ⟨st, ⟨rfl, F.glob, F.bltn, F.kind, hlaid⟩, _, oa, ⟨hO.base, st.sub, fun b r => st.alive (hR b r) (hR b r), x.toInCall.ns, fun r => ?_, knone hO.sub dL, fun n c e => ?_, fun n c _ e r => ?_, fun n n' c e e' => name_of_addr x.apart (mem_of_lookup e) (mem_of_lookup e'), fun n sl e => ?_, fun n p e b hb => ?_, hdisj⟩⟩
  · have := hR _ r; rw [Alive, dL] at this; cases this
  · exact ⟨⟨_, x.cell n c e⟩, knone hO.sub (dC n c e), (Nat.ne_of_gt (x.above n c (mem_of_lookup e)))⟩
  · have := hR _ r; rw [Alive, dC n c e] at this; cases this
  · obtain ⟨v, hv, hs⟩ := hσ n sl e
    refine ⟨v, ?_, ?_⟩
    · have hm : (n, v) ∈ binds := by simpa using mem_of_lookup hv
      rcases hkind _ hm with hl | hl
      · refine .inl ⟨hl, ?_⟩
        rw [bindL_lookup (show (callEnvC fd s.heap.objs.size a).kindOf n = some .local from hl), hv]; rfl
      · obtain ⟨c, hc⟩ := Option.isSome_iff_exists.mp (hlaid n hl)
        refine .inr ⟨.inl hl, c, hc, ?_⟩
        have := x.cell n c hc
        rw [bindC_lookup (show (callEnvC fd s.heap.objs.size a).kindOf n ≠ some .local by rw [show (callEnvC fd s.heap.objs.size a).kindOf n = some .cell from hl]; decide), hv] at this
        exact this
    · cases sl with
      | val p => exact hs
      | own p => exact Own.keeps hs (fun _ _ e => e) (fun _ _ => rfl) fun a _ o e => x.toInCall.keep a o e
  · refine ⟨hown n p e b hb, ?_, fun y c hy => ?_⟩
    · obtain ⟨v, _, hs⟩ := hσ n _ e
      have := Own.alive hs b hb
      rintro rfl; rw [dL] at this; cases this
    · obtain ⟨v, _, hs⟩ := hσ n _ e
      have := Own.alive hs b hb
      rintro rfl; rw [dC y b hy] at this; cases this

noncomputable def Out.ends : Out → Bool
  | .ret _ => true
  | .next _ => true
  | _ => false
noncomputable def Ended (P : Params) (h₀ : Heap) (R : Addr → Prop) (K : KMap) (s : Shared) (r : Result) : Out → Prop
  | .ret p => ∃ v, r = .ok (.ret v) ∧ Rep P K v p
  | .next σ => r = .ok (.ret .none) ∧ ∃ env, St P h₀ R WAll σ env K s
  | _ => False

theorem code_fn {fd : FuncData} {a : Addr} {body : List Stmt} (F : FnAt h₀ a fd body) {A : Around} {K : KMap} {s : Shared} {R : Addr → Prop} {σ : Sig} {oa : Str → List Addr} {vals : List Value} {binds : List (Str × Value)} {out : Out} (hlim : h₀.NoLimit)
    (hA : AOk (d + 1) A) (hO : Ok h₀ K s) (hR : ∀ a, R a → Alive s a) (hbind : BindsTo s fd ⟨vals, []⟩ binds)
    (hkind : ∀ x ∈ binds, fd.scope.names.lookup x.1 = some .local ∨ fd.scope.names.lookup x.1 = some .cell)
    (hσ : ∀ x sl, σ.lookup x = some sl → ∃ v, binds.reverse.lookup x = some v ∧ SlotOk w.params K s.heap v sl (oa x))
    (hown : ∀ x p, σ.lookup x = some (.own p) → ∀ a ∈ oa x, ¬ R a) (hdisj : ∀ x y p q, x ≠ y → σ.lookup x = some (.own p) → σ.lookup y = some (.own q) → ∀ a ∈ oa x, a ∉ oa y)
    (hgen : fd.scope.isGenerator = false) (hb : ExOK prog w h₀ d fd.scope σ body out) (hout : out.ends = true := by rfl) :
    codeAny (model prog w) A (.call (.ref a) ⟨vals, []⟩) (fun r s' => ∃ K', Step R s K s' K' ∧ Ended w.params h₀ R K' s' r out) s := by
  obtain ⟨o, e, hd⟩ := F.obj
  refine codeAny_call_function (by have := hA.2.1; omega) (hO.keep _ _ e) hd F.co hgen F.body (F.code.keeps hO.keep) (hbind _ _ _ _ ?_)
  rw [F.clo]
  refine wpAny_newFunctionEnv_cells F.kind (fun x hx => (hkind x hx).imp id fun h => ⟨h, cellsFrom_some _ _ _ (.inl h)⟩) fun env he s₁ x => ?_
  subst he
  refine ⟨(hlim.keeps hO.keep).keeps x.toInCall.keep, codeAny_func ?_⟩
  obtain ⟨st, hE, hS⟩ := enter_St F hO hR hkind hσ hown hdisj x
  refine wpAny_mono (hb _ _ K s₁ R hA.deeper hE hS) (fun f s' h' => ?_) fun _ _ x => x.elim
  obtain ⟨K', st', hf⟩ := h'
  refine ⟨K', (st.to hR).trans st', ?_⟩
  cases out with
  | ret p =>
    cases f with
    | ret v => exact ⟨v, rfl, hf⟩
    | next => exact hf.elim
    | brk => exact hf.elim
    | cont => exact hf.elim
  | next σ' =>
    cases f with
    | next => exact ⟨rfl, _, hf⟩
    | ret v => exact hf.elim
    | brk => exact hf.elim
    | cont => exact hf.elim
  | brk σ' => cases hout
  | cont σ' => cases hout

theorem zip_slots {P : Params} {K : KMap} {h : Heap} : ∀ {xs : List Str} {vs : List Value} {ps : List PV}, RepL P K vs ps → xs.Nodup → ∀ x sl, (xs.zip (ps.map Slot.val)).lookup x = some sl → ∃ v, (xs.zip vs).reverse.lookup x = some v ∧ SlotOk P K h v sl []
  | [], _, _, _, _, _, _, e => by simp at e
  | y :: xs, _, _, .nil, _, _, _, e => by simp at e
  | y :: xs, v :: vs, p :: ps, .cons r rs, hn, x, sl, e => by
    obtain ⟨hy, hn⟩ := List.nodup_cons.mp hn
    rw [List.map_cons, List.zip_cons_cons, List.lookup_cons] at e
    rw [List.zip_cons_cons, List.reverse_cons, List.lookup_append]
    by_cases hx : x = y
    · subst hx
      rw [beq_self_eq_true] at e
      cases e
      have : (xs.zip vs).reverse.lookup x = none := by
        rw [List.lookup_eq_none_iff]
        intro q hq
        have := (List.of_mem_zip (a := q.1) (b := q.2) (List.mem_reverse.mp hq)).1
        simp
        rintro rfl; exact hy this
      rw [this]
      exact ⟨v, by simp, r⟩
    · have hb : (x == y) = false := by simp [hx]
      rw [hb] at e
      obtain ⟨u, hu, hs⟩ := zip_slots (h := h) rs hn x sl e
      exact ⟨u, by rw [hu]; rfl, hs⟩

/- a call of a plain def whose parameters are all given -/
theorem call_fn {fd : FuncData} {a : Addr} {body : List Stmt} {ps : List PV} {r : PV} (F : FnAt h₀ a fd body) (hlim : h₀.NoLimit) (xs : List Str) (hbind : ∀ vs : List Value, vs.length = ps.length → bindArgs fd ⟨vs, []⟩ = pure (xs.zip vs))
    (hkind : ∀ x ∈ xs, fd.scope.names.lookup x = some .local ∨ fd.scope.names.lookup x = some .cell) (hn : xs.Nodup) (hgen : fd.scope.isGenerator = false) (hb : ExOK prog w h₀ d fd.scope (xs.zip (ps.map Slot.val)) body (.ret r)) :
    CallOK prog w h₀ (d + 1) (.ref a) ps r := fun A K s vs hA hO rs => by
  refine wpAny_call (codeAny_mono (code_fn F hlim hA hO (R := Alive s) (fun _ h => h) (oa := fun _ => []) (BindsTo.of_eq (hbind vs rs.length)) (fun x hx => hkind _ ?_) ?_ (fun _ _ _ _ h => nomatch h) (fun _ _ _ _ _ _ _ _ h => nomatch h) hgen hb) fun r s' h => ?_)
  · exact (List.of_mem_zip (a := x.1) (b := x.2) hx).1
  · exact zip_slots rs hn
  · obtain ⟨K', st, v, rfl, rv⟩ := h
    exact ⟨K', st, rv⟩
end
end Mine.Internal

end PartB8
section PartB9
open PySem PySem.W PyProof.Rows
set_option Elab.async false
set_option maxRecDepth 100000
set_option linter.unusedVariables false
namespace Mine.Internal

section
variable {prog : Program} {w : World} {h₀ : Heap} {d : Nat} {sc : Scope} {σ : Sig} {W : Str → Bool} {mg mb : Str → Option Value}

/- what the frame alone holds is turned in place -/
theorem StI.mutate {P : Params} {R : Addr → Prop} {env : Env} {K : KMap} {s : Shared} {m : Str → Option Value} {oa : Str → List Addr} {x : Str} {p p' : PV} {v : Value} {h' : Heap} {tk : Nat}
    (hS : StI P h₀ R W σ env K s m oa) (hx : σ.lookup x = some (.own p)) (hat : At env m s.heap x v) (hk : ∀ b o, b ∉ oa x → s.heap.get? b = some o → h'.get? b = some o) (ho : Own P K h' v p' (oa x)) :
    Step R s K { s with heap := h', toks := tk } K ∧ St P h₀ R W (upd σ x (.own p')) env K { s with heap := h', toks := tk } := by
  obtain ⟨u, _, hu⟩ := hS.val x _ hx
  have kn : ∀ a ∈ oa x, K a = none := Own.knone hu
  have hsub : ∀ a o, K a = some o → h'.get? a = some o := fun a o e => hk a o (fun h => by rw [kn a h] at e; cases e) (hS.sub a o e)
  have offR : ∀ a, R a → a ∉ oa x := fun a r h => (hS.ownR x p hx a h).1 r
  have hL : env.locals ∉ oa x := fun h => (hS.ownR x p hx _ h).2.1 rfl
  have hC : ∀ n c, env.cells.lookup n = some c → c ∉ oa x := fun n c e h => (hS.ownR x p hx _ h).2.2 n c e rfl
  refine ⟨⟨fun a r o e => hk a o (offR a r) e, hsub, fun _ _ e => e, fun _ _ => rfl, ⟨id, Nat.le_refl _, fun _ _ _ => rfl⟩, rfl⟩, m, oa, ⟨hS.base, hsub, fun a r => ?_, hS.ns.at' fun o e => hk _ o hL e, hS.nR, hS.nK, fun n c e => ?_, hS.cellR, hS.cellInj, fun n sl e => ?_, fun n q e => ?_, fun n n' q q' hn e e' => ?_⟩⟩
  · obtain ⟨o, e⟩ := Option.isSome_iff_exists.mp (hS.live a r)
    exact alive_of (hk a o (offR a r) e)
  · obtain ⟨⟨v', o, e', hd⟩, k, ne⟩ := hS.cell n c e
    exact ⟨⟨v', o, hk c o (hC n c e) e', hd⟩, k, ne⟩
  · have at' : ∀ n v, At env m s.heap n v → At env m h' n v := by
      rintro n v (q | ⟨q, c, e, o, e', hd⟩)
      · exact .inl q
      · exact .inr ⟨q, c, e, o, hk c o (hC n c e) e', hd⟩
    rw [upd_lookup] at e
    by_cases hn : n = x
    · subst hn
      rw [if_pos rfl] at e; cases e
      exact ⟨v, at' _ _ hat, ho⟩
    · rw [if_neg hn] at e
      obtain ⟨v', ha, hs⟩ := hS.val n sl e
      refine ⟨v', at' _ _ ha, ?_⟩
      cases sl with
      | val q => exact hs
      | own q => exact Own.keeps hs (fun _ _ e => e) (fun _ _ => rfl) fun a ha o e' => hk a o (hS.disj n x q p hn e hx a ha) e'
  · rw [upd_lookup] at e
    by_cases hn : n = x
    · subst hn; exact hS.ownR n p hx
    · rw [if_neg hn] at e; exact hS.ownR n q e
  · rw [upd_lookup] at e e'
    by_cases hn1 : n = x
    · rw [if_neg (fun h => hn (hn1.trans h.symm))] at e'
      subst hn1; exact hS.disj n n' p q' hn hx e'
    · rw [if_neg hn1] at e
      by_cases hn2 : n' = x
      · subst hn2; exact hS.disj n n' q p hn e hx
      · rw [if_neg hn2] at e'; exact hS.disj n n' q q' hn e e'

/- what the frame alone held is frozen: a ghost step -/
theorem St.freeze {P : Params} {R : Addr → Prop} {env : Env} {K : KMap} {s : Shared} {x : Str} {p : PV} (hS : St P h₀ R W σ env K s) (hx : σ.lookup x = some (.own p)) :
    ∃ K', Step R s K s K' ∧ St P h₀ R W (upd σ x (.val p)) env K' s := by
  obtain ⟨m, oa, hS⟩ := hS
  obtain ⟨u, hat, hu⟩ := hS.val x _ hx
  obtain ⟨K', r, hs, hm, ho⟩ := Own.freeze hu hS.sub
  have offR : ∀ a, R a → a ∉ oa x := fun a r h => (hS.ownR x p hx a h).1 r
  have hL : env.locals ∉ oa x := fun h => (hS.ownR x p hx _ h).2.1 rfl
  have hC : ∀ n c, env.cells.lookup n = some c → c ∉ oa x := fun n c e h => (hS.ownR x p hx _ h).2.2 n c e rfl
  refine ⟨K', ⟨fun _ _ _ e => e, hs, hm, fun a r => ho a (offR a r), ⟨id, Nat.le_refl _, fun _ _ _ => rfl⟩, rfl⟩, m, oa, ⟨fun a o e => hm a o (hS.base a o e), hs, hS.live, hS.ns, hS.nR, (ho _ hL).trans hS.nK, fun n c e => ?_, hS.cellR, hS.cellInj, fun n sl e => ?_, fun n q e => ?_, fun n n' q q' hn e e' => ?_⟩⟩
  · obtain ⟨h1, h2, h3⟩ := hS.cell n c e
    exact ⟨h1, (ho c (hC n c e)).trans h2, h3⟩
  · rw [upd_lookup] at e
    by_cases hn : n = x
    · subst hn; rw [if_pos rfl] at e; cases e
      exact ⟨u, hat, r⟩
    · rw [if_neg hn] at e
      obtain ⟨v', ha, hs'⟩ := hS.val n sl e
      refine ⟨v', ha, ?_⟩
      cases sl with
      | val q => exact Rep.mono hm hs'
      | own q => exact Own.keeps hs' hm (fun a ha => ho a (hS.disj n x q p hn e hx a ha)) fun _ _ _ e => e
  · rw [upd_lookup] at e
    by_cases hn : n = x
    · rw [if_pos hn] at e; cases e
    · rw [if_neg hn] at e; exact hS.ownR n q e
  · rw [upd_lookup] at e e'
    by_cases hn1 : n = x
    · rw [if_pos hn1] at e; cases e
    · by_cases hn2 : n' = x
      · rw [if_pos hn2] at e'; cases e'
      · rw [if_neg hn1] at e; rw [if_neg hn2] at e'; exact hS.disj n n' q q' hn e e'
theorem ex_freeze {x : Str} {p : PV} {ss : List Stmt} {o : Out} (hx : σ.lookup x = some (.own p)) (h : ExOK prog w h₀ d sc (upd σ x (.val p)) ss o) : ExOK prog w h₀ d sc σ ss o := fun A env K s R hA hE hS => by
  obtain ⟨K', st, hS'⟩ := hS.freeze hx
  refine wpAny_mono (h A env K' s R hA hE hS') (fun f s' h' => ?_) fun _ _ x => x
  obtain ⟨K'', st', hf⟩ := h'
  exact ⟨K'', st.trans st', hf⟩


theorem Own.lst_inv {P : Params} {K : KMap} {h : Heap} {v : Value} {xs : List PV} {l : List Addr} (x : Own P K h v (.lst xs) l) :
    ∃ a vs n, v = .ref a ∧ l = [a] ∧ K a = none ∧ h.get? a = some (listOf vs.toArray n) ∧ RepL P K vs xs := by
  cases x with
  | lst k e r => exact ⟨_, _, _, rfl, rfl, k, e, r⟩
theorem Own.dct_inv {P : Params} {K : KMap} {h : Heap} {v : Value} {xs : List (Str × PV)} {l : List Addr} (x : Own P K h v (.dct xs) l) :
    ∃ a es n, v = .ref a ∧ l = [a] ∧ (a == sysModules) = false ∧ K a = none ∧ h.get? a = some (dictOf es n) ∧ RepD P K es xs := by
  cases x with
  | dct m k e r => exact ⟨_, _, _, rfl, rfl, m, k, e, r⟩
theorem Own.obj_inv {P : Params} {K : KMap} {h : Heap} {v : Value} {c : Addr} {i : Option Addr} {xs : List (Str × PV)} {l : List Addr} (x : Own P K h v (.obj c i xs) l) :
    ∃ a dx es n, v = .ref a ∧ l = [a, dx] ∧ (i = none ∨ i = some a) ∧ K a = none ∧ K dx = none ∧ a ≠ dx ∧ h.get? a = some (instObj c dx) ∧ h.get? dx = some (dictOf es n) ∧ RepD P K es xs := by
  cases x with
  | obj q k k' ne e f r => exact ⟨_, _, _, _, rfl, rfl, q, k, k', ne, e, f, r⟩

theorem StI.step {P : Params} {R : Addr → Prop} {env : Env} {K K' : KMap} {s s' : Shared} {m : Str → Option Value} {oa : Str → List Addr} (x : StI P h₀ R W σ env K s m oa) (y : StepE s K s' K') : StI P h₀ R W σ env K' s' m oa := by
  have hk : ∀ b o, s.heap.get? b = some o → s'.heap.get? b = some o := fun b o e => StepE.get y e
  have nK : ∀ a, Alive s a → K a = none → K' a = none := fun a h e => (y.old a h).trans e
  refine ⟨fun a o e => y.mono a o (x.base a o e), y.sub, fun a r => Step.alive y (x.live a r) (x.live a r), x.ns.keeps hk, x.nR, ?_, ?_, x.cellR, x.cellInj, ?_, x.ownR, x.disj⟩
  · obtain ⟨_, _, _, e, _⟩ := x.ns
    exact nK _ (alive_of e) x.nK
  · intro n c e
    obtain ⟨⟨v, hv⟩, hn, hl⟩ := x.cell n c e
    exact ⟨⟨v, hv.keeps hk⟩, (by obtain ⟨_, e, _⟩ := hv; exact nK _ (alive_of e) hn), hl⟩
  · intro n sl e
    obtain ⟨v, ha, hs⟩ := x.val n sl e
    refine ⟨v, ha.keeps hk, ?_⟩
    cases sl with
    | val p => exact Rep.mono y.mono hs
    | own p => exact Own.keeps hs y.mono (fun a ha => y.old a (hs.alive a ha)) fun a _ o e => hk a o e

/- x.append(e) -/
theorem st_append {x : Str} {xpos apos cpos pos : Pos} {e : Expr} {xs : List PV} {p : PV} (hx : σ.lookup x = some (.own (.lst xs))) (he : EvOK prog w h₀ d sc σ e p) (hsz : xs.length ≤ sizeLine) (hline : (apos.endLine == cpos.line) = true := by rfl)
    (hd : (x == ("__debug__" : Str)) = false := by rfl) (hc : (x == ("__classdict__" : Str)) = false := by rfl) (hst : ∀ env, starEach [e] env = [(false, eval e env)] := by intro _; rfl)
    (hsw : ∀ env, swapsWith (.Call (.Attribute (.Name x xpos) "append" apos) [e] [] cpos) none pos.line env = pure false := by intro _; rfl) :
    ExSt prog w h₀ d sc σ (.Expr (.Call (.Attribute (.Name x xpos) "append" apos) [e] [] cpos) pos) (.next (upd σ x (.own (.lst (xs ++ [p]))))) := fun A env K s R hA hE hS => by
  obtain ⟨m, oa, x'⟩ := id hS
  obtain ⟨v, hat, hv⟩ := x'.val _ _ hx
  refine wpAny_Expr_any ?_ (interactive_no hE) (hsw env)
  refine wpAny_Call_append rfl (by rw [hst]; rfl) hline (by rw [hst]; rfl) (wpAny_Name (load_At hE x'.ns hat hc ?_) hd)
  obtain ⟨a, vs, n, rfl, hl, k, e0, rl⟩ := Own.lst_inv hv
  refine ⟨a, vs.toArray, rfl, ⟨_, n, e0, rfl, rfl, rfl⟩, ?_⟩
  refine (he A env K s R _ hA hE hS).mono fun y s₁ K₁ st₁ ry => ?_
  refine wpAny_list_append_plain (items := vs.toArray) ⟨n, st₁.get e0⟩ (fun h' hl' hs' => ?_) (by rw [List.size_toArray, rl.length]; exact hsz)
  obtain ⟨n', e'⟩ := hl'
  have hat' : At env m s₁.heap x (.ref a) := hat.keeps fun b o e => StepE.get st₁ e
  have kn : K₁ a = none := (st₁.old a (alive_of e0)).trans k
  obtain ⟨st₂, hS₂⟩ := StI.mutate (tk := s₁.toks) (h' := h') (p' := .lst (xs ++ [p])) (x'.step st₁) hx hat' (fun b o hb e => hs'.extBut b o (fun h => hb (by rw [hl, h]; exact .head _)) e)
    (by rw [hl]; exact .lst (vs := vs ++ [y]) (n := n') kn (by rw [e']; simp) ((rl.mono st₁.mono).append (.one ry)))
  exact ⟨K₁, (st₁.from hS).trans st₂, hS₂⟩

theorem setItem_exact {A : Around} {s : Shared} {E : Value → Shared → Prop} {l : Addr} {items : Array Value} {n : Nat} {k : Int} {t : Tok} {v : Value} {Q : Unit → Shared → Prop} (ho : s.heap.get? l = some (listOf items n))
    (h0 : 0 ≤ k) (hfit : k < 2 ^ 63) (hn : k < items.size)
    (hQ : ∀ h' n', h'.get? l = some (listOf (items.setIfInBounds k.toNat v) n') → Heap.SameBut l s.heap h' → Q () { s with heap := h' }) :
    wpAny (model prog w) A (setItem (.ref l) (.int k t) v) Q E s := by
  have hl : s.heap.IsList l items := ⟨_, ho, rfl, n, rfl⟩
  unfold setItem
  try with_reducible refine wpAny_holding ?_
  first | refine wpAny_bind (wpAny_pure ?_) | skip
  refine wpAny_bind (wpAny_sequenceKey hl.typeIs (by decide) ?_)
  refine wpAny_bind (wpAny_callSpecial?_slot (name := Str.ofString "__setitem__") hl.typeIs slot_list_setitem
    (wpAny_call_entry slot_list_setitem hl.typeIs entry_list_setitem ?_ (args_list_setitem _ _ _)))
  show wpAny _ _ (Builtin.List.listSubscript? (.int k t) >>= _) _ _ s
  refine wpAny_bind (wpAny_listSubscript_int (fitsIndex_of h0 hfit) ?_)
  clear hfit
  obtain ⟨j, rfl⟩ := Int.eq_ofNat_of_zero_le h0
  have hj : j < items.size := by omega
  have hx' : items[j]? = some items[j] := Array.getElem?_eq_getElem hj
  show wpAny _ _ ((seqItemAt l j >>= fun r => pure (r.map (j, ·))) >>= _) _ _ s
  refine wpAny_bind (wpAny_bind (wpAny_seqItemAt ho rfl (wpAny_pure ?_)))
  rw [hx']
  show wpAny _ _ (setSeqItemAt l j v >>= _) _ _ s
  have hfin : (s.heap.update l (Obj.mapSeq (·.setIfInBounds j v))).get? l = some (listOf (items.setIfInBounds j v) n) := by
    rw [Heap.get?_update_self _ ho (by rfl)]
    simp [Obj.mapSeq]
  refine wpAny_bind (wpAny_setSeqItemAt ho rfl ?_)
  first
    | exact wpAny_bind (wpAny_pure (wpAny_pure ⟨.none, rfl, wpAny_pure (hQ _ _ hfin (Heap.SameBut.update ..))⟩))
    | exact wpAny_pure ⟨.none, rfl, wpAny_pure (hQ _ _ hfin (Heap.SameBut.update ..))⟩

theorem RepL.set {P : Params} {K : KMap} : ∀ {vs : List Value} {ps : List PV} {v : Value} {p : PV}, RepL P K vs ps → Rep P K v p → ∀ i : Nat, RepL P K (vs.set i v) (ps.set i p)
  | _, _, _, _, .nil, _, _ => .nil
  | _, _, _, _, .cons _ r, h, 0 => .cons h r
  | _, _, _, _, .cons a r, h, i + 1 => .cons a (RepL.set r h i)

/- x[i] as a target -/
theorem asg_item {x : Str} {xpos pos : Pos} {e : Expr} {xs : List PV} {p : PV} {i : Int} (hx : σ.lookup x = some (.own (.lst xs))) (he : EvOK prog w h₀ d sc σ e (.int i)) (h0 : 0 ≤ i) (hn : i < xs.length) (hhi : i < 2 ^ 63 := by omega)
    (hd : (x == ("__debug__" : Str)) = false := by rfl) (hc : (x == ("__classdict__" : Str)) = false := by rfl) :
    AsgOK prog w h₀ d sc W σ (.Subscript (.Name x xpos) e pos) p (upd σ x (.own (.lst (xs.set i.toNat p)))) := fun A env K s R v hA hE hS rv => by
  obtain ⟨m, oa, x'⟩ := id hS
  obtain ⟨u, hat, hv⟩ := x'.val _ _ hx
  obtain ⟨a, vs, n, rfl, hl, k, e0, rl⟩ := Own.lst_inv hv
  rw [arm_assign_Subscript]
  refine wpAny_bind (wpAny_holding (wpAny_Name (load_At hE x'.ns hat hc ?_) hd))
  refine wpAny_bind (wpAny_holding ((he A env K s R _ hA hE hS).mono fun iv s₁ K₁ st₁ ri => ?_))
  cases ri
  refine wpAny_bind (wpAny_standAt (wpAny_bind (wpAny_holding ?_)))
  refine setItem_exact (st₁.get e0) h0 hhi (by rw [List.size_toArray, rl.length]; exact hn) fun h' n' e' hs' => wpAny_release ?_
  have hat' : At env m s₁.heap x (.ref a) := hat.keeps fun b o e => StepE.get st₁ e
  have kn : K₁ a = none := (st₁.old a (alive_of e0)).trans k
  obtain ⟨st₂, hS₂⟩ := StI.mutate (tk := s₁.toks) (h' := h') (p' := .lst (xs.set i.toNat p)) (x'.step st₁) hx hat' (fun b o hb e => hs'.extBut b o (fun h => hb (by rw [hl, h]; exact .head _)) e)
    (by rw [hl]; exact .lst (vs := vs.set i.toNat v) (n := n') kn (by rw [e']; simp) ((rl.mono st₁.mono).set (rv.mono st₁.mono) _))
  exact ⟨K₁, (st₁.from hS).trans st₂, hS₂⟩

/- t = e for a target of any make -/
theorem st_assign_tgt {t e : Expr} {pos : Pos} {p : PV} {σ' : Sig} (h : EvOK prog w h₀ d sc σ e p) (ht : AsgOK prog w h₀ d sc WAll σ t p σ') (hs : ∀ env, swapsWithSole [t] e pos.line env = pure false := by intro _; rfl) (hw : ∀ env, swappedStores [t] e env = pure none := by intro _; rfl)
    (hn : ∀ env, (assignEach [t] env).map (·.2) = [assign t env] := by intro _; rfl) :
    ExSt prog w h₀ d sc σ (.Assign [t] e pos) (.next σ') := fun A env K s R hA hE hS => by
  refine wpAny_Assign_stores ((h A env K s R _ hA hE hS).mono fun v s₁ K₁ st₁ rv => ?_) (hs env) (hw env)
  rw [hn]
  show wpAny _ _ (assign t env v) _ _ _
  refine wpAny_mono (ht A env K₁ s₁ R v hA hE (hS.step st₁) rv) (fun _ s₂ h₂ => ?_) fun _ _ x => x
  obtain ⟨K₂, st₂, hS₂⟩ := h₂
  exact ⟨K₂, (st₁.from hS).trans st₂, hS₂⟩
theorem st_assign2 {t₁ t₂ e : Expr} {pos : Pos} {p : PV} {σ₁ σ₂ : Sig} (h : EvOK prog w h₀ d sc σ e p) (h1 : AsgOK prog w h₀ d sc WAll σ t₁ p σ₁) (h2 : AsgOK prog w h₀ d sc WAll σ₁ t₂ p σ₂)
    (he : ∀ env, (assignEach [t₁, t₂] env).map (·.2) = [assign t₁ env, assign t₂ env] := by intro _; rfl) (hw : ∀ env, swappedStores [t₁, t₂] e env = pure none := by intro _; rfl) :
    ExSt prog w h₀ d sc σ (.Assign [t₁, t₂] e pos) (.next σ₂) := fun A env K s R hA hE hS => by
  refine wpAny_Assign_two ((h A env K s R _ hA hE hS).mono fun v s₁ K₁ st₁ rv => ?_) (he env) (hw env)
  refine wpAny_mono (h1 A env K₁ s₁ R v hA hE (hS.step st₁) rv) (fun _ s₂ h₂ => ?_) fun _ _ x => x
  obtain ⟨K₂, st₂, hS₂⟩ := h₂
  refine wpAny_mono (h2 A env K₂ s₂ R v hA hE hS₂ (rv.mono st₂.mono)) (fun _ s₃ h₃ => ?_) fun _ _ x => x
  obtain ⟨K₃, st₃, hS₃⟩ := h₃
  exact ⟨K₃, ((st₁.from hS).trans st₂).trans st₃, hS₃⟩
theorem st_assign3 {t₁ t₂ t₃ e : Expr} {pos : Pos} {p : PV} {σ₁ σ₂ σ₃ : Sig} (h : EvOK prog w h₀ d sc σ e p) (h1 : AsgOK prog w h₀ d sc WAll σ t₁ p σ₁) (h2 : AsgOK prog w h₀ d sc WAll σ₁ t₂ p σ₂) (h3 : AsgOK prog w h₀ d sc WAll σ₂ t₃ p σ₃)
    (he : ∀ env, (assignEach [t₁, t₂, t₃] env).map (·.2) = [assign t₁ env, assign t₂ env, assign t₃ env] := by intro _; rfl) (hw : ∀ env, swappedStores [t₁, t₂, t₃] e env = pure none := by intro _; rfl) :
    ExSt prog w h₀ d sc σ (.Assign [t₁, t₂, t₃] e pos) (.next σ₃) := fun A env K s R hA hE hS => by
  refine wpAny_Assign_three ((h A env K s R _ hA hE hS).mono fun v s₁ K₁ st₁ rv => ?_) (he env) (hw env)
  refine wpAny_mono (h1 A env K₁ s₁ R v hA hE (hS.step st₁) rv) (fun _ s₂ h₂ => ?_) fun _ _ x => x
  obtain ⟨K₂, st₂, hS₂⟩ := h₂
  refine wpAny_mono (h2 A env K₂ s₂ R v hA hE hS₂ (rv.mono st₂.mono)) (fun _ s₃ h₃ => ?_) fun _ _ x => x
  obtain ⟨K₃, st₃, hS₃⟩ := h₃
  refine wpAny_mono (h3 A env K₃ s₃ R v hA hE hS₃ (rv.mono (st₂.trans (st₃.weaken fun _ h => h)).mono)) (fun _ s₄ h₄ => ?_) fun _ _ x => x
  obtain ⟨K₄, st₄, hS₄⟩ := h₄
  exact ⟨K₄, (((st₁.from hS).trans st₂).trans st₃).trans st₄, hS₄⟩

/- x[i] op= e -/
theorem st_aug_item {x : Str} {xpos tpos pos : Pos} {i e : Expr} {op : Operator} {xs : List PV} {p q r : PV} {k : Int} (hx : σ.lookup x = some (.own (.lst xs))) (hi : EvOK prog w h₀ d sc σ i (.int k)) (h0 : 0 ≤ k) (hn : k < xs.length) (hp : xs[k.toNat]? = some p)
    (he : EvOK prog w h₀ d sc σ e q) (ho : InpOK prog w h₀ d op p q r) (hhi : k < 2 ^ 63 := by omega) (hd : (x == ("__debug__" : Str)) = false := by rfl) (hc : (x == ("__classdict__" : Str)) = false := by rfl)
    (hst : ∀ ov iv new, augStore i ov iv new = (do holding [new, ov, iv] (setItem ov iv new); release [new, ov, iv] []; pure .next) := by intros; rfl) :
    ExSt prog w h₀ d sc σ (.AugAssign (.Subscript (.Name x xpos) i tpos) op e pos) (.next (upd σ x (.own (.lst (xs.set k.toNat r))))) := fun A env K s R hA hE hS => by
  obtain ⟨m, oa, x'⟩ := id hS
  obtain ⟨u, hat, hv⟩ := x'.val _ _ hx
  obtain ⟨a, vs, n, rfl, hl, kn, e0, rl⟩ := Own.lst_inv hv
  refine wpAny_AugAssign_SubscriptAny (wpAny_Name (load_At hE x'.ns hat hc ?_) hd) hst
  refine (hi A env K s R _ hA hE hS).mono fun iv s₁ K₁ st₁ ri => ?_
  cases ri
  obtain ⟨y, hy, ry⟩ := rl.get hp
  refine wpAny_getItem_list (items := vs.toArray) ⟨_, st₁.get e0, rfl, n, rfl⟩ h0 hhi (by simpa using hy) ?_
  refine (he A env K₁ s₁ R _ hA hE (hS.step st₁)).mono fun z s₂ K₂ st₂ rz => ?_
  have st := st₁.trans st₂
  refine (ho A K₂ s₂ y z hA (hS.step st).ok (ry.mono st.mono) rz).mono fun q s₃ K₃ st₃ rq => ?_
  have st := st.trans st₃
  refine setItem_exact (st.get e0) h0 hhi (by rw [List.size_toArray, rl.length]; exact hn) fun h' n' e' hs' => ?_
  have hat' : At env m s₃.heap x (.ref a) := hat.keeps fun b o e => StepE.get st e
  have kn : K₃ a = none := (st.old a (alive_of e0)).trans kn
  obtain ⟨st₄, hS₄⟩ := StI.mutate (tk := s₃.toks) (h' := h') (p' := .lst (xs.set k.toNat r)) (x'.step st) hx hat' (fun b o hb e => hs'.extBut b o (fun h => hb (by rw [hl, h]; exact .head _)) e)
    (by rw [hl]; exact .lst (vs := vs.set k.toNat q) (n := n') kn (by rw [e']; simp) ((rl.mono st.mono).set rq _))
  exact ⟨K₃, (st.from hS).trans st₄, hS₄⟩

/- displays that one alone holds -/
theorem new_list {es : List Expr} {pos : Pos} {ps : List PV} (h : EvsOK prog w h₀ d sc σ es ps) (hsz : ps.length ≤ sizeLine := by decide) : EvNew prog w h₀ d sc σ (.List es pos) (.lst ps) := fun A env K s R W hA hE hS => by
  refine wpAny_List_spliced (wpAny_mono (h A env K s R W pos hA hE hS) (fun vs s₁ h₁ => ?_) fun _ _ x => x)
  obtain ⟨K₁, st₁, rs⟩ := h₁
  have y := StepE.same (tk := s₁.toks) (h' := s₁.heap.push (listOf vs.toArray 0)) st₁.sub fun _ _ e => Heap.get?_push_of_some _ e
  have fr : s.heap.get? s₁.heap.objs.size = none := by
    cases e : s.heap.get? s₁.heap.objs.size with
    | none => rfl
    | some o => have := st₁.get e; rw [size_none] at this; cases this
  exact ⟨by rw [rs.length]; exact hsz, K₁, [s₁.heap.objs.size], st₁.trans y, .lst (knone st₁.sub (size_none _)) (Heap.get?_push_size _ rfl) rs, fun a ha => by rw [List.mem_singleton.mp ha]; exact fr⟩

/- divmod -/
theorem call_divmod {a b : Int} (hb : b ≠ 0) (hp : Builtin.divisionGoesByPylong a b = false) : CallOK prog w h₀ d (.builtin "divmod") [.int a, .int b] (.tup [.int (a.fdiv b), .int (a.fmod b)]) := fun A K s vs hA hO rs => by
  cases rs with
  | cons r rs =>
  cases rs with
  | cons r' rs =>
  cases rs
  cases r
  cases r'
  have y := StepE.push (tk := s.toks + 1 + 1) (o := tupObj #[.int (a.fdiv b) s.toks, .int (a.fmod b) (s.toks + 1)] 0) hO.sub rfl
  exact PyProof.Rows.divmod_int hb ⟨_, y, .tup (vs := [.int (a.fdiv b) s.toks, .int (a.fmod b) (s.toks + 1)]) (n := 0) (KMap.put_self _ _ _) (.cons (.int _ _) (.cons (.int _ _) .nil))⟩ (.inl hp)
end
end Mine.Internal

end PartB9
section PartB10
open PySem PySem.W PyProof.Rows
set_option Elab.async false
set_option maxRecDepth 100000
set_option linter.unusedVariables false
namespace Mine.Internal

/- σ' tells no more than σ -/
noncomputable def Sub : Sig → Sig → Prop
  | [], _ => True
  | (x, sl) :: r, σ => σ.lookup x = some sl ∧ Sub r σ
theorem Sub.get : ∀ {σ' σ : Sig}, Sub σ' σ → ∀ {x : Str} {sl : Slot}, σ'.lookup x = some sl → σ.lookup x = some sl
  | [], _, _, _, _, e => by simp at e
  | (y, t) :: r, σ, h, x, sl, e => by
    rw [List.lookup_cons, beq_str] at e
    by_cases hx : x = y
    · subst hx; simp at e; rw [← e]; exact h.1
    · simp [hx] at e; exact Sub.get h.2 e
theorem Sub.of_lookup : ∀ {σ' σ : Sig}, (∀ p ∈ σ', σ.lookup p.1 = some p.2) → Sub σ' σ
  | [], _, _ => trivial
  | (x, sl) :: r, σ, h => ⟨h _ (.head _), Sub.of_lookup fun p hp => h p (.tail _ hp)⟩
theorem Sub.nil {σ : Sig} : Sub [] σ := trivial

section
variable {prog : Program} {w : World} {h₀ : Heap} {d : Nat} {sc : Scope} {σ : Sig} {W : Str → Bool} {mg mb : Str → Option Value}

theorem St.forget {P : Params} {R : Addr → Prop} {σ' : Sig} {env : Env} {K : KMap} {s : Shared} (x : St P h₀ R W σ env K s) (h : Sub σ' σ) : St P h₀ R W σ' env K s := by
  obtain ⟨m, oa, y⟩ := x
  exact ⟨m, oa, ⟨y.base, y.sub, y.live, y.ns, y.nR, y.nK, y.cell, y.cellR, y.cellInj, fun n sl e => y.val n sl (h.get e), fun n p e => y.ownR n p (h.get e), fun n n' p q hn e e' => y.disj n n' p q hn (h.get e) (h.get e')⟩⟩
theorem ex_pre {σ' : Sig} {ss : List Stmt} {o : Out} (h : ExOK prog w h₀ d sc σ' ss o) (hs : Sub σ' σ) : ExOK prog w h₀ d sc σ ss o := fun A env K s R hA hE hS => h A env K s R hA hE (hS.forget hs)
theorem ex_post {σ₁ σ₂ : Sig} {ss : List Stmt} (h : ExOK prog w h₀ d sc σ ss (.next σ₁)) (hs : Sub σ₂ σ₁) : ExOK prog w h₀ d sc σ ss (.next σ₂) := fun A env K s R hA hE hS => by
  refine wpAny_mono (h A env K s R hA hE hS) (fun f s' h' => ?_) fun _ _ x => x
  obtain ⟨K', st, hf⟩ := h'
  refine ⟨K', st, ?_⟩
  cases f with
  | next => exact St.forget hf hs
  | brk => exact hf.elim
  | cont => exact hf.elim
  | ret v => exact hf.elim
theorem ex_cont {σ₁ σ₂ : Sig} {ss : List Stmt} (h : ExOK prog w h₀ d sc σ ss (.cont σ₁)) (hs : Sub σ₂ σ₁) : ExOK prog w h₀ d sc σ ss (.cont σ₂) := fun A env K s R hA hE hS => by
  refine wpAny_mono (h A env K s R hA hE hS) (fun f s' h' => ?_) fun _ _ x => x
  obtain ⟨K', st, hf⟩ := h'
  refine ⟨K', st, ?_⟩
  cases f with
  | cont => exact St.forget hf hs
  | brk => exact hf.elim
  | next => exact hf.elim
  | ret v => exact hf.elim
theorem ex_end {σ₁ : Sig} (h : Sub σ₁ σ) : ExOK prog w h₀ d sc σ [] (.next σ₁) := ex_post ex_nil h

/- loops whose turns are told by number -/
theorem turns_seq {t : Expr} {body : List Stmt} (F : Nat → Sig) : ∀ (its : List PV) (k : Nat), (∀ i p, its[i]? = some p → ∃ σ₁, AsgOK prog w h₀ d sc WAll (F (k + i)) t p σ₁ ∧ ExOK prog w h₀ d sc σ₁ body (.next (F (k + i + 1)))) →
    Turns prog w h₀ d sc t body (F k) its (.next (F (k + its.length)))
  | [], k, _ => .nil
  | p :: ps, k, h => by
    obtain ⟨σ₁, ha, hb⟩ := h 0 p rfl
    have := turns_seq F ps (k + 1) fun i q e => by
      obtain ⟨σ₁, ha, hb⟩ := h (i + 1) q e
      rw [show k + (i + 1) = k + 1 + i by omega] at ha hb
      exact ⟨σ₁, ha, hb⟩
    rw [show k + (p :: ps).length = k + 1 + ps.length by simp; omega]
    exact .next ha hb this
/- loops that fold -/
theorem turns_fold {α β : Type} {t : Expr} {body : List Stmt} (F : β → Sig) (g : α → PV) (step : β → α → β) : ∀ (l : List α) (b : β), (∀ i a, l[i]? = some a → ∃ σ₁, AsgOK prog w h₀ d sc WAll (F ((l.take i).foldl step b)) t (g a) σ₁ ∧
      (ExOK prog w h₀ d sc σ₁ body (.next (F ((l.take (i + 1)).foldl step b))) ∨ ExOK prog w h₀ d sc σ₁ body (.cont (F ((l.take (i + 1)).foldl step b))))) →
    Turns prog w h₀ d sc t body (F b) (l.map g) (.next (F (l.foldl step b)))
  | [], b, _ => .nil
  | a :: l, b, h => by
    obtain ⟨σ₁, ha, hb⟩ := h 0 a rfl
    have := turns_fold F g step l (step b a) fun i q e => h (i + 1) q e
    rcases hb with hb | hb
    · exact .next ha hb this
    · exact .cont ha hb this

/- a comprehension's scope as its frame has it -/
noncomputable def relab (scope sc : Scope) : Scope := { scope with names := scope.names.map fun (n, k) => if (k == .free && sc.kind == .function && sc.names.lookup n == some .cell) then (n, .cell) else (n, k) }
theorem relab_lookup {scope sc : Scope} {x : Str} {k : NameKind} : scope.names.lookup x = some k → (relab scope sc).names.lookup x = some (if (k == .free && sc.kind == .function && sc.names.lookup x == some .cell) = true then .cell else k) := by
  unfold relab
  dsimp only
  generalize scope.names = names
  induction names with
  | nil => intro h; simp at h
  | cons p r ih =>
    obtain ⟨n, k'⟩ := p
    intro h
    rw [List.map_cons]
    dsimp only
    by_cases hx : x = n
    · subst hx
      rw [List.lookup_cons, beq_self_eq_true] at h
      cases h
      split <;> simp
    · have hb : (x == n) = false := by simp [hx]
      rw [List.lookup_cons, hb] at h
      split <;> (rw [List.lookup_cons, hb]; exact ih h)

/- what a comprehension sees of the frame around it -/
noncomputable def capOf (σ : Sig) : List (Str × NameKind) → Sig
  | [] => []
  | (n, k) :: r => if k == .free then (match σ.lookup n with | some (.val p) => (n, .val p) :: capOf σ r | _ => capOf σ r) else capOf σ r
theorem capOf_lookup {σ : Sig} : ∀ {names : List (Str × NameKind)} {x : Str} {sl : Slot}, (capOf σ names).lookup x = some sl → (x, .free) ∈ names ∧ σ.lookup x = some sl ∧ ∃ p, sl = .val p
  | [], x, sl, e => by simp [capOf] at e
  | (n, k) :: r, x, sl, e => by
    unfold capOf at e
    have rest : (capOf σ r).lookup x = some sl → (x, NameKind.free) ∈ (n, k) :: r ∧ σ.lookup x = some sl ∧ ∃ p, sl = .val p := fun e => by
      obtain ⟨a, b⟩ := capOf_lookup e
      exact ⟨.tail _ a, b⟩
    split at e
    · rename_i hk
      split at e
      · rename_i p hp
        by_cases hx : x = n
        · subst hx
          rw [List.lookup_cons, beq_self_eq_true] at e
          cases e
          have : k = .free := by simpa using hk
          subst this
          exact ⟨.head _, hp, p, rfl⟩
        · have hb : (x == n) = false := by simp [hx]
          rw [List.lookup_cons, hb] at e
          exact rest e
      · exact rest e
    · exact rest e

theorem closure_of {env : Env} (f : Str × NameKind → List (Str × Addr) → Sem (ForInStep (List (Str × Addr)))) (hf : ∀ n k cs, f (n, k) cs = if (k == .free) = true then (do let a ← cellOf env n; pure (.yield ((n, a) :: cs))) else pure (.yield cs)) :
    ∀ (names : List (Str × NameKind)) (acc : List (Str × Addr)), (∀ p ∈ names, p.2 = .free → (env.cells.lookup p.1).isSome = true) → (∀ x c, acc.lookup x = some c → env.cells.lookup x = some c) →
    ∃ cl, forIn names acc f = pure cl ∧ (∀ x c, cl.lookup x = some c → env.cells.lookup x = some c) ∧ (∀ x, ((x, .free) ∈ names ∨ (acc.lookup x).isSome = true) → (cl.lookup x).isSome = true) ∧ (∀ x, (cl.lookup x).isSome = true → (x, .free) ∈ names ∨ (acc.lookup x).isSome = true)
  | [], acc, _, h => ⟨acc, by rw [List.forIn_nil], h, fun x hx => hx.elim (fun h => nomatch h) id, fun x hx => .inr hx⟩
  | (n, k) :: r, acc, hl, h => by
    rw [List.forIn_cons, hf]
    by_cases hk : k = .free
    · subst hk
      obtain ⟨c, hc⟩ := Option.isSome_iff_exists.mp (hl _ (.head _) rfl)
      have hcell : cellOf env n = pure c := by unfold cellOf; dsimp only at hc; rw [hc]
      obtain ⟨cl, e, h1, h2, h3⟩ := closure_of f hf r ((n, c) :: acc) (fun p hp => hl p (.tail _ hp)) fun x c' e => by
        by_cases hx : x = n
        · subst hx; rw [List.lookup_cons, beq_self_eq_true] at e; cases e; exact hc
        · have hb : (x == n) = false := by simp [hx]
          rw [List.lookup_cons, hb] at e; exact h x c' e
      refine ⟨cl, ?_, h1, fun x hx => h2 x ?_, fun x hx => ?_⟩
      · rw [if_pos (by rfl), hcell]; exact e
      · by_cases hxn : x = n
        · subst hxn; right; simp
        · have hb : (x == n) = false := by simp [hxn]
          rcases hx with hx | hx
          · rcases List.mem_cons.mp hx with e' | hx
            · cases e'; exact absurd rfl hxn
            · exact .inl hx
          · right; rw [List.lookup_cons, hb]; exact hx
      · rcases h3 x hx with hx | hx
        · exact .inl (.tail _ hx)
        · by_cases hxn : x = n
          · subst hxn; exact .inl (.head _)
          · have hb : (x == n) = false := by simp [hxn]
            rw [List.lookup_cons, hb] at hx; exact .inr hx
    · have hb : (k == NameKind.free) = false := by simpa using hk
      rw [if_neg (by rw [hb]; decide)]
      obtain ⟨cl, e, h1, h2, h3⟩ := closure_of f hf r acc (fun p hp => hl p (.tail _ hp)) h
      refine ⟨cl, e, h1, fun x hx => h2 x ?_, fun x hx => (h3 x hx).imp (.tail _) id⟩
      rcases hx with hx | hx
      · rcases List.mem_cons.mp hx with e' | hx
        · cases e'; exact absurd rfl hk
        · exact .inl hx
      · exact .inr hx

theorem cells_from : ∀ (names : List (Str × NameKind)) (h : Heap) (acc : List (Str × Addr)), (∀ x c, acc.lookup x = some c → @LT.lt Nat _ c h.objs.size) → (∀ x y c, acc.lookup x = some c → acc.lookup y = some c → x = y) →
    (∀ x c, (cellsFrom h.objs.size names acc).lookup x = some c → (@LE.le Nat _ h.objs.size c ∧ (x, .cell) ∈ names ∧ (pushCells h names).IsCell c none) ∨ acc.lookup x = some c) ∧
    (∀ x y c, (cellsFrom h.objs.size names acc).lookup x = some c → (cellsFrom h.objs.size names acc).lookup y = some c → x = y)
  | [], h, acc, _, hi => ⟨fun x c e => .inr e, hi⟩
  | (n, k) :: r, h, acc, hl, hi => by
    unfold cellsFrom pushCells
    by_cases hk : k = .cell
    · subst hk
      rw [if_pos (by rfl), if_pos (by rfl)]
      have hsz : (h.push { cls := .type "cell", data := .cell none }).objs.size = h.objs.size + 1 := Heap.size_push ..
      have look : ∀ x c, ((n, h.objs.size) :: acc).lookup x = some c → (x = n ∧ c = h.objs.size) ∨ (x ≠ n ∧ acc.lookup x = some c) := fun x c e => by
        by_cases hx : x = n
        · subst hx; rw [List.lookup_cons, beq_self_eq_true] at e; cases e; exact .inl ⟨rfl, rfl⟩
        · have hb : (x == n) = false := by simp [hx]
          rw [List.lookup_cons, hb] at e; exact .inr ⟨hx, e⟩
      obtain ⟨h1, h2⟩ := cells_from r (h.push { cls := .type "cell", data := .cell none }) ((n, h.objs.size) :: acc) (fun x c e => by
        rw [hsz]
        rcases look x c e with ⟨_, rfl⟩ | ⟨_, e⟩
        · exact Nat.lt_succ_self _
        · exact Nat.lt_succ_of_lt (hl x c e)) (fun x y c e e' => by
        rcases look x c e with ⟨a, b⟩ | ⟨a, b⟩ <;> rcases look y c e' with ⟨a', b'⟩ | ⟨a', b'⟩
        · exact a.trans a'.symm
        · have := hl y c b'; rw [b] at this; exact absurd this (Nat.lt_irrefl _)
        · have := hl x c b; rw [b'] at this; exact absurd this (Nat.lt_irrefl _)
        · exact hi x y c b b')
      rw [hsz] at h1 h2
      refine ⟨fun x c e => ?_, h2⟩
      rcases h1 x c e with ⟨a, b, c'⟩ | e
      · exact .inl ⟨Nat.le_of_succ_le a, .tail _ b, c'⟩
      · rcases look x c e with ⟨rfl, rfl⟩ | ⟨_, e⟩
        · exact .inl ⟨Nat.le_refl _, .head _, _, pushCells_keeps _ _ _ _ (Heap.get?_push_size _ rfl), rfl⟩
        · exact .inr e
    · have hb : (k == NameKind.cell) = false := by simpa using hk
      rw [if_neg (by rw [hb]; decide), if_neg (by rw [hb]; decide)]
      obtain ⟨h1, h2⟩ := cells_from r h acc hl hi
      exact ⟨fun x c e => (h1 x c e).imp (fun ⟨a, b, c⟩ => ⟨a, .tail _ b, c⟩) id, h2⟩
theorem cells_from_some : ∀ (names : List (Str × NameKind)) (n : Nat) (acc : List (Str × Addr)) (x : Str), ((x, .cell) ∈ names ∨ (acc.lookup x).isSome = true) → ((cellsFrom n names acc).lookup x).isSome = true
  | [], n, acc, x, h => h.elim (fun h => nomatch h) id
  | (y, k) :: r, n, acc, x, h => by
    unfold cellsFrom
    have acc' : ∀ z : Addr, (acc.lookup x).isSome = true → (((y, z) :: acc).lookup x).isSome = true := fun z h => by
      rw [List.lookup_cons]; split
      · rfl
      · exact h
    split
    · rename_i hk
      refine cells_from_some r _ _ x ?_
      rcases h with h | h
      · rcases List.mem_cons.mp h with e | h
        · cases e; right; simp
        · exact .inl h
      · exact .inr (acc' _ h)
    · rename_i hk
      refine cells_from_some r _ _ x ?_
      rcases h with h | h
      · rcases List.mem_cons.mp h with e | h
        · cases e; exact absurd rfl hk
        · exact .inl h
      · exact .inr h

theorem new_comp_env {A : Around} {E : Value → Shared → Prop} {s : Shared} {scope : Scope} {globals : Addr} {cl : List (Str × Addr)} {qual : Str} {env : Env} {Q : Env → Shared → Prop}
    (hQ : Q (newEnv scope s.heap.objs.size globals (cellsFrom (s.heap.objs.size + 1) scope.names cl) qual none .none (some env) builtinsNs) { s with heap := pushCells (s.heap.push { cls := .type "dict", data := .dict #[] }) scope.names }) :
    wpAny (model prog w) A (newFunctionEnv scope globals cl [] qual none .none (some env)) Q E s := by
  simp only [newFunctionEnv, Option.isSome_some, if_true]
  refine wpAny_bind (wpAny_alloc ?_)
  refine wpAny_bind (wpAny_layCells _ (fun name kind cells => by cases hkc : kind == NameKind.cell <;> simp [hkc]) _ _ _ _ ?_)
  rw [show ({ s with heap := s.heap.push { cls := .type "dict", data := .dict #[] } } : Shared).heap.objs.size = s.heap.objs.size + 1 from Heap.size_push ..]
  refine wpAny_bind ?_
  rw [List.forIn_nil]
  exact wpAny_pure (wpAny_pure hQ)
end
end Mine.Internal

end PartB10
section PartB11
open PySem PySem.W PyProof.Rows
set_option Elab.async false
set_option maxRecDepth 100000
set_option linter.unusedVariables false
namespace Mine.Internal

noncomputable def nodupB : List (Str × NameKind) → Bool
  | [] => true
  | (n, _) :: r => !(r.any fun p => p.1 == n) && nodupB r
theorem nodup_lookup : ∀ {l : List (Str × NameKind)} {x : Str} {k : NameKind}, nodupB l = true → (x, k) ∈ l → l.lookup x = some k
  | (n, k') :: r, x, k, h, hm => by
    unfold nodupB at h
    rw [Bool.and_eq_true] at h
    rcases List.mem_cons.mp hm with e | hm'
    · cases e; simp
    · have hx : x ≠ n := by
        intro hxn
        subst hxn
        have : (r.any fun p => p.1 == x) = true := List.any_eq_true.mpr ⟨(x, k), hm', beq_self_eq_true x⟩
        rw [this] at h; exact absurd h.1 (by decide)
      have hb : (x == n) = false := by simp [hx]
      rw [List.lookup_cons, hb]; exact nodup_lookup h.2 hm'

section
variable (prog : Program) (w : World) (h₀ : Heap)
noncomputable abbrev ifsTree (ifs : List Expr) (env : Env) : Sem Bool := forIn ifs true fun c r => if r = true then do let ok ← isTrue c env (eval c env); pure (ForInStep.yield ok) else pure (ForInStep.yield r)
noncomputable def IfsOK (d : Nat) (sc : Scope) (σ : Sig) (ifs : List Expr) (b : Bool) : Prop :=
  ∀ A env K s R W, AOk d A → EnvOk sc env → St w.params h₀ R W σ env K s → GivesB prog w A (ifsTree ifs env) K s b
/- what a turn does with the display under way -/
noncomputable def EmitOK (em : Env → Value → Sem Unit) (d : Nat) (sc : Scope) (W : Str → Bool) (σ : Sig) (p p' : PV) : Prop :=
  ∀ A env K s R D, AOk d A → EnvOk sc env → St w.params h₀ R W σ env K s → R D → (∀ n c, env.cells.lookup n = some c → c ≠ D) → Own w.params K s.heap (.ref D) p [D] →
    wpAny (model prog w) A (em env (.ref D)) (fun _ s' => ∃ K', Step (fun a => R a ∧ a ≠ D) s K s' K' ∧ St w.params h₀ R W σ env K' s' ∧ Own w.params K' s'.heap (.ref D) p' [D]) NoE s
inductive CompTurns (em : Env → Value → Sem Unit) (t : Expr) (ifs : List Expr) (d : Nat) (sc : Scope) (W : Str → Bool) (σ₀ : Sig) : List PV → PV → PV → Prop
  | nil {p : PV} : CompTurns em t ifs d sc W σ₀ [] p p
  | keep {σ₁ : Sig} {i : PV} {is : List PV} {p q r : PV} : AsgOK prog w h₀ d sc W σ₀ t i σ₁ → Sub σ₀ σ₁ → IfsOK prog w h₀ d sc σ₁ ifs true → EmitOK prog w h₀ em d sc W σ₁ p q → CompTurns em t ifs d sc W σ₀ is q r → CompTurns em t ifs d sc W σ₀ (i :: is) p r
  | skip {σ₁ : Sig} {i : PV} {is : List PV} {p r : PV} : AsgOK prog w h₀ d sc W σ₀ t i σ₁ → Sub σ₀ σ₁ → IfsOK prog w h₀ d sc σ₁ ifs false → CompTurns em t ifs d sc W σ₀ is p r → CompTurns em t ifs d sc W σ₀ (i :: is) p r
end

section
variable {prog : Program} {w : World} {h₀ : Heap} {d : Nat} {sc : Scope} {σ : Sig} {W : Str → Bool} {mg mb : Str → Option Value}

theorem ifs_nil : IfsOK prog w h₀ d sc σ [] true := fun A env K s R W hA hE hS => wpAny_tests_nil ⟨K, Step.refl hS.sub, rfl⟩
theorem ifs_one {c : Expr} {b : Bool} (h : TestOK prog w h₀ d sc σ c b) : IfsOK prog w h₀ d sc σ [c] b := fun A env K s R W hA hE hS => wpAny_tests_one (h A env K s R W hA hE hS)

theorem Own.D {P : Params} {K : KMap} {h : Heap} {D : Addr} {p : PV} (x : Own P K h (.ref D) p [D]) : ∃ o, h.get? D = some o := by
  obtain ⟨o, e⟩ := Option.isSome_iff_exists.mp (x.alive D (.head _)); exact ⟨o, e⟩

noncomputable def IsLD (e : Expr) : Prop := (∃ a b c d, e = .ListComp a b c d) ∨ ∃ a b c d f, e = .DictComp a b c d f
theorem den_loop {e : Expr} {depth : Nat} {it acc : Value} {env : Env} {A : Around} (h : IsLD e) : A.under (.compLoop e depth it acc env) = A ∧ (model prog w).den (.compLoop e depth it acc env) = (compTurn e depth it acc env).onRaise (fun x => do noteFrame x env; theTreesLotGoes x) := by
  rcases h with ⟨a, b, c, d, rfl⟩ | ⟨a, b, c, d, f, rfl⟩ <;> exact ⟨rfl, rfl⟩
theorem den_start {e : Expr} {depth : Nat} {it acc : Value} {env : Env} {A : Around} (h : IsLD e) : A.under (.compStart e depth it acc env) = A ∧ (model prog w).den (.compStart e depth it acc env) = (compStart e depth it acc env).onRaise (fun x => do noteFrame x env; standAt theWindowsPlace) := by
  rcases h with ⟨a, b, c, d, rfl⟩ | ⟨a, b, c, d, f, rfl⟩ <;> exact ⟨rfl, rfl⟩
theorem quiet_loop {e : Expr} {depth : Nat} {it acc : Value} {env : Env} (h : IsLD e) : (Code.compLoop e depth it acc env).quiet = true := by
  rcases h with ⟨a, b, c, d, rfl⟩ | ⟨a, b, c, d, f, rfl⟩ <;> rfl

/- the turn of a clause -/
noncomputable def TurnEq (e : Expr) (depth : Nat) (t : Expr) (ifs : List Expr) (em : Env → Value → Sem Unit) : Prop :=
  ∃ pos, ∀ it D env, compTurn e depth it (.ref D) env = (standAt pos >>= fun _ => pyNext it >>= fun r => match r with
      | none => pure (.done .next)
      | some v => letOwnedTupleGo t it v >>= fun _ => assign t env v >>= fun _ => ifsTree ifs env >>= fun ok => (if ok = true then em env (.ref D) else pure ()) >>= fun _ => again (.compLoop e depth it (.ref D) env))

theorem comp_loop {e t : Expr} {depth : Nat} {ifs : List Expr} {em : Env → Value → Sem Unit} {tg : Expr → Prop} (hld : IsLD e) (hq : TurnEq e depth t ifs em) (ht : tg t) {A : Around} {env : Env} {R : Addr → Prop} {it : Value} {T : Nat → List Addr → KMap → Shared → Prop} {gp : List Nat} {D : Addr} {its : List PV}
    (hA : AOk d A) (hE : EnvOk sc env) (wk : Walk prog w h₀ A it tg its T gp) (hRD : R D) (hcD : ∀ n c, env.cells.lookup n = some c → c ≠ D) :
    ∀ (fp : List Addr) (hRf : ∀ a, R a → a ∉ fp) (hoff : ∀ n c, env.cells.lookup n = some c → c ∉ fp) (n i : Nat) (K : KMap) (s : Shared) (p q : PV), n = its.length - i → i ≤ its.length → T i fp K s → St w.params h₀ (fun a => R a ∨ a ∈ fp) W σ env K s → Own w.params K s.heap (.ref D) p [D] → CompTurns prog w h₀ em t ifs d sc W σ (its.drop i) p q →
      codeAny (model prog w) A (.compLoop e depth it (.ref D) env) (fun r s' => r = .ok .next ∧ ∃ K', StepG gp (fun a => R a ∧ a ≠ D) s K s' K' ∧ St w.params h₀ R W σ env K' s' ∧ Own w.params K' s'.heap (.ref D) q [D]) s := by
  intro fp₀ hRf₀ hoff₀ n i K s p q _ hi hT hS hD hTu
  obtain ⟨tp, heq⟩ := hq
  refine codeAny_loop (quiet_loop hld) (fun n s' => ∃ i K' p' fp, (∀ a, R a → a ∉ fp) ∧ (∀ n c, env.cells.lookup n = some c → c ∉ fp) ∧ n = its.length + 1 - i ∧ i ≤ its.length ∧ T i fp K' s' ∧ St w.params h₀ (fun a => R a ∨ a ∈ fp) W σ env K' s' ∧ Own w.params K' s'.heap (.ref D) p' [D] ∧ CompTurns prog w h₀ em t ifs d sc W σ (its.drop i) p' q ∧ StepG gp (fun a => R a ∧ a ≠ D) s K s' K')
    ?_ _ ⟨i, K, p, fp₀, hRf₀, hoff₀, rfl, hi, hT, hS, hD, hTu, (Step.refl hS.sub).toG⟩
  rintro n s' ⟨i, K', p', fp, hRf, hoff, rfl, hi, hTi, hS', hD', hTu, hst⟩
  rw [(den_loop (prog := prog) (w := w) hld).1, (den_loop (A := A) hld).2]
  refine wpAny_noted ?_
  rw [heq]
  have hDf : D ∉ fp := hRf D hRD
  have stR : ∀ {s'' K''}, StepG gp (fun a => Alive s' a ∧ a ∉ fp) s' K' s'' K'' → StepG gp (fun a => R a ∧ a ≠ D) s' K' s'' K'' := fun x => x.weaken fun a r => ⟨hS'.live a (.inl r.1), hRf a r.1⟩
  have ownK : ∀ {s₁ s₂ : Shared} {K₁ K₂ : KMap} {R' : Addr → Prop} {gp' : List Nat} {p : PV}, R' D → Own w.params K₁ s₁.heap (.ref D) p [D] → StepG gp' R' s₁ K₁ s₂ K₂ → Own w.params K₂ s₂.heap (.ref D) p [D] := fun r x st =>
    x.keeps st.mono (fun a ha => st.old a (by rw [List.mem_singleton.mp ha]; exact r)) fun a ha o e => st.heap a (by rw [List.mem_singleton.mp ha]; exact r) o e
  refine wpAny_bind (wpAny_standAt (wpAny_bind ?_))
  by_cases hlt : i < its.length
  · have hit : its[i]? = some its[i] := List.getElem?_eq_getElem hlt
    have hdr : its.drop i = its[i] :: its.drop (i + 1) := List.drop_eq_getElem_cons hlt
    rw [hdr] at hTu
    refine wpAny_mono (wk.item i its[i] fp K' s' t hit hTi hS'.ok ht) (fun r s₃ h₃ => ?_) fun _ _ x => x.elim
    obtain ⟨v, rfl, h₃⟩ := h₃
    refine wpAny_bind (wpAny_mono h₃ (fun _ s₄ h₄ => ?_) fun _ _ x => x.elim)
    obtain ⟨K₄, fp', st₄, rv, hT₄, hsub, hnew⟩ := h₄
    have al' := wk.live _ _ _ _ hT₄
    have hRf' : ∀ a, R a → a ∉ fp' := fun a r h => (hnew a h).elim (hRf a r) fun hn => by have := hS'.live a (.inl r); rw [Alive, hn] at this; cases this
    have hoff' : ∀ n c, env.cells.lookup n = some c → c ∉ fp' := fun n c e h => (hnew c h).elim (hoff n c e) fun hn => by
      obtain ⟨_, _, y⟩ := id hS'
      obtain ⟨⟨_, _, e', _⟩, _⟩ := y.cell n c e
      rw [hn] at e'; cases e'
    have hS₄ := hS'.stepFp (R' := fun a => R a ∨ a ∈ fp') st₄ (fun a h => .inr h) hoff (fun a h _ => al' a (hsub a h)) (fun a r => r.elim (fun r => .inl (.inl r)) fun h => (hnew a h).elim (fun h => .inl (.inr h)) fun hn => .inr ⟨hn, al' a h⟩)
    have hD₄ := ownK ⟨hS'.live D (.inl hRD), hDf⟩ hD' st₄
    have frame : ∀ {K₅ s₅ K₆ s₆ R'}, T (i + 1) fp' K₅ s₅ → Ok h₀ K₅ s₅ → (∀ a ∈ fp', R' a) → Step R' s₅ K₅ s₆ K₆ → T (i + 1) fp' K₆ s₆ := fun hT hO hR st =>
      wk.frame _ _ _ _ _ _ hT hO ⟨fun a o e => st.mono a o (hO.base a o e), st.sub⟩ (fun a ha o e => st.heap a (hR a ha) o e) (fun a ha => st.old a (hR a ha)) st.mono fun g hg => st.gens.2.2 g (wk.liveG _ _ _ _ hT g hg) (fun h => nomatch h)
    have hst₄ := hst.trans (stR st₄)
    have hDf' : D ∉ fp' := hRf' D hRD
    have fpD : ∀ a ∈ fp', (R a ∨ a ∈ fp') ∧ a ≠ D := fun a ha => ⟨.inr ha, fun h => hDf' (h ▸ ha)⟩
    have RD : ∀ a, R a ∧ a ≠ D → (R a ∨ a ∈ fp') ∧ a ≠ D := fun a h => ⟨.inl h.1, h.2⟩
    cases hTu with
    | keep ha hs hi' he hr =>
      refine wpAny_bind (wpAny_mono (ha A env K₄ s₄ _ v hA hE hS₄ rv) (fun _ s₅ h₅ => ?_) fun _ _ x => x.elim)
      obtain ⟨K₅, st₅, hS₅⟩ := h₅
      refine wpAny_bind (wpAny_mono (hi' A env K₅ s₅ _ _ hA hE hS₅) (fun b s₆ h₆ => ?_) fun _ _ x => x.elim)
      obtain ⟨K₆, st₆, rfl⟩ := h₆
      have hS₆ := hS₅.step st₆
      have hD₆ := ownK (hS₅.live D (.inl hRD)) (ownK (.inl hRD) hD₄ st₅) st₆
      rw [if_pos rfl]
      refine wpAny_bind (wpAny_mono (he A env K₆ s₆ _ D hA hE hS₆ (.inl hRD) hcD hD₆) (fun _ s₇ h₇ => ?_) fun _ _ x => x.elim)
      obtain ⟨K₇, st₇, hS₇, hD₇⟩ := h₇
      have hT₇ := frame (frame (frame hT₄ hS₄.ok (fun a ha => .inr ha) st₅) hS₅.ok (fun a ha => hS₅.live a (.inr ha)) st₆) hS₆.ok fpD st₇
      exact wpAny_pure ⟨rfl, its.length + 1 - (i + 1), by omega, i + 1, K₇, _, fp', hRf', hoff', rfl, hlt, hT₇, hS₇.forget hs, hD₇, hr, ((hst₄.trans (Step.toG (st₅.weaken fun a h => .inl h.1))).trans (Step.toG (st₆.weaken fun a h => hS₅.live a (.inl h.1)))).trans (Step.toG (st₇.weaken RD))⟩
    | skip ha hs hi' hr =>
      refine wpAny_bind (wpAny_mono (ha A env K₄ s₄ _ v hA hE hS₄ rv) (fun _ s₅ h₅ => ?_) fun _ _ x => x.elim)
      obtain ⟨K₅, st₅, hS₅⟩ := h₅
      refine wpAny_bind (wpAny_mono (hi' A env K₅ s₅ _ _ hA hE hS₅) (fun b s₆ h₆ => ?_) fun _ _ x => x.elim)
      obtain ⟨K₆, st₆, rfl⟩ := h₆
      have hS₆ := hS₅.step st₆
      have hD₆ := ownK (hS₅.live D (.inl hRD)) (ownK (.inl hRD) hD₄ st₅) st₆
      rw [if_neg (by decide)]
      refine wpAny_bind (wpAny_pure ?_)
      have hT₆ := frame (frame hT₄ hS₄.ok (fun a ha => .inr ha) st₅) hS₅.ok (fun a ha => hS₅.live a (.inr ha)) st₆
      exact wpAny_pure ⟨rfl, its.length + 1 - (i + 1), by omega, i + 1, K₆, _, fp', hRf', hoff', rfl, hlt, hT₆, hS₆.forget hs, hD₆, hr, (hst₄.trans (Step.toG (st₅.weaken fun a h => .inl h.1))).trans (Step.toG (st₆.weaken fun a h => hS₅.live a (.inl h.1)))⟩
  · have hin : i = its.length := by omega
    subst hin
    rw [List.drop_length] at hTu
    cases hTu
    refine wpAny_mono (wk.done fp K' s' hTi hS'.ok) (fun r s₃ h₃ => ?_) fun _ _ x => x.elim
    obtain ⟨rfl, K₃, st₃⟩ := h₃
    refine wpAny_pure ⟨rfl, K₃, hst.trans (stR st₃), ?_, ownK ⟨hS'.live D (.inl hRD), hDf⟩ hD' st₃⟩
    exact hS'.stepFp st₃ (fun a h => Or.inr h) hoff (fun a h r => absurd h (hRf a r)) fun a r => .inl (Or.inl r)

theorem comp_start {e : Expr} {depth : Nat} {g : Comprehension} {it acc : Value} {env : Env} {A : Around} {s : Shared} {R : Result → Shared → Prop} (hld : IsLD e) (hg : (clausesOf e)[depth]? = some g) (ha : g.is_async = 0)
    (h0 : codeAny (model prog w) A (.compLoop e depth it acc env) R s)
    (h : wpAny (model prog w) A (pyIter it) (fun it' s' => codeAny (model prog w) A (.compLoop e depth it' acc env) R s') NoE s) :
    codeAny (model prog w) A (.compStart e depth it acc env) R s := by
  refine codeAny_of_tree ?_
  rw [(den_start (prog := prog) (w := w) hld).1, (den_start (A := A) hld).2]
  refine wpAny_notedAt ?_
  unfold compStart
  simp only [hg, Option.elim, ha]
  show wpAny _ A (ask >>= _) _ _ s
  refine wpAny_bind (wpAny_askSetting (wpAny_ite ?_))
  split
  · first
      | exact wpAny_bind (wpAny_pure (wpAny_pure (And.intro rfl h0)))
      | exact wpAny_pure (And.intro rfl h0)
  · refine wpAny_bind (wpAny_rule ?_)
    refine wpAny_bind (wpAny_standAt (wpAny_bind (wpAny_mono h (fun it' s' h' => wpAny_pure (And.intro rfl h')) fun _ _ x => x.elim)))

end
end Mine.Internal

end PartB11
section PartB12
open PySem PySem.W PyProof.Rows
set_option Elab.async false
set_option maxRecDepth 100000
set_option linter.unusedVariables false
namespace Mine.Internal

section
variable {prog : Program} {w : World} {h₀ : Heap} {d : Nat} {sc : Scope} {σ : Sig} {W : Str → Bool} {mg mb : Str → Option Value}

noncomputable abbrev wOf (scope : Scope) : Str → Bool := fun x => !(scope.names.lookup x == some .free)

/- the frame of a comprehension -/
theorem comp_frame {P : Params} {R : Addr → Prop} {env : Env} {K : KMap} {s : Shared} {scope : Scope} {cl : List (Str × Addr)} (hkind : scope.kind = .function) (hn : nodupB scope.names = true) (hfr : ∀ x, (x, NameKind.free) ∈ scope.names → sc.names.lookup x = some .cell)
    (hE : EnvOk sc env) (hS : St P h₀ R W σ env K s) {R' : Addr → Prop} (hR' : ∀ a, R' a → Alive s a)
    (h1 : ∀ x c, cl.lookup x = some c → env.cells.lookup x = some c) (h2 : ∀ x, (x, NameKind.free) ∈ scope.names → (cl.lookup x).isSome = true) (h3 : ∀ x, (cl.lookup x).isSome = true → (x, NameKind.free) ∈ scope.names) {cenv : Env}
    (hce : cenv = newEnv scope s.heap.objs.size env.globals (cellsFrom (s.heap.objs.size + 1) scope.names cl) env.qual none .none (some env) builtinsNs) :
    EnvOk (relab scope sc) { cenv with scope := relabel scope env } ∧
    St P h₀ R' (wOf scope) (capOf σ scope.names) { cenv with scope := relabel scope env } K { s with heap := pushCells (s.heap.push { cls := .type "dict", data := .dict #[] }) scope.names } ∧
    StepE s K { s with heap := pushCells (s.heap.push { cls := .type "dict", data := .dict #[] }) scope.names } K ∧
    (∀ n c, cenv.cells.lookup n = some c → (∃ n', env.cells.lookup n' = some c) ∨ s.heap.get? c = none) := by
  obtain ⟨m, oa, x⟩ := id hS
  have hlt : ∀ n c, env.cells.lookup n = some c → @LT.lt Nat _ c s.heap.objs.size := fun n c e => by obtain ⟨⟨_, _, e', _⟩, _⟩ := x.cell n c e; exact Heap.lt_size e'
  generalize hH : s.heap.push { cls := .type "dict", data := .dict #[] } = H
  have hsz : H.objs.size = s.heap.objs.size + 1 := by rw [← hH]; exact Heap.size_push ..
  have keep : ∀ b o, s.heap.get? b = some o → (pushCells H scope.names).get? b = some o := fun b o e => pushCells_keeps _ _ b o (by rw [← hH]; exact Heap.get?_push_of_some _ e)
  obtain ⟨c1, c2⟩ := cells_from scope.names H cl (fun n c e => by rw [hsz]; exact Nat.lt_succ_of_lt (hlt n c (h1 n c e))) (fun n n' c e e' => x.cellInj n n' c (h1 n c e) (h1 n' c e'))
  rw [hsz] at c1 c2
  have dead : ∀ b : Addr, @LE.le Nat _ s.heap.objs.size b → s.heap.get? b = none := fun b hb => by
    cases e : s.heap.get? b with
    | none => rfl
    | some o => exact absurd (Heap.lt_size e) (Nat.not_lt.mpr hb)
  have dL := dead s.heap.objs.size (Nat.le_refl _)
  have st : StepE s K { s with heap := pushCells H scope.names } K := StepE.same (tk := s.toks) x.sub keep
  have hcells : cenv.cells = cellsFrom (s.heap.objs.size + 1) scope.names cl := by rw [hce]; rfl
  have hlocals : cenv.locals = s.heap.objs.size := by rw [hce]; rfl
  have hck : ∀ n c, cenv.cells.lookup n = some c → (@LE.le Nat _ (s.heap.objs.size + 1) c ∧ (n, NameKind.cell) ∈ scope.names ∧ (pushCells H scope.names).IsCell c none) ∨ cl.lookup n = some c := by rw [hcells]; exact c1
  refine ⟨⟨?_, ?_, ?_, hkind, ?_⟩, ⟨fun _ => none, fun _ => [], ⟨x.base, st.sub, fun a r => st.alive (hR' a r) (hR' a r), ?_, fun r => ?_, ?_, fun n c e => ?_, fun n c hw e r => ?_, ?_, fun n sl e => ?_, fun n p e => ?_, fun n n' p q _ e => ?_⟩⟩, st, fun n c e => ?_⟩
  · show relabel scope env = relab scope sc
    unfold relabel relab Env.kindOf
    rw [hE.scope]
  · rw [hce]; exact hE.glob
  · rw [hce]; exact hE.bltn
  · intro n hl
    show (cenv.cells.lookup n).isSome = true
    rw [hcells]
    refine cells_from_some _ _ _ _ ?_
    have hm := mem_of_lookup hl
    obtain ⟨p, hp, e⟩ := List.mem_map.mp hm
    obtain ⟨n', k⟩ := p
    dsimp only at e
    split at e
    · rename_i hc
      cases e
      simp only [Bool.and_eq_true, beq_iff_eq] at hc
      have hk : k = .free := hc.1.1
      subst hk
      exact .inr (h2 _ hp)
    · cases e; exact .inl hp
  · show Heap.Ns _ cenv.locals _
    rw [hlocals]
    have := Heap.Ns.new s.heap (.type "dict")
    rw [hH] at this
    exact this.keeps (pushCells_keeps _ _)
  · have := hR' _ r
    rw [show cenv.locals = s.heap.objs.size from hlocals, Alive, dL] at this; cases this
  · show K cenv.locals = none
    rw [hlocals]; exact knone x.sub dL
  · rcases hck n c e with ⟨a, _, b⟩ | e'
    · exact ⟨⟨_, b⟩, knone x.sub (dead c (Nat.le_of_succ_le a)), by show c ≠ cenv.locals; rw [hlocals]; exact Nat.ne_of_gt a⟩
    · obtain ⟨⟨v, hv⟩, b, _⟩ := x.cell n c (h1 n c e')
      exact ⟨⟨v, hv.keeps keep⟩, b, by show c ≠ cenv.locals; rw [hlocals]; exact Nat.ne_of_lt (hlt n c (h1 n c e'))⟩
  · rcases hck n c e with ⟨a, _⟩ | e'
    · have := hR' _ r; rw [Alive, dead c (Nat.le_of_succ_le a)] at this; cases this
    · have hm := h3 n (by rw [e']; rfl)
      have := nodup_lookup hn hm
      simp [wOf, this] at hw
  · show ∀ n n' c, cenv.cells.lookup n = some c → cenv.cells.lookup n' = some c → n = n'
    rw [hcells]; exact c2
  · obtain ⟨hm, hl, p, rfl⟩ := capOf_lookup e
    obtain ⟨v, hat, hv⟩ := x.val n _ hl
    have hc := hfr n hm
    have hko : env.kindOf n = some .cell := by unfold Env.kindOf; rw [hE.scope]; exact hc
    refine ⟨v, ?_, Rep.mono st.mono hv⟩
    rcases hat with ⟨q, _⟩ | ⟨_, c, hcl, hcv⟩
    · rw [hko] at q; cases q
    · refine .inr ⟨.inl ?_, c, ?_, hcv.keeps keep⟩
      · show (relabel scope env).names.lookup n = some .cell
        have := relab_lookup (sc := sc) (nodup_lookup hn hm)
        have e : relabel scope env = relab scope sc := by unfold relabel relab Env.kindOf; rw [hE.scope]
        rw [e, this]; simp [hE.kind, hc]
      · show cenv.cells.lookup n = some c
        obtain ⟨c', e'⟩ := Option.isSome_iff_exists.mp (h2 n hm)
        have hcc := h1 n c' e'
        rw [hcl] at hcc; cases hcc
        obtain ⟨c'', e''⟩ := Option.isSome_iff_exists.mp (cells_from_some scope.names (s.heap.objs.size + 1) cl n (.inr (by rw [e']; rfl)))
        rw [hcells, e'']
        rcases c1 n c'' e'' with ⟨_, hm', _⟩ | e3
        · have e1 := nodup_lookup hn hm
          rw [nodup_lookup hn hm'] at e1; cases e1
        · rw [e'] at e3; cases e3; rfl
  · obtain ⟨_, _, q, e⟩ := capOf_lookup e; cases e
  · obtain ⟨_, _, q, e⟩ := capOf_lookup e; cases e
  · rcases hck n c e with ⟨a, _⟩ | e'
    · exact .inr (dead c (Nat.le_of_succ_le a))
    · exact .inl ⟨n, h1 n c e'⟩

/- the names that a comprehension takes from around are cells there -/
noncomputable def freeOk (scope sc : Scope) : Bool := scope.names.all fun p => !(p.2 == .free) || (sc.names.lookup p.1 == some .cell)
theorem freeOk_get {scope sc : Scope} (h : freeOk scope sc = true) {x : Str} (hm : (x, NameKind.free) ∈ scope.names) : sc.names.lookup x = some .cell := by
  have := List.all_eq_true.mp h _ hm
  simpa using this

structure CompOut (w : World) (h₀ : Heap) (K : KMap) (s : Shared) (acc : Value) (C : Addr) (q : PV) (r : Result) (s' : Shared) : Prop where
  ok : r = .ok .next
  out : ∃ K' D m, acc = .ref D ∧ StepE s K s' K' ∧ Own w.params K' s'.heap (.ref D) q [D] ∧ s.heap.get? D = none ∧ s.heap.get? C = none ∧ C ≠ D ∧ K' C = none ∧ s'.heap.Ns C m

theorem comp_core {e t iter : Expr} {ifs : List Expr} {g : Comprehension} {scope : Scope} {tg : Expr → Prop} {its : List PV} {em : Env → Value → Sem Unit} {p q : PV} {newAcc : Sem Value} {A : Around} {env : Env} {K : KMap} {s : Shared} {R : Addr → Prop} {cl : List (Str × Addr)}
    (hld : IsLD e) (hg : (clausesOf e)[0]? = some g) (hga : g.is_async = 0) (hq : TurnEq e 0 t ifs em) (ht : tg t) (hkind : scope.kind = .function) (hn : nodupB scope.names = true) (hfo : freeOk scope sc = true)
    (hacc : ∀ s (K : KMap) (hs : Ok h₀ K s) (Q : Value → Shared → Prop), (∀ s' D, StepE s K s' K → Own w.params K s'.heap (.ref D) p [D] → s.heap.get? D = none → Q (.ref D) s') → wpAny (model prog w) A newAcc Q NoE s)
    (hi : IterOK prog w h₀ d sc σ iter tg its) (hT : CompTurns prog w h₀ em t ifs d (relab scope sc) (wOf scope) (capOf σ scope.names) its p q)
    (hA : AOk d A) (hE : EnvOk sc env) (hS : St w.params h₀ R W σ env K s)
    (h1 : ∀ x c, cl.lookup x = some c → env.cells.lookup x = some c) (h2 : ∀ x, (x, NameKind.free) ∈ scope.names → (cl.lookup x).isSome = true) (h3 : ∀ x, (cl.lookup x).isSome = true → (x, NameKind.free) ∈ scope.names) :
    wpAny (model prog w) A (eval iter env) (fun x s₁ => wpAny (model prog w) A (pyIter x) (fun it s₂ => wpAny (model prog w) A newAcc (fun acc s₃ =>
      wpAny (model prog w) A (newFunctionEnv scope env.globals cl [] env.qual none .none (some env)) (fun cenv s₄ =>
        codeAny (model prog w) A (.compStart e 0 it acc { cenv with scope := relabel scope env }) (fun r s' => CompOut w h₀ K s acc cenv.locals q r s') s₄) NoE s₃) NoE s₂) NoE s₁) NoE s := by
  refine wpAny_mono (hi A env K s R _ hA hE hS) (fun x s₁ h₁ => wpAny_mono h₁ (fun it s₂ h₂ => ?_) fun _ _ x => x) fun _ _ x => x
  obtain ⟨K₂, T, fp, gp, st₂, hT0, hfr, hgp, wk⟩ := h₂
  refine hacc s₂ K₂ (hS.step st₂).ok _ fun s₃ D st₃ hD hDn => ?_
  have fpl := wk.live _ _ _ _ hT0
  have hDfp : D ∉ fp := fun h => by have := fpl D h; rw [Alive, hDn] at this; cases this
  have hOk₂ := (hS.step st₂).ok
  have hT3 : T 0 fp K₂ s₃ := wk.frame _ _ _ _ _ _ hT0 hOk₂ (hOk₂.step st₃) (fun a ha o e => st₃.get e) (fun a ha => rfl) (fun _ _ e => e) fun g hg => st₃.gens.2.2 g (wk.liveG _ _ _ _ hT0 g hg) (fun h => nomatch h)
  have st23 := st₂.trans st₃
  have hS₃ := hS.step st23
  refine new_comp_env ?_
  generalize hce : newEnv scope s₃.heap.objs.size env.globals (cellsFrom (s₃.heap.objs.size + 1) scope.names cl) env.qual none .none (some env) builtinsNs = cenv
  obtain ⟨hE', hS', st₄, hcs⟩ := comp_frame hkind hn (fun x hm => freeOk_get hfo hm) hE hS₃ (R' := Alive s₃) (fun _ h => h) h1 h2 h3 hce.symm
  generalize ({ s₃ with heap := pushCells (s₃.heap.push { cls := .type "dict", data := .dict #[] }) scope.names } : Shared) = s₄ at hS' st₄ ⊢
  have hCn : s₃.heap.get? cenv.locals = none := by rw [← hce]; exact size_none _
  have dead : ∀ a, s₃.heap.get? a = none → s.heap.get? a = none := fun a ha => by
    cases e : s.heap.get? a with
    | none => rfl
    | some o => have := st23.get e; rw [ha] at this; cases this
  have dead2 : ∀ a, s₂.heap.get? a = none → s.heap.get? a = none := fun a ha => by
    cases e : s.heap.get? a with
    | none => rfl
    | some o => have := st₂.get e; rw [ha] at this; cases this
  have hDa : Alive s₃ D := hD.alive D (.head _)
  have hcellAl : ∀ n c, env.cells.lookup n = some c → Alive s c := fun n c e => by
    obtain ⟨_, _, y⟩ := id hS
    obtain ⟨⟨_, _, e', _⟩, _⟩ := y.cell n c e; exact alive_of e'
  have hcD : ∀ n c, cenv.cells.lookup n = some c → c ≠ D := fun n c e => by
    rintro rfl
    rcases hcs n c e with ⟨n', e'⟩ | e'
    · have := hcellAl n' c e'; rw [Alive, dead2 c hDn] at this; cases this
    · rw [Alive, e'] at hDa; cases hDa
  have hoff : ∀ n c, cenv.cells.lookup n = some c → c ∉ fp := fun n c e hm => by
    rcases hcs n c e with ⟨n', e'⟩ | e'
    · have := hcellAl n' c e'; rw [Alive, hfr c hm] at this; cases this
    · have : Alive s₃ c := st₃.alive (fpl c hm) (fpl c hm)
      rw [Alive, e'] at this; cases this
  have hT4 : T 0 fp K₂ s₄ := wk.frame _ _ _ _ _ _ hT3 (hOk₂.step st₃) ((hOk₂.step st₃).step st₄) (fun a ha o e => st₄.get e) (fun a ha => rfl) (fun _ _ e => e) fun g hg => st₄.gens.2.2 g (wk.liveG _ _ _ _ hT3 g hg) (fun h => nomatch h)
  have hD4 : Own w.params K₂ s₄.heap (.ref D) p [D] := hD.keeps (fun _ _ e => e) (fun _ _ => rfl) fun a _ o e => st₄.get e
  have fp3 : ∀ a ∈ fp, Alive s₃ a := fun a ha => st₃.alive (fpl a ha) (fpl a ha)
  have key : codeAny (model prog w) A (.compLoop e 0 it (.ref D) { cenv with scope := relabel scope env }) (fun r s' => CompOut w h₀ K s (.ref D) cenv.locals q r s') s₄ := by
    refine codeAny_mono (comp_loop (R := fun a => Alive s₃ a ∧ a ∉ fp) hld hq ht hA hE' wk ⟨hDa, hDfp⟩ hcD fp (fun a r => r.2) hoff its.length 0 K₂ s₄ p q rfl (Nat.zero_le _) hT4 (hS'.weaken fun a r => r.elim (fun r => r.1) (fp3 a)) hD4 (by simpa using hT)) fun r s' h => ?_
    obtain ⟨rfl, K', st', hS'', hD'⟩ := h
    have stF : StepE s K s' K' := by
      refine Step.then (st23.trans st₄) (StepG.weaken st' (fun a ha => ⟨⟨st23.alive ha ha, fun hm => ?_⟩, ?_⟩)) hgp
      · rw [Alive, hfr a hm] at ha; cases ha
      · rintro rfl; rw [Alive, dead2 a hDn] at ha; cases ha
    obtain ⟨m, _, z⟩ := hS''
    exact ⟨rfl, K', D, m, rfl, stF, hD', dead2 D hDn, dead _ hCn, (fun h => by rw [← h] at hDa; rw [Alive, hCn] at hDa; cases hDa), z.nK, z.ns⟩
  refine comp_start hld hg hga key (wk.self 0 _ _ _ _ hT4 ((hOk₂.step st₃).step st₄) key)
end
end Mine.Internal

end PartB12
section PartB13
open PySem PySem.W PyProof.Rows
set_option Elab.async false
set_option maxRecDepth 100000
set_option linter.unusedVariables false
namespace Mine.Internal

theorem bc {α β : Type} {x : Sem α} {f g : α → Sem β} (h : ∀ a, f a = g a) : (x >>= f) = (x >>= g) := congrArg _ (funext h)
noncomputable def emL (elt : Expr) (env : Env) (acc : Value) : Sem Unit := do let _ ← call (.builtin "list.append") [acc, ← eval elt env]
noncomputable def emD (kx vx : Expr) (env : Env) (acc : Value) : Sem Unit := do
  let kv ← eval kx env
  let vv ← holding [kv] (eval vx env)
  match acc with
  | .ref d => do
    standAt { kx.pos with endLine := vx.pos.endLine, endCol := vx.pos.endCol }
    holding [kv, vv] (dictSet d kv vv)
  | _ => unsupported "internal:dictcomp"
noncomputable def emN (e iter : Expr) (env : Env) (acc : Value) : Sem Unit := do
  let x ← eval iter env
  standAt iter.pos
  let x ← foldedSetIterable iter env x
  let _ ← runOwn (.compStart e 1 (← holding [x] (pyIter x)) acc env) env

section
variable {prog : Program} {w : World} {h₀ : Heap} {d : Nat} {sc : Scope} {σ : Sig} {W : Str → Bool} {mg mb : Str → Option Value}

theorem turn_list (elt t iter : Expr) (ifs : List Expr) (scope : Scope) (pos : Pos) : TurnEq (.ListComp elt [⟨t, iter, ifs, 0⟩] scope pos) 0 t ifs (emL elt) := ⟨iter.pos, fun it D env => by
  rw [compTurn_list]
  refine bc fun _ => bc fun r => ?_
  cases r with
  | none => rfl
  | some v =>
    refine bc fun _ => bc fun _ => bc fun ok => ?_
    cases ok <;> rfl⟩
theorem turn_dict (kx vx t iter : Expr) (ifs : List Expr) (scope : Scope) (pos : Pos) : TurnEq (.DictComp kx vx [⟨t, iter, ifs, 0⟩] scope pos) 0 t ifs (emD kx vx) := ⟨iter.pos, fun it D env => by
  rw [compTurn_dict]
  refine bc fun _ => bc fun r => ?_
  cases r with
  | none => rfl
  | some v =>
    refine bc fun _ => bc fun _ => bc fun ok => ?_
    cases ok <;> rfl⟩
theorem turn_outer (elt t iter t' iter' : Expr) (ifs ifs' : List Expr) (scope : Scope) (pos : Pos) : TurnEq (.ListComp elt [⟨t, iter, ifs, 0⟩, ⟨t', iter', ifs', 0⟩] scope pos) 0 t ifs (emN (.ListComp elt [⟨t, iter, ifs, 0⟩, ⟨t', iter', ifs', 0⟩] scope pos) iter') := ⟨iter.pos, fun it D env => by
  have h : compTurn (.ListComp elt [⟨t, iter, ifs, 0⟩, ⟨t', iter', ifs', 0⟩] scope pos) 0 it (.ref D) env = (do
      standAt iter.pos
      match ← pyNext it with
      | none => pure (.done .next)
      | some v =>
        letOwnedTupleGo t it v
        assign t env v
        let mut ok := true
        for c in ifs do
          if ok then ok ← isTrue c env (eval c env)
        if ok then
          let x ← eval iter' env
          standAt iter'.pos
          let x ← foldedSetIterable iter' env x
          let _ ← runOwn (.compStart (.ListComp elt [⟨t, iter, ifs, 0⟩, ⟨t', iter', ifs', 0⟩] scope pos) 1 (← holding [x] (pyIter x)) (.ref D) env) env
        again (.compLoop (.ListComp elt [⟨t, iter, ifs, 0⟩, ⟨t', iter', ifs', 0⟩] scope pos) 0 it (.ref D) env)) := by rfl
  rw [h]
  refine bc fun _ => bc fun r => ?_
  cases r with
  | none => rfl
  | some v =>
    refine bc fun _ => bc fun _ => bc fun ok => ?_
    cases ok
    · rfl
    · simp only [emN, bind_assoc, pure_bind, if_true]⟩
theorem turn_inner (elt t iter t' iter' : Expr) (ifs ifs' : List Expr) (scope : Scope) (pos : Pos) : TurnEq (.ListComp elt [⟨t, iter, ifs, 0⟩, ⟨t', iter', ifs', 0⟩] scope pos) 1 t' ifs' (emL elt) := ⟨iter'.pos, fun it D env => by
  have h : compTurn (.ListComp elt [⟨t, iter, ifs, 0⟩, ⟨t', iter', ifs', 0⟩] scope pos) 1 it (.ref D) env = (do
      standAt iter'.pos
      match ← pyNext it with
      | none => pure (.done .next)
      | some v =>
        letOwnedTupleGo t' it v
        assign t' env v
        let mut ok := true
        for c in ifs' do
          if ok then ok ← isTrue c env (eval c env)
        if ok then
          (do let _ ← call (.builtin "list.append") [.ref D, ← eval elt env])
        again (.compLoop (.ListComp elt [⟨t, iter, ifs, 0⟩, ⟨t', iter', ifs', 0⟩] scope pos) 1 it (.ref D) env)) := by rfl
  rw [h]
  refine bc fun _ => bc fun r => ?_
  cases r with
  | none => rfl
  | some v =>
    refine bc fun _ => bc fun _ => bc fun ok => ?_
    cases ok <;> rfl⟩

theorem Own.step {P : Params} {K K' : KMap} {s s' : Shared} {D : Addr} {p : PV} {R : Addr → Prop} (x : Own P K s.heap (.ref D) p [D]) (st : Step R s K s' K') (hD : R D) : Own P K' s'.heap (.ref D) p [D] :=
  x.keeps st.mono (fun a ha => st.old a (by rw [List.mem_singleton.mp ha]; exact hD)) fun a ha o e => st.heap a (by rw [List.mem_singleton.mp ha]; exact hD) o e

/- the display under way is turned in place -/
theorem St.display {P : Params} {R : Addr → Prop} {env : Env} {K : KMap} {s : Shared} {D : Addr} {h' : Heap} {tk : Nat} {p p' : PV} (hS : St P h₀ R W σ env K s) (hRD : R D) (hcD : ∀ n c, env.cells.lookup n = some c → c ≠ D) (hD : Own P K s.heap (.ref D) p [D])
    (hs : Heap.SameBut D s.heap h') (hD' : Own P K h' (.ref D) p' [D]) : Step (fun a => R a ∧ a ≠ D) s K { s with heap := h', toks := tk } K ∧ St P h₀ R W σ env K { s with heap := h', toks := tk } := by
  have st : Step (fun a => Alive s a ∧ a ∉ [D]) s K { s with heap := h', toks := tk } K := ⟨fun a r o e => hs.extBut a o (fun h => r.2 (by rw [h]; exact .head _)) e, fun a o e => hs.extBut a o (fun h => by rw [h, hD.knone D (.head _)] at e; cases e) (hS.sub a o e), fun _ _ e => e, fun _ _ => rfl, ⟨id, Nat.le_refl _, fun _ _ _ => rfl⟩, rfl⟩
  refine ⟨st.weaken fun a r => ⟨hS.live a r.1, fun h => r.2 (List.mem_singleton.mp h)⟩, ?_⟩
  exact hS.stepFp st (fun a h => by rw [List.mem_singleton.mp h]; exact hRD) (fun n c e h => hcD n c e (List.mem_singleton.mp h)) (fun a h _ => hD'.alive a h) fun a r => .inl r

theorem emit_list {elt : Expr} {xs : List PV} {q : PV} (he : EvOK prog w h₀ d sc σ elt q) (hsz : xs.length ≤ sizeLine) : EmitOK prog w h₀ (emL elt) d sc W σ (.lst xs) (.lst (xs ++ [q])) := fun A env K s R D hA hE hS hRD hcD hD => by
  refine wpAny_bind ((he A env K s R W hA hE hS).mono fun v s₁ K₁ st₁ rv => wpAny_bind ?_)
  have hD₁ := hD.step st₁ (hS.live D hRD)
  obtain ⟨a, vs, n, e1, _, kn, e2, rs⟩ := Own.lst_inv hD₁
  cases e1
  refine wpAny_list_append_plain (items := vs.toArray) ⟨n, e2⟩ (fun h' hl' hs' => ?_) (by rw [List.size_toArray, rs.length]; exact hsz)
  obtain ⟨n', e'⟩ := hl'
  have hD' : Own w.params K₁ h' (.ref D) (.lst (xs ++ [q])) [D] := .lst (vs := vs ++ [v]) (n := n') kn (by rw [e']; simp) (rs.append (.one rv))
  obtain ⟨st₂, hS₂⟩ := St.display (tk := s₁.toks) (hS.step st₁) hRD hcD hD₁ hs' hD'
  exact wpAny_pure ⟨K₁, (st₁.weaken fun a r => hS.live a r.1).trans st₂, hS₂, hD'⟩

theorem emit_nested {e iter t : Expr} {ifs : List Expr} {g : Comprehension} {em : Env → Value → Sem Unit} {tg : Expr → Prop} {its : List PV} {p q : PV} (hld : IsLD e) (hg : (clausesOf e)[1]? = some g) (hga : g.is_async = 0) (hq : TurnEq e 1 t ifs em) (ht : tg t)
    (hi : IterOK prog w h₀ d sc σ iter tg its) (hT : CompTurns prog w h₀ em t ifs d sc W σ its p q) (hf : ∀ env x, foldedSetIterable iter env x = pure x := by intro _ _; rfl) : EmitOK prog w h₀ (emN e iter) d sc W σ p q := fun A env K s R D hA hE hS hRD hcD hD => by
  refine wpAny_bind (wpAny_mono (hi A env K s R W hA hE hS) (fun x s₁ h₁ => wpAny_bind (wpAny_standAt ?_)) fun _ _ x => x)
  rw [hf]
  refine wpAny_bind (wpAny_pure (wpAny_bind (wpAny_holding (wpAny_mono h₁ (fun it s₂ h₂ => ?_) fun _ _ x => x))))
  obtain ⟨K₂, T, fp, gp, st₂, hT0, hfr, hgp, wk⟩ := h₂
  have hS₂ := hS.more st₂ hfr (wk.live _ _ _ _ hT0)
  have hRf : ∀ a, R a → a ∉ fp := fun a r h => by have := hS.live a r; rw [Alive, hfr a h] at this; cases this
  have hoff : ∀ n c, env.cells.lookup n = some c → c ∉ fp := fun n c e h => by
    obtain ⟨_, _, y⟩ := id hS
    obtain ⟨⟨_, _, e', _⟩, _⟩ := y.cell n c e
    rw [hfr c h] at e'; cases e'
  have hD₂ := hD.step st₂ (hS.live D hRD)
  have key : codeAny (model prog w) A (.compLoop e 1 it (.ref D) env) (fun r s' => match r with | .ok _ => ∃ K', Step (fun a => R a ∧ a ≠ D) s K s' K' ∧ St w.params h₀ R W σ env K' s' ∧ Own w.params K' s'.heap (.ref D) q [D] | .error e => cameBackBy (model prog w) A env NoE e s') s₂ := by
    refine codeAny_mono (comp_loop hld hq ht hA hE wk hRD hcD fp hRf hoff its.length 0 K₂ s₂ p q rfl (Nat.zero_le _) hT0 hS₂ hD₂ (by simpa using hT)) fun r s' h => ?_
    obtain ⟨rfl, K', st', hS', hD'⟩ := h
    exact ⟨K', Step.then (st₂.weaken fun a r => hS.live a r.1) st' hgp, hS', hD'⟩
  refine wpAny_bind (wpAny_runOwn (comp_start hld hg hga ?_ (wk.self 0 _ _ _ _ hT0 hS₂.ok ?_)))
  · exact codeAny_mono key fun r s' h => by
      cases r with
      | ok f => exact wpAny_pure h
      | error e => exact h
  · exact codeAny_mono key fun r s' h => by
      cases r with
      | ok f => exact wpAny_pure h
      | error e => exact h

/- the closure that a comprehension's frame takes -/
theorem closure_ok {env : Env} {scope : Scope} (hE : EnvOk sc env) (hfo : freeOk scope sc = true) :
    ∃ cl, closureFor scope env = pure cl ∧ (∀ x c, cl.lookup x = some c → env.cells.lookup x = some c) ∧ (∀ x, (x, NameKind.free) ∈ scope.names → (cl.lookup x).isSome = true) ∧ (∀ x, (cl.lookup x).isSome = true → (x, NameKind.free) ∈ scope.names) := by
  obtain ⟨cl, e, h1, h2, h3⟩ := closure_of (env := env) (fun p cs => if (p.2 == .free) = true then (do let a ← cellOf env p.1; pure (.yield ((p.1, a) :: cs))) else pure (.yield cs)) (fun _ _ _ => rfl) scope.names [] (fun p hp hk => hE.laid _ (freeOk_get hfo (hk ▸ hp))) (fun x c e => by simp at e)
  refine ⟨cl, ?_, h1, fun x hx => h2 x (.inl hx), fun x hx => (h3 x hx).elim id fun h => by simp at h⟩
  rw [← e]
  unfold closureFor
  simp only [bind_pure]
end
end Mine.Internal

end PartB13
section PartB14
open PySem PySem.W PyProof.Rows
set_option Elab.async false
set_option maxRecDepth 100000
set_option linter.unusedVariables false
namespace Mine.Internal

section
variable {prog : Program} {w : World} {h₀ : Heap} {d : Nat} {sc : Scope} {σ : Sig} {W : Str → Bool} {mg mb : Str → Option Value}

theorem Step.but {R : Addr → Prop} {s s' : Shared} {K K' : KMap} {C : Addr} {h' : Heap} (x : Step R s K s' K') (hR : ¬ R C) (hK : K' C = none) (hs : Heap.SameBut C s'.heap h') : Step R s K { s' with heap := h' } K' :=
  ⟨fun a r o e => hs.extBut a o (fun h => hR (h ▸ r)) (x.heap a r o e), fun a o e => hs.extBut a o (fun h => by rw [h, hK] at e; cases e) (x.sub a o e), x.mono, x.old, x.gens, x.os⟩

structure CompArgs (prog : Program) (w : World) (h₀ : Heap) (d : Nat) (sc : Scope) (σ : Sig) (e t iter : Expr) (ifs : List Expr) (scope : Scope) (newAcc : Sem Value) (em : Env → Value → Sem Unit) (tg : Expr → Prop) (its : List PV) (p q : PV) : Prop where
  ld : IsLD e
  cls : ∃ gs, clausesOf e = ⟨t, iter, ifs, 0⟩ :: gs
  turn : TurnEq e 0 t ifs em
  tgt : tg t
  kind : scope.kind = .function
  nod : nodupB scope.names = true
  free : freeOk scope sc = true
  acc : ∀ {A : Around} s (K : KMap) (hs : Ok h₀ K s) (Q : Value → Shared → Prop), (∀ s' D, StepE s K s' K → Own w.params K s'.heap (.ref D) p [D] → s.heap.get? D = none → Q (.ref D) s') → wpAny (model prog w) A newAcc Q NoE s
  it : IterOK prog w h₀ d sc σ iter tg its
  turns : CompTurns prog w h₀ em t ifs d (relab scope sc) (wOf scope) (capOf σ scope.names) its p q
  fold : ∀ env x, foldedSetIterable iter env x = pure x

theorem comp_run {e t iter : Expr} {ifs : List Expr} {scope : Scope} {newAcc : Sem Value} {em : Env → Value → Sem Unit} {tg : Expr → Prop} {its : List PV} {p q : PV} (H : CompArgs prog w h₀ d sc σ e t iter ifs scope newAcc em tg its p q) {A : Around} {env : Env} {K : KMap} {s : Shared} {R : Addr → Prop} {pos : Pos} {use : Option (Value → Sem Unit)} {Q : Value → Shared → Prop}
    (hA : AOk d A) (hE : EnvOk sc env) (hS : St w.params h₀ R W σ env K s) (hQ : ∀ acc C r s', CompOut w h₀ K s acc C q r s' → compPost (model prog w) A NoE use Q acc C r s') :
    wpAny (model prog w) A (comprehension e scope env pos newAcc false (eval iter env) use) Q NoE s := by
  obtain ⟨gs, hcl⟩ := H.cls
  obtain ⟨cl, hclos, h1, h2, h3⟩ := closure_ok hE H.free
  refine wpAny_comprehension_free hcl (H.fold env) hclos H.kind (fun x hx hk => nodup_lookup H.nod (hk ▸ hx)) ?_
  refine wpAny_mono (comp_core H.ld (by rw [hcl]; rfl) rfl H.turn H.tgt H.kind H.nod H.free H.acc H.it H.turns hA hE hS h1 h2 h3) (fun x s₁ h => wpAny_mono h (fun it s₂ h => wpAny_mono h (fun acc s₃ h => wpAny_mono h (fun cenv s₄ h => ?_) fun _ _ x => x) fun _ _ x => x) fun _ _ x => x) fun _ _ x => x
  exact codeAny_mono h fun r s' h => hQ _ _ _ _ h

theorem new_comp {e t iter : Expr} {ifs : List Expr} {scope : Scope} {newAcc : Sem Value} {em : Env → Value → Sem Unit} {tg : Expr → Prop} {its : List PV} {p q : PV} {pos : Pos} (H : CompArgs prog w h₀ d sc σ e t iter ifs scope newAcc em tg its p q)
    (he : ∀ env, eval e env = comprehension e scope env pos newAcc false (eval iter env)) : EvNew prog w h₀ d sc σ e q := fun A env K s R W hA hE hS => by
  rw [he]
  refine comp_run H hA hE hS fun acc C r s' h => ?_
  obtain ⟨rfl, K', D, m, rfl, st, hD, hDn, hCn, hCD, hKC, hn⟩ := h
  refine ⟨m, hn, fun h' hs => ⟨K', [D], st.but (fun h => by rw [Alive, hCn] at h; cases h) hKC hs, hD.keeps (fun _ _ e => e) (fun _ _ => rfl) fun a ha o e => hs.extBut a o (fun h => by rw [List.mem_singleton.mp ha] at h; exact hCD h.symm) e, fun a ha => by rw [List.mem_singleton.mp ha]; exact hDn⟩⟩

theorem acc_list {A : Around} (s : Shared) (K : KMap) (hO : Ok h₀ K s) (Q : Value → Shared → Prop) (h : ∀ s' D, StepE s K s' K → Own w.params K s'.heap (.ref D) (.lst []) [D] → s.heap.get? D = none → Q (.ref D) s') : wpAny (model prog w) A (newList []) Q NoE s := by
  have hs := hO.sub
  refine wpAny_newList (h _ _ (StepE.same (tk := s.toks) hs fun _ _ e => Heap.get?_push_of_some _ e) (.lst (vs := []) (n := 0) (knone hs (size_none _)) (Heap.get?_push_size _ rfl) .nil) (size_none _)) (by decide)

theorem args_list {elt t iter : Expr} {ifs : List Expr} {scope : Scope} {pos : Pos} {tg : Expr → Prop} {its : List PV} {q : PV} (it : IterOK prog w h₀ d sc σ iter tg its) (turns : CompTurns prog w h₀ (emL elt) t ifs d (relab scope sc) (wOf scope) (capOf σ scope.names) its (.lst []) q) (ht : tg t)
    (kind : scope.kind = .function) (nod : nodupB scope.names = true) (free : freeOk scope sc = true) (fold : ∀ env x, foldedSetIterable iter env x = pure x) :
    CompArgs prog w h₀ d sc σ (.ListComp elt [⟨t, iter, ifs, 0⟩] scope pos) t iter ifs scope (newList []) (emL elt) tg its (.lst []) q :=
  ⟨.inl ⟨_, _, _, _, rfl⟩, ⟨[], rfl⟩, turn_list .., ht, kind, nod, free, acc_list, it, turns, fold⟩
theorem args_list2 {elt t iter t' iter' : Expr} {ifs ifs' : List Expr} {scope : Scope} {pos : Pos} {tg : Expr → Prop} {its : List PV} {q : PV} (it : IterOK prog w h₀ d sc σ iter tg its) (turns : CompTurns prog w h₀ (emN (.ListComp elt [⟨t, iter, ifs, 0⟩, ⟨t', iter', ifs', 0⟩] scope pos) iter') t ifs d (relab scope sc) (wOf scope) (capOf σ scope.names) its (.lst []) q) (ht : tg t)
    (kind : scope.kind = .function) (nod : nodupB scope.names = true) (free : freeOk scope sc = true) (fold : ∀ env x, foldedSetIterable iter env x = pure x) :
    CompArgs prog w h₀ d sc σ (.ListComp elt [⟨t, iter, ifs, 0⟩, ⟨t', iter', ifs', 0⟩] scope pos) t iter ifs scope (newList []) (emN (.ListComp elt [⟨t, iter, ifs, 0⟩, ⟨t', iter', ifs', 0⟩] scope pos) iter') tg its (.lst []) q :=
  ⟨.inl ⟨_, _, _, _, rfl⟩, ⟨_, rfl⟩, turn_outer .., ht, kind, nod, free, acc_list, it, turns, fold⟩

/- [elt for t in iter ..] -/
theorem new_listcomp {elt t iter : Expr} {ifs : List Expr} {scope : Scope} {pos : Pos} {tg : Expr → Prop} {its : List PV} {q : PV} (it : IterOK prog w h₀ d sc σ iter tg its) (turns : CompTurns prog w h₀ (emL elt) t ifs d (relab scope sc) (wOf scope) (capOf σ scope.names) its (.lst []) q) (ht : tg t)
    (kind : scope.kind = .function := by rfl) (nod : nodupB scope.names = true := by rfl) (free : freeOk scope sc = true := by rfl) (fold : ∀ env x, foldedSetIterable iter env x = pure x := by intro _ _; rfl) :
    EvNew prog w h₀ d sc σ (.ListComp elt [⟨t, iter, ifs, 0⟩] scope pos) q := new_comp (pos := iter.pos) (args_list it turns ht kind nod free fold) fun _ => rfl

theorem swaps_yes {e : Expr} {scope : Scope} {x : Str} {xpos : Pos} {line : Nat} {env : Env} (hE : EnvOk sc env) (hs : (∃ a b p, e = .ListComp a b scope p) ∨ ∃ a b c p, e = .DictComp a b c scope p) (hl : sc.names.lookup x = some .local) (hline : (xpos.line == e.pos.line) = true)
    (hno : (scope.names.any fun p => p.1 == x && (p.2 == .local || p.2 == .cell)) = false) : swapsWith e (some (.Name x xpos)) line env = pure true := by
  have hk : env.kindOf x = some .local := by unfold Env.kindOf; rw [hE.scope]; exact hl
  have hb : env.blockKind = .function := by unfold Env.blockKind; rw [hE.scope, hE.kind]; rfl
  have : swapsWith e (some (.Name x xpos)) line env = pure (env.blockKind == .function && env.kindOf x == some .local && xpos.line == e.pos.line && !(scope.names.any fun p => p.1 == x && (p.2 == .local || p.2 == .cell))) := by
    rcases hs with ⟨_, _, _, rfl⟩ | ⟨_, _, _, _, rfl⟩ <;> rfl
  rw [this, hb, hk, hline, hno]; rfl
theorem swaps_no {e : Expr} {scope : Scope} {x : Str} {xpos : Pos} {line : Nat} {env : Env} (hE : EnvOk sc env) (hs : (∃ a b p, e = .ListComp a b scope p) ∨ ∃ a b c p, e = .DictComp a b c scope p) (hl : sc.names.lookup x = some .cell) : swapsWith e (some (.Name x xpos)) line env = pure false := by
  have hk : env.kindOf x = some .cell := by unfold Env.kindOf; rw [hE.scope]; exact hl
  have : swapsWith e (some (.Name x xpos)) line env = pure (env.blockKind == .function && env.kindOf x == some .local && xpos.line == e.pos.line && !(scope.names.any fun p => p.1 == x && (p.2 == .local || p.2 == .cell))) := by
    rcases hs with ⟨_, _, _, rfl⟩ | ⟨_, _, _, _, rfl⟩ <;> rfl
  rw [this, hk]
  have : (some NameKind.cell == some NameKind.local) = false := by decide
  rw [this]; simp

/- a fresh value goes under a name while fp stands by -/
theorem store_own_fp {A : Around} {E : Value → Shared → Prop} {R : Addr → Prop} {env : Env} {K K' : KMap} {s s' : Shared} {x : Str} {v : Value} {p : PV} {l fp : List Addr} {Q : Unit → Shared → Prop}
    (hE : EnvOk sc env) (hS : St w.params h₀ R W σ env K s) (st : StepE s K s' K') (hc : CanSt sc x) (hW : W x = true) (hv : Own w.params K' s'.heap v p l) (hf : ∀ a ∈ l, s.heap.get? a = none) (hfp : ∀ a ∈ fp, s.heap.get? a = none) (hfl : ∀ a ∈ fp, Alive s' a) (hlf : ∀ a ∈ l, a ∉ fp)
    (hQ : ∀ s'', Step (fun a => R a ∨ a ∈ fp) s' K' s'' K' → St w.params h₀ (fun a => R a ∨ a ∈ fp) W (upd σ x (.own p)) env K' s'' → Q () s'') : wpAny (model prog w) A (storeName env x v) Q E s' := by
  obtain ⟨m, oa, hS₀⟩ := id hS
  have dead : ∀ a ∈ l, ∀ b, Alive s b → a ≠ b := fun a ha b hb h => by subst h; rw [Alive, hf a ha] at hb; cases hb
  have deadf : ∀ a ∈ fp, ∀ b, Alive s b → a ≠ b := fun a ha b hb h => by subst h; rw [Alive, hfp a ha] at hb; cases hb
  have hS' := hS₀.step st
  have hL : Alive s env.locals := by obtain ⟨_, _, _, e, _⟩ := hS₀.ns; exact alive_of e
  have hC : ∀ n c, env.cells.lookup n = some c → Alive s c := fun n c e => by obtain ⟨⟨_, _, e', _⟩, _⟩ := hS₀.cell n c e; exact alive_of e'
  have hO : ∀ y q, σ.lookup y = some (.own q) → ∀ a ∈ oa y, Alive s a := fun y q e a ha => by obtain ⟨u, _, hu⟩ := hS₀.val y _ e; exact hu.alive a ha
  have hSf : StI w.params h₀ (fun a => R a ∨ a ∈ fp) W σ env K' s' m oa := ⟨hS'.base, hS'.sub, fun a r => r.elim (hS'.live a) (hfl a), hS'.ns, fun r => r.elim hS'.nR (fun h => deadf _ h _ hL rfl), hS'.nK, hS'.cell, fun n c hw e r => r.elim (hS'.cellR n c hw e) (fun h => deadf _ h _ (hC n c e) rfl), hS'.cellInj, hS'.val, fun n q e a ha => ⟨fun r => r.elim (hS'.ownR n q e a ha).1 (fun h => deadf _ h _ (hO n q e a ha) rfl), (hS'.ownR n q e a ha).2⟩, hS'.disj⟩
  refine store_name (sl := .own p) (l := l) hE hSf (hE.can hc) hW hv (fun q e a ha => ?_) hQ
  exact ⟨fun r => r.elim (fun r => dead a ha a (hS₀.live a r) rfl) (hlf a ha), dead a ha _ hL, fun y c hc => dead a ha c (hC y c hc), fun y q _ hy hm => dead a ha a (hO y q hy a hm) rfl⟩

/- x = [..] of one line -/
theorem st_assign_comp {e t iter : Expr} {ifs : List Expr} {scope : Scope} {newAcc : Sem Value} {em : Env → Value → Sem Unit} {tg : Expr → Prop} {its : List PV} {p q : PV} {x : Str} {xpos pos cpos : Pos} (H : CompArgs prog w h₀ d sc σ e t iter ifs scope newAcc em tg its p q)
    (hs : (∃ a b p, e = .ListComp a b scope p) ∨ ∃ a b c p, e = .DictComp a b c scope p) (hu : ∀ env u, evalThenUse e env u = (do let _ ← comprehension e scope env cpos newAcc false (eval iter env) (some u)))
    (hl : sc.names.lookup x = some .local) (hline : (xpos.line == e.pos.line) = true) (hno : (scope.names.any fun p => p.1 == x && (p.2 == .local || p.2 == .cell)) = false) :
    ExSt prog w h₀ d sc σ (.Assign [.Name x xpos] e pos) (.next (upd σ x (.own q))) := fun A env K s R hA hE hS => by
  rw [exec_Assign_Name_used _ _ _ _ (swaps_yes hE hs hl hline hno), hu]
  refine wpAny_bind (wpAny_standAt (wpAny_bind (wpAny_bind ?_)))
  refine comp_run H hA hE hS fun acc C r s' h => ?_
  obtain ⟨rfl, K', D, m, rfl, st, hD, hDn, hCn, hCD, hKC, hn⟩ := h
  have hCa : Alive s' C := by obtain ⟨_, _, _, e, _⟩ := hn; exact alive_of e
  refine wpAny_assign_Name (store_own_fp (fp := [C]) hE hS st (.inl hl) rfl hD (fun a ha => by rw [List.mem_singleton.mp ha]; exact hDn) (fun a ha => by rw [List.mem_singleton.mp ha]; exact hCn) (fun a ha => by rw [List.mem_singleton.mp ha]; exact hCa)
    (fun a ha h => by rw [List.mem_singleton.mp ha] at h; exact hCD (List.mem_singleton.mp h).symm) fun s'' st'' hS'' => ?_)
  refine ⟨m, hn.at' fun o e => st''.heap C (.inr (.head _)) o e, fun h' hs' => wpAny_pure (wpAny_pure ⟨K', ?_, ?_⟩)⟩
  · have nR : ¬ R C := fun r => by have := hS.live C r; rw [Alive, hCn] at this; cases this
    exact ((st.from hS).trans (st''.weaken fun a r => .inl r)).but nR hKC hs'
  · have st3 : Step (fun a => Alive s'' a ∧ a ∉ [C]) s'' K' { s'' with heap := h' } K' := ⟨fun a r o e => hs'.extBut a o (fun h => r.2 (by rw [h]; exact .head _)) e, fun a o e => hs'.extBut a o (fun h => by rw [h, hKC] at e; cases e) (st''.sub a o e), fun _ _ e => e, fun _ _ => rfl, ⟨id, Nat.le_refl _, fun _ _ _ => rfl⟩, rfl⟩
    have nR : ¬ R C := fun r => by have := hS.live C r; rw [Alive, hCn] at this; cases this
    refine hS''.stepFp (fp := [C]) (R' := R) st3 (fun a h => .inr h) (fun n c e h => ?_) (fun a h r => ?_) fun a r => .inl (.inl r)
    · obtain ⟨_, _, y⟩ := id hS
      obtain ⟨⟨_, _, e', _⟩, _⟩ := y.cell n c e
      rw [List.mem_singleton.mp h, hCn] at e'; cases e'
    · rw [List.mem_singleton.mp h] at r; exact absurd r nR
theorem st_assign_listcomp {elt t iter : Expr} {ifs : List Expr} {scope : Scope} {pos cpos xpos : Pos} {x : Str} {tg : Expr → Prop} {its : List PV} {q : PV} (it : IterOK prog w h₀ d sc σ iter tg its) (turns : CompTurns prog w h₀ (emL elt) t ifs d (relab scope sc) (wOf scope) (capOf σ scope.names) its (.lst []) q) (ht : tg t)
    (kind : scope.kind = .function := by rfl) (nod : nodupB scope.names = true := by rfl) (free : freeOk scope sc = true := by rfl) (fold : ∀ env x, foldedSetIterable iter env x = pure x := by intro _ _; rfl)
    (hl : sc.names.lookup x = some .local := by rfl) (hline : (xpos.line == cpos.line) = true := by rfl) (hno : (scope.names.any fun p => p.1 == x && (p.2 == .local || p.2 == .cell)) = false := by rfl) :
    ExSt prog w h₀ d sc σ (.Assign [.Name x xpos] (.ListComp elt [⟨t, iter, ifs, 0⟩] scope cpos) pos) (.next (upd σ x (.own q))) :=
  st_assign_comp (cpos := iter.pos) (args_list it turns ht kind nod free fold) (.inl ⟨_, _, _, rfl⟩) (fun _ _ => rfl) hl hline hno
theorem st_assign_listcomp2 {elt t iter t' iter' : Expr} {ifs ifs' : List Expr} {scope : Scope} {pos cpos xpos : Pos} {x : Str} {tg : Expr → Prop} {its : List PV} {q : PV} (it : IterOK prog w h₀ d sc σ iter tg its) (turns : CompTurns prog w h₀ (emN (.ListComp elt [⟨t, iter, ifs, 0⟩, ⟨t', iter', ifs', 0⟩] scope cpos) iter') t ifs d (relab scope sc) (wOf scope) (capOf σ scope.names) its (.lst []) q) (ht : tg t)
    (kind : scope.kind = .function) (nod : nodupB scope.names = true) (free : freeOk scope sc = true) (fold : ∀ env x, foldedSetIterable iter env x = pure x)
    (hl : sc.names.lookup x = some .local) (hline : (xpos.line == cpos.line) = true) (hno : (scope.names.any fun p => p.1 == x && (p.2 == .local || p.2 == .cell)) = false) :
    ExSt prog w h₀ d sc σ (.Assign [.Name x xpos] (.ListComp elt [⟨t, iter, ifs, 0⟩, ⟨t', iter', ifs', 0⟩] scope cpos) pos) (.next (upd σ x (.own q))) :=
  st_assign_comp (cpos := iter.pos) (args_list2 it turns ht kind nod free fold) (.inl ⟨_, _, _, rfl⟩) (fun _ _ => rfl) hl hline hno
/- x = [..], x a cell -/
theorem st_assign_cell {e : Expr} {scope : Scope} {x : Str} {xpos pos : Pos} {p : PV} (h : EvNew prog w h₀ d sc σ e p) (hs : (∃ a b p, e = .ListComp a b scope p) ∨ ∃ a b c p, e = .DictComp a b c scope p) (hl : sc.names.lookup x = some .cell) :
    ExSt prog w h₀ d sc σ (.Assign [.Name x xpos] e pos) (.next (upd σ x (.own p))) := fun A env K s R hA hE hS => by
  refine wpAny_Assign_Name (wpAny_mono (h A env K s R _ hA hE hS) (fun v s₁ h₁ => ?_) fun _ _ x => x) (swaps_no hE hs hl)
  obtain ⟨K₁, l, st₁, ow, fr⟩ := h₁
  exact store_own hE hS st₁ (.inr hl) rfl ow fr fun s₂ st₂ hS₂ => ⟨K₁, (st₁.from hS).trans st₂, hS₂⟩
theorem st_assign_lc_cell {elt t iter : Expr} {ifs : List Expr} {scope : Scope} {pos cpos xpos : Pos} {x : Str} {tg : Expr → Prop} {its : List PV} {q : PV} (it : IterOK prog w h₀ d sc σ iter tg its) (turns : CompTurns prog w h₀ (emL elt) t ifs d (relab scope sc) (wOf scope) (capOf σ scope.names) its (.lst []) q) (ht : tg t)
    (kind : scope.kind = .function) (nod : nodupB scope.names = true) (free : freeOk scope sc = true) (fold : ∀ env x, foldedSetIterable iter env x = pure x) (hl : sc.names.lookup x = some .cell) :
    ExSt prog w h₀ d sc σ (.Assign [.Name x xpos] (.ListComp elt [⟨t, iter, ifs, 0⟩] scope cpos) pos) (.next (upd σ x (.own q))) :=
  st_assign_cell (new_listcomp it turns ht kind nod free fold) (.inl ⟨_, _, _, rfl⟩) hl

/- turns that keep all, that keep some -/
theorem comp_maps {α : Type} {elt t : Expr} {σ₀ : Sig} (g f : α → PV) : ∀ (l : List α) (xs : List PV), (∀ a ∈ l, ∃ σ₁, AsgOK prog w h₀ d sc W σ₀ t (g a) σ₁ ∧ Sub σ₀ σ₁ ∧ EvOK prog w h₀ d sc σ₁ elt (f a)) → xs.length + l.length ≤ sizeLine →
    CompTurns prog w h₀ (emL elt) t [] d sc W σ₀ (l.map g) (.lst xs) (.lst (xs ++ l.map f))
  | [], xs, _, _ => by rw [List.map_nil, List.map_nil, List.append_nil]; exact .nil
  | a :: l, xs, h, hz => by
    obtain ⟨σ₁, h1, h2, h3⟩ := h a (.head _)
    have := comp_maps g f l (xs ++ [f a]) (fun b hb => h b (.tail _ hb)) (by simp at hz ⊢; omega)
    rw [List.append_assoc] at this
    exact .keep h1 h2 ifs_nil (emit_list h3 (by simp at hz; omega)) this
theorem comp_filters {α : Type} {elt t cond : Expr} {σ₀ : Sig} (g f : α → PV) (c : α → Bool) : ∀ (l : List α) (xs : List PV), (∀ a ∈ l, ∃ σ₁, AsgOK prog w h₀ d sc W σ₀ t (g a) σ₁ ∧ Sub σ₀ σ₁ ∧ TestOK prog w h₀ d sc σ₁ cond (c a) ∧ (c a = true → EvOK prog w h₀ d sc σ₁ elt (f a))) → xs.length + l.length ≤ sizeLine →
    CompTurns prog w h₀ (emL elt) t [cond] d sc W σ₀ (l.map g) (.lst xs) (.lst (xs ++ (l.filter c).map f))
  | [], xs, _, _ => by rw [List.map_nil, List.filter_nil, List.map_nil, List.append_nil]; exact .nil
  | a :: l, xs, h, hz => by
    obtain ⟨σ₁, h1, h2, h3, h4⟩ := h a (.head _)
    cases hc : c a with
    | true =>
      have := comp_filters g f c l (xs ++ [f a]) (fun b hb => h b (.tail _ hb)) (by simp at hz ⊢; omega)
      rw [List.append_assoc] at this
      rw [List.filter_cons, if_pos hc]
      rw [hc] at h3
      exact .keep h1 h2 (ifs_one h3) (emit_list (h4 hc) (by simp at hz; omega)) this
    | false =>
      have := comp_filters g f c l xs (fun b hb => h b (.tail _ hb)) (by simp at hz ⊢; omega)
      rw [List.filter_cons, if_neg (by rw [hc]; decide)]
      rw [hc] at h3
      exact .skip h1 h2 (ifs_one h3) this
end
end Mine.Internal

end PartB14
section PartB15
open PySem PySem.W PyProof.Rows
set_option Elab.async false
set_option maxRecDepth 100000
set_option linter.unusedVariables false
namespace Mine.Internal

section
variable {prog : Program} {w : World} {h₀ : Heap} {d : Nat} {sc : Scope} {σ : Sig} {W : Str → Bool} {mg mb : Str → Option Value}

theorem RepL.strs {P : Params} {K : KMap} : ∀ {vs : List Value} {xs : List Str}, RepL P K vs (xs.map .str) → ∃ l : List (Str × Tok), strValues l = vs ∧ l.map (·.1) = xs
  | _, [], h => by cases h; exact ⟨[], rfl, rfl⟩
  | _, x :: xs, h => by
    cases h with
    | cons a r =>
      cases a with
      | str _ t =>
        obtain ⟨l, rfl, rfl⟩ := RepL.strs r
        exact ⟨(x, t) :: l, rfl, rfl⟩
theorem RepL.ofStrs {P : Params} {K : KMap} : ∀ (l : List (Str × Tok)), RepL P K (strValues l) ((l.map (·.1)).map .str)
  | [] => .nil
  | (x, t) :: l => .cons (.str x t) (RepL.ofStrs l)

/- len -/
theorem call_len_l {xs : List PV} (hz : xs.length ≤ sizeLine) : CallOK prog w h₀ d (.builtin "len") [.lst xs] (.int xs.length) := fun A K s vs hA hO rs => by
  cases rs with
  | cons r rs =>
  cases rs
  cases r with
  | @lst a o us _ e q rl =>
  have hl : s.heap.IsList a us.toArray := ⟨_, hO.sub _ _ e, q⟩
  have hlen := rl.length
  refine Calls.call_len_list hl (by rw [sizeLine_eq] at hz; simp; omega) ?_
  exact ⟨K, StepE.same hO.sub fun _ _ e => e, by rw [List.size_toArray, hlen]; exact .int _ _⟩
theorem call_len_s {x : Str} (hz : x.length ≤ sizeLine) : CallOK prog w h₀ d (.builtin "len") [.str x] (.int x.length) := fun A K s vs hA hO rs => by
  cases rs with
  | cons r rs =>
  cases rs
  cases r with
  | str _ t => exact PyProof.Rows.len_str (by rw [sizeLine_eq] at hz; omega) ⟨K, StepE.same hO.sub fun _ _ e => e, .int _ _⟩
theorem ev_len_own {f x : Str} {fpos xpos pos : Pos} {xs : List PV} (G : Glb h₀ mg mb) (hc : Callee mg mb ("len" : Str) (.builtin "len")) (hx : σ.lookup x = some (.own (.lst xs))) (hz : xs.length ≤ sizeLine)
    (hg : sc.names.lookup ("len" : Str) = some .globalImplicit) (hd : (x == ("__debug__" : Str)) = false) (hcl : (x == ("__classdict__" : Str)) = false) :
    EvOK prog w h₀ d sc σ (.Call (.Name ("len" : Str) fpos) [.Name x xpos] [] pos) (.int xs.length) := fun A env K s R W hA hE hS => by
  refine wpAny_Call_NameR (callee_name G hE hS hc hg (by decide) ?_)
  refine callWith_kind (h₀ := h₀) (first := []) (.inr (.inl ⟨_, rfl⟩)) (by rfl) ?_
  obtain ⟨m, oa, x'⟩ := id hS
  obtain ⟨v, hat, hv⟩ := x'.val _ _ hx
  obtain ⟨a, us, n, rfl, _, _, e0, rl⟩ := Own.lst_inv hv
  have hlen := rl.length
  show wpAny _ _ (evalArgs (.builtin "len") true [(false, eval (.Name x xpos) env)] []) _ _ _
  refine Calls.evalArgs_plain (Calls.spliced_cons (wpAny_Name (load_At hE x'.ns hat hcl (Calls.spliced_nil ⟨hS.base, ?_⟩)) hd))
  refine Calls.call_len_list ⟨_, e0, rfl, n, rfl⟩ (by rw [sizeLine_eq] at hz; simp; omega) ?_
  exact ⟨K, StepE.same hS.sub fun _ _ e => e, by rw [List.size_toArray, hlen]; exact .int _ _⟩

theorem freshK {K : KMap} {s : Shared} {h' : Heap} (hs : ∀ a o, K a = some o → s.heap.get? a = some o) {a : Addr} (h : s.heap.get? a = none) : K a = none := knone hs h

/- list, tuple -/
theorem call_list_l {xs : List PV} (hz : xs.length ≤ sizeLine) : CallNew prog w h₀ d (.type "list") [.lst xs] (.lst xs) := fun A K s vs hA hO rs => by
  cases rs with
  | cons r rs =>
  cases rs
  cases r with
  | @lst a o us _ e q rl =>
  obtain ⟨q1, n, q2⟩ := q
  refine call_list_seq a (.inl rfl) (hO.sub _ _ e) q1 q2 (fun h' c' hk hn => ?_) (by rw [List.size_toArray, rl.length]; exact hz)
  exact ⟨K, [s.heap.objs.size], StepE.same (tk := s.toks) hO.sub hk, .lst (vs := us) (n := c') (knone hO.sub (size_none _)) hn rl, fun b hb => by rw [List.mem_singleton.mp hb]; exact size_none _⟩
theorem items_signs {P : Params} {K : KMap} {x : Str} {acc : Array Value} (h : ItemsOf (SignAt x) acc x.cps.size) : RepL P K acc.toList (signs x) := by
  obtain ⟨hn, hi⟩ := h
  have : ∀ (l : List Value) (cs : List Nat), l.length = cs.length → (∀ (i : Nat) v, l[i]? = some v → ∃ c u, cs[i]? = some c ∧ v = Value.str ⟨#[c]⟩ u) → RepL P K l (cs.map fun c => PV.str ⟨#[c]⟩) := by
    intro l
    induction l with
    | nil => intro cs hl _; cases cs with
      | nil => exact .nil
      | cons c cs => cases hl
    | cons v l ih =>
      intro cs hl h
      cases cs with
      | nil => cases hl
      | cons c cs =>
        obtain ⟨c', u, e, rfl⟩ := h 0 v rfl
        simp at e; subst e
        exact .cons (.str _ _) (ih cs (by simpa using hl) fun i v' e => h (i + 1) v' (by simpa using e))
  refine this _ _ (by simpa using hn) fun i v e => ?_
  obtain ⟨c, u, h1, h2⟩ := hi i v (by simpa using e)
  exact ⟨c, u, by simpa using h1, h2⟩
theorem call_list_s {x : Str} (hz : x.length ≤ sizeLine) : CallNew prog w h₀ d (.type "list") [.str x] (.lst (signs x)) := fun A K s vs hA hO rs => by
  cases rs with
  | cons r rs =>
  cases rs
  cases r with
  | str _ t =>
  refine call_list_str hA.1 x t (fun h' tk acc' c' hk hn hacc => ?_) hz
  exact ⟨K, [s.heap.objs.size], StepE.same hO.sub hk, .lst (vs := acc'.toList) (n := c') (knone hO.sub (size_none _)) (by rw [hn]) (items_signs hacc), fun b hb => by rw [List.mem_singleton.mp hb]; exact size_none _⟩
theorem call_tuple_l {xs : List PV} (hz : xs.length ≤ sizeLine) : CallOK prog w h₀ d (.type "tuple") [.lst xs] (.tup xs) := fun A K s vs hA hO rs => by
  cases rs with
  | cons r rs =>
  cases rs
  cases r with
  | @lst a o us _ e q rl =>
  refine call_tuple_list ⟨_, hO.sub _ _ e, q⟩ (fun h' hk => ?_) (by rw [List.size_toArray, rl.length]; exact hz)
  have st1 : StepE s K { s with heap := h', toks := s.toks } K := StepE.same hO.sub hk
  have y := StepE.push (s := { s with heap := h', toks := s.toks }) (tk := s.toks) (o := tupObj us.toArray 0) st1.sub rfl
  exact ⟨_, st1.trans y, .tup (vs := us) (n := 0) (KMap.put_self _ _ _) (rl.mono y.mono)⟩

/- methods of strs -/
theorem ev_meth {o : Expr} {name : Str} {apos pos : Pos} {args : List Expr} {p q : PV} (ho : EvOK prog w h₀ d sc σ o p)
    (h : ∀ A env K s R W v (Q : Value → Shared → Prop), AOk d A → EnvOk sc env → St w.params h₀ R W σ env K s → Rep w.params K v p → (∀ v' s' K', StepE s K s' K' → Rep w.params K' v' q → Q v' s') → MethodOnS prog w A NoE name v pos (backTo pos (starEach args env)) Q s)
    (hbase : ∀ env, attributeBase o name env (eval o env) = eval o env := by intro _; rfl) (hfew : ∀ env, ((backTo pos (starEach args env)).all (fun x => !x.1) && (backToKw pos (keywordEach [] env)).all (fun x => x.1.isSome) && decide (args.length + ([] : List Keyword).length + (if ([] : List Keyword).isEmpty then 0 else 1) < 30)) = true := by intro _; rfl)
    (hline : (apos.endLine == pos.line) = true := by rfl) : EvOK prog w h₀ d sc σ (.Call (.Attribute o name apos) args [] pos) q := fun A env K s R W hA hE hS => by
  refine wpAny_Call_method_lateS (hbase env) (hfew env) hline ((ho A env K s R W hA hE hS).mono fun v s₁ K₁ st₁ rv => ?_)
  exact h A env K₁ s₁ R W v _ hA hE (hS.step st₁) rv fun v' s' K' st rv' => ⟨K', st₁.trans st, rv'⟩
theorem ev_strip {o : Expr} {apos pos : Pos} {x : Str} (ho : EvOK prog w h₀ d sc σ o (.str x)) (hz : x.length ≤ sizeLine) (hbase : ∀ env, attributeBase o "strip" env (eval o env) = eval o env := by intro _; rfl) (hline : (apos.endLine == pos.line) = true := by rfl) :
    EvOK prog w h₀ d sc σ (.Call (.Attribute o "strip" apos) [] [] pos) (.str (Txt.strip x)) := by
  refine ev_meth ho (fun A env K s R W v Q hA hE hS rv hQ => ?_) hbase (fun _ => rfl) hline
  cases rv
  exact SB.strip (fun t' k => hQ _ _ K (StepE.same hS.sub fun _ _ e => e) (.str _ _)) hz
theorem ev_count {o a : Expr} {apos pos : Pos} {x y : Str} (ho : EvOK prog w h₀ d sc σ o (.str x)) (ha : EvOK prog w h₀ d sc σ a (.str y)) (hbase : ∀ env, attributeBase o "count" env (eval o env) = eval o env := by intro _; rfl) (hline : (apos.endLine == pos.line) = true := by rfl)
    (hst : ∀ env, starEach [a] env = [(false, eval a env)] := by intro _; rfl) : EvOK prog w h₀ d sc σ (.Call (.Attribute o "count" apos) [a] [] pos) (.int (Txt.count x y)) := by
  refine ev_meth ho (fun A env K s R W v Q hA hE hS rv hQ => ?_) hbase (fun env => by rw [hst]; rfl) hline
  rw [hst]
  cases rv
  refine SB.count ((ha A env K s R W hA hE hS).mono fun v s₁ K₁ st₁ rv => ?_)
  cases rv
  exact ⟨_, _, rfl, hQ _ _ K₁ (st₁.trans (StepE.same st₁.sub fun _ _ e => e)) (.int _ _)⟩
theorem ev_index {o a : Expr} {apos pos : Pos} {x y : Str} {i : Nat} {rest : List Nat} (ho : EvOK prog w h₀ d sc σ o (.str x)) (ha : EvOK prog w h₀ d sc σ a (.str y)) (hi : Builtin.Str.occurrences x y 0 x.length 1 = i :: rest) (hbase : ∀ env, attributeBase o "index" env (eval o env) = eval o env := by intro _; rfl) (hline : (apos.endLine == pos.line) = true := by rfl)
    (hst : ∀ env, starEach [a] env = [(false, eval a env)] := by intro _; rfl) : EvOK prog w h₀ d sc σ (.Call (.Attribute o "index" apos) [a] [] pos) (.int i) := by
  refine ev_meth ho (fun A env K s R W v Q hA hE hS rv hQ => ?_) hbase (fun env => by rw [hst]; rfl) hline
  rw [hst]
  cases rv
  refine SB.index ((ha A env K s R W hA hE hS).mono fun v s₁ K₁ st₁ rv => ?_)
  cases rv
  exact ⟨_, _, rfl, i, rest, hi, hQ _ _ K₁ (st₁.trans (StepE.same st₁.sub fun _ _ e => e)) (.int _ _)⟩
theorem ev_join {o a : Expr} {apos pos : Pos} {x : Str} {xs : List Str} (ho : EvOK prog w h₀ d sc σ o (.str x)) (ha : EvOK prog w h₀ d sc σ a (.lst (xs.map .str))) (hok : JoinOk x xs = true) (hbase : ∀ env, attributeBase o "join" env (eval o env) = eval o env := by intro _; rfl) (hline : (apos.endLine == pos.line) = true := by rfl)
    (hst : ∀ env, starEach [a] env = [(false, eval a env)] := by intro _; rfl) : EvOK prog w h₀ d sc σ (.Call (.Attribute o "join" apos) [a] [] pos) (.str (Txt.join x xs)) := by
  refine ev_meth ho (fun A env K s R W v Q hA hE hS rv hQ => ?_) hbase (fun env => by rw [hst]; rfl) hline
  rw [hst]
  cases rv
  refine SB.join ((ha A env K s R W hA hE hS).mono fun v s₁ K₁ st₁ rv => ?_)
  cases rv with
  | @lst a o us _ e q rl =>
  obtain ⟨l, rfl, rfl⟩ := rl.strs
  exact ⟨_, l, rfl, ⟨_, st₁.sub _ _ e, q⟩, _, rfl, hok, fun t' k => hQ _ _ K₁ (st₁.trans (StepE.same st₁.sub fun _ _ e => e)) (.str _ _)⟩

open PySem.Builtin PySem.Builtin.Str in
theorem split_none_call {A : Around} {s : Shared} {E : Value → Shared → Prop} {x : Str} {t : Tok} {Q : Value → Shared → Prop} (hsz : x.length + 2 ≤ sizeLine)
    (h : ∀ l tk, l.map (·.1) = Txt.words x → Q (.ref s.heap.objs.size) { s with heap := s.heap.push { cls := .type "list", data := .seq (strValues l).toArray }, toks := tk }) : wpAny (model prog w) A (call (.builtin "str.split") [.str x t, .none]) Q E s := by
  have hn : (spaceWords x (x.length + 1)).length ≤ sizeLine := by
    have e1 := (StrLaws.sw_weight x).1
    have e2 := StrLaws.len_le_wsum (spaceWords x (x.length + 1))
    omega
  refine call_meets F.slot_str_split (typeIs_str _ _ _) F.entry_str_split (F.args_str_split_2 _ _) ((split_none_eq x t).symm ▸ meets_str_split_space x t (by omega) hn) ?_
  cases hw : spaceWords x (x.length + 1) == [(0, x.length)]
  · simp only [Bool.false_eq_true, if_false]
    rw [strsFrom_eq]
    exact h (numbered s.toks (PySem.wordsOf x)) _ ((numbered_texts _ _).trans (if_neg (ne_true_of_eq_false hw)).symm)
  · simp only [if_true]
    exact h [(x, t)] s.toks (if_pos hw).symm
open PySem.Builtin PySem.Builtin.Str in
theorem split_one_call {A : Around} {s : Shared} {E : Value → Shared → Prop} {x y : Str} {t u : Tok} {Q : Value → Shared → Prop} (hsz : x.length + 2 ≤ sizeLine) (hy : (y.length == 0) = false)
    (h : ∀ l tk, l.map (·.1) = Txt.split x y → Q (.ref s.heap.objs.size) { s with heap := s.heap.push { cls := .type "list", data := .seq (strValues l).toArray }, toks := tk }) : wpAny (model prog w) A (call (.builtin "str.split") [.str x t, .str y u]) Q E s := by
  have hn : (partsBetween x (occurrences x y 0 x.length (x.length + 1)) y.length).length ≤ sizeLine := by
    have e1 := StrLaws.occ_length_le_len x y 0 x.length (x.length + 1)
    rw [length_partsBetween]; omega
  cases h1 : (decide (x.length < y.length) || decide (strKind x < strKind y))
  · cases hf : (occurrences x y 0 x.length (x.length + 1)).isEmpty
    · refine call_meets F.slot_str_split (typeIs_str _ _ _) F.entry_str_split (F.args_str_split_2 _ _) (meets_str_split_sep x y t u h1 hy hf (by omega) hn) ?_
      show wants Q E _ { s with toks := _, heap := s.heap.push { cls := .type "list", data := .seq (strsFrom s.toks (partsBetween x (occurrences x y 0 x.length (x.length + 1)) y.length)).toArray } }
      rw [strsFrom_eq]
      exact h (numbered s.toks _) _ ((numbered_texts _ _).trans ((if_neg (ne_true_of_eq_false h1)).trans (if_neg (ne_true_of_eq_false hf))).symm)
    · exact call_meets F.slot_str_split (typeIs_str _ _ _) F.entry_str_split (F.args_str_split_2 _ _) (meets_str_split_not_found x y t u h1 hy hf) (h [(x, t)] s.toks ((if_neg (ne_true_of_eq_false h1)).trans (if_pos hf)).symm)
  · exact call_meets F.slot_str_split (typeIs_str _ _ _) F.entry_str_split (F.args_str_split_2 _ _) (meets_str_split_cannot_occur x y t u h1) (h [(x, t)] s.toks (if_pos h1).symm)
open PySem.Builtin PySem.Builtin.Str in
theorem split_max_call {A : Around} {s : Shared} {E : Value → Shared → Prop} {x y : Str} {k : Int} {t u v : Tok} {Q : Value → Shared → Prop} (hsz : x.length + 2 ≤ sizeLine) (hy : (y.length == 0) = false) (hk : (decide (k < -(2 ^ 63 : Int)) || decide (k ≥ 2 ^ 63)) = false)
    (h : ∀ l tk, l.map (·.1) = Txt.splitMax x y k → Q (.ref s.heap.objs.size) { s with heap := s.heap.push { cls := .type "list", data := .seq (strValues l).toArray }, toks := tk }) : wpAny (model prog w) A (call (.builtin "str.split") [.str x t, .str y u, .int k v]) Q E s := by
  have hn : (partsBetween x (occurrences x y 0 x.length (limitOf x k)) y.length).length ≤ sizeLine := by
    have e1 := StrLaws.occ_length_le_len x y 0 x.length (limitOf x k)
    rw [length_partsBetween]; omega
  cases h1 : (decide (x.length < y.length) || decide (strKind x < strKind y))
  · cases hf : (occurrences x y 0 x.length (limitOf x k)).isEmpty
    · refine call_meets F.slot_str_split (typeIs_str _ _ _) F.entry_str_split (F.args_str_split_3 _ _ _) (meets_str_split_sep_max x y k t u v hk h1 hy hf (by omega) hn) ?_
      show wants Q E _ { s with toks := _, heap := s.heap.push { cls := .type "list", data := .seq (strsFrom s.toks (partsBetween x (occurrences x y 0 x.length (limitOf x k)) y.length)).toArray } }
      rw [strsFrom_eq]
      exact h (numbered s.toks _) _ ((numbered_texts _ _).trans ((if_neg (ne_true_of_eq_false h1)).trans (if_neg (ne_true_of_eq_false hf))).symm)
    · exact call_meets F.slot_str_split (typeIs_str _ _ _) F.entry_str_split (F.args_str_split_3 _ _ _) (meets_str_split_max_not_found x y k t u v hk h1 hy hf) (h [(x, t)] s.toks ((if_neg (ne_true_of_eq_false h1)).trans (if_pos hf)).symm)
  · exact call_meets F.slot_str_split (typeIs_str _ _ _) F.entry_str_split (F.args_str_split_3 _ _ _) (meets_str_split_max_cannot_occur x y k t u v hk h1) (h [(x, t)] s.toks (if_pos h1).symm)

theorem strs_pushed {K : KMap} {s : Shared} {tk : Nat} (hs : ∀ a o, K a = some o → s.heap.get? a = some o) (l : List (Str × Tok)) {xs : List Str} (e : l.map (·.1) = xs) :
    ∃ K', StepE s K { s with heap := s.heap.push { cls := .type "list", data := .seq (strValues l).toArray }, toks := tk } K' ∧ Rep w.params K' (.ref s.heap.objs.size) (.lst (xs.map .str)) := by
  subst e
  exact ⟨_, StepE.push hs rfl, .lst (KMap.put_self _ _ _) (.new _ 0) (RepL.ofStrs l)⟩
theorem call_split_none {x : Str} (hsz : x.length + 2 ≤ sizeLine) : CallOK prog w h₀ d (.builtin "str.split") [.str x, .none] (.lst ((Txt.words x).map .str)) := fun A K s vs hA hO rs => by
  cases rs with
  | cons r rs =>
  cases rs with
  | cons r' rs =>
  cases rs
  cases r
  cases r'
  exact split_none_call hsz fun l tk e => by obtain ⟨K', st, rv⟩ := strs_pushed (w := w) hO.sub l e; exact ⟨K', st, rv⟩
theorem call_split_one {x y : Str} (hsz : x.length + 2 ≤ sizeLine) (hy : (y.length == 0) = false) : CallOK prog w h₀ d (.builtin "str.split") [.str x, .str y] (.lst ((Txt.split x y).map .str)) := fun A K s vs hA hO rs => by
  cases rs with
  | cons r rs =>
  cases rs with
  | cons r' rs =>
  cases rs
  cases r
  cases r'
  exact split_one_call hsz hy fun l tk e => by obtain ⟨K', st, rv⟩ := strs_pushed (w := w) hO.sub l e; exact ⟨K', st, rv⟩
theorem call_split_max {x y : Str} {k : Int} (hsz : x.length + 2 ≤ sizeLine) (hy : (y.length == 0) = false) (hk : (decide (k < -(2 ^ 63 : Int)) || decide (k ≥ 2 ^ 63)) = false) : CallOK prog w h₀ d (.builtin "str.split") [.str x, .str y, .int k] (.lst ((Txt.splitMax x y k).map .str)) := fun A K s vs hA hO rs => by
  cases rs with
  | cons r rs =>
  cases rs with
  | cons r' rs =>
  cases rs with
  | cons r'' rs =>
  cases rs
  cases r
  cases r'
  cases r''
  exact split_max_call hsz hy hk fun l tk e => by obtain ⟨K', st, rv⟩ := strs_pushed (w := w) hO.sub l e; exact ⟨K', st, rv⟩
/- a method of a str with arguments -/
theorem ev_smeth {o : Expr} {name : Str} {id : String} {apos pos : Pos} {args : List Expr} {x : Str} {ps : List PV} {q : PV} (slot : PySem.Slot "str" name id) (hty : typeOf (.builtin id) = pure (.type "method_descriptor")) (ho : EvOK prog w h₀ d sc σ o (.str x)) (hargs : EvsOK prog w h₀ d sc σ args ps) (hc : CallOK prog w h₀ d (.builtin id) (.str x :: ps) q)
    (hbase : ∀ env, attributeBase o name env (eval o env) = eval o env) (hfew : ∀ env, ((backTo pos (starEach args env)).all (fun x => !x.1) && (backToKw pos (keywordEach [] env)).all (fun x => x.1.isSome) && decide (args.length + ([] : List Keyword).length + (if ([] : List Keyword).isEmpty then 0 else 1) < 30)) = true)
    (hline : (apos.endLine == pos.line) = true) (hp : ∀ env, (starEach args env).all (fun x => !x.1) = true) (hn : ∀ env, ∃ t r, starEach args env = (false, t) :: r) : EvOK prog w h₀ d sc σ (.Call (.Attribute o name apos) args [] pos) q := by
  refine ev_meth ho (fun A env K s R W v Q hA hE hS rv hQ => ?_) hbase hfew hline
  cases rv with
  | str _ t =>
  refine ⟨"str", id, F.plainAttrs_str, slot, hty, typeIs_str _ _ _, (fun _ e => nomatch e), ?_⟩
  refine callWith_kind (h₀ := h₀) (first := [.str x t]) (.inr (.inl ⟨_, rfl⟩)) (hp env) (evalArgs_evs hA hE hS hargs (hn env) fun vs s' K' st rs => ⟨(hS.step st).base, ?_⟩)
  exact (hc A K' s' (.str x t :: vs) hA (hS.step st).ok (.cons (.str _ _) rs)).mono fun v s₂ K₂ st₂ rv => hQ _ _ _ (st.trans st₂) rv
end
end Mine.Internal

end PartB15
section PartB16
open PySem PySem.W PyProof.Rows
set_option Elab.async false
set_option maxRecDepth 100000
set_option linter.unusedVariables false
namespace Mine.Internal

mutual
/- the datum of a pure value -/
inductive IsD : PV → PyData → Prop
  | none : IsD .none .none
  | bool (b : Bool) : IsD (.bool b) (.bool b)
  | int (i : Int) : IsD (.int i) (.int i)
  | str (x : Str) : IsD (.str x) (.str x)
  | lst {xs : List PV} {ds : List PyData} : IsDs xs ds → IsD (.lst xs) (.list ds)
  | tup {xs : List PV} {ds : List PyData} : IsDs xs ds → IsD (.tup xs) (.tuple ds)
inductive IsDs : List PV → List PyData → Prop
  | nil : IsDs [] []
  | cons {p : PV} {d : PyData} {ps : List PV} {ds : List PyData} : IsD p d → IsDs ps ds → IsDs (p :: ps) (d :: ds)
end

mutual
theorem Rep.reads {P : Params} {K : KMap} {h : Heap} (hs : ∀ a o, K a = some o → h.get? a = some o) : ∀ {p : PV} {d : PyData} {v : Value}, IsD p d → Rep P K v p → ∃ as, Reads h v d as
  | _, _, _, .none, r => by cases r; exact ⟨_, .none⟩
  | _, _, _, .bool b, r => by cases r; exact ⟨_, .bool b⟩
  | _, _, _, .int i, r => by cases r; exact ⟨_, .int i _⟩
  | _, _, _, .str x, r => by cases r; exact ⟨_, .str x _⟩
  | _, _, _, .lst q, r => by
    cases r with
    | @lst a o vs _ e l rl =>
      obtain ⟨as, ra⟩ := RepL.reads hs q rl
      obtain ⟨l1, n, l2⟩ := l
      exact ⟨_, .list (hs _ _ e) l1 l2 (by simpa using ra)⟩
  | _, _, _, .tup q, r => by
    cases r with
    | @tup a vs n _ e rl =>
      obtain ⟨as, ra⟩ := RepL.reads hs q rl
      exact ⟨_, .tuple (hs _ _ e) rfl rfl (by simpa using ra)⟩
theorem RepL.reads {P : Params} {K : KMap} {h : Heap} (hs : ∀ a o, K a = some o → h.get? a = some o) : ∀ {ps : List PV} {ds : List PyData} {vs : List Value}, IsDs ps ds → RepL P K vs ps → ∃ as, ReadsAll h vs ds as
  | _, _, _, .nil, r => by cases r; exact ⟨_, .nil⟩
  | _, _, _, .cons a q, r => by
    cases r with
    | cons b rs =>
      obtain ⟨_, r1⟩ := Rep.reads hs a b
      obtain ⟨_, r2⟩ := RepL.reads hs q rs
      exact ⟨_, .cons r1 r2⟩
end
theorem isDs_strs : ∀ (xs : List Str), IsDs (xs.map .str) (xs.map PyData.str)
  | [] => .nil
  | x :: xs => .cons (.str x) (isDs_strs xs)
theorem isDs_ints : ∀ (xs : List Int), IsDs (xs.map .int) (xs.map PyData.int)
  | [] => .nil
  | x :: xs => .cons (.int x) (isDs_ints xs)
theorem isDs_bools : ∀ (xs : List Bool), IsDs (xs.map .bool) (xs.map PyData.bool)
  | [] => .nil
  | x :: xs => .cons (.bool x) (isDs_bools xs)

section
variable {prog : Program} {w : World} {h₀ : Heap} {d : Nat} {sc : Scope} {σ : Sig} {W : Str → Bool} {mg mb : Str → Option Value}

theorem AOk.room {A : Around} (h : AOk d A) : A.units + 64 < cLine := by have := h.2.2; omega

theorem cmp_eqD {p q : PV} {a b : PyData} (hp : IsD p a) (hq : IsD q b) (sa : SeqAt.shaped a = true) (sb : SeqAt.shaped b = true) : CmpOK prog w h₀ d .Eq p q (PyData.eqv a b) := fun A K s x y hA hO ra rb => by
  obtain ⟨_, r1⟩ := ra.reads hO.sub hp
  obtain ⟨_, r2⟩ := rb.reads hO.sub hq
  exact eq_dataH r1 r2 sa sb hA.room ⟨K, Step.refl hO.sub, rfl⟩
theorem cmp_neD {p q : PV} {a b : PyData} (hp : IsD p a) (hq : IsD q b) (sa : SeqAt.shaped a = true) (sb : SeqAt.shaped b = true) : CmpOK prog w h₀ d .NotEq p q (!PyData.eqv a b) := fun A K s x y hA hO ra rb => by
  obtain ⟨_, r1⟩ := ra.reads hO.sub hp
  obtain ⟨_, r2⟩ := rb.reads hO.sub hq
  exact ne_dataH r1 r2 sa sb hA.room ⟨K, Step.refl hO.sub, rfl⟩
theorem cmp_inD {p : PV} {xs : List PV} {a : PyData} {ds : List PyData} (hp : IsD p a) (hq : IsDs xs ds) (sa : a.canLay0 = true) (sb : PyData.canLayAll0 ds = true) (hd : a.depth ≤ 60) : CmpOK prog w h₀ d .In p (.lst xs) (ds.any fun y => PyData.eqv y a) := fun A K s x y hA hO ra rb => by
  obtain ⟨_, r1⟩ := ra.reads hO.sub hp
  obtain ⟨_, r2⟩ := rb.reads hO.sub (.lst hq)
  have hu := hA.room
  exact SeqAt.in_list_reads r2 r1 sb sa (by have : min (PyData.depthAll ds) a.depth ≤ a.depth := Nat.min_le_right _ _; omega) ⟨K, Step.refl hO.sub, rfl⟩
theorem cmp_ninD {p : PV} {xs : List PV} {a : PyData} {ds : List PyData} (hp : IsD p a) (hq : IsDs xs ds) (sa : a.canLay0 = true) (sb : PyData.canLayAll0 ds = true) (hd : a.depth ≤ 60) : CmpOK prog w h₀ d .NotIn p (.lst xs) (!ds.any fun y => PyData.eqv y a) := fun A K s x y hA hO ra rb => by
  obtain ⟨_, r1⟩ := ra.reads hO.sub hp
  obtain ⟨_, r2⟩ := rb.reads hO.sub (.lst hq)
  have hu := hA.room
  exact SeqAt.notIn_list_reads r2 r1 sb sa (by have : min (PyData.depthAll ds) a.depth ≤ a.depth := Nat.min_le_right _ _; omega) ⟨K, Step.refl hO.sub, rfl⟩
theorem cmp_isb {a b : Bool} : CmpOK prog w h₀ d .Is (.bool a) (.bool b) (a == b) := fun A K s x y hA hO ra rb => by
  cases ra; cases rb
  refine wpAny_is_plain rfl ⟨K, Step.refl hO.sub, ?_⟩
  cases a <;> cases b <;> rfl
theorem cmp_isntb {a b : Bool} : CmpOK prog w h₀ d .IsNot (.bool a) (.bool b) (a != b) := fun A K s x y hA hO ra rb => by
  cases ra; cases rb
  refine wpAny_isNot_plain rfl ⟨K, Step.refl hO.sub, ?_⟩
  cases a <;> cases b <;> rfl

/- lists end to end -/
theorem add_two {A : Around} {s : Shared} {E : Value → Shared → Prop} {l b : Addr} {vs ws : List Value} {Q : Value → Shared → Prop} (hl : s.heap.IsList l vs.toArray) (hb : s.heap.IsList b ws.toArray)
    (h : Q (.ref s.heap.objs.size) { s with heap := s.heap.push { cls := .type "list", data := .seq (vs ++ ws).toArray } }) (hsz : vs.length + ws.length ≤ sizeLine) : wpAny (model prog w) A (binaryOp .Add (.ref l) (.ref b)) Q E s := by
  obtain ⟨⟨cls, dd, data, sl⟩, ho, hc, n, hd⟩ := id hl
  obtain ⟨⟨cls2, dd2, data2, sl2⟩, ho2, hc2, n2, hd2⟩ := id hb
  simp only at hc hd hc2 hd2
  subst hc hd hc2 hd2
  have e : vs.toArray ++ ws.toArray = (vs ++ ws).toArray := by simp
  refine concat_meets ⟨_, ho, rfl⟩ ⟨_, ho2, rfl⟩ noFill_list_add seq_list_add PySem.F.slot_list_add PySem.F.entry_list_add (PySem.F.args_list_add_2 _ _) (list_addW l b vs.toArray ws.toArray n n2 dd dd2 sl sl2 (by simpa using hsz)) ⟨ho, ho2, ?_⟩
  rw [e]
  exact h
theorem bin_addl {xs ys : List PV} (hz : xs.length + ys.length ≤ sizeLine) : BinOK prog w h₀ d .Add (.lst xs) (.lst ys) (.lst (xs ++ ys)) := fun A K s x y hA hO ra rb => by
  cases ra with
  | @lst a o vs _ e l r =>
  cases rb with
  | @lst a' o' ws _ e' l' r' =>
  have st := StepE.push (tk := s.toks) (o := listOf (vs ++ ws).toArray 0) hO.sub rfl
  exact add_two ⟨_, hO.sub _ _ e, l⟩ ⟨_, hO.sub _ _ e', l'⟩ ⟨_, st, .lst (KMap.put_self _ _ _) (.new _ 0) ((r.append r').mono st.mono)⟩ (by rw [r.length, r'.length]; exact hz)
theorem new_addl {l r : Expr} {pos : Pos} {xs ys : List PV} (hl : EvOK prog w h₀ d sc σ l (.lst xs)) (hr : EvOK prog w h₀ d sc σ r (.lst ys)) (hz : xs.length + ys.length ≤ sizeLine) : EvNew prog w h₀ d sc σ (.BinOp l .Add r pos) (.lst (xs ++ ys)) := fun A env K s R W hA hE hS => by
  refine wpAny_BinOp ((hl A env K s R W hA hE hS).mono fun a s₁ K₁ st₁ ra => ?_)
  refine (hr A env K₁ s₁ R W hA hE (hS.step st₁)).mono fun b s₂ K₂ st₂ rb => ?_
  have ra := ra.mono st₂.mono
  have st := st₁.trans st₂
  cases ra with
  | @lst a o vs _ e l r =>
  cases rb with
  | @lst a' o' ws _ e' l' r' =>
  have st' := StepE.same (tk := s₂.toks) (h' := s₂.heap.push (listOf (vs ++ ws).toArray 0)) st₂.sub fun _ _ e => Heap.get?_push_of_some _ e
  refine add_two ⟨_, st₂.sub _ _ e, l⟩ ⟨_, st₂.sub _ _ e', l'⟩ ⟨K₂, [s₂.heap.objs.size], st.trans st', .lst (vs := vs ++ ws) (n := 0) (knone st₂.sub (size_none _)) (Heap.get?_push_size _ rfl) (r.append r'), fun a ha => ?_⟩ (by rw [r.length, r'.length]; exact hz)
  rw [List.mem_singleton.mp ha]
  cases e : s.heap.get? s₂.heap.objs.size with
  | none => rfl
  | some o => have := st.get e; rw [size_none] at this; cases this
theorem RepL.rep {P : Params} {K : KMap} {vs : List Value} {xs : List PV} (r : RepL P K vs xs) : ∀ n : Nat, RepL P K (List.replicate n vs).flatten (List.replicate n xs).flatten
  | 0 => .nil
  | n + 1 => by rw [List.replicate_succ, List.replicate_succ, List.flatten_cons, List.flatten_cons]; exact r.append (r.rep n)
theorem bin_mull {xs : List PV} {x : Int} (hlo : -(2 ^ 63 : Int) ≤ x) (hhi : x < 2 ^ 63) (hz : xs.length * x.toNat ≤ 2 ^ 24) : BinOK prog w h₀ d .Mult (.lst xs) (.int x) (.lst (List.replicate x.toNat xs).flatten) := fun A K s l y hA hO ra rb => by
  cases rb with
  | int _ u =>
  cases ra with
  | @lst a o vs _ e l r =>
  have ho := hO.sub _ _ e
  obtain ⟨cls, dd, data, sl⟩ := o
  obtain ⟨hc, k, hd⟩ := l
  simp only at hc hd
  subst hc hd
  have hz' : vs.toArray.size * x.toNat ≤ 2 ^ 24 := by rw [List.size_toArray, r.length]; exact hz
  refine wpAny_binaryOp_repeat_ref (T := "list") (U := "int") (by decide) ⟨_, ho, rfl⟩ (fun s' => typeIs_int s' x u) noFill_list_mul F.fills_int_mul F.slot_int_rmul repeat_list F.slot_int_index.lookup
    (call_meets F.slot_int_rmul (typeIs_int s x u) F.entry_int_rmul (F.args_int_rmul_2 _ _) (lm_int_rmul_list_any x u _ vs.toArray k dd sl)
      ⟨ho, rfl, ⟨_, ho, rfl⟩, call_meets F.slot_list_mul ⟨_, ho, rfl⟩ F.entry_list_mul (F.args_list_mul_2 _ _)
        (lm_list_mul_any _ vs.toArray k dd sl x u (by simp [Builtin.List.listFitsIndex]; omega) (by omega) (by simp [Builtin.List.listTooLong, sizeLine]; omega))
        ⟨ho, ?_⟩⟩)
  rw [listMul_foldl_if]
  have st := StepE.push (tk := s.toks) (o := listOf (List.replicate x.toNat vs).flatten.toArray 0) hO.sub rfl
  exact ⟨_, st, .lst (vs := (List.replicate x.toNat vs).flatten) (KMap.put_self _ _ _) (.new _ 0) ((r.rep _).mono st.mono)⟩

theorem RepL.strsAre {P : Params} {K : KMap} : ∀ {vs : List Value} {xs : List Str}, RepL P K vs (xs.map .str) → StrsAre vs xs
  | _, [], h => by cases h; exact .nil
  | _, x :: xs, h => by
    cases h with
    | cons a r =>
      cases a with
      | str _ t => exact .cons x t (RepL.strsAre r)
theorem RepL.ofStrsAre {P : Params} {K : KMap} : ∀ {vs : List Value} {xs : List Str}, StrsAre vs xs → RepL P K vs (xs.map .str)
  | _, _, .nil => .nil
  | _, _, .cons y t h => .cons (.str y t) (RepL.ofStrsAre h)
theorem call_sorted {ss srt : List Str} (h64 : ss.length < 64) (huniq : ∀ ss' : List Str, ss'.Perm ss → sortedS ss' = true → ss' = srt) : CallOK prog w h₀ d (.builtin "sorted") [.lst (ss.map .str)] (.lst (srt.map .str)) := fun A K s vs hA hO rs => by
  cases rs with
  | cons r rs =>
  cases rs
  cases r with
  | @lst a o us _ e l r =>
  have hlen := r.length
  refine sorted_strs ⟨_, hO.sub _ _ e, l⟩ r.strsAre (by rw [hlen, List.length_map]; exact h64) fun out ss' h1 h2 h3 => ?_
  rw [huniq ss' h2 h3] at h1
  obtain ⟨n, hn⟩ := sortedAll_at s.heap us out
  have hf : s.heap.get? (s.heap.objs.size + 1) = none := by
    cases e : s.heap.get? (s.heap.objs.size + 1) with
    | none => rfl
    | some o => exact absurd (Heap.lt_size e) (Nat.not_lt.mpr (Nat.le_succ _))
  have st := StepE.freeze (tk := s.toks) (h' := sortedAll s.heap us out) hO.sub (fun _ _ e => sortedAll_old e) hf hn
  exact ⟨_, st, .lst (vs := out.toList) (KMap.put_self _ _ _) ⟨rfl, n, by simp⟩ (RepL.ofStrsAre h1)⟩
end
end Mine.Internal

end PartB16
section PartB17
open PySem PySem.W PyProof.Rows
set_option Elab.async false
set_option maxRecDepth 100000
set_option linter.unusedVariables false
namespace Mine.Internal

noncomputable abbrev sk (prog : Program) (w : World) := PySem.strKind prog w
inductive ValsAre (P : Params) (K : KMap) : List (Str × Value) → List (Str × PV) → Prop
  | nil : ValsAre P K [] []
  | cons {x : Str} {v : Value} {p : PV} {kvs : List (Str × Value)} {ps : List (Str × PV)} : Rep P K v p → ValsAre P K kvs ps → ValsAre P K ((x, v) :: kvs) ((x, p) :: ps)
noncomputable def dput (es : List (Str × PV)) (k : Str) (p : PV) : List (Str × PV) := if es.any (fun kv => kv.1 = k) then es.map (fun kv => if kv.1 = k then (kv.1, p) else kv) else es ++ [(k, p)]
noncomputable def dkeys (es : List (Str × PV)) : List Str := es.map (·.1)
noncomputable def pairsOfD (es : List (Str × PV)) : List PV := es.map fun kv => .tup [.str kv.1, kv.2]

theorem ValsAre.keys {P : Params} {K : KMap} : ∀ {kvs : List (Str × Value)} {ps : List (Str × PV)}, ValsAre P K kvs ps → kvs.map (·.1) = dkeys ps
  | _, _, .nil => rfl
  | _, _, .cons _ r => by rw [List.map_cons, dkeys, List.map_cons, ValsAre.keys r]; rfl
theorem ValsAre.mono {P : Params} {K K' : KMap} (h : ∀ a o, K a = some o → K' a = some o) : ∀ {kvs : List (Str × Value)} {ps : List (Str × PV)}, ValsAre P K kvs ps → ValsAre P K' kvs ps
  | _, _, .nil => .nil
  | _, _, .cons a r => .cons (a.mono h) (ValsAre.mono h r)
theorem ValsAre.any {P : Params} {K : KMap} (k : Str) : ∀ {kvs : List (Str × Value)} {ps : List (Str × PV)}, ValsAre P K kvs ps → (kvs.any fun kv => kv.1 = k) = ps.any fun kv => kv.1 = k
  | _, _, .nil => rfl
  | _, _, .cons _ r => by rw [List.any_cons, List.any_cons, ValsAre.any k r]
theorem ValsAre.over {P : Params} {K : KMap} {k : Str} {v : Value} {p : PV} (h : Rep P K v p) : ∀ {kvs : List (Str × Value)} {ps : List (Str × PV)}, ValsAre P K kvs ps → ValsAre P K (kvs.map fun kv => if kv.1 = k then (kv.1, v) else kv) (ps.map fun kv => if kv.1 = k then (kv.1, p) else kv)
  | _, _, .nil => .nil
  | _, _, @ValsAre.cons _ _ x _ _ _ _ a r => by
    rw [List.map_cons, List.map_cons]
    by_cases hx : x = k
    · simp only [hx, if_true]; exact .cons h (ValsAre.over h r)
    · simp only [hx, if_false]; exact .cons a (ValsAre.over h r)
theorem ValsAre.snoc {P : Params} {K : KMap} {k : Str} {v : Value} {p : PV} (h : Rep P K v p) : ∀ {kvs : List (Str × Value)} {ps : List (Str × PV)}, ValsAre P K kvs ps → ValsAre P K (kvs ++ [(k, v)]) (ps ++ [(k, p)])
  | _, _, .nil => .cons h .nil
  | _, _, .cons a r => .cons a (ValsAre.snoc h r)
theorem ValsAre.stored {P : Params} {K : KMap} {k : Str} {v : Value} {p : PV} {kvs : List (Str × Value)} {ps : List (Str × PV)} (r : ValsAre P K kvs ps) (h : Rep P K v p) : ValsAre P K (PySem.stored kvs k v) (dput ps k p) := by
  unfold PySem.stored dput
  rw [r.any k]
  split
  · exact r.over h
  · exact r.snoc h

section
variable {prog : Program} {w : World} {h₀ : Heap} {d : Nat} {sc : Scope} {σ : Sig} {W : Str → Bool} {mg mb : Str → Option Value}

theorem RepD.vals {K : KMap} : ∀ {es : List DictEntry} {ps : List (Str × PV)}, RepD w.params K es ps → ∃ kvs, Pairs (sk prog w) es kvs ∧ (∀ e ∈ es, ∃ k, (sk prog w).is k e.key = true ∧ e.hash = (sk prog w).hash k) ∧ ValsAre w.params K kvs ps
  | _, _, .nil => ⟨[], .nil, (fun e h => nomatch h), .nil⟩
  | _, _, @RepD.cons _ _ v _ _ _ x t a r => by
    obtain ⟨kvs, h1, h2, h3⟩ := RepD.vals r
    have hx : (sk prog w).is x (.str x t) = true := by show Value.isStrOf x (.str x t) = true; simp [Value.isStrOf]
    refine ⟨(x, v) :: kvs, .cons hx rfl h1, fun e he => ?_, .cons a h3⟩
    rcases List.mem_cons.mp he with rfl | he
    · exact ⟨x, hx, rfl⟩
    · exact h2 e he
theorem RepD.of {K : KMap} : ∀ {es : List DictEntry} {kvs : List (Str × Value)} {ps : List (Str × PV)}, Pairs (sk prog w) es kvs → (∀ e ∈ es, ∃ k, (sk prog w).is k e.key = true ∧ e.hash = (sk prog w).hash k) → ValsAre w.params K kvs ps → RepD w.params K es ps
  | _, _, _, .nil, _, .nil => .nil
  | _, _, _, @Pairs.cons _ _ _ _ _ e kv _ _ hk hv r, hh, .cons a rs => by
    obtain ⟨hash, key, val⟩ := e
    obtain ⟨t, ht⟩ := Value.isStrOf_shape hk
    dsimp only at ht hv
    subst ht hv
    obtain ⟨k', h1, h2⟩ := hh _ (.head _)
    have := (sk prog w).inj _ _ _ h1 hk
    subst this
    dsimp only at h2
    rw [h2]
    exact .cons a (RepD.of r (fun e he => hh e (.tail _ he)) rs)
theorem dictAt_of {K : KMap} {h : Heap} {a : Addr} {es : List DictEntry} {n : Nat} {ps : List (Str × PV)} (e : h.get? a = some (dictOf es n)) (r : RepD w.params K es ps) (hn : (dkeys ps).Nodup) : ∃ kvs, h.DictAt (sk prog w) a kvs n ∧ ValsAre w.params K kvs ps := by
  obtain ⟨kvs, h1, h2, h3⟩ := r.vals (prog := prog)
  exact ⟨kvs, ⟨_, es.toArray, e, ⟨rfl, rfl, rfl⟩, rfl, fun x hx => h2 x (by simpa using hx), by simpa using h1, by rw [h3.keys]; exact hn⟩, h3⟩
theorem of_dictOf {K : KMap} {h : Heap} {a : Addr} {kvs : List (Str × Value)} {ps : List (Str × PV)} (x : h.DictOf (sk prog w) a kvs) (r : ValsAre w.params K kvs ps) : ∃ es n, h.get? a = some (dictOf es n) ∧ RepD w.params K es ps := by
  obtain ⟨⟨c, dd, data, sl⟩, es, ep, ho, ⟨h1, h2, h3⟩, hd, hk, hp, _⟩ := x
  dsimp only at h1 h2 h3 hd
  subst h1 h2 h3 hd
  exact ⟨es.toList, ep, by rw [ho], RepD.of hp (fun e he => hk e (by simpa using he)) r⟩

noncomputable def SysIn (h₀ : Heap) : Prop := (h₀.get? sysModules).isSome = true
theorem not_sys {K : KMap} {s : Shared} (hO : Ok h₀ K s) (hm : SysIn h₀) {a : Addr} (h : s.heap.get? a = none) : (a == sysModules) = false := by
  obtain ⟨o, e⟩ := Option.isSome_iff_exists.mp hm
  have := hO.keep _ _ e
  cases hh : a == sysModules with
  | false => rfl
  | true => rw [beq_iff_eq.mp hh, this] at h; cases h

/- {} -/
theorem new_dict {pos : Pos} (hm : SysIn h₀) : EvNew prog w h₀ d sc σ (.Dict [] [] pos) (.dct []) := fun A env K s R W hA hE hS => by
  refine wpAny_Dict_empty ?_
  have st := StepE.same (tk := s.toks) (h' := s.heap.push { cls := .type "dict", data := .dict #[] }) hS.sub fun _ _ e => Heap.get?_push_of_some _ e
  exact ⟨K, [s.heap.objs.size], st, .dct (es := []) (n := 0) (not_sys hS.ok hm (size_none _)) (knone hS.sub (size_none _)) (Heap.get?_push_size _ rfl) .nil, fun a ha => by rw [List.mem_singleton.mp ha]; exact size_none _⟩
/- x[k] = v -/
theorem asg_dict {x : Str} {xpos pos : Pos} {e : Expr} {es : List (Str × PV)} {k : Str} {p : PV} (hx : σ.lookup x = some (.own (.dct es))) (he : EvOK prog w h₀ d sc σ e (.str k)) (hn : (dkeys es).Nodup) (hz : es.length ≤ sizeLine)
    (hd : (x == ("__debug__" : Str)) = false := by rfl) (hc : (x == ("__classdict__" : Str)) = false := by rfl) :
    AsgOK prog w h₀ d sc W σ (.Subscript (.Name x xpos) e pos) p (upd σ x (.own (.dct (dput es k p)))) := fun A env K s R v hA hE hS rv => by
  obtain ⟨m, oa, x'⟩ := id hS
  obtain ⟨u, hat, hv⟩ := x'.val _ _ hx
  obtain ⟨a, ds, n, rfl, hl, hsys, kn, e0, rd⟩ := Own.dct_inv hv
  rw [arm_assign_Subscript]
  refine wpAny_bind (wpAny_holding (wpAny_Name (load_At hE x'.ns hat hc ?_) hd))
  refine wpAny_bind (wpAny_holding ((he A env K s R _ hA hE hS).mono fun iv s₁ K₁ st₁ ri => ?_))
  cases ri with
  | str _ t =>
  obtain ⟨kvs, hda, hva⟩ := dictAt_of (prog := prog) (st₁.get e0) (rd.mono st₁.mono) hn
  have hlen : kvs.length = es.length := by have := congrArg List.length hva.keys; simpa [dkeys] using this
  refine wpAny_bind (wpAny_standAt (wpAny_bind (wpAny_holding ?_)))
  refine wpAny_setItem_pairs (knd := sk prog w) (k := k) (by show Value.isStrOf k (.str k t) = true; simp [Value.isStrOf]) hda.dictOf (fun h' hm hs' => wpAny_release ?_) (hsz := by rw [hlen]; exact hz)
  have kn : K₁ a = none := (st₁.old a (alive_of e0)).trans kn
  obtain ⟨ds', n', e', rd'⟩ := of_dictOf hm (hva.stored (rv.mono st₁.mono))
  have hat' : At env m s₁.heap x (.ref a) := hat.keeps fun b o e => StepE.get st₁ e
  obtain ⟨st₂, hS₂⟩ := StI.mutate (tk := s₁.toks + 1) (h' := h') (p' := .dct (dput es k p)) (x'.step st₁) hx hat' (fun b o hb e => hs'.extBut b o (fun h => hb (by rw [hl, h]; exact .head _)) e)
    (by rw [hl]; exact .dct hsys kn e' rd')
  exact ⟨K₁, (st₁.from hS).trans st₂, hS₂⟩
/- a dict comprehension's turn -/
theorem emit_dict {kx vx : Expr} {es : List (Str × PV)} {k : Str} {q : PV} (hk : EvOK prog w h₀ d sc σ kx (.str k)) (hv : EvOK prog w h₀ d sc σ vx q) (hn : (dkeys es).Nodup) (hz : es.length ≤ sizeLine) : EmitOK prog w h₀ (emD kx vx) d sc W σ (.dct es) (.dct (dput es k q)) := fun A env K s R D hA hE hS hRD hcD hD => by
  refine wpAny_bind ((hk A env K s R W hA hE hS).mono fun kv s₁ K₁ st₁ rk => wpAny_bind (wpAny_holding ?_))
  refine (hv A env K₁ s₁ R W hA hE (hS.step st₁)).mono fun vv s₂ K₂ st₂ rv => ?_
  cases rk with
  | str _ t =>
  have st := st₁.trans st₂
  have hD₂ := hD.step st (hS.live D hRD)
  obtain ⟨a, ds, n, e1, _, hsys, kn, e2, rd⟩ := Own.dct_inv hD₂
  cases e1
  obtain ⟨kvs, hda, hva⟩ := dictAt_of (prog := prog) e2 rd hn
  have hlen : kvs.length = es.length := by have := congrArg List.length hva.keys; simpa [dkeys] using this
  refine wpAny_bind (wpAny_standAt (wpAny_holding ?_))
  refine wpAny_dictSet_pairs (knd := sk prog w) (k := k) (by show Value.isStrOf k (.str k t) = true; simp [Value.isStrOf]) hda.dictOf (fun h' hm hs' => ?_) (hsz := by rw [hlen]; exact hz)
  obtain ⟨ds', n', e', rd'⟩ := of_dictOf hm (hva.stored rv)
  have hD' : Own w.params K₂ h' (.ref D) (.dct (dput es k q)) [D] := .dct hsys kn e' rd'
  obtain ⟨st₃, hS₃⟩ := St.display (tk := s₂.toks + 1) (hS.step st) hRD hcD hD₂ hs' hD'
  exact ⟨K₂, (st.weaken fun a r => hS.live a r.1).trans st₃, hS₃, hD'⟩
theorem acc_dict {A : Around} (hm : SysIn h₀) (s : Shared) (K : KMap) (hO : Ok h₀ K s) (Q : Value → Shared → Prop) (h : ∀ s' D, StepE s K s' K → Own w.params K s'.heap (.ref D) (.dct []) [D] → s.heap.get? D = none → Q (.ref D) s') : wpAny (model prog w) A newDict Q NoE s := by
  have e : (newDict : Sem Value) = newObj (.type "dict") (.dict #[]) := rfl
  rw [e]
  refine wpAny_newObj_type (h _ _ (StepE.same (tk := s.toks) hO.sub fun _ _ e => Heap.get?_push_of_some _ e) (.dct (es := []) (n := 0) (not_sys hO hm (size_none _)) (knone hO.sub (size_none _)) (Heap.get?_push_size _ rfl) .nil) (size_none _))

theorem new_dictcomp {kx vx t iter : Expr} {ifs : List Expr} {scope : Scope} {pos : Pos} {tg : Expr → Prop} {its : List PV} {q : PV} (hm : SysIn h₀) (it : IterOK prog w h₀ d sc σ iter tg its) (turns : CompTurns prog w h₀ (emD kx vx) t ifs d (relab scope sc) (wOf scope) (capOf σ scope.names) its (.dct []) q) (ht : tg t)
    (kind : scope.kind = .function) (nod : nodupB scope.names = true) (free : freeOk scope sc = true) (fold : ∀ env x, foldedSetIterable iter env x = pure x) :
    EvNew prog w h₀ d sc σ (.DictComp kx vx [⟨t, iter, ifs, 0⟩] scope pos) q :=
  new_comp (pos := iter.pos) (newAcc := newDict) (em := emD kx vx) (p := .dct []) ⟨.inr ⟨_, _, _, _, _, rfl⟩, ⟨[], rfl⟩, turn_dict .., ht, kind, nod, free, acc_dict hm, it, turns, fold⟩ fun _ => rfl

noncomputable def KMap.puts (K : KMap) : List (Addr × Obj) → KMap
  | [] => K
  | (a, o) :: r => KMap.puts (K.put a o) r
theorem KMap.puts_at : ∀ (l : List (Addr × Obj)) (K : KMap) (b : Addr), (∃ o, (b, o) ∈ l ∧ K.puts l b = some o) ∨ ((∀ o, (b, o) ∉ l) ∧ K.puts l b = K b)
  | [], K, b => .inr ⟨(fun o h => nomatch h), rfl⟩
  | (a, o) :: r, K, b => by
    show (∃ o', (b, o') ∈ (a, o) :: r ∧ KMap.puts (K.put a o) r b = some o') ∨ ((∀ o', (b, o') ∉ (a, o) :: r) ∧ KMap.puts (K.put a o) r b = K b)
    rcases KMap.puts_at r (K.put a o) b with ⟨o', h1, h2⟩ | ⟨h1, h2⟩
    · exact .inl ⟨o', .tail _ h1, h2⟩
    · by_cases hb : b = a
      · subst hb
        exact .inl ⟨o, .head _, by rw [h2, KMap.put_self]⟩
      · refine .inr ⟨fun o' h => ?_, by rw [h2, KMap.put_other _ _ hb]⟩
        rcases List.mem_cons.mp h with e | h
        · cases e; exact hb rfl
        · exact h1 o' h
/- many new objects are frozen at once -/
theorem StepE.freezes {s : Shared} {K : KMap} {h' : Heap} {tk : Nat} {l : List (Addr × Obj)} (hs : ∀ a o, K a = some o → s.heap.get? a = some o) (hk : ∀ a o, s.heap.get? a = some o → h'.get? a = some o) (hl : ∀ p ∈ l, s.heap.get? p.1 = none ∧ h'.get? p.1 = some p.2) :
    StepE s K { s with heap := h', toks := tk } (K.puts l) ∧ ∀ p ∈ l, K.puts l p.1 = some p.2 := by
  refine ⟨⟨fun a _ o e => hk a o e, fun b o e => ?_, fun b o e => ?_, fun b hb => ?_, ⟨id, Nat.le_refl _, fun _ _ _ => rfl⟩, rfl⟩, fun p hp => ?_⟩
  · rcases KMap.puts_at l K b with ⟨o', h1, h2⟩ | ⟨h1, h2⟩
    · rw [h2] at e; cases e; exact (hl _ h1).2
    · rw [h2] at e; exact hk b o (hs b o e)
  · rcases KMap.puts_at l K b with ⟨o', h1, h2⟩ | ⟨h1, h2⟩
    · have := hs b o e; rw [(hl _ h1).1] at this; cases this
    · rw [h2]; exact e
  · rcases KMap.puts_at l K b with ⟨o', h1, h2⟩ | ⟨h1, h2⟩
    · rw [Alive, (hl _ h1).1] at hb; cases hb
    · exact h2
  · rcases KMap.puts_at l K p.1 with ⟨o', h1, h2⟩ | ⟨h1, h2⟩
    · rw [h2]; have := (hl _ h1).2; rw [(hl _ hp).2] at this; exact this.symm
    · exact absurd hp (h1 p.2)

theorem pairs_rep {K : KMap} : ∀ {ps : List (Str × PV)} {as : List Addr}, as.length = ps.length → (∀ (i : Nat) (a : Addr), as[i]? = some a → ∃ t v k p, ps[i]? = some (k, p) ∧ Rep w.params K v p ∧ K a = some (tupObj #[.str k t, v] 0)) → RepL w.params K (as.map Value.ref) (pairsOfD ps)
  | [], [], _, _ => .nil
  | [], _ :: _, h, _ => by cases h
  | _ :: _, [], h, _ => by cases h
  | (k, p) :: ps, a :: as, h, hh => by
    obtain ⟨t, v, k', p', e, rv, ka⟩ := hh 0 a rfl
    simp at e
    obtain ⟨rfl, rfl⟩ := e
    exact .cons (.tup (vs := [.str k t, v]) (n := 0) ka (.cons (.str _ _) (.cons rv .nil))) (pairs_rep (by simpa using h) fun i a e => hh (i + 1) a (by simpa using e))
theorem ValsAre.get {P : Params} {K : KMap} : ∀ {kvs : List (Str × Value)} {ps : List (Str × PV)}, ValsAre P K kvs ps → ∀ {i : Nat} {k : Str} {v : Value}, kvs[i]? = some (k, v) → ∃ p, ps[i]? = some (k, p) ∧ Rep P K v p
  | _, _, .nil, i, k, v, e => by simp at e
  | _, _, .cons a r, 0, k, v, e => by simp at e; obtain ⟨rfl, rfl⟩ := e; exact ⟨_, rfl, a⟩
  | _, _, .cons a r, i + 1, k, v, e => by simp only [List.getElem?_cons_succ] at e ⊢; exact ValsAre.get r e

/- list(d.items()) -/
theorem ev_list_items {o : Expr} {fpos apos ipos pos : Pos} {es : List (Str × PV)} (G : Glb h₀ mg mb) (hc : Callee mg mb ("list" : Str) (.type "list")) (ho : EvOK prog w h₀ d sc σ o (.dct es)) (hn : (dkeys es).Nodup) (hz : es.length ≤ sizeLine)
    (hx : sc.names.lookup ("list" : Str) = some .globalImplicit := by rfl) (hbase : ∀ env, attributeBase o "items" env (eval o env) = eval o env := by intro _; rfl) (hline : (apos.endLine == ipos.line) = true := by rfl) :
    EvOK prog w h₀ d sc σ (.Call (.Name ("list" : Str) fpos) [.Call (.Attribute o "items" apos) [] [] ipos] [] pos) (.lst (pairsOfD es)) := fun A env K s R W hA hE hS => by
  refine wpAny_Call_NameR (callee_name G hE hS hc hx (by decide) ?_)
  refine callWith_kind (h₀ := h₀) (first := []) (.inl ⟨_, rfl⟩) (by rfl) ?_
  show wpAny _ _ (evalArgs (.type "list") true [(false, eval (.Call (.Attribute o "items" apos) [] [] ipos) env)] []) _ _ _
  refine Calls.evalArgs_plain (Calls.spliced_cons ?_)
  refine wpAny_Call_method_lateS (hbase env) rfl hline ((ho A env K s R W hA hE hS).mono fun v s₁ K₁ st₁ rv => ?_)
  cases rv with
  | @dct a ds n _ hsys e rd =>
  have e1 := st₁.sub _ _ e
  obtain ⟨kvs, hda, hva⟩ := dictAt_of (prog := prog) e1 rd hn
  have hlen : kvs.length = es.length := by have := congrArg List.length hva.keys; simpa [dkeys] using this
  refine ⟨"dict", "dict.items", F.plainAttrs_dict, F.slot_dict_items, F.type_dict_items, ⟨_, e1, rfl⟩, (fun b hb => by cases hb; exact ⟨_, e1, rfl⟩), ?_⟩
  refine method_meetsIn F.slot_dict_items F.entry_dict_items rfl (PySem.evalArgs_none ⟨rfl, ⟨_, e1, rfl⟩, F.args_dict_items_1 _, _, meets_dict_items (sk prog w) a hsys, ⟨kvs, hda.dictOf⟩, ?_⟩)
  have st₂ : StepE s₁ K₁ { s₁ with heap := s₁.heap.push { cls := .type "dict_items", data := .fields #[.ref a] }, toks := s₁.toks } K₁ := StepE.same st₁.sub fun _ _ e => Heap.get?_push_of_some _ e
  refine Calls.spliced_nil ⟨(hS.step (st₁.trans st₂)).base, ?_⟩
  refine kdx_call (knd := sk prog w) (kvs := kvs) (ep := n) hA.1 (r := s₁.heap.objs.size) (d := a) ⟨_, Heap.get?_push_size _ rfl, rfl, rfl⟩ (hda.push _) (by rw [hlen]; exact hz) fun h' tk acc c as hk hD hl hg hacc => ?_
  have sz := Heap.size_push s₁.heap { cls := .type "dict_items", data := .fields #[.ref a] }
  generalize hH : s₁.heap.push { cls := .type "dict_items", data := .fields #[.ref a] } = H at *
  have tup : ∀ (i : Nat) (b : Addr), as[i]? = some b → ∃ t v k p, es[i]? = some (k, p) ∧ Rep w.params K₁ v p ∧ h'.get? b = some (tupObj #[.str k t, v] 0) := fun i b hb => by
    obtain ⟨key, k, x, f1, f2, f3⟩ := hg.pairs i b hb
    obtain ⟨p, g1, g2⟩ := hva.get f1
    obtain ⟨t, rfl⟩ := Value.isStrOf_shape f2
    exact ⟨t, x, k, p, g1, g2, f3⟩
  have dead : ∀ b : Addr, @LE.le Nat _ H.objs.size b → H.get? b = none := fun b hb => by
    cases e : H.get? b with
    | none => rfl
    | some o => exact absurd (Heap.lt_size e) (Nat.not_lt.mpr hb)
  obtain ⟨st₃, hput⟩ := StepE.freezes (s := { s₁ with heap := H, toks := s₁.toks }) (tk := tk) (l := (H.objs.size, listOf acc c) :: (as.map fun b => (b, (h'.get? b).getD default))) st₂.sub hk fun p hp => by
    rcases List.mem_cons.mp hp with rfl | hp
    · exact ⟨dead _ (Nat.le_refl _), hD⟩
    · obtain ⟨b, hb, rfl⟩ := List.mem_map.mp hp
      obtain ⟨i, hi⟩ := List.mem_iff_getElem?.mp hb
      obtain ⟨t, v, k, p, _, _, e⟩ := tup i b hi
      exact ⟨dead b (Nat.le_of_lt (hg.above b hb)), by show h'.get? b = some ((h'.get? b).getD default); rw [e]; rfl⟩
  refine ⟨_, (st₁.trans st₂).trans st₃, .lst (vs := as.map Value.ref) (hput _ (.head _)) ⟨rfl, c, by rw [← hacc]⟩ (pairs_rep (by rw [hl, hlen]) fun i b hb => ?_)⟩
  obtain ⟨t, v, k, p, g1, g2, e⟩ := tup i b hb
  refine ⟨t, v, k, p, g1, g2.mono st₃.mono, ?_⟩
  rw [hput (b, (h'.get? b).getD default) (.tail _ (List.mem_map.mpr ⟨b, List.mem_of_getElem? hb, rfl⟩)), e]; rfl
end
end Mine.Internal

end PartB17
section PartB18
open PySem PySem.W PyProof.Rows
set_option Elab.async false
set_option maxRecDepth 100000
set_option linter.unusedVariables false
namespace Mine.Internal

noncomputable def envS (sc : Scope) : Env := { scope := sc, locals := 0, globals := 0, cells := [] }
theorem swapped_scope {ts : List Expr} {v : Expr} {env : Env} {sc : Scope} (h : env.scope = sc) : swappedStores ts v env = swappedStores ts v (envS sc) := by
  cases env
  dsimp only at h
  subst h
  rfl

section
variable {prog : Program} {w : World} {h₀ : Heap} {d : Nat} {sc : Scope} {σ : Sig} {W : Str → Bool} {mg mb : Str → Option Value}

/- x, y = e, f with the stores in the other order -/
theorem st_swap {x y : Str} {elts : List Expr} {k : Nat} {tpos pos : Pos} {e : Expr} {p q : PV} (h : EvOK prog w h₀ d sc σ e (.tup [p, q])) (hx : CanSt sc x) (hy : CanSt sc y)
    (hw : swappedStores [.Tuple elts k tpos] e (envS sc) = pure (some [x, y]) := by rfl) (hs : ∀ env, swapsWithSole [.Tuple elts k tpos] e pos.line env = pure false := by intro _; rfl) :
    ExSt prog w h₀ d sc σ (.Assign [.Tuple elts k tpos] e pos) (.next (upd (upd σ y (.val q)) x (.val p))) := fun A env K s R hA hE hS => by
  refine Assign_Tuple_swapped (names := [x, y]) ((h A env K s R _ hA hE hS).mono fun v s₁ K₁ st₁ rv => ?_) (hs env) ((swapped_scope hE.scope).trans hw)
  cases rv with
  | @tup a vs n _ e rl =>
  have hlen := rl.length
  have e1 := st₁.sub _ _ e
  have : ([x, y] : List Str).length = vs.toArray.size := by rw [List.size_toArray, hlen]; rfl
  rw [this]
  refine wpAny_unpackItems_tuple (items := vs.toArray) hA.1 ⟨_, e1, rfl, n, rfl⟩ fun h' he => ?_
  have st₂ := extE (tk := s₁.toks) st₁.sub he
  cases rl with
  | @cons v1 _ _ _ r1 rl =>
  cases rl with
  | @cons v2 _ _ _ r2 rl =>
  cases rl
  show wpAny _ _ (holding _ (bindName env y v2) >>= fun _ => holding _ (bindName env x v1) >>= fun _ => pure ()) _ _ _
  refine wpAny_bind (wpAny_holding (wpAny_bindName (store_val hE ((hS.step st₁).step st₂) hy rfl r2 fun s₃ st₃ hS₃ => ?_)))
  refine wpAny_bind (wpAny_holding (wpAny_bindName (store_val hE hS₃ hx rfl (r1.mono st₃.mono) fun s₄ st₄ hS₄ => ?_)))
  exact wpAny_pure ⟨K₁, (((st₁.trans st₂).from hS).trans st₃).trans st₄, hS₄⟩

/- targets that are no names are never turned about -/
theorem swapped_subs {o i o' i' : Expr} {p p' tpos vpos : Pos} {k k' : Nat} {vs : List Expr} (env : Env) : swappedStores [.Tuple [.Subscript o i p, .Subscript o' i' p'] k tpos] (.Tuple vs k' vpos) env = pure none := by
  unfold swappedStores
  dsimp only
  split
  · rfl
  · split
    · rfl
    · rfl
end
end Mine.Internal

end PartB18
section PartB19
open PySem PySem.W PyProof.Rows
set_option Elab.async false
set_option maxRecDepth 100000
set_option linter.unusedVariables false
namespace Mine.Internal

/- what the written part says of a class of the text -/
structure ClsOk (F : Frag) (C : Addr) : Prop where
  makes : makesIn F C = true
  over : plainOver F C = true
  hasD : hasDictIn F C = true
  get : findIn F (.ref C) "__getattribute__" = some (some (.builtin "object.__getattribute__"))
  hook : findIn F (.ref C) "__getattr__" = some none
  set : findIn F (.ref C) "__setattr__" = some (some (.builtin "object.__setattr__"))

noncomputable def aput (es : List (Str × PV)) (k : Str) (p : PV) : List (Str × PV) := match es with
  | [] => [(k, p)]
  | (x, q) :: r => if x == k then (x, p) :: r else (x, q) :: aput r k p

theorem RepD.put {P : Params} {K : KMap} {name : Str} {tk : Tok} {v : Value} {p : PV} (rv : Rep P K v p) : ∀ {es : List DictEntry} {ps : List (Str × PV)}, RepD P K es ps → RepD P K (putL name (PyData.keyHash P name) (.str name tk) v es) (aput ps name p)
  | _, _, .nil => .cons rv .nil
  | _, _, @RepD.cons _ _ u es q ps x t a r => by
    rw [putL, aput]
    have e : (Value.str x t).isStr name = (x == name) := rfl
    dsimp only
    rw [e]
    by_cases hx : x = name
    · subst hx
      simp only [beq_self_eq_true, if_true]
      exact .cons rv r
    · have hb : (x == name) = false := by simp [hx]
      simp only [hb, Bool.false_eq_true, if_false]
      exact .cons a (RepD.put rv r)
theorem RepD.keys {P : Params} {K : KMap} : ∀ {es : List DictEntry} {ps : List (Str × PV)}, RepD P K es ps → es.any (·.refKey) = false
  | _, _, .nil => rfl
  | _, _, .cons _ r => by rw [List.any_cons, RepD.keys r]; rfl
theorem RepD.length {P : Params} {K : KMap} : ∀ {es : List DictEntry} {ps : List (Str × PV)}, RepD P K es ps → es.length = ps.length
  | _, _, .nil => rfl
  | _, _, .cons _ r => by rw [List.length_cons, List.length_cons, RepD.length r]
theorem RepD.getL {P : Params} {K : KMap} {name : Str} : ∀ {es : List DictEntry} {ps : List (Str × PV)}, RepD P K es ps →
    (∀ p, ps.lookup name = some p → ∃ v, es.find? (·.key.isStr name) = some v ∧ Rep P K v.val p) ∧ (ps.lookup name = none → es.find? (·.key.isStr name) = none)
  | _, _, .nil => ⟨fun p e => by simp at e, fun _ => rfl⟩
  | _, _, @RepD.cons _ _ u es q ps x t a r => by
    have ih := RepD.getL (name := name) r
    have e : (Value.str x t).isStr name = (x == name) := rfl
    rw [List.lookup_cons, List.find?_cons]
    dsimp only
    rw [e]
    by_cases hx : x = name
    · subst hx
      simp only [beq_self_eq_true]
      exact ⟨fun p e => by cases e; exact ⟨_, rfl, a⟩, fun e => by cases e⟩
    · have hb : (x == name) = false := by simp [hx]
      have hb' : (name == x) = false := by simp [Ne.symm hx]
      simp only [hb, hb']
      exact ih
theorem lookIn_rep {P : Params} {K : KMap} {name : Str} {es : List DictEntry} {n : Nat} {ps : List (Str × PV)} (r : RepD P K es ps) :
    (∀ p, ps.lookup name = some p → ∃ v, lookIn name (dictOf es n) = some (some v) ∧ Rep P K v p) ∧ (ps.lookup name = none → lookIn name (dictOf es n) = some none) := by
  obtain ⟨h1, h2⟩ := r.getL (name := name)
  rw [lookIn_dict]
  unfold PySem.W.getL
  refine ⟨fun p e => ?_, fun e => ?_⟩
  · obtain ⟨v, hv, rv⟩ := h1 p e
    rw [hv]; exact ⟨_, rfl, rv⟩
  · rw [h2 e, r.keys]; rfl

section
variable {prog : Program} {w : World} {h₀ : Heap} {d : Nat} {sc : Scope} {σ : Sig} {W : Str → Bool} {mg mb : Str → Option Value} {F : Frag}

theorem In.ok {K : KMap} {s : Shared} (X : F.In h₀) (hO : Ok h₀ K s) : F.In s.heap := X.keeps hO.keep
theorem inst_at {h : Heap} {x dx C : Addr} {od : Obj} (h1 : h.get? x = some (instObj C dx)) (h2 : h.get? dx = some od) : InstAt h x (instObj C dx) C (some od) := ⟨h1, rfl, rfl, h2⟩

theorem setattr_exact {A : Around} {s : Shared} {R : Result → Shared → Prop} {x dx C : Addr} {es : List DictEntry} {n : Nat} {name : Str} {v : Value} {tk : Tok} (X : F.In s.heap) (CO : ClsOk F C) (ht : takerIn F C name = some none)
    (h1 : s.heap.get? x = some (instObj C dx)) (h2 : s.heap.get? dx = some (dictOf es n)) (hk : es.any (·.refKey) = false) (hz : (putL name (PyData.keyHash w.params name) (.str name s.toks) v es).length ≤ 1000)
    (h : ∀ h' n', h'.get? dx = some (dictOf (putL name (PyData.keyHash w.params name) (.str name s.toks) v es) n') → Heap.SameBut dx s.heap h' → R (.ok (.ret .none)) { s with heap := h', toks := s.toks + 1 }) :
    codeAny (model prog w) A (.call (.builtin "object.__setattr__") ⟨[.ref x, .str name tk, v], []⟩) R s := by
  refine osa_open X (inst_at h1 h2) CO.over ht fun b => ?_
  obtain ⟨cd, hc, hD⟩ := any_some CO.hasD
  refine wpAny_bind (wpAny_pure (wpAny_bind (wpAny_bind (wpAny_loadPart (o := instObj C dx) h1 (wpAny_bind ((looks_clsIn X hc).here ?_))))))
  rw [hD]
  refine wpAny_pure (a := some dx) (wpAny_bind (wpAny_pure (wpAny_bind ?_)))
  unfold nsSet
  refine wpAny_bind (wpAny_bind (wpAny_askSetting (wpAny_pure (wpAny_bind (wpAny_mkText (wpAny_bind (wpAny_loadPart (o := dictOf es n) h2 ?_)))))))
  dsimp only
  rw [aRefKeyMayBeTheName_at, show (es.toArray.any fun e => e.refKey) = false by rw [← hk]; simp, Bool.and_false]
  simp only [Bool.false_eq_true, if_false]
  refine wpAny_updatePart (o := dictOf es n) h2 ?_
  have hput := putName_dict name (PyData.keyHash w.params name) (.str name s.toks) v es n
  have hnew : (s.heap.update dx (Obj.putName name (PyData.keyHash w.params name) (.str name s.toks) v)).get? dx = some (dictOf (putL name (PyData.keyHash w.params name) (.str name s.toks) v es) (putN name es n)) := by
    rw [Heap.get?_update_self _ h2 (by rw [hput]; rfl), hput]
  refine wpAny_bind (wpAny_lookBehind hnew (pastItsLine_dict (by rw [List.size_toArray, sizeLine_eq]; omega)) ?_)
  exact wpAny_pure (h _ _ hnew (Heap.SameBut.update ..))
theorem store_exact {A : Around} {E : Value → Shared → Prop} {s : Shared} {x dx C : Addr} {es : List DictEntry} {n : Nat} {name : Str} {v : Value} {Q : Unit → Shared → Prop} (X : F.In s.heap) (CO : ClsOk F C) (ht : takerIn F C name = some none)
    (h1 : s.heap.get? x = some (instObj C dx)) (h2 : s.heap.get? dx = some (dictOf es n)) (hk : es.any (·.refKey) = false) (hz : (putL name (PyData.keyHash w.params name) (.str name (s.toks + 1)) v es).length ≤ 1000)
    (h : ∀ h' n', h'.get? dx = some (dictOf (putL name (PyData.keyHash w.params name) (.str name (s.toks + 1)) v es) n') → Heap.SameBut dx s.heap h' → Q () { s with heap := h', toks := s.toks + 2 }) :
    wpAny (model prog w) A (setAttr (.ref x) name v) Q E s :=
  set_plain X (inst_at h1 h2) CO.set (setattr_exact (s := { s with toks := s.toks + 1 }) X CO ht h1 h2 hk hz h)
theorem putL_length (name : Str) (hsh : Int) (key v : Value) : ∀ es : List DictEntry, (putL name hsh key v es).length ≤ es.length + 1
  | [] => Nat.le_refl _
  | e :: r => by
    unfold putL
    split
    · simp
    · have := putL_length name hsh key v r
      simp only [List.length_cons]; omega

/- x.name = v -/
theorem asg_attr {x : Str} {xpos pos : Pos} {name : Str} {C : Addr} {i : Option Addr} {es : List (Str × PV)} {p : PV} (X : F.In h₀) (CO : ClsOk F C) (ht : takerIn F C name = some none) (hx : σ.lookup x = some (.own (.obj C i es))) (hz : es.length < 900)
    (hd : (x == ("__debug__" : Str)) = false := by rfl) (hc : (x == ("__classdict__" : Str)) = false := by rfl) :
    AsgOK prog w h₀ d sc W σ (.Attribute (.Name x xpos) name pos) p (upd σ x (.own (.obj C i (aput es name p)))) := fun A env K s R v hA hE hS rv => by
  obtain ⟨m, oa, x'⟩ := id hS
  obtain ⟨u, hat, hv⟩ := x'.val _ _ hx
  obtain ⟨a, dx, ds, n, rfl, hl, hid, ka, kd, hne, e1, e2, rd⟩ := Own.obj_inv hv
  rw [arm_assign_Attribute]
  refine wpAny_bind (wpAny_holding (wpAny_Name (load_At hE x'.ns hat hc ?_) hd))
  refine wpAny_bind (wpAny_standAt (wpAny_bind (wpAny_holding ?_)))
  have hlen := rd.length
  refine store_exact (In.ok X hS.ok) CO ht e1 e2 rd.keys (by have := putL_length name (PyData.keyHash w.params name) (.str name (s.toks + 1)) v ds; omega) fun h' n' e' hs' => wpAny_release ?_
  obtain ⟨st₂, hS₂⟩ := StI.mutate (tk := s.toks + 2) (h' := h') (p' := .obj C i (aput es name p)) x' hx hat (fun b o hb e => hs'.extBut b o (fun h => hb (by rw [hl, h]; exact .tail _ (.head _))) e)
    (by rw [hl]; exact .obj hid ka kd hne (hs'.extBut _ _ hne e1) e' (rd.put rv))
  exact ⟨K, st₂, hS₂⟩
theorem st_attr {x : Str} {xpos tpos pos : Pos} {name : Str} {C : Addr} {i : Option Addr} {es : List (Str × PV)} {e : Expr} {p : PV} (X : F.In h₀) (CO : ClsOk F C) (ht : takerIn F C name = some none) (hx : σ.lookup x = some (.own (.obj C i es))) (hz : es.length < 900) (he : EvOK prog w h₀ d sc σ e p)
    (hd : (x == ("__debug__" : Str)) = false := by rfl) (hc : (x == ("__classdict__" : Str)) = false := by rfl)
    (hs : ∀ env, swapsWithSole [.Attribute (.Name x xpos) name tpos] e pos.line env = pure false := by intro _; rfl) (hw : ∀ env, swappedStores [.Attribute (.Name x xpos) name tpos] e env = pure none := by intro _; rfl) :
    ExSt prog w h₀ d sc σ (.Assign [.Attribute (.Name x xpos) name tpos] e pos) (.next (upd σ x (.own (.obj C i (aput es name p))))) :=
  st_assign_tgt he (asg_attr X CO ht hx hz hd hc) hs hw

/- reading attributes -/
theorem handed {P : Params} {K : KMap} {v : Value} {p : PV} (h : Rep P K v p) : handedIn v = true := by cases h <;> rfl
theorem get_obj {A : Around} {s : Shared} {E : Value → Shared → Prop} {x dx C : Addr} {od : Obj} {name : Str} {v : Value} {expr : Bool} {Q : Value → Shared → Prop} (X : F.In s.heap) (CO : ClsOk F C) (h1 : s.heap.get? x = some (instObj C dx)) (h2 : s.heap.get? dx = some od)
    (hf : findObj F C (some od) name = some (.value v)) (hh : handedIn v = true) (h : Q v { s with toks := s.toks + 1 }) : wpAny (model prog w) A (getAttr (.ref x) name expr) Q E s :=
  get_value X (inst_at h1 h2) CO.get hf hh h
/- an attribute of the object's own, or of its class's -/
noncomputable def AttrIs (P : Params) (F : Frag) (C : Addr) (K : KMap) (es : List (Str × PV)) (name : Str) (p : PV) : Prop :=
  (es.lookup name = some p ∧ ∃ attr, findIn F (.ref C) name = some attr ∧ noGet F attr = true) ∨
  (es.lookup name = none ∧ ∃ a, findIn F (.ref C) name = some (some a) ∧ specialIn F a "__get__" = some none ∧ copiedNames.contains name = false ∧ Rep P K a p)
theorem AttrIs.mono {P : Params} {C : Addr} {K K' : KMap} {es : List (Str × PV)} {name : Str} {p : PV} (h : ∀ a o, K a = some o → K' a = some o) (x : AttrIs P F C K es name p) : AttrIs P F C K' es name p := x.imp id fun ⟨a, b, c, d, e, f⟩ => ⟨a, b, c, d, e, f.mono h⟩
theorem attr_get {A : Around} {K : KMap} {s : Shared} {E : Value → Shared → Prop} {x dx C : Addr} {ds : List DictEntry} {n : Nat} {es : List (Str × PV)} {name : Str} {p : PV} {expr : Bool} {Q : Value → Shared → Prop} (X : F.In s.heap) (CO : ClsOk F C) (h1 : s.heap.get? x = some (instObj C dx)) (h2 : s.heap.get? dx = some (dictOf ds n))
    (rd : RepD w.params K ds es) (hp : AttrIs w.params F C K es name p) (h : ∀ v, Rep w.params K v p → Q v { s with toks := s.toks + 1 }) : wpAny (model prog w) A (getAttr (.ref x) name expr) Q E s := by
  rcases hp with ⟨hl, attr, ha, hn⟩ | ⟨hl, a, ha, hn, hc, ra⟩
  · obtain ⟨v, hv, rv⟩ := (lookIn_rep rd).1 p hl
    exact get_obj X CO h1 h2 (findObj_own CO.hasD ha hn hv) (handed rv) (h v rv)
  · exact get_obj X CO h1 h2 (findObj_cls CO.hasD ha hn (handed ra) hc ((lookIn_rep rd).2 hl)) (handed ra) (h a ra)
theorem ev_attr {o : Expr} {name : Str} {pos : Pos} {C : Addr} {i : Option Addr} {es : List (Str × PV)} {p : PV} (X : F.In h₀) (CO : ClsOk F C) (ho : EvOK prog w h₀ d sc σ o (.obj C i es)) (hp : ∀ K : KMap, (∀ a o, h₀.get? a = some o → K a = some o) → AttrIs w.params F C K es name p)
    (he : ∀ env, eval (.Attribute o name pos) env = (do
      let ov ← eval o env
      standAt pos.atName
      let r ← holding [ov] (getAttr ov name true)
      letTemporaryGo o ov r
      pure r) := by intro _; rfl) : EvOK prog w h₀ d sc σ (.Attribute o name pos) p := fun A env K s R W hA hE hS => by
  refine Attribute_any_ ((ho A env K s R W hA hE hS).mono fun v s₁ K₁ st₁ rv => ?_) (he env)
  have hO := (hS.step st₁).ok
  cases rv with
  | @obj a c dx _ ds n _ _ e f rd =>
  exact attr_get (In.ok X hO) CO (st₁.sub _ _ e) (st₁.sub _ _ f) rd (hp K₁ hO.base) fun v rv => ⟨K₁, st₁.trans (StepE.same st₁.sub fun _ _ e => e), rv⟩
theorem ev_attr_own {x : Str} {xpos : Pos} {name : Str} {pos : Pos} {C : Addr} {i : Option Addr} {es : List (Str × PV)} {p : PV} (X : F.In h₀) (CO : ClsOk F C) (hx : σ.lookup x = some (.own (.obj C i es))) (hp : ∀ K : KMap, (∀ a o, h₀.get? a = some o → K a = some o) → AttrIs w.params F C K es name p)
    (hd : (x == ("__debug__" : Str)) = false) (hc : (x == ("__classdict__" : Str)) = false)
    (he : ∀ env, eval (.Attribute (.Name x xpos) name pos) env = (do
      let ov ← eval (.Name x xpos) env
      standAt pos.atName
      let r ← holding [ov] (getAttr ov name true)
      letTemporaryGo (.Name x xpos) ov r
      pure r)) : EvOK prog w h₀ d sc σ (.Attribute (.Name x xpos) name pos) p := fun A env K s R W hA hE hS => by
  obtain ⟨m, oa, x'⟩ := id hS
  obtain ⟨u, hat, hv⟩ := x'.val _ _ hx
  obtain ⟨a, dx, ds, n, rfl, hl, hid, ka, kd, hne, e1, e2, rd⟩ := Own.obj_inv hv
  refine Attribute_any_ (wpAny_Name (load_At hE x'.ns hat hc ?_) hd) (he env)
  exact attr_get (In.ok X hS.ok) CO e1 e2 rd (hp K hS.baseK) fun v rv => ⟨K, StepE.same hS.sub fun _ _ e => e, rv⟩
end
end Mine.Internal

end PartB19
section PartB20
open PySem PySem.W PyProof.Rows
set_option Elab.async false
set_option maxRecDepth 100000
set_option linter.unusedVariables false
namespace Mine.Internal

section
variable {prog : Program} {w : World} {h₀ : Heap} {d : Nat} {sc : Scope} {σ : Sig} {W : Str → Bool} {mg mb : Str → Option Value} {F : Frag}

theorem weight_made (C : Addr) (rest : List Value) : (Code.builtin "type.__call__" ⟨.ref C :: rest, []⟩).weight = 1 := by first | rfl | kernel_rfl
theorem units_made (C : Addr) (rest : List Value) : (Code.builtin "type.__call__" ⟨.ref C :: rest, []⟩).cUnits = 1 := by first | rfl | kernel_rfl
theorem AOk.under {A : Around} {c : Code} (h : AOk (d + 1) A) (h1 : c.weight ≤ 4) (h2 : c.cUnits ≤ 40) : AOk d (A.under c) := by
  obtain ⟨a, b, e⟩ := h
  refine ⟨a, ?_, ?_⟩
  · show A.depth + c.weight + 4 * d + 4 < _; omega
  · show A.units + c.cUnits + 64 * d + 200 < _; omega

/- the two objects of a new thing -/
theorem made_step {K : KMap} {hh : Heap} {g : Array GenState} {dr : Drawn} {t : Nat} {os : OsState} {i : Option Addr} (C : Addr) (hi : i = none ∨ i = some (hh.objs.size + 1)) (hs : ∀ a o, K a = some o → hh.get? a = some o) :
    StepE ⟨hh, g, dr, t, os⟩ K ⟨(hh.push emptyDict).push (instObj C hh.objs.size), g, dr, t, os⟩ K ∧
    Own w.params K ((hh.push emptyDict).push (instObj C hh.objs.size)) (.ref (hh.objs.size + 1)) (.obj C i []) [hh.objs.size + 1, hh.objs.size] ∧
    ∀ a ∈ [hh.objs.size + 1, hh.objs.size], hh.get? a = none := by
  have dead : ∀ b : Addr, @LE.le Nat _ hh.objs.size b → hh.get? b = none := fun b hb => by
    cases e : hh.get? b with
    | none => rfl
    | some o => exact absurd (Heap.lt_size e) (Nat.not_lt.mpr hb)
  have kd : ∀ b : Addr, @LE.le Nat _ hh.objs.size b → K b = none := fun b hb => by
    cases e : K b with
    | none => rfl
    | some o => have := hs b o e; rw [dead b hb] at this; cases this
  have sz : (hh.push emptyDict).objs.size = hh.objs.size + 1 := Heap.size_push ..
  have e1 : ((hh.push emptyDict).push (instObj C hh.objs.size)).get? (hh.objs.size + 1) = some (instObj C hh.objs.size) := by rw [← sz]; exact Heap.get?_push_size _ rfl
  refine ⟨StepE.same (s := ⟨hh, g, dr, t, os⟩) (tk := t) hs fun _ _ e => Heap.get?_push_of_some _ (Heap.get?_push_of_some _ e), (.obj (es := []) (n := 0) hi (kd _ (Nat.le_succ _)) (kd _ (Nat.le_refl _)) (Nat.succ_ne_self _) e1 (Heap.get?_push_of_some _ (Heap.get?_push_size _ rfl)) .nil), fun a ha => ?_⟩
  rcases List.mem_cons.mp ha with rfl | ha
  · exact dead _ (Nat.le_succ _)
  · rw [List.mem_singleton.mp ha]; exact dead _ (Nat.le_refl _)

/- C() with the make of object -/
theorem call_make0 {C : Addr} (X : F.In h₀) (CO : ClsOk F C) (hi : findIn F (.ref C) "__init__" = some (some (.builtin "object.__init__"))) : CallNew prog w h₀ d (.ref C) [] (.obj C none []) := fun A K s vs hA hO rs => by
  cases rs
  have X' := In.ok X hO
  obtain ⟨hh, g, dr, t, os⟩ := s
  obtain ⟨st, ow, fr⟩ := made_step (w := w) (g := g) (dr := dr) (t := t) (os := os) (i := none) C (.inl rfl) hO.sub
  have Y := makes_of (M := model prog w) X' CO.makes
  refine wpAny_call (make_core Y (looks_findIn X' hi) (fun self => Looks.of_pure (oi_bind self)) (.inr ⟨rfl, rfl⟩) ?_)
  have e1 : ((hh.push emptyDict).push (instObj C hh.objs.size)).get? (hh.objs.size + 1) = some (instObj C hh.objs.size) := by
    have sz : (hh.push emptyDict).objs.size = hh.objs.size + 1 := Heap.size_push ..
    rw [← sz]; exact Heap.get?_push_size _ rfl
  have t1 : Looks (model prog w) ((hh.push emptyDict).push (instObj C hh.objs.size)) (typeOf (.ref (hh.objs.size + 1))) (.ref C) := (Looks.ld e1).andThen .now
  have t2 : Looks (model prog w) ((hh.push emptyDict).push (instObj C hh.objs.size)) (isInstance (.ref (hh.objs.size + 1)) (.type "object")) true := t1.andThen (Y.top.keeps fun b o e => Heap.get?_push_of_some _ (Heap.get?_push_of_some _ e))
  refine codeAny_call_builtin oi_plain entry_oi (@check_slot (model prog w) _ _ _ "object.__init__" "object" "__init__" (.ref (hh.objs.size + 1)) [] [] _ oi_kind oi_split t2 (oi_args (.ref (hh.objs.size + 1))) ?_)
  rw [oi_run]
  exact wpAny_pure ⟨rfl, K, _, st, ow, fr⟩

/- C(..) with an __init__ of the text's -/
theorem call_make {C fI : Addr} {fd : FuncData} {body : List Stmt} {xs : List Str} {self : Str} {ps : List PV} {es : List (Str × PV)} (X : F.In h₀) (CO : ClsOk F C) (hi : findIn F (.ref C) "__init__" = some (some (.ref fI))) (hf : typeIn F (.ref fI) = some (.type "function"))
    (FA : FnAt h₀ fI fd body) (hlim : h₀.NoLimit) (hbind : ∀ vs : List Value, vs.length = ps.length + 1 → bindArgs fd ⟨vs, []⟩ = pure ((self :: xs).zip vs)) (hkind : ∀ x ∈ self :: xs, fd.scope.names.lookup x = some .local ∨ fd.scope.names.lookup x = some .cell) (hn : (self :: xs).Nodup)
    (hgen : fd.scope.isGenerator = false) (hb : ∀ i, ∃ σ', ExOK prog w h₀ d fd.scope ((self, .own (.obj C (some i) [])) :: xs.zip (ps.map Slot.val)) body (.next σ') ∧ σ'.lookup self = some (.own (.obj C (some i) es))) :
    CallNew prog w h₀ (d + 2) (.ref C) ps (.obj C none es) := fun A K s vs hA hO rs => by
  have X' := In.ok X hO
  obtain ⟨hh, g, dr, t, os⟩ := s
  obtain ⟨st, ow, fr⟩ := made_step (w := w) (g := g) (dr := dr) (t := t) (os := os) (i := some (hh.objs.size + 1)) C (.inr rfl) hO.sub
  refine wpAny_call (make_core (makes_of X' CO.makes) (looks_findIn X' hi) (fun self => bind_fn X' self hf) (.inl rfl) ?_)
  have hO' := hO.step st
  obtain ⟨σ', hb, hσ'⟩ := hb (hh.objs.size + 1)
  have dead : ∀ a, Alive ⟨hh, g, dr, t, os⟩ a → a ∉ [hh.objs.size + 1, hh.objs.size] := fun a ha h => by
    have := fr a h; rw [Alive, this] at ha; cases ha
  obtain ⟨hself, hnx⟩ := List.nodup_cons.mp hn
  refine codeAny_mono (code_fn (A := A.under (.builtin "type.__call__" ⟨.ref C :: vs, []⟩)) (R := Alive ⟨hh, g, dr, t, os⟩) (oa := fun x => if x = self then [hh.objs.size + 1, hh.objs.size] else []) FA hlim (AOk.under hA (by rw [weight_made]; decide) (by rw [units_made]; decide)) hO' (fun a h => st.alive h h)
    (BindsTo.of_eq (hbind (.ref (hh.objs.size + 1) :: vs) (by rw [List.length_cons, rs.length]))) (fun x hx => hkind _ (List.of_mem_zip (a := x.1) (b := x.2) hx).1) ?_ ?_ ?_ hgen hb) fun r s' h => ?_
  · intro x sl e
    rw [List.lookup_cons] at e
    rw [List.zip_cons_cons, List.reverse_cons, List.lookup_append]
    by_cases hx : x = self
    · subst hx
      rw [beq_self_eq_true] at e
      cases e
      have : (xs.zip vs).reverse.lookup x = none := by
        rw [List.lookup_eq_none_iff]
        intro q hq
        have := (List.of_mem_zip (a := q.1) (b := q.2) (List.mem_reverse.mp hq)).1
        simp
        rintro rfl; exact hself this
      rw [this]
      exact ⟨.ref (hh.objs.size + 1), by simp, by rw [if_pos rfl]; exact ow⟩
    · have hb' : (x == self) = false := by simp [hx]
      rw [hb'] at e
      obtain ⟨u, hu, hs⟩ := zip_slots (h := (hh.push emptyDict).push (instObj C hh.objs.size)) (rs.mono st.mono) hnx x sl e
      refine ⟨u, by rw [hu]; rfl, ?_⟩
      rw [if_neg hx]
      exact hs
  · intro x p e a ha
    by_cases hx : x = self
    · rw [if_pos hx] at ha; exact fun h => dead a h ha
    · rw [if_neg hx] at ha; exact fun _ => nomatch ha
  · intro x y p q hxy ex ey a ha
    by_cases hx : x = self
    · rw [if_neg (fun h => hxy (hx.trans h.symm))]; exact fun h => nomatch h
    · rw [if_neg hx] at ha; exact fun _ => nomatch ha
  · obtain ⟨K', st', rfl, env, hS⟩ := h
    obtain ⟨m, oa, y⟩ := hS
    obtain ⟨v, _, hv⟩ := y.val _ _ hσ'
    obtain ⟨a, dx, ds, n, rfl, hl, hid, ka, kd, hne, e1, e2, rd⟩ := Own.obj_inv hv
    have : a = hh.objs.size + 1 := by
      rcases hid with h | h
      · cases h
      · exact (Option.some.inj h).symm
    subst this
    have stF := Step.trans st st'
    have ownR := y.ownR _ _ hσ'
    refine ⟨rfl, K', [hh.objs.size + 1, dx], stF, .obj (.inl rfl) ka kd hne e1 e2 rd, fun b hb => ?_⟩
    rw [← hl] at hb
    have nR := (ownR b hb).1
    cases e : hh.get? b with
    | none => rfl
    | some o => exact absurd (alive_of e) nR

/- C.name for a class of the text -/
theorem ev_clsattr {x : Str} {xpos pos : Pos} {name : Str} {C : Addr} {mc a : Value} {p : PV} (G : Glb h₀ mg mb) (hc : Callee mg mb x (.ref C)) (X : F.In h₀) (hr : readsIn F C mc = true) (he : findCls F (.ref C) mc name = some (.val a)) (ra : ∀ K : KMap, (∀ a o, h₀.get? a = some o → K a = some o) → Rep w.params K a p)
    (hx : sc.names.lookup x = some .globalImplicit) (hd : (x == ("__debug__" : Str)) = false)
    (hev : ∀ env, eval (.Attribute (.Name x xpos) name pos) env = (do
      let ov ← eval (.Name x xpos) env
      standAt pos.atName
      let r ← holding [ov] (getAttr ov name true)
      letTemporaryGo (.Name x xpos) ov r
      pure r)) : EvOK prog w h₀ d sc σ (.Attribute (.Name x xpos) name pos) p := fun A env K s R W hA hE hS => by
  refine Attribute_any_ (callee_name G hE hS hc hx hd ?_) (hev env)
  have rv := ra K hS.baseK
  exact cls_value (In.ok X hS.ok) hr he (handed rv) ⟨K, StepE.same hS.sub fun _ _ e => e, rv⟩

/- o.name(..) for a method of the text -/
theorem ev_method {o : Expr} {name : Str} {apos pos : Pos} {args : List Expr} {C f : Addr} {i : Option Addr} {es : List (Str × PV)} {ps : List PV} {q : PV} (X : F.In h₀) (CO : ClsOk F C) (hf : findIn F (.ref C) name = some (some (.ref f))) (ht : typeIn F (.ref f) = some (.type "function")) (hl : es.lookup name = none) (hk : KindOk h₀ (.ref f))
    (ho : EvOK prog w h₀ d sc σ o (.obj C i es)) (hargs : EvsOK prog w h₀ d sc σ args ps) (hc : CallOK prog w h₀ d (.ref f) (.obj C i es :: ps) q)
    (hbase : ∀ env, attributeBase o name env (eval o env) = eval o env) (hfew : ∀ env, ((backTo pos (starEach args env)).all (fun x => !x.1) && (backToKw pos (keywordEach [] env)).all (fun x => x.1.isSome) && decide (args.length + ([] : List Keyword).length + (if ([] : List Keyword).isEmpty then 0 else 1) < 30)) = true)
    (hline : (apos.endLine == pos.line) = true) (hp : ∀ env, (starEach args env).all (fun x => !x.1) = true) (hn : ∀ env, ∃ t r, starEach args env = (false, t) :: r) : EvOK prog w h₀ d sc σ (.Call (.Attribute o name apos) args [] pos) q := fun A env K s R W hA hE hS => by
  rw [arm_eval_Call, hbase]
  refine wpAny_bind ((ho A env K s R W hA hE hS).mono fun v s₁ K₁ st₁ rv => wpAny_bind (wpAny_standAt ?_))
  have hS₁ := hS.step st₁
  cases rv with
  | @obj a c dx _ ds n _ hid e1 e2 rd =>
  have h1 := st₁.sub _ _ e1
  have h2 := st₁.sub _ _ e2
  have hform : methodCallForm (args.length + ([] : List Keyword).length) (backTo pos (starEach args env)) (backToKw pos (keywordEach [] env)) = true := hfew env
  have hpos : methodCallPos true o env apos pos = pure pos := by unfold methodCallPos; simp [hline]
  unfold methodCall
  rw [hform]
  refine wpAny_bind (wpAny_holding ?_)
  unfold calleeOf
  rw [if_pos rfl]
  refine method_fn (In.ok X hS₁.ok) (inst_at h1 h2) CO.get CO.hook hf ht (by show (lookIn name (dictOf ds n)).map _ = _; rw [(lookIn_rep rd).2 hl]; rfl) ?_
  refine wpAny_bind (wpAny_of_eq hpos ?_)
  refine callWith_kind (h₀ := h₀) (first := [.ref a]) hk (hp env) (evalArgs_evs hA hE hS₁ hargs (hn env) fun vs s' K' st rs => ⟨(hS₁.step st).base, ?_⟩)
  have rv : Rep w.params K' (.ref a) (.obj C i es) := .obj hid (st.mono _ _ e1) (st.mono _ _ e2) (rd.mono st.mono)
  exact (hc A K' s' (.ref a :: vs) hA (hS₁.step st).ok (.cons rv rs)).mono fun v s₂ K₂ st₂ rv => ⟨K₂, (st₁.trans st).trans st₂, rv⟩
end
end Mine.Internal

end PartB20
section PartB21
open PySem PySem.W PyProof.Rows
set_option Elab.async false
set_option maxRecDepth 100000
set_option linter.unusedVariables false
namespace Mine.Internal
section
variable {prog : Program} {w : World} {h₀ : Heap} {d : Nat} {F : Frag}
theorem entry_hasattr : entryFor table "hasattr" = some Builtin.«hasattr» := entryFor_of_tree (by kernel_rfl)
theorem kind_hasattr : builtinKind "hasattr" = none := by decide +kernel
theorem plain_hasattr : plainId "hasattr" = true := by decide +kernel
theorem args_hasattr (a b : Value) : argsOk "hasattr" ⟨[a, b], []⟩ := by unfold argsOk; kernel_rfl
theorem hasattr_body {A : Around} {s : Shared} {a C : Addr} {nm : Str} {t : Tok} {Q : Value → Shared → Prop} {E : Value → Shared → Prop} (hty : Looks (model prog w) s.heap (typeOf (.ref a)) (.ref C)) (hm : Looks (model prog w) s.heap (isInstance (.ref a) (.type "module")) false)
    (h : wpAny (model prog w) A (getAttrBy? (.ref a) (.str nm t)) (fun r s' => Q (.bool r.isSome) s') E s) :
    wpAny (model prog w) A (Builtin.«hasattr» ⟨[.ref a, .str nm t], []⟩) (fun fin s' => match fin with | .done (.ret v) => Q v s' | _ => False) E s := by
  unfold Builtin.«hasattr»
  refine wpAny_bind (wpAny_of_eq (a := [.ref a, .str nm t]) rfl ?_)
  dsimp only
  refine wpAny_bind (wpAny_of_eq (a := ()) rfl ?_)
  refine wpAny_ite_split (fun hab => absurd hab (by show ¬ (false = true); decide)) (fun _ => ?_)
  refine wpAny_bind (hty.here ?_)
  dsimp only
  refine wpAny_bind ?_
  show wpAny _ _ (isInstance (.ref a) (.type "module") >>= _) _ _ _
  refine wpAny_bind (hm.here ?_)
  refine wpAny_pure ?_
  refine wpAny_ite_split (fun hab => absurd hab (by decide)) (fun _ => ?_)
  refine wpAny_bind (wpAny_mono h (fun r s' hr => ?_) fun _ _ e => e)
  refine wpAny_ite_split (fun hab => ?_) (fun _ => wpAny_pure hr)
  rw [Bool.and_eq_true] at hab
  exact absurd hab.2 (by decide)

noncomputable def shortName (F : Frag) (C : Addr) : Bool := (clsIn F C).any fun cd => decide (cd.name.cps.foldl (fun k c => k + (Str.utf8Of c).length) 0 ≤ 100) && decide ((s!"'{cd.name.toString}' object has no attribute '").length ≤ 90)

theorem quiet_open {A : Around} {E : Value → Shared → Prop} {s : Shared} {x dx C : Addr} {od : Obj} {nm : Str} {t : Tok} {Q : Value → Shared → Prop} (X : F.In s.heap) (CO : ClsOk F C) (I : InstAt s.heap x (instObj C dx) C (some od))
    (h : wpAny (model prog w) A.in1 (Builtin.«proto.getattr_hooked» ⟨[.ref x, .str nm t], []⟩) (fun fin s' => match fin with | .done (.ret v) => wpAny (model prog w) A (handedOut v) Q E s' | _ => False) (fun e s' => E e s') s) :
    wpAny (model prog w) A (getAttrBy (.ref x) (.str nm t) false) Q E s := by
  unfold getAttrBy
  refine wpAny_holding (wpAny_bind (I.type.here (wpAny_bind ((looks_findIn X CO.get).here ?_))))
  show wpAny _ _ (getAttrEveryday _ _ _) _ _ _
  refine wpAny_bind (wpAny_onRaise (wpAny_runValue (codeAny_builtin PySem.F.plainObj_entry_getattr_hooked (wpAny_mono h (fun fin s' z => ?_) fun e s' z => wpAny_pure z))))
  rcases fin with (_ | _ | _ | _) | _ <;> first | exact z | exact z.elim
theorem quiet_found {A : Around} {s : Shared} {x dx C : Addr} {od : Obj} {nm : Str} {t : Tok} {v : Value} {Q : Option Value → Shared → Prop} (X : F.In s.heap) (CO : ClsOk F C) (I : InstAt s.heap x (instObj C dx) C (some od))
    (hf : findObj F C (some od) nm = some (.value v)) (hh : handedIn v = true) (h : Q (some v) s) : wpAny (model prog w) A (getAttrBy? (.ref x) (.str nm t)) Q NoE s := by
  unfold getAttrBy?
  refine wpAny_bind (wpAny_attempt (quiet_open X CO I ?_))
  refine wpAny_bind (wpAny_of_eq (a := nm) rfl (wpAny_bind (I.type.here (wpAny_bind ((looks_find X I hf).here ?_)))))
  refine wpAny_pure ?_
  show wpAny _ _ (handedOut v) _ _ _
  rw [handedOut_of hh]
  exact wpAny_pure (wpAny_pure h)
theorem quiet_missing {A : Around} {s : Shared} {x dx C : Addr} {od : Obj} {nm : Str} {t : Tok} {Q : Option Value → Shared → Prop} (X : F.In s.heap) (CO : ClsOk F C) (I : InstAt s.heap x (instObj C dx) C (some od)) (hh : A.handled = none)
    (hf : findObj F C (some od) nm = some .missing) (hs : shortName F C = true) (hn : nm.length + 100 ≤ sizeLine) (h : ∀ h' tk, (∀ b o, s.heap.get? b = some o → h'.get? b = some o) → Q none { s with heap := h', toks := tk }) : wpAny (model prog w) A (getAttrBy? (.ref x) (.str nm t)) Q NoE s := by
  unfold getAttrBy?
  refine wpAny_bind (wpAny_attempt (quiet_open X CO I ?_))
  refine wpAny_bind (wpAny_of_eq (a := nm) rfl (wpAny_bind (I.type.here (wpAny_bind ((looks_find X I hf).here ?_)))))
  refine wpAny_bind ((looks_findIn X CO.hook).here ?_)
  show wpAny _ _ (Builtin.ObjectAttr.noSuchAttribute (.ref x) nm) _ _ _
  unfold Builtin.ObjectAttr.noSuchAttribute
  obtain ⟨cd, hc, hb⟩ := any_some hs
  rw [Bool.and_eq_true] at hb
  have hb1 := of_decide_eq_true hb.1
  have hb2 := of_decide_eq_true hb.2
  refine wpAny_bind ?_
  unfold typeNameOfCut shownTypeOf
  refine wpAny_bind (wpAny_bind (I.type.here ?_))
  refine wpAny_ite_split (fun hab => absurd hab (by show ¬ (false = true); decide)) (fun _ => wpAny_pure ?_)
  unfold typeNameCut
  refine wpAny_bind ((looks_clsIn X hc).here ?_)
  dsimp only
  rw [if_pos hb1]
  refine wpAny_pure ?_
  refine wpAny_raiseAttrError hh (fun h' tk e he => ?_) (attrMsg_fits hb2 hn)
  obtain ⟨tt, u, hat⟩ := he.there
  refine wpAny_bind (wpAny_isInstance (T := "AttributeError") (b := true) ⟨_, hat, rfl⟩ sub_AttributeError ?_)
  exact wpAny_pure (h h' tk he.keeps)

theorem findObj_none {C : Addr} {od : Obj} {nm : Str} (CO : ClsOk F C) (ha : findIn F (.ref C) nm = some none) (hc : copiedNames.contains nm = false) (hl : lookIn nm od = some none) : findObj F C (some od) nm = some .missing := by
  obtain ⟨cd, hc', hd⟩ := any_some CO.hasD
  unfold findObj
  have ho : PySem.W.ownOf cd (some od) nm = some none := by unfold PySem.W.ownOf; rw [if_pos hd]; exact hl
  rw [hc', Option.bind_some, ha, Option.bind_some]
  simp only [Option.bind_some, ho, hc, Bool.false_and, Bool.false_eq_true, if_false]
theorem attr_found {P : Params} {C : Addr} {K : KMap} {ds : List DictEntry} {n : Nat} {es : List (Str × PV)} {nm : Str} {p : PV} (CO : ClsOk F C) (rd : RepD P K ds es) (hp : AttrIs P F C K es nm p) : ∃ v, findObj F C (some (dictOf ds n)) nm = some (.value v) ∧ Rep P K v p := by
  rcases hp with ⟨hl, attr, ha, hn⟩ | ⟨hl, a, ha, hn, hc, ra⟩
  · obtain ⟨v, hv, rv⟩ := (lookIn_rep rd).1 p hl
    exact ⟨v, findObj_own CO.hasD ha hn hv, rv⟩
  · exact ⟨a, findObj_cls CO.hasD ha hn (handed ra) hc ((lookIn_rep rd).2 hl), ra⟩

/- hasattr(o, ".."), by what the object and its class hold -/
theorem call_hasattr {C : Addr} {i : Option Addr} {es : List (Str × PV)} {nm : Str} {p : PV} (X : F.In h₀) (CO : ClsOk F C) (hm : mroIn F C (.type "module") = some false) (hp : ∀ K : KMap, (∀ a o, h₀.get? a = some o → K a = some o) → AttrIs w.params F C K es nm p) :
    CallOK prog w h₀ d (.builtin "hasattr") [.obj C i es, .str nm] (.bool true) := fun A K s vs hA hO rs => by
  cases rs with
  | cons r rs =>
  cases rs with
  | cons r' rs =>
  cases rs
  cases r' with
  | str _ t =>
  cases r with
  | @obj a c dx _ ds n _ hid e1 e2 rd =>
  have X' := In.ok X hO
  have I := inst_at (hO.sub _ _ e1) (hO.sub _ _ e2)
  obtain ⟨v, hv, rv⟩ := attr_found (n := n) CO rd (hp K hO.base)
  refine Calls.call_function_entry kind_hasattr plain_hasattr entry_hasattr (args_hasattr _ _) (wpAny_mono (hasattr_body (A := A.in1) (Q := fun v s' => ∃ K', StepE s K s' K' ∧ Rep w.params K' v (.bool true)) I.type (I.type.andThen (looks_mroIn X' hm)) (quiet_found X' CO I hv (handed rv) ⟨K, Step.refl hO.sub, .bool _⟩)) (fun fin s' z => ?_) fun _ _ x => x.elim)
  rcases fin with (_ | _ | _ | v) | _ <;> first | exact ⟨v, rfl, z⟩ | exact z | exact False.elim z
theorem call_hasattr_no {C : Addr} {i : Option Addr} {es : List (Str × PV)} {nm : Str} (X : F.In h₀) (CO : ClsOk F C) (hm : mroIn F C (.type "module") = some false) (ha : findIn F (.ref C) nm = some none) (hc : copiedNames.contains nm = false) (hl : es.lookup nm = none) (hs : shortName F C = true) (hn : nm.length + 100 ≤ sizeLine) :
    CallOK prog w h₀ d (.builtin "hasattr") [.obj C i es, .str nm] (.bool false) := fun A K s vs hA hO rs => by
  cases rs with
  | cons r rs =>
  cases rs with
  | cons r' rs =>
  cases rs
  cases r' with
  | str _ t =>
  cases r with
  | @obj a c dx _ ds n _ hid e1 e2 rd =>
  have X' := In.ok X hO
  have I := inst_at (hO.sub _ _ e1) (hO.sub _ _ e2)
  refine Calls.call_function_entry kind_hasattr plain_hasattr entry_hasattr (args_hasattr _ _) (wpAny_mono (hasattr_body (A := A.in1) (Q := fun v s' => ∃ K', StepE s K s' K' ∧ Rep w.params K' v (.bool false)) I.type (I.type.andThen (looks_mroIn X' hm))
    (quiet_missing X' CO I hA.1 (findObj_none CO ha hc ((lookIn_rep rd).2 hl)) hs hn fun h' tk hk => ⟨K, StepE.same hO.sub hk, .bool _⟩)) (fun fin s' z => ?_) fun _ _ x => x.elim)
  rcases fin with (_ | _ | _ | v) | _ <;> first | exact ⟨v, rfl, z⟩ | exact z | exact False.elim z

/- a < b by the class's own __lt__ -/
theorem cmp_lt_obj {C C' f : Addr} {i i' : Option Addr} {es es' : List (Str × PV)} {r : Bool} (X : F.In h₀) (hs : findIn F (.ref C) "__lt__" = some (some (.ref f))) (hf : typeIn F (.ref f) = some (.type "function")) (hsub : C' = C ∨ subIn F (.ref C') (.ref C) = some false)
    (hc : CallOK prog w h₀ d (.ref f) [.obj C i es, .obj C' i' es'] (.bool r)) : CmpOK prog w h₀ d .Lt (.obj C i es) (.obj C' i' es') r := fun A K s a b hA hO ra rb => by
  have back : wpAny (model prog w) A (call (.ref f) [a, b]) (fun v s' => ∃ K', StepE s K s' K' ∧ v = .bool r) NoE s := by
    refine (hc A K s [a, b] hA hO (.cons ra (.cons rb .nil))).mono fun v s' K' st rv => ?_
    cases rv
    exact ⟨K', st, rfl⟩
  cases ra with
  | @obj a c dx _ ds n _ hid e1 e2 rd =>
  cases rb with
  | @obj a' c' dx' _ ds' n' _ hid' e1' e2' rd' =>
  have X' := In.ok X hO
  have I := inst_at (hO.sub _ _ e1) (hO.sub _ _ e2)
  have I' := inst_at (hO.sub _ _ e1') (hO.sub _ _ e2')
  have run : wpAny (model prog w) A (tryCompare (.ref a) (cmpInfo .Lt).2.1 (.ref a')) (fun v s' => v = some (.bool r) ∧ ∃ K', StepE s K s' K') NoE s := by
    unfold tryCompare
    refine wpAny_bind (ifBound_K X' I hs (by unfold isFn; rw [hf]; rfl) (wpAny_mono back (fun v s' hv => ?_) fun _ _ x => x))
    obtain ⟨K', st, rfl⟩ := hv
    exact wpAny_pure ⟨rfl, K', st⟩
  have goal : wpAny (model prog w) A (richCompare .Lt (.ref a) (.ref a')) (fun v s' => ∃ K', StepE s K s' K' ∧ v = .bool r) NoE s := by
    unfold richCompare
    simp only [oneThing_ref]
    refine wpAny_holding (wpAny_bind (wpAny_cRoomFor (by have := hA.2.2; omega) ?_))
    refine wpAny_bind (I.type.here (wpAny_bind (I'.type.here ?_)))
    have tail : wpAny (model prog w) A (tryCompare (.ref a) (cmpInfo .Lt).2.1 (.ref a')) (fun v s' => v = some (.bool r) ∧ ∃ K', StepE s K s' K') NoE s := run
    split
    · rename_i q
      have e : subIn F (.ref C') (.ref C) = some false := hsub.resolve_left (fun h => by subst h; simp at q)
      refine wpAny_bind ((looks_subIn X' e).here ?_)
      simp only [Bool.false_eq_true, if_false]
      refine wpAny_bind (wpAny_mono tail (fun v s' z => ?_) fun _ _ e => e)
      obtain ⟨rfl, K', st⟩ := z
      exact wpAny_pure ⟨K', st, rfl⟩
    · refine wpAny_bind (wpAny_pure ?_)
      simp only [Bool.false_eq_true, if_false]
      refine wpAny_bind (wpAny_mono tail (fun v s' z => ?_) fun _ _ e => e)
      obtain ⟨rfl, K', st⟩ := z
      exact wpAny_pure ⟨K', st, rfl⟩
  exact goal
end
end Mine.Internal

end PartB21
section PartB22
open PySem PySem.W PyProof.Rows
set_option Elab.async false
set_option maxRecDepth 100000
set_option linter.unusedVariables false
namespace Mine.Internal

noncomputable abbrev SX (prog : Program) (w : World) (A : Around) (c : Code) (t : Sem Fin) (fs : List Frame) (s : Shared) (P : End → Shared → Prop) : Prop := PySem.W.X.SegX (model prog w) A c t fs s P

section
variable {prog : Program} {w : World} {A : Around} {c : Code} {fs : List Frame} {s : Shared} {env : Env} {P : End → Shared → Prop}
  {K : Flow → Sem Fin} {H : Value → Sem Fin} {gd : Bool → Bool} {lv : List Value → List Value}

theorem x_wrap {α : Type} {m : Sem α} {K : α → Sem Fin} {H : Value → Sem Fin} (h : wpAny (model prog w) (A.over c fs) m (fun a s' => SX prog w A c (K a) fs s' P) NoE s) : SX prog w A c (m.wrap K H gd lv) fs s P := by
  rintro Γ p rfl hΓ
  obtain ⟨e, s', hr, hq⟩ := runs_wrap_of_wp (Φ := fun e s' => e.quiet = true ∧ P e s') K H gd lv m (h (Γ.over fs) p (hΓ.over fs)) (fun a p' s' h' => h' Γ p' rfl hΓ) (fun _ _ _ h' => h'.elim)
  exact ⟨e, s', hr, hq⟩
theorem x_at {p' : Pos} {k : Unit → Sem Fin} (h : SX prog w A c (k ()) fs s P) : SX prog w A c (.at p' k) fs s P :=
  x_wrap (m := standAt p') (K := k) (H := .raise) (gd := id) (lv := id) (wpAny_standAt h)
theorem x_point {l : List Value} {k : Unit → Sem Fin} (h : SX prog w A c (k ()) fs s P) : SX prog w A c (.point l k) fs s P :=
  x_wrap (m := point) (K := k) (H := .raise) (gd := id) (lv := fun _ => l) (wpAny_point h)

/- a statement without a yield -/
theorem x_stmt {st : Stmt} (h : wpAny (model prog w) (A.over c fs) (exec st env) (fun f s' => SX prog w A c (K f) fs s' P) NoE s) : SX prog w A c ((exec st env).wrap K H gd lv) fs s P := x_wrap h
theorem x_block {ss : List Stmt} (h : wpAny (model prog w) (A.over c fs) (execs ss env) (fun f s' => SX prog w A c (K f) fs s' P) NoE s) : SX prog w A c ((execs ss env).wrap K H gd lv) fs s P := x_wrap h
theorem x_cons {st : Stmt} {rest : List Stmt} (h : SX prog w A c ((exec st env).wrap (fun f => match f with | .next => (execs rest env).wrap K H gd lv | f => K f) H gd lv) fs s P) : SX prog w A c ((execs (st :: rest) env).wrap K H gd lv) fs s P := by
  rw [execs_cons_wrap]; exact h
theorem x_nil (h : SX prog w A c (K .next) fs s P) : SX prog w A c ((execs [] env).wrap K H gd lv) fs s P := h
theorem x_if {t : Expr} {b o : List Stmt} {pos : Pos} (h : wpAny (model prog w) (A.over c fs) (isTrue t env (eval t env)) (fun bv s' => SX prog w A c ((if bv = true then execs b env else execs o env).wrap K H gd lv) fs s' P) NoE s) :
    SX prog w A c ((exec (.If t b o pos) env).wrap K H gd lv) fs s P := by
  rw [arm_exec_If]
  show SX prog w A c (.at pos fun _ => ((isTrue t env (eval t env)) >>= fun bv => if bv = true then execs b env else execs o env).wrap K H gd lv) fs s P
  refine x_at ?_
  rw [Sem.bind_eq_wrap', Sem.wrap_wrap]
  exact x_wrap h
noncomputable def loopRet (env : Env) (K : Flow → Sem Fin) (H : Value → Sem Fin) (gd : Bool → Bool) (lv : List Value → List Value) (r : Result) : Sem Fin :=
  ((match r with | .ok f => (.pure f : Sem Flow) | .error e => .raise e).onRaise fun (x : Value) => do
        if (← field x 1) == Value.none then unsupported "frame.own-activation:exception-without-traceback"
        setFlight x env.frame).wrap K H gd lv
theorem x_for {t iter : Expr} {body : List Stmt} {pos : Pos} (hf : ∀ x, foldedSetIterable iter env x = pure x)
    (h : wpAny (model prog w) (A.over c fs) (eval iter env) (fun x s₁ => wpAny (model prog w) (A.over c fs) (pyIter x) (fun it s₂ =>
      ∀ p, SX prog w A (.forLoop t it body [] env) ((model prog w).den (.forLoop t it body [] env)) (.ret (loopRet env K H gd lv) none (gd false) (lv []) c p [] :: fs) s₂ P) NoE s₁) NoE s) :
    SX prog w A c ((exec (.For t iter body [] pos) env).wrap K H gd lv) fs s P := by
  rw [arm_exec_For]
  show SX prog w A c (.at pos fun _ => (eval iter env >>= fun v => foldedSetIterable iter env v >>= fun x => standAt iter.pos >>= fun _ => holding [x] (pyIter x) >>= fun it => runOwn (.forLoop t it body [] env) env).wrap K H gd lv) fs s P
  refine x_at ?_
  rw [Sem.bind_eq_wrap', Sem.wrap_wrap]
  refine x_wrap (wpAny_mono h (fun x s₁ h₁ => ?_) fun _ _ x => x.elim)
  rw [hf]
  show SX prog w A c (.at iter.pos fun _ => (holding [x] (pyIter x) >>= fun it => runOwn (.forLoop t it body [] env) env).wrap K H gd lv) fs s₁ P
  refine x_at ?_
  rw [Sem.bind_eq_wrap', Sem.wrap_wrap]
  refine x_wrap (wpAny_holding (wpAny_mono h₁ (fun it s₂ h₂ => ?_) fun _ _ x => x.elim))
  exact PySem.W.X.s_call prog w A c fs P s₂ _ _ _ _ _ h₂
theorem x_again {c' : Code} (hq : c'.quiet = true) (h : SX prog w A c' ((model prog w).den c') fs s P) : SX prog w A c (.pure (.again c')) fs s P := PySem.W.X.s_again prog w A c fs P s c' hq h
theorem x_turn {t : Expr} {body : List Stmt} {it : Value} (h : wpAny (model prog w) (A.over (.forLoop t it body [] env) fs) (pyNext it) (fun r s₁ => match r with
      | none => SX prog w A (.block [] env) ((model prog w).den (.block [] env)) fs s₁ P
      | some v => wpAny (model prog w) (A.over (.forLoop t it body [] env) fs) (letOwnedTupleGo t it v) (fun _ s₂ => wpAny (model prog w) (A.over (.forLoop t it body [] env) fs) (assign t env v) (fun _ s₃ =>
          SX prog w A (.forLoop t it body [] env) ((execs body env).wrap (fun f => match f with
            | .next | .cont => .pure (.again (.forLoop t it body [] env))
            | .brk => .pure (.done .next)
            | .ret v => .pure (.done (.ret v))) (fun e => (do noteFrame e env; theTreesLotGoes e : Sem Unit).wrap (fun _ => .raise e) .raise id id) id id) fs s₃ P) NoE s₂) NoE s₁) NoE s) :
    SX prog w A (.forLoop t it body [] env) ((model prog w).den (.forLoop t it body [] env)) fs s P := by
  show SX prog w A _ ((forTurn t it body [] env).onRaise (fun x => do noteFrame x env; theTreesLotGoes x)) fs s P
  unfold forTurn
  rw [Sem.onRaise_eq_wrap, Sem.bind_eq_wrap', Sem.wrap_wrap]
  refine x_wrap (wpAny_standAt ?_)
  dsimp only
  rw [Sem.bind_eq_wrap', Sem.wrap_wrap]
  refine x_wrap (wpAny_onRaise (wpAny_mono h (fun r s₁ h₁ => ?_) fun _ _ x => x.elim))
  cases r with
  | none => exact x_again rfl h₁
  | some v =>
    dsimp only at h₁ ⊢
    rw [Sem.bind_eq_wrap', Sem.wrap_wrap]
    refine x_wrap (wpAny_mono h₁ (fun _ s₂ h₂ => ?_) fun _ _ x => x.elim)
    rw [Sem.bind_eq_wrap', Sem.wrap_wrap]
    refine x_wrap (wpAny_mono h₂ (fun _ s₃ h₃ => ?_) fun _ _ x => x.elim)
    rw [Sem.bind_eq_wrap', Sem.wrap_wrap]
    rw [Sem.wrap_congr (execs body env) _ _ (K' := fun f => match f with
            | .next | .cont => .pure (.again (.forLoop t it body [] env))
            | .brk => .pure (.done .next)
            | .ret v => .pure (.done (.ret v))) (H' := (fun e => (do noteFrame e env; theTreesLotGoes e : Sem Unit).wrap (fun _ => .raise e) .raise id id))
        (fun f => by cases f <;> rfl)
        (fun e => by first | exact Sem.bind_eq_wrap _ _ | (show (do noteFrame e env; theTreesLotGoes e : Sem Unit).bind (fun _ => .raise e) = _; rw [Sem.bind_eq_wrap]))]
    exact h₃
theorem x_end_for (h : SX prog w A c (K .next) fs s P) {p : Pos} {c₁ : Code} {b : Bool} {l : List Value} : SX prog w A (.block [] env) ((model prog w).den (.block [] env)) (.ret (loopRet env K H gd lv) none b l c p [] :: fs) s P :=
  PySem.W.X.s_pop prog w A (.block [] env) fs P s (.ok .next) _ rfl (loopRet env K H gd lv) none b l c p [] h
theorem x_yield {e : Expr} {ypos pos : Pos} (hfs : splitAtGen fs = none) (hgd : gd false = false) (hfg : fs.any Frame.guarded = false)
    (h : wpAny (model prog w) (A.over c fs) (eval e env) (fun v s' => ∀ (k : Resume → Sem Fin) (l : List Value) (p : Pos), (∀ s'', SX prog w A c (K .next) fs s'' = SX prog w A c (k (.send .none)) fs s'') → P (.susp v false l k c p fs) s') NoE s)
    (hco : env.scope.isCoroutine = false) (hi : interactive env = false) : SX prog w A c ((exec (.Expr (.Yield (some e) ypos) pos) env).wrap K H gd lv) fs s P := by
  rw [exec_Expr env _ pos hi rfl]
  show SX prog w A c (.at pos fun _ => ((eval e env >>= fun v => (standAt ypos >>= fun _ => yieldOut env v)) >>= fun x =>
    dropValue (.Yield (some e) ypos) pos x).wrap K H gd lv) fs s P
  have hy : ∀ v, yieldOut env v = yieldValue v := fun v => by simp only [yieldOut, hco, Bool.false_eq_true, if_false]
  simp only [hy]
  refine x_at ?_
  rw [Sem.bind_eq_wrap', Sem.bind_eq_wrap', Sem.wrap_wrap, Sem.wrap_wrap]
  refine x_wrap (wpAny_mono h (fun v s' h' => ?_) fun _ _ x => x.elim)
  refine x_at ?_
  show SX prog w A c (.yield v (gd false) (lv []) _) fs s' P
  rw [hgd]
  exact PySem.W.X.s_yield prog w A c fs P s' v _ _ hfs hfg fun p => h' _ _ p fun s'' => rfl
theorem x_func {body : List Stmt} (h : SX prog w A (.func body env) ((execs body env).wrap (fun f => .pure (.done (.ret (match f with | .ret v => v | _ => .none)))) (fun e => (leaving env e).wrap (fun _ => .raise e) .raise id id) id id) fs s P) :
    SX prog w A (.func body env) ((model prog w).den (.func body env)) fs s P := by
  show SX prog w A _ (.point [] fun _ => ((execs body env).onRaise (leaving env)) >>= _) fs s P
  refine x_point ?_
  rw [Sem.onRaise_eq_wrap, Sem.bind_eq_wrap', Sem.wrap_wrap]
  rw [Sem.wrap_congr (execs body env) _ _ (K' := fun f => .pure (.done (.ret (match f with | .ret v => v | _ => .none))))
    (H' := fun e => (leaving env e).wrap (fun _ => .raise e) .raise id id) (fun f => by cases f <;> rfl)
    (fun e => by rw [Sem.bind_eq_wrap, Sem.wrap_wrap]; rfl)]
  exact h
theorem x_end {r : Result} (h : P (.ret r) s) : SX prog w A c (leafOf r) [] s P := PySem.W.X.s_end prog w A c P s r _ rfl h
end
end Mine.Internal

end PartB22
section PartB23
open PySem PySem.W PyProof.Rows
set_option Elab.async false
set_option maxRecDepth 100000
set_option linter.unusedVariables false
namespace Mine.Internal

/- what a generator's run keeps of the rest -/
structure GFine (fp : List Addr) (s s' : Shared) : Prop where
  heap : ∀ b o, b ∉ fp → s.heap.get? b = some o → s'.heap.get? b = some o
  live : ∀ b, Alive s b → Alive s' b
  gens : (AllBare s.gens → AllBare s'.gens) ∧ s.gens.size ≤ s'.gens.size ∧ ∀ g, g < s.gens.size → s'.gens[g]? = s.gens[g]?
  os : s'.os = s.os
theorem GFine.refl {fp : List Addr} {s : Shared} : GFine fp s s := ⟨fun _ _ _ e => e, fun _ h => h, ⟨id, Nat.le_refl _, fun _ _ => rfl⟩, rfl⟩
theorem GFine.trans {fp : List Addr} {s s' s'' : Shared} (x : GFine fp s s') (y : GFine fp s' s'') : GFine fp s s'' :=
  ⟨fun b o h e => y.heap b o h (x.heap b o h e), fun b h => y.live b (x.live b h), ⟨fun h => y.gens.1 (x.gens.1 h), Nat.le_trans x.gens.2.1 y.gens.2.1, fun g h => (y.gens.2.2 g (Nat.lt_of_lt_of_le h x.gens.2.1)).trans (x.gens.2.2 g h)⟩, y.os.trans x.os⟩

/- what a generator's last run keeps -/
structure GDone (fp : List Addr) (s s' : Shared) : Prop where
  heap : ∀ b o, b ∉ fp → s.heap.get? b = some o → s'.heap.get? b = some o
  gens : (AllBare s.gens → AllBare s'.gens) ∧ s.gens.size ≤ s'.gens.size ∧ ∀ g, g < s.gens.size → s'.gens[g]? = s.gens[g]?
  os : s'.os = s.os
/- where a generator stands: its places, what holds there -/
structure Pts where
  J : Type
  fp : J → List Addr
  holds : J → Heap → Prop

/- how a run of a generator that has yet to give n outputs may end -/
noncomputable def GPost (prog : Program) (w : World) (h₀ : Heap) (A : Around) (L : List (Int × Str)) (X : Pts) : Nat → X.J → Shared → End → Shared → Prop
  | 0 => fun j s₀ e s' => match e with
    | .ret r => r = .ok (.ret .none) ∧ GDone (X.fp j) s₀ s'
    | _ => False
  | m + 1 => fun j s₀ e s' => match e with
    | .susp v _ _ k c _ fs => ∃ (q : Int × Str) (a : Addr) (t u : Tok) (j' : X.J), L[L.length - (m + 1)]? = some q ∧ v = .ref a ∧ s'.heap.get? a = some (tupObj #[.int q.1 t, .str q.2 u] 0) ∧ (∀ o, s₀.heap.get? a = some o → h₀.get? a = some o) ∧
        GFine (X.fp j) s₀ s' ∧ (∀ b ∈ X.fp j, b ∈ X.fp j') ∧ (∀ b ∈ X.fp j', b ∈ X.fp j ∨ s₀.heap.get? b = none) ∧ (∀ b ∈ X.fp j', Alive s' b ∧ b ≠ a) ∧ X.holds j' s'.heap ∧
        ∀ s'', X.holds j' s''.heap → SX prog w A c (k (.send .none)) fs s'' (GPost prog w h₀ A L X m j' s'')
    | _ => False

/- the generator goes on so -/
noncomputable def GGoes (prog : Program) (w : World) (h₀ : Heap) (A : Around) (L : List (Int × Str)) (X : Pts) (n : Nat) (j : X.J) (gs : GenState) : Prop :=
  (∃ c, gs = .fresh c ∧ ∀ s, X.holds j s.heap → SX prog w A c (denote table c) [] s (GPost prog w h₀ A L X n j s)) ∨
  ∃ k l c p fs cl, gs = .suspended k l c p fs cl ∧ ∀ s, X.holds j s.heap → SX prog w A c (k (.send .none)) fs s (GPost prog w h₀ A L X n j s)

section
variable {prog : Program} {w : World} {h₀ : Heap} {d : Nat} {sc : Scope} {σ : Sig} {W : Str → Bool} {mg mb : Str → Option Value}

theorem resume_x {A : Around} {s : Shared} {g n : Nat} {gs : GenState} {L : List (Int × Str)} {X : Pts} {j : X.J} {α : Type} {k : GenResult → Sem α} {l : List Value} {Q : α → Shared → Prop} {E : Value → Shared → Prop} (hg : s.gens[g]? = some gs) (hgo : GGoes prog w h₀ A L X n j gs) (hj : X.holds j s.heap)
    (h : ∀ e s₁, e.quiet = true → GPost prog w h₀ A L X n j (s.setGen g .running) e s₁ → wpAny (model prog w) A (k e.result) Q E (s₁.setGen g e.genState)) :
    wpAny (model prog w) A (.resume g (.send .none) l k) Q E s := by
  have strong : ∀ {c t fs s P}, SX prog w A c t fs s P → SX prog w A c t fs s (fun e s' => e.quiet = true ∧ P e s') := fun x Γ p hc hΓ => by
    obtain ⟨e, s', hr, hq, hp⟩ := x Γ p hc hΓ
    exact ⟨e, s', hr, hq, hq, hp⟩
  rcases hgo with ⟨c, rfl, hx⟩ | ⟨k₀, l₀, c, p₀, fs, cl, rfl, hx⟩
  · exact fun Γ p hΓ => PySem.W.X.wake_any α prog w hg (.inl ⟨rfl, rfl, rfl, rfl⟩) (fun Γ => Γ.In A) (fun _ h => h) ((strong (hx (s.setGen g .running) hj)).mono fun e s₁ hp Γ p hC => h e s₁ hp.1 hp.2 Γ p hC) Γ p hΓ
  · exact fun Γ p hΓ => PySem.W.X.wake_any α prog w hg (.inr ⟨k₀, l₀, p₀, cl, rfl, rfl⟩) (fun Γ => Γ.In A) (fun _ h => h) ((strong (hx (s.setGen g .running) hj)).mono fun e s₁ hp Γ p hC => h e s₁ hp.1 hp.2 Γ p hC) Γ p hΓ

theorem gen_next {A : Around} {s : Shared} {a : Addr} {g n : Nat} {gs : GenState} {L : List (Int × Str)} {X : Pts} {j : X.J} {Q : Option Value → Shared → Prop} (hA : AOk d A) (hl : s.heap.NoLimit) (hg : s.heap.IsGen a g) (hgs : s.gens[g]? = some gs)
    (hgo : GGoes prog w h₀ A.in1 L X n j gs) (hj : X.holds j s.heap)
    (hY : ∀ m v g₀ l₀ k₀ c₀ p₀ fs₀ s₁, n = m + 1 → (End.susp v g₀ l₀ k₀ c₀ p₀ fs₀).quiet = true → GPost prog w h₀ A.in1 L X n j (s.setGen g .running) (.susp v g₀ l₀ k₀ c₀ p₀ fs₀) s₁ → Q (some v) (s₁.setGen g (End.susp v g₀ l₀ k₀ c₀ p₀ fs₀).genState))
    (hP : ∀ s₁, n = 0 → GDone (X.fp j) (s.setGen g .running) s₁ → ∀ h', (∀ b o, s₁.heap.get? b = some o → h'.get? b = some o) → Q none { s₁.setGen g .finished with heap := h' }) : wpAny (model prog w) A (pyNext (.ref a)) Q NoE s := by
  have hroom : A.depth < recursionLimit := by have := hA.2.1; omega
  have hT := hg.typeIs
  unfold pyNext
  refine wpAny_bind (wpAny_attempt (wpAny_callSpecial?_slot (name := Str.ofString "__next__") hT slot_gen_next (wpAny_call_entry slot_gen_next hT entry_gen_next ?_ (args_gen_next _))))
  show wpAny _ A.in1 (Builtin.Generator.genWake (.ref a) (.send .none)) _ _ s
  unfold Builtin.Generator.genWake
  refine wpAny_bind (wpAny_holding (wpAny_genNumber hg (wpAny_bind (wpAny_genState hgs ?_))))
  have key : ∀ (k : GenResult → Sem Fin) (Q' : Fin → Shared → Prop) (E' : Value → Shared → Prop), (∀ v, k (.yielded v) = .pure (.done (.ret v))) →
      (∀ s₁, wpAny (model prog w) A.in1 (k (End.ret (.ok (.ret .none))).result) Q' E' s₁ ↔ wpAny (model prog w) A.in1 (k (End.ret (.ok (.ret .none))).result) Q' E' s₁) → True := fun _ _ _ _ _ => trivial
  cases gs with
  | running => rcases hgo with ⟨c, h, _⟩ | ⟨_, _, _, _, _, _, h, _⟩ <;> cases h
  | finished => rcases hgo with ⟨c, h, _⟩ | ⟨_, _, _, _, _, _, h, _⟩ <;> cases h
  | _ =>
    refine wpAny_bind (wpAny_roomToWake hl hroom ?_)
    show wpAny _ A.in1 (.resume g (.send .none) [] _) _ _ s
    refine resume_x hgs hgo hj fun e s₁ hq he => ?_
    cases n with
    | zero =>
      cases e with
      | susp => exact he.elim
      | ret r =>
        obtain ⟨rfl, hp⟩ := he
        show wpAny _ A.in1 (newExc (.type "StopIteration") [] >>= _) _ _ _
        refine wpAny_bind ?_
        simp only [newExc, newTuple]
        refine wpAny_bind (wpAny_newObj_type ?_ (by size_fits))
        refine wpAny_bind (m := firstArgMember _ _) (wpAny_of_eq (a := Value.none) (by first | rfl | (simp only [firstArgMember]; rfl)) ?_)
        refine wpAny_newObj_type ?_ (by size_fits)
        simp only [raiseNew]
        refine wpAny_bind (wpAny_bind (wpAny_handled ?_))
        rw [show A.in1.handled = none from hA.1]
        refine wpAny_throw ?_
        refine wpAny_bind (wpAny_isInstance (T := "StopIteration") (b := true) ⟨_, Heap.get?_push_size _ rfl, rfl⟩ isSubtype_stop ?_)
        exact wpAny_pure (hP s₁ rfl hp _ fun b o hb => Heap.get?_push_of_some _ (Heap.get?_push_of_some _ hb))
    | succ m =>
      cases e with
      | ret r => exact he.elim
      | susp v g₀ l₀ k₀ c₀ p₀ fs₀ => exact wpAny_pure ⟨v, rfl, wpAny_pure (hY m v g₀ l₀ k₀ c₀ p₀ fs₀ s₁ rfl hq he)⟩

noncomputable def outP (p : Int × Str) : PV := .tup [.int p.1, .str p.2]

theorem setGen_bare {s : Shared} {g : Nat} {gs : GenState} (h : AllBare s.gens) (hb : gs.bare = true) : AllBare (s.setGen g gs).gens := fun y hy => by
  unfold Shared.setGen at hy
  dsimp only at hy
  rcases Array.mem_or_eq_of_mem_setIfInBounds hy with h' | h'
  · exact h y h'
  · subst h'; exact hb

theorem setGen_other {s : Shared} {g g' : Nat} {gs : GenState} (h : g' ≠ g) : (s.setGen g gs).gens[g']? = s.gens[g']? := by
  unfold Shared.setGen
  simp [Array.getElem?_setIfInBounds, Ne.symm h]
theorem setGen_size {s : Shared} {g : Nat} {gs : GenState} : (s.setGen g gs).gens.size = s.gens.size := by
  unfold Shared.setGen
  simp

/- a generator of the text's as an iterator -/
theorem gen_walk {A : Around} {I : Addr} {g : Nat} {L : List (Int × Str)} {X : Pts} (hA : AOk d A) (hlim : h₀.NoLimit) (hJ : ∀ j h h', X.holds j h → (∀ b o, h₀.get? b = some o → h'.get? b = some o) → (∀ b ∈ X.fp j, ∀ o, h.get? b = some o → h'.get? b = some o) → X.holds j h') :
    Walk prog w h₀ A (.ref I) AnyT (L.map outP) (fun i fp K s => ∃ gs j, s.heap.IsGen I g ∧ s.gens[g]? = some gs ∧ X.holds j s.heap ∧ fp = I :: X.fp j ∧ I ∉ X.fp j ∧ (∀ b ∈ fp, K b = none ∧ Alive s b) ∧ GGoes prog w h₀ A.in1 L X (L.length - i) j gs) [g] where
  frame := fun i fp K s K' s' ⟨gs, j, h1, h2, h3, hfp, hI, h4, h5⟩ hO hO' hh hk hm hg => by
    subst hfp
    refine ⟨gs, j, isGen_at h1 (hh I (.head _)), (hg g (.head _)).trans h2, hJ j _ _ h3 hO'.keep (fun b hb => hh b (.tail _ hb)), rfl, hI, fun b hb => ⟨(hk b hb).trans (h4 b hb).1, ?_⟩, h5⟩
    obtain ⟨o, e⟩ := Option.isSome_iff_exists.mp (h4 b hb).2
    exact alive_of (hh b hb o e)
  live := fun i fp K s ⟨_, _, _, _, _, _, _, h4, _⟩ a ha => (h4 a ha).2
  liveG := fun i fp K s ⟨_, _, _, h2, _⟩ g' hg => by rw [List.mem_singleton.mp hg]; exact (Array.getElem?_eq_some_iff.mp h2).1
  item := fun i p fp K s t hi ⟨gs, j, h1, h2, h3, hfp, hI, h4, h5⟩ hO ht => by
    subst hfp
    have hlt : i < L.length := by have := (List.getElem?_eq_some_iff.mp hi).1; simpa using this
    have hgk : g < s.gens.size := (Array.getElem?_eq_some_iff.mp h2).1
    refine gen_next hA (hlim.keeps hO.keep) h1 h2 h5 h3 (fun m v g₀ l₀ k₀ c₀ p₀ fs₀ s₁ hm hqt hv => ?_) (fun s₁ hp => absurd hp (by omega))
    rw [hm] at hv
    obtain ⟨q, a, tt, u, j', hq, rfl, ha, hn, hf, hs1, hs2, hs3, hj', hgo'⟩ := hv
    have hidx : L.length - (m + 1) = i := by omega
    rw [hidx] at hq
    have hp : p = outP q := by rw [List.getElem?_map, hq] at hi; exact (Option.some.inj hi).symm
    subst hp
    have keep : ∀ b o, b ∉ X.fp j → s.heap.get? b = some o → s₁.heap.get? b = some o := hf.heap
    have h1' : s₁.heap.IsGen I g := isGen_at h1 (fun o e => keep I o hI e)
    obtain ⟨oI, nm, qn, e1, e2, e3, _⟩ := id h1'
    have aI : Alive s I := (h4 I (.head _)).2
    have hKfp : ∀ b o, K b = some o → b ∉ I :: X.fp j := fun b o e h => by rw [(h4 b h).1] at e; cases e
    have hsub : ∀ b o, K b = some o → s₁.heap.get? b = some o := fun b o e => keep b o (fun h => hKfp b o e (.tail _ h)) (hO.sub b o e)
    have hI' : I ∉ X.fp j' := fun h => (hs2 I h).elim hI fun hd => by have := aI; rw [Alive] at this; have hd' : s.heap.get? I = none := hd; rw [hd'] at this; cases this
    have hIa : I ≠ a := by rintro rfl; rw [ha] at e1; cases e1; exact absurd (Value.type.inj e2) (by decide)
    refine ⟨.ref a, rfl, letGo_plain ht e1 e2 (by decide) ?_⟩
    have hb := End.bare_of_quiet hqt
    have hgens : (AllBare s.gens → AllBare (s₁.setGen g (End.susp (.ref a) g₀ l₀ k₀ c₀ p₀ fs₀).genState).gens) ∧ s.gens.size ≤ (s₁.setGen g (End.susp (.ref a) g₀ l₀ k₀ c₀ p₀ fs₀).genState).gens.size ∧ ∀ g', g' < s.gens.size → g' ∉ [g] → (s₁.setGen g (End.susp (.ref a) g₀ l₀ k₀ c₀ p₀ fs₀).genState).gens[g']? = s.gens[g']? := by
      refine ⟨fun hB => setGen_bare (hf.gens.1 (setGen_bare hB rfl)) hb, by rw [setGen_size]; exact Nat.le_trans (Nat.le_of_eq setGen_size.symm) hf.gens.2.1, fun g' hlt' hn => ?_⟩
      have hne : g' ≠ g := fun h => hn (by rw [h]; exact .head _)
      rw [setGen_other hne, hf.gens.2.2 g' (by rw [setGen_size]; exact hlt'), setGen_other hne]
    have hrep : ∀ K₂ : KMap, K₂ a = some (tupObj #[.int q.1 tt, .str q.2 u] 0) → Rep w.params K₂ (.ref a) (outP q) := fun K₂ h => .tup (vs := [.int q.1 tt, .str q.2 u]) (n := 0) h (.cons (.int _ _) (.cons (.str _ _) .nil))
    have hfp' : (∀ b ∈ I :: X.fp j, b ∈ I :: X.fp j') ∧ ∀ b ∈ I :: X.fp j', b ∈ I :: X.fp j ∨ s.heap.get? b = none := by
      refine ⟨fun b hb => ?_, fun b hb => ?_⟩
      · rcases List.mem_cons.mp hb with rfl | hb
        · exact .head _
        · exact .tail _ (hs1 b hb)
      · rcases List.mem_cons.mp hb with rfl | hb
        · exact .inl (.head _)
        · exact (hs2 b hb).imp (.tail _) id
    have hT : ∀ K₂ : KMap, (∀ b ∈ I :: X.fp j', K₂ b = none) → ∃ gs j, (s₁.setGen g (End.susp (.ref a) g₀ l₀ k₀ c₀ p₀ fs₀).genState).heap.IsGen I g ∧ (s₁.setGen g (End.susp (.ref a) g₀ l₀ k₀ c₀ p₀ fs₀).genState).gens[g]? = some gs ∧ X.holds j (s₁.setGen g (End.susp (.ref a) g₀ l₀ k₀ c₀ p₀ fs₀).genState).heap ∧ I :: X.fp j' = I :: X.fp j ∧ I ∉ X.fp j ∧
        (∀ b ∈ I :: X.fp j', K₂ b = none ∧ Alive (s₁.setGen g (End.susp (.ref a) g₀ l₀ k₀ c₀ p₀ fs₀).genState) b) ∧ GGoes prog w h₀ A.in1 L X (L.length - (i + 1)) j gs := fun K₂ hk => by
      refine ⟨_, j', h1', setGen_self (gs := .running) (by rw [hf.gens.2.2 g (by rw [setGen_size]; exact hgk)]; exact setGen_self h2), hj', rfl, hI', fun b hb => ⟨hk b hb, ?_⟩, .inr ⟨_, _, _, _, _, _, rfl, fun s'' hs => ?_⟩⟩
      · rcases List.mem_cons.mp hb with rfl | hb
        · exact alive_of e1
        · exact (hs3 b hb).1
      · have e : L.length - (i + 1) = m := by omega
        rw [e]; exact hgo' s'' hs
    have dead' : ∀ b ∈ I :: X.fp j', b ∉ I :: X.fp j → K b = none := fun b hb hn => (hfp'.2 b hb).elim (fun h => absurd h hn) fun h => knone hO.sub h
    have kfp' : ∀ b ∈ I :: X.fp j', K b = none := fun b hb => by
      rcases hfp'.2 b hb with h | h
      · exact (h4 b h).1
      · exact knone hO.sub h
    cases ea : s.heap.get? a with
    | some o =>
      have eh := hn o ea
      have eK := hO.base a o eh
      have : o = tupObj #[.int q.1 tt, .str q.2 u] 0 := by have := hsub a o eK; rw [ha] at this; exact (Option.some.inj this).symm
      exact ⟨K, _, ⟨fun b r o e => keep b o (fun h => r.2 (.tail _ h)) e, hsub, fun _ _ e => e, fun _ _ => rfl, hgens, hf.os⟩, hrep K (this ▸ eK), hT K kfp', hfp'.1, hfp'.2⟩
    | none =>
      have hKa := knone hO.sub ea
      refine ⟨K.put a (tupObj #[.int q.1 tt, .str q.2 u] 0), _, ⟨fun b r o e => keep b o (fun h => r.2 (.tail _ h)) e, fun b o e => ?_, KMap.put_mono hKa, fun b r => KMap.put_other _ _ (by rintro rfl; have := r.1; rw [Alive, ea] at this; cases this), hgens, hf.os⟩, hrep _ (KMap.put_self _ _ _), hT _ fun b hb => ?_, hfp'.1, hfp'.2⟩
      · by_cases hb : b = a
        · subst hb; rw [KMap.put_self] at e; cases e; exact ha
        · rw [KMap.put_other _ _ hb] at e; exact hsub b o e
      · rw [KMap.put_other]
        · exact kfp' b hb
        · rcases List.mem_cons.mp hb with rfl | hb
          · exact hIa
          · exact (hs3 b hb).2
  done := fun fp K s ⟨gs, j, h1, h2, h3, hfp, hI, h4, h5⟩ hO => by
    subst hfp
    rw [List.length_map, Nat.sub_self] at h5
    refine gen_next hA (hlim.keeps hO.keep) h1 h2 h5 h3 (fun m v g₀ l₀ k₀ c₀ p₀ fs₀ s₁ hm => by cases hm) (fun s₁ _ hf h' hk => ?_)
    have hKfp : ∀ b o, K b = some o → b ∉ X.fp j := fun b o e h => by rw [(h4 b (.tail _ h)).1] at e; cases e
    refine ⟨rfl, K, ⟨fun b r o e => hk b o (hf.heap b o (fun h => r.2 (.tail _ h)) e), fun b o e => hk b o (hf.heap b o (hKfp b o e) (hO.sub b o e)), fun _ _ e => e, fun _ _ => rfl, ⟨fun hB => ?_, ?_, fun g' hlt' hn => ?_⟩, hf.os⟩⟩
    · exact setGen_bare (s := s₁) (hf.gens.1 (setGen_bare hB rfl)) rfl
    · show s.gens.size ≤ (s₁.setGen g .finished).gens.size
      rw [setGen_size]; exact Nat.le_trans (Nat.le_of_eq setGen_size.symm) hf.gens.2.1
    · have hne : g' ≠ g := fun h => hn (by rw [h]; exact .head _)
      show (s₁.setGen g .finished).gens[g']? = _
      rw [setGen_other hne, hf.gens.2.2 g' (by rw [setGen_size]; exact hlt'), setGen_other hne]
  self := fun i fp K s Q ⟨_, _, h1, _⟩ _ hQ => wpAny_pyIter_gen h1 hQ
end
end Mine.Internal

end PartB23
section PartB24
open PySem PySem.W PyProof.Rows
set_option Elab.async false
set_option maxRecDepth 100000
set_option linter.unusedVariables false
namespace Mine.Internal

noncomputable abbrev pw : Program := PySem.Challenge.pw_wu0086_01
noncomputable def stAt (i : Nat) : Stmt := (pw.main.body[i]?).getD (.Pass default)
noncomputable def bodyOf : Stmt → List Stmt
  | .FunctionDef _ _ b _ _ _ _ _ _ _ => b
  | .ClassDef _ _ _ b _ _ _ _ _ _ _ => b
  | _ => []
noncomputable def scopeOf : Stmt → Scope
  | .FunctionDef _ _ _ _ _ _ s _ _ _ => s
  | .ClassDef _ _ _ _ _ _ s _ _ _ _ => s
  | _ => default

/- a frame that holds but values without a place -/
structure FrameAt (h₀ : Heap) (env : Env) (σ : Sig) (h : Heap) : Prop where
  base : ∀ a o, h₀.get? a = some o → h.get? a = some o
  no : h₀.get? env.locals = none
  ns : ∃ m, h.Ns env.locals m ∧ ∀ x sl, σ.lookup x = some sl → env.kindOf x = some .local ∧ ∃ v p, m x = some v ∧ sl = .val p ∧ ∀ P K, Rep P K v p
noncomputable def flatP : PV → Bool
  | .none => true
  | .bool _ => true
  | .int _ => true
  | .str _ => true
  | _ => false
noncomputable def flatS : Sig → Bool
  | [] => true
  | (_, .val p) :: r => flatP p && flatS r
  | _ => false
theorem flat_rep {P : Params} {K : KMap} {v : Value} {p : PV} (h : Rep P K v p) (hp : flatP p = true) : ∀ P K, Rep P K v p := by
  cases h with
  | none => intro P K; exact .none
  | bool b => intro P K; exact .bool b
  | int i t => intro P K; exact .int i t
  | str x t => intro P K; exact .str x t
  | lst => simp [flatP] at hp
  | tup => simp [flatP] at hp
  | dct => simp [flatP] at hp
  | obj => simp [flatP] at hp
theorem flatS_get : ∀ {σ : Sig} {x : Str} {sl : Slot}, flatS σ = true → σ.lookup x = some sl → ∃ p, sl = .val p ∧ flatP p = true
  | [], _, _, _, e => by simp at e
  | (y, .val p) :: r, x, sl, h, e => by
    unfold flatS at h
    rw [Bool.and_eq_true] at h
    rw [List.lookup_cons, beq_str] at e
    by_cases hx : x = y
    · simp [hx] at e; exact ⟨p, e.symm, h.1⟩
    · simp [hx] at e; exact flatS_get h.2 e
  | (y, .own p) :: r, x, sl, h, e => by cases h

section
variable {prog : Program} {w : World} {h₀ : Heap} {d : Nat} {sc : Scope} {σ : Sig} {W : Str → Bool} {mg mb : Str → Option Value} {env : Env}

theorem FrameAt.forget {σ' : Sig} {h : Heap} (x : FrameAt h₀ env σ h) (hs : Sub σ' σ) : FrameAt h₀ env σ' h :=
  ⟨x.base, x.no, let ⟨m, h1, h2⟩ := x.ns; ⟨m, h1, fun y sl e => h2 y sl (hs.get e)⟩⟩
theorem FrameAt.frame {h h' : Heap} (x : FrameAt h₀ env σ h) (hb : ∀ a o, h₀.get? a = some o → h'.get? a = some o) (hl : ∀ o, h.get? env.locals = some o → h'.get? env.locals = some o) : FrameAt h₀ env σ h' :=
  ⟨hb, x.no, let ⟨m, h1, h2⟩ := x.ns; ⟨m, h1.at' hl, h2⟩⟩
theorem FrameAt.live {h : Heap} (x : FrameAt h₀ env σ h) : (h.get? env.locals).isSome = true := by obtain ⟨m, ⟨_, _, _, e, _⟩, _⟩ := x.ns; exact alive_of e
theorem FrameAt.to {P : Params} {s : Shared} (x : FrameAt h₀ env σ s.heap) (hc : env.cells = []) : St P h₀ (fun a => Alive s a ∧ a ≠ env.locals) WAll σ env (fun a => h₀.get? a) s := by
  obtain ⟨m, h1, h2⟩ := x.ns
  refine ⟨m, fun _ => [], ⟨fun _ _ e => e, x.base, fun a r => r.1, h1, fun r => r.2 rfl, x.no, fun n c e => by rw [hc] at e; simp at e, fun n c _ e => by rw [hc] at e; simp at e, fun n n' c e => by rw [hc] at e; simp at e, fun n sl e => ?_, (fun n p e a ha => nomatch ha), (fun _ _ _ _ _ _ _ a ha => nomatch ha)⟩⟩
  obtain ⟨hk, v, p, hv, rfl, hr⟩ := h2 n sl e
  exact ⟨v, .inl ⟨hk, hv⟩, hr _ _⟩
theorem FrameAt.of {P : Params} {s : Shared} {R : Addr → Prop} {K : KMap} (x : St P h₀ R WAll σ env K s) (hf : flatS σ = true) (hc : env.cells = []) : FrameAt h₀ env σ s.heap := by
  obtain ⟨m, oa, y⟩ := x
  refine ⟨fun a o e => y.sub a o (y.base a o e), ?_, m, y.ns, fun n sl e => ?_⟩
  · cases e : h₀.get? env.locals with
    | none => rfl
    | some o => have := y.base _ _ e; rw [y.nK] at this; cases this
  · obtain ⟨p, rfl, hp⟩ := flatS_get hf e
    obtain ⟨v, hat, hr⟩ := y.val n _ e
    rcases hat with ⟨hk, hv⟩ | ⟨_, c, e', _⟩
    · exact ⟨hk, v, p, hv, rfl, flat_rep hr hp⟩
    · rw [hc] at e'; simp at e'

structure Piece (h₀ : Heap) (env : Env) (σ' : Sig) (s s' : Shared) : Prop where
  frame : FrameAt h₀ env σ' s'.heap
  heap : ∀ b o, b ≠ env.locals → s.heap.get? b = some o → s'.heap.get? b = some o
  gens : (AllBare s.gens → AllBare s'.gens) ∧ s.gens.size ≤ s'.gens.size ∧ ∀ g, g < s.gens.size → s'.gens[g]? = s.gens[g]?
  os : s'.os = s.os
/- a piece of a generator's body without a yield -/
theorem piece_ex {A : Around} {s : Shared} {st : Stmt} {σ' : Sig} (hA : AOk d A) (hE : EnvOk sc env) (hc : env.cells = []) (x : FrameAt h₀ env σ s.heap) (hf : flatS σ' = true) (h : ExSt prog w h₀ d sc σ st (.next σ')) :
    wpAny (model prog w) A (exec st env) (fun f s' => f = .next ∧ Piece h₀ env σ' s s') NoE s := by
  refine wpAny_mono (h A env _ s _ hA hE (x.to hc)) (fun f s' h' => ?_) fun _ _ x => x
  obtain ⟨K', st', hS'⟩ := h'
  cases f with
  | next => exact ⟨rfl, FrameAt.of hS' hf hc, fun b o hb e => st'.heap b ⟨alive_of e, hb⟩ o e, ⟨st'.gens.1, st'.gens.2.1, fun g hg => st'.gens.2.2 g hg (fun h => nomatch h)⟩, st'.os⟩
  | brk => exact hS'.elim
  | cont => exact hS'.elim
  | ret v => exact hS'.elim
/- all that was stays -/
structure Kept (s s' : Shared) : Prop where
  heap : ∀ b o, s.heap.get? b = some o → s'.heap.get? b = some o
  gens : (AllBare s.gens → AllBare s'.gens) ∧ s.gens.size ≤ s'.gens.size ∧ ∀ g, g < s.gens.size → s'.gens[g]? = s.gens[g]?
  os : s'.os = s.os
theorem StepE.kept {s s' : Shared} {K K' : KMap} (st : StepE s K s' K') : Kept s s' := ⟨fun b o e => StepE.get st e, ⟨st.gens.1, st.gens.2.1, fun g hg => st.gens.2.2 g hg (fun h => nomatch h)⟩, st.os⟩
theorem FrameAt.kept {s s' : Shared} (x : FrameAt h₀ env σ s.heap) (y : Kept s s') : FrameAt h₀ env σ s'.heap := x.frame (fun a o e => y.heap a o (x.base a o e)) fun o e => y.heap _ o e
theorem piece_test {A : Around} {s : Shared} {e : Expr} {b : Bool} (hA : AOk d A) (hE : EnvOk sc env) (hc : env.cells = []) (x : FrameAt h₀ env σ s.heap) (h : TestOK prog w h₀ d sc σ e b) :
    wpAny (model prog w) A (isTrue e env (eval e env)) (fun v s' => v = b ∧ Kept s s') NoE s :=
  (h A env _ s _ _ hA hE (x.to hc)).mono fun s' K' st' => ⟨rfl, StepE.kept st'⟩
theorem piece_ev {A : Around} {s : Shared} {e : Expr} {p : PV} (hA : AOk d A) (hE : EnvOk sc env) (hc : env.cells = []) (x : FrameAt h₀ env σ s.heap) (h : EvOK prog w h₀ d sc σ e p) (hp : flatP p = true) :
    wpAny (model prog w) A (eval e env) (fun v s' => Kept s s' ∧ ∀ P K, Rep P K v p) NoE s :=
  (h A env _ s _ _ hA hE (x.to hc)).mono fun v s' K' st' r => ⟨StepE.kept st', flat_rep r hp⟩
theorem piece_pair {A : Around} {s : Shared} {es : List Expr} {k : Nat} {pos : Pos} {i : Int} {y : Str} (hA : AOk d A) (hE : EnvOk sc env) (hc : env.cells = []) (x : FrameAt h₀ env σ s.heap) (h : EvsOK prog w h₀ d sc σ es [.int i, .str y]) :
    wpAny (model prog w) A (eval (.Tuple es k pos) env) (fun v s' => Kept s s' ∧ ∃ a t u, v = .ref a ∧ s'.heap.get? a = some (tupObj #[.int i t, .str y u] 0) ∧ s.heap.get? a = none) NoE s := by
  refine wpAny_Tuple_spliced (wpAny_mono (h A env _ s _ _ pos hA hE (x.to hc)) (fun vs s₁ h₁ => ?_) fun _ _ x => x)
  obtain ⟨K₁, st₁, rs⟩ := h₁
  have y := StepE.push (tk := s₁.toks) (o := tupObj vs.toArray 0) st₁.sub rfl
  cases rs with
  | cons r1 rs =>
  cases r1 with
  | int _ t =>
  cases rs with
  | cons r2 rs =>
  cases r2 with
  | str _ u =>
  cases rs
  refine ⟨show 2 ≤ sizeLine by decide, StepE.kept (st₁.trans y), s₁.heap.objs.size, t, u, rfl, Heap.get?_push_size _ rfl, ?_⟩
  cases e : s.heap.get? s₁.heap.objs.size with
  | none => rfl
  | some o => have := StepE.get st₁ e; rw [size_none] at this; cases this
theorem FrameAt.toK {P : Params} {s : Shared} {K : KMap} (x : FrameAt h₀ env σ s.heap) (hc : env.cells = []) (hK : ∀ a o, h₀.get? a = some o → K a = some o) (hs : ∀ a o, K a = some o → s.heap.get? a = some o) (hn : K env.locals = none) : St P h₀ (fun a => Alive s a ∧ a ≠ env.locals) WAll σ env K s := by
  obtain ⟨m, h1, h2⟩ := x.ns
  refine ⟨m, fun _ => [], ⟨hK, hs, fun a r => r.1, h1, fun r => r.2 rfl, hn, fun n c e => by rw [hc] at e; simp at e, fun n c _ e => by rw [hc] at e; simp at e, fun n n' c e => by rw [hc] at e; simp at e, fun n sl e => ?_, (fun n p e a ha => nomatch ha), (fun _ _ _ _ _ _ _ a ha => nomatch ha)⟩⟩
  obtain ⟨hk, v, p, hv, rfl, hr⟩ := h2 n sl e
  exact ⟨v, .inl ⟨hk, hv⟩, hr _ _⟩
theorem piece_asg {A : Around} {s : Shared} {t : Expr} {p : PV} {σ' : Sig} {v : Value} {T : Addr} {o : Obj} (hA : AOk d A) (hE : EnvOk sc env) (hc : env.cells = []) (x : FrameAt h₀ env σ s.heap) (hf : flatS σ' = true) (h : AsgOK prog w h₀ d sc WAll σ t p σ')
    (hT : s.heap.get? T = some o) (hT0 : h₀.get? T = none) (hne : T ≠ env.locals) (hr : ∀ K : KMap, K T = some o → Rep w.params K v p) : wpAny (model prog w) A (assign t env v) (fun _ s' => Piece h₀ env σ' s s') NoE s := by
  have hK : ∀ a o', (KMap.put (fun a => h₀.get? a) T o) a = some o' → s.heap.get? a = some o' := fun a o' e => by
    by_cases ha : a = T
    · subst ha; rw [KMap.put_self] at e; cases e; exact hT
    · rw [KMap.put_other _ _ ha] at e; exact x.base a o' e
  refine wpAny_mono (h A env _ s _ v hA hE (x.toK hc (K := KMap.put (fun a => h₀.get? a) T o) (KMap.put_mono hT0) hK (by rw [KMap.put_other _ _ (Ne.symm hne)]; exact x.no)) (hr _ (KMap.put_self _ _ _))) (fun _ s' h' => ?_) fun _ _ x => x
  obtain ⟨K', st', hS'⟩ := h'
  exact ⟨FrameAt.of hS' hf hc, fun b o hb e => st'.heap b ⟨alive_of e, hb⟩ o e, ⟨st'.gens.1, st'.gens.2.1, fun g hg => st'.gens.2.2 g hg (fun h => nomatch h)⟩, st'.os⟩

/- a run from s₀ to s: its places' list grows by fresh places alone -/
structure Lk (fp₀ : List Addr) (s₀ s : Shared) (fp : List Addr) : Prop where
  fine : GFine fp₀ s₀ s
  inn : ∀ b ∈ fp₀, b ∈ fp
  new : ∀ b ∈ fp, b ∈ fp₀ ∨ s₀.heap.get? b = none
  live : ∀ b ∈ fp, Alive s b
theorem Lk.refl {fp : List Addr} {s : Shared} (h : ∀ b ∈ fp, Alive s b) : Lk fp s s fp := ⟨.refl, fun _ h => h, fun _ h => .inl h, h⟩
theorem Lk.trans {fp₀ fp fp' : List Addr} {s₀ s s' : Shared} (x : Lk fp₀ s₀ s fp) (y : Lk fp s s' fp') : Lk fp₀ s₀ s' fp' := by
  refine ⟨⟨fun b o hb e => ?_, fun b h => y.fine.live b (x.fine.live b h), ⟨fun h => y.fine.gens.1 (x.fine.gens.1 h), Nat.le_trans x.fine.gens.2.1 y.fine.gens.2.1, fun g h => (y.fine.gens.2.2 g (Nat.lt_of_lt_of_le h x.fine.gens.2.1)).trans (x.fine.gens.2.2 g h)⟩, y.fine.os.trans x.fine.os⟩, fun b h => y.inn b (x.inn b h), fun b h => ?_, y.live⟩
  · refine y.fine.heap b o (fun h => (x.new b h).elim hb fun hn => by rw [hn] at e; cases e) (x.fine.heap b o hb e)
  · rcases y.new b h with h | h
    · exact x.new b h
    · refine .inr ?_
      cases e : s₀.heap.get? b with
      | none => rfl
      | some o => have := x.fine.live b (alive_of e); rw [Alive, h] at this; cases this
theorem Lk.kept {fp : List Addr} {s s' : Shared} (y : Kept s s') (h : ∀ b ∈ fp, Alive s b) : Lk fp s s' fp := by
  have hl : ∀ b, Alive s b → Alive s' b := fun b hb => by obtain ⟨o, e⟩ := Option.isSome_iff_exists.mp hb; exact alive_of (y.heap b o e)
  exact ⟨⟨fun b o _ e => y.heap b o e, hl, y.gens, y.os⟩, fun _ h => h, fun _ h => .inl h, fun b hb => hl b (h b hb)⟩
theorem Lk.piece {fp : List Addr} {σ' : Sig} {s s' : Shared} (y : Piece h₀ env σ' s s') (hl : env.locals ∈ fp) (h : ∀ b ∈ fp, Alive s b) : Lk fp s s' fp := by
  have hl' : ∀ b, Alive s b → Alive s' b := fun b hb => by
    by_cases e : b = env.locals
    · subst e; exact y.frame.live
    · obtain ⟨o, e'⟩ := Option.isSome_iff_exists.mp hb; exact alive_of (y.heap b o e e')
  exact ⟨⟨fun b o hb e => y.heap b o (fun h => hb (h ▸ hl)) e, hl', y.gens, y.os⟩, fun _ h => h, fun _ h => .inl h, fun b hb => hl' b (h b hb)⟩

/- where a generator of the text's stands -/
structure GP (h₀ : Heap) where
  fp : List Addr
  holds : Heap → Prop
  fr : ∀ h h', holds h → (∀ b o, h₀.get? b = some o → h'.get? b = some o) → (∀ b ∈ fp, ∀ o, h.get? b = some o → h'.get? b = some o) → holds h'
noncomputable abbrev gpts (h₀ : Heap) : Pts := ⟨GP h₀, GP.fp, GP.holds⟩

theorem seg_yield {A : Around} {c : Code} {fs : List Frame} {s s₀ : Shared} {K : Flow → Sem Fin} {Hr : Value → Sem Fin} {gd : Bool → Bool} {lv : List Value → List Value} {es : List Expr} {k : Nat} {tp ypos pos : Pos} {i : Int} {y : Str} {L : List (Int × Str)} {m : Nat} {fp : List Addr} {j₀ : GP h₀}
    (H : Heap → Prop) (hA : AOk d (A.over c fs)) (hE : EnvOk sc env) (hc : env.cells = []) (x : FrameAt h₀ env σ s.heap) (lk : Lk j₀.fp s₀ s fp)
    (fr : ∀ h h', H h → (∀ b o, h₀.get? b = some o → h'.get? b = some o) → (∀ b ∈ fp, ∀ o, h.get? b = some o → h'.get? b = some o) → H h') (hH : H s.heap) (h : EvsOK prog w h₀ d sc σ es [.int i, .str y]) (hq : L[L.length - (m + 1)]? = some (i, y))
    (hgd : gd false = false) (hfs : splitAtGen fs = none) (hfg : fs.any Frame.guarded = false) (hco : sc.isCoroutine = false)
    (next : ∀ s'', H s''.heap → SX prog w A c (K .next) fs s'' (GPost prog w h₀ A L (gpts h₀) m ⟨fp, H, fr⟩ s'')) :
    SX prog w A c ((exec (.Expr (.Yield (some (.Tuple es k tp)) ypos) pos) env).wrap K Hr gd lv) fs s (GPost prog w h₀ A L (gpts h₀) (m + 1) j₀ s₀) := by
  refine x_yield hfs hgd hfg (wpAny_mono (piece_pair hA hE hc x h) (fun v s' h' k l p hk => ?_) fun _ _ x => x) (by rw [hE.scope]; exact hco) (interactive_no hE)
  obtain ⟨kp, a, t, u, rfl, ha, hn⟩ := h'
  have l1 := lk.trans (Lk.kept kp lk.live)
  refine ⟨(i, y), a, t, u, ⟨fp, H, fr⟩, hq, rfl, ha, fun o e => ?_, l1.fine, l1.inn, l1.new, fun b hb => ⟨l1.live b hb, fun e => ?_⟩, fr _ _ hH (fun b o e => kp.heap b o (x.base b o e)) (fun b _ o e => kp.heap b o e), fun s'' h'' => ?_⟩
  · have := lk.fine.live a (alive_of e); rw [Alive, hn] at this; cases this
  · subst e; have := lk.live b hb; rw [Alive, hn] at this; cases this
  · rw [← hk s'']; exact next s'' h''
end
end Mine.Internal

end PartB24
section PartB25
open PySem PySem.W PyProof.Rows
set_option Elab.async false
set_option maxRecDepth 100000
set_option linter.unusedVariables false
namespace Mine.Internal

noncomputable def forT : Stmt → Expr
  | .For t _ _ _ _ => t
  | _ => default
noncomputable def forI : Stmt → Expr
  | .For _ i _ _ _ => i
  | _ => default
noncomputable def forB : Stmt → List Stmt
  | .For _ _ b _ _ => b
  | _ => []
noncomputable def sub (st : Stmt) (i : Nat) : Stmt := ((bodyOf st)[i]?).getD (.Pass default)

noncomputable def escFor : Stmt := sub (stAt 4) 2
noncomputable abbrev ESC : Scope := scopeOf (stAt 4)
noncomputable def ES (x : Str) (p : Int) (e : Bool) : Sig := [("addr", .val (.str x)), ("pos", .val (.int p)), ("escape", .val (.bool e))]
noncomputable def ES2 (x : Str) (p : Int) (e : Bool) (c : Nat) : Sig := [("addr", .val (.str x)), ("pos", .val (.int p)), ("escape", .val (.bool e)), ("ch", .val (.str ⟨#[c]⟩))]
noncomputable def escOuts : Nat → Bool → List Nat → List (Int × Str)
  | _, _, [] => []
  | i, true, c :: cs => ((i : Int), ("\\" : Str) ++ ⟨#[c]⟩) :: escOuts (i + 1) false cs
  | i, false, c :: cs => if c = 92 then escOuts (i + 1) true cs else ((i : Int), ⟨#[c]⟩) :: escOuts (i + 1) false cs

theorem sign_slash (c : Nat) : ((⟨#[c]⟩ : Str) == ("\\" : Str)) = decide (c = 92) := by
  rw [beq_str]
  have : ("\\" : Str) = ⟨#[92]⟩ := rfl
  rw [this]
  simp

structure ESt (h₀ : Heap) (env : Env) (σ : Sig) (it e : Addr) (x : Str) (tx : Tok) (i : Nat) (h : Heap) : Prop where
  frame : FrameAt h₀ env σ h
  en : ∃ old, IsEnum h e it i old
  st : h.IsStrIter it (strIterType x) x tx i

section
variable {prog : Program} {w : World} {h₀ : Heap} {d : Nat} {env : Env} {σ : Sig} {mg mb : Str → Option Value}

theorem ESt.fr {it e : Addr} {x : Str} {tx : Tok} {i : Nat} {h h' : Heap} (y : ESt h₀ env σ it e x tx i h) (h1 : ∀ b o, h₀.get? b = some o → h'.get? b = some o) (h2 : ∀ b ∈ [env.locals, e, it], ∀ o, h.get? b = some o → h'.get? b = some o) : ESt h₀ env σ it e x tx i h' :=
  ⟨y.frame.frame h1 (h2 _ (.head _)), let ⟨old, q⟩ := y.en; ⟨old, h2 _ (.tail _ (.head _)) _ q⟩, let ⟨o, q, r⟩ := y.st; ⟨o, h2 _ (.tail _ (.tail _ (.head _))) _ q, r⟩⟩
theorem ESt.forget {σ' : Sig} {it e : Addr} {x : Str} {tx : Tok} {i : Nat} {h : Heap} (y : ESt h₀ env σ it e x tx i h) (hs : Sub σ' σ) : ESt h₀ env σ' it e x tx i h := ⟨y.frame.forget hs, y.en, y.st⟩
theorem ESt.piece {σ' : Sig} {it e : Addr} {x : Str} {tx : Tok} {i : Nat} {s s' : Shared} (y : ESt h₀ env σ it e x tx i s.heap) (p : Piece h₀ env σ' s s') (he : e ≠ env.locals) (hi : it ≠ env.locals) : ESt h₀ env σ' it e x tx i s'.heap :=
  ⟨p.frame, let ⟨old, q⟩ := y.en; ⟨old, p.heap _ _ he q⟩, let ⟨o, q, r⟩ := y.st; ⟨o, p.heap _ _ hi q, r⟩⟩
theorem ESt.kept {it e : Addr} {x : Str} {tx : Tok} {i : Nat} {s s' : Shared} (y : ESt h₀ env σ it e x tx i s.heap) (p : Kept s s') : ESt h₀ env σ it e x tx i s'.heap :=
  ⟨y.frame.kept p, let ⟨old, q⟩ := y.en; ⟨old, p.heap _ _ q⟩, let ⟨o, q, r⟩ := y.st; ⟨o, p.heap _ _ q, r⟩⟩

theorem str_draws {A : Around} (hh : A.handled = none) (it : Addr) (x : Str) (t : Tok) : Draws prog w A it [it] x.cps.size (fun i v => ∃ c u, x.cps[i]? = some c ∧ v = .str ⟨#[c]⟩ u) (fun i h => h.IsStrIter it (strIterType x) x t i) := by
  unfold strIterType
  by_cases h : (x.cps.all (· < 128)) = true
  · rw [if_pos h]; exact Draws.strAscii hh it x t
  · rw [if_neg h]; exact Draws.strWide hh it x t

theorem drop_head {α : Type} {L : List α} {q : α} {r : List α} {n : Nat} (h : L.drop (L.length - n) = q :: r) (hn : n = r.length + 1) : L[L.length - n]? = some q ∧ L.drop (L.length - r.length) = r := by
  have h1 : (L.drop (L.length - n)).length = r.length + 1 := by rw [h]; rfl
  rw [List.length_drop] at h1
  subst hn
  have hle : r.length < L.length := (Nat.le_trans (Nat.le_of_eq h1.symm) (Nat.sub_le _ _))
  refine ⟨?_, ?_⟩
  · have : (L.drop (L.length - (r.length + 1)))[0]? = some q := by rw [h]; rfl
    rw [List.getElem?_drop] at this; exact this
  · have h2 : L.length - r.length = (L.length - (r.length + 1)) + 1 := (Nat.succ_pred_eq_of_pos (Nat.sub_pos_of_lt hle)).symm
    rw [h2, ← List.drop_drop, h]; rfl

noncomputable def escEnd : Bool → List Nat → Bool
  | e, [] => e
  | true, _ :: cs => escEnd false cs
  | false, c :: cs => escEnd (decide (c = 92)) cs

theorem esc_loop {A : Around} {fs : List Frame} {L : List (Int × Str)} {x : Str} {tx : Tok} {it e : Addr} (hA : AOk d (A.over (.forLoop (forT escFor) (.ref e) (forB escFor) [] env) fs)) (hE : EnvOk ESC env) (hc : env.cells = []) (hei : e ≠ it) (hel : e ≠ env.locals) (hil : it ≠ env.locals) (he0 : h₀.get? e = none) (hit0 : h₀.get? it = none)
    (hfs : splitAtGen fs = none) (hfg : fs.any Frame.guarded = false)
    (hend : ∀ p (j₀ : GP h₀) s₀ s, FrameAt h₀ env (ES x p false) s.heap → GDone j₀.fp s₀ s → SX prog w A (.block [] env) ((model prog w).den (.block [] env)) fs s (GPost prog w h₀ A L (gpts h₀) 0 j₀ s₀)) :
    ∀ (cs : List Nat) (i : Nat) (esc : Bool) (p : Int) (j₀ : GP h₀) (s₀ s : Shared), cs = x.cps.toList.drop i → i ≤ x.cps.size → ESt h₀ env (ES x p esc) it e x tx i s.heap → Lk j₀.fp s₀ s [env.locals, e, it] → escEnd esc cs = false →
      L.drop (L.length - (escOuts i esc cs).length) = escOuts i esc cs →
      SX prog w A (.forLoop (forT escFor) (.ref e) (forB escFor) [] env) ((model prog w).den (.forLoop (forT escFor) (.ref e) (forB escFor) [] env)) fs s (GPost prog w h₀ A L (gpts h₀) (escOuts i esc cs).length j₀ s₀) := by
  intro cs
  induction cs with
  | nil =>
    intro i esc p j₀ s₀ s hcs hi hst lk hp hL
    have hin : i = x.cps.size := by
      have := congrArg List.length hcs
      rw [List.length_drop, Array.length_toList] at this
      simp at this; omega
    subst hin
    obtain rfl : esc = false := hp
    obtain ⟨old, hen⟩ := hst.en
    refine x_turn (wpAny_pyNext_enum_endD (str_draws (A := Around.in1 _) hA.1 it x tx) hen hst.st fun h' hx => ?_)
    refine hend p j₀ s₀ { s with heap := h' } (hst.frame.frame (fun a o e' => hx a o (fun h => ?_) (hst.frame.base a o e')) fun o e' => hx _ o (Ne.symm hil) e') ⟨fun b o hb e' => ?_, lk.fine.gens, lk.fine.os⟩
    · subst h; rw [hit0] at e'; cases e'
    · refine hx b o (fun h => ?_) (lk.fine.heap b o hb e')
      subst h
      rcases lk.new b (.tail _ (.tail _ (.head _))) with h | h
      · exact hb h
      · rw [h] at e'; cases e'
  | cons c cs ih =>
    intro i esc p j₀ s₀ s hcs hi hst lk hp hL
    have hlt : i < x.cps.size := by
      have := congrArg List.length hcs
      rw [List.length_drop, Array.length_toList] at this
      simp at this; omega
    have hci : x.cps[i]? = some c := by
      have := congrArg (·[0]?) hcs
      simp at this
      exact this.symm
    have hcs' : cs = x.cps.toList.drop (i + 1) := by
      rw [← List.drop_drop, ← hcs]; rfl
    obtain ⟨old, hen⟩ := hst.en
    refine x_turn (wpAny_pyNext_enum_itemD (str_draws (A := Around.in1 _) hA.1 it x tx) hen hst.st hlt hei (by simpa using hei) fun v h' tk hv ho hs' hT hsz hk => ?_)
    obtain ⟨c', u, hc', rfl⟩ := hv
    obtain rfl : c' = c := by rw [hci] at hc'; exact (Option.some.inj hc').symm
    obtain ⟨m0, ⟨_, _, _, eL, _⟩, _⟩ := hst.frame.ns
    have hTl : s.heap.objs.size ≠ env.locals := fun h => by have := Heap.lt_size eL; rw [← h] at this; exact absurd this (Nat.lt_irrefl _)
    have hTe : s.heap.objs.size ≠ e := fun h => by have := Heap.lt_size hen; rw [← h] at this; exact absurd this (Nat.lt_irrefl _)
    have h0none : ∀ b, s.heap.get? b = none → h₀.get? b = none := fun b hb => by
      cases q : h₀.get? b with
      | none => rfl
      | some o => have := hst.frame.base b o q; rw [hb] at this; cases this
    refine wpAny_letOwnedTupleGo_enum ho fun h₂ hen₂ hsb => ?_
    have hk₂ : ∀ b o, b ≠ e → b ≠ it → s.heap.get? b = some o → h₂.get? b = some o := fun b o h1 h2 q => (hsb.2 b h1).trans (hk b o h1 h2 q)
    have est2 : ESt h₀ env (ES x p esc) it e x tx (i + 1) h₂ := ⟨hst.frame.frame (fun b o q => hk₂ b o (fun h => by subst h; rw [he0] at q; cases q) (fun h => by subst h; rw [hit0] at q; cases q) (hst.frame.base b o q)) (fun o q => hk₂ _ o (Ne.symm hel) (Ne.symm hil) q),
      ⟨_, hen₂⟩, let ⟨o, q, r⟩ := hs'; ⟨o, (hsb.2 it (Ne.symm hei)).trans q, r⟩⟩
    have lk2 : Lk j₀.fp s₀ { s with heap := h₂, toks := tk + 1 } [env.locals, e, it] := by
      refine lk.trans ⟨⟨fun b o hb q => hk₂ b o (fun h => hb (h ▸ .tail _ (.head _))) (fun h => hb (h ▸ .tail _ (.tail _ (.head _)))) q, fun b hb => ?_, ⟨id, Nat.le_refl _, fun _ _ => rfl⟩, rfl⟩, fun _ h => h, fun _ h => .inl h, fun b hb => ?_⟩
      · by_cases h1 : b = e
        · subst h1; exact alive_of hen₂
        · by_cases h2 : b = it
          · subst h2; obtain ⟨o, q, r⟩ := est2.st; exact alive_of q
          · obtain ⟨o, q⟩ := Option.isSome_iff_exists.mp hb; exact alive_of (hk₂ b o h1 h2 q)
      · rcases List.mem_cons.mp hb with rfl | hb
        · exact est2.frame.live
        · rcases List.mem_cons.mp hb with rfl | hb
          · exact alive_of hen₂
          · rw [List.mem_singleton.mp hb]; obtain ⟨o, q, r⟩ := est2.st; exact alive_of q
    have hT2 : h₂.get? s.heap.objs.size = some (tupObj #[.int i tk, .str ⟨#[c']⟩ u] 0) := (hsb.2 _ hTe).trans hT
    refine wpAny_mono (piece_asg (d := d) (σ := ES x p esc) (σ' := upd (upd (ES x p esc) "pos" (.val (.int i))) "ch" (.val (.str ⟨#[c']⟩))) hA hE hc est2.frame rfl
      (asg_tup (asgs_cons asg_name (asgs_cons asg_name asgs_nil))) hT2 (h0none _ (size_none _)) hTl (fun K hK => .tup (vs := [.int i tk, .str ⟨#[c']⟩ u]) hK (.cons (.int _ _) (.cons (.str _ _) .nil)))) (fun _ s₃ pc => ?_) fun _ _ x => x
    have est3 : ESt h₀ env (ES2 x i esc c') it e x tx (i + 1) s₃.heap := (est2.piece pc hel hil).forget ⟨rfl, rfl, rfl, rfl, trivial⟩
    have lk3 : Lk j₀.fp s₀ s₃ [env.locals, e, it] := lk2.trans (Lk.piece pc (.head _) lk2.live)
    clear pc lk2 est2 hT2 hk₂ hsb hen₂
    have fr : ∀ esc, ∀ h h', ESt h₀ env (ES2 x i esc c') it e x tx (i + 1) h → (∀ b o, h₀.get? b = some o → h'.get? b = some o) → (∀ b ∈ [env.locals, e, it], ∀ o, h.get? b = some o → h'.get? b = some o) → ESt h₀ env (ES2 x i esc c') it e x tx (i + 1) h' := fun _ _ _ y h1 h2 => y.fr h1 h2
    have live : ∀ esc s, ESt h₀ env (ES2 x i esc c') it e x tx (i + 1) s.heap → ∀ b ∈ [env.locals, e, it], Alive s b := fun esc s y b hb => by
      rcases List.mem_cons.mp hb with rfl | hb
      · exact y.frame.live
      · rcases List.mem_cons.mp hb with rfl | hb
        · obtain ⟨_, q⟩ := y.en; exact alive_of q
        · rw [List.mem_singleton.mp hb]; obtain ⟨o, q, r⟩ := y.st; exact alive_of q
    refine x_cons (x_if (wpAny_mono (piece_test (d := d) (b := esc) hA hE hc est3.frame (tst_val (ev_name rfl) truth_bool)) (fun v s₄ h₄ => ?_) fun _ _ x => x))
    obtain ⟨rfl, kp⟩ := h₄
    have est4 := est3.kept kp
    have lk4 := lk3.trans (Lk.kept kp lk3.live)
    cases v with
    | true =>
      have hL' : L.drop (L.length - ((escOuts (i + 1) false cs).length + 1)) = ((i : Int), ("\\" : Str) ++ ⟨#[c']⟩) :: escOuts (i + 1) false cs := hL
      obtain ⟨hq, hr⟩ := drop_head hL' rfl
      refine x_cons (seg_yield (d := d) (fun h => ESt h₀ env (ES2 x i true c') it e x tx (i + 1) h) hA hE hc est4.frame lk4 (fr true) est4 (evs_cons (ev_name rfl) (evs_cons (ev_bin ev_str (ev_name rfl) (bin_adds (show 2 ≤ sizeLine by decide))) evs_nil)) hq rfl hfs hfg rfl fun s₅ h₅ => ?_)
      refine x_cons (x_stmt (wpAny_mono (piece_ex (d := d) (σ' := upd (ES2 x i true c') "escape" (.val (.bool false))) hA hE hc h₅.frame rfl (st_assign ev_bool)) (fun f s₆ h₆ => ?_) fun _ _ x => x))
      obtain ⟨rfl, pc⟩ := h₆
      have est6 : ESt h₀ env (ES2 x i false c') it e x tx (i + 1) s₆.heap := (h₅.piece pc hel hil).forget ⟨rfl, rfl, rfl, rfl, trivial⟩
      refine x_nil (x_nil (x_again rfl ?_))
      exact ih (i + 1) false i ⟨_, _, fr true⟩ s₅ s₆ hcs' hlt (est6.forget ⟨rfl, rfl, rfl, trivial⟩) (Lk.piece pc (.head _) (live true s₅ h₅)) hp hr
    | false =>
      refine x_cons (x_if (wpAny_mono (piece_test (d := d) hA hE hc est4.frame (tst_cmp (ev_name rfl) ev_str cmp_eqs)) (fun v s₅ h₅ => ?_) fun _ _ x => x))
      obtain ⟨rfl, kp⟩ := h₅
      have est5 := est4.kept kp
      have lk5 := lk4.trans (Lk.kept kp lk4.live)
      rw [sign_slash]
      by_cases h92 : c' = 92
      · have e1 : escOuts i false (c' :: cs) = escOuts (i + 1) true cs := by rw [escOuts, if_pos h92]
        have e2 : escEnd true cs = false := by rw [escEnd, decide_eq_true h92] at hp; exact hp
        rw [e1] at hL ⊢
        rw [decide_eq_true h92]
        refine x_cons (x_stmt (wpAny_mono (piece_ex (d := d) (σ' := upd (ES2 x i false c') "escape" (.val (.bool true))) hA hE hc est5.frame rfl (st_assign ev_bool)) (fun f s₆ h₆ => ?_) fun _ _ x => x))
        obtain ⟨rfl, pc⟩ := h₆
        have est6 : ESt h₀ env (ES2 x i true c') it e x tx (i + 1) s₆.heap := (est5.piece pc hel hil).forget ⟨rfl, rfl, rfl, rfl, trivial⟩
        refine x_nil (x_nil (x_nil (x_again rfl ?_)))
        exact ih (i + 1) true i j₀ s₀ s₆ hcs' hlt (est6.forget ⟨rfl, rfl, rfl, trivial⟩) (lk5.trans (Lk.piece pc (.head _) lk5.live)) e2 hL
      · have e1 : escOuts i false (c' :: cs) = ((i : Int), ⟨#[c']⟩) :: escOuts (i + 1) false cs := by rw [escOuts, if_neg h92]
        have e2 : escEnd false cs = false := by rw [escEnd, decide_eq_false h92] at hp; exact hp
        rw [e1] at hL ⊢
        rw [decide_eq_false h92]
        obtain ⟨hq, hr⟩ := drop_head hL rfl
        refine x_cons (seg_yield (d := d) (fun h => ESt h₀ env (ES2 x i false c') it e x tx (i + 1) h) hA hE hc est5.frame lk5 (fr false) est5 (evs_cons (ev_name rfl) (evs_cons (ev_name rfl) evs_nil)) hq rfl hfs hfg rfl fun s₆ h₆ => ?_)
        refine x_nil (x_nil (x_nil (x_again rfl ?_)))
        exact ih (i + 1) false i ⟨_, _, fr false⟩ s₆ s₆ hcs' hlt (h₆.forget ⟨rfl, rfl, rfl, trivial⟩) (Lk.refl (live false s₆ h₆)) e2 hr
end
end Mine.Internal

end PartB25
section PartB26
open PySem PySem.W PyProof.Rows
set_option Elab.async false
set_option maxRecDepth 100000
set_option linter.unusedVariables false
namespace Mine.Internal
section
variable {prog : Program} {w : World} {h₀ : Heap} {d : Nat} {env : Env} {σ : Sig} {mg mb : Str → Option Value}

theorem over_func {A : Around} {b : List Stmt} (h : AOk (d + 1) A) : AOk d (A.over (.func b env) []) := by
  obtain ⟨h1, h2, h3⟩ := h
  refine ⟨h1, ?_, ?_⟩
  · show A.depth + 0 + _ + 4 * d + 4 < _
    have : Code.weight (.func b env) ≤ 4 := Nat.le_trans (Nat.le_of_eq (show _ = 1 from rfl)) (by decide)
    omega
  · show A.units + 0 + _ + 64 * d + 200 < _
    have : Code.cUnits (.func b env) ≤ 64 := Nat.le_trans (Nat.le_of_eq (show _ = 3 from rfl)) (by decide)
    omega
theorem over_loop {A : Around} {b b' : List Stmt} {t : Expr} {it : Value} {k : Result → Sem Fin} {l : List Value} {p : Pos} (h : AOk (d + 1) A) : AOk d (A.over (.forLoop t it b [] env) [.ret k none false l (.func b' env) p []]) := by
  obtain ⟨h1, h2, h3⟩ := h
  have e1 : Code.weight (.func b' env) ≤ 2 := Nat.le_trans (Nat.le_of_eq (show _ = 1 from rfl)) (by decide)
  have e2 : Code.weight (.forLoop t it b [] env) ≤ 2 := Nat.le_trans (Nat.le_of_eq (show _ = 0 from rfl)) (by decide)
  have e3 : Code.cUnits (.func b' env) ≤ 32 := Nat.le_trans (Nat.le_of_eq (show _ = 3 from rfl)) (by decide)
  have e4 : Code.cUnits (.forLoop t it b [] env) ≤ 32 := Nat.le_trans (Nat.le_of_eq (show _ = 0 from rfl)) (by decide)
  refine ⟨?_, ?_, ?_⟩
  · show (marksOver _ (A.handled, A.handled)).1 = none
    rw [h1]; rfl
  · have : (A.over (.forLoop t it b [] env) [.ret k none false l (.func b' env) p []]).depth = A.depth + (Code.weight (.func b' env) + 0) + Code.weight (.forLoop t it b [] env) := rfl
    rw [this]; omega
  · have : (A.over (.forLoop t it b [] env) [.ret k none false l (.func b' env) p []]).units = A.units + (Code.cUnits (.func b' env) + 0) + Code.cUnits (.forLoop t it b [] env) := rfl
    rw [this]; omega

theorem GDone.kept {fp : List Addr} {s₀ s s' : Shared} (x : GDone fp s₀ s) (y : Kept s s') : GDone fp s₀ s' :=
  ⟨fun b o hb e => y.heap b o (x.heap b o hb e), ⟨fun h => y.gens.1 (x.gens.1 h), Nat.le_trans x.gens.2.1 y.gens.2.1, fun g h => (y.gens.2.2 g (Nat.lt_of_lt_of_le h x.gens.2.1)).trans (x.gens.2.2 g h)⟩, y.os.trans x.os⟩

theorem esc_fresh {A : Around} {x : Str} (G : Glb h₀ mg mb) (he : Callee mg mb ("enumerate" : Str) (.type "enumerate")) (hA : AOk (d + 1) A) (hE : EnvOk ESC env) (hc : env.cells = []) (hx : escEnd false x.cps.toList = false)
    (fr : ∀ h h', FrameAt h₀ env [("addr", .val (.str x))] h → (∀ b o, h₀.get? b = some o → h'.get? b = some o) → (∀ b ∈ [env.locals], ∀ o, h.get? b = some o → h'.get? b = some o) → FrameAt h₀ env [("addr", .val (.str x))] h') :
    GGoes prog w h₀ A (escOuts 0 false x.cps.toList) (gpts h₀) (escOuts 0 false x.cps.toList).length ⟨[env.locals], fun h => FrameAt h₀ env [("addr", .val (.str x))] h, fr⟩ (.fresh (.func (bodyOf (stAt 4)) env)) := by
  refine .inl ⟨_, rfl, fun s hj => x_func ?_⟩
  have hA' := over_func (env := env) (b := bodyOf (stAt 4)) hA
  have hj : FrameAt h₀ env [("addr", .val (.str x))] s.heap := hj
  have lk0 : Lk [env.locals] s s [env.locals] := Lk.refl fun b hb => by rw [List.mem_singleton.mp hb]; exact hj.live
  refine x_cons (x_stmt (wpAny_mono (piece_ex (d := d) (σ' := upd [("addr", .val (.str x))] "pos" (.val (.int 0))) hA' hE hc hj rfl (st_assign ev_int)) (fun f s₁ h₁ => ?_) fun _ _ x => x))
  obtain ⟨rfl, p1⟩ := h₁
  have lk1 := lk0.trans (Lk.piece p1 (.head _) lk0.live)
  refine x_cons (x_stmt (wpAny_mono (piece_ex (d := d) (σ' := upd (upd [("addr", .val (.str x))] "pos" (.val (.int 0))) "escape" (.val (.bool false))) hA' hE hc p1.frame rfl (st_assign ev_bool)) (fun f s₂ h₂ => ?_) fun _ _ x => x))
  obtain ⟨rfl, p2⟩ := h₂
  have lk2 := lk1.trans (Lk.piece p2 (.head _) lk1.live)
  have f2 : FrameAt h₀ env (ES x 0 false) s₂.heap := p2.frame.forget ⟨rfl, rfl, rfl, trivial⟩
  refine x_cons (x_for (fun _ => rfl) (call_by (d := d) (sc := ESC) (ps := [.str x]) G hA' hE (f2.to (P := w.params) hc) he (.inl ⟨_, rfl⟩) (evs_cons (ev_name rfl) evs_nil) rfl (by decide) (by rfl) ⟨_, _, rfl⟩ fun vs s₃ K' st rs => ?_))
  cases rs with
  | cons r rs =>
  cases rs
  cases r with
  | str _ tx =>
  refine call_enumerate_str fun h' hen hst hsz hk => wpAny_pyIter_enum hen fun p => ?_
  have k3 := StepE.kept st
  have f3 := f2.kept k3
  have lk3 := lk2.trans (Lk.kept k3 lk2.live)
  have none3 : ∀ b, s₃.heap.objs.size ≤ b → s₃.heap.get? b = none := fun b hb => by
    cases e : s₃.heap.get? b with
    | none => rfl
    | some o => exact absurd (Heap.lt_size e) (Nat.not_lt.mpr hb)
  obtain ⟨_, ⟨_, _, _, eL, _⟩, _⟩ := f3.ns
  have hL := Heap.lt_size eL
  have hn0 : ∀ b, s₃.heap.objs.size ≤ b → h₀.get? b = none := fun b hb => by
    cases e : h₀.get? b with
    | none => rfl
    | some o => have := f3.base b o e; rw [none3 b hb] at this; cases this
  have lk4 : Lk [env.locals] s { s₃ with heap := h' } [env.locals, s₃.heap.objs.size + 1, s₃.heap.objs.size] := by
    have al : ∀ b, Alive s₃ b → (h'.get? b).isSome = true := fun b hb => by obtain ⟨o, e⟩ := Option.isSome_iff_exists.mp hb; exact alive_of (hk b o e)
    refine lk3.trans ⟨⟨fun b o _ e => hk b o e, al, ⟨id, Nat.le_refl _, fun _ _ => rfl⟩, rfl⟩, fun b hb => by rw [List.mem_singleton.mp hb]; exact .head _, fun b hb => ?_, fun b hb => ?_⟩
    · rcases List.mem_cons.mp hb with rfl | hb
      · exact .inl (.head _)
      · rcases List.mem_cons.mp hb with rfl | hb
        · exact .inr (none3 _ (Nat.le_succ _))
        · rw [List.mem_singleton.mp hb]; exact .inr (none3 _ (Nat.le_refl _))
    · rcases List.mem_cons.mp hb with rfl | hb
      · exact al _ (alive_of eL)
      · rcases List.mem_cons.mp hb with rfl | hb
        · exact alive_of hen
        · rw [List.mem_singleton.mp hb]; obtain ⟨o, e, _⟩ := hst; exact alive_of e
  refine esc_loop (d := d) (over_loop hA) hE hc (Nat.succ_ne_self _) (Ne.symm (Nat.ne_of_lt (Nat.lt_succ_of_lt hL))) (Ne.symm (Nat.ne_of_lt hL)) (hn0 _ (Nat.le_succ _)) (hn0 _ (Nat.le_refl _)) rfl rfl
    (fun p' j₀ s₀ s₅ hf hd => ?_) x.cps.toList 0 false 0 _ s { s₃ with heap := h' } rfl (Nat.zero_le _) ⟨f3.frame (fun b o e => hk b o (f3.base b o e)) (hk _), ⟨_, hen⟩, hst⟩ lk4 hx (by simp)
  refine x_end_for (c₁ := .func [] env) ?_
  refine x_cons (x_if (wpAny_mono (piece_test (d := d) (b := false) hA' hE hc hf (tst_val (ev_name rfl) truth_bool)) (fun v s₆ h₆ => ?_) fun _ _ x => x))
  obtain ⟨rfl, kp⟩ := h₆
  refine x_nil (env := env) ?_
  exact x_end (r := .ok (.ret .none)) ⟨rfl, hd.kept kp⟩
end
end Mine.Internal

end PartB26
section PartB27
open PySem PySem.W PyProof.Rows
set_option Elab.async false
set_option maxRecDepth 100000
set_option linter.unusedVariables false
namespace Mine.Internal
section
variable {prog : Program} {w : World} {h₀ : Heap} {d : Nat} {sc : Scope} {σ : Sig} {mg mb : Str → Option Value}

theorem it_escaped {fn x : Str} {e : Expr} {xpos pos : Pos} {a : Addr} {fd : FuncData} (G : Glb h₀ mg mb) (he : Callee mg mb ("enumerate" : Str) (.type "enumerate")) (hf : Callee mg mb fn (.ref a)) (F : FnAt h₀ a fd (bodyOf (stAt 4))) (hsc : fd.scope = ESC)
    (hbind : ∀ v, bindArgs fd ⟨[v], []⟩ = pure [(("addr" : Str), v)]) (h : EvOK prog w h₀ (d + 3) sc σ e (.str x)) (hx : escEnd false x.cps.toList = false)
    (hk : sc.names.lookup fn = some .globalImplicit) (hd : (fn == ("__debug__" : Str)) = false) (hp : ∀ env, (starEach [e] env).all (fun x => !x.1) = true) (hn : ∀ env, ∃ t r, starEach [e] env = (false, t) :: r)
    (hs : ∀ env, starEach [e] env = (false, eval e env) :: starEach [] env) :
    IterOK prog w h₀ (d + 3) sc σ (.Call (.Name fn xpos) [e] [] pos) AnyT ((escOuts 0 false x.cps.toList).map outP) := fun A env K s R W hA hE hS => by
  refine call_by G hA hE hS hf F.kindOk (evs_cons h evs_nil hs) hk hd (hp env) (hn env) fun vs s' K' st rs => ?_
  cases rs with
  | cons r rs =>
  cases rs
  cases r with
  | str _ tx =>
  have hO : Ok h₀ K' s' := (hS.step st).ok
  obtain ⟨o, eo, hdo⟩ := F.obj
  refine wpAny_call (codeAny_mono (codeAny_call_generator (R := fun r s₃ => ∃ v, r = .ok (.ret v) ∧ wpAny (model prog w) A (pyIter v) (fun it s₂ => ∃ K₂ T fp gp, StepE s K s₂ K₂ ∧ T 0 fp K₂ s₂ ∧ (∀ a ∈ fp, s.heap.get? a = none) ∧ (∀ g ∈ gp, s.gens.size ≤ g) ∧ Walk prog w h₀ A it AnyT ((escOuts 0 false x.cps.toList).map outP) T gp) NoE s₃)
    (by have := hA.2.1; omega) (hO.keep _ _ eo) hdo F.co (by rw [hsc]; rfl) F.body (F.code.keeps hO.keep) ?_) fun r s₃ h₃ => ?_)
  rotate_left
  · obtain ⟨v, rfl, h₃⟩ := h₃; exact h₃
  rw [hbind]
  refine wpAny_pure ?_
  rw [F.clo]
  refine wpAny_newFunctionEnv_cells F.kind (fun y hy => .inl ?_) fun env' henv s₁ X => ?_
  · rw [List.mem_singleton.mp hy, hsc]; rfl
  have hlim : s'.heap.NoLimit := G.lim.keeps hO.keep
  have hE' : EnvOk ESC env' := by
    subst henv
    refine ⟨hsc, F.glob, F.bltn, by rw [← hsc]; exact F.kind, fun n hn => ?_⟩
    exact cellsFrom_some _ _ _ (.inl (by rw [hsc]; exact hn))
  have hc' : env'.cells = [] := by subst henv; show cellsFrom _ fd.scope.names [] = []; rw [hsc]; rfl
  have hkind : env'.kindOf "addr" = some .local := by subst henv; show fd.scope.names.lookup ("addr" : Str) = _; rw [hsc]; rfl
  obtain ⟨h₁, tk₁, e₁⟩ := X.toInCall.same
  have dead : ∀ b : Addr, s'.heap.objs.size ≤ b → s'.heap.get? b = none := fun b hb => by
    cases e : s'.heap.get? b with
    | none => rfl
    | some o => exact absurd (Heap.lt_size e) (Nat.not_lt.mpr hb)
  have dL := dead _ X.toInCall.fresh
  have keep0 : ∀ b o, s.heap.get? b = some o → s'.heap.get? b = some o := fun b o e => StepE.get st e
  have dead0 : ∀ b, s'.heap.get? b = none → s.heap.get? b = none := fun b hb => by
    cases e : s.heap.get? b with
    | none => rfl
    | some o => have := keep0 b o e; rw [hb] at this; cases this
  have baseL : h₀.get? env'.locals = none := by
    cases e : h₀.get? env'.locals with
    | none => rfl
    | some o => have := hO.keep _ _ e; rw [dL] at this; cases this
  have fr1 : FrameAt h₀ env' [("addr", .val (.str x))] s₁.heap := by
    refine ⟨fun b o e => X.toInCall.keep b o (hO.keep b o e), baseL, _, X.toInCall.ns, fun y sl ey => ?_⟩
    rw [List.lookup_cons, beq_str] at ey
    by_cases hy : y = "addr"
    · subst hy
      simp at ey
      refine ⟨hkind, .str x tx, .str x, ?_, ey.symm, fun _ _ => .str _ _⟩
      rw [bindL_lookup hkind]; rfl
    · simp [hy] at ey
  refine ⟨hlim.keeps X.toInCall.keep, .ref s₁.heap.objs.size, rfl, ?_⟩
  generalize hs₃ : ({ s₁ with gens := s₁.gens.push (.fresh (.func (bodyOf (stAt 4)) env')), toks := s₁.toks + 1 + 1, heap := s₁.heap.push { cls := .type "generator", data := .fields #[.int s₁.gens.size 0, .str fd.name s₁.toks, .str fd.qualname (s₁.toks + 1)] } } : Shared) = s₃
  have hgen : s₃.heap.IsGen s₁.heap.objs.size s₁.gens.size := by subst hs₃; exact ⟨_, _, _, Heap.get?_push_size _ rfl, rfl, rfl, rfl⟩
  have keep1 : ∀ b o, s₁.heap.get? b = some o → s₃.heap.get? b = some o := fun b o e => by subst hs₃; exact Heap.get?_push_of_some _ e
  have hgs : s₃.gens[s₁.gens.size]? = some (.fresh (.func (bodyOf (stAt 4)) env')) := by subst hs₃; simp
  have eg : s₁.gens = s'.gens := by rw [e₁]
  refine wpAny_pyIter_gen hgen ?_
  have fr3 := fr1.frame (fun b o e => keep1 b o (fr1.base b o e)) (keep1 _)
  have st3 : StepE s' K' s₃ K' := by
    refine ⟨fun b _ o e => keep1 b o (X.toInCall.keep b o e), fun b o e => keep1 b o (X.toInCall.keep b o (hO.sub b o e)), fun _ _ e => e, fun _ _ => rfl, ⟨fun hB => ?_, ?_, fun g hg _ => ?_⟩, ?_⟩
    · subst hs₃
      intro y hy
      rcases Array.mem_push.mp hy with h' | rfl
      · exact hB y (by rw [← eg]; exact h')
      · rfl
    · subst hs₃; show s'.gens.size ≤ (s₁.gens.push _).size; rw [Array.size_push, eg]; exact Nat.le_succ _
    · subst hs₃; show (s₁.gens.push _)[g]? = _; rw [eg, Array.getElem?_push, if_neg (Nat.ne_of_lt hg)]
    · subst hs₃; show s₁.os = s'.os; rw [e₁]
  have hLI : env'.locals ≠ s₁.heap.objs.size := by
    obtain ⟨_, ⟨_, _, _, eL, _⟩, _⟩ := fr1.ns
    exact Nat.ne_of_lt (Heap.lt_size eL)
  have frame : ∀ h h', FrameAt h₀ env' [("addr", .val (.str x))] h → (∀ b o, h₀.get? b = some o → h'.get? b = some o) → (∀ b ∈ [env'.locals], ∀ o, h.get? b = some o → h'.get? b = some o) → FrameAt h₀ env' [("addr", .val (.str x))] h' := fun h h' y h1 h2 => y.frame h1 (h2 _ (.head _))
  have nI : s'.heap.get? s₁.heap.objs.size = none := by
    cases e : s'.heap.get? s₁.heap.objs.size with
    | none => rfl
    | some o => have := X.toInCall.keep _ o e; rw [size_none] at this; cases this
  refine ⟨K', _, [s₁.heap.objs.size, env'.locals], [s₁.gens.size], st.trans st3, ?_, fun b hb => ?_, fun g hg => ?_, gen_walk (X := gpts h₀) (L := escOuts 0 false x.cps.toList) hA G.lim (fun j h h' y h1 h2 => j.fr h h' y h1 h2)⟩
  · refine ⟨_, ⟨[env'.locals], fun h => FrameAt h₀ env' [("addr", .val (.str x))] h, frame⟩, hgen, hgs, fr3, rfl, fun h => hLI (List.mem_singleton.mp h).symm, fun b hb => ?_, ?_⟩
    · rcases List.mem_cons.mp hb with rfl | hb
      · exact ⟨knone hO.sub nI, by obtain ⟨o, _, _, e, _⟩ := hgen; exact alive_of e⟩
      · rw [List.mem_singleton.mp hb]; exact ⟨knone hO.sub dL, fr3.live⟩
    · exact esc_fresh (d := d) G he (hA.in1 |>.le (Nat.le_succ _)) hE' hc' hx frame
  · rcases List.mem_cons.mp hb with rfl | hb
    · exact dead0 _ nI
    · rw [List.mem_singleton.mp hb]; exact dead0 _ dL
  · rw [List.mem_singleton.mp hg, eg]
    exact st.gens.2.1
end
end Mine.Internal

end PartB27
section PartB28
open PySem PySem.W PyProof.Rows
set_option Elab.async false
set_option maxRecDepth 100000
set_option linter.unusedVariables false
namespace Mine.Internal

/- facts about map -/
theorem slot_map_iter : PySem.Slot "map" "__iter__" "map.__iter__" :=
  .of (owner := "map") (n := "__iter__") (by rw [typeLookup_type, builtinLookup_eq_fast]; kernel_rfl) (by decide +kernel) (by decide +kernel) (by decide +kernel)
    (by first | exact .inl (by decide +kernel) | exact .inr (by decide +kernel)) (by rw [isSubtype_type]; kernel_rfl)
theorem slot_map_next : PySem.Slot "map" "__next__" "map.__next__" :=
  .of (owner := "map") (n := "__next__") (by rw [typeLookup_type, builtinLookup_eq_fast]; kernel_rfl) (by decide +kernel) (by decide +kernel) (by decide +kernel)
    (by first | exact .inl (by decide +kernel) | exact .inr (by decide +kernel)) (by rw [isSubtype_type]; kernel_rfl)
theorem slot_map_init : PySem.Slot "map" "__init__" "object.__init__" :=
  .of (owner := "object") (n := "__init__") (by rw [typeLookup_type, builtinLookup_eq_fast]; kernel_rfl) (by decide +kernel) (by decide +kernel) (by decide +kernel)
    (by first | exact .inl (by decide +kernel) | exact .inr (by decide +kernel)) (by rw [isSubtype_type]; kernel_rfl)
theorem owner_map : Manifest.owners.lookup (String.ofList ['p', 'a', 'm'].reverse) = some Manifest.sig_map := by kernel_rfl
theorem args_map_next (a : Value) : argsOk "map.__next__" ⟨[a], []⟩ := by
  unfold argsOk; rw [signature?_of (id := "map.__next__") (n := ['_', '_', 't', 'x', 'e', 'n', '_', '_']) (o := ['p', 'a', 'm']) (by kernel_rfl) owner_map]; kernel_rfl
theorem args_map_iter (a : Value) : argsOk "map.__iter__" ⟨[a], []⟩ := by
  unfold argsOk; rw [signature?_of (id := "map.__iter__") (n := ['_', '_', 'r', 'e', 't', 'i', '_', '_']) (o := ['p', 'a', 'm']) (by kernel_rfl) owner_map]; kernel_rfl
theorem entry_map_next : entryFor table "map.__next__" = some Builtin.«map.__next__» := entryFor_of_tree (by kernel_rfl)
theorem entry_map_new : entryFor table "map.__new__" = some Builtin.«map.__new__» := entryFor_of_tree (by kernel_rfl)
theorem entry_map_iter : entryFor table "map.__iter__" = some Builtin.«dict_keyiterator.__iter__» :=
  entryFor_alias (id' := "dict_keyiterator.__iter__") (by rw [← table_eq_fast, table_eq_tree]; kernel_rfl) (by first | rfl | decide +kernel | (unfold String.splitOn; simp +decide [String.splitOnAux])) (by rw [Fast.canonicalY_eq]; kernel_rfl) (by rw [← table_eq_fast, table_eq_tree]; kernel_rfl)
theorem mro_map : mroOf (.type "map") = pure [.type "map", .type "object"] := by rw [mroOf_type]; kernel_rfl
theorem lookup_map_new : typeLookup (.type "map") "__new__" = pure (some (.builtin "map.__new__")) := by rw [typeLookup_type, builtinLookup_eq_fast]; kernel_rfl
theorem called_map : TypeCalled "map" "map.__new__" "object.__init__" :=
  ⟨by decide +kernel, by decide +kernel, ⟨_, _, mro_map⟩, madeBy_type mro_map lookup_map_new (by decide +kernel), by decide +kernel, by rw [isSubtype_type]; kernel_rfl, slot_map_init⟩
theorem typeCall_map (a b : Value) : checkTypeCall "map" ⟨[a, b], []⟩ = pure () := by rw [Fast.te11612656972197000677]; kernel_rfl
theorem newCall_map (a b : Value) : checkBuiltinCall "map.__new__" ⟨[.type "map", a, b], []⟩ = pure () := by rw [Fast.te10254737850608025244]; kernel_rfl
theorem sub_map : isSubtype (.type "map") (.type "map") = pure true := by rw [isSubtype_type]; kernel_rfl
theorem map_no_len : typeLookup (.type "map") "__len__" = pure none := by rw [typeLookup_type, builtinLookup_eq_fast]; kernel_rfl
theorem map_no_hint : typeLookup (.type "map") "__length_hint__" = pure none := by rw [typeLookup_type, builtinLookup_eq_fast]; kernel_rfl

noncomputable abbrev iterObj (l : Addr) : Obj := { cls := .type "list_iterator", data := .fields #[.ref l, .int 0 0] }
noncomputable abbrev mapObj (T : Addr) (f : Value) : Obj := { cls := .type "map", data := .fields #[.ref T, f] }

theorem meets_map_new (l : Addr) (items : Array Value) (f : Value) :
    Meets (Builtin.«map.__new__» ⟨[.type "map", f, .ref l], []⟩) (fun _ R s => s.heap.IsList l items ∧
      R (.ok (.ret (.ref ((s.heap.push (iterObj l)).push (tupObj #[.ref s.heap.objs.size] 0)).objs.size)))
        { s with heap := ((s.heap.push (iterObj l)).push (tupObj #[.ref s.heap.objs.size] 0)).push (mapObj (s.heap.push (iterObj l)).objs.size f) }) :=
  .of_wp fun prog w A R s h => by
    obtain ⟨hp, g, d, tk, os⟩ := s; obtain ⟨hL, h⟩ := h
    have hsub := sub_map
    wp_walk using wpAny_pyIter_list hL
    exact ⟨_, rfl, h⟩

structure MapSt (m T I l : Addr) (f : Value) (items : Array Value) (i : Nat) (h : Heap) : Prop where
  m : h.get? m = some (mapObj T f)
  t : h.get? T = some (tupObj #[.ref I] 0)
  it : h.IsListIter I l i
  l : h.IsList l items
theorem MapSt.fr {m T I l : Addr} {f : Value} {items : Array Value} {i : Nat} {h h' : Heap} (x : MapSt m T I l f items i h) (hk : ∀ b ∈ [m, T, I, l], ∀ o, h.get? b = some o → h'.get? b = some o) : MapSt m T I l f items i h' :=
  ⟨hk _ (.head _) _ x.m, hk _ (.tail _ (.head _)) _ x.t, x.it.at fun o e => hk _ (.tail _ (.tail _ (.head _))) o e, x.l.at fun o e => hk _ (.tail _ (.tail _ (.tail _ (.head _)))) o e⟩

section
variable {prog : Program} {w : World} {A : Around} {E : Value → Shared → Prop} {s : Shared} {m T I l : Addr} {items : Array Value}

theorem call_map {f : Value} {Q : Value → Shared → Prop} (hL : s.heap.IsList l items)
    (h : ∀ h' m T I, MapSt m T I l f items 0 h' → (∀ b ∈ [m, T, I], s.heap.get? b = none) → m ≠ I → T ≠ I → l ≠ I → (∀ b ∈ [m, T, I, l], (h'.get? b).isSome = true) → (∀ b o, s.heap.get? b = some o → h'.get? b = some o) → Q (.ref m) { s with heap := h' }) :
    wpAny (model prog w) A (call (.type "map") [f, .ref l]) Q E s := by
  refine callType_new called_map (by decide) (typeCall_map _ _) (newCall_map _ _) (fun obj => F.args_object_init_3 obj _ _) entry_map_new (meets_map_new l items f) ⟨hL, ?_⟩
  have e1 : (s.heap.push (iterObj l)).objs.size = s.heap.objs.size + 1 := Heap.size_push ..
  have e2 : ((s.heap.push (iterObj l)).push (tupObj #[.ref s.heap.objs.size] 0)).objs.size = s.heap.objs.size + 2 := by rw [Heap.size_push, e1]
  have keep : ∀ b o, s.heap.get? b = some o → (((s.heap.push (iterObj l)).push (tupObj #[.ref s.heap.objs.size] 0)).push (mapObj (s.heap.push (iterObj l)).objs.size f)).get? b = some o :=
    fun b o e => Heap.get?_push_of_some _ (Heap.get?_push_of_some _ (Heap.get?_push_of_some _ e))
  have gm : (((s.heap.push (iterObj l)).push (tupObj #[.ref s.heap.objs.size] 0)).push (mapObj (s.heap.push (iterObj l)).objs.size f)).get? ((s.heap.push (iterObj l)).push (tupObj #[.ref s.heap.objs.size] 0)).objs.size = some _ := Heap.get?_push_size _ rfl
  have gt : (((s.heap.push (iterObj l)).push (tupObj #[.ref s.heap.objs.size] 0)).push (mapObj (s.heap.push (iterObj l)).objs.size f)).get? (s.heap.push (iterObj l)).objs.size = some _ := Heap.get?_push_of_some _ (Heap.get?_push_size _ rfl)
  have gi : (((s.heap.push (iterObj l)).push (tupObj #[.ref s.heap.objs.size] 0)).push (mapObj (s.heap.push (iterObj l)).objs.size f)).get? s.heap.objs.size = some _ := Heap.get?_push_of_some _ (Heap.get?_push_of_some _ (Heap.get?_push_size _ rfl))
  have dead : ∀ b, s.heap.objs.size ≤ b → s.heap.get? b = none := fun b hb => by
    cases e : s.heap.get? b with
    | none => rfl
    | some o => exact absurd (Heap.lt_size e) (Nat.not_lt.mpr hb)
  have hlt : l < s.heap.objs.size := by obtain ⟨o, e, _⟩ := hL; exact Heap.lt_size e
  refine ⟨⟨_, gm, rfl⟩, ?_⟩
  refine h _ _ _ s.heap.objs.size ⟨gm, gt, ⟨_, gi, rfl, rfl⟩, hL.at fun o e => keep _ o e⟩ (fun b hb => ?_) ?_ ?_ (Nat.ne_of_lt hlt) (fun b hb => ?_) keep
  · rcases List.mem_cons.mp hb with rfl | hb
    · rw [e2]; exact dead _ (by omega)
    · rcases List.mem_cons.mp hb with rfl | hb
      · rw [e1]; exact dead _ (by omega)
      · rw [List.mem_singleton.mp hb]; exact dead _ (Nat.le_refl _)
  · rw [e2]; exact Nat.ne_of_gt (by omega)
  · rw [e1]; exact Nat.ne_of_gt (by omega)
  · rcases List.mem_cons.mp hb with rfl | hb
    · exact alive_of gm
    · rcases List.mem_cons.mp hb with rfl | hb
      · exact alive_of gt
      · rcases List.mem_cons.mp hb with rfl | hb
        · exact alive_of gi
        · rw [List.mem_singleton.mp hb]; obtain ⟨o, e, _⟩ := hL; exact alive_of (keep _ _ e)

theorem map_next_item {i : Nat} {y : Str} {u : Tok} {Q : Option Value → Shared → Prop} (x : MapSt m T I l (.builtin "str.capitalize") items i s.heap) (hmI : m ≠ I) (hTI : T ≠ I) (hlI : l ≠ I) (hy : items[i]? = some (.str y u)) (hfit : y.length ≤ 5592405)
    (hQ : ∀ h' t' tk, MapSt m T I l (.builtin "str.capitalize") items (i + 1) h' → Heap.SameBut I s.heap h' → Q (some (.str (Txt.capitalize y) t')) { s with heap := h', toks := tk }) : wpAny (model prog w) A (pyNext (.ref m)) Q E s := by
  have hT : s.TypeIs (.ref m) "map" := ⟨_, x.m, rfl⟩
  unfold pyNext
  refine wpAny_bind (wpAny_attempt (wpAny_callSpecial?_slot (name := Str.ofString "__next__") hT slot_map_next
    (wpAny_call_entry slot_map_next hT entry_map_next ?_ (args_map_next _))))
  show wpAny _ _ (field (.ref m) 0 >>= _) _ _ _
  refine wpAny_bind (wpAny_field x.m rfl (x := .ref T) rfl ?_)
  refine wpAny_bind (wpAny_seqItems x.t rfl ?_)
  simp only [List.forIn_toArray, List.forIn_cons, List.forIn_nil]
  refine wpAny_bind (wpAny_bind (wpAny_bind (wpAny_holding ?_)))
  refine wpAny_nextOf_list_item x.it x.l hy fun h' hi hs => ?_
  have x' : MapSt m T I l (.builtin "str.capitalize") items (i + 1) h' := ⟨hs.extBut _ _ hmI x.m, hs.extBut _ _ hTI x.t, hi, x.l.extBut hs.extBut hlI⟩
  refine wpAny_pure (wpAny_pure ?_)
  refine wpAny_bind (wpAny_field x'.m rfl (x := .builtin "str.capitalize") rfl ?_)
  refine wpAny_bind (wpAny_holding (SC.capitalize (fit_capitalized hfit) fun t' k => ?_))
  refine wpAny_bind (wpAny_letGo (wpAny_pure ⟨_, rfl, wpAny_pure ?_⟩))
  exact hQ h' t' k x' hs

theorem map_next_end {i : Nat} {f : Value} {Q : Option Value → Shared → Prop} (hh : A.handled = none) (x : MapSt m T I l f items i s.heap) (hy : items[i]? = none)
    (hQ : ∀ h', Heap.ExtBut I s.heap h' → Q none { s with heap := h' }) : wpAny (model prog w) A (pyNext (.ref m)) Q E s := by
  have hT : s.TypeIs (.ref m) "map" := ⟨_, x.m, rfl⟩
  unfold pyNext
  refine wpAny_bind (wpAny_attempt (wpAny_callSpecial?_slot (name := Str.ofString "__next__") hT slot_map_next
    (wpAny_call_entry slot_map_next hT entry_map_next ?_ (args_map_next _))))
  show wpAny _ _ (field (.ref m) 0 >>= _) _ _ _
  refine wpAny_bind (wpAny_field x.m rfl (x := .ref T) rfl ?_)
  refine wpAny_bind (wpAny_seqItems x.t rfl ?_)
  simp only [List.forIn_toArray, List.forIn_cons, List.forIn_nil]
  refine wpAny_bind (wpAny_bind (wpAny_bind (wpAny_holding ?_)))
  refine wpAny_nextOf_list_end (A := A.in1) hh x.it x.l hy fun h' e hs he => ?_
  obtain ⟨o, ho, hc⟩ := he
  refine wpAny_bind (wpAny_isInstance (T := "StopIteration") (b := true) ⟨o, ho, hc⟩ isSubtype_stop ?_)
  exact wpAny_pure (hQ h' hs)
theorem map_iter {i : Nat} {f : Value} {Q : Value → Shared → Prop} (x : MapSt m T I l f items i s.heap) (h : Q (.ref m) s) : wpAny (model prog w) A (pyIter (.ref m)) Q E s := by
  have hT : s.TypeIs (.ref m) "map" := ⟨_, x.m, rfl⟩
  refine wpAny_pyIter_slot hT slot_map_iter (wpAny_call_entry slot_map_iter hT entry_map_iter ?_ (args_map_iter _))
  show wpAny _ _ (ret (.ref m)) _ _ s
  exact wpAny_pure ⟨_, rfl, "map", _, hT, slot_map_next.lookup, h⟩
end
end Mine.Internal

end PartB28
section PartB29
open PySem PySem.W PyProof.Rows
set_option Elab.async false
set_option maxRecDepth 100000
set_option linter.unusedVariables false
namespace Mine.Internal
section
variable {prog : Program} {w : World} {A : Around} {E : Value → Shared → Prop} {s : Shared} {m T I l : Addr}

noncomputable def Caps (ys : List (Str × Tok)) (i : Nat) (acc : Array Value) : Prop := ∃ zs : List (Str × Tok), acc.toList = strValues zs ∧ zs.map (·.1) = ((ys.map (·.1)).take i).map Txt.capitalize

theorem strValues_get {ys : List (Str × Tok)} {i : Nat} (h : i < ys.length) : (strValues ys).toArray[i]? = some (.str ys[i].1 ys[i].2) := by
  simp [strValues, List.getElem?_eq_getElem h]
theorem Caps.push {ys : List (Str × Tok)} {i : Nat} {acc : Array Value} {t' : Tok} (h : Caps ys i acc) (hi : i < ys.length) : Caps ys (i + 1) (acc.push (.str (Txt.capitalize ys[i].1) t')) := by
  obtain ⟨zs, h1, h2⟩ := h
  refine ⟨zs ++ [(Txt.capitalize ys[i].1, t')], by simp [h1, strValues], ?_⟩
  rw [List.map_append, h2, List.take_succ, List.map_append]
  simp [List.getElem?_eq_getElem hi]

theorem map_loop {R : Result → Shared → Prop} {ys : List (Str × Tok)} (hh : A.handled = none) (hmI : m ≠ I) (hTI : T ≠ I) (hlI : l ≠ I) (hfit : ∀ p ∈ ys, p.1.length ≤ 5592405) (hn : ys.length ≤ sizeLine) (S : Addr) (hS : S ∉ [m, T, I, l]) (res : Value) :
    ∀ (k i : Nat) (s : Shared) (acc : Array Value) (c : Nat), ys.length - i = k → i ≤ ys.length → MapSt m T I l (.builtin "str.capitalize") (strValues ys).toArray i s.heap → s.heap.get? S = some { cls := .type "list", dict := none, data := .seq acc c, slots := #[] } → acc.size = i → Caps ys i acc →
    (∀ h' tk acc' c', (∀ b o, b ≠ S → b ≠ I → s.heap.get? b = some o → h'.get? b = some o) → h'.get? S = some { cls := .type "list", dict := none, data := .seq acc' c', slots := #[] } → Caps ys ys.length acc' → R (.ok (.ret res)) { s with heap := h', toks := tk }) →
    codeAny (model prog w) A (.builtin "list.extend.loop" ⟨[.ref S, .ref m, res], []⟩) R s := by
  have hSI : S ≠ I := fun h => hS (h ▸ .tail _ (.tail _ (.head _)))
  intro k
  induction k with
  | zero =>
    intro i s acc c hk hi hst hSl hsz hacc hR
    have hin : i = ys.length := by omega
    subst hin
    refine codeAny_builtin PySem.F.entry_extend_loop ?_
    rw [Around.under_plainId PySem.F.plain_extend_loop _]
    show wpAny _ A.in1 (pyNext (.ref m) >>= _) _ _ s
    refine wpAny_bind (map_next_end (A := A.in1) hh hst (by simp [strValues]) fun h' hx => ?_)
    exact wpAny_pure (hR h' s.toks acc c (fun b o _ hb e => hx b o hb e) (hx S _ hSI hSl) hacc)
  | succ k ih =>
    intro i s acc c hk hi hst hSl hsz hacc hR
    have hlt : i < ys.length := by omega
    refine codeAny_builtin PySem.F.entry_extend_loop ?_
    rw [Around.under_plainId PySem.F.plain_extend_loop _]
    show wpAny _ A.in1 (pyNext (.ref m) >>= _) _ _ s
    refine wpAny_bind (map_next_item hst hmI hTI hlI (strValues_get hlt) (hfit _ (List.getElem_mem hlt)) fun h' t' tk hst' hs => ?_)
    have hSl' := hs.extBut S _ hSI hSl
    show wpAny _ A.in1 (updateSeq S (·.push _) >>= _) _ _ _
    refine wpAny_bind (wpAny_updateSeq hSl' rfl (wpAny_pure ⟨plainId_quiet PySem.F.plain_extend_loop _, ih (i + 1) _ (acc.push _) _ (by omega) hlt (hst'.fr fun b hb o e => ?_) (Heap.get?_update_self _ hSl' rfl) (by rw [Array.size_push, hsz]) (hacc.push hlt) fun h₂ tk₂ acc' c' hk₂ hS₂ hc₂ => ?_⟩)
      (by rw [hsz]; omega) (by show (acc.push _).size ≤ sizeLine + 1; rw [Array.size_push, hsz]; omega))
    · exact (Heap.get?_update_other _ _ (fun h : S = b => hS (by rw [h]; exact hb))).trans e
    · refine hR h₂ tk₂ acc' c' (fun b o h1 h2 e => hk₂ b o h1 h2 ?_) hS₂ hc₂
      exact (Heap.get?_update_other _ _ (Ne.symm h1)).trans (hs.extBut b o h2 e)

set_option maxHeartbeats 4000000 in
theorem collect_map {ys : List (Str × Tok)} {Q : List Value → Shared → Prop} (hh : A.handled = none) (hmI : m ≠ I) (hTI : T ≠ I) (hlI : l ≠ I) (hfit : ∀ p ∈ ys, p.1.length ≤ 5592405) (hn : ys.length ≤ sizeLine) (hst : MapSt m T I l (.builtin "str.capitalize") (strValues ys).toArray 0 s.heap)
    (hlive : ∀ b ∈ [m, T, I, l], (s.heap.get? b).isSome = true)
    (hQ : ∀ h' tk zs, (∀ b o, b ≠ I → s.heap.get? b = some o → h'.get? b = some o) → zs.map (·.1) = (ys.map (·.1)).map Txt.capitalize → Q (strValues zs) { s with heap := h', toks := tk }) : wpAny (model prog w) A (collect (.ref m)) Q E s := by
  have hSf : s.heap.objs.size ∉ [m, T, I, l] := fun hm => by
    obtain ⟨o, e⟩ := Option.isSome_iff_exists.mp (hlive _ hm)
    exact Nat.lt_irrefl _ (Heap.lt_size e)
  have hSm : s.heap.objs.size ≠ m := fun e => hSf (e ▸ .head _)
  have hSI : s.heap.objs.size ≠ I := fun e => hSf (e ▸ .tail _ (.tail _ (.head _)))
  unfold collect
  refine wpAny_bind (wpAny_runValue (codeAny_builtin PySem.F.entry_proto_collect ?_))
  rw [Around.under_plainId PySem.F.plain_proto_collect _]
  show wpAny _ A.in1 (newList [] >>= fun l => again (.builtin "list.__iadd__" ⟨[l, .ref m], []⟩)) _ _ s
  refine wpAny_bind (wpAny_newObj_type ?_)
  refine wpAny_pure ⟨plainId_quiet PySem.F.plain_list_iadd _, codeAny_builtin PySem.F.entry_list_iadd ?_⟩
  rw [Around.under_plainId PySem.F.plain_list_iadd _]
  have hst₁ : MapSt m T I l (.builtin "str.capitalize") (strValues ys).toArray 0 (s.heap.push { cls := .type "list", data := .seq ([] : List Value).toArray }) := hst.fr fun b _ o e => Heap.get?_push_of_some _ e
  have hT : Shared.TypeIs { s with heap := s.heap.push { cls := .type "list", data := .seq ([] : List Value).toArray } } (.ref m) "map" := ⟨_, hst₁.m, rfl⟩
  show wpAny _ A.in1 (Builtin.List.listExtendWith (.ref s.heap.objs.size) (.ref m) (.ref s.heap.objs.size)) _ _ _
  unfold Builtin.List.listExtendWith
  refine wpAny_bind (wpAny_typeOf hT ?_)
  have h1 : Builtin.List.listSameRef (.ref s.heap.objs.size) (.ref m) = false := by simp [Builtin.List.listSameRef, hSm]
  have h2 : (Value.type "map" == Value.type "list") = false := by decide
  have h3 : (Value.type "map" == Value.type "tuple") = false := by decide
  simp only [h1, h2, h3, Bool.or_false, Bool.false_eq_true, if_false]
  refine wpAny_bind (map_iter hst₁ ?_)
  refine wpAny_bind (wpAny_holding ?_)
  unfold Builtin.List.listLengthHint
  refine wpAny_bind (wpAny_specialOf hT map_no_len ?_)
  show wpAny _ A.in1 (specialOf (Value.ref m) (Str.ofString "__length_hint__") >>= _) _ _ _
  refine wpAny_bind (wpAny_specialOf hT map_no_hint ?_)
  refine wpAny_pure ?_
  show wpAny _ A.in1 (rule "list.extend.makes-room" >>= fun _ => Builtin.List.listTouch (.ref s.heap.objs.size) >>= fun _ =>
    again (.builtin "list.extend.loop" ⟨[.ref s.heap.objs.size, .ref m, .ref s.heap.objs.size], []⟩)) _ _ _
  refine wpAny_bind (wpAny_rule ?_)
  have hS₁ : (s.heap.push { cls := .type "list", data := .seq ([] : List Value).toArray }).get? s.heap.objs.size = some { cls := .type "list", data := .seq ([] : List Value).toArray } := Heap.get?_push_size _ rfl
  refine wpAny_bind ?_
  show wpAny _ A.in1 (updateSeq s.heap.objs.size (·.push .none) >>= fun _ => updateSeq s.heap.objs.size (·.pop)) _ _ _
  refine wpAny_bind (wpAny_updateSeq hS₁ rfl ?_)
  have hS₂ := Heap.get?_update_self (Obj.mapSeq (·.push Value.none)) hS₁ rfl
  refine wpAny_updateSeq hS₂ rfl ?_
  have hS₃ := Heap.get?_update_self (Obj.mapSeq (·.pop)) hS₂ rfl
  have oth : ∀ b o, b ≠ s.heap.objs.size → (s.heap.push { cls := .type "list", data := .seq ([] : List Value).toArray }).get? b = some o →
      (((s.heap.push { cls := .type "list", data := .seq ([] : List Value).toArray }).update s.heap.objs.size (Obj.mapSeq (·.push Value.none))).update s.heap.objs.size (Obj.mapSeq (·.pop))).get? b = some o :=
    fun b o hb e => (Heap.get?_update_other _ _ (Ne.symm hb)).trans ((Heap.get?_update_other _ _ (Ne.symm hb)).trans e)
  refine wpAny_pure ⟨plainId_quiet PySem.F.plain_extend_loop _, map_loop (A := A) hh hmI hTI hlI hfit hn _ hSf _ ys.length 0 _ _ _ rfl (Nat.zero_le _)
    (hst₁.fr fun b hb o e => oth b o (fun h => hSf (h ▸ hb)) e) hS₃ rfl ⟨[], rfl, rfl⟩ fun h' tk acc' c' hk hS' hacc => ?_⟩
  show wpAny _ A (load s.heap.objs.size >>= _) _ _ _
  refine wpAny_bind (wpAny_load hS' ?_)
  obtain ⟨zs, e1, e2⟩ := hacc
  have := hQ h' tk zs (fun b o hb e => ?_) (by rw [e2, List.take_of_length_le (by simp)])
  · rw [← e1] at this; exact wpAny_pure this
  · by_cases hbS : b = s.heap.objs.size
    · subst hbS; rw [size_none] at e; cases e
    · exact hk b o hbS hb (oth b o hbS (Heap.get?_push_of_some _ e))

open PySem.Builtin PySem.Builtin.Str in
theorem join_map {x : Str} {t : Tok} {ys : List (Str × Tok)} {Q : Value → Shared → Prop} (hh : A.handled = none) (hmI : m ≠ I) (hTI : T ≠ I) (hlI : l ≠ I) (hfit : ∀ p ∈ ys, p.1.length ≤ 5592405) (hn : ys.length ≤ sizeLine) (hst : MapSt m T I l (.builtin "str.capitalize") (strValues ys).toArray 0 s.heap)
    (hlive : ∀ b ∈ [m, T, I, l], (s.heap.get? b).isSome = true) (hok : JoinOk x ((ys.map (·.1)).map Txt.capitalize) = true)
    (hQ : ∀ h' tk t', (∀ b o, b ≠ I → s.heap.get? b = some o → h'.get? b = some o) → Q (.str (Txt.join x ((ys.map (·.1)).map Txt.capitalize)) t') { s with heap := h', toks := tk }) :
    wpAny (model prog w) A (call (.builtin "str.join") [.str x t, .ref m]) Q E s := by
  refine wpAny_call (codeAny_call_builtin PySem.F.slot_str_join.plain PySem.F.entry_str_join (PySem.F.slot_str_join.check _ _ _ _ _ _ _ _ (typeIs_str _ _ _) (PySem.F.args_str_join_2 _ _) ?_))
  rw [join_tree_other]
  have hT : s.TypeIs (.ref m) "map" := ⟨_, hst.m, rfl⟩
  refine wpAny_bind (wpAny_typeOf hT ?_)
  show wpAny _ A.in1 ((pyIter (.ref m)).tryCatch _ >>= fun it => collect it >>= fun items => joinTail x items) _ _ s
  refine wpAny_bind (wpAny_tryCatch (map_iter hst ?_))
  refine wpAny_bind (collect_map (A := A.in1) hh hmI hTI hlI hfit hn hst hlive fun h' tk zs hk hz => ?_)
  rw [← hz] at hok hQ
  unfold JoinOk at hok
  rw [Bool.not_eq_true'] at hok
  have g : PySem.Gives (joinTail x (strValues zs)) (joinMade x zs) := by
    have g0 := gives_joinTail x zs hok
    cases zs with
    | nil => exact g0
    | cons p r => cases r with
      | nil => exact g0
      | cons q r' => exact g0
  exact g prog w A (wants Q E) _ (post_join zs ⟨joinFit_length hok, fun t' k => hQ h' k t' hk⟩)
end
end Mine.Internal

end PartB29
section PartB30
open PySem PySem.W PyProof.Rows
set_option Elab.async false
set_option maxRecDepth 100000
set_option linter.unusedVariables false
namespace Mine.Internal
section
variable {prog : Program} {w : World} {h₀ : Heap} {d : Nat} {sc : Scope} {σ : Sig} {W : Str → Bool} {mg mb : Str → Option Value} {F : Frag}

theorem str_capitalize_attr {A : Around} {s : Shared} {E : Value → Shared → Prop} {Q : Value → Shared → Prop} (X : F.In s.heap) (h : Q (.builtin "str.capitalize") { s with toks := s.toks + 1 }) : wpAny (model prog w) A (getAttr (.type "str") "capitalize" true) Q E s := by
  have ho : opaqueClassAbove (.type "str") = pure none := by kernel_rfl
  have ht : typeOf (.type "str") = pure (.type "type") := by kernel_rfl
  refine cls_open X (Looks.of_pure ho) (Looks.of_pure ht) type_tga (looks_hook X (r := none) (by rfl)) (by rfl) (show findCls F (.type "str") (.type "type") "capitalize" = some (.val (.builtin "str.capitalize")) by kernel_rfl) ?_
  exact wpAny_pure (handed_on rfl h)

theorem ev_capjoin {o e : Expr} {apos pos mpos cpos spos tpos : Pos} {x y : Str} {ys : List Str} (G : Glb h₀ mg mb) (X : F.In h₀) (hm : Callee mg mb ("map" : Str) (.type "map")) (hs : Callee mg mb ("str" : Str) (.type "str"))
    (ho : EvOK prog w h₀ d sc σ o (.str x)) (he : EvOK prog w h₀ d sc σ e (.lst (ys.map .str))) (hok : JoinOk x (ys.map Txt.capitalize) = true) (hfit : ∀ p ∈ ys, p.length ≤ 5592405) (hn : ys.length ≤ sizeLine)
    (hxm : sc.names.lookup ("map" : Str) = some .globalImplicit) (hxs : sc.names.lookup ("str" : Str) = some .globalImplicit)
    (hbase : ∀ env, attributeBase o "join" env (eval o env) = eval o env) (hline : (apos.endLine == pos.line) = true)
    (hse : ∀ env, starEach [e] env = [(false, eval e env)]) :
    EvOK prog w h₀ d sc σ (.Call (.Attribute o "join" apos) [.Call (.Name ("map" : Str) mpos) [.Attribute (.Name ("str" : Str) spos) "capitalize" tpos, e] [] cpos] [] pos) (.str (Txt.join x (ys.map Txt.capitalize))) := by
  refine ev_meth ho (fun A env K s R W v Q hA hE hS rv hQ => ?_) hbase (fun env => rfl) hline
  cases rv with
  | str _ t =>
  refine ⟨"str", _, PySem.F.plainAttrs_str, PySem.F.slot_str_join, PySem.F.type_str_join, typeIs_str _ _ _, (fun _ e => nomatch e), ?_⟩
  refine Calls.callWith_builtin rfl (Calls.evalArgs_plain (Calls.spliced_cons ?_))
  refine wpAny_Call_NameR (callee_name G hE hS hm hxm (by decide) ?_)
  show wpAny _ _ (callWith cpos (.type "map") [] (backTo cpos ((false, eval (.Attribute (.Name ("str" : Str) spos) "capitalize" tpos) env) :: starEach [e] env)) []) _ _ _
  rw [hse]
  refine PyProof.Rows.callWith_type rfl (Calls.evalArgs_plain (Calls.spliced_cons (Attribute_any_ (callee_name G hE hS hs hxs (by decide) (str_capitalize_attr (X.keeps hS.base) ?_)) (by with_unfolding_all rfl))))
  have hS1 : St w.params h₀ R W σ env K { s with toks := s.toks + 1 } := hS.step (StepE.same (tk := s.toks + 1) hS.sub fun _ _ e => e)
  refine Calls.spliced_cons ((he A env K _ R W hA hE hS1).mono fun v s₁ K₁ st₁ rv => Calls.spliced_nil ?_)
  cases rv with
  | @lst l ol vs _ el ql rl =>
  have hS2 := hS1.step st₁
  obtain ⟨zs, rfl, hz⟩ := rl.strs
  refine call_map (items := (strValues zs).toArray) ⟨_, st₁.sub _ _ el, ql⟩ fun h' m T I hst hnew hmI hTI hlI hlive hk => Calls.spliced_nil ?_
  have st2 : StepE s K { s₁ with heap := h' } K₁ := (StepE.same (tk := s.toks + 1) hS.sub fun _ _ e => e).trans (st₁.trans (StepE.same (tk := s₁.toks) st₁.sub hk))
  have hIs : s.heap.get? I = none := by
    cases e : s.heap.get? I with
    | none => rfl
    | some o => have := st₁.get e; rw [hnew I (.tail _ (.tail _ (.head _)))] at this; cases this
  have hI1 : s₁.heap.get? I = none := hnew I (.tail _ (.tail _ (.head _)))
  subst hz
  refine join_map hA.1 hmI hTI hlI (fun p hp => hfit _ (List.mem_map_of_mem hp)) (by simpa using hn) hst hlive hok fun h'' tk t' hk' => ?_
  refine hQ _ _ K₁ ⟨fun b hb o e => hk' b o (fun h => ?_) (st2.get e), fun b o e => hk' b o (fun h => ?_) (st2.sub b o e), st2.mono, st2.old, st2.gens, st2.os⟩ (.str _ _)
  · subst h; rw [hIs] at e; cases e
  · subst h; have := st₁.sub _ _ e; rw [hI1] at this; cases this
end
end Mine.Internal

end PartB30
section PartB31
open PySem PySem.W PyProof.Rows
set_option Elab.async false
set_option maxRecDepth 100000
set_option linter.unusedVariables false
namespace Mine.Internal

structure ZSt (z TI TO i1 i2 l1 l2 : Addr) (f0 f1 : Value) (vs ws : Array Value) (k : Nat) (h : Heap) : Prop where
  z : h.get? z = some { cls := .type "zip", dict := none, data := .fields #[f0, f1, .bool false, .ref TI, .ref TO], slots := #[] }
  ti : IsPair h TI (.ref i1) (.ref i2)
  to : ∃ a b, IsPair h TO a b
  i1 : h.IsListIter i1 l1 k
  i2 : h.IsListIter i2 l2 k
  l1 : h.IsList l1 vs
  l2 : h.IsList l2 ws

section
variable {prog : Program} {w : World} {A : Around} {E : Value → Shared → Prop} {s : Shared} {z TI TO i1 i2 l1 l2 T : Addr} {f1 : Value} {vs ws : Array Value} {k : Nat}

theorem z_alive {a : Addr} {o : Obj} {Q : Option Obj → Shared → Prop} (ho : s.heap.get? a = some o) (h : Q (some o) s) : wpAny (model prog w) A (loadIfAlive a) Q E s := by
  have h' : Q (s.heap.get? a) s := by rw [ho]; exact h
  exact fun _ _ _ => h'

theorem ZSt.fr {f0 : Value} {h h' : Heap} (x : ZSt z TI TO i1 i2 l1 l2 f0 f1 vs ws k h) (hk : ∀ b ∈ [z, TI, TO, i1, i2, l1, l2], ∀ o, h.get? b = some o → h'.get? b = some o) : ZSt z TI TO i1 i2 l1 l2 f0 f1 vs ws k h' :=
  ⟨hk _ (by simp) _ x.z, hk _ (by simp) _ x.ti, let ⟨a, b, e⟩ := x.to; ⟨a, b, hk _ (by simp) _ e⟩, x.i1.at fun o e => hk _ (by simp) o e, x.i2.at fun o e => hk _ (by simp) o e, x.l1.at fun o e => hk _ (by simp) o e, x.l2.at fun o e => hk _ (by simp) o e⟩

/- next where the last tuple still lives -/
theorem zip_free {f : Bool} {Q : Bool → Shared → Prop} (hz : s.heap.get? z = some { cls := .type "zip", dict := none, data := .fields #[rawInt T, .bool f, .bool false, .ref TI, .ref TO], slots := #[] }) {o : Obj} (hT : s.heap.get? T = some o)
    (h : ∀ h', h'.get? z = some { cls := .type "zip", dict := none, data := .fields #[rawInt T, .bool true, .bool false, .ref TI, .ref TO], slots := #[] } → Heap.SameBut z s.heap h' → Q false { s with heap := h' }) : wpAny (model prog w) A (Builtin.SmallTypes.ownedTupleIsFree (.ref z)) Q E s := by
  unfold Builtin.SmallTypes.ownedTupleIsFree
  refine wpAny_bind (wpAny_field hz rfl (x := rawInt T) rfl ?_)
  show wpAny _ _ (loadIfAlive ((T : Int).toNat) >>= _) _ _ _
  rw [Int.toNat_natCast]
  refine wpAny_bind (z_alive hT ?_)
  simp only [Option.isNone_some, Bool.false_eq_true, if_false]
  refine wpAny_bind (wpAny_field hz rfl (x := .bool f) rfl ?_)
  cases f with
  | true =>
    rw [if_neg (show ¬ ((Value.bool true != Value.bool true) = true) from Bool.false_ne_true)]
    exact wpAny_pure (h s.heap hz (Heap.SameBut.refl _ _))
  | false =>
    rw [if_pos (show (Value.bool false != Value.bool true) = true from rfl)]
    refine wpAny_bind (wpAny_setField_rec hz (by simp) fun h₃ he₃ hs₃ => ?_)
    exact wpAny_pure (h h₃ he₃ hs₃)

theorem zip_out_item {f : Bool} {x y : Value} {o : Obj} {Q : Option Value → Shared → Prop} (D : ZipApart z TI TO i1 i2 l1 l2) (hz : ZSt z TI TO i1 i2 l1 l2 (rawInt T) (.bool f) vs ws k s.heap) (hT : s.heap.get? T = some o) (hx : vs[k]? = some x) (hy : ws[k]? = some y)
    (hQ : ∀ h', ZSt z TI TO i1 i2 l1 l2 (rawInt T) (.bool true) vs ws (k + 1) h' → IsPair h' s.heap.objs.size x y → (∀ c o, c ≠ z → c ≠ i1 → c ≠ i2 → s.heap.get? c = some o → h'.get? c = some o) → Q (some (.ref s.heap.objs.size)) { s with heap := h' }) :
    wpAny (model prog w) A (pyNext (.ref z)) Q E s := by
  have hTy : s.TypeIs (.ref z) "zip" := ⟨_, hz.z, rfl⟩
  unfold pyNext
  refine wpAny_bind (wpAny_attempt (wpAny_callSpecial?_slot (name := Str.ofString "__next__") hTy PySem.F.slot_zip_next
    (wpAny_call_entry PySem.F.slot_zip_next hTy PySem.F.entry_zip_next ?_ (PySem.F.args_zip_next_1 _))))
  show wpAny _ _ (field (.ref z) 2 >>= _) _ _ _
  refine wpAny_bind (wpAny_field hz.z rfl (x := .bool false) rfl ?_)
  show wpAny _ _ (field (.ref z) 3 >>= _) _ _ _
  refine wpAny_bind (wpAny_field hz.z rfl (x := .ref TI) rfl ?_)
  refine wpAny_bind (wpAny_seqItems hz.ti rfl ?_)
  show wpAny _ _ (Builtin.SmallTypes.ownedTupleIsFree (.ref z) >>= _) _ _ _
  refine wpAny_bind (zip_free hz.z hT fun h₁ hz₁ hs₁ => ?_)
  simp only [Bool.false_eq_true, if_false]
  simp only [List.forIn_toArray, List.forIn_cons, List.forIn_nil]
  refine wpAny_bind (wpAny_bind (wpAny_bind (wpAny_holding ?_)))
  have st1 : ZSt z TI TO i1 i2 l1 l2 (rawInt T) (.bool true) vs ws k h₁ := ⟨hz₁, hs₁.extBut _ _ D.TIz hz.ti, let ⟨a, b, e⟩ := hz.to; ⟨a, b, hs₁.extBut _ _ D.TOz e⟩, hz.i1.extBut hs₁.extBut D.i1z, hz.i2.extBut hs₁.extBut D.i2z, hz.l1.extBut hs₁.extBut D.l1z, hz.l2.extBut hs₁.extBut D.l2z⟩
  show wpAny _ _ (Builtin.SmallTypes.nextOf (.ref i1) >>= _) _ _ _
  refine wpAny_bind (wpAny_nextOf_list_item st1.i1 st1.l1 hx fun h₂ h1₂ hs₂ => wpAny_pure ?_)
  refine wpAny_pure ?_
  refine wpAny_bind (wpAny_bind (wpAny_holding ?_))
  show wpAny _ _ (Builtin.SmallTypes.nextOf (.ref i2) >>= _) _ _ _
  refine wpAny_bind (wpAny_nextOf_list_item (st1.i2.extBut hs₂.extBut D.i12.symm) (st1.l2.extBut hs₂.extBut D.l2i1) hy fun h₃ h2₃ hs₃ => wpAny_pure ?_)
  refine wpAny_pure (wpAny_pure ?_)
  refine wpAny_bind (wpAny_newTuple (hsz := show 2 ≤ sizeLine by decide) (wpAny_pure ⟨_, rfl, wpAny_pure ?_⟩))
  have hsz : h₃.objs.size = s.heap.objs.size := by rw [hs₃.1, hs₂.1, hs₁.1]
  show Q (some (.ref h₃.objs.size)) _
  have tup := Heap.get?_push_size h₃ (o := { cls := .type "tuple", data := .seq #[x, y] }) rfl
  rw [hsz] at tup ⊢
  have up : ∀ c o, c ≠ i1 → c ≠ i2 → h₁.get? c = some o → (h₃.push { cls := .type "tuple", data := .seq #[x, y] }).get? c = some o := fun c o c1 c2 e => Heap.get?_push_of_some _ (hs₃.extBut _ _ c2 (hs₂.extBut _ _ c1 e))
  refine hQ _ ⟨up _ _ D.i1z.symm D.i2z.symm hz₁, up _ _ D.TIi1 D.TIi2 st1.ti, let ⟨a, b, e⟩ := st1.to; ⟨a, b, up _ _ D.TOi1 D.TOi2 e⟩, ?_, ?_, st1.l1.at fun o e => up _ o D.l1i1 D.l1i2 e, st1.l2.at fun o e => up _ o D.l2i1 D.l2i2 e⟩ tup fun c o c1 c2 c3 e => up c o c2 c3 (hs₁.extBut _ _ c1 e)
  · exact (h1₂.extBut hs₃.extBut D.i12).at fun o e => Heap.get?_push_of_some _ e
  · exact h2₃.at fun o e => Heap.get?_push_of_some _ e

theorem zip_out_end {f : Bool} {o : Obj} {Q : Option Value → Shared → Prop} (hh : A.handled = none) (D : ZipApart z TI TO i1 i2 l1 l2) (hz : ZSt z TI TO i1 i2 l1 l2 (rawInt T) (.bool f) vs ws k s.heap) (hT : s.heap.get? T = some o) (hx : vs[k]? = none)
    (hQ : ∀ h', (∀ c o, c ≠ z → c ≠ i1 → s.heap.get? c = some o → h'.get? c = some o) → Q none { s with heap := h' }) :
    wpAny (model prog w) A (pyNext (.ref z)) Q E s := by
  have hTy : s.TypeIs (.ref z) "zip" := ⟨_, hz.z, rfl⟩
  unfold pyNext
  refine wpAny_bind (wpAny_attempt (wpAny_callSpecial?_slot (name := Str.ofString "__next__") hTy PySem.F.slot_zip_next
    (wpAny_call_entry PySem.F.slot_zip_next hTy PySem.F.entry_zip_next ?_ (PySem.F.args_zip_next_1 _))))
  show wpAny _ _ (field (.ref z) 2 >>= _) _ _ _
  refine wpAny_bind (wpAny_field hz.z rfl (x := .bool false) rfl ?_)
  show wpAny _ _ (field (.ref z) 3 >>= _) _ _ _
  refine wpAny_bind (wpAny_field hz.z rfl (x := .ref TI) rfl ?_)
  refine wpAny_bind (wpAny_seqItems hz.ti rfl ?_)
  show wpAny _ _ (Builtin.SmallTypes.ownedTupleIsFree (.ref z) >>= _) _ _ _
  refine wpAny_bind (zip_free hz.z hT fun h₁ hz₁ hs₁ => ?_)
  simp only [Bool.false_eq_true, if_false]
  simp only [List.forIn_toArray, List.forIn_cons, List.forIn_nil]
  refine wpAny_bind (wpAny_bind (wpAny_bind (wpAny_holding ?_)))
  show wpAny _ _ (Builtin.SmallTypes.nextOf (.ref i1) >>= _) _ _ _
  refine wpAny_bind (wpAny_nextOf_list_end (A := A.in1) hh (hz.i1.extBut hs₁.extBut D.i1z) (hz.l1.extBut hs₁.extBut D.l1z) hx fun h₂ e hs₂ he => ?_)
  obtain ⟨o, ho, hc⟩ := he
  refine wpAny_bind (wpAny_isInstance (T := "StopIteration") (b := true) ⟨o, ho, hc⟩ isSubtype_stop ?_)
  exact wpAny_pure (hQ h₂ fun c o c1 c2 e => hs₂ c o c2 (hs₁.extBut _ _ c1 e))
end
end Mine.Internal

end PartB31
section PartB32
open PySem PySem.W PyProof.Rows
set_option Elab.async false
set_option maxRecDepth 100000
set_option linter.unusedVariables false
namespace Mine.Internal
theorem zip_no_len : typeLookup (.type "zip") "__len__" = pure none := by rw [typeLookup_type, builtinLookup_eq_fast]; kernel_rfl
theorem zip_no_hint : typeLookup (.type "zip") "__length_hint__" = pure none := by rw [typeLookup_type, builtinLookup_eq_fast]; kernel_rfl
section
variable {prog : Program} {w : World} {A : Around} {E : Value → Shared → Prop} {s₀ : Shared} {K : KMap} {z TI TO i1 i2 l1 l2 S : Addr} {vs ws : List Value} {xs ys : List PV}

/- where a zip stands while a list draws from it -/
noncomputable def ZGo (z TI TO i1 i2 l1 l2 S : Addr) (vs ws : List Value) (i : Nat) (h : Heap) : Prop :=
  (i = 0 ∧ ZSt z TI TO i1 i2 l1 l2 .none (.bool false) vs.toArray ws.toArray 0 h) ∨ ∃ (T : Addr) (f : Bool) (o : Obj), ZSt z TI TO i1 i2 l1 l2 (rawInt T) (.bool f) vs.toArray ws.toArray i h ∧ h.get? T = some o ∧ T ∉ [z, TI, TO, i1, i2, S]

/- what holds in the loop -/
structure ZInv (P : Params) (s₀ : Shared) (K : KMap) (z TI TO i1 i2 S : Addr) (xs ys : List PV) (i : Nat) (h : Heap) (acc : Array Value) (K' : KMap) : Prop where
  keep : ∀ b o, b ∉ [z, TO, i1, i2, S] → s₀.heap.get? b = some o → h.get? b = some o
  sub : ∀ b o, K' b = some o → h.get? b = some o
  mono : ∀ b o, K b = some o → K' b = some o
  old : ∀ b, Alive s₀ b → K' b = K b
  off : ∀ b ∈ [z, TI, TO, i1, i2, S], K' b = none
  rep : RepL P K' acc.toList ((zips xs ys).take i)

theorem zgo_item {A : Around} {s : Shared} {i : Nat} {x y : Value} {Q : Option Value → Shared → Prop} (D : ZipApart z TI TO i1 i2 l1 l2) (hS : S < s.heap.objs.size) (hg : ZGo z TI TO i1 i2 l1 l2 S vs ws i s.heap) (hx : vs[i]? = some x) (hy : ws[i]? = some y)
    (hQ : ∀ h', ZGo z TI TO i1 i2 l1 l2 S vs ws (i + 1) h' → IsPair h' s.heap.objs.size x y → (∀ c o, c ∉ [z, TO, i1, i2] → s.heap.get? c = some o → h'.get? c = some o) → s.heap.objs.size ∉ [z, TI, TO, i1, i2, S] → Q (some (.ref s.heap.objs.size)) { s with heap := h' }) :
    wpAny (model prog w) A (pyNext (.ref z)) Q E s := by
  have fresh : ∀ (f0 f1 : Value), ZSt z TI TO i1 i2 l1 l2 f0 f1 vs.toArray ws.toArray i s.heap → s.heap.objs.size ∉ [z, TI, TO, i1, i2, S] := fun f0 f1 st hm => by
    simp only [List.mem_cons, List.not_mem_nil, or_false] at hm
    obtain ⟨a, b, eto⟩ := st.to
    obtain ⟨_, e1, _⟩ := st.i1
    obtain ⟨_, e2, _⟩ := st.i2
    rcases hm with h | h | h | h | h | h
    · exact absurd (Heap.lt_size st.z) (by rw [← h]; exact Nat.lt_irrefl _)
    · exact absurd (Heap.lt_size st.ti) (by rw [← h]; exact Nat.lt_irrefl _)
    · exact absurd (Heap.lt_size eto) (by rw [← h]; exact Nat.lt_irrefl _)
    · exact absurd (Heap.lt_size e1) (by rw [← h]; exact Nat.lt_irrefl _)
    · exact absurd (Heap.lt_size e2) (by rw [← h]; exact Nat.lt_irrefl _)
    · exact absurd hS (by rw [← h]; exact Nat.lt_irrefl _)
  rcases hg with ⟨rfl, st⟩ | ⟨T, f, o, st, hT, hn⟩
  · obtain ⟨a, b, eto⟩ := st.to
    have fr := fresh _ _ st
    refine wpAny_pyNext_zip_item D st.z st.ti eto st.i1 st.i2 st.l1 st.l2 (by simpa using hx) (by simpa using hy) fun h' a1 a2 a3 a4 a5 a6 hk => ?_
    refine hQ h' (.inr ⟨s.heap.objs.size, false, _, ⟨a1, hk _ _ D.TIz D.TITO D.TIi1 D.TIi2 st.ti, ⟨_, _, a2⟩, a3, a4, st.l1.at fun o e => hk _ o D.l1z D.l1TO D.l1i1 D.l1i2 e, st.l2.at fun o e => hk _ o D.l2z D.l2TO D.l2i1 D.l2i2 e⟩, a5, fr⟩) a5 (fun c o hc e => ?_) fr
    simp only [List.mem_cons, List.not_mem_nil, or_false, not_or] at hc
    exact hk c o hc.1 hc.2.1 hc.2.2.1 hc.2.2.2 e
  · have fr := fresh _ _ st
    refine zip_out_item D st hT (by simpa using hx) (by simpa using hy) fun h' st' hp hk => ?_
    refine hQ h' (.inr ⟨T, true, o, st', hk T o ?_ ?_ ?_ hT, hn⟩) hp (fun c o hc e => ?_) fr
    · exact fun h => hn (by simp [h])
    · exact fun h => hn (by simp [h])
    · exact fun h => hn (by simp [h])
    · simp only [List.mem_cons, List.not_mem_nil, or_false, not_or] at hc
      exact hk c o hc.1 hc.2.2.1 hc.2.2.2 e
theorem zgo_end {A : Around} {s : Shared} {Q : Option Value → Shared → Prop} (hh : A.handled = none) (D : ZipApart z TI TO i1 i2 l1 l2) (hg : ZGo z TI TO i1 i2 l1 l2 S vs ws vs.length s.heap)
    (hQ : ∀ h', (∀ c o, c ∉ [z, TO, i1, i2] → s.heap.get? c = some o → h'.get? c = some o) → Q none { s with heap := h' }) :
    wpAny (model prog w) A (pyNext (.ref z)) Q E s := by
  rcases hg with ⟨h0, st⟩ | ⟨T, f, o, st, hT, hn⟩
  · obtain ⟨a, b, eto⟩ := st.to
    refine wpAny_pyNext_zip_end hh D st.z st.ti eto st.i1 st.i2 st.l1 st.l2 (.inl (by simp [List.eq_nil_of_length_eq_zero h0])) fun h' hk => hQ h' fun c o hc e => ?_
    simp only [List.mem_cons, List.not_mem_nil, or_false, not_or] at hc
    exact hk c o hc.1 hc.2.1 hc.2.2.1 hc.2.2.2 e
  · refine zip_out_end hh D st hT (by simp) fun h' hk => hQ h' fun c o hc e => ?_
    simp only [List.mem_cons, List.not_mem_nil, or_false, not_or] at hc
    exact hk c o hc.1 hc.2.2.1 e
theorem ZGo.fr {i : Nat} {h h' : Heap} (x : ZGo z TI TO i1 i2 l1 l2 S vs ws i h) (h1 : l1 ≠ S) (h2 : l2 ≠ S) (hS : S ∉ [z, TI, TO, i1, i2]) (hk : ∀ b o, b ≠ S → h.get? b = some o → h'.get? b = some o) : ZGo z TI TO i1 i2 l1 l2 S vs ws i h' := by
  have key : ∀ b ∈ [z, TI, TO, i1, i2, l1, l2], b ≠ S := fun b hb e => by
    subst e
    simp only [List.mem_cons, List.not_mem_nil, or_false, not_or] at hb hS
    rcases hb with h | h | h | h | h | h | h
    · exact hS.1 h
    · exact hS.2.1 h
    · exact hS.2.2.1 h
    · exact hS.2.2.2.1 h
    · exact hS.2.2.2.2 h
    · exact h1 h.symm
    · exact h2 h.symm
  rcases x with ⟨rfl, st⟩ | ⟨T, f, o, st, hT, hn⟩
  · exact .inl ⟨rfl, st.fr fun b hb o e => hk b o (key b hb) e⟩
  · exact .inr ⟨T, f, o, st.fr fun b hb o e => hk b o (key b hb) e, hk T o (fun h => hn (by simp [h])) hT, hn⟩

theorem zl_loop {R : Result → Shared → Prop} (hh : A.handled = none) (D : ZipApart z TI TO i1 i2 l1 l2) (h1 : l1 ≠ S) (h2 : l2 ≠ S) (hS : S ∉ [z, TI, TO, i1, i2]) (rl1 : RepL w.params K vs xs) (rl2 : RepL w.params K ws ys) (hlen : vs.length = ws.length) (hn : vs.length ≤ sizeLine) (res : Value) :
    ∀ (k i : Nat) (h : Heap) (tk c : Nat) (acc : Array Value) (K' : KMap), vs.length - i = k → i ≤ vs.length → ZGo z TI TO i1 i2 l1 l2 S vs ws i h → ZInv w.params s₀ K z TI TO i1 i2 S xs ys i h acc K' → h.get? S = some { cls := .type "list", dict := none, data := .seq acc c, slots := #[] } →
    (∀ h' tk acc' c' K', ZInv w.params s₀ K z TI TO i1 i2 S xs ys vs.length h' acc' K' → h'.get? S = some { cls := .type "list", dict := none, data := .seq acc' c', slots := #[] } → R (.ok (.ret res)) { s₀ with heap := h', toks := tk }) →
    codeAny (model prog w) A (.builtin "list.extend.loop" ⟨[.ref S, .ref z, res], []⟩) R { s₀ with heap := h, toks := tk } := by
  have hS4 : ∀ b ∈ [z, TO, i1, i2], b ≠ S := fun b hb e => by
    subst e
    simp only [List.mem_cons, List.not_mem_nil, or_false, not_or] at hb hS
    rcases hb with h | h | h | h
    · exact hS.1 h
    · exact hS.2.2.1 h
    · exact hS.2.2.2.1 h
    · exact hS.2.2.2.2 h
  have hSn : S ∉ [z, TO, i1, i2] := fun h => hS4 S h rfl
  have m5 : ∀ b, b ∉ [z, TO, i1, i2, S] → b ∉ [z, TO, i1, i2] ∧ b ≠ S := fun b hb => by
    simp only [List.mem_cons, List.not_mem_nil, or_false, not_or] at hb ⊢
    exact ⟨⟨hb.1, hb.2.1, hb.2.2.1, hb.2.2.2.1⟩, hb.2.2.2.2⟩
  have m4 : ∀ b, b ∈ [z, TO, i1, i2] → b ∈ [z, TI, TO, i1, i2, S] := fun b hb => by
    simp only [List.mem_cons, List.not_mem_nil, or_false] at hb ⊢
    rcases hb with h | h | h | h <;> simp [h]
  have hzl : (zips xs ys).length = vs.length := by simp [zips, ← rl1.length, ← rl2.length, hlen]
  intro k
  induction k with
  | zero =>
    intro i h tk c acc K' hk hi hg hv hSl hR
    have hin : i = vs.length := by omega
    subst hin
    refine codeAny_builtin PySem.F.entry_extend_loop ?_
    rw [Around.under_plainId PySem.F.plain_extend_loop _]
    show wpAny _ A.in1 (pyNext (.ref z) >>= _) _ _ _
    refine wpAny_bind (zgo_end (A := A.in1) (s := { s₀ with heap := h, toks := tk }) hh D hg fun h' hx => ?_)
    refine wpAny_pure (hR h' tk acc c K' ⟨fun b o hb e => hx b o (m5 b hb).1 (hv.keep b o hb e), fun b o e => hx b o (fun hm => ?_) (hv.sub b o e), hv.mono, hv.old, hv.off, hv.rep⟩ (hx S _ hSn hSl))
    rw [hv.off b (m4 b hm)] at e; cases e
  | succ k ih =>
    intro i h tk c acc K' hk hi hg hv hSl hR
    have hlt : i < vs.length := by omega
    have hlt' : i < ws.length := by omega
    have hix : i < xs.length := by rw [← rl1.length]; exact hlt
    have hiy : i < ys.length := by rw [← rl2.length]; exact hlt'
    have hsz : acc.size = i := by
      have := hv.rep.length
      rw [List.length_take, hzl] at this
      simp at this; omega
    refine codeAny_builtin PySem.F.entry_extend_loop ?_
    rw [Around.under_plainId PySem.F.plain_extend_loop _]
    show wpAny _ A.in1 (pyNext (.ref z) >>= _) _ _ _
    refine wpAny_bind (zgo_item (A := A.in1) (s := { s₀ with heap := h, toks := tk }) D (Heap.lt_size hSl) hg (List.getElem?_eq_getElem hlt) (List.getElem?_eq_getElem hlt') fun h' hg' hp hkp fr => ?_)
    have hSl' := hkp S _ hSn hSl
    have hTS : h.objs.size ≠ S := fun e => fr (by simp [e])
    have hKn : K' h.objs.size = none := by
      cases e : K' h.objs.size with
      | none => rfl
      | some o => exact absurd (Heap.lt_size (hv.sub _ _ e)) (Nat.lt_irrefl _)
    obtain ⟨u1, hu1, ru1⟩ := rl1.get (List.getElem?_eq_getElem hix)
    obtain ⟨u2, hu2, ru2⟩ := rl2.get (List.getElem?_eq_getElem hiy)
    rw [List.getElem?_eq_getElem hlt] at hu1; cases hu1
    rw [List.getElem?_eq_getElem hlt'] at hu2; cases hu2
    show wpAny _ A.in1 (updateSeq S (·.push _) >>= _) _ _ _
    have up : ∀ b o, b ≠ S → h'.get? b = some o → (h'.update S (Obj.mapSeq (·.push (Value.ref h.objs.size)))).get? b = some o := fun b o hb e => (Heap.get?_update_other _ _ (Ne.symm hb)).trans e
    refine wpAny_bind (wpAny_updateSeq hSl' rfl (wpAny_pure ⟨plainId_quiet PySem.F.plain_extend_loop _, ih (i + 1) _ tk _ (acc.push _) (K'.put h.objs.size (tupObj #[vs[i], ws[i]] 0)) (by omega) hlt (hg'.fr h1 h2 hS up) ⟨fun b o hb e => up b o (m5 b hb).2 (hkp b o (m5 b hb).1 (hv.keep b o hb e)), fun b o e => ?_, fun b o e => KMap.put_mono hKn b o (hv.mono b o e), fun b hb => ?_, fun b hb => ?_, ?_⟩ (Heap.get?_update_self _ hSl' rfl) hR⟩)
      (by rw [hsz]; omega) (by show (acc.push _).size ≤ sizeLine + 1; rw [Array.size_push, hsz]; omega))
    · by_cases hb : b = h.objs.size
      · subst hb; rw [KMap.put_self] at e; cases e; exact up _ _ hTS hp
      · rw [KMap.put_other _ _ hb] at e
        refine up b o (fun hbS => ?_) (hkp b o (fun hm => ?_) (hv.sub b o e))
        · rw [hbS, hv.off S (by simp)] at e; cases e
        · rw [hv.off b (m4 b hm)] at e; cases e
    · rw [KMap.put_other]
      · exact hv.old b hb
      · rintro rfl
        obtain ⟨o, e⟩ := Option.isSome_iff_exists.mp hb
        by_cases hm : h.objs.size ∈ [z, TO, i1, i2, S]
        · refine fr ?_
          simp only [List.mem_cons, List.not_mem_nil, or_false] at hm ⊢
          rcases hm with h | h | h | h | h <;> simp [h]
        · exact absurd (Heap.lt_size (hv.keep _ o hm e)) (Nat.lt_irrefl _)
    · rw [KMap.put_other]
      · exact hv.off b hb
      · rintro rfl; exact fr hb
    · rw [Array.toList_push, List.take_add_one]
      refine (hv.rep.mono (KMap.put_mono hKn)).append ?_
      have e : (zips xs ys)[i]? = some (.tup [xs[i], ys[i]]) := by simp [zips, List.getElem?_zipWith, List.getElem?_eq_getElem hix, List.getElem?_eq_getElem hiy]
      rw [e]
      have m2 : ∀ b o, K b = some o → (K'.put h.objs.size (tupObj #[vs[i], ws[i]] 0)) b = some o := fun b o e => KMap.put_mono hKn b o (hv.mono b o e)
      exact .one (.tup (vs := [vs[i], ws[i]]) (n := 0) (KMap.put_self _ _ _) (.cons (ru1.mono m2) (.cons (ru2.mono m2) .nil)))
end
end Mine.Internal

end PartB32
section PartB33
open PySem PySem.W PyProof.Rows
set_option Elab.async false
set_option maxRecDepth 100000
set_option linter.unusedVariables false
namespace Mine.Internal
section
variable {prog : Program} {w : World} {A : Around} {E : Value → Shared → Prop} {s : Shared} {K : KMap} {z TI TO i1 i2 l1 l2 S : Addr} {vs ws : List Value} {xs ys : List PV}

theorem extend_zip {R : Result → Shared → Prop} (hh : A.handled = none) (D : ZipApart z TI TO i1 i2 l1 l2) (h1 : l1 ≠ S) (h2 : l2 ≠ S) (hS : S ∉ [z, TI, TO, i1, i2]) (rl1 : RepL w.params K vs xs) (rl2 : RepL w.params K ws ys) (hlen : vs.length = ws.length) (hn : vs.length ≤ sizeLine) (res : Value)
    (hz : ZSt z TI TO i1 i2 l1 l2 .none (.bool false) vs.toArray ws.toArray 0 s.heap) {c : Nat} (hSl : s.heap.get? S = some { cls := .type "list", dict := none, data := .seq #[] c, slots := #[] }) (hsub : ∀ b o, K b = some o → s.heap.get? b = some o) (hoff : ∀ b ∈ [z, TI, TO, i1, i2, S], K b = none)
    (hR : ∀ h' tk acc' c' K', ZInv w.params s K z TI TO i1 i2 S xs ys vs.length h' acc' K' → h'.get? S = some { cls := .type "list", dict := none, data := .seq acc' c', slots := #[] } → R (.ok (.ret res)) { s with heap := h', toks := tk }) :
    wpAny (model prog w) A.in1 (Builtin.List.listExtendWith (.ref S) (.ref z) res)
      (fun fin s' => match fin with | .done f => R (.ok f) s' | .again c' => c'.quiet = true ∧ codeAny (model prog w) A c' R s') (fun e s' => R (.error e) s') s := by
  have hSz : S ≠ z := fun e => hS (by simp [e])
  have hT : s.TypeIs (.ref z) "zip" := ⟨_, hz.z, rfl⟩
  unfold Builtin.List.listExtendWith
  refine wpAny_bind (wpAny_typeOf hT ?_)
  have e1 : Builtin.List.listSameRef (.ref S) (.ref z) = false := by simp [Builtin.List.listSameRef, hSz]
  have e2 : (Value.type "zip" == Value.type "list") = false := by decide
  have e3 : (Value.type "zip" == Value.type "tuple") = false := by decide
  simp only [e1, e2, e3, Bool.or_false, Bool.false_eq_true, if_false]
  refine wpAny_bind (wpAny_pyIter_zip hz.z ?_)
  refine wpAny_bind (wpAny_holding ?_)
  unfold Builtin.List.listLengthHint
  refine wpAny_bind (wpAny_specialOf hT zip_no_len ?_)
  show wpAny _ A.in1 (specialOf (Value.ref z) (Str.ofString "__length_hint__") >>= _) _ _ _
  refine wpAny_bind (wpAny_specialOf hT zip_no_hint ?_)
  refine wpAny_pure ?_
  show wpAny _ A.in1 (rule "list.extend.makes-room" >>= fun _ => Builtin.List.listTouch (.ref S) >>= fun _ =>
    again (.builtin "list.extend.loop" ⟨[.ref S, .ref z, res], []⟩)) _ _ _
  refine wpAny_bind (wpAny_rule ?_)
  refine wpAny_bind ?_
  show wpAny _ A.in1 (updateSeq S (·.push .none) >>= fun _ => updateSeq S (·.pop)) _ _ _
  refine wpAny_bind (wpAny_updateSeq hSl rfl ?_)
  have hS₂ := Heap.get?_update_self (Obj.mapSeq (·.push Value.none)) hSl rfl
  refine wpAny_updateSeq hS₂ rfl ?_
  have hS₃ := Heap.get?_update_self (Obj.mapSeq (·.pop)) hS₂ rfl
  have oth : ∀ b o, b ≠ S → s.heap.get? b = some o → ((s.heap.update S (Obj.mapSeq (·.push Value.none))).update S (Obj.mapSeq (·.pop))).get? b = some o :=
    fun b o hb e => (Heap.get?_update_other _ _ (Ne.symm hb)).trans ((Heap.get?_update_other _ _ (Ne.symm hb)).trans e)
  refine wpAny_pure ⟨plainId_quiet PySem.F.plain_extend_loop _, zl_loop (s₀ := s) hh D h1 h2 hS rl1 rl2 hlen hn res vs.length 0 _ s.toks _ _ K rfl (Nat.zero_le _) (ZGo.fr (.inl ⟨rfl, hz⟩) h1 h2 hS oth)
    ⟨fun b o hb e => oth b o (fun h => hb (by simp [h])) e, fun b o e => oth b o (fun h => ?_) (hsub b o e), fun _ _ e => e, fun _ _ => rfl, hoff, .nil⟩ hS₃ hR⟩
  rw [hoff b (by simp [h])] at e; cases e

theorem list_init_zip {R : Result → Shared → Prop} (hh : A.handled = none) (D : ZipApart z TI TO i1 i2 l1 l2) (h1 : l1 ≠ S) (h2 : l2 ≠ S) (hS : S ∉ [z, TI, TO, i1, i2]) (rl1 : RepL w.params K vs xs) (rl2 : RepL w.params K ws ys) (hlen : vs.length = ws.length) (hn : vs.length ≤ sizeLine)
    (hz : ZSt z TI TO i1 i2 l1 l2 .none (.bool false) vs.toArray ws.toArray 0 s.heap) (hSl : s.heap.get? S = some { cls := .type "list", data := .seq #[] }) (hsub : ∀ b o, K b = some o → s.heap.get? b = some o) (hoff : ∀ b ∈ [z, TI, TO, i1, i2, S], K b = none)
    (hR : ∀ h' tk acc' c' K', (∀ b o, b ∉ [z, TO, i1, i2, S] → s.heap.get? b = some o → h'.get? b = some o) → (∀ b o, K' b = some o → h'.get? b = some o) → (∀ b o, K b = some o → K' b = some o) → (∀ b, Alive s b → K' b = K b) → RepL w.params K' acc'.toList (zips xs ys) →
      h'.get? S = some { cls := .type "list", dict := none, data := .seq acc' c', slots := #[] } → R (.ok (.ret .none)) { s with heap := h', toks := tk }) :
    wpAny (model prog w) A.in1 (Builtin.«list.__init__» ⟨[.ref S, .ref z], []⟩)
      (fun fin s' => match fin with | .done f => R (.ok f) s' | .again c' => c'.quiet = true ∧ codeAny (model prog w) A c' R s') (fun e s' => R (.error e) s') s := by
  show wpAny _ _ (do let old ← Builtin.List.listItems (.ref S); Builtin.List.listUpdate (.ref S) (fun _ => #[]); letGo old.toList.reverse; Builtin.List.listExtendWith (.ref S) (.ref z) .none) _ _ s
  refine wpAny_bind ?_
  unfold Builtin.List.listItems
  refine wpAny_bind (wpAny_seqItems hSl rfl (wpAny_pure ?_))
  show wpAny _ _ (updateSeq S (fun _ => #[]) >>= fun _ => letGo (#[] : Array Value).toList.reverse >>= fun _ => Builtin.List.listExtendWith (.ref S) (.ref z) .none) _ _ s
  refine wpAny_bind (wpAny_updateSeq hSl rfl ?_)
  have hS₂ := Heap.get?_update_self (Obj.mapSeq (fun _ => (#[] : Array Value))) hSl rfl
  have oth : ∀ b o, b ≠ S → s.heap.get? b = some o → (s.heap.update S (Obj.mapSeq (fun _ => (#[] : Array Value)))).get? b = some o :=
    fun b o hb e => (Heap.get?_update_other _ _ (Ne.symm hb)).trans e
  have g := ZGo.fr (S := S) (.inl ⟨rfl, hz⟩) h1 h2 hS oth
  have hz' : ZSt z TI TO i1 i2 l1 l2 .none (.bool false) vs.toArray ws.toArray 0 (s.heap.update S (Obj.mapSeq (fun _ => (#[] : Array Value)))) := by
    have key : ∀ b ∈ [z, TI, TO, i1, i2, l1, l2], b ≠ S := fun b hb e => by
      subst e
      simp only [List.mem_cons, List.not_mem_nil, or_false, not_or] at hb hS
      rcases hb with h | h | h | h | h | h | h
      · exact hS.1 h
      · exact hS.2.1 h
      · exact hS.2.2.1 h
      · exact hS.2.2.2.1 h
      · exact hS.2.2.2.2 h
      · exact h1 h.symm
      · exact h2 h.symm
    exact hz.fr fun b hb o e => oth b o (key b hb) e
  refine wpAny_bind (wpAny_letGo ?_)
  have hzl : (zips xs ys).length = vs.length := by simp [zips, ← rl1.length, ← rl2.length, hlen]
  refine extend_zip (s := { s with heap := s.heap.update S (Obj.mapSeq (fun _ => (#[] : Array Value))) }) hh D h1 h2 hS rl1 rl2 hlen hn .none hz' hS₂ (fun b o e => oth b o (fun h => ?_) (hsub b o e)) hoff fun h' tk acc' c' K' inv hS' => ?_
  · rw [hoff b (by simp [h])] at e; cases e
  · refine hR h' tk acc' c' K' (fun b o hb e => inv.keep b o hb (oth b o (fun h => hb (by simp [h])) e)) inv.sub inv.mono (fun b hb => inv.old b ?_) ?_ hS'
    · obtain ⟨o, e⟩ := Option.isSome_iff_exists.mp hb
      by_cases h : b = S
      · subst h; exact alive_of hS₂
      · exact alive_of (oth b o h e)
    · have := inv.rep
      rwa [List.take_of_length_le (by rw [hzl]; exact Nat.le_refl _)] at this

theorem call_list_zip {Q : Value → Shared → Prop} (hh : A.handled = none) (D : ZipApart z TI TO i1 i2 l1 l2) (rl1 : RepL w.params K vs xs) (rl2 : RepL w.params K ws ys) (hlen : vs.length = ws.length) (hn : vs.length ≤ sizeLine)
    (hz : ZSt z TI TO i1 i2 l1 l2 .none (.bool false) vs.toArray ws.toArray 0 s.heap) (hsub : ∀ b o, K b = some o → s.heap.get? b = some o) (hoff : ∀ b ∈ [z, TI, TO, i1, i2], K b = none)
    (hQ : ∀ h' tk S acc' c' K', s.heap.get? S = none → (∀ b o, b ∉ [z, TO, i1, i2] → s.heap.get? b = some o → h'.get? b = some o) → (∀ b o, K' b = some o → h'.get? b = some o) → (∀ b o, K b = some o → K' b = some o) → (∀ b, Alive s b → K' b = K b) → K' S = none → RepL w.params K' acc'.toList (zips xs ys) →
      h'.get? S = some { cls := .type "list", dict := none, data := .seq acc' c', slots := #[] } → Q (.ref S) { s with heap := h', toks := tk }) :
    wpAny (model prog w) A (call (.type "list") [.ref z]) Q E s := by
  refine callType_codes (Q₁ := fun obj s₁ => obj = .ref s.heap.objs.size ∧ s₁ = { s with heap := s.heap.push { cls := .type "list", data := .seq #[] } }) PySem.F.called_list (PySem.F.typeCall_list_1 _) PySem.F.entry_list_init
    (code_list_new _ ⟨rfl, rfl⟩) fun obj s₁ h₁ => ?_
  obtain ⟨rfl, rfl⟩ := h₁
  have hSl : (s.heap.push { cls := .type "list", data := .seq #[] }).get? s.heap.objs.size = some { cls := .type "list", data := .seq #[] } := Heap.get?_push_size _ rfl
  have push : ∀ b o, s.heap.get? b = some o → (s.heap.push { cls := .type "list", data := .seq #[] }).get? b = some o := fun b o e => Heap.get?_push_of_some _ e
  have live : ∀ b ∈ [z, TI, TO, i1, i2, l1, l2], (s.heap.get? b).isSome = true := fun b hb => by
    obtain ⟨a, c, eto⟩ := hz.to
    obtain ⟨_, e1, _⟩ := hz.i1
    obtain ⟨_, e2, _⟩ := hz.i2
    obtain ⟨_, e3, _⟩ := hz.l1
    obtain ⟨_, e4, _⟩ := hz.l2
    simp only [List.mem_cons, List.not_mem_nil, or_false] at hb
    rcases hb with h | h | h | h | h | h | h <;> subst h
    · exact alive_of hz.z
    · exact alive_of hz.ti
    · exact alive_of eto
    · exact alive_of e1
    · exact alive_of e2
    · exact alive_of e3
    · exact alive_of e4
  have ne : ∀ b ∈ [z, TI, TO, i1, i2, l1, l2], b ≠ s.heap.objs.size := fun b hb h => by
    have := live b hb; rw [h, size_none] at this; cases this
  have nK : K s.heap.objs.size = none := by
    cases e : K s.heap.objs.size with
    | none => rfl
    | some o => have := hsub _ _ e; rw [size_none] at this; cases this
  have hS : s.heap.objs.size ∉ [z, TI, TO, i1, i2] := fun h => ne _ (by simp only [List.mem_cons, List.not_mem_nil, or_false] at h ⊢; rcases h with h | h | h | h | h <;> simp [h]) rfl
  refine ⟨⟨_, hSl, rfl⟩, PySem.F.args_list_init_2 _ _, list_init_zip (A := A.in1) (s := { s with heap := s.heap.push { cls := .type "list", data := .seq #[] } }) hh D (ne l1 (by simp)) (ne l2 (by simp)) hS rl1 rl2 hlen hn
    (hz.fr fun b _ o e => push b o e) hSl (fun b o e => push b o (hsub b o e)) (fun b hb => ?_) fun h' tk acc' c' K' k1 k2 k3 k4 k5 k6 => ⟨rfl, ?_⟩⟩
  · simp only [List.mem_cons, List.not_mem_nil, or_false] at hb
    rcases hb with h | h | h | h | h | h
    · exact hoff b (by simp [h])
    · exact hoff b (by simp [h])
    · exact hoff b (by simp [h])
    · exact hoff b (by simp [h])
    · exact hoff b (by simp [h])
    · rw [h]; exact nK
  · refine hQ h' tk _ acc' c' K' (size_none _) (fun b o hb e => k1 b o (fun h => ?_) (push b o e)) k2 k3 (fun b hb => k4 b ?_) ?_ k5 k6
    · simp only [List.mem_cons, List.not_mem_nil, or_false, not_or] at h hb
      rcases h with h | h | h | h | h
      · exact hb.1 h
      · exact hb.2.1 h
      · exact hb.2.2.1 h
      · exact hb.2.2.2 h
      · rw [h, size_none] at e; cases e
    · obtain ⟨o, e⟩ := Option.isSome_iff_exists.mp hb; exact alive_of (push b o e)
    · exact (k4 _ (alive_of hSl)).trans nK
end
end Mine.Internal

end PartB33
section PartB34
open PySem PySem.W PyProof.Rows
set_option Elab.async false
set_option maxRecDepth 100000
set_option linter.unusedVariables false
namespace Mine.Internal
section
variable {prog : Program} {w : World} {h₀ : Heap} {d : Nat} {sc : Scope} {σ : Sig} {W : Str → Bool} {mg mb : Str → Option Value}

theorem new_list_zip {e f : Expr} {lpos xpos zpos pos : Pos} {xs ys : List PV} (G : Glb h₀ mg mb) (hl : Callee mg mb ("list" : Str) (.type "list")) (hc : Callee mg mb ("zip" : Str) (.type "zip")) (h : EvOK prog w h₀ d sc σ e (.lst xs)) (h' : EvOK prog w h₀ d sc σ f (.lst ys)) (hlen : xs.length = ys.length) (hz : xs.length ≤ sizeLine)
    (hxl : sc.names.lookup ("list" : Str) = some .globalImplicit) (hx : sc.names.lookup ("zip" : Str) = some .globalImplicit) (hp : ∀ env, (starEach [e, f] env).all (fun x => !x.1) = true) (hn : ∀ env, ∃ t r, starEach [e, f] env = (false, t) :: r)
    (hs : ∀ env, starEach [e, f] env = (false, eval e env) :: starEach [f] env) (hs' : ∀ env, starEach [f] env = (false, eval f env) :: starEach [] env) :
    EvNew prog w h₀ d sc σ (.Call (.Name ("list" : Str) lpos) [.Call (.Name ("zip" : Str) xpos) [e, f] [] zpos] [] pos) (.lst (zips xs ys)) := fun A env K s R W hA hE hS => by
  refine wpAny_Call_NameR (callee_name G hE hS hl hxl (by decide) ?_)
  refine callWith_kind (h₀ := h₀) (first := []) (.inl ⟨_, rfl⟩) (by rfl) ?_
  show wpAny _ _ (evalArgs (.type "list") true [(false, eval (.Call (.Name ("zip" : Str) xpos) [e, f] [] zpos) env)] []) _ _ _
  refine Calls.evalArgs_plain (Calls.spliced_cons ?_)
  refine call_by G hA hE hS hc (.inl ⟨_, rfl⟩) (evs_cons h (evs_cons h' evs_nil hs') hs) hx (by decide) (hp env) (hn env) fun vs s' K' st rs => ?_
  cases rs with
  | cons r rs =>
  cases rs with
  | cons r' rs =>
  cases rs
  cases r with
  | @lst l1 o1 us _ e1 q1 r1 =>
  cases r' with
  | @lst l2 o2 ws _ e2 q2 r2 =>
  have hl1 : s'.heap.IsList l1 us.toArray := ⟨_, st.sub _ _ e1, q1⟩
  have hl2 : s'.heap.IsList l2 ws.toArray := ⟨_, st.sub _ _ e2, q2⟩
  have lt1 : @LT.lt Nat _ l1 s'.heap.objs.size := Heap.lt_size (st.sub _ _ e1)
  have lt2 : @LT.lt Nat _ l2 s'.heap.objs.size := Heap.lt_size (st.sub _ _ e2)
  refine call_zip_2 hl1 hl2 fun h' z1 z2 z3 z4 z5 z6 hk => Calls.spliced_nil ?_
  have y := StepE.same (tk := s'.toks) (h' := h') st.sub hk
  have D : ZipApart (s'.heap.objs.size + 4) (s'.heap.objs.size + 2) (s'.heap.objs.size + 3) s'.heap.objs.size (s'.heap.objs.size + 1) l1 l2 := by
    exact zip_apart lt1 lt2
  have dead : ∀ k, s'.heap.get? (s'.heap.objs.size + k) = none := fun k => by
    cases e : s'.heap.get? (s'.heap.objs.size + k) with
    | none => rfl
    | some o => exact absurd (Heap.lt_size e) (Nat.not_lt.mpr (Nat.le_add_right _ _))
  have off5 : ∀ b ∈ [s'.heap.objs.size + 4, s'.heap.objs.size + 2, s'.heap.objs.size + 3, s'.heap.objs.size, s'.heap.objs.size + 1], s'.heap.get? b = none := fun b hb => by
    simp only [List.mem_cons, List.not_mem_nil, or_false] at hb
    rcases hb with h | h | h | h | h <;> subst h
    · exact dead 4
    · exact dead 2
    · exact dead 3
    · exact dead 0
    · exact dead 1
  have st2 := st.trans y
  refine ⟨(hS.step st2).base, ?_⟩
  refine call_list_zip (s := { s' with heap := h' }) (K := K') (vs := us) (ws := ws) hA.1 D r1 r2 (by rw [r1.length, r2.length]; exact hlen) (by rw [r1.length]; exact hz)
    ⟨z1, z2, ⟨_, _, z3⟩, z4, z5, ⟨_, hk _ _ (st.sub _ _ e1), q1⟩, ⟨_, hk _ _ (st.sub _ _ e2), q2⟩⟩ y.sub (fun b hb => knone st.sub (off5 b hb)) fun h'' tk S acc' c' K'' k0 k1 k2 k3 k4 k5 k6 k7 => ?_
  have nS : s'.heap.get? S = none := by
    cases e : s'.heap.get? S with
    | none => rfl
    | some o => have := hk S o e; rw [k0] at this; cases this
  have nS' : s.heap.get? S = none := by
    cases e : s.heap.get? S with
    | none => rfl
    | some o => have := st.get e; rw [nS] at this; cases this
  refine ⟨K'', [S], st.trans ⟨fun b _ o e => k1 b o (fun hm => ?_) (hk b o e), k2, k3, fun b hb => k4 b ?_, st.gens.1 |> fun _ => ⟨id, Nat.le_refl _, fun _ _ _ => rfl⟩, rfl⟩, .lst (n := c') k5 (by simpa using k7) k6, fun b hb => by rw [List.mem_singleton.mp hb]; exact nS'⟩
  · have := off5 b (by simp only [List.mem_cons, List.not_mem_nil, or_false] at hm ⊢; rcases hm with h | h | h | h <;> simp [h])
    rw [this] at e; cases e
  · obtain ⟨o, e⟩ := Option.isSome_iff_exists.mp hb; exact alive_of (hk b o e)
end
end Mine.Internal

end PartB34
section PartC0
open PySem PySem.W PyProof.Rows
set_option Elab.async false
set_option maxRecDepth 100000
set_option linter.unusedVariables false
namespace Mine.Internal

/- a function of the text's, as the heap holds it -/
structure FnI (h₀ : Heap) (mg mb : Str → Option Value) (i : Nat) (nm : Str) (a : Addr) (xs : List Str) : Prop where
  fd : ∃ fd, FnAt h₀ a fd (bodyOf (stAt i)) ∧ fd.scope = scopeOf (stAt i) ∧ ∀ vs : List Value, vs.length = xs.length → bindArgs fd ⟨vs, []⟩ = pure (xs.zip vs)
  at_ : Callee mg mb nm (.ref a)
section
variable {w : World} {h₀ : Heap} {d : Nat} {mg mb : Str → Option Value}
theorem FnI.kind {i : Nat} {nm : Str} {a : Addr} {xs : List Str} (f : FnI h₀ mg mb i nm a xs) : KindOk h₀ (.ref a) := let ⟨_, h, _⟩ := f.fd; h.kindOk
theorem FnI.call {i : Nat} {nm : Str} {a : Addr} {xs : List Str} {ps : List PV} {r : PV} (f : FnI h₀ mg mb i nm a xs) (G : Glb h₀ mg mb) (hl : ps.length = xs.length) (hb : ExOK pw w h₀ d (scopeOf (stAt i)) (xs.zip (ps.map Slot.val)) (bodyOf (stAt i)) (.ret r))
    (hk : ∀ x ∈ xs, (scopeOf (stAt i)).names.lookup x = some .local ∨ (scopeOf (stAt i)).names.lookup x = some .cell) (hn : xs.Nodup) (hg : (scopeOf (stAt i)).isGenerator = false) : CallOK pw w h₀ (d + 1) (.ref a) ps r := by
  obtain ⟨fd, F, hs, hbind⟩ := f.fd
  exact call_fn F G.lim xs (fun vs e => hbind vs (e.trans hl)) (by rw [hs]; exact hk) hn (by rw [hs]; exact hg) (by rw [hs]; exact hb)

theorem no_pylong (a b : Int) (hb : b.natAbs < 2 ^ 30) : Builtin.divisionGoesByPylong a b = false := by
  have h : (if (b == 0) = true then 0 else b.natAbs.log2 / 30 + 1) ≤ 1 := by
    split
    · exact Nat.zero_le _
    · rename_i h0
      have h0' : b.natAbs ≠ 0 := fun e => h0 (by rw [Int.natAbs_eq_zero.mp e]; rfl)
      have : b.natAbs.log2 < 30 := (Nat.log2_lt h0').mpr hb
      omega
  unfold Builtin.divisionGoesByPylong
  simp only [Bool.and_eq_false_iff, decide_eq_false_iff_not]
  exact .inl (by omega)

/- the n lowest figures -/
noncomputable def figs (n : Int) (k : Nat) : List Int := (List.range k).map fun i => (n.fdiv (10 ^ i)).fmod 10
theorem figs_succ (n : Int) (k : Nat) : figs n (k + 1) = figs n k ++ [(n.fdiv (10 ^ k)).fmod 10] := by simp [figs, List.range_succ]
theorem fdiv_ten (n : Int) (k : Nat) : (n.fdiv (10 ^ k)).fdiv 10 = n.fdiv (10 ^ (k + 1)) := by
  have h1 : (0 : Int) ≤ 10 ^ k := Int.pow_nonneg (by decide)
  have h2 : (0 : Int) ≤ 10 ^ (k + 1) := Int.pow_nonneg (by decide)
  rw [Int.fdiv_eq_ediv_of_nonneg _ h1, Int.fdiv_eq_ediv_of_nonneg _ (by decide), Int.fdiv_eq_ediv_of_nonneg _ h2, Int.ediv_ediv_of_nonneg h1, Int.pow_succ]
theorem fdiv_one' (n : Int) : n.fdiv (10 ^ 0) = n := by simp
theorem figs_length (n : Int) (k : Nat) : (figs n k).length = k := by simp [figs]
noncomputable def FF (n : Int) (k : Nat) : Sig := [("number", .val (.int (n.fdiv (10 ^ k)))), ("told", .own (.lst ((figs n k).map .int)))]

theorem body_figures (G : Glb h₀ mg mb) (hr : Callee mg mb ("range" : Str) (.type "range")) (hd : Callee mg mb ("divmod" : Str) (.builtin "divmod")) (n : Int) :
    ExOK pw w h₀ d (scopeOf (stAt 14)) [("number", .val (.int n))] (bodyOf (stAt 14)) (.ret (.lst ((figs n 7).map .int))) := by
  refine ex_cons (st_assign_own (new_list evs_nil)) ?_
  have : Sub (FF n 0) (upd [("number", .val (.int n))] "told" (.own (.lst []))) := ⟨by simp [upd, List.lookup]; rfl, rfl, trivial⟩
  refine ex_pre ?_ this
  refine ex_cons (st_for (it_range G hr ev_int) (.inl ⟨_, _, rfl⟩) (turns_seq (FF n) (rng 0 7) 0 fun i p hp => ⟨_, asg_name, ?_⟩)) ?_
  · rw [Nat.zero_add]
    refine ex_post (ex_cons (st_assign_tgt (ev_call G hd (.inr (.inl ⟨_, rfl⟩)) (evs_cons (ev_name rfl) (evs_cons ev_int evs_nil)) (call_divmod (by decide) (no_pylong _ _ (by decide)))) (asg_tup (asgs_cons asg_name (asgs_cons asg_name asgs_nil))))
      (ex_one (st_append rfl (ev_name rfl) (by simp [figs_length]; have := (List.getElem?_eq_some_iff.mp hp).1; simp [rng] at this; exact Nat.le_trans (Nat.le_of_lt this) (by decide))))) ?_
    refine ⟨?_, ?_, trivial⟩
    · rw [← fdiv_ten]; rfl
    · rw [figs_succ, List.map_append]; rfl
  · refine ex_pre ?_ (show Sub [("told", .own (.lst ((figs n 7).map .int)))] _ from ⟨rfl, trivial⟩)
    exact ex_freeze (x := ("told" : Str)) (p := .lst ((figs n 7).map .int)) rfl (ex_one (st_return (ev_name rfl)))
end
end Mine.Internal

end PartC0
section PartC2
open PySem PySem.W PyProof.Rows
set_option Elab.async false
set_option maxRecDepth 100000
set_option linter.unusedVariables false
namespace Mine.Internal
noncomputable def sp (p : Str × Str) : PV := .tup [.str p.1, .str p.2]
noncomputable def ip (p : Int × Int) : PV := .tup [.int p.1, .int p.2]
noncomputable def dressT : List (Str × Str) := [("", ""), (",", ","), ("\\\"", "\""), ("\\\\", "\\"), ("=", "="), ("\\,", ",")]
noncomputable def dress (f : Int) : Str × Str := dressT[(f.fmod 6).toNat]?.getD ("", "")

theorem item_get {xs : List PV} {i : Int} {p : PV} (h0 : 0 ≤ i) (h : xs[i.toNat]? = some p) : item? (.lst xs) i = some p := by
  have hl := (List.getElem?_eq_some_iff.mp h).1
  show (seqIndex? i xs.length).bind (xs[·]?) = some p
  have : seqIndex? i xs.length = some i.toNat := by
    unfold seqIndex?
    have h1 : ¬ i < 0 := by omega
    have h2 : i < xs.length := by omega
    simp [h1, h0, h2]
  rw [this]; exact h
theorem item_get_t {xs : List PV} {i : Int} {p : PV} (h0 : 0 ≤ i) (h : xs[i.toNat]? = some p) : item? (.tup xs) i = some p := item_get h0 h
theorem down {n k : Nat} (h : n < k + 1) : n < k ∨ n = k := Nat.lt_succ_iff_lt_or_eq.1 h
theorem one0 {n : Nat} (h : n < 1) : n = 0 := Nat.lt_one_iff.1 h
theorem two {n : Nat} (h : n < 2) : n = 0 ∨ n = 1 := (down h).imp_left one0
theorem three {n : Nat} (h : n < 3) : n = 0 ∨ n = 1 ∨ n = 2 := (down h).elim (fun h => (two h).imp_right .inl) fun h => .inr (.inr h)
theorem four {n : Nat} (h : n < 4) : n = 0 ∨ n = 1 ∨ n = 2 ∨ n = 3 := (down h).elim (fun h => (three h).imp_right fun h => h.imp_right .inl) fun h => .inr (.inr (.inr h))
theorem five {n : Nat} (h : n < 5) : n = 0 ∨ n = 1 ∨ n = 2 ∨ n = 3 ∨ n = 4 := (down h).elim (fun h => (four h).imp_right fun h => h.imp_right fun h => h.imp_right .inl) fun h => .inr (.inr (.inr (.inr h)))
theorem six {n : Nat} (h : n < 6) : n = 0 ∨ n = 1 ∨ n = 2 ∨ n = 3 ∨ n = 4 ∨ n = 5 := (down h).elim (fun h => (five h).imp_right fun h => h.imp_right fun h => h.imp_right fun h => h.imp_right .inl) fun h => .inr (.inr (.inr (.inr (.inr h))))
theorem sixI {k : Int} (h : 0 ≤ k) (h' : k < 6) : k = 0 ∨ k = 1 ∨ k = 2 ∨ k = 3 ∨ k = 4 ∨ k = 5 := by
  obtain ⟨n, rfl⟩ := Int.eq_ofNat_of_zero_le h
  rcases six (Int.ofNat_lt.1 h') with rfl | rfl | rfl | rfl | rfl | rfl
  · exact .inl rfl
  · exact .inr (.inl rfl)
  · exact .inr (.inr (.inl rfl))
  · exact .inr (.inr (.inr (.inl rfl)))
  · exact .inr (.inr (.inr (.inr (.inl rfl))))
  · exact .inr (.inr (.inr (.inr (.inr rfl))))
theorem four_cases {k : Int} (h : 0 ≤ k) (h' : k < 4) : k = 0 ∨ k = 1 ∨ k = 2 ∨ k = 3 := by
  obtain ⟨n, rfl⟩ := Int.eq_ofNat_of_zero_le h
  rcases four (Int.ofNat_lt.1 h') with rfl | rfl | rfl | rfl
  · exact .inl rfl
  · exact .inr (.inl rfl)
  · exact .inr (.inr (.inl rfl))
  · exact .inr (.inr (.inr rfl))
theorem lo63 (n : Nat) : -(2 ^ 63) ≤ ((n : Nat) : Int) := by omega
theorem hi63 {n m : Nat} (h : n < m) (hm : m ≤ 1000) : ((n : Nat) : Int) < 2 ^ 63 := by omega
theorem in63 {a b : Int} (h : 0 ≤ a) (h' : a < b) (hb : b ≤ 1000) : -(2 ^ 63) ≤ a ∧ a < 2 ^ 63 := by omega
theorem fmod_range (a b : Int) (hb : 0 < b) : 0 ≤ a.fmod b ∧ a.fmod b < b := ⟨Int.fmod_nonneg_of_pos a hb, Int.fmod_lt_of_pos a hb⟩
theorem fm63 (f : Int) {m : Int} (h : 0 < m) (h' : m ≤ 1000) : -(2 ^ 63) ≤ f.fmod m ∧ f.fmod m < 2 ^ 63 := in63 (fmod_range f m h).1 (fmod_range f m h).2 h'
section
variable {prog : Program} {w : World} {h₀ : Heap} {d : Nat} {sc : Scope} {σ : Sig} {mg mb : Str → Option Value}
theorem ev_pairs {x y : Str} {k k' n : Nat} {p p' pos : Pos} : EvOK prog w h₀ d sc σ (.Tuple [.Constant (.str x) k p, .Constant (.str y) k' p'] n pos) (.tup [.str x, .str y]) := ev_tuple (evs_cons ev_str (evs_cons ev_str evs_nil)) (show 2 ≤ sizeLine by decide)
theorem evs_tup {es : List Expr} {ts : List Expr} {n : Nat} {pos : Pos} {p : PV} {ps : List PV} (h : EvOK prog w h₀ d sc σ (.Tuple ts n pos) p) (hr : EvsOK prog w h₀ d sc σ es ps) : EvsOK prog w h₀ d sc σ (.Tuple ts n pos :: es) (p :: ps) := evs_cons h hr
theorem body_dress (f : Int) : ExOK pw w h₀ d (scopeOf (stAt 16)) [("figure", .val (.int f))] (bodyOf (stAt 16)) (.ret (sp (dress f))) := by
  obtain ⟨h1, h2⟩ := fmod_range f 6 (by decide)
  have key : item? (.lst [.tup [.str "", .str ""], .tup [.str ",", .str ","], .tup [.str "\\\"", .str "\""], .tup [.str "\\\\", .str "\\"], .tup [.str "=", .str "="], .tup [.str "\\,", .str ","]]) (f.fmod 6) = some (sp (dress f)) := by
    have hl : (f.fmod 6).toNat < dressT.length := by show _ < 6; omega
    refine item_get h1 ?_
    show (dressT.map sp)[(f.fmod 6).toNat]? = _
    rw [List.getElem?_map, dress, List.getElem?_eq_getElem hl]; rfl
  generalize sp (dress f) = q at key ⊢
  generalize hg : f.fmod 6 = g at key h1 h2
  refine ex_stop (ss := []) ?_
  refine st_return ?_
  refine @ev_item pw w h₀ d _ _ _ _ _ _ q g ?_ ?_ key ?_ ?_ (by intro _ _; rfl)
  · clear key
    refine ev_list ?_ ?_
    · iterate 6 (refine @evs_tup _ _ _ _ _ _ _ _ _ _ _ _ (@ev_pairs _ _ _ _ _ _ _ _ _ _ _ _ _ _) ?_)
      exact @evs_nil _ _ _ _ _ _
    · exact (show 6 ≤ sizeLine by decide)
  · rw [← hg]; exact ev_bin (ev_name rfl) ev_int (bin_mod (by decide))
  · clear key; omega
  · clear key; omega
end
end Mine.Internal

end PartC2
section PartC1
open PySem PySem.W PyProof.Rows
set_option Elab.async false
set_option maxRecDepth 100000
set_option linter.unusedVariables false
namespace Mine.Internal
noncomputable def il (l : List Int) : PV := .lst (l.map .int)
noncomputable def sl (l : List Str) : PV := .lst (l.map .str)
noncomputable def base10 : List Int := [11016, 1102120, 2113203, 3010000, 8004115, 115026, 9, 2, 9, 4]
noncomputable def cellsStep (c : List Int) (pn : Nat × Int) : List Int := c.set (pn.1 % 10) (c.getD (pn.1 % 10) 0 + pn.2)
/- the cells after the first n of the script's numbers -/
noncomputable def cellsAt (script : List Int) (n : Nat) : List Int := ((script.take n).zipIdx.map fun p => (p.2, p.1)).foldl cellsStep base10
noncomputable def cellsOf (script : List Int) : List Int := cellsAt script script.length
theorem cells_step {script : List Int} {n : Nat} {x : Int} (h : script[n]? = some x) : cellsAt script (n + 1) = cellsStep (cellsAt script n) (n, x) := by
  have hn := (List.getElem?_eq_some_iff.mp h).1
  unfold cellsAt
  rw [List.take_add_one, h, Option.toList_some, List.zipIdx_append, List.map_append, List.foldl_append]
  simp only [List.length_take, Nat.zero_add, List.zipIdx_cons, List.zipIdx_nil, List.map_cons, List.map_nil, List.foldl_cons, List.foldl_nil]
  rw [Nat.min_eq_left (Nat.le_of_lt hn)]
theorem cellsStep_length (c : List Int) (p : Nat × Int) : (cellsStep c p).length = c.length := List.length_set
theorem cellsFold_length : ∀ (l : List (Nat × Int)) (c : List Int), (l.foldl cellsStep c).length = c.length
  | [], c => rfl
  | p :: l, c => by rw [List.foldl_cons, cellsFold_length l, cellsStep_length]
theorem cellsAt_length (script : List Int) (n : Nat) : (cellsAt script n).length = 10 := cellsFold_length _ _
noncomputable def CC (script : List Int) (n : Nat) : Sig := [("script", .val (il script)), ("cells", .own (il (cellsAt script n)))]
section
variable {prog : Program} {w : World} {h₀ : Heap} {d : Nat} {sc : Scope} {σ : Sig} {mg mb : Str → Option Value}
theorem ev_int' (i : Int) {k : Nat} {pos : Pos} : EvOK prog w h₀ d sc σ (.Constant (.int i) k pos) (.int i) := ev_int
theorem evs_int {i : Int} {k : Nat} {pos : Pos} {es : List Expr} {ps : List PV} (h : EvsOK prog w h₀ d sc σ es ps) : EvsOK prog w h₀ d sc σ (.Constant (.int i) k pos :: es) (.int i :: ps) := evs_cons ev_int h
theorem rng_get {a : Int} {n i : Nat} {p : PV} (h : (rng a n)[i]? = some p) : i < n ∧ p = .int (a + i) := by
  unfold rng at h
  rw [List.getElem?_map, Option.map_eq_some_iff] at h
  obtain ⟨j, h1, h2⟩ := h
  have := List.getElem?_range (n := n) (i := i) (by
    have := (List.getElem?_eq_some_iff.mp h1).1
    simpa using this)
  rw [this] at h1; cases h1
  exact ⟨by have := (List.getElem?_eq_some_iff.mp (this)).1; simpa using this, h2.symm⟩
theorem il_get {l : List Int} {i : Nat} {x : Int} (h : l[i]? = some x) : (l.map PV.int)[i]? = some (.int x) := by rw [List.getElem?_map, h]; rfl
theorem fmod_nat (i : Nat) (k : Nat) : ((i : Int).fmod (k : Int)) = ((i % k : Nat) : Int) := by
  rw [Int.fmod_eq_emod_of_nonneg _ (Int.natCast_nonneg k)]; rfl

theorem body_cells (G : Glb h₀ mg mb) (hr : Callee mg mb ("range" : Str) (.type "range")) (hl : Callee mg mb ("len" : Str) (.builtin "len")) (script : List Int) (hs : script.length ≤ 1000) :
    ExOK pw w h₀ d (scopeOf (stAt 13)) [("script", .val (il script))] (bodyOf (stAt 13)) (.ret (il (cellsOf script))) := by
  refine @ex_cons _ _ _ _ _ _ (upd [("script", .val (il script))] "cells" (.own (.lst (base10.map .int)))) _ _ _ (@st_assign_own _ _ _ _ _ _ _ _ _ _ _ (@new_list _ _ _ _ _ _ _ _ _ ?_ (show 10 ≤ sizeLine by decide)) (.inl rfl) (by intro _; rfl)) ?_
  · iterate 10 (refine @evs_int _ _ _ _ _ _ _ _ _ _ _ ?_)
    exact @evs_nil _ _ _ _ _ _
  have e0 : cellsAt script 0 = base10 := rfl
  refine ex_pre ?_ (show Sub (CC script 0) [("script", .val (il script)), ("cells", .own (.lst (base10.map .int)))] from ⟨rfl, by unfold il; rw [e0]; rfl, trivial⟩)
  have hz : script.length ≤ sizeLine := Nat.le_trans hs (by decide)
  refine ex_cons (st_for (it_range (n := script.length) G hr (ev_call G hl (.inr (.inl ⟨_, rfl⟩)) (evs_cons (ev_name rfl) evs_nil) (by have := call_len_l (prog := pw) (w := w) (h₀ := h₀) (d := d) (xs := script.map .int) (by simpa using hz); simpa [il] using this)) (by omega) (by omega))
    (.inl ⟨_, _, rfl⟩) (turns_seq (CC script) (rng 0 script.length) 0 fun i p hp => ⟨_, asg_name, ?_⟩)) ?_
  · obtain ⟨hi, rfl⟩ := rng_get hp
    rw [Nat.zero_add, Int.zero_add]
    have hx : script[i]? = some script[i] := List.getElem?_eq_getElem hi
    have hm : i % 10 < (cellsAt script i).length := by rw [cellsAt_length]; omega
    have hc : (cellsAt script i)[i % 10]? = some ((cellsAt script i).getD (i % 10) 0) := by rw [List.getD_eq_getElem?_getD, List.getElem?_eq_getElem hm]; rfl
    have key := @st_aug_item pw w h₀ d (scopeOf (stAt 13)) (upd (CC script i) "place" (.val (.int i)))
    refine ex_post (ex_one (st_aug_item (x := ("cells" : Str)) (k := ((i % 10 : Nat) : Int)) (xs := (cellsAt script i).map .int) (p := .int ((cellsAt script i).getD (i % 10) 0)) (q := .int script[i]) rfl ?_ (by omega) (by rw [List.length_map, cellsAt_length]; omega) ?_ ?_ inp_add (by omega))) ?_
    · rw [← fmod_nat]; exact ev_bin (ev_name rfl) ev_int (bin_mod (by decide))
    · rw [Int.toNat_natCast]; exact il_get hc
    · exact ev_item (ev_name (p := il script) rfl) (ev_name rfl) (item_get (by omega) (by rw [Int.toNat_natCast]; exact il_get hx)) (by omega) (by omega)
    · refine ⟨rfl, ?_, trivial⟩
      rw [Int.toNat_natCast, ← List.map_set]
      show some (Slot.own (.lst (((cellsAt script i).set (i % 10) _).map _))) = some (Slot.own (.lst ((cellsAt script (i + 1)).map _)))
      rw [cells_step hx]; rfl
  · rw [show (rng 0 script.length).length = script.length by simp [rng], Nat.zero_add]
    exact ex_freeze (x := ("cells" : Str)) (p := il (cellsOf script)) rfl (ex_one (st_return (ev_name rfl)))
end
end Mine.Internal

end PartC1
section PartC3
open PySem PySem.W PyProof.Rows
set_option Elab.async false
set_option maxRecDepth 100000
set_option linter.unusedVariables false
namespace Mine.Internal
noncomputable def fnOk (i : Nat) (xs : List Str) : Bool := xs.all (fun x => (scopeOf (stAt i)).names.lookup x == some .local || (scopeOf (stAt i)).names.lookup x == some .cell) && decide xs.Nodup && !(scopeOf (stAt i)).isGenerator
noncomputable abbrev Fn (h₀ : Heap) (mg mb : Str → Option Value) (i : Nat) (nm : Str) (xs : List Str) : Prop := ∃ a, FnI h₀ mg mb i nm a xs
section
variable {w : World} {h₀ : Heap} {d : Nat} {sc : Scope} {σ : Sig} {mg mb : Str → Option Value}
theorem call_of {i : Nat} {nm : Str} {a : Addr} {xs : List Str} {ps : List PV} {r : PV} (f : FnI h₀ mg mb i nm a xs) (G : Glb h₀ mg mb) (ok : fnOk i xs = true) (hl : ps.length = xs.length)
    (hb : ExOK pw w h₀ d (scopeOf (stAt i)) (xs.zip (ps.map Slot.val)) (bodyOf (stAt i)) (.ret r)) : CallOK pw w h₀ (d + 1) (.ref a) ps r := by
  unfold fnOk at ok
  simp only [Bool.and_eq_true, List.all_eq_true, Bool.or_eq_true, beq_iff_eq, decide_eq_true_eq, Bool.not_eq_true'] at ok
  exact f.call G hl hb ok.1.1 ok.1.2 ok.2
theorem ev_fn {i : Nat} {nm : Str} {xs : List Str} {ps : List PV} {r : PV} {args : List Expr} {xpos pos : Pos} (f : Fn h₀ mg mb i nm xs) (G : Glb h₀ mg mb) (ok : fnOk i xs = true) (hargs : EvsOK pw w h₀ (d + 1) sc σ args ps)
    (hb : ExOK pw w h₀ d (scopeOf (stAt i)) (xs.zip (ps.map Slot.val)) (bodyOf (stAt i)) (.ret r)) (hl : ps.length = xs.length := by rfl)
    (hx : sc.names.lookup nm = some .globalImplicit := by rfl) (hd : (nm == ("__debug__" : Str)) = false := by rfl) (hp : ∀ env, (starEach args env).all (fun x => !x.1) = true := by intro _; rfl) (hn : ∀ env, ∃ t r, starEach args env = (false, t) :: r := by intro _; exact ⟨_, _, rfl⟩) :
    EvOK pw w h₀ (d + 1) sc σ (.Call (.Name nm xpos) args [] pos) r := by
  obtain ⟨a, f⟩ := f
  exact ev_call G f.at_ f.kind hargs (call_of f G ok hl hb) hx hd hp hn
theorem part_none : PartOK pw w h₀ d sc σ none none := trivial
theorem part_some {e : Expr} {i : Int} (h : EvOK pw w h₀ d sc σ e (.int i)) : PartOK pw w h₀ d sc σ (some e) (some i) := h
theorem ok14 : fnOk 14 ["number"] = true := by decide +kernel
theorem ok16 : fnOk 16 ["figure"] = true := by decide +kernel
theorem ev_figures {e : Expr} {xpos pos : Pos} {n : Int} (G : Glb h₀ mg mb) (hr : Callee mg mb ("range" : Str) (.type "range")) (hd : Callee mg mb ("divmod" : Str) (.builtin "divmod")) (f : Fn h₀ mg mb 14 "_law_figures" ["number"]) (he : EvOK pw w h₀ (d + 1) sc σ e (.int n))
    (hx : sc.names.lookup ("_law_figures" : Str) = some .globalImplicit := by rfl) (hs : ∀ env, starEach [e] env = [(false, eval e env)] := by intro _; rfl) :
    EvOK pw w h₀ (d + 1) sc σ (.Call (.Name ("_law_figures" : Str) xpos) [e] [] pos) (il (figs n 7)) :=
  ev_fn f G ok14 (evs_cons he evs_nil hs) (body_figures G hr hd n) rfl hx rfl (fun env => by rw [hs]; rfl) (fun env => ⟨_, _, hs env⟩)
theorem ev_dress {e : Expr} {xpos pos : Pos} {n : Int} (G : Glb h₀ mg mb) (f : Fn h₀ mg mb 16 "_law_dress" ["figure"]) (he : EvOK pw w h₀ (d + 1) sc σ e (.int n))
    (hx : sc.names.lookup ("_law_dress" : Str) = some .globalImplicit) (hs : ∀ env, starEach [e] env = [(false, eval e env)]) :
    EvOK pw w h₀ (d + 1) sc σ (.Call (.Name ("_law_dress" : Str) xpos) [e] [] pos) (sp (dress n)) :=
  @ev_fn _ _ _ _ _ _ _ _ _ _ _ _ _ _ _ f G ok16 (evs_cons he evs_nil hs) (@body_dress w h₀ d n) rfl hx rfl (fun env => by rw [hs]; rfl) (fun env => ⟨_, _, hs env⟩)
end
/- one of the seven lowest figures -/
noncomputable def fig (n : Int) (i : Nat) : Int := (n.fdiv (10 ^ i)).fmod 10
theorem figs_eq (n : Int) (k : Nat) : figs n k = (List.range k).map (fig n) := rfl
theorem fig_range (n : Int) (i : Nat) : 0 ≤ fig n i ∧ fig n i < 10 := fmod_range _ _ (by decide)
theorem figs_get {n : Int} {k i : Nat} (h : i < k) : ((figs n k).map PV.int)[i]? = some (.int (fig n i)) := by
  rw [figs_eq, List.getElem?_map, List.getElem?_map, List.getElem?_range h]; rfl
theorem slice7 (a b c d e f g : PV) : slice? (.lst [a, b, c, d, e, f, g]) none (some 3) none = some (.lst [a, b, c]) := by rfl
theorem figs_slice3 (n : Int) : slice? (il (figs n 7)) none (some 3) none = some (.lst [.int (fig n 0), .int (fig n 1), .int (fig n 2)]) := by
  have h : (figs n 7).map PV.int = [.int (fig n 0), .int (fig n 1), .int (fig n 2), .int (fig n 3), .int (fig n 4), .int (fig n 5), .int (fig n 6)] := by rw [figs_eq]; simp [List.range_succ]
  unfold il
  rw [h]; exact slice7 ..
noncomputable def planF : List (Int × Int) := [(0, 1), (2, 3), (0, 2), (1, 3), (1, 2), (0, 3)]
noncomputable def planN : List (Int × Int) := [(0, 1), (1, 2), (2, 3), (0, 1), (1, 2), (0, 1)]
noncomputable def nearOf (cells : List Int) : Bool := (cells.getD 0 0).fmod 2 == 0
noncomputable def planOf (cells : List Int) : List (Int × Int) := if nearOf cells then planN else planF
noncomputable def pairAt (cells : List Int) (i : Nat) : Int × Int :=
  if fig (cells.getD i 0) 0 < 7 then (planOf cells).getD i (0, 0)
  else if nearOf cells then ((fig (cells.getD i 0) 1).fmod 3, (fig (cells.getD i 0) 1).fmod 3 + 1)
  else ((fig (cells.getD i 0) 1).fmod 4, (fig (cells.getD i 0) 1 + 1 + (fig (cells.getD i 0) 2).fmod 3).fmod 4)
noncomputable def pairsOf (cells : List Int) : List (Int × Int) := (List.range 6).map (pairAt cells)
noncomputable def pl (l : List (Int × Int)) : PV := .lst (l.map ip)
noncomputable def FP (cells : List Int) (n : Nat) : Sig := [("cells", .val (il cells)), ("near", .val (.bool (nearOf cells))), ("plan", .val (pl (planOf cells))), ("pairs", .own (pl ((List.range n).map (pairAt cells))))]
section
variable {w : World} {h₀ : Heap} {d : Nat} {sc : Scope} {σ : Sig} {mg mb : Str → Option Value}
theorem evs_ip {prog : Program} {i j : Int} {k k' n : Nat} {p p' pos : Pos} {es : List Expr} {ps : List (Int × Int)} (h : EvsOK prog w h₀ d sc σ es (ps.map ip)) : EvsOK prog w h₀ d sc σ (.Tuple [.Constant (.int i) k p, .Constant (.int j) k' p'] n pos :: es) (((i, j) :: ps).map ip) :=
  evs_cons (ev_tuple (evs_cons ev_int (evs_cons ev_int evs_nil)) (show 2 ≤ sizeLine by decide)) h
theorem pairs_next (cells : List Int) (n : Nat) : (List.range (n + 1)).map (pairAt cells) = (List.range n).map (pairAt cells) ++ [pairAt cells n] := by rw [List.range_succ, List.map_append]; rfl
theorem body_pairs (G : Glb h₀ mg mb) (hr : Callee mg mb ("range" : Str) (.type "range")) (hd : Callee mg mb ("divmod" : Str) (.builtin "divmod")) (f : Fn h₀ mg mb 14 "_law_figures" ["number"]) (cells : List Int) (hc : cells.length = 10) :
    ExOK pw w h₀ (d + 1) (scopeOf (stAt 15)) [("cells", .val (il cells))] (bodyOf (stAt 15)) (.ret (pl (pairsOf cells))) := by
  have hget : ∀ {i : Nat}, i < 10 → ∀ (k : Int), k = (i : Int) → item? (il cells) k = some (.int (cells.getD i 0)) := fun {i} hi k hk => by
    subst hk
    refine item_get (by omega) ?_
    rw [Int.toNat_natCast]
    refine il_get ?_
    rw [List.getD_eq_getElem?_getD, List.getElem?_eq_getElem (by omega)]; rfl
  refine ex_cons (st_assign (p := .bool (nearOf cells)) (ev_cmp (ev_bin (ev_item (ev_name rfl) ev_int (hget (i := 0) (by decide) _ rfl) (by decide) (by decide)) ev_int (bin_mod (by decide))) ev_int cmp_eqi)) ?_
  refine @ex_cons _ _ _ _ _ _ (upd (upd [("cells", .val (il cells))] "near" (.val (.bool (nearOf cells)))) "plan" (.val (pl planF))) _ _ _ (@st_assign _ _ _ _ _ _ _ _ _ _ _ (@ev_list _ _ _ _ _ _ _ _ _ ?_ (by exact (show 6 ≤ sizeLine by decide))) (.inl rfl) (by intro _; rfl)) ?_
  · iterate 6 (refine @evs_ip _ _ _ _ _ _ _ _ _ _ _ _ _ _ _ _ ?_)
    exact @evs_nil _ _ _ _ _ _
  have hplan : ExSt pw w h₀ (d + 1) (scopeOf (stAt 15)) (upd (upd [("cells", .val (il cells))] "near" (.val (.bool (nearOf cells)))) "plan" (.val (pl planF))) ((bodyOf (stAt 15))[2]?.getD (.Pass default))
      (.next [("cells", .val (il cells)), ("near", .val (.bool (nearOf cells))), ("plan", .val (pl (planOf cells)))]) := by
    refine @st_if _ _ _ _ _ _ _ _ _ _ (nearOf cells) _ (@tst_val _ _ _ _ _ _ _ _ _ (@ev_name _ _ _ _ _ _ _ _ _ (by rfl) (by rfl) (by rfl)) truth_bool (by intro _ _; rfl)) (fun hb => ?_) (fun hb => ?_)
    · refine @ex_post _ _ _ _ _ _ (upd (upd (upd [("cells", .val (il cells))] "near" (.val (.bool (nearOf cells)))) "plan" (.val (pl planF))) "plan" (.val (pl planN))) _ _ (@ex_cons _ _ _ _ _ _ _ _ _ _ (@st_assign _ _ _ _ _ _ _ _ _ _ _ (@ev_list _ _ _ _ _ _ _ _ _ ?_ (by exact (show 6 ≤ sizeLine by decide))) (.inl rfl) (by intro _; rfl)) ex_nil) ⟨rfl, rfl, by unfold planOf; rw [hb]; rfl, trivial⟩
      iterate 6 (refine @evs_ip _ _ _ _ _ _ _ _ _ _ _ _ _ _ _ _ ?_)
      exact @evs_nil _ _ _ _ _ _
    · exact ex_end ⟨rfl, rfl, by unfold planOf; rw [hb]; rfl, trivial⟩
  refine @ex_cons _ _ _ _ _ _ _ _ _ _ hplan ?_
  refine @ex_cons _ _ _ _ _ _ _ _ _ _ (@st_assign_own _ _ _ _ _ _ _ _ _ _ _ (@new_list _ _ _ _ _ _ _ _ _ evs_nil (by decide)) (.inl rfl) (by intro _; rfl)) ?_
  refine ex_pre ?_ (show Sub (FP cells 0) _ from ⟨rfl, rfl, rfl, rfl, trivial⟩)
  refine ex_cons (st_for (it_range (n := 6) G hr ev_int (by decide) (by decide)) (.inl ⟨_, _, rfl⟩) (turns_seq (FP cells) (rng 0 6) 0 fun i p hp => ⟨_, asg_name, ?_⟩)) ?_
  · obtain ⟨hi, rfl⟩ := rng_get hp
    rw [Nat.zero_add, Int.zero_add]
    have hi10 : i < 10 := Nat.lt_trans hi (by decide)
    have hrow : (planOf cells).length = 6 := by unfold planOf; split <;> rfl
    have hsz : ((List.range i).map (pairAt cells)).length ≤ sizeLine := by rw [List.length_map, List.length_range]; exact Nat.le_trans (Nat.le_of_lt hi10) (by decide)
    have hsz' : (((List.range i).map (pairAt cells)).map ip).length ≤ sizeLine := by rw [List.length_map]; exact hsz
    generalize hn : cells.getD i 0 = n
    have fin : ∀ {σ : Sig} {p : PV}, p = ip (pairAt cells i) → σ.lookup ("cells" : Str) = some (Slot.val (il cells)) → σ.lookup ("near" : Str) = some (Slot.val (.bool (nearOf cells))) → σ.lookup ("plan" : Str) = some (Slot.val (pl (planOf cells))) →
        Sub (FP cells (i + 1)) (upd σ "pairs" (.own (.lst (((List.range i).map (pairAt cells)).map ip ++ [p])))) := fun hp h1 h2 h3 => by
      refine ⟨?_, ?_, ?_, ?_, trivial⟩
      · rw [upd_lookup]; exact h1
      · rw [upd_lookup]; exact h2
      · rw [upd_lookup]; exact h3
      · rw [upd_lookup, hp]; unfold pl; rw [pairs_next, List.map_append]; rfl
    refine ex_cons (st_assign_tgt (ev_slice (l := none) (u := some 3) (k := none) (ev_figures G hr hd f (ev_item (ev_name rfl) (ev_name rfl) (hget hi10 _ rfl) (lo63 i) (hi63 hi10 (by decide)))) part_none (part_some ev_int) part_none (figs_slice3 _) (show ((figs _ 7).map PV.int).length ≤ sizeLine by rw [List.length_map, figs_length]; decide))
      (asg_tup_list (asgs_cons asg_name (asgs_cons asg_name (asgs_cons asg_name asgs_nil))))) ?_
    rw [hn]
    refine ex_one (st_if (c := decide (fig n 0 < 7)) (tst_cmp (ev_name rfl) ev_int cmp_lti) (fun hc0 => ?_) (fun hc0 => ?_))
    · refine ex_post (ex_one (st_append (x := ("pairs" : Str)) rfl (ev_item (p := pl (planOf cells)) (r := ip ((planOf cells).getD i (0, 0))) (ev_name rfl) (ev_name rfl) (item_get (Int.natCast_nonneg _) ?_) (lo63 i) (hi63 hi10 (by decide))) hsz')) (fin ?_ rfl rfl rfl)
      · rw [Int.toNat_natCast, List.getElem?_map, List.getD_eq_getElem?_getD, List.getElem?_eq_getElem (by rw [hrow]; exact hi)]; rfl
      · unfold pairAt; rw [hn, if_pos (of_decide_eq_true hc0)]
    · refine ex_one (st_if (c := nearOf cells) (tst_val (ev_name rfl) truth_bool) (fun hc1 => ?_) (fun hc1 => ?_))
      · refine ex_post (ex_one (st_append (x := ("pairs" : Str)) rfl (ev_tuple (evs_cons (ev_bin (ev_name rfl) ev_int (bin_mod (by decide))) (evs_cons (ev_bin (ev_bin (ev_name rfl) ev_int (bin_mod (by decide))) ev_int bin_add) evs_nil)) (show 2 ≤ sizeLine by decide)) hsz')) (fin ?_ rfl rfl rfl)
        unfold pairAt; rw [hn, if_neg (of_decide_eq_false hc0), if_pos hc1]; rfl
      · refine ex_post (ex_one (st_append (x := ("pairs" : Str)) rfl (ev_tuple (evs_cons (ev_bin (ev_name rfl) ev_int (bin_mod (by decide))) (evs_cons (ev_bin (ev_bin (ev_bin (ev_name rfl) ev_int bin_add) (ev_bin (ev_name rfl) ev_int (bin_mod (by decide))) bin_add) ev_int (bin_mod (by decide))) evs_nil)) (show 2 ≤ sizeLine by decide)) hsz')) (fin ?_ rfl rfl rfl)
        unfold pairAt; rw [hn, if_neg (of_decide_eq_false hc0), if_neg (by rw [hc1]; exact Bool.false_ne_true)]; rfl
  · exact ex_freeze (x := ("pairs" : Str)) (p := pl (pairsOf cells)) rfl (ex_one (st_return (ev_name rfl)))
end
end Mine.Internal

end PartC3
section PartC4
open PySem PySem.W PyProof.Rows
set_option Elab.async false
set_option maxRecDepth 100000
set_option linter.unusedVariables false
namespace Mine.Internal
noncomputable def abc (c : Int) : Str := if c.fmod 2 == 0 then "ABCD" else "abcd"
noncomputable def keyOf (c k : Int) : Str := ⟨#[(Txt.charAt (abc c) k).getD 0]⟩
noncomputable def whites4 : List Str := [" ", "\t", "\n", "  "]
noncomputable def whiteOf (f : Int) : Str := whites4.getD (f.fmod 4).toNat " "
noncomputable def gapOf (f : Int) : Str := Txt.mul " " (f.fdiv 8)
noncomputable def tyItem (n : Int) (pr : Int × Int) : Str := keyOf (fig n 4) pr.1 ++ "=\"" ++ keyOf (fig n 5) pr.2 ++ (dress (fig n 3)).1 ++ "\"" ++ gapOf (fig n 6) ++ "," ++ whiteOf (fig n 6)
noncomputable def typedAt (cells : List Int) (prs : List (Int × Int)) (n : Nat) : Str := (List.range n).foldl (fun l i => l ++ tyItem (cells.getD i 0) (prs.getD i (0, 0))) " "
noncomputable def FTy (cells : List Int) (prs : List (Int × Int)) (n : Nat) : Sig := [("cells", .val (il cells)), ("pairs", .val (pl prs)), ("line", .val (.str (typedAt cells prs n)))]
theorem two_cases (c : Int) : c.fmod 2 = 0 ∨ c.fmod 2 = 1 := by
  obtain ⟨h, h'⟩ := fmod_range c 2 (by decide)
  obtain ⟨n, e⟩ := Int.eq_ofNat_of_zero_le h
  rw [e] at h' ⊢
  exact (two (Int.ofNat_lt.1 h')).imp (congrArg _) (congrArg _)
theorem abc_item (c : Int) : item? (.lst [.str "ABCD", .str "abcd"]) (c.fmod 2) = some (.str (abc c)) := by
  unfold abc
  rcases two_cases c with h | h <;> rw [h]
  · exact item_get (by decide) rfl
  · exact item_get (by decide) rfl
theorem key_item (c : Int) {k : Int} (h : 0 ≤ k) (h' : k < 4) : item? (.str (abc c)) k = some (.str (keyOf c k)) := by
  have : (Txt.charAt (abc c) k).isSome = true := by
    unfold abc
    rcases two_cases c with e | e <;> rw [e] <;> rcases four_cases h h' with rfl | rfl | rfl | rfl <;> decide +kernel
  obtain ⟨q, hq⟩ := Option.isSome_iff_exists.mp this
  show (Txt.charAt (abc c) k).map (fun c => PV.str ⟨#[c]⟩) = _
  unfold keyOf
  rw [hq]; rfl
theorem white_item (f : Int) : item? (.lst [.str " ", .str "\t", .str "\n", .str "  "]) (f.fmod 4) = some (.str (whiteOf f)) := by
  obtain ⟨h, h'⟩ := fmod_range f 4 (by decide)
  unfold whiteOf
  rcases four_cases h h' with e | e | e | e <;> rw [e] <;> exact item_get (by decide) rfl
theorem white_len (f : Int) : (whiteOf f).length ≤ 2 := by
  obtain ⟨h, h'⟩ := fmod_range f 4 (by decide)
  unfold whiteOf
  rcases four_cases h h' with e | e | e | e <;> rw [e] <;> decide +kernel
theorem dress_len (f : Int) : (dress f).1.length ≤ 2 ∧ (dress f).2.length ≤ 1 := by
  obtain ⟨h, h'⟩ := fmod_range f 6 (by decide)
  unfold dress
  have := sixI h h'
  rcases this with e | e | e | e | e | e <;> rw [e] <;> decide +kernel
theorem fdiv8 (n : Int) (i : Nat) : (fig n i).fdiv 8 = 0 ∨ (fig n i).fdiv 8 = 1 := by
  obtain ⟨h, h'⟩ := fig_range n i
  rw [Int.fdiv_eq_ediv_of_nonneg _ (by decide)]; omega
theorem gap_len (n : Int) (i : Nat) : (gapOf (fig n i)).length ≤ 1 := by
  unfold gapOf
  rcases fdiv8 n i with e | e <;> rw [e] <;> decide +kernel
theorem mulOk_one {x : Str} {n : Int} (hx : x.length = 1) (h : 0 ≤ n) (h' : n ≤ 1000) : MulOk x n := by
  refine ⟨?_, fun h1 _ => ?_, fun h1 _ => ?_⟩
  · rw [decide_eq_false (by omega), decide_eq_false (by omega)]; rfl
  · rw [hx]
    have : (1 : Int) ≤ (2 ^ 63 - 1) / n := Int.le_ediv_of_mul_le (by omega) (by omega)
    omega
  · rw [hx]
    unfold Builtin.Str.tooLong sizeLine
    exact decide_eq_false (by omega)
theorem typed_step (cells : List Int) (prs : List (Int × Int)) (n : Nat) : typedAt cells prs (n + 1) = typedAt cells prs n ++ tyItem (cells.getD n 0) (prs.getD n (0, 0)) := by
  unfold typedAt; rw [List.range_succ, List.foldl_append]; rfl
theorem str_len (a b : Str) : (a ++ b).length = a.length + b.length := Str.length_append ..
theorem ty_len (n : Int) (p : Int × Int) : (tyItem n p).length ≤ 12 := by
  have h1 := white_len (fig n 6)
  have h2 := (dress_len (fig n 3)).1
  have h3 := gap_len n 6
  have a1 : ("=\"" : Str).length = 2 := by decide +kernel
  have a2 : ("\"" : Str).length = 1 := by decide +kernel
  have a3 : ("," : Str).length = 1 := by decide +kernel
  have a4 : ∀ c k, (keyOf c k).length = 1 := fun _ _ => rfl
  unfold tyItem
  simp only [str_len, a1, a2, a3, a4]
  omega
theorem typed_len (cells : List Int) (prs : List (Int × Int)) : ∀ n : Nat, (typedAt cells prs n).length ≤ 1 + 12 * n
  | 0 => show (" " : Str).length ≤ 1 by decide +kernel
  | n + 1 => by
    have := typed_len cells prs n
    have h := ty_len (cells.getD n 0) (prs.getD n (0, 0))
    rw [typed_step, str_len]; omega
section
variable {prog : Program} {w : World} {h₀ : Heap} {d : Nat} {sc : Scope} {σ : Sig} {mg mb : Str → Option Value}
theorem evs_str {x : Str} {k : Nat} {pos : Pos} {es : List Expr} {ps : List PV} (h : EvsOK prog w h₀ d sc σ es ps) : EvsOK prog w h₀ d sc σ (.Constant (.str x) k pos :: es) (.str x :: ps) := evs_cons ev_str h
theorem ev_adds {l r : Expr} {pos : Pos} {x y : Str} {n m : Nat} (hl : EvOK prog w h₀ d sc σ l (.str x) ∧ x.length ≤ n) (hr : EvOK prog w h₀ d sc σ r (.str y) ∧ y.length ≤ m) (h : n + m ≤ sizeLine) : EvOK prog w h₀ d sc σ (.BinOp l .Add r pos) (.str (x ++ y)) ∧ (x ++ y).length ≤ n + m :=
  ⟨ev_bin hl.1 hr.1 (bin_adds (by omega)), by rw [str_len]; omega⟩
theorem body_typed (G : Glb h₀ mg mb) (hr : Callee mg mb ("range" : Str) (.type "range")) (hd : Callee mg mb ("divmod" : Str) (.builtin "divmod")) (f : Fn h₀ mg mb 14 "_law_figures" ["number"]) (fd : Fn h₀ mg mb 16 "_law_dress" ["figure"])
    (cells : List Int) (hc : cells.length = 10) (prs : List (Int × Int)) (hp : prs.length = 6) (hp4 : ∀ p ∈ prs, 0 ≤ p.1 ∧ p.1 < 4 ∧ 0 ≤ p.2 ∧ p.2 < 4) :
    ExOK pw w h₀ (d + 1) (scopeOf (stAt 17)) [("cells", .val (il cells)), ("pairs", .val (pl prs))] (bodyOf (stAt 17)) (.ret (.str (typedAt cells prs 6))) := by
  refine ex_cons (st_assign ev_str) ?_
  refine ex_pre ?_ (show Sub (FTy cells prs 0) _ from ⟨rfl, rfl, rfl, trivial⟩)
  refine ex_cons (st_for (it_range (n := 6) G hr ev_int (by decide) (by decide)) (.inl ⟨_, _, rfl⟩) (turns_seq (FTy cells prs) (rng 0 6) 0 fun i p hp => ⟨_, asg_name, ?_⟩)) ?_
  · obtain ⟨hi, rfl⟩ := rng_get hp
    rw [Nat.zero_add, Int.zero_add]
    have hpr : (prs.getD i (0, 0)) ∈ prs := by rw [List.getD_eq_getElem?_getD, List.getElem?_eq_getElem (by omega)]; exact List.getElem_mem _
    have hprs : prs[i]? = some (prs.getD i (0, 0)) := by rw [List.getD_eq_getElem?_getD, List.getElem?_eq_getElem (by omega)]; rfl
    obtain ⟨p1, p2, p3, p4⟩ := hp4 _ hpr
    have hitem : ∀ (k : Int), k = (i : Int) → item? (il cells) k = some (.int (cells.getD i 0)) := fun k hk => by
      subst hk
      refine item_get (Int.natCast_nonneg _) ?_
      rw [Int.toNat_natCast]
      refine il_get ?_
      rw [List.getD_eq_getElem?_getD, List.getElem?_eq_getElem (by omega)]; rfl
    have hpair : ∀ (k : Int), k = (i : Int) → item? (pl prs) k = some (ip (prs.getD i (0, 0))) := fun k hk => by
      subst hk
      refine item_get (Int.natCast_nonneg _) ?_
      rw [Int.toNat_natCast, List.getElem?_map, hprs]; rfl
    have hfit := typed_len cells prs i
    have hstep := typed_step cells prs i
    generalize hn : cells.getD i 0 = n at hitem hstep
    generalize hq : prs.getD i (0, 0) = q at hpair p1 p2 p3 p4 hstep
    have hfg : ∀ j : Nat, j < 7 → ∀ k : Int, k = (j : Int) → item? (il (figs n 7)) k = some (.int (fig n j)) := fun j hj k hk => by
      subst hk
      exact item_get (Int.natCast_nonneg _) (by rw [Int.toNat_natCast]; exact figs_get hj)
    refine ex_cons (st_assign (ev_figures G hr hd f (ev_item (p := il cells) (ev_name rfl) (ev_name rfl) (hitem _ rfl) (lo63 i) (hi63 hi (by decide))))) ?_
    refine @ex_cons _ _ _ _ _ _ _ _ _ _ (@st_assign _ _ _ _ _ _ _ _ _ _ _ (ev_item (ev_item (ev_list (evs_str (evs_str evs_nil)) (show 2 ≤ sizeLine by decide)) (ev_bin (ev_item (p := il (figs n 7)) (ev_name rfl) ev_int (hfg 4 (by decide) _ rfl) (by decide) (by decide)) ev_int (bin_mod (by decide))) (abc_item _) (fm63 _ (by decide) (by decide)).1 (fm63 _ (by decide) (by decide)).2)
      (ev_item (ev_item (p := pl prs) (ev_name rfl) (ev_name rfl) (hpair _ rfl) (lo63 i) (hi63 hi (by decide))) ev_int (item_get_t (by decide) rfl) (by decide) (by decide)) (key_item _ p1 p2) (in63 p1 p2 (by decide)).1 (in63 p1 p2 (by decide)).2) (.inl rfl) (by intro _; rfl)) ?_
    refine @ex_cons _ _ _ _ _ _ _ _ _ _ (@st_assign _ _ _ _ _ _ _ _ _ _ _ (ev_item (ev_item (ev_list (evs_str (evs_str evs_nil)) (show 2 ≤ sizeLine by decide)) (ev_bin (ev_item (p := il (figs n 7)) (ev_name rfl) ev_int (hfg 5 (by decide) _ rfl) (by decide) (by decide)) ev_int (bin_mod (by decide))) (abc_item _) (fm63 _ (by decide) (by decide)).1 (fm63 _ (by decide) (by decide)).2)
      (ev_item (ev_item (p := pl prs) (ev_name rfl) (ev_name rfl) (hpair _ rfl) (lo63 i) (hi63 hi (by decide))) ev_int (item_get_t (by decide) rfl) (by decide) (by decide)) (key_item _ p3 p4) (in63 p3 p4 (by decide)).1 (in63 p3 p4 (by decide)).2) (.inl rfl) (by intro _; rfl)) ?_
    refine @ex_cons _ _ _ _ _ _ _ _ _ _ (@st_assign _ _ _ _ _ _ _ _ _ _ _ (ev_item (@ev_list _ _ _ _ _ _ _ _ _ (evs_str (evs_str (evs_str (evs_str evs_nil)))) (by exact (show 4 ≤ sizeLine by decide))) (ev_bin (ev_item (p := il (figs n 7)) (ev_name rfl) ev_int (hfg 6 (by decide) _ rfl) (by decide) (by decide)) ev_int (bin_mod (by decide))) (white_item _) (fm63 _ (by decide) (by decide)).1 (fm63 _ (by decide) (by decide)).2) (.inl rfl) (by intro _; rfl)) ?_
    have h1 := white_len (fig n 6)
    have h2 := (dress_len (fig n 3)).1
    have h3 := gap_len n 6
    have a1 : ("=\"" : Str).length ≤ 2 := by decide +kernel
    have a2 : ("\"" : Str).length ≤ 1 := by decide +kernel
    have a3 : ("," : Str).length ≤ 1 := by decide +kernel
    have a4 : ∀ c k, (keyOf c k).length ≤ 1 := fun _ _ => Nat.le_refl 1
    have a5 : (gapOf (fig n 6)).length ≤ 1 := h3
    have hmul : MulOk " " ((fig n 6).fdiv 8) := mulOk_one (by decide +kernel) (by rcases fdiv8 n 6 with e | e <;> rw [e] <;> decide) (by rcases fdiv8 n 6 with e | e <;> rw [e] <;> decide)
    refine ex_post (ex_one (st_aug (x := ("line" : Str)) (p := .str (typedAt cells prs i)) rfl
      (ev_adds (ev_adds (ev_adds (ev_adds (ev_adds (ev_adds (ev_adds ⟨ev_name rfl, a4 _ _⟩ ⟨ev_str, a1⟩ (by decide)) ⟨ev_name rfl, a4 _ _⟩ (by decide)) ⟨ev_item (ev_dress G fd (ev_item (p := il (figs n 7)) (ev_name rfl) ev_int (hfg 3 (by decide) _ rfl) (by decide) (by decide)) rfl (fun _ => rfl)) ev_int (item_get_t (by decide) rfl) (by decide) (by decide), h2⟩ (by decide)) ⟨ev_str, a2⟩ (by decide))
        ⟨ev_bin ev_str (ev_bin (ev_item (p := il (figs n 7)) (ev_name rfl) ev_int (hfg 6 (by decide) _ rfl) (by decide) (by decide)) ev_int (bin_fdiv (by decide) (no_pylong _ _ (by decide)))) (bin_muls hmul), a5⟩ (by decide)) ⟨ev_str, a3⟩ (by decide)) ⟨ev_name rfl, h1⟩ (by decide)).1 (inp_adds ?_))) ⟨rfl, rfl, ?_, trivial⟩
    · have := ty_len n q
      have e : (16777216 : Nat) = sizeLine := by decide
      show (typedAt cells prs i).length + (tyItem n q).length ≤ sizeLine
      omega
    · rw [hstep]; rfl
  · exact ex_one (st_return (ev_name rfl))
end
end Mine.Internal

end PartC4
section PartC5
open PySem PySem.W PyProof.Rows
set_option Elab.async false
set_option maxRecDepth 100000
set_option linter.unusedVariables false
namespace Mine.Internal
section
variable {w : World} {prog : Program} {h₀ : Heap} {d : Nat} {sc : Scope} {σ : Sig} {mg mb : Str → Option Value} {F : Frag}
theorem ev_make0 {x : Str} {xpos pos : Pos} {f : Value} {r : PV} (G : Glb h₀ mg mb) (X : F.In h₀) (hc : Callee mg mb x f) (hf : keepIn F f = true) (h : CallNew prog w h₀ d f [] r)
    (hx : sc.names.lookup x = some .globalImplicit) (hd : (x == ("__debug__" : Str)) = false) :
    EvNew prog w h₀ d sc σ (.Call (.Name x xpos) [] [] pos) r := fun A env K s R W hA hE hS => by
  refine wpAny_Call_NameR (callee_name G hE hS hc hx hd ?_)
  exact callWith_K0 (first := []) (In.ok X hS.ok) hf (h A K s [] hA hS.ok .nil)
theorem ev_make {x : Str} {xpos pos : Pos} {f : Value} {e : Expr} {p : PV} {r : PV} (G : Glb h₀ mg mb) (X : F.In h₀) (hc : Callee mg mb x f) (hf : keepIn F f = true) (he : EvOK prog w h₀ d sc σ e p) (h : CallNew prog w h₀ d f [p] r)
    (hx : sc.names.lookup x = some .globalImplicit) (hd : (x == ("__debug__" : Str)) = false) (hs : ∀ env, starEach [e] env = (false, eval e env) :: starEach [] env) :
    EvNew prog w h₀ d sc σ (.Call (.Name x xpos) [e] [] pos) r := fun A env K s R W hA hE hS => by
  refine wpAny_Call_NameR (callee_name G hE hS hc hx hd ?_)
  refine callWith_K (h₀ := h₀) (first := []) X hf (wpAny_mono ((evs_cons he evs_nil hs) A env K s R W pos hA hE hS) (fun vs s' ⟨K', st, rs⟩ => ⟨In.ok X (hS.step st).ok, ?_⟩) fun _ _ x => x) (hs env) (by rfl)
  refine wpAny_mono (h A K' s' vs hA (hS.step st).ok rs) (fun v s₂ h₂ => ?_) fun _ _ x => x
  obtain ⟨K₂, l, st₂, ow, fr⟩ := h₂
  refine ⟨K₂, l, st.trans st₂, ow, fun a ha => ?_⟩
  cases e : s.heap.get? a with
  | none => rfl
  | some o => have := st.get e; rw [fr a ha] at this; cases this
end
/- a method, as the heap holds it -/
noncomputable def FnS (h₀ : Heap) (st : Stmt) (a : Addr) (xs : List Str) : Prop := ∃ fd, FnAt h₀ a fd (bodyOf st) ∧ fd.scope = scopeOf st ∧ ∀ vs : List Value, vs.length = xs.length → bindArgs fd ⟨vs, []⟩ = pure (xs.zip vs)
noncomputable def methOk (st : Stmt) (xs : List Str) : Bool := xs.all (fun x => (scopeOf st).names.lookup x == some .local || (scopeOf st).names.lookup x == some .cell) && decide xs.Nodup && !(scopeOf st).isGenerator
section
variable {w : World} {h₀ : Heap} {d : Nat} {sc : Scope} {σ : Sig} {mg mb : Str → Option Value} {F : Frag}
theorem FnS.kind {st : Stmt} {a : Addr} {xs : List Str} (f : FnS h₀ st a xs) : KindOk h₀ (.ref a) := let ⟨_, h, _⟩ := f; h.kindOk
theorem FnS.call {st : Stmt} {a : Addr} {xs : List Str} {ps : List PV} {r : PV} (f : FnS h₀ st a xs) (G : Glb h₀ mg mb) (ok : methOk st xs = true) (hl : ps.length = xs.length)
    (hb : ExOK pw w h₀ d (scopeOf st) (xs.zip (ps.map Slot.val)) (bodyOf st) (.ret r)) : CallOK pw w h₀ (d + 1) (.ref a) ps r := by
  unfold methOk at ok
  simp only [Bool.and_eq_true, List.all_eq_true, Bool.or_eq_true, beq_iff_eq, decide_eq_true_eq, Bool.not_eq_true'] at ok
  obtain ⟨fd, F, hs, hbind⟩ := f
  exact call_fn F G.lim xs (fun vs e => hbind vs (e.trans hl)) (by rw [hs]; exact ok.1.1) ok.1.2 (by rw [hs]; exact ok.2) (by rw [hs]; exact hb)
end
/- the statement of a class's body -/
noncomputable def methAt (i j : Nat) : Stmt := ((bodyOf (stAt i))[j]?).getD (.Pass default)
noncomputable def nameOf : Stmt → Str
  | .FunctionDef n _ _ _ _ _ _ _ _ _ => n
  | .ClassDef n _ _ _ _ _ _ _ _ _ _ => n
  | _ => Str.empty
/- what the proof needs of the class of handlers -/
structure KitB (h₀ : Heap) (mg mb : Str → Option Value) (F : Frag) (C : Addr) : Prop where
  at_ : Callee mg mb "BaseHandler" (.ref C)
  keep : keepIn F (.ref C) = true
  cls : ClsOk F C
  init : findIn F (.ref C) "__init__" = some (some (.builtin "object.__init__"))
  take : takerIn F C "handler_order" = some none
  order : ∃ t, findIn F (.ref C) "handler_order" = some (some (.int 500 t)) ∧ noGet F (some (.int 500 t)) = true ∧ specialIn F (.int 500 t) "__get__" = some none
  lt : ∃ f, findIn F (.ref C) "__lt__" = some (some (.ref f)) ∧ typeIn F (.ref f) = some (.type "function") ∧ FnS h₀ (methAt 9 3) f ["self", "other"]
  mod : mroIn F C (.type "module") = some false
  has : Callee mg mb "hasattr" (.builtin "hasattr")
noncomputable def attrsOf (n : Int) : List (Str × PV) := if (n.fmod 4 != 0) = true then [("handler_order", .int n)] else []
noncomputable def hobj (C : Addr) (n : Int) : PV := .obj C none (attrsOf n)
noncomputable def ordOf (n : Int) : Int := if (n.fmod 4 != 0) = true then n else 500
section
variable {w : World} {h₀ : Heap} {d : Nat} {sc : Scope} {σ : Sig} {mg mb : Str → Option Value} {F : Frag} {C : Addr}
theorem body_handler (G : Glb h₀ mg mb) (X : F.In h₀) (B : KitB h₀ mg mb F C) (n : Int) : ExOK pw w h₀ d (scopeOf (stAt 18)) [("order", .val (.int n))] (bodyOf (stAt 18)) (.ret (hobj C n)) := by
  refine ex_cons (st_assign_own (ev_make0 G X B.at_ B.keep (call_make0 X B.cls B.init) rfl rfl)) ?_
  have fin : ExSt pw w h₀ d (scopeOf (stAt 18)) (upd [("order", .val (.int n))] "handler" (.own (.obj C none []))) ((bodyOf (stAt 18))[1]?.getD (.Pass default)) (.next [("handler", .own (hobj C n))]) := by
    refine @st_if _ _ _ _ _ _ _ _ _ _ (n.fmod 4 != 0) _ (tst_cmp (ev_bin (ev_name rfl) ev_int (bin_mod (by decide))) ev_int cmp_nei) (fun hc => ?_) (fun hc => ?_)
    · refine ex_post (ex_one (st_attr (x := ("handler" : Str)) (name := ("handler_order" : Str)) X B.cls B.take rfl (by decide) (ev_name rfl))) ⟨?_, trivial⟩
      unfold hobj attrsOf; rw [if_pos hc]; rfl
    · refine ex_end ⟨?_, trivial⟩
      unfold hobj attrsOf; rw [if_neg (by rw [hc]; exact Bool.false_ne_true)]; rfl
  refine ex_cons fin ?_
  exact ex_freeze (x := ("handler" : Str)) (p := hobj C n) rfl (ex_one (st_return (ev_name rfl)))
theorem order_attr (B : KitB h₀ mg mb F C) (n : Int) (K : KMap) (P : Params) : AttrIs P F C K (attrsOf n) "handler_order" (.int (ordOf n)) := by
  obtain ⟨t, h1, h2, h3⟩ := B.order
  unfold attrsOf ordOf
  by_cases hc : (n.fmod 4 != 0) = true
  · rw [if_pos hc, if_pos hc]; exact .inl ⟨rfl, _, h1, h2⟩
  · rw [if_neg hc, if_neg hc]; exact .inr ⟨rfl, _, h1, h3, by decide +kernel, .int 500 t⟩
theorem okLt : methOk (methAt 9 3) ["self", "other"] = true := by decide +kernel
theorem body_lt (G : Glb h₀ mg mb) (X : F.In h₀) (B : KitB h₀ mg mb F C) (n m : Int) : ExOK pw w h₀ d (scopeOf (methAt 9 3)) [("self", .val (hobj C n)), ("other", .val (hobj C m))] (bodyOf (methAt 9 3)) (.ret (.bool (decide (ordOf n < ordOf m)))) := by
  refine ex_cons (st_if (c := false) (@tst_not _ _ _ _ _ _ _ _ (true) (tst_val (ev_call G B.has (.inr (.inl ⟨_, rfl⟩)) (evs_cons (ev_name (p := hobj C m) rfl) (evs_cons ev_str evs_nil)) (call_hasattr X B.cls B.mod fun K hK => order_attr B m K _)) truth_bool)) (fun h => nomatch h) (fun _ => ex_nil)) ?_
  exact ex_one (st_return (ev_cmp (ev_attr X B.cls (ev_name (p := hobj C n) rfl) fun K hK => order_attr B n K _) (ev_attr X B.cls (ev_name (p := hobj C m) rfl) fun K hK => order_attr B m K _) cmp_lti))
theorem cmp_lt (G : Glb h₀ mg mb) (X : F.In h₀) (B : KitB h₀ mg mb F C) (n m : Int) : CmpOK pw w h₀ (d + 1) .Lt (hobj C n) (hobj C m) (decide (ordOf n < ordOf m)) := by
  obtain ⟨f, h1, h2, h3⟩ := B.lt
  exact cmp_lt_obj X h1 h2 (.inl rfl) (h3.call G okLt rfl (body_lt G X B n m))
end
end Mine.Internal

end PartC5
section PartC6
open PySem PySem.W PyProof.Rows
set_option Elab.async false
set_option maxRecDepth 100000
set_option linter.unusedVariables false
namespace Mine.Internal
noncomputable def runStep (r : List Int) (p : Int × Int) : List Int := if ordOf (r.getD p.2.toNat 0) < ordOf (r.getD p.1.toNat 0) then (r.set p.1.toNat (r.getD p.2.toNat 0)).set p.2.toNat (r.getD p.1.toNat 0) else r
noncomputable def runOf (prs : List (Int × Int)) (r : List Int) : List Int := prs.foldl runStep r
theorem runStep_length (r : List Int) (p : Int × Int) : (runStep r p).length = r.length := by unfold runStep; split <;> simp
theorem runOf_length : ∀ (prs : List (Int × Int)) (r : List Int), (runOf prs r).length = r.length
  | [], r => rfl
  | p :: prs, r => (runOf_length prs (runStep r p)).trans (runStep_length r p)
theorem foldl_runStep_length (prs : List (Int × Int)) (r : List Int) : (prs.foldl runStep r).length = r.length := runOf_length prs r
noncomputable def Low4 (prs : List (Int × Int)) : Prop := ∀ p ∈ prs, 0 ≤ p.1 ∧ p.1 < 4 ∧ 0 ≤ p.2 ∧ p.2 < 4
theorem take_next {α β : Type} (f : β → α → β) (b : β) {l : List α} {i : Nat} {a : α} (h : l[i]? = some a) : (l.take (i + 1)).foldl f b = f ((l.take i).foldl f b) a := by
  rw [List.take_add_one, h, Option.toList_some, List.foldl_append]; rfl
section
variable {w : World} {h₀ : Heap} {d : Nat} {sc : Scope} {σ : Sig} {mg mb : Str → Option Value} {F : Frag} {C : Addr}
noncomputable def FR (C : Addr) (prs : List (Int × Int)) (r : List Int) : Sig := [("pairs", .val (pl prs)), ("held", .own (.lst (r.map (hobj C))))]
theorem get_hobj {C : Addr} {r : List Int} {i : Int} (h : 0 ≤ i) (h' : i < r.length) : item? (.lst (r.map (hobj C))) i = some (hobj C (r.getD i.toNat 0)) := by
  refine item_get h ?_
  rw [List.getElem?_map, List.getD_eq_getElem?_getD, List.getElem?_eq_getElem (by omega)]; rfl
theorem body_run (G : Glb h₀ mg mb) (X : F.In h₀) (B : KitB h₀ mg mb F C) (hl : Callee mg mb ("list" : Str) (.type "list")) (prs : List (Int × Int)) (h4 : Low4 prs) (r : List Int) (hr : r.length = 4) :
    ExOK pw w h₀ (d + 1) (scopeOf (stAt 19)) [("pairs", .val (pl prs)), ("row", .val (.lst (r.map (hobj C))))] (bodyOf (stAt 19)) (.ret (.lst ((runOf prs r).map (hobj C)))) := by
  refine ex_cons (st_assign_own (ev_call_new G hl (.inl ⟨_, rfl⟩) (evs_cons (ev_name rfl) evs_nil) (call_list_l (by rw [List.length_map, hr]; decide)))) ?_
  refine ex_pre ?_ (show Sub (FR C prs r) _ from ⟨rfl, rfl, trivial⟩)
  refine ex_cons (st_for (o := .next (FR C prs (runOf prs r))) (it_list (its := prs.map ip) (ev_name rfl)) (.inr ⟨_, _, _, rfl⟩) (turns_fold (FR C prs) ip runStep prs r fun i p hp => ⟨_, asg_tup (asgs_cons asg_name (asgs_cons asg_name asgs_nil)), .inl ?_⟩)) ?_
  · obtain ⟨p1, p2, p3, p4⟩ := h4 p (List.mem_of_getElem? hp)
    rw [take_next _ _ hp]
    have hlen := foldl_runStep_length (prs.take i) r
    generalize (prs.take i).foldl runStep r = q at hlen ⊢
    rw [hr] at hlen
    have hm : (q.map (hobj C)).length = 4 := by rw [List.length_map, hlen]
    have g1 := get_hobj (C := C) (r := q) p1 (by omega)
    have g2 := get_hobj (C := C) (r := q) p3 (by omega)
    refine ex_one (st_if (c := decide (ordOf (q.getD p.2.toNat 0) < ordOf (q.getD p.1.toNat 0))) (tst_cmp (ev_item_own (x := ("held" : Str)) (xs := q.map (hobj C)) rfl (ev_name rfl) g2 (in63 p3 p4 (by decide)).1 (in63 p3 p4 (by decide)).2) (ev_item_own (x := ("held" : Str)) (xs := q.map (hobj C)) rfl (ev_name rfl) g1 (in63 p1 p2 (by decide)).1 (in63 p1 p2 (by decide)).2) (cmp_lt G X B _ _)) (fun hc => ?_) (fun hc => ?_))
    · refine ex_post (ex_one (st_assign_tgt (ev_tuple (evs_cons (ev_item_own (x := ("held" : Str)) (xs := q.map (hobj C)) rfl (ev_name rfl) g2 (in63 p3 p4 (by decide)).1 (in63 p3 p4 (by decide)).2) (evs_cons (ev_item_own (x := ("held" : Str)) (xs := q.map (hobj C)) rfl (ev_name rfl) g1 (in63 p1 p2 (by decide)).1 (in63 p1 p2 (by decide)).2) evs_nil)) (show 2 ≤ sizeLine by decide))
        (asg_tup (asgs_cons (asg_item (x := ("held" : Str)) (xs := q.map (hobj C)) rfl (ev_name rfl) p1 (by omega) (by omega)) (asgs_cons (asg_item (x := ("held" : Str)) (xs := (q.map (hobj C)).set p.1.toNat (hobj C (q.getD p.2.toNat 0))) rfl (ev_name rfl) p3 (by rw [List.length_set]; omega) (by omega)) asgs_nil))) (by intro _; rfl) swapped_subs)) ?_
      refine ⟨rfl, ?_, trivial⟩
      rw [runStep, if_pos (of_decide_eq_true hc), List.map_set, List.map_set]; rfl
    · refine ex_end ⟨rfl, ?_, trivial⟩
      rw [runStep, if_neg (of_decide_eq_false hc)]; rfl
  · exact ex_freeze (x := ("held" : Str)) rfl (ex_one (st_return (ev_name rfl)))
end
end Mine.Internal

end PartC6
section PartC7
open PySem PySem.W PyProof.Rows
set_option Elab.async false
set_option maxRecDepth 100000
set_option linter.unusedVariables false
namespace Mine.Internal
/- one sign, as a text -/
noncomputable def ch (c : Nat) : Str := ⟨#[c]⟩
noncomputable def chv (c : Nat) : PV := .str (ch c)
noncomputable abbrev S (l : List Nat) : Str := ⟨l.toArray⟩
theorem signs_S (l : List Nat) : signs (S l) = l.map chv := rfl
theorem S_len (l : List Nat) : (S l).length = l.length := rfl
theorem S_app (a b : List Nat) : S a ++ S b = S (a ++ b) := Str.ext' (by rw [Str.cps_append]; simp)
theorem S_nil : ("" : Str) = S [] := by decide +kernel
theorem S_blank : (" " : Str) = S [32] := by decide +kernel
theorem S_tab : ("\t" : Str) = S [9] := by decide +kernel
theorem S_inj {a b : List Nat} (h : S a = S b) : a = b := by have := congrArg (fun x => x.cps.toList) h; simpa using this
theorem S_beq (a b : List Nat) : (S a == S b) = decide (a = b) := by
  rw [beq_str]
  by_cases h : a = b
  · subst h; simp
  · rw [decide_eq_false h, decide_eq_false fun e => h (S_inj e)]
theorem ch_beq (a b : Nat) : (ch a == S [b]) = decide (a = b) := by
  have := S_beq [a] [b]
  rw [show ch a = S [a] from rfl, this]; simp
theorem join_nil : ∀ l : List (List Nat), Str.join (S []) (l.map S) = S l.flatten
  | [] => rfl
  | [x] => by simp [Str.join]
  | x :: y :: r => by
    have ih := join_nil (y :: r)
    show S x ++ S [] ++ Str.join (S []) ((y :: r).map S) = _
    rw [ih, S_app, S_app]; simp
theorem txt_join_nil (l : List (List Nat)) : Txt.join (S []) (l.map S) = S l.flatten := by
  unfold Txt.join
  rw [StrLaws.glued_eq_join, join_nil]
theorem joinOk_of {sep : Str} {xs : List Str} (h : (xs.map (·.length)).sum + xs.length * sep.length ≤ sizeLine) : JoinOk sep xs = true := by
  unfold JoinOk Builtin.Str.tooLong
  rw [StrLaws.joinTotal]
  simp only [Bool.not_eq_true', decide_eq_false_iff_not]
  omega
theorem join_chs (l : List Nat) : Txt.join "" (l.map ch) = S l := by
  have := txt_join_nil (l.map fun c => [c])
  rw [S_nil]
  rw [List.map_map] at this
  refine Eq.trans this ?_
  have : (l.map fun c => [c]).flatten = l := by
    clear this
    induction l with
    | nil => rfl
    | cons a r ih => rw [List.map_cons, List.flatten_cons, ih]; rfl
  rw [this]
theorem joinOk_chs (l : List Nat) (h : l.length ≤ sizeLine) : JoinOk "" (l.map ch) = true := by
  refine joinOk_of ?_
  rw [S_nil, S_len]
  have : ((l.map ch).map (·.length)).sum = l.length := by
    clear h
    induction l with
    | nil => rfl
    | cons a r ih => 
      rw [List.map_cons, List.map_cons, List.sum_cons, ih, List.length_cons]
      show 1 + r.length = _
      omega
  rw [this]; simpa using h
noncomputable def slideStep (t : List Nat) (p : Int × Int) : List Nat := if t.getD p.1.toNat 0 = 32 ∧ t.getD p.2.toNat 0 = 9 then (t.set p.1.toNat 9).set p.2.toNat 32 else t
noncomputable def slideOf (prs : List (Int × Int)) (t : List Nat) : List Nat := prs.foldl slideStep t
theorem slideStep_length (r : List Nat) (p : Int × Int) : (slideStep r p).length = r.length := by unfold slideStep; split <;> simp
theorem slideOf_length : ∀ (prs : List (Int × Int)) (r : List Nat), (slideOf prs r).length = r.length
  | [], r => rfl
  | p :: prs, r => (slideOf_length prs (slideStep r p)).trans (slideStep_length r p)
section
variable {w : World} {h₀ : Heap} {d : Nat} {sc : Scope} {σ : Sig} {mg mb : Str → Option Value} {F : Frag} {C : Addr}
noncomputable def FS (prs : List (Int × Int)) (t : List Nat) : Sig := [("pairs", .val (pl prs)), ("signs", .own (.lst (t.map chv)))]
theorem get_chv {r : List Nat} {i : Int} (h : 0 ≤ i) (h' : i < r.length) : item? (.lst (r.map chv)) i = some (chv (r.getD i.toNat 0)) := by
  refine item_get h ?_
  rw [List.getElem?_map, List.getD_eq_getElem?_getD, List.getElem?_eq_getElem (by omega)]; rfl
theorem body_slide (G : Glb h₀ mg mb) (hl : Callee mg mb ("list" : Str) (.type "list")) (prs : List (Int × Int)) (h4 : Low4 prs) (t : List Nat) (ht : t.length = 4) :
    ExOK pw w h₀ (d + 1) (scopeOf (stAt 20)) [("pairs", .val (pl prs)), ("text", .val (.str (S t)))] (bodyOf (stAt 20)) (.ret (.str (S (slideOf prs t)))) := by
  refine ex_cons (st_assign_own (ev_call_new G hl (.inl ⟨_, rfl⟩) (evs_cons (ev_name rfl) evs_nil) (call_list_s (by rw [S_len, ht]; decide)))) ?_
  refine ex_pre ?_ (show Sub (FS prs t) _ from ⟨rfl, rfl, trivial⟩)
  refine ex_cons (st_for (o := .next (FS prs (slideOf prs t))) (it_list (its := prs.map ip) (ev_name rfl)) (.inr ⟨_, _, _, rfl⟩) (turns_fold (FS prs) ip slideStep prs t fun i p hp => ⟨_, asg_tup (asgs_cons asg_name (asgs_cons asg_name asgs_nil)), .inl ?_⟩)) ?_
  · obtain ⟨p1, p2, p3, p4⟩ := h4 p (List.mem_of_getElem? hp)
    rw [take_next _ _ hp]
    have hlen := slideOf_length (prs.take i) t
    unfold slideOf at hlen
    generalize (prs.take i).foldl slideStep t = q at hlen ⊢
    rw [ht] at hlen
    have hm : (q.map chv).length = 4 := by rw [List.length_map, hlen]
    have g1 := get_chv (r := q) p1 (by omega)
    have g2 := get_chv (r := q) p3 (by omega)
    have e1 := cmp_eqs (prog := pw) (w := w) (h₀ := h₀) (d := d + 1) (x := ch (q.getD p.1.toNat 0)) (y := " ")
    have e2 := cmp_eqs (prog := pw) (w := w) (h₀ := h₀) (d := d + 1) (x := ch (q.getD p.2.toNat 0)) (y := "\t")
    rw [S_blank, ch_beq, ← S_blank] at e1
    rw [S_tab, ch_beq, ← S_tab] at e2
    refine ex_one (st_if (c := decide (q.getD p.1.toNat 0 = 32) && (decide (q.getD p.2.toNat 0 = 9) && true)) (tst_bool (and_cons (tst_cmp (ev_item_own (x := ("signs" : Str)) (xs := q.map chv) rfl (ev_name rfl) g1 (in63 p1 p2 (by decide)).1 (in63 p1 p2 (by decide)).2) ev_str e1) fun _ => and_cons (tst_cmp (ev_item_own (x := ("signs" : Str)) (xs := q.map chv) rfl (ev_name rfl) g2 (in63 p3 p4 (by decide)).1 (in63 p3 p4 (by decide)).2) ev_str e2) fun _ => and_nil)) (fun hc => ?_) (fun hc => ?_))
    · simp only [Bool.and_true, Bool.and_eq_true, decide_eq_true_eq] at hc
      refine ex_post (ex_one (st_assign_tgt (ev_tuple (evs_cons ev_str (evs_cons ev_str evs_nil)) (show 2 ≤ sizeLine by decide))
        (asg_tup (asgs_cons (asg_item (x := ("signs" : Str)) (xs := q.map chv) rfl (ev_name rfl) p1 (by omega) (by omega)) (asgs_cons (asg_item (x := ("signs" : Str)) (xs := (q.map chv).set p.1.toNat (.str "\t")) rfl (ev_name rfl) p3 (by rw [List.length_set]; omega) (by omega)) asgs_nil))) (by intro _; rfl) swapped_subs)) ?_
      refine ⟨rfl, ?_, trivial⟩
      rw [slideStep, if_pos hc, List.map_set, List.map_set]
      show some (Slot.own (.lst (((q.map chv).set p.1.toNat (.str "\t")).set p.2.toNat (.str " ")))) = _
      rw [S_blank, S_tab]; rfl
    · refine ex_end ⟨rfl, ?_, trivial⟩
      simp only [Bool.and_true, Bool.and_eq_false_iff, decide_eq_false_iff_not] at hc
      rw [slideStep, if_neg (fun h => hc.elim (fun k => k h.1) (fun k => k h.2))]; rfl
  · refine ex_freeze (x := ("signs" : Str)) rfl ?_
    have hlen : (slideOf prs t).length = 4 := (slideOf_length prs t).trans ht
    rw [← join_chs]
    refine ex_one (st_return (ev_join (xs := (slideOf prs t).map ch) ev_str (ev_name ?_) (joinOk_chs _ (by rw [hlen]; decide))))
    rw [List.map_map]; rfl
end
end Mine.Internal

end PartC7
section PartC8
open PySem PySem.W PyProof.Rows
set_option Elab.async false
set_option maxRecDepth 100000
set_option linter.unusedVariables false
namespace Mine.Internal
theorem sliceRange_one (a b : Int) (h : 0 ≤ a) (hb : a ≤ b) : sliceRange a b 1 = (List.range (b - a).toNat).map fun (k : Nat) => (a.toNat + k) := by
  unfold sliceRange
  rw [if_pos (by decide)]
  by_cases hab : a < b
  · rw [if_pos hab]
    rw [show (b - a + 1 - 1) / 1 = b - a by rw [Int.ediv_one]; omega]
    refine List.map_congr_left fun k _ => ?_
    omega
  · rw [if_neg hab]
    have : (b - a).toNat = 0 := by omega
    rw [this]; rfl
theorem pick_range (xs : List PV) (a : Nat) : ∀ n : Nat, a + n ≤ xs.length → ((List.range n).map fun k => a + k).filterMap (xs[·]?) = (xs.drop a).take n
  | 0, _ => by simp
  | n + 1, h => by
    rw [List.range_succ, List.map_append, List.filterMap_append, pick_range xs a n (by omega), List.take_add_one, List.getElem?_drop]
    rw [List.map_cons, List.map_nil, List.filterMap_cons, List.getElem?_eq_getElem (by omega)]; rfl
theorem clip_le {p n : Nat} (h : p ≤ n) : max (0 : Int) (min (p : Int) (n : Int)) = (p : Int) := by omega
theorem slice_take (xs : List PV) (p : Nat) (h : p ≤ xs.length) : slice? (.lst xs) none (some (p : Int)) none = some (.lst (xs.take p)) := by
  show (if (none : Option Int) = some 0 then none else some (PV.lst (sliceL xs none (some (p : Int)) none))) = _
  rw [if_neg (by simp)]
  unfold sliceL sliceBounds
  simp only [Option.getD_none, show (1 : Int) > 0 by decide, if_true, show ¬ ((p : Int) < 0) by omega, if_false]
  rw [clip_le h, sliceRange_one 0 p (by omega) (by omega)]
  have := pick_range xs 0 p (by omega)
  rw [show ((p : Int) - 0).toNat = p by omega]
  simpa using this
theorem slice_drop (xs : List PV) (p : Nat) (h : p ≤ xs.length) : slice? (.lst xs) (some (p : Int)) none none = some (.lst (xs.drop p)) := by
  show (if (none : Option Int) = some 0 then none else some (PV.lst (sliceL xs (some (p : Int)) none none))) = _
  rw [if_neg (by simp)]
  unfold sliceL sliceBounds
  simp only [Option.getD_none, show (1 : Int) > 0 by decide, if_true, show ¬ ((p : Int) < 0) by omega, if_false]
  rw [clip_le h, sliceRange_one p xs.length (by omega) (by omega)]
  have := pick_range xs p (xs.length - p) (by omega)
  rw [show ((xs.length : Int) - (p : Int)).toNat = xs.length - p by omega, Int.toNat_natCast, this, List.take_of_length_le (by simp)]
noncomputable def insAt {α : Type} (x : α) (o : List α) (p : Nat) : List α := o.take p ++ [x] ++ o.drop p
noncomputable def ordersStep {α : Type} (os : List (List α)) (x : α) : List (List α) := os.flatMap fun o => (List.range (o.length + 1)).map (insAt x o)
noncomputable def ordersOf {α : Type} (xs : List α) : List (List α) := xs.foldl ordersStep [[]]
noncomputable def ll (l : List (List PV)) : PV := .lst (l.map .lst)
noncomputable def FO {α : Type} (g : α → PV) (xs : List α) (os : List (List α)) : Sig := [("things", .val (.lst (xs.map g))), ("orders", .own (ll (os.map (·.map g))))]
theorem insAt_length {α : Type} (x : α) (o : List α) (p : Nat) (h : p ≤ o.length) : (insAt x o p).length = o.length + 1 := by
  unfold insAt; simp; omega
/- k signs in each order, at most m orders -/
noncomputable def OrdOk {α : Type} (k m : Nat) (os : List (List α)) : Prop := (∀ o ∈ os, o.length = k) ∧ os.length ≤ m
theorem flat_len {α : Type} (x : α) {k : Nat} : ∀ l : List (List α), (∀ o ∈ l, o.length = k) → (ordersStep l x).length = l.length * (k + 1)
  | [], _ => by simp [ordersStep]
  | a :: r, hl => by
    have ih := flat_len x r fun o ho => hl o (.tail _ ho)
    unfold ordersStep at ih ⊢
    rw [List.flatMap_cons, List.length_append, ih, List.length_map, List.length_range, hl a (.head _), List.length_cons, Nat.add_mul]; omega
theorem ordersStep_ok {α : Type} {os : List (List α)} {k m : Nat} (h : OrdOk k m os) (x : α) : OrdOk (k + 1) (m * (k + 1)) (ordersStep os x) := by
  refine ⟨fun o ho => ?_, ?_⟩
  · unfold ordersStep at ho
    obtain ⟨q, hq, ho⟩ := List.mem_flatMap.mp ho
    obtain ⟨p, hp, rfl⟩ := List.mem_map.mp ho
    have := List.mem_range.mp hp
    rw [insAt_length _ _ _ (by omega), h.1 q hq]
  · rw [flat_len x os h.1]
    exact Nat.mul_le_mul_right _ h.2
theorem orders_ok {α : Type} : ∀ (l : List α) (os : List (List α)) (k m : Nat), k + l.length ≤ 4 → OrdOk k m os → OrdOk (k + l.length) (m * 4 ^ l.length) (l.foldl ordersStep os)
  | [], os, k, m, _, h => by simpa using h
  | x :: l, os, k, m, hk, h => by
    rw [List.length_cons] at hk ⊢
    have h1 : OrdOk (k + 1) (m * 4) (ordersStep os x) := ⟨(ordersStep_ok h x).1, Nat.le_trans (ordersStep_ok h x).2 (Nat.mul_le_mul_left _ (by omega))⟩
    have := orders_ok l _ _ _ (by omega) h1
    rw [List.foldl_cons, Nat.pow_succ, show m * (4 ^ l.length * 4) = m * 4 * 4 ^ l.length by rw [Nat.mul_comm (4 ^ l.length) 4, Nat.mul_assoc], show k + (l.length + 1) = k + 1 + l.length by omega]
    exact this
section
variable {prog : Program} {w : World} {h₀ : Heap} {d : Nat} {sc : Scope} {σ : Sig} {mg mb : Str → Option Value} {F : Frag} {C : Addr} {W : Str → Bool}
theorem comp_nested {β : Type} {em : Env → Value → Sem Unit} {t : Expr} {σ₀ : Sig} (g : β → PV) (f : β → List PV) : ∀ (l : List β) (xs : List PV), (∀ b ∈ l, ∀ xs : List PV, xs.length + (f b).length ≤ sizeLine → ∃ σ₁, AsgOK prog w h₀ d sc W σ₀ t (g b) σ₁ ∧ Sub σ₀ σ₁ ∧ EmitOK prog w h₀ em d sc W σ₁ (.lst xs) (.lst (xs ++ f b))) →
    xs.length + (l.flatMap f).length ≤ sizeLine → CompTurns prog w h₀ em t [] d sc W σ₀ (l.map g) (.lst xs) (.lst (xs ++ l.flatMap f))
  | [], xs, _, _ => by rw [List.map_nil, List.flatMap_nil, List.append_nil]; exact .nil
  | b :: l, xs, h, hz => by
    rw [List.flatMap_cons, List.length_append] at hz
    obtain ⟨σ₁, h1, h2, h3⟩ := h b (.head _) xs (by omega)
    rw [List.map_cons, List.flatMap_cons, ← List.append_assoc]
    exact .keep h1 h2 ifs_nil h3 (comp_nested g f l _ (fun c hc => h c (.tail _ hc)) (by rw [List.length_append]; omega))
theorem body_orders {α : Type} (g : α → PV) (G : Glb h₀ mg mb) (hr : Callee mg mb ("range" : Str) (.type "range")) (hl : Callee mg mb ("len" : Str) (.builtin "len")) (xs : List α) (hx : xs.length ≤ 4) :
    ExOK pw w h₀ (d + 1) (scopeOf (stAt 21)) [("things", .val (.lst (xs.map g)))] (bodyOf (stAt 21)) (.ret (ll ((ordersOf xs).map (·.map g)))) := by
  refine ex_cons (st_assign_own (new_list (evs_cons (ev_list evs_nil) evs_nil))) ?_
  refine ex_pre ?_ (show Sub (FO g xs [[]]) _ from ⟨rfl, rfl, trivial⟩)
  refine ex_cons (st_for (o := .next (FO g xs (ordersOf xs))) (it_list (its := xs.map g) (ev_name rfl)) (.inl ⟨_, _, rfl⟩) (turns_fold (FO g xs) g ordersStep xs [[]] fun i x hi => ⟨_, asg_name (.inr rfl), .inl ?_⟩)) ?_
  · rw [take_next _ _ hi]
    have hi' := (List.getElem?_eq_some_iff.mp hi).1
    have hos : ∃ k m, k ≤ 4 ∧ m ≤ 256 ∧ OrdOk k m ((xs.take i).foldl ordersStep [[]]) := by
      have hlen : (xs.take i).length = i := by rw [List.length_take]; omega
      refine ⟨_, _, ?_, ?_, orders_ok (xs.take i) [[]] 0 1 (by omega) ⟨fun o ho => by simp at ho; rw [ho]; rfl, Nat.le_refl 1⟩⟩
      · omega
      · rw [hlen, Nat.one_mul]; exact Nat.pow_le_pow_right (by decide) (show i ≤ 4 by omega)
    generalize (xs.take i).foldl ordersStep [[]] = os at hos ⊢
    obtain ⟨k, m, hk, hm, hos, hcnt⟩ := hos
    refine ex_freeze (x := ("orders" : Str)) (p := ll (os.map (·.map g))) rfl ?_
    refine ex_post (ex_one (st_assign_listcomp2 (q := ll ((ordersStep os x).map (·.map g))) (it_list (its := (os.map (·.map g)).map .lst) (ev_name rfl)) ?_ (.inl ⟨_, _, rfl⟩) rfl rfl rfl (fun _ _ => rfl) rfl rfl rfl)) ⟨rfl, rfl, trivial⟩
    rw [List.map_map]
    have e : ll ((ordersStep os x).map (·.map g)) = .lst ([] ++ os.flatMap fun o => (List.range (o.length + 1)).map fun p => PV.lst ((insAt x o p).map g)) := by
      unfold ll ordersStep
      rw [List.nil_append, List.map_map, List.map_flatMap]
      simp only [List.map_map]; rfl
    rw [e]
    refine comp_nested (fun o : List α => PV.lst (o.map g)) _ os [] (fun o ho ys hz => ⟨_, asg_name, ⟨rfl, trivial⟩, ?_⟩) ?_
    · have hk1 := hos o ho
      refine emit_nested (em := emL _) (.inl ⟨_, _, _, _, rfl⟩) rfl rfl (turn_inner _ _ _ _ _ _ _ _ _) (.inl ⟨_, _, rfl⟩) (it_range (n := ((o.length + 1 : Nat) : Int)) G hr ?_ (by omega) (by omega)) ?_
      · exact ev_bin (ev_call G hl (.inr (.inl ⟨_, rfl⟩)) (evs_cons (ev_name (p := .lst (o.map g)) rfl) evs_nil) (call_len_l (by rw [List.length_map, hk1]; exact Nat.le_trans hk (by decide)))) ev_int (by rw [List.length_map]; exact bin_add)
      · rw [List.length_map, List.length_range] at hz
        refine comp_maps (fun i : Nat => PV.int (0 + i)) _ (List.range (o.length + 1)) ys (fun p hp => ⟨_, asg_name, ⟨rfl, rfl, trivial⟩, ?_⟩) (by rw [List.length_range]; omega)
        have hp' := List.mem_range.mp hp
        have hl' : (o.map g).length = o.length := List.length_map ..
        have e2 : (insAt x o p).map g = (o.map g).take p ++ [g x] ++ (o.map g).drop p := by unfold insAt; simp [List.map_take, List.map_drop]
        have hf : (o.map g).length ≤ sizeLine := by rw [hl', hk1]; exact Nat.le_trans hk (by decide)
        have es : (16777216 : Nat) = sizeLine := by decide
        rw [e2]
        refine ev_bin (ev_bin (ev_slice (l := none) (u := some (0 + (p : Int))) (k := none) (ev_name (p := .lst (o.map g)) rfl) part_none (part_some (ev_name rfl)) part_none (by rw [Int.zero_add]; exact slice_take _ p (by omega)) hf) (ev_list (evs_cons (ev_name rfl) evs_nil) (show 1 ≤ sizeLine by decide)) (bin_addl ?_))
          (ev_slice (l := some (0 + (p : Int))) (u := none) (k := none) (ev_name (p := .lst (o.map g)) rfl) (part_some (ev_name rfl)) part_none part_none (by rw [Int.zero_add]; exact slice_drop _ p (by omega)) hf) (bin_addl ?_)
        · rw [List.length_take, hl']; simp only [List.length_cons, List.length_nil]; omega
        · rw [List.length_append, List.length_take, List.length_drop, hl']; simp only [List.length_cons, List.length_nil]; omega
    · have hb : (os.flatMap fun o => (List.range (o.length + 1)).map fun p => PV.lst ((insAt x o p).map g)).length = (ordersStep os x).length := by unfold ordersStep; rw [List.length_flatMap, List.length_flatMap]; simp
      rw [hb, flat_len x os hos, List.length_nil, Nat.zero_add]
      have h5 : os.length * (k + 1) ≤ 256 * 5 := Nat.mul_le_mul (by omega) (by omega)
      exact Nat.le_trans h5 (by decide)
  · exact ex_freeze (x := ("orders" : Str)) rfl (ex_one (st_return (ev_name rfl)))
theorem body_ranks (G : Glb h₀ mg mb) (X : F.In h₀) (B : KitB h₀ mg mb F C) (hl : Callee mg mb ("list" : Str) (.type "list")) (f : Fn h₀ mg mb 19 "_law_run" ["pairs", "row"]) (prs : List (Int × Int)) (h4 : Low4 prs) (r : List Int) (hr : r.length = 4) :
    ExOK pw w h₀ (d + 2) (scopeOf (stAt 22)) [("pairs", .val (pl prs)), ("row", .val (.lst (r.map (hobj C))))] (bodyOf (stAt 22)) (.ret (il ((runOf prs r).map ordOf))) := by
  have hlen : (runOf prs r).length = 4 := (runOf_length prs r).trans hr
  have ok19 : fnOk 19 ["pairs", "row"] = true := by decide +kernel
  refine ex_one (st_return (ev_new (new_listcomp (it_list (its := (runOf prs r).map (hobj C)) (ev_fn f G ok19 (evs_cons (ev_name rfl) (evs_cons (ev_name rfl) evs_nil)) (body_run G X B hl prs h4 r hr))) ?_ (.inl ⟨_, _, rfl⟩))))
  unfold il
  rw [List.map_map]
  exact comp_maps (hobj C) (fun n => PV.int (ordOf n)) (runOf prs r) [] (fun n _ => ⟨_, asg_name, trivial, ev_attr X B.cls (ev_name (p := hobj C n) rfl) fun K hK => order_attr B n K _⟩) (by rw [hlen]; decide)
end
end Mine.Internal

end PartC8
section PartC9
open PySem PySem.W PyProof.Rows
set_option Elab.async false
set_option maxRecDepth 100000
set_option linter.unusedVariables false
namespace Mine.Internal
theorem S_bsl : ("\\" : Str) = S [92] := by decide +kernel
theorem S_mark : ("\"" : Str) = S [34] := by decide +kernel
theorem S_comma : ("," : Str) = S [44] := by decide +kernel
theorem S_eq : ("=" : Str) = S [61] := by decide +kernel
noncomputable def forBody : Option Stmt → List Stmt
  | some (Stmt.For _ _ b _ _) => b
  | _ => []
noncomputable def HB : List Stmt := forBody (bodyOf (stAt 11))[3]?
structure HS where
  res : List (List Nat)
  part : List Nat
  esc : Bool
  quo : Bool
noncomputable def hStep (s : HS) (c : Nat) : HS :=
  if s.esc then ⟨s.res, s.part ++ [c], false, s.quo⟩
  else if s.quo then (if c = 92 then ⟨s.res, s.part, true, true⟩ else ⟨s.res, s.part ++ [c], false, decide (c ≠ 34)⟩)
  else if c = 44 then ⟨s.res ++ [s.part], [], false, false⟩
  else ⟨s.res, s.part ++ [c], false, decide (c = 34)⟩
noncomputable def hEnd (s : HS) : List (List Nat) := if s.part.length ≠ 0 then s.res ++ [s.part] else s.res
noncomputable def httpOf (x : List Nat) : List Str := (hEnd (x.foldl hStep ⟨[], [], false, false⟩)).map fun p => Txt.strip (S p)
noncomputable def FH (x : List Nat) (s : HS) : Sig := [("s", .val (.str (S x))), ("res", .own (.lst (s.res.map fun p => PV.str (S p)))), ("part", .val (.str (S s.part))), ("escape", .val (.bool s.esc)), ("quote", .val (.bool s.quo))]
noncomputable def HFit (n : Nat) (s : HS) : Prop := s.res.length ≤ n ∧ s.part.length ≤ n ∧ ∀ p ∈ s.res, p.length ≤ n
theorem hStep_fit {n : Nat} {s : HS} (h : HFit n s) (c : Nat) : HFit (n + 1) (hStep s c) := by
  obtain ⟨h1, h2, h3⟩ := h
  have h3' : ∀ p ∈ s.res, p.length ≤ n + 1 := fun p hp => Nat.le_succ_of_le (h3 p hp)
  unfold hStep
  split
  · exact ⟨by simp; omega, by simp; omega, h3'⟩
  split
  · split
    · exact ⟨by simp; omega, by simp; omega, h3'⟩
    · exact ⟨by simp; omega, by simp; omega, h3'⟩
  split
  · refine ⟨by simp; omega, by simp, fun p hp => ?_⟩
    rcases List.mem_append.mp hp with hp | hp
    · exact h3' p hp
    · simp at hp; subst hp; omega
  · exact ⟨by simp; omega, by simp; omega, h3'⟩
theorem hFold_fit : ∀ (x : List Nat) {n : Nat} {s : HS}, HFit n s → HFit (n + x.length) (x.foldl hStep s)
  | [], _, _, h => h
  | c :: x, n, s, h => by
    have := hFold_fit x (hStep_fit h c)
    rw [List.foldl_cons, List.length_cons, show n + (x.length + 1) = n + 1 + x.length by omega]; exact this
section
variable {w : World} {h₀ : Heap} {d : Nat} {sc : Scope} {σ : Sig} {mg mb : Str → Option Value} {F : Frag} {C : Addr}
theorem cmp_ch {c k : Nat} {y : Str} (h : y = S [k]) : CmpOK pw w h₀ d .Eq (chv c) (.str y) (decide (c = k)) := by
  have := cmp_eqs (prog := pw) (w := w) (h₀ := h₀) (d := d) (x := ch c) (y := y)
  rw [h, ch_beq] at this
  rw [h]; exact this
theorem fitL {n : Nat} (h : n ≤ 10000) : n ≤ sizeLine := Nat.le_trans h (by decide)
theorem http_turn (x : List Nat) (s : HS) (c : Nat) {n : Nat} (hn : n ≤ 5000) (h : HFit n s) : ExOK pw w h₀ d (scopeOf (stAt 11)) (upd (FH x s) "cur" (.val (chv c))) HB (.next (FH x (hStep s c))) ∨
    ExOK pw w h₀ d (scopeOf (stAt 11)) (upd (FH x s) "cur" (.val (chv c))) HB (.cont (FH x (hStep s c))) := by
  obtain ⟨res, part, esc, quo⟩ := s
  obtain ⟨h1, h2, h3⟩ := h
  have h1 : res.length ≤ n := h1
  have h2 : part.length ≤ n := h2
  have eadd : S (part ++ [c]) = S part ++ ch c := (S_app part [c]).symm
  have hadd : (S part).length + (ch c).length ≤ sizeLine := fitL (show part.length + 1 ≤ 10000 from Nat.le_trans (Nat.succ_le_succ h2) (Nat.le_trans (Nat.succ_le_succ hn) (by decide)))
  cases esc with
  | true =>
    refine .inr (ex_stop (@st_if _ _ _ _ _ _ _ _ _ _ (true) _ (tst_val (ev_name rfl) truth_bool) (fun _ => ?_) (fun h => nomatch h)))
    refine ex_cont (ex_cons (st_aug (x := ("part" : Str)) (p := .str (S part)) rfl (ev_name rfl) (inp_adds hadd)) (ex_cons (st_assign ev_bool) (ex_one st_continue))) ⟨rfl, rfl, ?_, rfl, rfl, trivial⟩
    show _ = some (Slot.val (.str (S (part ++ [c])))); rw [eadd]; rfl
  | false =>
    have first : ∀ {o : Out}, ExOK pw w h₀ d (scopeOf (stAt 11)) (upd (FH x ⟨res, part, false, quo⟩) "cur" (.val (chv c))) HB.tail o → ExOK pw w h₀ d (scopeOf (stAt 11)) (upd (FH x ⟨res, part, false, quo⟩) "cur" (.val (chv c))) HB o :=
      fun h => ex_cons (@st_if _ _ _ _ _ _ _ _ _ _ (false) _ (tst_val (ev_name rfl) truth_bool) (fun h => nomatch h) (fun _ => ex_nil)) h
    cases quo with
    | true =>
      refine .inr (first (ex_stop (@st_if _ _ _ _ _ _ _ _ _ _ (true) _ (tst_val (ev_name rfl) truth_bool) (fun _ => ?_) (fun h => nomatch h))))
      by_cases hc : c = 92
      · subst hc
        refine ex_stop (st_if (c := true) (tst_cmp (ev_name (p := chv 92) rfl) ev_str (cmp_ch S_bsl)) (fun _ => ?_) (fun h => nomatch h))
        exact ex_cont (ex_cons (st_assign ev_bool) (ex_one st_continue)) ⟨rfl, rfl, rfl, rfl, rfl, trivial⟩
      · have e1 := cmp_ch (w := w) (h₀ := h₀) (d := d) (c := c) (k := 92) S_bsl
        rw [decide_eq_false hc] at e1
        have e2 := cmp_ch (w := w) (h₀ := h₀) (d := d) (c := c) (k := 34) S_mark
        have eh : hStep ⟨res, part, false, true⟩ c = ⟨res, part ++ [c], false, decide (c ≠ 34)⟩ := by unfold hStep; simp [hc]
        rw [eh]
        have fin : ∀ {σ : Sig}, σ.lookup ("s" : Str) = some (Slot.val (.str (S x))) → σ.lookup ("res" : Str) = some (.own (.lst (res.map fun p => PV.str (S p)))) → σ.lookup ("part" : Str) = some (Slot.val (.str (S part))) → σ.lookup ("escape" : Str) = some (Slot.val (.bool false)) → σ.lookup ("quote" : Str) = some (Slot.val (.bool (decide (c ≠ 34)))) → σ.lookup ("cur" : Str) = some (Slot.val (chv c)) →
            ExOK pw w h₀ d (scopeOf (stAt 11)) σ (match HB.tail with | Stmt.If _ b _ _ :: _ => b.tail | _ => []) (.cont (FH x ⟨res, part ++ [c], false, decide (c ≠ 34)⟩)) := fun k0 k1 k2 k3 k4 k5 => by
          refine ex_cont (ex_cons (st_aug (x := ("part" : Str)) (p := .str (S part)) k2 (ev_name k5) (inp_adds hadd)) (ex_one st_continue)) ⟨?_, ?_, ?_, ?_, ?_, trivial⟩
          · rw [upd_lookup]; exact k0
          · rw [upd_lookup]; exact k1
          · rw [upd_lookup]; show _ = some (Slot.val (.str (S (part ++ [c])))); rw [eadd]; rfl
          · rw [upd_lookup]; exact k3
          · rw [upd_lookup]; exact k4
        by_cases hq : c = 34
        · rw [decide_eq_true hq] at e2
          refine ex_cons (st_if (c := false) (tst_cmp (ev_name (p := chv c) rfl) ev_str e1) (fun h => nomatch h) (fun _ => ex_one (st_if (c := true) (tst_cmp (ev_name (p := chv c) rfl) ev_str e2) (fun _ => ex_one (st_assign ev_bool)) (fun h => nomatch h)))) (fin rfl rfl rfl rfl (by rw [decide_eq_false (fun h => h hq)]; rfl) rfl)
        · rw [decide_eq_false hq] at e2
          refine ex_cons (st_if (c := false) (tst_cmp (ev_name (p := chv c) rfl) ev_str e1) (fun h => nomatch h) (fun _ => ex_one (st_if (c := false) (tst_cmp (ev_name (p := chv c) rfl) ev_str e2) (fun h => nomatch h) (fun _ => ex_nil)))) (fin rfl rfl rfl rfl (by rw [decide_eq_true hq]; rfl) rfl)
    | false =>
      have second : ∀ {o : Out}, ExOK pw w h₀ d (scopeOf (stAt 11)) (upd (FH x ⟨res, part, false, false⟩) "cur" (.val (chv c))) HB.tail.tail o → ExOK pw w h₀ d (scopeOf (stAt 11)) (upd (FH x ⟨res, part, false, false⟩) "cur" (.val (chv c))) HB o :=
        fun h => first (ex_cons (@st_if _ _ _ _ _ _ _ _ _ _ (false) _ (tst_val (ev_name rfl) truth_bool) (fun h => nomatch h) (fun _ => ex_nil)) h)
      have e1 := cmp_ch (w := w) (h₀ := h₀) (d := d) (c := c) (k := 44) S_comma
      by_cases hc : c = 44
      · rw [decide_eq_true hc] at e1
        have eh : hStep ⟨res, part, false, false⟩ c = ⟨res ++ [part], [], false, false⟩ := by unfold hStep; simp [hc]
        rw [eh]
        refine .inr (second (ex_stop (st_if (c := true) (tst_cmp (ev_name (p := chv c) rfl) ev_str e1) (fun _ => ?_) (fun h => nomatch h))))
        refine ex_cont (ex_cons (st_append (x := ("res" : Str)) (xs := res.map fun p => PV.str (S p)) rfl (ev_name (p := .str (S part)) rfl) (by rw [List.length_map]; exact fitL (Nat.le_trans h1 (Nat.le_trans hn (by decide))))) (ex_cons (st_assign ev_str) (ex_one st_continue))) ⟨rfl, ?_, ?_, rfl, rfl, trivial⟩
        · show _ = some (Slot.own (.lst ((res ++ [part]).map fun p => PV.str (S p)))); rw [List.map_append]; rfl
        · show _ = some (Slot.val (.str (S []))); rw [← S_nil]; rfl
      · rw [decide_eq_false hc] at e1
        have e2 := cmp_ch (w := w) (h₀ := h₀) (d := d) (c := c) (k := 34) S_mark
        have eh : hStep ⟨res, part, false, false⟩ c = ⟨res, part ++ [c], false, decide (c = 34)⟩ := by unfold hStep; simp [hc]
        rw [eh]
        have fin : ∀ {σ : Sig}, σ.lookup ("s" : Str) = some (Slot.val (.str (S x))) → σ.lookup ("res" : Str) = some (.own (.lst (res.map fun p => PV.str (S p)))) → σ.lookup ("part" : Str) = some (Slot.val (.str (S part))) → σ.lookup ("escape" : Str) = some (Slot.val (.bool false)) → σ.lookup ("quote" : Str) = some (Slot.val (.bool (decide (c = 34)))) → σ.lookup ("cur" : Str) = some (Slot.val (chv c)) →
            ExOK pw w h₀ d (scopeOf (stAt 11)) σ HB.tail.tail.tail.tail (.next (FH x ⟨res, part ++ [c], false, decide (c = 34)⟩)) := fun k0 k1 k2 k3 k4 k5 => by
          refine ex_post (ex_one (st_aug (x := ("part" : Str)) (p := .str (S part)) k2 (ev_name k5) (inp_adds hadd))) ⟨?_, ?_, ?_, ?_, ?_, trivial⟩
          · rw [upd_lookup]; exact k0
          · rw [upd_lookup]; exact k1
          · rw [upd_lookup]; show _ = some (Slot.val (.str (S (part ++ [c])))); rw [eadd]; rfl
          · rw [upd_lookup]; exact k3
          · rw [upd_lookup]; exact k4
        refine .inl (second (ex_cons (st_if (c := false) (tst_cmp (ev_name (p := chv c) rfl) ev_str e1) (fun h => nomatch h) (fun _ => ex_nil)) ?_))
        by_cases hq : c = 34
        · rw [decide_eq_true hq] at e2
          exact ex_cons (st_if (c := true) (tst_cmp (ev_name (p := chv c) rfl) ev_str e2) (fun _ => ex_one (st_assign ev_bool)) (fun h => nomatch h)) (fin rfl rfl rfl rfl (by rw [decide_eq_true hq]; rfl) rfl)
        · rw [decide_eq_false hq] at e2
          exact ex_cons (st_if (c := false) (tst_cmp (ev_name (p := chv c) rfl) ev_str e2) (fun h => nomatch h) (fun _ => ex_nil)) (fin rfl rfl rfl rfl (by rw [decide_eq_false hq]; rfl) rfl)
theorem body_http (x : List Nat) (hx : x.length ≤ 2000) : ExOK pw w h₀ d (scopeOf (stAt 11)) [("s", .val (.str (S x)))] (bodyOf (stAt 11)) (.ret (.lst ((httpOf x).map .str))) := by
  have h0 : HFit 0 ⟨[], [], false, false⟩ := ⟨Nat.le_refl 0, Nat.le_refl 0, fun p hp => nomatch hp⟩
  refine ex_cons (st_assign_own (new_list evs_nil)) (ex_cons (st_assign ev_str) (ex_cons (st_assign2 ev_bool asg_name asg_name) ?_))
  refine ex_pre ?_ (show Sub (FH x ⟨[], [], false, false⟩) _ from ⟨rfl, rfl, by show _ = some (Slot.val (.str (S []))); rw [← S_nil]; rfl, rfl, rfl, trivial⟩)
  refine ex_cons (st_for (o := .next (FH x (x.foldl hStep ⟨[], [], false, false⟩))) (it_str (x := S x) (ev_name rfl)) (.inl ⟨_, _, rfl⟩) (turns_fold (FH x) chv hStep x ⟨[], [], false, false⟩ fun i c hi => ?_)) ?_
  · have hi' := (List.getElem?_eq_some_iff.mp hi).1
    have hl : (x.take i).length = i := by rw [List.length_take]; omega
    have hf := hFold_fit (x.take i) h0
    rw [take_next _ _ hi]
    exact ⟨_, asg_name, http_turn x _ c (by omega) hf⟩
  · have hf := hFold_fit x h0
    unfold httpOf
    generalize x.foldl hStep ⟨[], [], false, false⟩ = s at hf ⊢
    obtain ⟨f1, f2, f3⟩ := hf
    have f3' : ∀ p ∈ hEnd s, p.length ≤ 2000 := fun p hp => by
      unfold hEnd at hp
      split at hp
      · rcases List.mem_append.mp hp with hp | hp
        · exact Nat.le_trans (f3 p hp) (by omega)
        · simp at hp; subst hp; omega
      · exact Nat.le_trans (f3 p hp) (by omega)
    have f1' : (hEnd s).length ≤ 2001 := by
      unfold hEnd
      split
      · simp; omega
      · omega
    refine ex_cons (@st_if _ _ _ _ _ _ _ _ _ _ ((((S s.part).length : Int) != 0)) (.next [("res", .own (.lst ((hEnd s).map fun p => PV.str (S p))))]) (tst_val (ev_name rfl) (truth_str (fitL (show s.part.length ≤ 10000 by omega)))) (fun hc => ?_) (fun hc => ?_)) ?_
    · have hc' : s.part.length ≠ 0 := fun e => by
        have : (S s.part).length = 0 := e
        rw [this] at hc; cases hc
      refine ex_post (ex_one (st_append (x := ("res" : Str)) (xs := s.res.map fun p => PV.str (S p)) rfl (ev_name (p := .str (S s.part)) rfl) (by rw [List.length_map]; exact fitL (by omega)))) ⟨?_, trivial⟩
      unfold hEnd; rw [if_pos hc', List.map_append]; rfl
    · have hc' : ¬ s.part.length ≠ 0 := fun e => by
        have : (S s.part).length ≠ 0 := e
        have : (((S s.part).length : Int) != 0) = true := by simp; exact e
        rw [this] at hc; cases hc
      refine ex_end ⟨?_, trivial⟩
      unfold hEnd; rw [if_neg hc']; rfl
    · refine ex_freeze (x := ("res" : Str)) (p := .lst ((hEnd s).map fun p => PV.str (S p))) rfl (ex_one (st_return (ev_new (new_listcomp (it_list (its := (hEnd s).map fun p => PV.str (S p)) (ev_name rfl)) ?_ (.inl ⟨_, _, rfl⟩)))))
      rw [List.map_map]
      exact comp_maps (fun p => PV.str (S p)) _ (hEnd s) [] (fun p hp => ⟨_, asg_name, trivial, ev_strip (ev_name (p := .str (S p)) rfl) (fitL (show p.length ≤ 10000 from Nat.le_trans (f3' p hp) (by decide)))⟩) (by rw [List.length_nil]; exact fitL (by omega))
end
end Mine.Internal

end PartC9
section PartC10
open PySem PySem.W PyProof.Rows
set_option Elab.async false
set_option maxRecDepth 100000
set_option linter.unusedVariables false
namespace Mine.Internal
noncomputable def kvB (t : Str × Str × Str) : Bool := match Txt.splitMax t.1 (S [61]) 1 with
  | [k, v] => k == t.2.1 && Txt.charAt v 0 == some 34 && Txt.charAt v (-1) == some 34 && Txt.slice v (some 1) (some (-1)) == t.2.2 && decide (t.1.length ≤ 1000) && decide (v.length ≤ 1000)
  | _ => false
noncomputable def dstep (es : List (Str × PV)) (t : Str × Str × Str) : List (Str × PV) := dput es t.2.1 (.str t.2.2)
theorem dput_length (es : List (Str × PV)) (k : Str) (p : PV) : (dput es k p).length ≤ es.length + 1 := by
  unfold dput
  split
  · rw [List.length_map]; omega
  · simp
theorem dput_keys (es : List (Str × PV)) (k : Str) (p : PV) : dkeys (dput es k p) = if es.any (fun kv => kv.1 = k) then dkeys es else dkeys es ++ [k] := by
  unfold dput
  split
  · unfold dkeys
    rw [List.map_map]
    refine List.map_congr_left fun kv _ => ?_
    show (if kv.1 = k then (kv.1, p) else kv).1 = kv.1
    split <;> rfl
  · unfold dkeys; rw [List.map_append]; rfl
theorem dput_nodup {es : List (Str × PV)} (h : (dkeys es).Nodup) (k : Str) (p : PV) : (dkeys (dput es k p)).Nodup := by
  rw [dput_keys]
  split
  · exact h
  · rename_i hn
    rw [List.nodup_append]
    refine ⟨h, by simp, fun a ha b hb => ?_⟩
    simp at hb; subst hb
    intro e; subst e
    apply hn
    unfold dkeys at ha
    obtain ⟨kv, hk, rfl⟩ := List.mem_map.mp ha
    exact List.any_eq_true.mpr ⟨kv, hk, by simp⟩
theorem dfold_ok : ∀ (its : List (Str × Str × Str)) (es : List (Str × PV)), (dkeys es).Nodup → (dkeys (its.foldl dstep es)).Nodup ∧ (its.foldl dstep es).length ≤ es.length + its.length
  | [], es, h => ⟨h, Nat.le_refl _⟩
  | t :: its, es, h => by
    obtain ⟨h1, h2⟩ := dfold_ok its (dstep es t) (dput_nodup h _ _)
    have : (dstep es t).length ≤ es.length + 1 := dput_length ..
    exact ⟨h1, by rw [List.foldl_cons, List.length_cons]; omega⟩
noncomputable def FK (es : List (Str × PV)) (x : List PV) : Sig := [("l", .val (.lst x)), ("parsed", .own (.dct es))]
section
variable {w : World} {h₀ : Heap} {d : Nat} {sc : Scope} {σ : Sig} {mg mb : Str → Option Value} {C : Addr}
theorem ev_is {prog : Program} {e : Expr} {p q : PV} (h : EvOK prog w h₀ d sc σ e p) (hq : p = q) : EvOK prog w h₀ d sc σ e q := hq ▸ h
theorem ev_split_max {o a b : Expr} {apos pos : Pos} {x y : Str} {k : Int} (ho : EvOK pw w h₀ d sc σ o (.str x)) (ha : EvOK pw w h₀ d sc σ a (.str y)) (hb : EvOK pw w h₀ d sc σ b (.int k)) (hsz : x.length + 2 ≤ sizeLine) (hy : (y.length == 0) = false) (hk : (decide (k < -(2 ^ 63 : Int)) || decide (k ≥ 2 ^ 63)) = false)
    (hbase : ∀ env, attributeBase o "split" env (eval o env) = eval o env) (hline : (apos.endLine == pos.line) = true) (hs : ∀ env, starEach [a, b] env = (false, eval a env) :: starEach [b] env) (hs' : ∀ env, starEach [b] env = (false, eval b env) :: starEach [] env) :
    EvOK pw w h₀ d sc σ (.Call (.Attribute o "split" apos) [a, b] [] pos) (.lst ((Txt.splitMax x y k).map .str)) :=
  ev_smeth PySem.F.slot_str_split PySem.F.type_str_split ho (evs_cons ha (evs_cons hb evs_nil hs') hs) (call_split_max hsz hy hk) hbase (fun env => by rw [hs, hs']; rfl) hline (fun env => by rw [hs, hs']; rfl) (fun env => ⟨_, _, hs env⟩)
theorem keqv_turn (x : List PV) (es : List (Str × PV)) (hn : (dkeys es).Nodup) (hz : es.length ≤ 1000) (t : Str × Str × Str) (ht : kvB t = true) : ExOK pw w h₀ d (scopeOf (stAt 10)) (upd (FK es x) "elt" (.val (.str t.1))) (forBody (bodyOf (stAt 10))[1]?) (.next (FK (dstep es t) x)) := by
  unfold kvB at ht
  split at ht
  case h_2 => cases ht
  case h_1 k v hs =>
  simp only [Bool.and_eq_true, beq_iff_eq, decide_eq_true_eq] at ht
  obtain ⟨⟨⟨⟨⟨hk, h1⟩, h2⟩, h3⟩, h4⟩, h5⟩ := ht
  have e0 : PV.lst ((Txt.splitMax t.1 "=" 1).map PV.str) = .lst [.str k, .str v] := by rw [S_eq, hs]; rfl
  refine ex_cons (st_assign_tgt (ev_is (ev_split_max (x := t.1) (y := "=") (k := 1) (ev_name rfl) ev_str ev_int (fitL (show t.1.length + 2 ≤ 10000 by omega)) (by decide +kernel) (by decide +kernel) (fun _ => rfl) rfl (fun _ => rfl) (fun _ => rfl)) e0) (asg_tup_list (asgs_cons asg_name (asgs_cons asg_name asgs_nil)))) ?_
  have c1 := cmp_ch (w := w) (h₀ := h₀) (d := d) (c := 34) (k := 34) S_mark
  have g1 : item? (.str v) 0 = some (chv 34) := by show (Txt.charAt v 0).map (fun c => PV.str ⟨#[c]⟩) = _; rw [h1]; rfl
  have g2 : item? (.str v) (-1) = some (chv 34) := by show (Txt.charAt v (-1)).map (fun c => PV.str ⟨#[c]⟩) = _; rw [h2]; rfl
  refine ex_cons (@st_if _ _ _ _ _ _ _ _ _ _ (true && (true && true)) (.next (upd (upd (upd (upd (FK es x) "elt" (.val (.str t.1))) "k" (.val (.str k))) "v" (.val (.str v))) "v" (.val (.str t.2.2)))) (tst_bool (and_cons (tst_cmp (ev_item (p := .str v) (ev_name rfl) ev_int g1 (by decide) (by decide)) ev_str c1) fun _ => and_cons (tst_cmp (ev_item (p := .str v) (ev_name rfl) (ev_neg ev_int) g2 (by decide) (by decide)) ev_str c1) fun _ => and_nil)) (fun _ => ?_) (fun h => nomatch h)) ?_
  · refine ex_one (st_assign (ev_slice (l := some 1) (u := some (-1)) (k := none) (p := .str v) (ev_name rfl) (part_some ev_int) (part_some (ev_neg ev_int)) part_none ?_ (fitL (show v.length ≤ 10000 by omega))))
    show some (PV.str (Txt.slice v (some 1) (some (-1)))) = _
    rw [h3]
  · refine ex_post (ex_one (st_assign_tgt (ev_name (p := .str t.2.2) rfl) (asg_dict (x := ("parsed" : Str)) (es := es) rfl (ev_name (p := .str k) rfl) hn (fitL (by omega))))) ⟨rfl, ?_, trivial⟩
    unfold dstep; rw [← hk]; rfl
theorem body_keqv (its : List (Str × Str × Str)) (h : ∀ t ∈ its, kvB t = true) (hz : its.length ≤ 1000) (hm : SysIn h₀) : ExOK pw w h₀ d (scopeOf (stAt 10)) [("l", .val (.lst (its.map fun t => PV.str t.1)))] (bodyOf (stAt 10)) (.ret (.dct (its.foldl dstep []))) := by
  refine ex_cons (st_assign_own (new_dict hm)) ?_
  refine ex_pre ?_ (show Sub (FK [] (its.map fun t => PV.str t.1)) _ from ⟨rfl, rfl, trivial⟩)
  refine ex_cons (st_for (o := .next (FK (its.foldl dstep []) (its.map fun t => PV.str t.1))) (it_list (its := its.map fun t => PV.str t.1) (ev_name rfl)) (.inl ⟨_, _, rfl⟩) (turns_fold (fun es => FK es (its.map fun t => PV.str t.1)) (fun t => PV.str t.1) dstep its [] fun i t hi => ⟨_, asg_name, .inl ?_⟩)) ?_
  · rw [take_next _ _ hi]
    have hi' := (List.getElem?_eq_some_iff.mp hi).1
    obtain ⟨h1, h2⟩ := dfold_ok (its.take i) [] List.nodup_nil
    rw [List.length_nil, List.length_take] at h2
    exact keqv_turn _ _ h1 (by omega) t (h t (List.mem_of_getElem? hi))
  · exact ex_freeze (x := ("parsed" : Str)) rfl (ex_one (st_return (ev_name rfl)))
end
end Mine.Internal

end PartC10
section PartC11
open PySem PySem.W PyProof.Rows
set_option Elab.async false
set_option maxRecDepth 100000
set_option linter.unusedVariables false
namespace Mine.Internal
structure SS where
  start : Int
  opn : Option Int
  res : List Str
noncomputable def sStep (x : Str) (s : SS) (o : Int × Str) : SS :=
  if (o.2 == ("\"" : Str)) = true then
    match s.opn with
    | none => ⟨s.start, some o.1, s.res⟩
    | some q => ⟨o.1 + 1, none, if s.start != q then s.res ++ [Txt.slice x (some s.start) (some q)] else s.res⟩
  else s
noncomputable def sEnd (x : Str) (s : SS) : List Str := if s.start < x.length then s.res ++ [Txt.slice x (some s.start) none] else s.res
noncomputable def stripOf (x : List Nat) : Str := Txt.join "" (sEnd (S x) ((escOuts 0 false x).foldl (sStep (S x)) ⟨0, none, []⟩))
noncomputable def optP : Option Int → PV
  | none => .none
  | some i => .int i
noncomputable def FSt (x : Str) (s : SS) : Sig := [("addr", .val (.str x)), ("start", .val (.int s.start)), ("open_pos", .val (optP s.opn)), ("result", .own (.lst (s.res.map .str)))]
noncomputable def SFit (x : Str) (n : Nat) (s : SS) : Prop := s.res.length ≤ n ∧ ∀ p ∈ s.res, p.length ≤ x.length
theorem sStep_fit {x : Str} {n : Nat} {s : SS} (h : SFit x n s) (o : Int × Str) : SFit x (n + 1) (sStep x s o) := by
  obtain ⟨h1, h2⟩ := h
  unfold sStep
  split
  · split
    · exact ⟨Nat.le_succ_of_le h1, h2⟩
    · dsimp only [SFit]
      split
      · refine ⟨by simp; omega, fun p hp => ?_⟩
        rcases List.mem_append.mp hp with hp | hp
        · exact h2 p hp
        · simp at hp; subst hp; exact Txt.slice_le ..
      · exact ⟨Nat.le_succ_of_le h1, h2⟩
  · exact ⟨Nat.le_succ_of_le h1, h2⟩
theorem sFold_fit {x : Str} : ∀ (l : List (Int × Str)) {n : Nat} {s : SS}, SFit x n s → SFit x (n + l.length) (l.foldl (sStep x) s)
  | [], _, _, h => h
  | o :: l, n, s, h => by
    have := sFold_fit l (sStep_fit h o)
    rw [List.foldl_cons, List.length_cons, show n + (l.length + 1) = n + 1 + l.length by omega]; exact this
theorem escOuts_len : ∀ (cs : List Nat) (i : Nat) (e : Bool), (escOuts i e cs).length ≤ cs.length
  | [], i, e => by cases e <;> exact Nat.le_refl 0
  | c :: cs, i, true => by have := escOuts_len cs (i + 1) false; simp only [escOuts, List.length_cons]; omega
  | c :: cs, i, false => by
    have h1 := escOuts_len cs (i + 1) false
    have h2 := escOuts_len cs (i + 1) true
    simp only [escOuts, List.length_cons]
    split
    · omega
    · simp only [List.length_cons]; omega
section
variable {w : World} {h₀ : Heap} {d : Nat} {sc : Scope} {σ : Sig} {mg mb : Str → Option Value} {C : Addr} {prog : Program}
theorem cmp_is_none : CmpOK prog w h₀ d .Is .none .none true := fun A K s x y hA hO ra rb => by
  cases ra; cases rb
  exact wpAny_pure ⟨K, Step.refl hO.sub, rfl⟩
theorem cmp_is_none_int {i : Int} : CmpOK prog w h₀ d .Is (.int i) .none false := fun A K s x y hA hO ra rb => by
  cases ra; cases rb
  exact wpAny_pure ⟨K, Step.refl hO.sub, rfl⟩
noncomputable def SB : List Stmt := forBody (bodyOf (stAt 5))[4]?
theorem strip_turn (x : Str) (s : SS) (o : Int × Str) {n : Nat} (hn : n ≤ 5000) (hx : x.length ≤ 2000) (h : SFit x n s) :
    ExOK pw w h₀ d (scopeOf (stAt 5)) (upd (upd (FSt x s) "pos" (.val (.int o.1))) "ch" (.val (.str o.2))) SB (.next (FSt x (sStep x s o))) := by
  obtain ⟨start, opn, res⟩ := s
  obtain ⟨h1, h2⟩ := h
  have h1 : res.length ≤ n := h1
  refine ex_one (st_if (c := (o.2 == ("\"" : Str))) (tst_cmp (ev_name (p := .str o.2) rfl) ev_str cmp_eqs) (fun hc => ?_) (fun hc => ?_))
  · unfold sStep
    rw [if_pos hc]
    cases opn with
    | none =>
      refine ex_one (st_if (c := true) (tst_cmp (ev_name (p := .none) rfl) ev_none cmp_is_none) (fun _ => ?_) (fun h => nomatch h))
      exact ex_post (ex_one (st_assign (ev_name (p := .int o.1) rfl))) ⟨rfl, rfl, rfl, rfl, trivial⟩
    | some q =>
      refine ex_one (st_if (c := false) (tst_cmp (ev_name (p := .int q) rfl) ev_none cmp_is_none_int) (fun h => nomatch h) (fun _ => ?_))
      refine ex_cons (@st_if _ _ _ _ _ _ _ _ _ _ (start != q) (.next (upd (upd (upd (FSt x ⟨start, some q, res⟩) "pos" (.val (.int o.1))) "ch" (.val (.str o.2))) "result" (.own (.lst ((if start != q then res ++ [Txt.slice x (some start) (some q)] else res).map .str))))) (tst_cmp (ev_name rfl) (ev_name (p := .int q) rfl) cmp_nei) (fun hd => ?_) (fun hd => ?_)) ?_
      · refine ex_post (ex_one (st_append (x := ("result" : Str)) (xs := res.map .str) rfl (ev_slice (l := some start) (u := some q) (k := none) (p := .str x) (r := .str (Txt.slice x (some start) (some q))) (ev_name rfl) (part_some (ev_name rfl)) (part_some (ev_name (p := .int q) rfl)) part_none rfl (fitL (show x.length ≤ 10000 by omega))) (by rw [List.length_map]; exact fitL (by omega)))) ⟨rfl, rfl, rfl, ?_, rfl, rfl, trivial⟩
        rw [if_pos hd, List.map_append]; rfl
      · refine ex_end ⟨rfl, rfl, rfl, ?_, rfl, rfl, trivial⟩
        rw [if_neg (by rw [hd]; exact Bool.false_ne_true)]; rfl
      · exact ex_post (ex_cons (st_assign (ev_bin (ev_name (p := .int o.1) rfl) ev_int bin_add)) (ex_one (st_assign ev_none))) ⟨rfl, rfl, rfl, rfl, trivial⟩
  · unfold sStep
    rw [if_neg (by rw [hc]; exact Bool.false_ne_true)]
    exact ex_end ⟨rfl, rfl, rfl, rfl, trivial⟩
structure KitE (h₀ : Heap) (mg mb : Str → Option Value) : Prop where
  enum : Callee mg mb ("enumerate" : Str) (.type "enumerate")
  fn : ∃ a fd, Callee mg mb ("_iter_escaped_chars" : Str) (.ref a) ∧ FnAt h₀ a fd (bodyOf (stAt 4)) ∧ fd.scope = ESC ∧ ∀ v, bindArgs fd ⟨[v], []⟩ = pure [(("addr" : Str), v)]
theorem body_strip (G : Glb h₀ mg mb) (E : KitE h₀ mg mb) (hl : Callee mg mb ("len" : Str) (.builtin "len")) (x : List Nat) (hx : x.length ≤ 2000) (hesc : escEnd false x = false) (hq : (Builtin.Str.occurrences (S x) "\"" 0 (S x).length 1).isEmpty = false) :
    ExOK pw w h₀ (d + 3) (scopeOf (stAt 5)) [("addr", .val (.str (S x)))] (bodyOf (stAt 5)) (.ret (.str (stripOf x))) := by
  have c0 := cmp_nins (prog := pw) (w := w) (h₀ := h₀) (d := d + 3) (x := S x) (y := "\"")
  rw [hq] at c0
  refine ex_cons (st_if (c := false) (tst_cmp ev_str (ev_name rfl) c0) (fun h => nomatch h) (fun _ => ex_nil)) (ex_cons (st_assign ev_int) (ex_cons (st_assign ev_none) (ex_cons (st_assign_own (new_list evs_nil)) ?_)))
  refine ex_pre ?_ (show Sub (FSt (S x) ⟨0, none, []⟩) _ from ⟨rfl, rfl, rfl, rfl, trivial⟩)
  obtain ⟨a, fd, f1, f2, f3, f4⟩ := E.fn
  have h0 : SFit (S x) 0 ⟨0, none, []⟩ := ⟨Nat.le_refl 0, fun p hp => nomatch hp⟩
  refine ex_cons (st_for (o := .next (FSt (S x) ((escOuts 0 false x).foldl (sStep (S x)) ⟨0, none, []⟩))) (it_escaped G E.enum f1 f2 f3 f4 (ev_name (p := .str (S x)) rfl) hesc rfl rfl (fun _ => rfl) (fun _ => ⟨_, _, rfl⟩) (fun _ => rfl)) (.inr ⟨_, _, _, rfl⟩) (turns_fold (FSt (S x)) outP (sStep (S x)) (escOuts 0 false x) ⟨0, none, []⟩ fun i o hi => ⟨_, asg_tup (asgs_cons asg_name (asgs_cons asg_name asgs_nil)), .inl ?_⟩)) ?_
  · rw [take_next _ _ hi]
    have hi' := (List.getElem?_eq_some_iff.mp hi).1
    have hlen := escOuts_len x 0 false
    have hf := sFold_fit ((escOuts 0 false x).take i) h0
    rw [List.length_take] at hf
    exact strip_turn _ _ _ (by omega) hx hf
  · have hlen := escOuts_len x 0 false
    have hf := sFold_fit (escOuts 0 false x) h0
    unfold stripOf
    generalize (escOuts 0 false x).foldl (sStep (S x)) ⟨0, none, []⟩ = s at hf ⊢
    obtain ⟨g1, g2⟩ := hf
    have hsz : (S x).length ≤ sizeLine := fitL (show x.length ≤ 10000 by omega)
    have k1 : (sEnd (S x) s).length ≤ 2001 := by
      unfold sEnd
      split
      · simp; omega
      · omega
    have k2 : ∀ p ∈ sEnd (S x) s, p.length ≤ 2000 := fun p hp => by
      have hxl : (S x).length ≤ 2000 := hx
      unfold sEnd at hp
      split at hp
      · rcases List.mem_append.mp hp with hp | hp
        · exact Nat.le_trans (g2 p hp) hxl
        · simp at hp; subst hp; exact Nat.le_trans (Txt.slice_le ..) hxl
      · exact Nat.le_trans (g2 p hp) hxl
    refine ex_cons (@st_if _ _ _ _ _ _ _ _ _ _ (decide (s.start < (S x).length)) (.next [("result", .own (.lst ((sEnd (S x) s).map .str)))]) (tst_cmp (ev_name rfl) (ev_call G hl (.inr (.inl ⟨_, rfl⟩)) (evs_cons (ev_name (p := .str (S x)) rfl) evs_nil) (call_len_s hsz)) cmp_lti) (fun hc => ?_) (fun hc => ?_)) ?_
    · refine ex_post (ex_one (st_append (x := ("result" : Str)) (xs := s.res.map .str) rfl (ev_slice (l := some s.start) (u := none) (k := none) (p := .str (S x)) (r := .str (Txt.slice (S x) (some s.start) none)) (ev_name rfl) (part_some (ev_name rfl)) part_none part_none rfl hsz) (by rw [List.length_map]; exact fitL (by omega)))) ⟨?_, trivial⟩
      unfold sEnd; rw [if_pos (of_decide_eq_true hc), List.map_append]; rfl
    · refine ex_end ⟨?_, trivial⟩
      unfold sEnd; rw [if_neg (of_decide_eq_false hc)]; rfl
    · refine ex_freeze (x := ("result" : Str)) (p := .lst ((sEnd (S x) s).map .str)) rfl (ex_one (st_return (ev_join (xs := sEnd (S x) s) ev_str (ev_name rfl) (joinOk_of ?_))))
      have hsum : ∀ (l : List Str), (∀ p ∈ l, p.length ≤ 2000) → (l.map (·.length)).sum ≤ l.length * 2000 := by
        intro l hl
        induction l with
        | nil => exact Nat.le_refl _
        | cons a r ih =>
          have h1 := ih fun p hp => hl p (.tail _ hp)
          have h2 := hl a (.head _)
          rw [List.map_cons, List.sum_cons, List.length_cons, Nat.add_mul]; omega
      have e1 := hsum _ k2
      have e2 : ("" : Str).length = 0 := by decide +kernel
      have e3 : (16777216 : Nat) = sizeLine := by decide
      have e4 : (sEnd (S x) s).length * 2000 ≤ 2001 * 2000 := Nat.mul_le_mul_right _ k1
      rw [e2, Nat.mul_zero]
      omega
end
end Mine.Internal

end PartC11
section PartC12
open PySem PySem.W PyProof.Rows
set_option Elab.async false
set_option maxRecDepth 100000
set_option linter.unusedVariables false
namespace Mine.Internal
noncomputable def capline (x : Str) : Str := Txt.join " " ((Txt.words x).map Txt.capitalize)
structure CapOk (x : Str) : Prop where
  len : x.length ≤ 1000
  join : JoinOk " " ((Txt.words x).map Txt.capitalize) = true
  each : ∀ p ∈ Txt.words x, p.length ≤ 1000
  few : (Txt.words x).length ≤ 1000
structure KitC (h₀ : Heap) (mg mb : Str → Option Value) : Prop where
  map_ : Callee mg mb ("map" : Str) (.type "map")
  str_ : Callee mg mb ("str" : Str) (.type "str")
  fn : ∃ a fd, Callee mg mb ("capwords" : Str) (.ref a) ∧ FnAt h₀ a fd (bodyOf (stAt 2)) ∧ fd.scope = scopeOf (stAt 2) ∧ ∀ (s : Shared) v, (∀ a o, h₀.get? a = some o → s.heap.get? a = some o) → BindsTo s fd ⟨[v], []⟩ [("s", v), ("sep", .none)]
section
variable {w : World} {h₀ : Heap} {d : Nat} {sc : Scope} {σ : Sig} {mg mb : Str → Option Value} {F : Frag}
theorem ev_split_none {o a : Expr} {apos pos : Pos} {x : Str} (ho : EvOK pw w h₀ d sc σ o (.str x)) (ha : EvOK pw w h₀ d sc σ a .none) (hsz : x.length + 2 ≤ sizeLine)
    (hbase : ∀ env, attributeBase o "split" env (eval o env) = eval o env) (hline : (apos.endLine == pos.line) = true) (hs : ∀ env, starEach [a] env = (false, eval a env) :: starEach [] env) :
    EvOK pw w h₀ d sc σ (.Call (.Attribute o "split" apos) [a] [] pos) (.lst ((Txt.words x).map .str)) :=
  ev_smeth PySem.F.slot_str_split PySem.F.type_str_split ho (evs_cons ha evs_nil hs) (call_split_none hsz) hbase (fun env => by rw [hs]; rfl) hline (fun env => by rw [hs]; rfl) (fun env => ⟨_, _, hs env⟩)
theorem body_capwords (G : Glb h₀ mg mb) (X : F.In h₀) (Ck : KitC h₀ mg mb) (x : Str) (h : CapOk x) : ExOK pw w h₀ d (scopeOf (stAt 2)) [("s", .val (.str x)), ("sep", .val .none)] (bodyOf (stAt 2)) (.ret (.str (capline x))) := by
  have hl := h.len
  exact ex_one (st_return (ev_capjoin (y := x) (ys := Txt.words x) G X Ck.map_ Ck.str_ (ev_or_none (ev_name rfl) ev_str) (ev_split_none (ev_name rfl) (ev_name rfl) (fitL (show x.length + 2 ≤ 10000 by omega)) (fun _ => rfl) rfl (fun _ => rfl)) h.join (fun p hp => Nat.le_trans (h.each p hp) (by decide)) (fitL (by have := h.few; omega)) rfl rfl (fun _ => rfl) rfl (fun _ => rfl)))
theorem ev_capwords {e : Expr} {xpos pos : Pos} {x : Str} (G : Glb h₀ mg mb) (X : F.In h₀) (Ck : KitC h₀ mg mb) (he : EvOK pw w h₀ (d + 1) sc σ e (.str x)) (h : CapOk x)
    (hx : sc.names.lookup ("capwords" : Str) = some .globalImplicit) (hs : ∀ env, starEach [e] env = (false, eval e env) :: starEach [] env) :
    EvOK pw w h₀ (d + 1) sc σ (.Call (.Name ("capwords" : Str) xpos) [e] [] pos) (.str (capline x)) := by
  obtain ⟨a, fd, f1, f2, f3, f4⟩ := Ck.fn
  refine ev_call G f1 f2.kindOk (evs_cons he evs_nil hs) (fun A K s vs hA hO rs => ?_) hx rfl (fun env => by rw [hs]; rfl) (fun env => ⟨_, _, hs env⟩)
  cases rs with
  | cons r rs =>
  cases rs
  rename_i v
  have hb := body_capwords (w := w) (d := d) G X Ck x h
  refine wpAny_call (codeAny_mono (code_fn f2 G.lim hA hO (R := Alive s) (fun _ h => h) (oa := fun _ => []) (σ := [("s", .val (.str x)), ("sep", .val .none)]) (f4 s v hO.keep) (fun y hy => ?_) ?_ ?_ ?_ (by rw [f3]; rfl) (by rw [f3]; exact hb)) fun r s' h => ?_)
  · rw [f3]
    simp only [List.mem_cons, List.mem_nil_iff, or_false] at hy
    rcases hy with rfl | rfl
    · exact .inl rfl
    · exact .inl rfl
  · intro y sl e
    rw [List.lookup_cons, List.lookup_cons, List.lookup_nil, beq_str, beq_str] at e
    by_cases h1 : y = "s"
    · subst h1; simp at e; subst e
      exact ⟨v, rfl, r⟩
    · by_cases h2 : y = "sep"
      · subst h2; simp [h1] at e; subst e
        exact ⟨.none, rfl, .none⟩
      · simp [h1, h2] at e
  · intro y p e
    rw [List.lookup_cons, List.lookup_cons, List.lookup_nil, beq_str, beq_str] at e
    by_cases h1 : y = "s"
    · subst h1; simp at e
    · by_cases h2 : y = "sep"
      · subst h2; simp [h1] at e
      · simp [h1, h2] at e
  · intro y z p q _ e
    rw [List.lookup_cons, List.lookup_cons, List.lookup_nil, beq_str, beq_str] at e
    by_cases h1 : y = "s"
    · subst h1; simp at e
    · by_cases h2 : y = "sep"
      · subst h2; simp [h1] at e
      · simp [h1, h2] at e
  · obtain ⟨K', st, v, rfl, rv⟩ := h
    exact ⟨K', st, rv⟩
end
end Mine.Internal

end PartC12
section PartC13
open PySem PySem.W PyProof.Rows
set_option Elab.async false
set_option maxRecDepth 100000
set_option linter.unusedVariables false
namespace Mine.Internal
structure WS where
  cnt : List Int
  b : Nat
  n : Nat
  nt : Nat
noncomputable def grow (cnt : List Int) (b : Nat) : List Int := if cnt.length ≤ b then cnt ++ List.replicate (b - cnt.length + 1) 0 else cnt
noncomputable def wTab (s : WS) : WS := ⟨(grow s.cnt s.b).set s.b ((grow s.cnt s.b).getD s.b 0 + 1), 0, s.n + 1, s.nt + 1⟩
noncomputable def wGo : WS → List Nat → WS
  | s, [] => s
  | s, c :: cs => if c = 32 then wGo ⟨s.cnt, s.b + 1, s.n + 1, s.nt⟩ cs else if c = 9 then wGo (wTab s) cs else s
noncomputable def w0 : WS := ⟨[], 0, 0, 0⟩
theorem grow_lt (cnt : List Int) (b : Nat) : b < (grow cnt b).length := by
  unfold grow
  split
  · simp; omega
  · omega
theorem grow_len {cnt : List Int} {b m : Nat} (h1 : cnt.length ≤ m) (h2 : b < m) : (grow cnt b).length ≤ m := by
  unfold grow
  split
  · simp; omega
  · exact h1
structure KitW (h₀ : Heap) (mg mb : Str → Option Value) (F : Frag) (C : Addr) : Prop where
  at_ : Callee mg mb "Whitespace" (.ref C)
  keep : keepIn F (.ref C) = true
  cls : ClsOk F C
  init : ∃ f, findIn F (.ref C) "__init__" = some (some (.ref f)) ∧ typeIn F (.ref f) = some (.type "function") ∧ FnS h₀ (methAt 7 1) f ["self", "ws"]
  eq_ : ∃ f, findIn F (.ref C) "equal" = some (some (.ref f)) ∧ typeIn F (.ref f) = some (.type "function") ∧ FnS h₀ (methAt 7 4) f ["self", "other"]
  take : ∀ name ∈ (["raw", "n", "nt", "norm", "is_simple"] : List Str), takerIn F C name = some none ∧ findIn F (.ref C) name = some none
  s_ : ∃ mc t, readsIn F C mc = true ∧ findCls F (.ref C) mc "S" = some (.val (.str " " t))
  t_ : ∃ mc t, readsIn F C mc = true ∧ findCls F (.ref C) mc "T" = some (.val (.str "\t" t))
  tup : Callee mg mb ("tuple" : Str) (.type "tuple")
noncomputable def FW (C i : Addr) (x : Str) (s : WS) : Sig := [("self", .own (.obj C (some i) [("raw", .str x)])), ("S", .val (.str " ")), ("T", .val (.str "\t")), ("count", .own (il s.cnt)), ("b", .val (.int s.b)), ("n", .val (.int s.n)), ("nt", .val (.int s.nt))]
noncomputable def WB : List Stmt := forBody (bodyOf (methAt 7 1))[4]?
noncomputable def wAttrs (x : Str) (s : WS) : List (Str × PV) := [("raw", .str x), ("n", .int s.n), ("nt", .int s.nt), ("norm", .tup [.tup (s.cnt.map .int), .int s.b]), ("is_simple", .bool (decide ((s.cnt.length : Int) ≤ 1)))]
noncomputable def wobj (C : Addr) (x : Str) (s : WS) : PV := .obj C none (wAttrs x s)
section
variable {w : World} {h₀ : Heap} {d : Nat} {sc : Scope} {σ : Sig} {mg mb : Str → Option Value} {F : Frag} {C : Addr} {prog : Program}
theorem ex_brk {σ₁ σ₂ : Sig} {ss : List Stmt} (h : ExOK prog w h₀ d sc σ ss (.brk σ₁)) (hs : Sub σ₂ σ₁) : ExOK prog w h₀ d sc σ ss (.brk σ₂) := fun A env K s R hA hE hS => by
  refine wpAny_mono (h A env K s R hA hE hS) (fun f s' h' => ?_) fun _ _ x => x
  obtain ⟨K', st, hf⟩ := h'
  refine ⟨K', st, ?_⟩
  cases f with
  | brk => exact St.forget hf hs
  | cont => exact hf.elim
  | next => exact hf.elim
  | ret => exact hf.elim
theorem ws_blank (i : Addr) (x : Str) (s : WS) : ExOK pw w h₀ d (scopeOf (methAt 7 1)) (upd (FW C i x s) "ch" (.val (chv 32))) WB (.next (FW C i x ⟨s.cnt, s.b + 1, s.n + 1, s.nt⟩)) := by
  have e1 := cmp_ch (w := w) (h₀ := h₀) (d := d) (c := 32) (k := 32) S_blank
  refine ex_one (st_if (c := true) (tst_cmp (ev_name (p := chv 32) rfl) (ev_name rfl) e1) (fun _ => ?_) (fun h => nomatch h))
  refine ex_post (ex_cons (st_assign (ev_bin (ev_name rfl) ev_int bin_add)) (ex_one (st_assign (ev_bin (ev_name rfl) ev_int bin_add)))) ⟨rfl, rfl, rfl, rfl, ?_, ?_, rfl, trivial⟩
  · show _ = some (Slot.val (.int ((s.b + 1 : Nat) : Int))); rw [Int.natCast_add]; rfl
  · show _ = some (Slot.val (.int ((s.n + 1 : Nat) : Int))); rw [Int.natCast_add]; rfl
theorem ws_other (i : Addr) (x : Str) (s : WS) (c : Nat) (h1 : c ≠ 32) (h2 : c ≠ 9) : ExOK pw w h₀ d (scopeOf (methAt 7 1)) (upd (FW C i x s) "ch" (.val (chv c))) WB (.brk (FW C i x s)) := by
  have e1 := cmp_ch (w := w) (h₀ := h₀) (d := d) (c := c) (k := 32) S_blank
  have e2 := cmp_ch (w := w) (h₀ := h₀) (d := d) (c := c) (k := 9) S_tab
  rw [decide_eq_false h1] at e1
  rw [decide_eq_false h2] at e2
  refine ex_one (st_if (c := false) (tst_cmp (ev_name (p := chv c) rfl) (ev_name rfl) e1) (fun h => nomatch h) (fun _ => ?_))
  refine ex_one (st_if (c := false) (tst_cmp (ev_name (p := chv c) rfl) (ev_name rfl) e2) (fun h => nomatch h) (fun _ => ?_))
  exact ex_brk (ex_one st_break) ⟨rfl, rfl, rfl, rfl, rfl, rfl, rfl, trivial⟩
theorem ws_tab (G : Glb h₀ mg mb) (hl : Callee mg mb ("len" : Str) (.builtin "len")) (i : Addr) (x : Str) (s : WS) (hb : s.b ≤ 1000) (hc : s.cnt.length ≤ 1001) : ExOK pw w h₀ d (scopeOf (methAt 7 1)) (upd (FW C i x s) "ch" (.val (chv 9))) WB (.next (FW C i x (wTab s))) := by
  have e1 := cmp_ch (w := w) (h₀ := h₀) (d := d) (c := 9) (k := 32) S_blank
  have e2 := cmp_ch (w := w) (h₀ := h₀) (d := d) (c := 9) (k := 9) S_tab
  obtain ⟨cnt, b, n, nt⟩ := s
  have hb : b ≤ 1000 := hb
  have hc : cnt.length ≤ 1001 := hc
  refine ex_one (st_if (c := false) (tst_cmp (ev_name (p := chv 9) rfl) (ev_name rfl) e1) (fun h => nomatch h) (fun _ => ?_))
  refine ex_one (st_if (c := true) (tst_cmp (ev_name (p := chv 9) rfl) (ev_name rfl) e2) (fun _ => ?_) (fun h => nomatch h))
  refine ex_cons (st_assign (ev_bin (ev_name rfl) ev_int bin_add)) (ex_cons (st_assign (ev_bin (ev_name rfl) ev_int bin_add)) ?_)
  have hlc : (cnt.map PV.int).length = cnt.length := List.length_map ..
  refine ex_cons (@st_if _ _ _ _ _ _ _ _ _ _ (decide (((cnt.map PV.int).length : Int) ≤ b)) (.next [("self", .own (.obj C (some i) [("raw", .str x)])), ("S", .val (.str " ")), ("T", .val (.str "\t")), ("count", .own (il (grow cnt b))), ("b", .val (.int b)), ("n", .val (.int (n + 1))), ("nt", .val (.int (nt + 1)))]) (tst_cmp (ev_name rfl) (ev_len_own (f := ("len" : Str)) (x := ("count" : Str)) (xs := cnt.map .int) G hl rfl (by rw [hlc]; exact fitL (by omega)) rfl rfl rfl) cmp_gei) (fun hd => ?_) (fun hd => ?_)) ?_
  · have hd' := of_decide_eq_true hd
    have hd2 : cnt.length ≤ b := by omega
    refine ex_freeze (x := ("count" : Str)) (p := il cnt) rfl ?_
    refine ex_post (ex_one (st_assign_own (new_addl (ev_name (p := il cnt) rfl) (ev_bin (ev_list (evs_cons ev_int evs_nil)) (ev_bin (ev_bin (ev_name (p := .int b) rfl) (ev_call G hl (.inr (.inl ⟨_, rfl⟩)) (evs_cons (ev_name (p := il cnt) rfl) evs_nil) (call_len_l (by rw [hlc]; exact fitL (by omega)))) bin_sub) ev_int bin_add) (bin_mull (by omega) (by omega) ?_)) ?_))) ⟨rfl, rfl, rfl, ?_, rfl, rfl, rfl, trivial⟩
    · rw [hlc]; simp only [List.length_cons, List.length_nil]; omega
    · rw [hlc]; simp only [List.length_flatten, List.map_replicate, List.length_cons, List.length_nil, List.sum_replicate_nat]; exact fitL (by omega)
    · rw [hlc, show ((b : Int) - cnt.length + 1).toNat = b - cnt.length + 1 by omega]
      unfold il grow
      rw [if_pos hd2, List.map_append, List.map_replicate]
      have : ∀ k : Nat, (List.replicate k [PV.int 0]).flatten = List.replicate k (PV.int 0) := fun k => by
        induction k with
        | zero => rfl
        | succ k ih => rw [List.replicate_succ, List.flatten_cons, ih, List.replicate_succ]; rfl
      rw [this]; rfl
  · have hd' := of_decide_eq_false hd
    have hd2 : ¬ cnt.length ≤ b := by omega
    refine ex_end ⟨rfl, rfl, rfl, ?_, rfl, rfl, rfl, trivial⟩
    unfold grow; rw [if_neg hd2]; rfl
  · have hlt := grow_lt cnt b
    have hg : (grow cnt b)[b]? = some ((grow cnt b).getD b 0) := by rw [List.getD_eq_getElem?_getD, List.getElem?_eq_getElem hlt]; rfl
    have hgl : ((grow cnt b).map PV.int).length = (grow cnt b).length := List.length_map ..
    refine ex_post (ex_cons (st_assign_tgt (ev_bin (ev_item_own (x := ("count" : Str)) (xs := (grow cnt b).map .int) (i := b) rfl (ev_name rfl) (item_get (by omega) (by rw [Int.toNat_natCast]; exact il_get hg)) (by omega) (by omega)) ev_int bin_add) (asg_item (x := ("count" : Str)) (xs := (grow cnt b).map .int) (i := b) rfl (ev_name rfl) (by omega) (by rw [hgl]; omega) (by omega))) (ex_one (st_assign ev_int))) ⟨rfl, rfl, rfl, ?_, rfl, ?_, ?_, trivial⟩
    · rw [Int.toNat_natCast]
      unfold wTab il
      rw [List.map_set]; rfl
    · unfold wTab; show _ = some (Slot.val (.int ((n + 1 : Nat) : Int))); rw [Int.natCast_add]; rfl
    · unfold wTab; show _ = some (Slot.val (.int ((nt + 1 : Nat) : Int))); rw [Int.natCast_add]; rfl
end
end Mine.Internal

end PartC13
section PartC14
open PySem PySem.W PyProof.Rows
set_option Elab.async false
set_option maxRecDepth 100000
set_option linter.unusedVariables false
namespace Mine.Internal
section
variable {w : World} {h₀ : Heap} {d : Nat} {sc : Scope} {σ : Sig} {mg mb : Str → Option Value} {F : Frag} {C : Addr} {prog : Program}
theorem su1 {a n m : Nat} (h : a + (n + 1) ≤ m) : a + 1 + n ≤ m := by omega
theorem su2 {a n m : Nat} (h : a + (n + 1) ≤ m) : a + n ≤ m := by omega
theorem su3 {a n m : Nat} (h : a + (n + 1) ≤ m) : 0 + n ≤ m := by omega
theorem ws_turns (G : Glb h₀ mg mb) (hl : Callee mg mb ("len" : Str) (.builtin "len")) (t : Expr) (ht : t = (match (bodyOf (methAt 7 1))[4]? with | some (Stmt.For t _ _ _ _) => t | _ => default)) (i : Addr) (x : Str) : ∀ (l : List Nat) (s : WS), s.b + l.length ≤ 1000 → s.cnt.length + l.length ≤ 1001 →
    Turns pw w h₀ d (scopeOf (methAt 7 1)) t WB (FW C i x s) (l.map chv) (.next (FW C i x (wGo s l)))
  | [], s, _, _ => .nil
  | c :: l, s, hb, hc => by
    rw [List.length_cons] at hb hc
    have ha : AsgOK pw w h₀ d (scopeOf (methAt 7 1)) WAll (FW C i x s) t (chv c) (upd (FW C i x s) "ch" (.val (chv c))) := by subst ht; exact asg_name
    rw [List.map_cons]
    unfold wGo
    by_cases h1 : c = 32
    · subst h1
      rw [if_pos rfl]
      exact .next ha (ws_blank i x s) (ws_turns G hl t ht i x l _ (su1 hb) (su2 hc))
    · rw [if_neg h1]
      by_cases h2 : c = 9
      · subst h2
        rw [if_pos rfl]
        have hg := grow_len (cnt := s.cnt) (b := s.b) (m := 1001 - l.length) (by omega) (by omega)
        exact .next ha (ws_tab G hl i x s (by omega) (by omega)) (ws_turns G hl t ht i x l _ (su3 hb) (by show ((grow s.cnt s.b).set _ _).length + l.length ≤ 1001; rw [List.length_set]; omega))
      · rw [if_neg h2]
        exact .brk ha (ws_other i x s c h1 h2)
theorem wGo_len : ∀ (l : List Nat) (s : WS), s.b + l.length ≤ 1000 → s.cnt.length + l.length ≤ 1001 → (wGo s l).cnt.length ≤ 1001
  | [], s, _, hc => by have : s.cnt.length + 0 ≤ 1001 := hc; exact this
  | c :: l, s, hb, hc => by
    rw [List.length_cons] at hb hc
    unfold wGo
    split
    · exact wGo_len l _ (su1 hb) (su2 hc)
    split
    · have hg := grow_len (cnt := s.cnt) (b := s.b) (m := 1001 - l.length) (by omega) (by omega)
      exact wGo_len l _ (su3 hb) (by show ((grow s.cnt s.b).set _ _).length + l.length ≤ 1001; rw [List.length_set]; omega)
    · omega
theorem body_ws (G : Glb h₀ mg mb) (X : F.In h₀) (K : KitW h₀ mg mb F C) (hl : Callee mg mb ("len" : Str) (.builtin "len")) (x : List Nat) (hx : x.length ≤ 900) (i : Addr) :
    ∃ σ', ExOK pw w h₀ (d + 2) (scopeOf (methAt 7 1)) [("self", .own (.obj C (some i) [])), ("ws", .val (.str (S x)))] (bodyOf (methAt 7 1)) (.next σ') ∧ σ'.lookup ("self" : Str) = some (.own (.obj C (some i) (wAttrs (S x) (wGo w0 x)))) := by
  have tk : ∀ {name : Str}, name ∈ (["raw", "n", "nt", "norm", "is_simple"] : List Str) → takerIn F C name = some none := fun h => (K.take _ h).1
  have mRaw : ("raw" : Str) ∈ (["raw", "n", "nt", "norm", "is_simple"] : List Str) := .head _
  have mN : ("n" : Str) ∈ (["raw", "n", "nt", "norm", "is_simple"] : List Str) := .tail _ (.head _)
  have mNt : ("nt" : Str) ∈ (["raw", "n", "nt", "norm", "is_simple"] : List Str) := .tail _ (.tail _ (.head _))
  have mNorm : ("norm" : Str) ∈ (["raw", "n", "nt", "norm", "is_simple"] : List Str) := .tail _ (.tail _ (.tail _ (.head _)))
  have mSimple : ("is_simple" : Str) ∈ (["raw", "n", "nt", "norm", "is_simple"] : List Str) := .tail _ (.tail _ (.tail _ (.tail _ (.head _))))
  obtain ⟨mc, ts, s1, s2⟩ := K.s_
  obtain ⟨mc', tt, t1, t2⟩ := K.t_
  have hfin : (wGo w0 x).cnt.length ≤ 1001 := wGo_len x w0 (by show 0 + x.length ≤ 1000; omega) (by show 0 + x.length ≤ 1001; omega)
  refine ⟨[("self", .own (.obj C (some i) (wAttrs (S x) (wGo w0 x))))], ?_, rfl⟩
  refine ex_cons (st_attr (x := ("self" : Str)) (name := ("raw" : Str)) X K.cls (tk mRaw) rfl (by decide) (ev_name (p := .str (S x)) rfl)) ?_
  refine ex_cons (st_swap (x := ("S" : Str)) (y := ("T" : Str)) (ev_tuple (evs_cons (ev_clsattr (p := .str " ") G K.at_ X s1 s2 (fun _ _ => .str " " ts) rfl rfl (fun _ => rfl)) (evs_cons (ev_clsattr (p := .str "\t") G K.at_ X t1 t2 (fun _ _ => .str "\t" tt) rfl rfl (fun _ => rfl)) evs_nil)) (show 2 ≤ sizeLine by decide)) (.inl rfl) (.inl rfl)) ?_
  refine ex_cons (st_assign_own (new_list evs_nil)) (ex_cons (st_assign3 ev_int asg_name asg_name asg_name) ?_)
  refine ex_pre ?_ (show Sub (FW C i (S x) w0) _ from ⟨rfl, rfl, rfl, rfl, rfl, rfl, rfl, trivial⟩)
  refine ex_cons (st_for (its := x.map chv) (it_str (x := S x) (ev_attr_own (x := ("self" : Str)) (name := ("raw" : Str)) X K.cls rfl (fun _ _ => .inl ⟨rfl, none, (K.take _ mRaw).2, rfl⟩) rfl rfl (fun _ => rfl))) (.inl ⟨_, _, rfl⟩) (ws_turns G hl _ rfl i (S x) x w0 (by show 0 + x.length ≤ 1000; omega) (by show 0 + x.length ≤ 1001; omega))) ?_
  generalize wGo w0 x = s at hfin ⊢
  refine ex_freeze (x := ("count" : Str)) (p := il s.cnt) rfl ?_
  refine ex_cons (st_attr (x := ("self" : Str)) (name := ("n" : Str)) X K.cls (tk mN) rfl (by show 1 < 900; decide) (ev_name (p := .int s.n) rfl)) ?_
  refine ex_cons (st_attr (x := ("self" : Str)) (name := ("nt" : Str)) X K.cls (tk mNt) rfl (by show 2 < 900; decide) (ev_name (p := .int s.nt) rfl)) ?_
  have hlc : (s.cnt.map PV.int).length = s.cnt.length := List.length_map ..
  have hz : (s.cnt.map PV.int).length ≤ sizeLine := by rw [hlc]; exact fitL (Nat.le_trans hfin (by decide))
  refine ex_cons (st_attr (x := ("self" : Str)) (name := ("norm" : Str)) X K.cls (tk mNorm) rfl (by show 3 < 900; decide) (ev_tuple (evs_cons (ev_call G K.tup (.inl ⟨_, rfl⟩) (evs_cons (ev_name (p := il s.cnt) rfl) evs_nil) (call_tuple_l hz)) (evs_cons (ev_name (p := .int s.b) rfl) evs_nil)) (show 2 ≤ sizeLine by decide))) ?_
  refine ex_post (ex_one (st_attr (x := ("self" : Str)) (name := ("is_simple" : Str)) X K.cls (tk mSimple) rfl (by show 4 < 900; decide) (ev_cmp (ev_call G hl (.inr (.inl ⟨_, rfl⟩)) (evs_cons (ev_name (p := il s.cnt) rfl) evs_nil) (call_len_l hz)) ev_int cmp_lei))) ⟨?_, trivial⟩
  rw [hlc]; rfl
theorem okWs : methOk (methAt 7 1) ["self", "ws"] = true := by decide +kernel
theorem okEq : methOk (methAt 7 4) ["self", "other"] = true := by decide +kernel
theorem new_ws (G : Glb h₀ mg mb) (X : F.In h₀) (K : KitW h₀ mg mb F C) (hl : Callee mg mb ("len" : Str) (.builtin "len")) (x : List Nat) (hx : x.length ≤ 900) : CallNew pw w h₀ (d + 4) (.ref C) [.str (S x)] (wobj C (S x) (wGo w0 x)) := by
  obtain ⟨f, h1, h2, fd, h3, h4, h5⟩ := K.init
  have ok := okWs
  unfold methOk at ok
  simp only [Bool.and_eq_true, List.all_eq_true, Bool.or_eq_true, beq_iff_eq, decide_eq_true_eq, Bool.not_eq_true'] at ok
  exact call_make (xs := ["ws"]) (self := "self") X K.cls h1 h2 h3 G.lim h5 (by rw [h4]; exact ok.1.1) ok.1.2 (by rw [h4]; exact ok.2) (fun i => by rw [h4]; exact body_ws G X K hl x hx i)
theorem ev_ws {e : Expr} {xpos pos : Pos} (G : Glb h₀ mg mb) (X : F.In h₀) (K : KitW h₀ mg mb F C) (hl : Callee mg mb ("len" : Str) (.builtin "len")) (x : List Nat) (hx : x.length ≤ 900) (he : EvOK pw w h₀ (d + 4) sc σ e (.str (S x)))
    (hg : sc.names.lookup ("Whitespace" : Str) = some .globalImplicit := by rfl) (hs : ∀ env, starEach [e] env = (false, eval e env) :: starEach [] env := by intro _; rfl) :
    EvOK pw w h₀ (d + 4) sc σ (.Call (.Name ("Whitespace" : Str) xpos) [e] [] pos) (wobj C (S x) (wGo w0 x)) := ev_new (ev_make G X K.at_ K.keep he (new_ws G X K hl x hx) hg rfl hs)
theorem ws_attr (K : KitW h₀ mg mb F C) {name : Str} {es : List (Str × PV)} {p : PV} (hm : name ∈ (["raw", "n", "nt", "norm", "is_simple"] : List Str)) (h : es.lookup name = some p) (M : KMap) (P : Params) : AttrIs P F C M es name p := .inl ⟨h, none, (K.take _ hm).2, rfl⟩
theorem eqv_ints : ∀ a b : List Int, PyData.eqvAll (a.map .int) (b.map .int) = decide (a = b)
  | [], [] => rfl
  | [], _ :: _ => rfl
  | _ :: _, [] => rfl
  | x :: a, y :: b => by
    show (PyData.eqv (.int x) (.int y) && PyData.eqvAll (a.map .int) (b.map .int)) = _
    rw [eqv_ints a b]
    show ((x == y) && decide (a = b)) = _
    by_cases h : x = y <;> by_cases h' : a = b <;> simp [h, h']
theorem eqv_strs : ∀ a b : List Str, PyData.eqvAll (a.map .str) (b.map .str) = decide (a = b)
  | [], [] => rfl
  | [], _ :: _ => rfl
  | _ :: _, [] => rfl
  | x :: a, y :: b => by
    show (PyData.eqv (.str x) (.str y) && PyData.eqvAll (a.map .str) (b.map .str)) = _
    rw [eqv_strs a b]
    show ((x == y) && decide (a = b)) = _
    rw [beq_str]
    by_cases h : x = y <;> by_cases h' : a = b <;> simp [h, h']
noncomputable def normEq (s t : WS) : Bool := decide (s.cnt = t.cnt) && decide (s.b = t.b)
theorem lay_ints : ∀ l : List Int, PyData.canLayAll0 (l.map .int) = true
  | [] => rfl
  | x :: l => by
    show (PyData.canLay0 (.int x) && PyData.canLayAll0 (l.map .int)) = true
    rw [lay_ints l]; rfl
noncomputable def Lay (k : Nat) (p : PyData) : Prop := p.canLay0 = true ∧ p.depth ≤ k
theorem lay_int (i : Int) : Lay 0 (.int i) := ⟨rfl, Nat.le_refl 0⟩
theorem lay_str {x : Str} (h : PyData.canLay0 (.str x) = true) : Lay 0 (.str x) := ⟨h, Nat.le_refl 0⟩
theorem Lay.le {k m : Nat} {p : PyData} (h : Lay k p) (hk : k ≤ m) : Lay m p := ⟨h.1, Nat.le_trans h.2 hk⟩
theorem lay_all {k : Nat} : ∀ {l : List PyData}, (∀ p ∈ l, Lay k p) → PyData.canLayAll0 l = true ∧ PyData.depthAll l ≤ k
  | [], _ => ⟨rfl, Nat.zero_le _⟩
  | p :: l, h => by
    obtain ⟨h1, h2⟩ := lay_all (l := l) fun q hq => h q (.tail _ hq)
    obtain ⟨h3, h4⟩ := h p (.head _)
    exact ⟨by show (PyData.canLay0 p && PyData.canLayAll0 l) = true; rw [h1, h3]; rfl, by show max (PyData.depth p) (PyData.depthAll l) ≤ k; omega⟩
theorem lay_list {k : Nat} {l : List PyData} (h : ∀ p ∈ l, Lay k p) : Lay (k + 1) (.list l) := ⟨(lay_all h).1, by show PyData.depthAll l + 1 ≤ k + 1; have := (lay_all h).2; omega⟩
theorem lay_tuple {k : Nat} {l : List PyData} (h : ∀ p ∈ l, Lay k p) : Lay (k + 1) (.tuple l) := ⟨(lay_all h).1, by show PyData.depthAll l + 1 ≤ k + 1; have := (lay_all h).2; omega⟩
theorem Lay.shaped {k : Nat} {p : PyData} (h : Lay k p) (hk : k ≤ 64) : SeqAt.shaped p = true := by
  unfold SeqAt.shaped
  rw [h.1, decide_eq_true (Nat.le_trans h.2 hk)]; rfl
theorem lay_ints' (l : List Int) : ∀ p ∈ l.map PyData.int, Lay 0 p := fun p hp => by
  obtain ⟨i, _, rfl⟩ := List.mem_map.mp hp; exact lay_int i
theorem lay_two {k : Nat} {a b : PyData} (h : Lay k a) (h' : Lay k b) : ∀ p ∈ [a, b], Lay k p := fun p hp => by
  simp only [List.mem_cons, List.mem_nil_iff, or_false] at hp
  rcases hp with rfl | rfl
  · exact h
  · exact h'
theorem cmp_norm (s t : WS) : CmpOK pw w h₀ d .Eq (.tup [.tup (s.cnt.map .int), .int s.b]) (.tup [.tup (t.cnt.map .int), .int t.b]) (normEq s t) := by
  have hs : ∀ s : WS, IsD (.tup [.tup (s.cnt.map .int), .int s.b]) (.tuple [.tuple (s.cnt.map .int), .int s.b]) := fun s => .tup (.cons (.tup (isDs_ints s.cnt)) (.cons (.int _) .nil))
  have sh : ∀ s : WS, SeqAt.shaped (.tuple [.tuple (s.cnt.map .int), .int s.b]) = true := fun s => (lay_tuple (lay_two (lay_tuple (lay_ints' s.cnt)) ((lay_int s.b).le (by decide)))).shaped (by decide)
  have := cmp_eqD (prog := pw) (w := w) (h₀ := h₀) (d := d) (hs s) (hs t) (sh s) (sh t)
  have e : PyData.eqv (.tuple [.tuple (s.cnt.map .int), .int s.b]) (.tuple [.tuple (t.cnt.map .int), .int t.b]) = normEq s t := by
    show (PyData.eqvAll (s.cnt.map .int) (t.cnt.map .int) && (((s.b : Int) == (t.b : Int)) && true)) = _
    rw [eqv_ints, Bool.and_true]
    unfold normEq
    congr 1
    by_cases h : s.b = t.b
    · rw [h]; simp
    · rw [decide_eq_false h]; exact beq_eq_false_iff_ne.mpr fun e => h (Int.ofNat.inj e)
  rw [e] at this; exact this
theorem body_equal (G : Glb h₀ mg mb) (X : F.In h₀) (K : KitW h₀ mg mb F C) (x y : Str) (s t : WS) : ExOK pw w h₀ d (scopeOf (methAt 7 4)) [("self", .val (wobj C x s)), ("other", .val (wobj C y t))] (bodyOf (methAt 7 4)) (.ret (.bool (normEq s t))) := by
  have mNorm : ("norm" : Str) ∈ (["raw", "n", "nt", "norm", "is_simple"] : List Str) := .tail _ (.tail _ (.tail _ (.head _)))
  exact ex_one (st_return (ev_cmp (ev_attr X K.cls (ev_name (p := wobj C x s) rfl) fun M hM => ws_attr K mNorm rfl M _) (ev_attr X K.cls (ev_name (p := wobj C y t) rfl) fun M hM => ws_attr K mNorm rfl M _) (cmp_norm s t)))
theorem ev_equal {o a : Expr} {apos pos : Pos} {x y : Str} {s t : WS} (G : Glb h₀ mg mb) (X : F.In h₀) (K : KitW h₀ mg mb F C) (ho : EvOK pw w h₀ (d + 1) sc σ o (wobj C x s)) (ha : EvOK pw w h₀ (d + 1) sc σ a (wobj C y t))
    (hbase : ∀ env, attributeBase o "equal" env (eval o env) = eval o env := by intro _; rfl) (hs : ∀ env, starEach [a] env = (false, eval a env) :: starEach [] env := by intro _; rfl) (hline : (apos.endLine == pos.line) = true := by rfl) :
    EvOK pw w h₀ (d + 1) sc σ (.Call (.Attribute o "equal" apos) [a] [] pos) (.bool (normEq s t)) := by
  obtain ⟨f, h1, h2, h3⟩ := K.eq_
  exact ev_method X K.cls h1 h2 rfl h3.kind ho (evs_cons ha evs_nil hs) (h3.call G okEq rfl (body_equal G X K x y s t)) hbase (fun env => by rw [hs]; rfl) hline (fun env => by rw [hs]; rfl) (fun env => ⟨_, _, hs env⟩)
end
end Mine.Internal

end PartC14
section PartD1
open PySem PySem.W PyProof.Rows
set_option Elab.async false
set_option maxRecDepth 100000
set_option linter.unusedVariables false
namespace Mine.Internal
/- an item of the line: key, value, dress, gap -/
structure It where
  k : Nat
  v : Nat
  dr : Nat
  g : Nat
/- and as it is typed -/
structure Ty where
  it : It
  kc : Nat
  vc : Nat
  wh : Nat
noncomputable def It.ok (t : It) : Prop := t.k < 4 ∧ t.v < 4 ∧ t.dr < 6 ∧ t.g < 2
noncomputable def Ty.ok (t : Ty) : Prop := t.it.ok ∧ t.kc < 2 ∧ t.vc < 2 ∧ t.wh < 4
noncomputable def allIt (P : It → Bool) : Bool := (List.range 4).all fun k => (List.range 4).all fun v => (List.range 6).all fun dr => (List.range 2).all fun g => P ⟨k, v, dr, g⟩
noncomputable def allTy (P : Ty → Bool) : Bool := allIt fun it => (List.range 2).all fun kc => (List.range 2).all fun vc => (List.range 4).all fun wh => P ⟨it, kc, vc, wh⟩
theorem range_get {n : Nat} {P : Nat → Bool} (h : (List.range n).all P = true) {i : Nat} (hi : i < n) : P i = true := List.all_eq_true.mp h i (List.mem_range.mpr hi)
theorem allIt_get {P : It → Bool} (h : allIt P = true) (t : It) (ok : t.ok) : P t = true := range_get (range_get (range_get (range_get h ok.1) ok.2.1) ok.2.2.1) ok.2.2.2
theorem allTy_get {P : Ty → Bool} (h : allTy P = true) (t : Ty) (ok : t.ok) : P t = true := range_get (range_get (range_get (allIt_get h t.it ok.1) ok.2.1) ok.2.2.1) ok.2.2.2
noncomputable def dT : Nat → List Nat
  | 0 => []
  | 1 => [44]
  | 2 => [92, 34]
  | 3 => [92, 92]
  | 4 => [61]
  | _ => [92, 44]
noncomputable def dM : Nat → List Nat
  | 0 => []
  | 1 => [44]
  | 2 => [34]
  | 3 => [92]
  | 4 => [61]
  | _ => [44]
noncomputable def whL : Nat → List Nat
  | 0 => [32]
  | 1 => [9]
  | 2 => [10]
  | _ => [32, 32]
noncomputable def gapL (g : Nat) : List Nat := List.replicate g 32
noncomputable def tyL (t : Ty) : List Nat := [65 + 32 * t.kc + t.it.k, 61, 34, 65 + 32 * t.vc + t.it.v] ++ dT t.it.dr ++ [34] ++ gapL t.it.g ++ [44] ++ whL t.wh
/- an item as the line has it, without its comma -/
noncomputable def body (t : It) : List Nat := [65 + t.k, 61, 34, 97 + t.v] ++ dT t.dr ++ [34] ++ gapL t.g
noncomputable def itL (t : It) : List Nat := body t ++ [44]
noncomputable def wordsL (t : It) : List (List Nat) := if t.g = 0 then [[65 + t.k, 61, 34, 97 + t.v] ++ dT t.dr ++ [34, 44]] else [[65 + t.k, 61, 34, 97 + t.v] ++ dT t.dr ++ [34], [44]]
noncomputable def spA (c : Nat) : Bool := (decide (9 ≤ c) && decide (c ≤ 13)) || (decide (28 ≤ c) && decide (c ≤ 32))
noncomputable def lowA (c : Nat) : Nat := if 65 ≤ c ∧ c ≤ 90 then c + 32 else c
noncomputable def upA (c : Nat) : Nat := if 97 ≤ c ∧ c ≤ 122 then c - 32 else c
theorem asc : ((List.range 128).all fun c => Unicode.isSpace c == spA c && Unicode.lowerOf c == [lowA c] && Unicode.titleOf c == [upA c]) = true := by decide +kernel
theorem sp_asc {c : Nat} (h : c < 128) : Unicode.isSpace c = spA c := by
  have := range_get asc h
  simp only [Bool.and_eq_true, beq_iff_eq] at this; exact this.1.1
theorem low_asc {c : Nat} (h : c < 128) : Unicode.lowerOf c = [lowA c] := by
  have := range_get asc h
  simp only [Bool.and_eq_true, beq_iff_eq] at this; exact this.1.2
theorem up_asc {c : Nat} (h : c < 128) : Unicode.titleOf c = [upA c] := by
  have := range_get asc h
  simp only [Bool.and_eq_true, beq_iff_eq] at this; exact this.2
noncomputable def Asc (l : List Nat) : Prop := ∀ c ∈ l, c < 128
noncomputable def stepL (s : List (List Nat) × List Nat) (c : Nat) : List (List Nat) × List Nat := if spA c = true then (if s.2.length = 0 then s else (s.1 ++ [s.2], [])) else (s.1, s.2 ++ [c])
noncomputable def capL : List Nat → List Nat
  | [] => []
  | c :: r => upA c :: r.map lowA
end Mine.Internal

end PartD1
section PartD2
open PySem PySem.W PyProof.Rows
set_option Elab.async false
set_option maxRecDepth 100000
set_option linter.unusedVariables false
namespace Mine.Internal
theorem flat_single {α β : Type} (f : α → β) (l : List α) : (l.map fun c => [f c]).flatten = l.map f := by
  induction l with
  | nil => rfl
  | cons a r ih => rw [List.map_cons, List.flatten_cons, ih]; rfl
theorem lower_at {c : Nat} {r : List Nat} (h : Asc r) {i : Nat} (hi : i < r.length) : Unicode.lowerAt (c :: r).toArray (i + 1) = [lowA r[i]] := by
  have e : (c :: r).toArray[i + 1]? = some r[i] := by simp [hi]
  unfold Unicode.lowerAt
  rw [e]
  have ha := h _ (List.getElem_mem hi)
  have : (r[i] == 0x3A3) = false := by rw [beq_eq_false_iff_ne]; omega
  simp only [this, Bool.false_and, Bool.false_eq_true, if_false]
  exact low_asc ha
theorem cap_S {l : List Nat} (h : Asc l) : Txt.capitalize (S l) = S (capL l) := by
  cases l with
  | nil => rfl
  | cons c r =>
    have h1 : ((S (c :: r)).length == 0) = false := rfl
    unfold Txt.capitalize
    rw [h1]
    simp only [Bool.false_eq_true, if_false]
    unfold Txt.capitalized
    refine Str.ext' ?_
    show placed (S (c :: r)) _ = (capL (c :: r)).toArray
    unfold placed
    rw [show (S (c :: r)).cps = (c :: r).toArray from rfl, List.mapIdx_toArray]
    have key : (c :: r).mapIdx (fun i c' => (if (i == 0) = true then Unicode.titleOf c' else Unicode.lowerAt (c :: r).toArray i).toArray) = ((capL (c :: r)).map fun x => #[x]) := by
      rw [List.mapIdx_cons]
      unfold capL
      rw [List.map_cons]
      congr 1
      · show (Unicode.titleOf c).toArray = #[upA c]
        rw [up_asc (h c (.head _))]
      · rw [List.map_map]
        refine List.ext_getElem (by simp) fun i h1 h2 => ?_
        have hi : i < r.length := by simpa using h1
        rw [List.getElem_mapIdx, List.getElem_map]
        rw [if_neg (by simp), lower_at (fun x hx => h x (.tail _ hx)) hi]; rfl
    rw [key]
    generalize capL (c :: r) = q
    apply Array.toList_inj.mp
    induction q with
    | nil => rfl
    | cons a t ih => simp_all
theorem step_S (s : List (List Nat) × List Nat) {c : Nat} (h : c < 128) : KWd.step (s.1.map S, S s.2) c = ((stepL s c).1.map S, S (stepL s c).2) := by
  unfold KWd.step stepL
  rw [sp_asc h]
  split
  · by_cases h2 : s.2.length = 0
    · rw [if_pos (show (S s.2).length = 0 from h2), if_pos h2]
    · rw [if_neg (show ¬ (S s.2).length = 0 from h2), if_neg h2, List.map_append]; rfl
  · show (_, S s.2 ++ S [c]) = _
    rw [S_app]
theorem fold_S : ∀ (l : List Nat) (s : List (List Nat) × List Nat), Asc l → l.foldl KWd.step (s.1.map S, S s.2) = ((l.foldl stepL s).1.map S, S (l.foldl stepL s).2)
  | [], _, _ => rfl
  | c :: l, s, h => by
    rw [List.foldl_cons, step_S s (h c (.head _)), fold_S l _ fun x hx => h x (.tail _ hx)]; rfl
theorem words_S {l : List Nat} (h : Asc l) {ws : List (List Nat)} (e : l.foldl stepL ([], []) = (ws, [])) : Txt.words (S l) = ws.map S := by
  rw [KWd.words_scan]
  unfold KWd.scan
  have := fold_S l ([], []) h
  rw [e] at this
  rw [show (S l).cps.toList = l from rfl]
  have e2 : (([] : List (List Nat)).map S, S []) = (([] : List Str), Str.empty) := rfl
  rw [← e2, this]
  rfl
/- the scan only adds words -/
theorem fold_app : ∀ (l : List Nat) (ws : List (List Nat)) (r : List Nat), l.foldl stepL (ws, r) = (ws ++ (l.foldl stepL ([], r)).1, (l.foldl stepL ([], r)).2)
  | [], ws, r => by simp
  | c :: l, ws, r => by
    rw [List.foldl_cons, List.foldl_cons]
    have e : stepL (ws, r) c = (ws ++ (stepL ([], r) c).1, (stepL ([], r) c).2) := by
      unfold stepL
      split
      · by_cases h : r.length = 0
        · simp [h]
        · simp [h]
      · simp
    rw [e, fold_app l (ws ++ _) _, fold_app l (stepL ([], r) c).1 _]
    simp [List.append_assoc]
noncomputable def tyWords (t : Ty) : List (List Nat) := if t.it.g = 0 then [[65 + 32 * t.kc + t.it.k, 61, 34, 65 + 32 * t.vc + t.it.v] ++ dT t.it.dr ++ [34, 44]] else [[65 + 32 * t.kc + t.it.k, 61, 34, 65 + 32 * t.vc + t.it.v] ++ dT t.it.dr ++ [34], [44]]
theorem fold_ns : ∀ (u : List Nat) (ws : List (List Nat)) (r : List Nat), (∀ c ∈ u, spA c = false) → u.foldl stepL (ws, r) = (ws, r ++ u)
  | [], ws, r, _ => by simp
  | c :: u, ws, r, h => by
    have e : stepL (ws, r) c = (ws, r ++ [c]) := by unfold stepL; rw [h c (.head _)]; rfl
    rw [List.foldl_cons, e, fold_ns u _ _ fun x hx => h x (.tail _ hx), List.append_assoc]; rfl
/- what stands ahead of the gap -/
noncomputable def headT (t : Ty) : List Nat := [65 + 32 * t.kc + t.it.k, 61, 34, 65 + 32 * t.vc + t.it.v] ++ dT t.it.dr ++ [34]
noncomputable def Plain (l : List Nat) : Prop := ∀ c ∈ l, c < 128 ∧ spA c = false
theorem plain_dT {n : Nat} (h : n < 6) : Plain (dT n) := by
  rcases six h with rfl | rfl | rfl | rfl | rfl | rfl <;> (intro c hc; simp [dT] at hc) <;> (first | (rcases hc with rfl | rfl <;> decide) | (subst hc; decide))
theorem plain_letter {c k : Nat} (hc : c < 2) (hk : k < 4) : 65 + 32 * c + k < 128 ∧ spA (65 + 32 * c + k) = false := by
  rcases two hc with rfl | rfl <;> rcases four hk with rfl | rfl | rfl | rfl <;> decide
theorem plain_app {a b : List Nat} (h : Plain a) (h' : Plain b) : Plain (a ++ b) := fun c hc => (List.mem_append.mp hc).elim (h c) (h' c)
theorem plain_head {t : Ty} (ok : t.ok) : Plain (headT t) := by
  obtain ⟨⟨h1, h2, h3, h4⟩, h5, h6, h7⟩ := ok
  refine plain_app (plain_app ?_ (plain_dT h3)) (by intro c hc; simp at hc; subst hc; decide)
  intro c hc
  simp only [List.mem_cons, List.mem_nil_iff, or_false] at hc
  rcases hc with rfl | rfl | rfl | rfl
  · exact plain_letter h5 h1
  · decide
  · decide
  · exact plain_letter h6 h2
theorem tyL_eq (t : Ty) : tyL t = headT t ++ (gapL t.it.g ++ [44] ++ whL t.wh) := by unfold tyL headT; simp [List.append_assoc]
theorem asc_tyL {t : Ty} (ok : t.ok) : Asc (tyL t) := by
  rw [tyL_eq]
  intro c hc
  rcases List.mem_append.mp hc with hc | hc
  · exact (plain_head ok c hc).1
  · obtain ⟨⟨h1, h2, h3, h4⟩, h5, h6, h7⟩ := ok
    rcases two h4 with e | e <;> rw [e] at hc <;> rcases four h7 with e | e | e | e <;> rw [e] at hc <;> simp [gapL, whL] at hc <;> omega
theorem ty_scan {t : Ty} (ok : t.ok) : (tyL t).foldl stepL ([], []) = (tyWords t, []) := by
  rw [tyL_eq, List.foldl_append, fold_ns _ _ _ fun c hc => (plain_head ok c hc).2, List.nil_append]
  obtain ⟨⟨h1, h2, h3, h4⟩, h5, h6, h7⟩ := ok
  have hl : (headT t).length ≠ 0 := by unfold headT; simp
  have ew : tyWords t = if t.it.g = 0 then [headT t ++ [44]] else [headT t, [44]] := by unfold tyWords headT; simp
  rw [ew]
  generalize headT t = u at hl ⊢
  have hl' : u ≠ [] := fun e => hl (by rw [e]; rfl)
  rcases two h4 with e | e <;> rw [e] <;> rcases four h7 with e | e | e | e <;> rw [e] <;> simp [gapL, whL, stepL, spA, hl']
theorem map_low_dT {n : Nat} (h : n < 6) : (dT n).map lowA = dT n := by rcases six h with rfl | rfl | rfl | rfl | rfl | rfl <;> rfl
theorem up_key {c k : Nat} (hc : c < 2) (hk : k < 4) : upA (65 + 32 * c + k) = 65 + k := by
  rcases two hc with rfl | rfl <;> rcases four hk with rfl | rfl | rfl | rfl <;> rfl
theorem low_val {c k : Nat} (hc : c < 2) (hk : k < 4) : lowA (65 + 32 * c + k) = 97 + k := by
  rcases two hc with rfl | rfl <;> rcases four hk with rfl | rfl | rfl | rfl <;> rfl
theorem ty_cap {t : Ty} (ok : t.ok) : (tyWords t).map capL = wordsL t.it := by
  obtain ⟨⟨h1, h2, h3, h4⟩, h5, h6, h7⟩ := ok
  unfold tyWords wordsL
  have e1 : lowA 61 = 61 := rfl
  have e2 : lowA 34 = 34 := rfl
  have e3 : lowA 44 = 44 := rfl
  have e4 : upA 44 = 44 := rfl
  split <;> simp [capL, up_key h5 h1, low_val h6 h2, map_low_dT h3, e1, e2, e3, e4]
theorem dT_len (n : Nat) : (dT n).length ≤ 2 := by
  unfold dT
  split <;> decide
theorem ty_each {t : Ty} (ok : t.ok) : ∀ x ∈ tyWords t, x.length ≤ 10 ∧ Asc x := by
  have hp := plain_head ok
  have hl : (headT t).length ≤ 8 := by unfold headT; have := dT_len t.it.dr; simp; omega
  have ew : tyWords t = if t.it.g = 0 then [headT t ++ [44]] else [headT t, [44]] := by unfold tyWords headT; simp
  rw [ew]
  intro x hx
  have hc : Asc [44] := by intro c hc; simp at hc; subst hc; decide
  split at hx
  · simp at hx; subst hx
    exact ⟨by simp; omega, fun c h => (List.mem_append.mp h).elim (fun h => (hp c h).1) (hc c)⟩
  · simp at hx
    rcases hx with rfl | rfl
    · exact ⟨by omega, fun c h => (hp c h).1⟩
    · exact ⟨by decide, hc⟩
end Mine.Internal

end PartD2
section PartD3
open PySem PySem.W PyProof.Rows
set_option Elab.async false
set_option maxRecDepth 100000
set_option linter.unusedVariables false
namespace Mine.Internal
noncomputable def joinB : List (List Nat) → List Nat
  | [] => []
  | [x] => x
  | x :: y :: r => x ++ 32 :: joinB (y :: r)
theorem join_blank : ∀ l : List (List Nat), Str.join (S [32]) (l.map S) = S (joinB l)
  | [] => rfl
  | [x] => rfl
  | x :: y :: r => by
    have ih := join_blank (y :: r)
    show S x ++ S [32] ++ Str.join (S [32]) ((y :: r).map S) = _
    rw [ih, S_app, S_app]
    show S (x ++ [32] ++ joinB (y :: r)) = S (x ++ 32 :: joinB (y :: r))
    rw [List.append_assoc]; rfl
theorem txt_join_blank (l : List (List Nat)) : Txt.join " " (l.map S) = S (joinB l) := by
  unfold Txt.join
  rw [StrLaws.glued_eq_join, S_blank, join_blank]
noncomputable def lineL : List It → List Nat
  | [] => []
  | [x] => itL x
  | x :: y :: r => itL x ++ 32 :: lineL (y :: r)
theorem joinB_app : ∀ (a b : List (List Nat)), a ≠ [] → b ≠ [] → joinB (a ++ b) = joinB a ++ 32 :: joinB b
  | [], _, h, _ => absurd rfl h
  | [x], [], _, h => absurd rfl h
  | [x], y :: r, _, _ => rfl
  | x :: y :: r, b, _, hb => by
    have ih := joinB_app (y :: r) b (by simp) hb
    show x ++ 32 :: joinB ((y :: r) ++ b) = (x ++ 32 :: joinB (y :: r)) ++ 32 :: joinB b
    rw [ih]; simp
theorem wordsL_ne (t : It) : wordsL t ≠ [] := by unfold wordsL; split <;> simp
theorem join_words {t : It} (ok : t.ok) : joinB (wordsL t) = itL t := by
  unfold wordsL itL body
  rcases two ok.2.2.2 with e | e <;> rw [e] <;> simp [joinB, gapL]
theorem joinB_line : ∀ (its : List It), (∀ t ∈ its, t.ok) → joinB (its.flatMap wordsL) = lineL its
  | [], _ => rfl
  | [x], h => by simpa [lineL] using join_words (h x (.head _))
  | x :: y :: r, h => by
    have ih := joinB_line (y :: r) fun t ht => h t (.tail _ ht)
    rw [List.flatMap_cons, joinB_app _ _ (wordsL_ne x) (by rw [List.flatMap_cons]; exact fun e => wordsL_ne y (List.append_eq_nil_iff.mp e).1), ih, join_words (h x (.head _))]; rfl
noncomputable def typedL (ts : List Ty) : List Nat := 32 :: ts.flatMap tyL
theorem typed_fold : ∀ (ts : List Ty), (∀ t ∈ ts, t.ok) → (ts.flatMap tyL).foldl stepL ([], []) = (ts.flatMap tyWords, [])
  | [], _ => rfl
  | t :: ts, h => by
    rw [List.flatMap_cons, List.foldl_append, ty_scan (h t (.head _)), fold_app, typed_fold ts fun x hx => h x (.tail _ hx), List.flatMap_cons]
theorem asc_typed {ts : List Ty} (h : ∀ t ∈ ts, t.ok) : Asc (typedL ts) := by
  intro c hc
  rcases List.mem_cons.mp hc with rfl | hc
  · decide
  · obtain ⟨t, ht, hc⟩ := List.mem_flatMap.mp hc
    exact asc_tyL (h t ht) c hc
theorem words_typed {ts : List Ty} (h : ∀ t ∈ ts, t.ok) : Txt.words (S (typedL ts)) = (ts.flatMap tyWords).map S := by
  refine words_S (asc_typed h) ?_
  have : stepL ([], []) 32 = ([], []) := rfl
  unfold typedL
  rw [List.foldl_cons, this, typed_fold ts h]
theorem cap_words : ∀ {ts : List Ty}, (∀ t ∈ ts, t.ok) → ((ts.flatMap tyWords).map S).map Txt.capitalize = ((ts.map Ty.it).flatMap wordsL).map S
  | [], _ => rfl
  | t :: ts, h => by
    have ih := cap_words (ts := ts) fun x hx => h x (.tail _ hx)
    rw [List.flatMap_cons, List.map_append, List.map_append, ih, List.map_cons, List.flatMap_cons, List.map_append]
    congr 1
    rw [← ty_cap (h t (.head _)), List.map_map, List.map_map]
    exact List.map_congr_left fun x hx => cap_S (ty_each (h t (.head _)) x hx).2
theorem capline_eq {ts : List Ty} (h : ∀ t ∈ ts, t.ok) : capline (S (typedL ts)) = S (lineL (ts.map Ty.it)) := by
  unfold capline
  rw [words_typed h, cap_words h, txt_join_blank, joinB_line _ fun t ht => by
    obtain ⟨x, hx, rfl⟩ := List.mem_map.mp ht
    exact (h x hx).1]
theorem tyWords_few (t : Ty) : (tyWords t).length ≤ 2 := by unfold tyWords; split <;> simp
theorem tyL_len {t : Ty} (ok : t.ok) : (tyL t).length ≤ 12 := by
  unfold tyL
  obtain ⟨⟨h1, h2, h3, h4⟩, h5, h6, h7⟩ := ok
  have := dT_len t.it.dr
  rcases two h4 with e | e <;> rw [e] <;> rcases four h7 with e | e | e | e <;> rw [e] <;> simp [gapL, whL] <;> omega
theorem flatMap_len {α β : Type} (f : α → List β) (m : Nat) : ∀ l : List α, (∀ a ∈ l, (f a).length ≤ m) → (l.flatMap f).length ≤ l.length * m
  | [], _ => by simp
  | a :: l, h => by
    have ih := flatMap_len f m l fun x hx => h x (.tail _ hx)
    have := h a (.head _)
    rw [List.flatMap_cons, List.length_append, List.length_cons, Nat.add_mul]; omega
theorem sum_le (m : Nat) : ∀ l : List Nat, (∀ x ∈ l, x ≤ m) → l.sum ≤ l.length * m
  | [], _ => by simp
  | a :: l, h => by
    have ih := sum_le m l fun x hx => h x (.tail _ hx)
    have := h a (.head _)
    rw [List.sum_cons, List.length_cons, Nat.add_mul]; omega
theorem wordsL_each {t : It} : (wordsL t).length ≤ 2 ∧ ∀ x ∈ wordsL t, x.length ≤ 10 := by
  have := dT_len t.dr
  unfold wordsL
  split
  · exact ⟨by simp, fun x hx => by simp at hx; subst hx; simp; omega⟩
  · refine ⟨by simp, fun x hx => ?_⟩
    simp at hx
    rcases hx with rfl | rfl
    · simp; omega
    · simp
theorem cap_ok {ts : List Ty} (h : ∀ t ∈ ts, t.ok) (h6 : ts.length = 6) : CapOk (S (typedL ts)) := by
  have few := flatMap_len tyWords 2 ts fun t _ => tyWords_few t
  refine ⟨?_, ?_, ?_, ?_⟩
  · have := flatMap_len tyL 12 ts fun t ht => tyL_len (h t ht)
    show (32 :: ts.flatMap tyL).length ≤ 1000
    rw [List.length_cons]; omega
  · rw [words_typed h, cap_words h]
    refine joinOk_of ?_
    have f1 := flatMap_len wordsL 2 (ts.map Ty.it) fun t _ => wordsL_each.1
    rw [List.length_map] at f1
    have f2 := sum_le 10 ((((ts.map Ty.it).flatMap wordsL).map S).map (·.length)) fun n hn => by
      obtain ⟨y, hy, rfl⟩ := List.mem_map.mp hn
      obtain ⟨x, hx, rfl⟩ := List.mem_map.mp hy
      obtain ⟨t, ht, hx⟩ := List.mem_flatMap.mp hx
      exact wordsL_each.2 x hx
    rw [List.length_map, List.length_map] at f2
    rw [List.length_map, S_blank, S_len]
    have e3 : (16777216 : Nat) = sizeLine := by decide
    simp only [List.length_cons, List.length_nil]
    omega
  · rw [words_typed h]
    intro p hp
    obtain ⟨x, hx, rfl⟩ := List.mem_map.mp hp
    obtain ⟨t, ht, hx⟩ := List.mem_flatMap.mp hx
    exact Nat.le_trans (ty_each (h t ht) x hx).1 (by decide)
  · rw [words_typed h, List.length_map]; omega
end Mine.Internal

end PartD3
section PartD4
open PySem PySem.W PyProof.Rows
set_option Elab.async false
set_option maxRecDepth 100000
set_option linter.unusedVariables false
namespace Mine.Internal
noncomputable def meant (t : It) : List Nat := (97 + t.v) :: dM t.dr
noncomputable def itemH (t : It) : List Nat := [65 + t.k, 61, 34] ++ meant t ++ [34]
noncomputable def partH (b : Bool) (t : It) : List Nat := (if b then [32] else []) ++ itemH t ++ gapL t.g
noncomputable def preB (b : Bool) : List Nat := if b then [32] else []
theorem http_block : allIt (fun t => [true, false].all fun b => (let f := (preB b ++ body t).foldl hStep ⟨[], [], false, false⟩; f.res == [] && f.part == partH b t && !f.esc && !f.quo)) = true := by decide +kernel
theorem strip_block : allIt (fun t => [true, false].all fun b => Txt.strip (S (partH b t)) == S (itemH t)) = true := by decide +kernel
theorem kv_block : allIt (fun t => kvB (S (itemH t), S [65 + t.k], S (meant t))) = true := by decide +kernel
end Mine.Internal

end PartD4
section PartD5
open PySem PySem.W PyProof.Rows
open PySem.Builtin.Str (strSliceIndices)
set_option Elab.async false
set_option maxRecDepth 100000
set_option linter.unusedVariables false
namespace Mine.Internal
theorem pick_nat (xs : List Nat) (a : Nat) : ∀ n : Nat, a + n ≤ xs.length → ((List.range n).map fun k => a + k).filterMap (xs[·]?) = (xs.drop a).take n
  | 0, _ => by simp
  | n + 1, h => by
    rw [List.range_succ, List.map_append, List.filterMap_append, pick_nat xs a n (by omega), List.take_add_one, List.getElem?_drop]
    rw [List.map_cons, List.map_nil, List.filterMap_cons, List.getElem?_eq_getElem (by omega)]; rfl
theorem slice_core {l : List Nat} {u v : Option Int} {a b : Nat} (hab : a ≤ b) (hb : b ≤ l.length) (e : strSliceIndices u v 1 l.length = sliceRange a b 1) : Txt.slice (S l) u v = S ((l.drop a).take (b - a)) := by
  unfold Txt.slice
  rw [show (S l).length = l.length from rfl, e, sliceRange_one a b (by omega) (by omega)]
  rw [show ((b : Int) - (a : Int)).toNat = b - a by omega, Int.toNat_natCast]
  split
  · rename_i h
    simp only [Bool.and_eq_true, beq_iff_eq, List.length_map, List.length_range] at h
    have ha : a = 0 := by omega
    have hb' : b = l.length := by omega
    subst ha hb'
    simp
  · have := pick_nat l a (b - a) (by omega)
    show S (((List.range (b - a)).map fun k => a + k).filterMap (l.toArray[·]?)) = _
    simp only [List.getElem?_toArray]
    rw [this]
theorem slice_ss {l : List Nat} {a b : Nat} (hab : a ≤ b) (hb : b ≤ l.length) : Txt.slice (S l) (some (a : Int)) (some (b : Int)) = S ((l.drop a).take (b - a)) := by
  refine slice_core hab hb ?_
  unfold strSliceIndices
  simp only [show (1 : Int) > 0 by decide, if_true, show ¬ ((a : Int) < 0) by omega, show ¬ ((b : Int) < 0) by omega, if_false]
  rw [clip_le (Nat.le_trans hab hb), clip_le hb]
theorem slice_sn {l : List Nat} {a : Nat} (ha : a ≤ l.length) : Txt.slice (S l) (some (a : Int)) none = S (l.drop a) := by
  have := slice_core (l := l) (u := some (a : Int)) (v := none) (a := a) (b := l.length) ha (Nat.le_refl _) (by
    unfold strSliceIndices
    simp only [show (1 : Int) > 0 by decide, if_true, show ¬ ((a : Int) < 0) by omega, if_false]
    rw [clip_le ha])
  rw [this, List.take_of_length_le (by simp)]
theorem slice_last {l : List Nat} {c : Nat} : Txt.slice (S (l ++ [c])) none (some (-1)) = S l := by
  have := slice_core (l := l ++ [c]) (u := none) (v := some (-1)) (a := 0) (b := l.length) (Nat.zero_le _) (by simp) (by
    unfold strSliceIndices
    simp only [show (1 : Int) > 0 by decide, if_true, show ((-1 : Int) < 0) by decide, List.length_append, List.length_cons, List.length_nil]
    rw [show max (0 : Int) (min (-1 + ((l.length + (0 + 1) : Nat) : Int)) ((l.length + (0 + 1) : Nat) : Int)) = (l.length : Int) by omega]; rfl)
  rw [this]; simp
noncomputable def addR (a : List (List Nat)) (s : HS) : HS := ⟨a ++ s.res, s.part, s.esc, s.quo⟩
theorem hStep_add (a : List (List Nat)) (s : HS) (c : Nat) : hStep (addR a s) c = addR a (hStep s c) := by
  obtain ⟨r, p, e, q⟩ := s
  unfold hStep addR
  cases e <;> cases q <;> simp only [Bool.false_eq_true, if_true, if_false]
  · split
    · simp
    · rfl
  · split <;> rfl
theorem hFold_add (a : List (List Nat)) : ∀ (l : List Nat) (s : HS), l.foldl hStep (addR a s) = addR a (l.foldl hStep s)
  | [], _ => rfl
  | c :: l, s => by rw [List.foldl_cons, hStep_add, hFold_add a l]; rfl
theorem http_body {t : It} (ok : t.ok) (b : Bool) (res : List (List Nat)) : (preB b ++ body t).foldl hStep ⟨res, [], false, false⟩ = ⟨res, partH b t, false, false⟩ := by
  have h := allIt_get http_block t ok
  rw [List.all_eq_true] at h
  have h := h b (by cases b <;> simp)
  simp only [Bool.and_eq_true, beq_iff_eq, Bool.not_eq_true'] at h
  obtain ⟨⟨⟨h1, h2⟩, h3⟩, h4⟩ := h
  have := hFold_add res (preB b ++ body t) ⟨[], [], false, false⟩
  rw [show addR res ⟨[], [], false, false⟩ = ⟨res, [], false, false⟩ by simp [addR]] at this
  rw [this]
  generalize (preB b ++ body t).foldl hStep ⟨[], [], false, false⟩ = f at h1 h2 h3 h4 ⊢
  obtain ⟨r, p, e, q⟩ := f
  cases h1; cases h2; cases h3; cases h4
  simp [addR, partH]
theorem http_blk {t : It} (ok : t.ok) (b : Bool) (res : List (List Nat)) : (preB b ++ itL t).foldl hStep ⟨res, [], false, false⟩ = ⟨res ++ [partH b t], [], false, false⟩ := by
  unfold itL
  rw [← List.append_assoc, List.foldl_append, http_body ok]; rfl
noncomputable def lineB : Bool → List It → List Nat
  | _, [] => []
  | b, t :: r => preB b ++ itL t ++ lineB true r
noncomputable def partsB : Bool → List It → List (List Nat)
  | _, [] => []
  | b, t :: r => partH b t :: partsB true r
theorem line_true : ∀ (t : It) (r : List It), 32 :: lineL (t :: r) = lineB true (t :: r)
  | t, [] => by simp [lineL, lineB, preB]
  | t, y :: r => by
    have ih := line_true y r
    show 32 :: (itL t ++ 32 :: lineL (y :: r)) = [32] ++ itL t ++ lineB true (y :: r)
    rw [ih]; simp
theorem line_false : ∀ its : List It, lineL its = lineB false its
  | [] => rfl
  | [t] => by simp [lineL, lineB, preB]
  | t :: y :: r => by
    show itL t ++ 32 :: lineL (y :: r) = [] ++ itL t ++ lineB true (y :: r)
    rw [line_true]; simp
theorem http_lineB : ∀ (its : List It) (b : Bool) (res : List (List Nat)), (∀ t ∈ its, t.ok) → (lineB b its).foldl hStep ⟨res, [], false, false⟩ = ⟨res ++ partsB b its, [], false, false⟩
  | [], b, res, _ => by simp [lineB, partsB]
  | t :: r, b, res, h => by
    unfold lineB partsB
    rw [List.foldl_append, http_blk (h t (.head _)), http_lineB r true _ fun x hx => h x (.tail _ hx)]
    simp
theorem partH_ne (b : Bool) (t : It) : (partH b t).length ≠ 0 := by unfold partH itemH; simp
theorem http_init : ∀ (its : List It) (b : Bool) (res : List (List Nat)), its ≠ [] → (∀ t ∈ its, t.ok) → ∃ l, lineB b its = l ++ [44] ∧ hEnd (l.foldl hStep ⟨res, [], false, false⟩) = res ++ partsB b its
  | [], _, _, h, _ => absurd rfl h
  | [t], b, res, _, h => by
    refine ⟨preB b ++ body t, by simp [lineB, itL], ?_⟩
    rw [http_body (h t (.head _))]
    unfold hEnd
    rw [if_pos (partH_ne b t)]; rfl
  | t :: y :: r, b, res, _, h => by
    obtain ⟨l, h1, h2⟩ := http_init (y :: r) true (res ++ [partH b t]) (by simp) fun x hx => h x (.tail _ hx)
    refine ⟨preB b ++ itL t ++ l, ?_, ?_⟩
    · show preB b ++ itL t ++ lineB true (y :: r) = _
      rw [h1]; simp
    · rw [List.foldl_append, http_blk (h t (.head _)), h2]
      show res ++ [partH b t] ++ partsB true (y :: r) = res ++ partH b t :: partsB true (y :: r)
      simp
theorem strip_parts : ∀ (its : List It) (b : Bool), (∀ t ∈ its, t.ok) → (partsB b its).map (fun p => Txt.strip (S p)) = its.map fun t => S (itemH t)
  | [], _, _ => rfl
  | t :: r, b, h => by
    have hb := allIt_get strip_block t (h t (.head _))
    rw [List.all_eq_true] at hb
    have hb := hb b (by cases b <;> simp)
    rw [beq_iff_eq] at hb
    unfold partsB
    rw [List.map_cons, List.map_cons, hb, strip_parts r true fun x hx => h x (.tail _ hx)]
theorem http_line {its : List It} (h : ∀ t ∈ its, t.ok) : httpOf (lineL its) = its.map fun t => S (itemH t) := by
  unfold httpOf
  rw [line_false, http_lineB _ _ _ h]
  show ((([] : List (List Nat)) ++ partsB false its)).map _ = _
  rw [List.nil_append, strip_parts its false h]
theorem http_cut {its : List It} (hn : its ≠ []) (h : ∀ t ∈ its, t.ok) : ∃ l, Txt.slice (S (lineL its)) none (some (-1)) = S l ∧ l.length ≤ (lineL its).length ∧ httpOf l = its.map fun t => S (itemH t) := by
  obtain ⟨l, h1, h2⟩ := http_init its false [] hn h
  refine ⟨l, ?_, ?_, ?_⟩
  · rw [line_false, h1, slice_last]
  · rw [line_false, h1]; simp
  · unfold httpOf
    rw [h2, List.nil_append, strip_parts its false h]
theorem kv_item {t : It} (ok : t.ok) : kvB (S (itemH t), S [65 + t.k], S (meant t)) = true := allIt_get kv_block t ok
end Mine.Internal

end PartD5
section PartD6
open PySem PySem.W PyProof.Rows
set_option Elab.async false
set_option maxRecDepth 100000
set_option linter.unusedVariables false
namespace Mine.Internal
structure KS where
  tot : List Nat
  q : Bool
  e : Bool
noncomputable def keep (q : Bool) (c : Nat) : List Nat := if q then [] else [c]
noncomputable def kStep (s : KS) (c : Nat) : KS :=
  if s.e then ⟨s.tot ++ keep s.q c, s.q, false⟩
  else if c = 92 then ⟨s.tot ++ keep s.q c, s.q, true⟩
  else if c = 34 then ⟨s.tot, !s.q, false⟩
  else ⟨s.tot ++ keep s.q c, s.q, false⟩
noncomputable def span (x : List Nat) (a b : Nat) : List Nat := (x.drop a).take (b - a)
structure Sync (x : List Nat) (i : Nat) (s : SS) (k : KS) (st : Nat) (ps : List (List Nat)) : Prop where
  start : s.start = (st : Int)
  res : s.res = ps.map S
  le : st ≤ i
  opn : match s.opn with
    | none => k.q = false ∧ k.tot = ps.flatten ++ span x st i
    | some o => ∃ on : Nat, o = (on : Int) ∧ st ≤ on ∧ on ≤ i ∧ k.q = true ∧ k.tot = ps.flatten ++ span x st on
theorem span_next {x : List Nat} {a i : Nat} (h : a ≤ i) {c : Nat} (hc : x[i]? = some c) : span x a (i + 1) = span x a i ++ [c] := by
  unfold span
  rw [show i + 1 - a = (i - a) + 1 by omega, List.take_add_one, List.getElem?_drop, show a + (i - a) = i by omega, hc]; rfl
theorem span_self (x : List Nat) (a : Nat) : span x a a = [] := by unfold span; simp
theorem Sync.more {x : List Nat} {i : Nat} {s : SS} {k k' : KS} {st : Nat} {ps : List (List Nat)} (h : Sync x i s k st ps) {c : Nat} (hc : x[i]? = some c) (hq : k'.q = k.q) (ht : k'.tot = k.tot ++ keep k.q c) : Sync x (i + 1) s k' st ps := by
  refine ⟨h.start, h.res, Nat.le_succ_of_le h.le, ?_⟩
  have ho := h.opn
  cases hs : s.opn with
  | none =>
    rw [hs] at ho
    obtain ⟨h1, h2⟩ := ho
    refine ⟨hq.trans h1, ?_⟩
    rw [ht, h1, h2, span_next h.le hc, List.append_assoc]; rfl
  | some o =>
    rw [hs] at ho
    obtain ⟨on, h1, h2, h3, h4, h5⟩ := ho
    refine ⟨on, h1, h2, Nat.le_succ_of_le h3, hq.trans h4, ?_⟩
    rw [ht, h4, h5]; exact List.append_nil _
theorem mark_two (c : Nat) : ((("\\" : Str) ++ ⟨#[c]⟩) == ("\"" : Str)) = false := by
  rw [beq_str, decide_eq_false]
  intro e
  have := congrArg Str.length e
  rw [str_len] at this
  have e1 : ("\\" : Str).length = 1 := by decide +kernel
  have e2 : ("\"" : Str).length = 1 := by decide +kernel
  have e3 : (⟨#[c]⟩ : Str).length = 1 := rfl
  omega
theorem mark_one (c : Nat) : ((⟨#[c]⟩ : Str) == ("\"" : Str)) = decide (c = 34) := by rw [S_mark]; exact ch_beq c 34
theorem sync_fold (x : List Nat) : ∀ (cs : List Nat) (i : Nat) (s : SS) (k : KS) (st : Nat) (ps : List (List Nat)), cs = x.drop i → i + cs.length = x.length → Sync x i s k st ps →
    ∃ st' ps', Sync x x.length ((escOuts i k.e cs).foldl (sStep (S x)) s) (cs.foldl kStep k) st' ps'
  | [], i, s, k, st, ps, _, hi, h => by
    have : i = x.length := by simpa using hi
    subst this
    refine ⟨st, ps, ?_⟩
    cases k.e <;> exact h
  | c :: cs, i, s, k, st, ps, hd, hi, h => by
    have hc : x[i]? = some c := by
      have := congrArg (·[0]?) hd
      simpa using this.symm
    have hd' : cs = x.drop (i + 1) := by rw [← List.drop_drop (i := 1), ← hd]; rfl
    have hi' : i + 1 + cs.length = x.length := by rw [List.length_cons] at hi; omega
    obtain ⟨tot, q, e⟩ := k
    have next := fun s' k' st' ps' (h' : Sync x (i + 1) s' k' st' ps') => sync_fold x cs (i + 1) s' k' st' ps' hd' hi' h'
    rw [List.foldl_cons]
    cases e with
    | true =>
      rw [show kStep ⟨tot, q, true⟩ c = ⟨tot ++ keep q c, q, false⟩ from rfl]
      show ∃ st' ps', Sync x x.length ((((i : Int), ("\\" : Str) ++ ⟨#[c]⟩) :: escOuts (i + 1) false cs).foldl (sStep (S x)) s) _ st' ps'
      have es : sStep (S x) s ((i : Int), ("\\" : Str) ++ ⟨#[c]⟩) = s := by
        unfold sStep
        rw [if_neg (by rw [mark_two]; exact Bool.false_ne_true)]
      rw [List.foldl_cons, es]
      exact next s ⟨tot ++ keep q c, q, false⟩ st ps (h.more hc rfl rfl)
    | false =>
      by_cases h92 : c = 92
      · have ek : kStep ⟨tot, q, false⟩ c = ⟨tot ++ keep q c, q, true⟩ := by unfold kStep; simp [h92]
        rw [ek]
        have eo : escOuts i false (c :: cs) = escOuts (i + 1) true cs := by simp [escOuts, h92]
        show ∃ st' ps', Sync x x.length ((escOuts i false (c :: cs)).foldl (sStep (S x)) s) _ st' ps'
        rw [eo]
        exact next s ⟨tot ++ keep q c, q, true⟩ st ps (h.more hc rfl rfl)
      · have eo : escOuts i false (c :: cs) = ((i : Int), ⟨#[c]⟩) :: escOuts (i + 1) false cs := by simp [escOuts, h92]
        show ∃ st' ps', Sync x x.length ((escOuts i false (c :: cs)).foldl (sStep (S x)) s) _ st' ps'
        rw [eo, List.foldl_cons]
        by_cases h34 : c = 34
        · have ek : kStep ⟨tot, q, false⟩ c = ⟨tot, !q, false⟩ := by unfold kStep; simp [h34]
          rw [ek]
          have hm : ((⟨#[c]⟩ : Str) == ("\"" : Str)) = true := by rw [mark_one, decide_eq_true h34]
          have ho := h.opn
          obtain ⟨start, opn, res⟩ := s
          cases opn with
          | none =>
            obtain ⟨h1, h2⟩ := ho
            have h1 : q = false := h1
            subst h1
            refine next (sStep (S x) ⟨start, none, res⟩ ((i : Int), ⟨#[c]⟩)) ⟨tot, !false, false⟩ st ps ?_
            have es : sStep (S x) ⟨start, none, res⟩ ((i : Int), ⟨#[c]⟩) = ⟨start, some (i : Int), res⟩ := by unfold sStep; rw [if_pos hm]
            rw [es]
            exact ⟨h.start, h.res, Nat.le_succ_of_le h.le, i, rfl, h.le, Nat.le_succ i, rfl, h2⟩
          | some o =>
            obtain ⟨on, h1, h2, h3, h4, h5⟩ := ho
            have h4 : q = true := h4
            have hs : start = (st : Int) := h.start
            subst h4 h1 hs
            have hr : res = ps.map S := h.res
            have es : sStep (S x) ⟨(st : Int), some (on : Int), res⟩ ((i : Int), ⟨#[c]⟩) = ⟨(i : Int) + 1, none, if ((st : Int) != (on : Int)) = true then res ++ [Txt.slice (S x) (some (st : Int)) (some (on : Int))] else res⟩ := by unfold sStep; rw [if_pos hm]
            refine next (sStep (S x) ⟨(st : Int), some (on : Int), res⟩ ((i : Int), ⟨#[c]⟩)) ⟨tot, !true, false⟩ (i + 1) (if st = on then ps else ps ++ [span x st on]) ?_
            rw [es]
            refine ⟨rfl, ?_, Nat.le_refl _, rfl, ?_⟩
            · show (if ((st : Int) != (on : Int)) = true then res ++ [Txt.slice (S x) (some (st : Int)) (some (on : Int))] else res) = _
              by_cases he : st = on
              · subst he; rw [if_neg (by simp), if_pos rfl, hr]
              · rw [if_pos (by simpa using fun e => he (Int.ofNat.inj e)), if_neg he, slice_ss h2 (by omega), hr, List.map_append]; rfl
            · show tot = _
              have h5 : tot = ps.flatten ++ span x st on := h5
              rw [h5, span_self]
              by_cases he : st = on
              · subst he; rw [if_pos rfl, span_self]
              · rw [if_neg he, List.flatten_append]; simp
        · have ek : kStep ⟨tot, q, false⟩ c = ⟨tot ++ keep q c, q, false⟩ := by unfold kStep; simp [h92, h34]
          rw [ek]
          have es : sStep (S x) s ((i : Int), ⟨#[c]⟩) = s := by
            unfold sStep
            rw [if_neg (by rw [mark_one, decide_eq_false h34]; exact Bool.false_ne_true)]
          rw [es]
          exact next s ⟨tot ++ keep q c, q, false⟩ st ps (h.more hc rfl rfl)
theorem strip_kept {x : List Nat} {tot : List Nat} {e : Bool} (h : x.foldl kStep ⟨[], false, false⟩ = ⟨tot, false, e⟩) : stripOf x = S tot := by
  have h0 : Sync x 0 ⟨0, none, []⟩ ⟨[], false, false⟩ 0 [] := ⟨rfl, rfl, Nat.le_refl 0, rfl, by rw [span_self]; rfl⟩
  obtain ⟨st, ps, h1⟩ := sync_fold x x 0 _ _ 0 [] rfl (by simp) h0
  rw [h] at h1
  unfold stripOf
  have h1 : Sync x x.length ((escOuts 0 false x).foldl (sStep (S x)) ⟨0, none, []⟩) ⟨tot, false, e⟩ st ps := h1
  generalize (escOuts 0 false x).foldl (sStep (S x)) ⟨0, none, []⟩ = s at h1 ⊢
  have ho := h1.opn
  cases hs : s.opn with
  | some o => rw [hs] at ho; obtain ⟨on, _, _, _, h4, _⟩ := ho; cases h4
  | none =>
    rw [hs] at ho
    obtain ⟨_, h2⟩ := ho
    have h2 : tot = ps.flatten ++ span x st x.length := h2
    have hsp : span x st x.length = x.drop st := by unfold span; rw [List.take_of_length_le (by simp)]
    unfold sEnd
    rw [h1.start, h1.res, S_nil, S_len]
    split
    · rw [slice_sn h1.le, show ps.map S ++ [S (x.drop st)] = (ps ++ [x.drop st]).map S by simp, txt_join_nil, h2, hsp]; simp
    · rename_i hlt
      have : st = x.length := by have := h1.le; omega
      rw [txt_join_nil, h2, hsp, this]; simp
theorem kStep_esc (k : KS) (c : Nat) : (kStep k c).e = (!k.e && decide (c = 92)) := by
  obtain ⟨t, q, e⟩ := k
  unfold kStep
  cases e
  · by_cases h : c = 92
    · simp [h]
    · by_cases h' : c = 34 <;> simp [h, h']
  · simp
theorem esc_end : ∀ (cs : List Nat) (k : KS), escEnd k.e cs = (cs.foldl kStep k).e
  | [], k => by cases h : k.e <;> simp [escEnd, h]
  | c :: cs, k => by
    have ih := esc_end cs (kStep k c)
    rw [List.foldl_cons, ← ih, kStep_esc]
    cases k.e <;> simp [escEnd]
end Mine.Internal

end PartD6
section PartD7
open PySem PySem.W PyProof.Rows
set_option Elab.async false
set_option maxRecDepth 100000
set_option linter.unusedVariables false
namespace Mine.Internal
noncomputable def addT (a : List Nat) (k : KS) : KS := ⟨a ++ k.tot, k.q, k.e⟩
theorem kStep_add (a : List Nat) (k : KS) (c : Nat) : kStep (addT a k) c = addT a (kStep k c) := by
  obtain ⟨t, q, e⟩ := k
  unfold kStep addT
  cases e
  · by_cases h : c = 92
    · simp [h]
    · by_cases h' : c = 34 <;> simp [h, h']
  · simp
theorem kFold_add (a : List Nat) : ∀ (l : List Nat) (k : KS), l.foldl kStep (addT a k) = addT a (l.foldl kStep k)
  | [], _ => rfl
  | c :: l, k => by rw [List.foldl_cons, kStep_add, kFold_add a l]; rfl
noncomputable def keyI (t : It) : List Nat := [65 + t.k, 61] ++ gapL t.g ++ [44]
noncomputable def valI (t : It) : List Nat := (97 + t.v) :: dT t.dr
theorem kept_block : allIt (fun t => [true, false].all fun b => [true, false].all fun q => (let f := (preB b ++ itL t).foldl kStep ⟨[], q, false⟩; f.tot == (if q then valI t else preB b ++ keyI t) && f.q == q && !f.e)) = true := by decide +kernel
theorem kept_blk {t : It} (ok : t.ok) (b q : Bool) (tot : List Nat) : (preB b ++ itL t).foldl kStep ⟨tot, q, false⟩ = ⟨tot ++ (if q then valI t else preB b ++ keyI t), q, false⟩ := by
  have h := allIt_get kept_block t ok
  rw [List.all_eq_true] at h
  have h := h b (by cases b <;> simp)
  rw [List.all_eq_true] at h
  have h := h q (by cases q <;> simp)
  simp only [Bool.and_eq_true, beq_iff_eq, Bool.not_eq_true'] at h
  obtain ⟨⟨h1, h2⟩, h3⟩ := h
  have := kFold_add tot (preB b ++ itL t) ⟨[], q, false⟩
  rw [show addT tot ⟨[], q, false⟩ = ⟨tot, q, false⟩ by simp [addT]] at this
  rw [this]
  unfold addT
  rw [h1, h2, h3]
theorem preB_true : preB true = [32] := rfl
theorem preB_false : preB false = [] := rfl
noncomputable def keysB : Bool → List It → List Nat
  | _, [] => []
  | b, t :: r => preB b ++ keyI t ++ keysB true r
theorem kept_keys : ∀ (its : List It) (b : Bool) (tot : List Nat), (∀ t ∈ its, t.ok) → (lineB b its).foldl kStep ⟨tot, false, false⟩ = ⟨tot ++ keysB b its, false, false⟩
  | [], b, tot, _ => by simp [lineB, keysB]
  | t :: r, b, tot, h => by
    unfold lineB keysB
    rw [List.foldl_append, kept_blk (h t (.head _)), kept_keys r true _ fun x hx => h x (.tail _ hx)]
    simp
theorem kept_vals : ∀ (its : List It) (b : Bool) (tot : List Nat), (∀ t ∈ its, t.ok) → (lineB b its).foldl kStep ⟨tot, true, false⟩ = ⟨tot ++ its.flatMap valI, true, false⟩
  | [], b, tot, _ => by simp [lineB]
  | t :: r, b, tot, h => by
    unfold lineB
    rw [List.foldl_append, kept_blk (h t (.head _)), kept_vals r true _ fun x hx => h x (.tail _ hx)]
    simp
theorem keys_true : ∀ (t : It) (r : List It), 32 :: joinB ((t :: r).map keyI) = keysB true (t :: r)
  | t, [] => by simp [joinB, keysB, preB]
  | t, y :: r => by
    have ih := keys_true y r
    show 32 :: (keyI t ++ 32 :: joinB ((y :: r).map keyI)) = [32] ++ keyI t ++ keysB true (y :: r)
    rw [ih]; simp
theorem keys_join : ∀ its : List It, joinB (its.map keyI) = keysB false its
  | [] => rfl
  | [t] => by simp [joinB, keysB, preB]
  | t :: y :: r => by
    show keyI t ++ 32 :: joinB ((y :: r).map keyI) = [] ++ keyI t ++ keysB true (y :: r)
    rw [keys_true]; simp
noncomputable def keysL (its : List It) : List Nat := joinB (its.map keyI)
noncomputable def valsL (its : List It) : List Nat := its.flatMap valI
theorem strip_keys {its : List It} (h : ∀ t ∈ its, t.ok) : stripOf (lineL its) = S (keysL its) := by
  refine strip_kept (e := false) ?_
  rw [line_false, kept_keys _ _ _ h, List.nil_append, keysL, keys_join]
theorem esc_keys {its : List It} (h : ∀ t ∈ its, t.ok) : escEnd false (lineL its) = false := by
  have := esc_end (lineL its) ⟨[], false, false⟩
  rw [this, line_false, kept_keys _ _ _ h]
noncomputable def quoted (its : List It) : List Nat := 34 :: (lineL its ++ [34])
theorem fold_quoted {its : List It} (h : ∀ t ∈ its, t.ok) : (quoted its).foldl kStep ⟨[], false, false⟩ = ⟨valsL its, false, false⟩ := by
  unfold quoted
  rw [List.foldl_cons, List.foldl_append, show kStep ⟨[], false, false⟩ 34 = ⟨[], true, false⟩ from rfl, line_false, kept_vals _ _ _ h]
  rfl
theorem strip_vals {its : List It} (h : ∀ t ∈ its, t.ok) : stripOf (quoted its) = S (valsL its) := strip_kept (fold_quoted h)
theorem esc_vals {its : List It} (h : ∀ t ∈ its, t.ok) : escEnd false (quoted its) = false := by
  have := esc_end (quoted its) ⟨[], false, false⟩
  rw [this, fold_quoted h]
theorem occ_mark {x : List Nat} (h : 34 ∈ x) : (Builtin.Str.occurrences (S x) "\"" 0 (S x).length 1).isEmpty = false := by
  rw [S_mark]
  have := StrLaws.found_one (S x) 34
  rw [decide_eq_true h] at this
  simpa using this
theorem mark_line : ∀ {its : List It}, its ≠ [] → 34 ∈ lineL its
  | [], h => absurd rfl h
  | [t], _ => by unfold lineL itL body; simp
  | t :: y :: r, _ => by unfold lineL itL body; simp
theorem body_len {t : It} (ok : t.ok) : (itL t).length ≤ 10 := by
  have := dT_len t.dr
  unfold itL body
  rcases two ok.2.2.2 with e | e <;> rw [e] <;> simp [gapL] <;> omega
theorem line_len : ∀ {its : List It}, (∀ t ∈ its, t.ok) → (lineL its).length ≤ its.length * 11
  | [], _ => Nat.le_refl _
  | [t], h => by have := body_len (h t (.head _)); show (itL t).length ≤ 11; omega
  | t :: y :: r, h => by
    have ih := line_len (its := y :: r) fun x hx => h x (.tail _ hx)
    have := body_len (h t (.head _))
    show (itL t ++ 32 :: lineL (y :: r)).length ≤ _
    simp only [List.length_append, List.length_cons] at ih ⊢; omega
end Mine.Internal

end PartD7
section PartD8
open PySem PySem.W PyProof.Rows
set_option Elab.async false
set_option maxRecDepth 100000
set_option linter.unusedVariables false
namespace Mine.Internal
noncomputable def itOf (n : Int) (p : Int × Int) : It := ⟨p.1.toNat, p.2.toNat, ((fig n 3).fmod 6).toNat, ((fig n 6).fdiv 8).toNat⟩
noncomputable def tyOf (n : Int) (p : Int × Int) : Ty := ⟨itOf n p, ((fig n 4).fmod 2).toNat, ((fig n 5).fmod 2).toNat, ((fig n 6).fmod 4).toNat⟩
noncomputable def prI (t : It) : Int × Int := ((t.k : Int), (t.v : Int))
noncomputable def Pr4 (p : Int × Int) : Prop := 0 ≤ p.1 ∧ p.1 < 4 ∧ 0 ≤ p.2 ∧ p.2 < 4
theorem it_ok (n : Int) {p : Int × Int} (h : Pr4 p) : (itOf n p).ok := by
  obtain ⟨h1, h2, h3, h4⟩ := h
  have a := fmod_range (fig n 3) 6 (by decide)
  have b := fdiv8 n 6
  refine ⟨?_, ?_, ?_, ?_⟩
  · show p.1.toNat < 4; omega
  · show p.2.toNat < 4; omega
  · show ((fig n 3).fmod 6).toNat < 6; omega
  · show ((fig n 6).fdiv 8).toNat < 2; omega
theorem ty_ok (n : Int) {p : Int × Int} (h : Pr4 p) : (tyOf n p).ok := by
  have a := fmod_range (fig n 4) 2 (by decide)
  have b := fmod_range (fig n 5) 2 (by decide)
  have c := fmod_range (fig n 6) 4 (by decide)
  refine ⟨it_ok n h, ?_, ?_, ?_⟩
  · show ((fig n 4).fmod 2).toNat < 2; omega
  · show ((fig n 5).fmod 2).toNat < 2; omega
  · show ((fig n 6).fmod 4).toNat < 4; omega
theorem prI_itOf (n : Int) {p : Int × Int} (h : Pr4 p) : prI (itOf n p) = p := by
  obtain ⟨h1, h2, h3, h4⟩ := h
  unfold prI itOf
  exact Prod.ext (by show ((p.1.toNat : Nat) : Int) = p.1; omega) (by show ((p.2.toNat : Nat) : Int) = p.2; omega)
theorem keyOf_S (c : Int) {k : Int} (h : 0 ≤ k) (h' : k < 4) : keyOf c k = S [65 + 32 * (c.fmod 2).toNat + k.toNat] := by
  unfold keyOf abc
  rcases two_cases c with e | e <;> rw [e] <;> rcases four_cases h h' with rfl | rfl | rfl | rfl <;> decide +kernel
theorem dress_S (f : Int) : (dress f).1 = S (dT (f.fmod 6).toNat) ∧ (dress f).2 = S (dM (f.fmod 6).toNat) := by
  obtain ⟨h, h'⟩ := fmod_range f 6 (by decide)
  unfold dress
  have := sixI h h'
  rcases this with e | e | e | e | e | e <;> rw [e] <;> decide +kernel
theorem gap_S (n : Int) : gapOf (fig n 6) = S (gapL ((fig n 6).fdiv 8).toNat) := by
  unfold gapOf
  rcases fdiv8 n 6 with e | e <;> rw [e] <;> decide +kernel
theorem white_S (f : Int) : whiteOf f = S (whL (f.fmod 4).toNat) := by
  obtain ⟨h, h'⟩ := fmod_range f 4 (by decide)
  unfold whiteOf
  rcases four_cases h h' with e | e | e | e <;> rw [e] <;> decide +kernel
theorem S_eqm : ("=\"" : Str) = S [61, 34] := by decide +kernel
theorem tyItem_S (n : Int) {p : Int × Int} (h : Pr4 p) : tyItem n p = S (tyL (tyOf n p)) := by
  obtain ⟨h1, h2, h3, h4⟩ := h
  unfold tyItem
  rw [keyOf_S _ h1 h2, keyOf_S _ h3 h4, (dress_S _).1, gap_S, white_S, S_eqm, S_mark, S_comma, S_app, S_app, S_app, S_app, S_app, S_app, S_app]
  unfold tyL tyOf itOf
  simp [List.append_assoc]
noncomputable def itsOf (cells : List Int) : List It := (List.range 6).map fun i => itOf (cells.getD i 0) (pairAt cells i)
noncomputable def tysOf (cells : List Int) : List Ty := (List.range 6).map fun i => tyOf (cells.getD i 0) (pairAt cells i)
theorem pair4 (cells : List Int) {i : Nat} (hi : i < 6) : Pr4 (pairAt cells i) := by
  have hi' := six hi
  unfold pairAt
  split
  · unfold planOf
    split <;> rcases hi' with rfl | rfl | rfl | rfl | rfl | rfl <;> (unfold Pr4; decide)
  · split
    · have := fmod_range (fig (cells.getD i 0) 1) 3 (by decide)
      unfold Pr4; dsimp only; omega
    · have a := fmod_range (fig (cells.getD i 0) 1) 4 (by decide)
      have b := fmod_range (fig (cells.getD i 0) 1 + 1 + (fig (cells.getD i 0) 2).fmod 3) 4 (by decide)
      unfold Pr4; dsimp only; omega
theorem near_pair (cells : List Int) (hn : nearOf cells = true) {i : Nat} (hi : i < 6) : (pairAt cells i).2 = (pairAt cells i).1 + 1 := by
  have hi' := six hi
  unfold pairAt planOf
  rw [hn]
  split
  · rcases hi' with rfl | rfl | rfl | rfl | rfl | rfl <;> rfl
  · rfl
theorem its_ok (cells : List Int) : ∀ t ∈ itsOf cells, t.ok := fun t ht => by
  obtain ⟨i, hi, rfl⟩ := List.mem_map.mp ht
  exact it_ok _ (pair4 cells (List.mem_range.mp hi))
theorem tys_ok (cells : List Int) : ∀ t ∈ tysOf cells, t.ok := fun t ht => by
  obtain ⟨i, hi, rfl⟩ := List.mem_map.mp ht
  exact ty_ok _ (pair4 cells (List.mem_range.mp hi))
theorem tys_its (cells : List Int) : (tysOf cells).map Ty.it = itsOf cells := by unfold tysOf itsOf; rw [List.map_map]; rfl
theorem its_len (cells : List Int) : (itsOf cells).length = 6 := by simp [itsOf]
theorem tys_len (cells : List Int) : (tysOf cells).length = 6 := by simp [tysOf]
theorem its_ne (cells : List Int) : itsOf cells ≠ [] := fun e => by have := its_len cells; rw [e] at this; cases this
theorem pairs_its (cells : List Int) : pairsOf cells = (itsOf cells).map prI := by
  unfold pairsOf itsOf
  rw [List.map_map]
  exact List.map_congr_left fun i hi => (prI_itOf _ (pair4 cells (List.mem_range.mp hi))).symm
theorem pairs_len (cells : List Int) : (pairsOf cells).length = 6 := by simp [pairsOf]
theorem pairs_get (cells : List Int) {i : Nat} (hi : i < 6) : (pairsOf cells).getD i (0, 0) = pairAt cells i := by
  unfold pairsOf
  rw [List.getD_eq_getElem?_getD, List.getElem?_map, List.getElem?_range hi]; rfl
theorem low4_pairs (cells : List Int) : Low4 (pairsOf cells) := fun p hp => by
  obtain ⟨i, hi, rfl⟩ := List.mem_map.mp hp
  exact pair4 cells (List.mem_range.mp hi)
theorem typed_S (cells : List Int) : ∀ n : Nat, n ≤ 6 → typedAt cells (pairsOf cells) n = S (32 :: ((List.range n).map fun i => tyOf (cells.getD i 0) (pairAt cells i)).flatMap tyL)
  | 0, _ => S_blank
  | n + 1, h => by
    rw [typed_step, typed_S cells n (by omega), pairs_get cells (by omega), tyItem_S _ (pair4 cells (by omega)), S_app, List.range_succ, List.map_append, List.flatMap_append]
    simp
theorem typed_all (cells : List Int) : typedAt cells (pairsOf cells) 6 = S (typedL (tysOf cells)) := typed_S cells 6 (Nat.le_refl 6)
theorem take_map {β : Type} (cells : List Int) (hc : cells.length = 10) (f : Int → β) : (cells.take 6).map f = (List.range 6).map fun i => f (cells.getD i 0) := by
  refine List.ext_getElem (by simp; omega) fun i h1 h2 => ?_
  have hi : i < 6 := by simpa using h2
  simp [List.getElem?_eq_getElem (show i < cells.length by omega)]
noncomputable def drI (t : It) : PV := sp (S (dT t.dr), S (dM t.dr))
noncomputable def gaI (t : It) : PV := .str (S (gapL t.g))
theorem dresses_its (cells : List Int) (hc : cells.length = 10) : (cells.take 6).map (fun n => sp (dress (fig n 3))) = (itsOf cells).map drI := by
  rw [take_map cells hc]
  unfold itsOf
  rw [List.map_map]
  refine List.map_congr_left fun i hi => ?_
  have := dress_S (fig (cells.getD i 0) 3)
  show sp (dress (fig (cells.getD i 0) 3)) = sp (S (dT ((fig (cells.getD i 0) 3).fmod 6).toNat), S (dM ((fig (cells.getD i 0) 3).fmod 6).toNat))
  rw [← this.1, ← this.2]
theorem gaps_its (cells : List Int) (hc : cells.length = 10) : (cells.take 6).map (fun n => PV.str (gapOf (fig n 6))) = (itsOf cells).map gaI := by
  rw [take_map cells hc]
  unfold itsOf
  rw [List.map_map]
  refine List.map_congr_left fun i hi => ?_
  show PV.str (gapOf (fig (cells.getD i 0) 6)) = .str (S (gapL _))
  rw [gap_S]; rfl
end Mine.Internal

end PartD8
section PartD9
open PySem PySem.W PyProof.Rows
set_option Elab.async false
set_option maxRecDepth 100000
set_option linter.unusedVariables false
namespace Mine.Internal
noncomputable def cut (b o : Int) : Nat := if o < b then 9 else 32
noncomputable def thr (b : Int) (r : List Int) : List Nat := r.map fun n => cut b (ordOf n)
theorem thr_get (b : Int) {r : List Int} {i : Nat} (h : i < r.length) : (thr b r).getD i 0 = cut b (ordOf (r.getD i 0)) := by
  unfold thr
  rw [List.getD_eq_getElem?_getD, List.getD_eq_getElem?_getD, List.getElem?_map, List.getElem?_eq_getElem h]; rfl
theorem set_same {α : Type} {l : List α} {i : Nat} {a d : α} (h : l.getD i d = a) : l.set i a = l := by
  refine List.ext_getElem (by simp) fun k h1 h2 => ?_
  rw [List.getElem_set]
  split
  · rename_i e; subst e
    rw [← h, List.getD_eq_getElem?_getD, List.getElem?_eq_getElem h2]; rfl
  · rfl
theorem cut_cases (b o : Int) : (cut b o = 9 ∧ o < b) ∨ (cut b o = 32 ∧ b ≤ o) := by
  unfold cut
  by_cases h : o < b
  · exact .inl ⟨if_pos h, h⟩
  · exact .inr ⟨if_neg h, by omega⟩
theorem slide_step (b : Int) {r : List Int} {p : Int × Int} (hr : r.length = 4) (hp : Pr4 p) : slideStep (thr b r) p = thr b (runStep r p) := by
  obtain ⟨h1, h2, h3, h4⟩ := hp
  have hl : p.1.toNat < r.length := by omega
  have hh : p.2.toNat < r.length := by omega
  unfold slideStep runStep
  rw [thr_get b hl, thr_get b hh]
  have el := thr_get b hl
  have eh := thr_get b hh
  generalize r.getD p.1.toNat 0 = x at el ⊢
  generalize r.getD p.2.toNat 0 = y at eh ⊢
  by_cases hs : ordOf y < ordOf x
  · rw [if_pos hs]
    have em : thr b ((r.set p.1.toNat y).set p.2.toNat x) = ((thr b r).set p.1.toNat (cut b (ordOf y))).set p.2.toNat (cut b (ordOf x)) := by unfold thr; rw [List.map_set, List.map_set]
    rw [em]
    rcases cut_cases b (ordOf x) with ⟨hx, hx'⟩ | ⟨hx, hx'⟩ <;> rcases cut_cases b (ordOf y) with ⟨hy, hy'⟩ | ⟨hy, hy'⟩
    · rw [hx] at el; rw [hy] at eh; rw [hx, hy, if_neg (fun h => by cases h.1), set_same el, set_same eh]
    · omega
    · rw [hx, hy, if_pos ⟨rfl, rfl⟩]
    · rw [hx] at el; rw [hy] at eh; rw [hx, hy, if_neg (fun h => by cases h.2), set_same el, set_same eh]
  · rw [if_neg hs]
    rcases cut_cases b (ordOf x) with ⟨hx, hx'⟩ | ⟨hx, hx'⟩ <;> rcases cut_cases b (ordOf y) with ⟨hy, hy'⟩ | ⟨hy, hy'⟩
    · rw [hx, hy, if_neg (fun h => by cases h.1)]
    · rw [hx, hy, if_neg (fun h => by cases h.1)]
    · omega
    · rw [hx, hy, if_neg (fun h => by cases h.2)]
theorem slide_run (b : Int) : ∀ (prs : List (Int × Int)) (r : List Int), Low4 prs → r.length = 4 → slideOf prs (thr b r) = thr b (runOf prs r)
  | [], _, _, _ => rfl
  | p :: prs, r, h, hr => by
    show slideOf prs (slideStep (thr b r) p) = thr b (runOf prs (runStep r p))
    rw [slide_step b hr (h p (.head _)), slide_run b prs _ (fun q hq => h q (.tail _ hq)) ((runStep_length r p).trans hr)]
noncomputable def rowL (n : Nat) : List Nat := (List.range 4).map fun p => if n / 2 ^ p % 2 = 1 then 32 else 9
noncomputable def binB (e : List Nat) : Bool := (List.range 16).any fun n => rowL n == e
noncomputable def pairsAll : List (Int × Int) := (List.range 16).map fun n => (((n / 4 : Nat) : Int), ((n % 4 : Nat) : Int))
theorem pr_mem {p : Int × Int} (h : Pr4 p) : p ∈ pairsAll := by
  obtain ⟨h1, h2, h3, h4⟩ := h
  obtain ⟨a, b⟩ := p
  rcases four_cases h1 h2 with e | e | e | e <;> rcases four_cases h3 h4 with f | f | f | f <;> (dsimp only at e f; subst e f; decide)
theorem bin_step : ((List.range 16).all fun n => pairsAll.all fun p => binB (slideStep (rowL n) p) && (slideStep (rowL n) p).count 9 == (rowL n).count 9) = true := by decide +kernel
theorem bin_row {n : Nat} (h : n < 16) : binB (rowL n) = true := List.any_eq_true.mpr ⟨n, List.mem_range.mpr h, by simp⟩
theorem bin_get {e : List Nat} (h : binB e = true) : ∃ n, n < 16 ∧ e = rowL n := by
  obtain ⟨n, hn, h⟩ := List.any_eq_true.mp h
  exact ⟨n, List.mem_range.mp hn, (beq_iff_eq.mp h).symm⟩
theorem bin_slide : ∀ (prs : List (Int × Int)) (e : List Nat), Low4 prs → binB e = true → binB (slideOf prs e) = true ∧ (slideOf prs e).count 9 = e.count 9
  | [], e, _, h => ⟨h, rfl⟩
  | p :: prs, e, hp, h => by
    obtain ⟨n, hn, rfl⟩ := bin_get h
    have := List.all_eq_true.mp (range_get bin_step hn) p (pr_mem (hp p (.head _)))
    rw [Bool.and_eq_true, beq_iff_eq] at this
    obtain ⟨h1, h2⟩ := bin_slide prs _ (fun q hq => hp q (.tail _ hq)) this.1
    exact ⟨h1, h2.trans this.2⟩
/- a row that ends sorted -/
noncomputable def simpleB (e : List Nat) : Bool := e == List.replicate (e.count 9) 9 ++ List.replicate (4 - e.count 9) 32
noncomputable def perms : List (List Int) := ordersOf [1, 2, 3, 5]
theorem perm_step : (perms.all fun o => pairsAll.all fun p => perms.contains (runStep o p) && o.map ordOf == o && o.length == 4) = true := by decide +kernel
theorem perm_run : ∀ (prs : List (Int × Int)) (o : List Int), Low4 prs → o ∈ perms → runOf prs o ∈ perms
  | [], _, _, h => h
  | p :: prs, o, hp, h => by
    have := List.all_eq_true.mp (List.all_eq_true.mp perm_step o h) p (pr_mem (hp p (.head _)))
    simp only [Bool.and_eq_true] at this
    exact perm_run prs _ (fun q hq => hp q (.tail _ hq)) (by have := this.1.1; simpa using this)
theorem perm_ord {o : List Int} (h : o ∈ perms) : o.map ordOf = o ∧ o.length = 4 := by
  have := List.all_eq_true.mp (List.all_eq_true.mp perm_step o h) (0, 0) (by decide)
  simp only [Bool.and_eq_true, beq_iff_eq] at this
  exact ⟨this.1.2, this.2⟩
noncomputable def bounds : List Int := [1, 2, 3, 5, 6]
theorem row_perm : ((List.range 16).all fun n => perms.any fun o => bounds.any fun b => rowL n == thr b o) = true := by decide +kernel
theorem perm_row : (perms.all fun o => bounds.all fun b => binB (thr b o)) = true := by decide +kernel
theorem sorted_thr : (bounds.all fun b => simpleB (thr b [1, 2, 3, 5])) = true := by decide +kernel
theorem thr_sorted : (perms.all fun o => !(bounds.all fun b => simpleB (thr b o)) || o == [1, 2, 3, 5]) = true := by decide +kernel
/- the principle of noughts and ones -/
theorem noughts {prs : List (Int × Int)} (hp : Low4 prs) : (∀ o ∈ perms, runOf prs o = [1, 2, 3, 5]) ↔ ∀ n, n < 16 → simpleB (slideOf prs (rowL n)) = true := by
  constructor
  · intro h n hn
    obtain ⟨o, ho, hb⟩ := List.any_eq_true.mp (range_get row_perm hn)
    obtain ⟨b, hb, e⟩ := List.any_eq_true.mp hb
    rw [beq_iff_eq] at e
    rw [e, slide_run b prs o hp (perm_ord ho).2, h o ho]
    exact List.all_eq_true.mp sorted_thr b hb
  · intro h o ho
    have hq := perm_run prs o hp ho
    have := List.all_eq_true.mp thr_sorted _ hq
    rw [Bool.or_eq_true, beq_iff_eq] at this
    rcases this with hc | hc
    · exfalso
      rw [Bool.not_eq_true'] at hc
      have : (bounds.all fun b => simpleB (thr b (runOf prs o))) = true := List.all_eq_true.mpr fun b hb => by
        rw [← slide_run b prs o hp (perm_ord ho).2]
        obtain ⟨n, hn, e⟩ := bin_get (List.all_eq_true.mp (List.all_eq_true.mp perm_row o ho) b hb)
        rw [e]; exact h n hn
      rw [this] at hc; cases hc
    · exact hc
end Mine.Internal

end PartD9
section PartD10
open PySem PySem.W PyProof.Rows
set_option Elab.async false
set_option maxRecDepth 100000
set_option linter.unusedVariables false
namespace Mine.Internal
noncomputable def ones (e : List Nat) (k : Nat) : Nat := (e.take k).count 32
noncomputable def domB (a b : List Nat) : Bool := (List.range 5).all fun k => decide (ones a k ≤ ones b k)
noncomputable def revRow (t : Nat) : List Nat := List.replicate (4 - t) 32 ++ List.replicate t 9
noncomputable def nearB : List (Int × Int) := [(0, 1), (1, 2), (2, 3)]
theorem dom_step : ((List.range 16).all fun a => (List.range 16).all fun b => !(domB (rowL a) (rowL b) && (rowL a).count 9 == (rowL b).count 9) || nearB.all fun p => domB (slideStep (rowL a) p) (slideStep (rowL b) p)) = true := by decide +kernel
theorem dom_start : ((List.range 16).all fun a => binB (revRow ((rowL a).count 9)) && domB (rowL a) (revRow ((rowL a).count 9)) && (revRow ((rowL a).count 9)).count 9 == (rowL a).count 9) = true := by decide +kernel
noncomputable def Near (prs : List (Int × Int)) : Prop := ∀ p ∈ prs, p ∈ nearB
theorem near_low4 {prs : List (Int × Int)} (h : Near prs) : Low4 prs := fun p hp => by
  have := h p hp
  simp only [nearB, List.mem_cons, List.mem_nil_iff, or_false] at this
  rcases this with rfl | rfl | rfl <;> decide
theorem dom_slide : ∀ (prs : List (Int × Int)) (a b : List Nat), Near prs → binB a = true → binB b = true → domB a b = true → a.count 9 = b.count 9 → domB (slideOf prs a) (slideOf prs b) = true
  | [], a, b, _, _, _, h, _ => h
  | p :: prs, a, b, hp, ha, hb, h, hc => by
    have low := near_low4 hp
    obtain ⟨n, hn, rfl⟩ := bin_get ha
    obtain ⟨m, hm, rfl⟩ := bin_get hb
    have := range_get (range_get dom_step hn) hm
    rw [h, hc] at this
    simp only [beq_self_eq_true, Bool.and_self, Bool.not_true, Bool.false_or] at this
    have hd := List.all_eq_true.mp this p (hp p (.head _))
    have s1 := bin_slide [p] (rowL n) (fun q hq => low q (by simp at hq; subst hq; exact .head _)) ha
    have s2 := bin_slide [p] (rowL m) (fun q hq => low q (by simp at hq; subst hq; exact .head _)) hb
    exact dom_slide prs (slideStep (rowL n) p) (slideStep (rowL m) p) (fun q hq => hp q (.tail _ hq)) s1.1 s2.1 hd ((s1.2.trans hc).trans s2.2.symm)
theorem dom_row {prs : List (Int × Int)} (hp : Near prs) {n : Nat} (hn : n < 16) : domB (slideOf prs (rowL n)) (slideOf prs (revRow ((rowL n).count 9))) = true := by
  have := range_get dom_start hn
  simp only [Bool.and_eq_true, beq_iff_eq] at this
  exact dom_slide prs _ _ hp (bin_row hn) this.1.1 this.1.2 this.2.symm
noncomputable def boundOf (t : Nat) : Int := ([1, 2, 3, 5] : List Int).getD t 6
theorem rev_thr : ((List.range 5).all fun t => revRow t == thr (boundOf t) [5, 3, 2, 1] && bounds.contains (boundOf t)) = true := by decide +kernel
theorem rev_perm : ([5, 3, 2, 1] : List Int) ∈ perms := by decide +kernel
theorem row_count : ((List.range 16).all fun n => decide ((rowL n).count 9 < 5)) = true := by decide +kernel
theorem rev_run {prs : List (Int × Int)} (hp : Low4 prs) {t : Nat} (ht : t < 5) : slideOf prs (revRow t) = thr (boundOf t) (runOf prs [5, 3, 2, 1]) := by
  have := range_get rev_thr ht
  rw [Bool.and_eq_true, beq_iff_eq] at this
  rw [this.1, slide_run _ prs _ hp rfl]
theorem dom_sorted : ((List.range 16).all fun n => !(domB (rowL n) (thr (boundOf ((rowL n).count 9)) [1, 2, 3, 5])) || simpleB (rowL n)) = true := by decide +kernel
/- of neighbours the one row turned about tells all -/
theorem turned {prs : List (Int × Int)} (hp : Near prs) : (∀ o ∈ perms, runOf prs o = [1, 2, 3, 5]) ↔ runOf prs [5, 3, 2, 1] = [1, 2, 3, 5] := by
  have low := near_low4 hp
  constructor
  · exact fun h => h _ rev_perm
  · intro h
    refine (noughts low).mpr fun n hn => ?_
    have hd := dom_row hp hn
    have ht : (rowL n).count 9 < 5 := of_decide_eq_true (range_get row_count hn)
    rw [rev_run low ht, h] at hd
    obtain ⟨hb, hc⟩ := bin_slide prs (rowL n) low (bin_row hn)
    obtain ⟨m, hm, e⟩ := bin_get hb
    have := range_get dom_sorted hm
    rw [e] at hd hc
    rw [hc, hd] at this
    rw [e]; simpa using this
theorem great_row : (perms.all fun q => (List.range 5).all fun t => (List.range 5).all fun k => ones (thr (boundOf t) q) k == ((q.take k).filter fun r => (([1, 2, 3, 5] : List Int).drop t).contains r).length) = true := by decide +kernel
theorem great_le {prs : List (Int × Int)} (hp : Near prs) {n k : Nat} (hn : n < 16) (hk : k < 5) :
    ones (slideOf prs (rowL n)) k ≤ (((runOf prs [5, 3, 2, 1]).take k).filter fun r => (([1, 2, 3, 5] : List Int).drop ((slideOf prs (rowL n)).count 9)).contains r).length := by
  have low := near_low4 hp
  have hd := dom_row hp hn
  have ht : (rowL n).count 9 < 5 := of_decide_eq_true (range_get row_count hn)
  obtain ⟨hb, hc⟩ := bin_slide prs (rowL n) low (bin_row hn)
  rw [hc]
  have h1 := range_get (range_get (List.all_eq_true.mp great_row _ (perm_run prs _ low rev_perm)) ht) hk
  rw [beq_iff_eq] at h1
  rw [← h1, ← rev_run low ht]
  exact of_decide_eq_true (range_get hd hk)
end Mine.Internal

end PartD10
section PartD11
open PySem PySem.W PyProof.Rows
set_option Elab.async false
set_option maxRecDepth 100000
set_option linter.unusedVariables false
namespace Mine.Internal
noncomputable def blk (k : Nat) : Str := S (List.replicate k 32)
noncomputable def segs : List Nat → List Nat
  | [] => [0]
  | c :: r => if c = 9 then 0 :: segs r else (match segs r with | [] => [1] | k :: ks => (k + 1) :: ks)
noncomputable def ins (x : Nat) : List Nat → List Nat
  | [] => [x]
  | y :: r => if x ≤ y then x :: y :: r else y :: ins x r
noncomputable def isort : List Nat → List Nat
  | [] => []
  | x :: r => ins x (isort r)
noncomputable def runsN (e : List Nat) : List Nat := isort (segs e).dropLast ++ [(segs e).getLastD 0]
theorem seg_split : ((List.range 16).all fun n => Txt.split (S (rowL n)) (S [9]) == (segs (rowL n)).map blk) = true := by decide +kernel
theorem seg_small : ((List.range 16).all fun n => (segs (rowL n)).all (fun k => decide (k < 5)) && decide ((segs (rowL n)).length ≤ 5) && decide (1 ≤ (segs (rowL n)).length) && (isort (segs (rowL n)).dropLast).isPerm (segs (rowL n)).dropLast && decide ((isort (segs (rowL n)).dropLast).Pairwise (· ≤ ·))) = true := by decide +kernel
theorem lt_blk : ((List.range 5).all fun a => (List.range 5).all fun b => PySem.Spec.ltCps (blk a).cps.toList (blk b).cps.toList == decide (a < b)) = true := by decide +kernel
theorem rising_le : ∀ (l : List Nat) (p : Nat), p < 5 → (∀ k ∈ l, k < 5) → risingS (blk p) (l.map blk) = true → (p :: l).Pairwise (· ≤ ·)
  | [], p, _, _, _ => by simp
  | x :: r, p, hp, hl, h => by
    have hx := hl x (.head _)
    have h' : (!PySem.Spec.ltCps (blk x).cps.toList (blk p).cps.toList && risingS (blk x) (r.map blk)) = true := h
    rw [Bool.and_eq_true, Bool.not_eq_true'] at h'
    have h1 := range_get (range_get lt_blk hx) hp
    rw [beq_iff_eq, h'.1] at h1
    have h1' : ¬ x < p := of_decide_eq_false h1.symm
    have ih := rising_le r x hx (fun k hk => hl k (.tail _ hk)) h'.2
    refine List.pairwise_cons.mpr ⟨fun k hk => ?_, ih⟩
    rcases List.mem_cons.mp hk with rfl | hk
    · omega
    · have := (List.pairwise_cons.mp ih).1 k hk; omega
theorem sorted_le {l : List Nat} (hl : ∀ k ∈ l, k < 5) (h : sortedS (l.map blk) = true) : l.Pairwise (· ≤ ·) := by
  cases l with
  | nil => simp
  | cons x r => exact rising_le r x (hl x (.head _)) (fun k hk => hl k (.tail _ hk)) h
theorem S_blk_inj {a b : Nat} (h : blk a = blk b) : a = b := by
  have := congrArg Str.length h
  have e : ∀ k, (blk k).length = k := fun k => by show (List.replicate k 32).length = k; simp
  rw [e, e] at this; exact this
theorem perm_map {ss : List Str} {l : List Nat} (h : ss.Perm (l.map blk)) : ∃ l' : List Nat, ss = l'.map blk ∧ l'.Perm l := by
  have hm : ∀ x ∈ ss, ∃ k, x = blk k := fun x hx => by
    obtain ⟨k, _, e⟩ := List.mem_map.mp (h.mem_iff.mp hx)
    exact ⟨k, e.symm⟩
  have : ss = (ss.map Str.length).map blk := by
    rw [List.map_map]
    refine (List.map_id ss).symm.trans (List.map_congr_left fun x hx => ?_)
    obtain ⟨k, rfl⟩ := hm x hx
    show blk k = blk (List.replicate k 32).length
    rw [List.length_replicate]
  refine ⟨ss.map Str.length, this, ?_⟩
  have h2 := h.map Str.length
  rw [List.map_map] at h2
  have : l.map (Str.length ∘ blk) = l := by
    refine (List.map_congr_left (g := id) fun k _ => ?_).trans (List.map_id l)
    show (List.replicate k 32).length = k; simp
  rwa [this] at h2
theorem sort_unique {n : Nat} (hn : n < 16) : ∀ ss' : List Str, ss'.Perm ((segs (rowL n)).dropLast.map blk) → sortedS ss' = true → ss' = (isort (segs (rowL n)).dropLast).map blk := by
  intro ss' hp hs
  have hc := range_get seg_small hn
  simp only [Bool.and_eq_true, List.all_eq_true, decide_eq_true_eq] at hc
  obtain ⟨⟨⟨⟨c1, c2⟩, c3⟩, c4⟩, c5⟩ := hc
  obtain ⟨l', rfl, hp'⟩ := perm_map hp
  have hl' : ∀ k ∈ l', k < 5 := fun k hk => c1 k (List.dropLast_subset _ (hp'.mem_iff.mp hk))
  have h1 := sorted_le hl' hs
  have h2 : l'.Perm (isort (segs (rowL n)).dropLast) := hp'.trans (List.isPerm_iff.mp c4).symm
  rw [List.Perm.eq_of_pairwise (le := (· ≤ ·)) (fun a b _ _ h h' => Nat.le_antisymm h h') h1 c5 h2]
noncomputable def whOf (e : List Nat) : WS := wGo w0 e
theorem w_facts : ((List.range 16).all fun n => (whOf (rowL n)).n == 4 && (whOf (rowL n)).nt == (rowL n).count 9 &&
    (normEq (whOf (rowL n)) (whOf (List.replicate ((rowL n).count 9) 9 ++ List.replicate (4 - (rowL n).count 9) 32)) == simpleB (rowL n)) && (decide (((whOf (rowL n)).cnt.length : Int) ≤ 1) == simpleB (rowL n)) && !normEq (whOf (rowL n)) (whOf (rowL n ++ [32]))) = true := by decide +kernel
theorem w_equal : ((List.range 16).all fun n => (List.range 16).all fun m => normEq (whOf (rowL n)) (whOf (rowL m)) == decide (runsN (rowL n) = runsN (rowL m))) = true := by decide +kernel
theorem wGo_stop {c : Nat} (h1 : c ≠ 32) (h2 : c ≠ 9) (r : List Nat) : ∀ (e : List Nat) (s : WS), (∀ x ∈ e, x = 9 ∨ x = 32) → wGo s (e ++ c :: r) = wGo s e
  | [], s, _ => by
    show wGo s (c :: r) = s
    unfold wGo; rw [if_neg h1, if_neg h2]
  | x :: e, s, h => by
    have hx := h x (.head _)
    have he : ∀ y ∈ e, y = 9 ∨ y = 32 := fun y hy => h y (.tail _ hy)
    show wGo s (x :: (e ++ c :: r)) = wGo s (x :: e)
    unfold wGo
    rw [wGo_stop h1 h2 r e _ he, wGo_stop h1 h2 r e _ he]
theorem row_chars : ((List.range 16).all fun n => (rowL n).all fun c => decide (c = 9) || decide (c = 32)) = true := by decide +kernel
theorem row_char {n : Nat} (hn : n < 16) : ∀ x ∈ rowL n, x = 9 ∨ x = 32 := fun x hx => by
  have := List.all_eq_true.mp (range_get row_chars hn) x hx
  simpa using this
theorem count_tab : ((List.range 16).all fun n => Txt.count (S (rowL n)) (S [9]) == (((rowL n).count 9 : Nat) : Int)) = true := by decide +kernel
theorem count_ones : ((List.range 16).all fun n => (List.range 5).all fun k => Txt.count (S ((rowL n).take k)) (S [32]) == ((ones (rowL n) k : Nat) : Int)) = true := by decide +kernel
theorem row_len (n : Nat) : (rowL n).length = 4 := by simp [rowL]
end Mine.Internal

end PartD11
section PartE1
open PySem PySem.W PyProof.Rows
set_option Elab.async false
set_option maxRecDepth 100000
set_option linter.unusedVariables false
namespace Mine.Internal
theorem upd_upd (x : Str) (a b : Slot) : ∀ σ : Sig, upd (upd σ x a) x b = upd σ x b
  | [] => by simp [upd]
  | (y, t) :: r => by
    have e : ∀ (t : Slot) (r : Sig) (sl : Slot), upd ((y, t) :: r) x sl = if (y == x) = true then (y, sl) :: r else (y, t) :: upd r x sl := fun _ _ _ => rfl
    rw [e t r a, e t r b]
    by_cases h : (y == x) = true
    · rw [if_pos h, if_pos h, e, if_pos h]
    · rw [if_neg h, if_neg h, e, if_neg h, upd_upd x a b r]
section
variable {prog : Program} {w : World} {h₀ : Heap} {d : Nat} {sc : Scope} {σ : Sig} {mg mb : Str → Option Value} {F : Frag}
theorem ex_frz {x : Str} {p : PV} {st : Stmt} {ss : List Stmt} {o : Out} (h : ExSt prog w h₀ d sc σ st (.next (upd σ x (.own p)))) (hr : ExOK prog w h₀ d sc (upd σ x (.val p)) ss o) : ExOK prog w h₀ d sc σ (st :: ss) o := by
  refine ex_cons h (ex_freeze (x := x) (p := p) (by rw [upd_lookup, if_pos rfl]) ?_)
  rw [upd_upd]; exact hr
end
structure Kit (h₀ : Heap) (mg mb : Str → Option Value) (F : Frag) (CW CB : Addr) : Prop where
  G : Glb h₀ mg mb
  X : F.In h₀
  sys : SysIn h₀
  range_ : Callee mg mb ("range" : Str) (.type "range")
  len_ : Callee mg mb ("len" : Str) (.builtin "len")
  divmod_ : Callee mg mb ("divmod" : Str) (.builtin "divmod")
  list_ : Callee mg mb ("list" : Str) (.type "list")
  zip_ : Callee mg mb ("zip" : Str) (.type "zip")
  sorted_ : Callee mg mb ("sorted" : Str) (.builtin "sorted")
  B : KitB h₀ mg mb F CB
  Wk : KitW h₀ mg mb F CW
  E : KitE h₀ mg mb
  Ck : KitC h₀ mg mb
  f5 : Fn h₀ mg mb 5 "_strip_quoted_realnames" ["addr"]
  f10 : Fn h₀ mg mb 10 "parse_keqv_list" ["l"]
  f11 : Fn h₀ mg mb 11 "parse_http_list" ["s"]
  f13 : Fn h₀ mg mb 13 "_law_cells" ["script"]
  f14 : Fn h₀ mg mb 14 "_law_figures" ["number"]
  f15 : Fn h₀ mg mb 15 "_law_pairs" ["cells"]
  f16 : Fn h₀ mg mb 16 "_law_dress" ["figure"]
  f17 : Fn h₀ mg mb 17 "_law_typed" ["cells", "pairs"]
  f18 : Fn h₀ mg mb 18 "_law_handler" ["order"]
  f19 : Fn h₀ mg mb 19 "_law_run" ["pairs", "row"]
  f20 : Fn h₀ mg mb 20 "_law_slide" ["pairs", "text"]
  f21 : Fn h₀ mg mb 21 "_law_orders" ["things"]
  f22 : Fn h₀ mg mb 22 "_law_ranks" ["pairs", "row"]
  sub_ : subIn F (.ref CW) (.ref CB) = some false
  wmod : mroIn F CW (.type "module") = some false
  worder : findIn F (.ref CW) "handler_order" = some none
  wshort : shortName F CW = true
theorem ok5 : fnOk 5 ["addr"] = true := by decide +kernel
theorem ok10 : fnOk 10 ["l"] = true := by decide +kernel
theorem ok11 : fnOk 11 ["s"] = true := by decide +kernel
theorem ok13 : fnOk 13 ["script"] = true := by decide +kernel
theorem ok15 : fnOk 15 ["cells"] = true := by decide +kernel
theorem ok17 : fnOk 17 ["cells", "pairs"] = true := by decide +kernel
theorem ok18 : fnOk 18 ["order"] = true := by decide +kernel
theorem ok19 : fnOk 19 ["pairs", "row"] = true := by decide +kernel
theorem ok20 : fnOk 20 ["pairs", "text"] = true := by decide +kernel
theorem ok21 : fnOk 21 ["things"] = true := by decide +kernel
theorem ok22 : fnOk 22 ["pairs", "row"] = true := by decide +kernel
noncomputable def LS : Scope := scopeOf (stAt 23)
noncomputable def LB : List Stmt := bodyOf (stAt 23)
noncomputable def σ1 (cells : List Int) : Sig := [("cells", .val (il cells)), ("pairs", .val (pl ((itsOf cells).map prI))), ("dresses", .val (.lst ((itsOf cells).map drI))), ("gaps", .val (.lst ((itsOf cells).map gaI))), ("line", .val (.str (S (lineL (itsOf cells)))))]
section
variable {w : World} {h₀ : Heap} {d : Nat} {sc : Scope} {σ : Sig} {mg mb : Str → Option Value} {F : Frag} {CW CB : Addr}
theorem cells_cut {e : Expr} {pos spos : Pos} {n : Expr} (cells : List Int) (hc : cells.length = 10) (he : EvOK pw w h₀ d sc σ e (il cells)) (hn : EvOK pw w h₀ d sc σ n (.int 6)) : EvOK pw w h₀ d sc σ (.Subscript e (.Slice none (some n) none spos) pos) (.lst ((cells.take 6).map .int)) := by
  refine ev_slice (l := none) (u := some 6) (k := none) he part_none (part_some hn) part_none ?_ (show (cells.map PV.int).length ≤ sizeLine by rw [List.length_map, hc]; decide)
  have := slice_take (cells.map .int) 6 (by rw [List.length_map, hc]; decide)
  rw [← List.map_take] at this
  exact this
theorem law1 (K : Kit h₀ mg mb F CW CB) (script : List Int) (hs : script.length ≤ 1000) {o : Out} (h : ExOK pw w h₀ (d + 9) LS (σ1 (cellsOf script)) (LB.drop 5) o) : ExOK pw w h₀ (d + 9) LS [("script", .val (il script))] LB o := by
  have hc : (cellsOf script).length = 10 := cellsAt_length _ _
  refine ex_cons (st_assign (ev_fn K.f13 K.G ok13 (evs_cons (ev_name rfl) evs_nil) (@body_cells _ _ _ _ _ K.G K.range_ K.len_ script hs))) ?_
  generalize cellsOf script = cells at hc h ⊢
  refine ex_cons (st_assign (ev_is (ev_fn K.f15 K.G ok15 (evs_cons (ev_name (p := il cells) rfl) evs_nil) (@body_pairs _ _ _ _ _ K.G K.range_ K.divmod_ K.f14 cells hc)) (by rw [pairs_its]))) ?_
  refine ex_frz (x := ("dresses" : Str)) (p := .lst ((itsOf cells).map drI)) (st_assign_listcomp (it_list (cells_cut cells hc (ev_name rfl) ev_int)) ?_ (.inl ⟨_, _, rfl⟩)) ?_
  · rw [← dresses_its cells hc]
    refine comp_maps PV.int (fun n => sp (dress (fig n 3))) (cells.take 6) [] (fun n _ => ⟨_, asg_name, trivial, ?_⟩) (fitL (by simp; omega))
    exact ev_dress K.G K.f16 (ev_item (p := il (figs n 7)) (ev_figures K.G K.range_ K.divmod_ K.f14 (ev_name rfl)) ev_int (item_get (by decide) (figs_get (by decide))) (by decide) (by decide)) rfl (fun _ => rfl)
  refine ex_frz (x := ("gaps" : Str)) (p := .lst ((itsOf cells).map gaI)) (st_assign_listcomp (it_list (cells_cut cells hc (ev_name rfl) ev_int)) ?_ (.inl ⟨_, _, rfl⟩)) ?_
  · rw [← gaps_its cells hc]
    refine comp_maps PV.int (fun n => PV.str (gapOf (fig n 6))) (cells.take 6) [] (fun n _ => ⟨_, asg_name, trivial, ?_⟩) (fitL (by simp; omega))
    have hm : MulOk " " ((fig n 6).fdiv 8) := mulOk_one (by decide +kernel) (by rcases fdiv8 n 6 with e | e <;> rw [e] <;> decide) (by rcases fdiv8 n 6 with e | e <;> rw [e] <;> decide)
    exact ev_bin ev_str (ev_bin (ev_item (p := il (figs n 7)) (r := .int (fig n 6)) (ev_figures K.G K.range_ K.divmod_ K.f14 (ev_name rfl)) ev_int (item_get (by decide) (figs_get (i := 6) (by decide))) (by decide) (by decide)) ev_int (bin_fdiv (by decide) (no_pylong _ _ (by decide)))) (bin_muls hm)
  refine ex_cons (st_assign (ev_is (ev_capwords (x := S (typedL (tysOf cells))) K.G K.X K.Ck (ev_is (ev_fn K.f17 K.G ok17 (evs_cons (ev_name (p := il cells) rfl) (evs_cons (ev_name (p := pl ((itsOf cells).map prI)) rfl) evs_nil)) (@body_typed _ _ _ _ _ K.G K.range_ K.divmod_ K.f14 K.f16 cells hc ((itsOf cells).map prI) (by rw [List.length_map, its_len]) (by rw [← pairs_its]; exact low4_pairs cells))) (by rw [← pairs_its, typed_all])) (cap_ok (tys_ok cells) (tys_len cells)) rfl (fun _ => rfl)) (by rw [capline_eq (tys_ok cells), tys_its]))) ?_
  exact ex_pre h ⟨rfl, rfl, rfl, rfl, rfl, trivial⟩
end
end Mine.Internal

end PartE1
section PartE2
open PySem PySem.W PyProof.Rows
set_option Elab.async false
set_option maxRecDepth 100000
set_option linter.unusedVariables false
namespace Mine.Internal
noncomputable def triI (t : It) : Str × Str × Str := (S (itemH t), S [65 + t.k], S (meant t))
noncomputable def toldI (t : It) : PV := .lst [.tup [.str (S [65 + t.k]), .str (S (meant t))]]
noncomputable def toldD (t : It) : PyData := .list [.tuple [.str (S [65 + t.k]), .str (S (meant t))]]
noncomputable def dictOfI (its : List It) : List (Str × PV) := (its.map triI).foldl dstep []
theorem isDs_map {α : Type} (f : α → PV) (g : α → PyData) (h : ∀ a, IsD (f a) (g a)) : ∀ l : List α, IsDs (l.map f) (l.map g)
  | [] => .nil
  | a :: l => .cons (h a) (isDs_map f g h l)
theorem told_isD (t : It) : IsD (toldI t) (toldD t) := .lst (.cons (.tup (.cons (.str _) (.cons (.str _) .nil))) .nil)
theorem str_ok {l : List Nat} (h : ∀ c ∈ l, c < 1000) : PyData.canLay0 (.str (S l)) = true := by
  show PyData.strOk (S l) = true
  unfold PyData.strOk
  rw [show (S l).cps = l.toArray from rfl]
  simp only [List.all_toArray, List.all_eq_true, decide_eq_true_eq]
  exact fun c hc => Nat.lt_trans (h c hc) (by decide)
theorem dM_small (n : Nat) : ∀ c ∈ dM n, c < 1000 := by
  unfold dM
  split <;> (intro c hc; simp at hc) <;> omega
theorem meant_small {t : It} (ok : t.ok) : ∀ c ∈ meant t, c < 1000 := fun c hc => by
  rcases List.mem_cons.mp hc with rfl | hc
  · have := ok.2.1; omega
  · exact dM_small _ c hc
theorem key_small {t : It} (ok : t.ok) : ∀ c ∈ [65 + t.k], c < 1000 := fun c hc => by
  simp at hc; have := ok.1; omega
theorem lay_one {k : Nat} {a : PyData} (h : Lay k a) : ∀ p ∈ [a], Lay k p := fun p hp => by simp at hp; subst hp; exact h
theorem told_lay {t : It} (ok : t.ok) : Lay 2 (toldD t) := lay_list (lay_one (lay_tuple (lay_two (lay_str (str_ok (key_small ok))) (lay_str (str_ok (meant_small ok))))))
theorem told_all_lay {its : List It} (h : ∀ t ∈ its, t.ok) : Lay 3 (.list (its.map toldD)) := lay_list fun p hp => by
  obtain ⟨t, ht, rfl⟩ := List.mem_map.mp hp; exact told_lay (h t ht)
/- the dictionary as data -/
noncomputable def FlatD (es : List (Str × PV)) : Prop := ∀ kv ∈ es, ∃ m : Str, kv.2 = .str m ∧ PyData.canLay0 (.str kv.1) = true ∧ PyData.canLay0 (.str m) = true
theorem dput_flat {es : List (Str × PV)} (h : FlatD es) {k m : Str} (hk : PyData.canLay0 (.str k) = true) (hm : PyData.canLay0 (.str m) = true) : FlatD (dput es k (.str m)) := by
  unfold dput
  split
  · intro kv hkv
    obtain ⟨q, hq, rfl⟩ := List.mem_map.mp hkv
    by_cases e : q.1 = k
    · rw [if_pos e]; exact ⟨m, rfl, (h q hq).elim fun _ x => x.2.1, hm⟩
    · rw [if_neg e]; exact h q hq
  · intro kv hkv
    rcases List.mem_append.mp hkv with hkv | hkv
    · exact h kv hkv
    · simp at hkv; subst hkv; exact ⟨m, rfl, hk, hm⟩
theorem dfold_flat : ∀ (its : List It) (es : List (Str × PV)), FlatD es → (∀ t ∈ its, t.ok) → FlatD ((its.map triI).foldl dstep es)
  | [], es, h, _ => h
  | t :: its, es, h, ok => dfold_flat its _ (dput_flat h (str_ok (key_small (ok t (.head _)))) (str_ok (meant_small (ok t (.head _))))) fun x hx => ok x (.tail _ hx)
theorem flat_data : ∀ (es : List (Str × PV)), FlatD es → ∃ ds, IsDs (pairsOfD es) ds ∧ ∀ p ∈ ds, Lay 1 p
  | [], _ => ⟨[], .nil, fun p hp => nomatch hp⟩
  | kv :: es, h => by
    obtain ⟨ds, h1, h2⟩ := flat_data es fun q hq => h q (.tail _ hq)
    obtain ⟨m, e1, e2, e3⟩ := h kv (.head _)
    refine ⟨.tuple [.str kv.1, .str m] :: ds, ?_, fun p hp => ?_⟩
    · show IsDs (.tup [.str kv.1, kv.2] :: pairsOfD es) _
      rw [e1]
      exact .cons (.tup (.cons (.str _) (.cons (.str _) .nil))) h1
    · rcases List.mem_cons.mp hp with rfl | hp
      · exact lay_tuple (lay_two (lay_str e2) (lay_str e3))
      · exact h2 p hp
theorem ab_item {k : Nat} (h : k < 4) : item? (.str "ABCD") (k : Int) = some (.str (S [65 + k])) ∧ item? (.str "abcd") (k : Int) = some (.str (S [97 + k])) := by
  have e1 : (Txt.charAt "ABCD" (k : Int)) = some (65 + k) := by rcases four h with rfl | rfl | rfl | rfl <;> decide +kernel
  have e2 : (Txt.charAt "abcd" (k : Int)) = some (97 + k) := by rcases four h with rfl | rfl | rfl | rfl <;> decide +kernel
  constructor
  · show (Txt.charAt "ABCD" (k : Int)).map (fun c => PV.str ⟨#[c]⟩) = _; rw [e1]; rfl
  · show (Txt.charAt "abcd" (k : Int)).map (fun c => PV.str ⟨#[c]⟩) = _; rw [e2]; rfl
noncomputable def σ2 (cells : List Int) : Sig := [("cells", .val (il cells)), ("line", .val (.str (S (lineL (itsOf cells))))), ("told", .val (.lst ((itsOf cells).map toldI))), ("keys", .val (.str (S (keysL (itsOf cells))))), ("values", .val (.str (S (valsL (itsOf cells)))))]
section
variable {w : World} {h₀ : Heap} {d : Nat} {sc : Scope} {σ : Sig} {mg mb : Str → Option Value} {F : Frag} {CW CB : Addr} {prog : Program} {W : Str → Bool}
theorem cmp_ne_self {p : PV} {a : PyData} (hp : IsD p a) {k : Nat} (ha : Lay k a) (hk : k ≤ 64) : CmpOK prog w h₀ d .NotEq p p false := by
  have := cmp_neD (prog := prog) (w := w) (h₀ := h₀) (d := d) hp hp (ha.shaped hk) (ha.shaped hk)
  rw [SeqAt.eqv_refl a ha.1] at this
  exact this
theorem cmp_nes_self {x : Str} : CmpOK prog w h₀ d .NotEq (.str x) (.str x) false := by
  have := cmp_nes (prog := prog) (w := w) (h₀ := h₀) (d := d) (x := x) (y := x)
  rw [show (x != x) = false by simp] at this
  exact this
theorem comp_dict {kx vx t : Expr} {σ₀ : Sig} (g : It → PV) : ∀ (l : List It) (es : List (Str × PV)), (∀ a ∈ l, ∃ σ₁, AsgOK prog w h₀ d sc W σ₀ t (g a) σ₁ ∧ Sub σ₀ σ₁ ∧ EvOK prog w h₀ d sc σ₁ kx (.str (S [65 + a.k])) ∧ EvOK prog w h₀ d sc σ₁ vx (.str (S (meant a)))) → (dkeys es).Nodup → es.length + l.length ≤ sizeLine →
    CompTurns prog w h₀ (emD kx vx) t [] d sc W σ₀ (l.map g) (.dct es) (.dct ((l.map triI).foldl dstep es))
  | [], es, _, _, _ => .nil
  | a :: l, es, h, hn, hz => by
    obtain ⟨σ₁, h1, h2, h3, h4⟩ := h a (.head _)
    rw [List.length_cons] at hz
    have hl : (dstep es (triI a)).length ≤ es.length + 1 := dput_length ..
    exact .keep h1 h2 ifs_nil (emit_dict h3 h4 hn (by omega)) (comp_dict g l (dstep es (triI a)) (fun b hb => h b (.tail _ hb)) (dput_nodup hn _ _) (by omega))
theorem zips_map {α : Type} (f g : α → PV) : ∀ l : List α, zips (l.map f) (l.map g) = l.map fun a => .tup [f a, g a]
  | [] => rfl
  | a :: l => by
    have ih := zips_map f g l
    show .tup [f a, g a] :: zips (l.map f) (l.map g) = _
    rw [ih]; rfl
theorem law2 (K : Kit h₀ mg mb F CW CB) (cells : List Int) {o : Out} (h : ExOK pw w h₀ (d + 9) LS (σ2 cells) (LB.drop 13) o) : ExOK pw w h₀ (d + 9) LS (σ1 cells) (LB.drop 5) o := by
  unfold σ1; unfold σ2 at h
  have ok := its_ok cells
  have h6 := its_len cells
  have hne := its_ne cells
  generalize itsOf cells = its at ok h6 hne h ⊢
  have hll := line_len ok
  rw [h6] at hll
  have hline : (lineL its).length ≤ 2000 := by omega
  have tlen : ∀ {β : Type} (f : It → β), (its.map f).length ≤ sizeLine := fun f => by rw [List.length_map, h6]; decide
  have kv : ∀ t ∈ its.map triI, kvB t = true := fun t ht => by
    obtain ⟨a, ha, rfl⟩ := List.mem_map.mp ht; exact kv_item (ok a ha)
  obtain ⟨dn, dl⟩ := dfold_ok (its.map triI) [] List.nodup_nil
  have hdl : ((its.map triI).foldl dstep []).length ≤ sizeLine := Nat.le_trans dl (by rw [List.length_map, h6]; decide)
  have hflat := dfold_flat its [] (fun kv hkv => nomatch hkv) ok
  refine ex_frz (x := ("told" : Str)) (p := .lst (its.map toldI)) (st_assign_listcomp (it_list (its := its.map fun t => PV.str (S (itemH t))) (ev_is (ev_fn K.f11 K.G ok11 (evs_cons (ev_name (p := .str (S (lineL its))) rfl) evs_nil) (@body_http _ _ _ (lineL its) hline)) (by rw [http_line ok, List.map_map]; rfl))) ?_ (.inl ⟨_, _, rfl⟩)) ?_
  · refine comp_maps (fun t => PV.str (S (itemH t))) toldI its [] (fun t ht => ⟨_, asg_name, trivial, ?_⟩) (by rw [List.length_nil, h6]; decide)
    have e : pairsOfD ([triI t].foldl dstep []) = [.tup [.str (S [65 + t.k]), .str (S (meant t))]] := rfl
    unfold toldI
    rw [← e]
    exact ev_list_items K.G K.list_ (ev_fn K.f10 K.G ok10 (evs_cons (ev_list (evs_cons (ev_name (p := .str (S (itemH t))) rfl) evs_nil) (show 1 ≤ sizeLine by decide)) evs_nil) (@body_keqv _ _ _ [triI t] (fun q hq => by simp at hq; subst hq; exact kv_item (ok t ht)) (show 1 ≤ 1000 by decide) K.sys)) (dfold_ok [triI t] [] List.nodup_nil).1 (Nat.le_trans (dfold_ok [triI t] [] List.nodup_nil).2 (show 0 + 1 ≤ sizeLine by decide))
  refine ex_cons (@st_if _ _ _ _ _ _ _ _ _ _ (false) _ (tst_cmp (ev_name (p := .lst (its.map toldI)) rfl) (ev_new (new_listcomp (q := .lst (its.map toldI)) (it_zip K.G K.zip_ (ev_name (p := .lst ((its.map prI).map ip)) rfl) (ev_name (p := .lst (its.map drI)) rfl) rfl (fun _ => rfl) (fun _ => ⟨_, _, rfl⟩) (fun _ => rfl) (fun _ => rfl)) ?_ ⟨_, _, _, rfl⟩)) (cmp_ne_self (.lst (isDs_map toldI toldD told_isD its)) (told_all_lay ok) (by decide))) (fun h => nomatch h) (fun _ => ex_nil)) ?_
  · rw [List.map_map, zips_map]
    refine comp_maps (fun t => PV.tup [(ip ∘ prI) t, drI t]) toldI its [] (fun t ht => ⟨_, asg_tup (asgs_cons (asg_tup (asgs_cons asg_name (asgs_cons asg_name asgs_nil))) (asgs_cons asg_name asgs_nil)), trivial, ?_⟩) (by rw [List.length_nil, h6]; decide)
    obtain ⟨k1, k2, k3, k4⟩ := ok t ht
    have em : S (meant t) = S [97 + t.v] ++ S (dM t.dr) := by rw [S_app]; rfl
    unfold toldI
    rw [em]
    refine ev_list (evs_cons (ev_tuple (evs_cons (ev_item (i := (t.k : Int)) ev_str (ev_name rfl) (ab_item k1).1 (lo63 _) (hi63 k1 (by decide))) (evs_cons (ev_bin (ev_item (i := (t.v : Int)) ev_str (ev_name rfl) (ab_item k2).2 (lo63 _) (hi63 k2 (by decide))) (ev_item (p := drI t) (ev_name rfl) ev_int (item_get_t (by decide) rfl) (by decide) (by decide)) (bin_adds ?_)) evs_nil)) (show 2 ≤ sizeLine by decide)) evs_nil) (show 1 ≤ sizeLine by decide)
    have : (dM t.dr).length ≤ 1 := by unfold dM; split <;> decide
    exact fitL (show 1 + (dM t.dr).length ≤ 10000 by omega)
  obtain ⟨l, e1, e2, e3⟩ := http_cut hne ok
  refine ex_cons (st_assign (ev_is (ev_fn (r := .dct ((its.map triI).foldl dstep [])) K.f10 K.G ok10 (evs_cons (p := .lst ((its.map triI).map fun t => PV.str t.1)) (ev_is (ev_fn K.f11 K.G ok11 (evs_cons (ev_slice (l := none) (u := some (-1)) (k := none) (p := .str (S (lineL its))) (r := .str (S l)) (ev_name rfl) part_none (part_some (ev_neg ev_int)) part_none (by show some (PV.str (Txt.slice _ _ _)) = _; rw [e1]) (fitL (show (lineL its).length ≤ 10000 by omega))) evs_nil) (@body_http _ _ _ l (by omega))) (by rw [e3, List.map_map, List.map_map]; rfl)) evs_nil) (@body_keqv _ _ _ (its.map triI) kv (by rw [List.length_map, h6]; decide) K.sys)) rfl)) ?_
  obtain ⟨ds, f1, f2⟩ := flat_data _ hflat
  refine ex_cons (@st_if _ _ _ _ _ _ _ _ _ _ (false) _ (tst_cmp (ev_list_items K.G K.list_ (ev_name (p := .dct ((its.map triI).foldl dstep [])) rfl) dn hdl) (ev_list_items K.G K.list_ (ev_new (new_dictcomp K.sys (it_list (ev_name (p := .lst (its.map toldI)) rfl)) ?_ (.inl ⟨_, _, rfl⟩) rfl rfl rfl (fun _ _ => rfl))) dn hdl) (cmp_ne_self (.lst f1) (lay_list f2) (by decide))) (fun h => nomatch h) (fun _ => ex_nil)) ?_
  · refine comp_dict toldI its [] (fun t ht => ⟨_, asg_name, trivial, ?_, ?_⟩) List.nodup_nil (by rw [List.length_nil, h6]; decide)
    · exact ev_item (ev_item (p := toldI t) (ev_name rfl) ev_int (item_get (by decide) rfl) (by decide) (by decide)) ev_int (item_get_t (by decide) rfl) (by decide) (by decide)
    · exact ev_item (ev_item (p := toldI t) (ev_name rfl) ev_int (item_get (by decide) rfl) (by decide) (by decide)) ev_int (item_get_t (by decide) rfl) (by decide) (by decide)
  refine ex_cons (st_assign (ev_is (ev_fn K.f5 K.G ok5 (evs_cons (ev_name (p := .str (S (lineL its))) rfl) evs_nil) (@body_strip _ _ _ _ _ K.G K.E K.len_ (lineL its) hline (esc_keys ok) (occ_mark (mark_line hne)))) (by rw [strip_keys ok]))) ?_
  refine ex_cons (@st_if _ _ _ _ _ _ _ _ _ _ (false) _ (tst_cmp (ev_name (p := .str (S (keysL its))) rfl) (ev_is (ev_join (xs := its.map fun t => S (keyI t)) ev_str (ev_new (new_listcomp (it_zip K.G K.zip_ (ev_name (p := .lst ((its.map prI).map ip)) rfl) (ev_name (p := .lst (its.map gaI)) rfl) rfl (fun _ => rfl) (fun _ => ⟨_, _, rfl⟩) (fun _ => rfl) (fun _ => rfl)) ?_ ⟨_, _, _, rfl⟩)) ?_) (q := .str (S (keysL its))) ?_) cmp_nes_self) (fun h => nomatch h) (fun _ => ex_nil)) ?_
  · rw [List.map_map, zips_map, List.map_map]
    refine comp_maps (fun t => PV.tup [(ip ∘ prI) t, gaI t]) (fun t => PV.str (S (keyI t))) its [] (fun t ht => ⟨_, asg_tup (asgs_cons (asg_tup (asgs_cons asg_name (asgs_cons asg_name asgs_nil))) (asgs_cons asg_name asgs_nil)), trivial, ?_⟩) (by rw [List.length_nil, h6]; decide)
    obtain ⟨k1, k2, k3, k4⟩ := ok t ht
    have em : S (keyI t) = ((S [65 + t.k] ++ "=") ++ S (gapL t.g)) ++ "," := by rw [S_eq, S_comma, S_app, S_app, S_app]; rfl
    have g1 : (S (gapL t.g)).length ≤ 1 := by show (gapL t.g).length ≤ 1; unfold gapL; rw [List.length_replicate]; omega
    rw [em]
    exact (ev_adds (ev_adds (ev_adds ⟨ev_item (i := (t.k : Int)) ev_str (ev_name rfl) (ab_item k1).1 (lo63 _) (hi63 k1 (by decide)), Nat.le_refl 1⟩ ⟨ev_str, (by decide +kernel : ("=" : Str).length ≤ 1)⟩ (by decide)) ⟨ev_name rfl, g1⟩ (by decide)) ⟨ev_str, (by decide +kernel : ("," : Str).length ≤ 1)⟩ (by decide)).1
  · refine joinOk_of ?_
    have f2 := sum_le 10 ((its.map fun t => S (keyI t)).map (·.length)) fun n hn => by
      obtain ⟨y, hy, rfl⟩ := List.mem_map.mp hn
      obtain ⟨t, ht, rfl⟩ := List.mem_map.mp hy
      show (keyI t).length ≤ 10
      have := (ok t ht).2.2.2
      unfold keyI gapL; simp; omega
    rw [List.length_map, List.length_map] at f2
    rw [List.length_map, S_blank, S_len]
    have e3 : (16777216 : Nat) = sizeLine := by decide
    simp only [List.length_cons, List.length_nil]
    omega
  · rw [show (its.map fun t => S (keyI t)) = (its.map keyI).map S by rw [List.map_map]; rfl, txt_join_blank]; rfl
  have eq_ : S (quoted its) = (("\"" : Str) ++ S (lineL its)) ++ "\"" := by rw [S_mark, S_app, S_app]; rfl
  have hql : (quoted its).length ≤ 2000 := by unfold quoted; simp; omega
  have m1 : ("\"" : Str).length ≤ 1 := by decide +kernel
  have hll' : (S (lineL its)).length ≤ 66 := by show (lineL its).length ≤ 66; omega
  refine ex_cons (st_assign (ev_is (ev_fn K.f5 K.G ok5 (evs_cons (p := .str (S (quoted its))) (by rw [eq_]; exact (ev_adds (ev_adds ⟨ev_str, m1⟩ ⟨ev_name rfl, hll'⟩ (by decide)) ⟨ev_str, m1⟩ (by decide)).1) evs_nil) (@body_strip _ _ _ _ _ K.G K.E K.len_ (quoted its) hql (esc_vals ok) (occ_mark (List.mem_cons_self ..)))) (by rw [strip_vals ok]))) ?_
  refine ex_cons (@st_if _ _ _ _ _ _ _ _ _ _ (false) _ (tst_cmp (ev_name (p := .str (S (valsL its))) rfl) (ev_is (ev_join (xs := its.map fun t => S (valI t)) ev_str (ev_new (new_listcomp (it_zip K.G K.zip_ (ev_name (p := .lst ((its.map prI).map ip)) rfl) (ev_name (p := .lst (its.map drI)) rfl) rfl (fun _ => rfl) (fun _ => ⟨_, _, rfl⟩) (fun _ => rfl) (fun _ => rfl)) ?_ ⟨_, _, _, rfl⟩)) ?_) (q := .str (S (valsL its))) ?_) cmp_nes_self) (fun h => nomatch h) (fun _ => ex_nil)) ?_
  · rw [List.map_map, zips_map, List.map_map]
    refine comp_maps (fun t => PV.tup [(ip ∘ prI) t, drI t]) (fun t => PV.str (S (valI t))) its [] (fun t ht => ⟨_, asg_tup (asgs_cons (asg_tup (asgs_cons asg_name (asgs_cons asg_name asgs_nil))) (asgs_cons asg_name asgs_nil)), trivial, ?_⟩) (by rw [List.length_nil, h6]; decide)
    obtain ⟨k1, k2, k3, k4⟩ := ok t ht
    have em : S (valI t) = S [97 + t.v] ++ S (dT t.dr) := by rw [S_app]; rfl
    rw [em]
    exact (ev_adds ⟨ev_item (i := (t.v : Int)) ev_str (ev_name rfl) (ab_item k2).2 (lo63 _) (hi63 k2 (by decide)), Nat.le_refl 1⟩ ⟨ev_item (p := drI t) (ev_name rfl) ev_int (item_get_t (by decide) rfl) (by decide) (by decide), dT_len t.dr⟩ (by decide)).1
  · refine joinOk_of ?_
    have f2 := sum_le 10 ((its.map fun t => S (valI t)).map (·.length)) fun n hn => by
      obtain ⟨y, hy, rfl⟩ := List.mem_map.mp hn
      obtain ⟨t, ht, rfl⟩ := List.mem_map.mp hy
      show (valI t).length ≤ 10
      have := dT_len t.dr
      unfold valI; simp; omega
    rw [List.length_map, List.length_map] at f2
    rw [List.length_map, S_nil, S_len]
    have e3 : (16777216 : Nat) = sizeLine := by decide
    simp only [List.length_nil]
    omega
  · rw [show (its.map fun t => S (valI t)) = (its.map valI).map S by rw [List.map_map]; rfl, S_nil, txt_join_nil]; unfold valsL; rw [List.flatMap_def]
  exact ex_pre h ⟨rfl, rfl, rfl, rfl, rfl, trivial⟩
end
end Mine.Internal

end PartE2
section PartE3
open PySem PySem.W PyProof.Rows
set_option Elab.async false
set_option maxRecDepth 100000
set_option linter.unusedVariables false
namespace Mine.Internal
theorem cps_AB : (("ABCD" : Str).cps.toList = [65, 66, 67, 68]) ∧ (("abcd" : Str).cps.toList = [97, 98, 99, 100]) := by decide +kernel
theorem occ_AB : ((List.range 4).all fun k => Builtin.Str.occurrences "ABCD" (S [65 + k]) 0 ("ABCD" : Str).length 1 == [k] && Builtin.Str.occurrences "abcd" (S [97 + k]) 0 ("abcd" : Str).length 1 == [k]) = true := by decide +kernel
theorem occ_A {k : Nat} (h : k < 4) : Builtin.Str.occurrences "ABCD" (S [65 + k]) 0 ("ABCD" : Str).length 1 = [k] ∧ Builtin.Str.occurrences "abcd" (S [97 + k]) 0 ("abcd" : Str).length 1 = [k] := by
  have := range_get occ_AB h
  simpa using this
noncomputable def isA (c : Nat) : Bool := decide (c ∈ [65, 66, 67, 68])
noncomputable def isa (c : Nat) : Bool := decide (c ∈ [97, 98, 99, 100])
theorem isA_ex {c : Nat} (h : isA c = true) : ∃ k, k < 4 ∧ c = 65 + k := by
  have hc : c = 65 ∨ c = 66 ∨ c = 67 ∨ c = 68 := by unfold isA at h; simpa using h
  rcases hc with rfl | rfl | rfl | rfl
  · exact ⟨0, by decide, rfl⟩
  · exact ⟨1, by decide, rfl⟩
  · exact ⟨2, by decide, rfl⟩
  · exact ⟨3, by decide, rfl⟩
theorem isa_ex {c : Nat} (h : isa c = true) : ∃ k, k < 4 ∧ c = 97 + k := by
  have hc : c = 97 ∨ c = 98 ∨ c = 99 ∨ c = 100 := by unfold isa at h; simpa using h
  rcases hc with rfl | rfl | rfl | rfl
  · exact ⟨0, by decide, rfl⟩
  · exact ⟨1, by decide, rfl⟩
  · exact ⟨2, by decide, rfl⟩
  · exact ⟨3, by decide, rfl⟩
theorem gap_noA (g : Nat) : (gapL g).filter isA = [] := by
  unfold gapL
  rw [List.filter_eq_nil_iff]
  intro c hc
  rw [(List.mem_replicate.mp hc).2]; decide
theorem isA_k {k : Nat} (h : k < 4) : isA (65 + k) = true := by rcases four h with rfl | rfl | rfl | rfl <;> decide
theorem isa_k {k : Nat} (h : k < 4) : isa (97 + k) = true := by rcases four h with rfl | rfl | rfl | rfl <;> decide
theorem filter_keyI {t : It} (ok : t.ok) : (keyI t).filter isA = [65 + t.k] := by
  unfold keyI
  rw [List.filter_append, List.filter_append, gap_noA]
  show ([65 + t.k, 61].filter isA) ++ [] ++ [44].filter isA = _
  rw [List.filter_cons_of_pos (isA_k ok.1)]; rfl
theorem filter_keysB : ∀ (its : List It) (b : Bool), (∀ t ∈ its, t.ok) → (keysB b its).filter isA = its.map fun t => 65 + t.k
  | [], b, _ => rfl
  | t :: r, b, h => by
    have hb : (preB b).filter isA = [] := by cases b <;> decide
    show (preB b ++ keyI t ++ keysB true r).filter isA = _
    rw [List.filter_append, List.filter_append, hb, filter_keyI (h t (.head _)), filter_keysB r true fun x hx => h x (.tail _ hx)]; rfl
theorem filter_keys {its : List It} (h : ∀ t ∈ its, t.ok) : (keysL its).filter isA = its.map fun t => 65 + t.k := by
  unfold keysL; rw [keys_join, filter_keysB _ _ h]
theorem filter_valI {t : It} (ok : t.ok) : (valI t).filter isa = [97 + t.v] := by
  have hd : (dT t.dr).filter isa = [] := by rcases six ok.2.2.1 with e | e | e | e | e | e <;> rw [e] <;> decide
  unfold valI
  rw [List.filter_cons_of_pos (isa_k ok.2.1), hd]
theorem filter_vals : ∀ {its : List It}, (∀ t ∈ its, t.ok) → (valsL its).filter isa = its.map fun t => 97 + t.v
  | [], _ => rfl
  | t :: r, h => by
    have ih := filter_vals (its := r) fun x hx => h x (.tail _ hx)
    unfold valsL at ih ⊢
    rw [List.flatMap_cons, List.filter_append, filter_valI (h t (.head _)), ih]; rfl
theorem item_str0 (c : Nat) (r : List Nat) : item? (.str (S (c :: r))) 0 = some (chv c) := by
  show (Txt.charAt (S (c :: r)) 0).map (fun c => PV.str ⟨#[c]⟩) = _
  have : Txt.charAt (S (c :: r)) 0 = some c := by
    unfold Txt.charAt seqIndex?
    simp [S_len]
  rw [this]; rfl
theorem keys_len : ∀ {its : List It}, (∀ t ∈ its, t.ok) → (keysL its).length ≤ its.length * 11
  | [], _ => Nat.le_refl _
  | [t], h => by
    have := (h t (.head _)).2.2.2
    show (keyI t).length ≤ 11
    unfold keyI gapL; simp; omega
  | t :: y :: r, h => by
    have ih := keys_len (its := y :: r) fun x hx => h x (.tail _ hx)
    have h4 := (h t (.head _)).2.2.2
    have : (keyI t).length ≤ 5 := by unfold keyI gapL; simp; omega
    show (keyI t ++ 32 :: keysL (y :: r)).length ≤ _
    simp only [List.length_append, List.length_cons] at ih ⊢; omega
theorem vals_len (its : List It) : (valsL its).length ≤ its.length * 3 := flatMap_len valI 3 its fun t _ => by
  have := dT_len t.dr
  unfold valI; simp; omega
noncomputable def σ3 (CB : Addr) (cells : List Int) : Sig := [("cells", .val (il cells)), ("line", .val (.str (S (lineL (itsOf cells))))), ("by_http", .val (pl ((itsOf cells).map prI))), ("by_mail", .val (pl ((itsOf cells).map prI))), ("outcome", .val (.lst ((runOf ((itsOf cells).map prI) (cells.drop 6)).map (hobj CB))))]
section
variable {w : World} {h₀ : Heap} {d : Nat} {sc : Scope} {σ : Sig} {mg mb : Str → Option Value} {F : Frag} {CW CB : Addr} {prog : Program} {W : Str → Bool}
theorem cmp_in_one {c : Nat} {x : Str} : CmpOK prog w h₀ d .In (chv c) (.str x) (decide (c ∈ x.cps.toList)) := by
  have := cmp_ins (prog := prog) (w := w) (h₀ := h₀) (d := d) (x := x) (y := ch c)
  rw [show (ch c) = ⟨#[c]⟩ from rfl, StrLaws.found_one] at this
  exact this
theorem cells_tail {e : Expr} {pos spos : Pos} {n : Expr} (cells : List Int) (hc : cells.length = 10) (he : EvOK pw w h₀ d sc σ e (il cells)) (hn : EvOK pw w h₀ d sc σ n (.int 6)) : EvOK pw w h₀ d sc σ (.Subscript e (.Slice (some n) none none spos) pos) (.lst ((cells.drop 6).map .int)) := by
  refine ev_slice (l := some 6) (u := none) (k := none) he (part_some hn) part_none part_none ?_ (show (cells.map PV.int).length ≤ sizeLine by rw [List.length_map, hc]; decide)
  have := slice_drop (cells.map .int) 6 (by rw [List.length_map, hc]; decide)
  rw [← List.map_drop] at this
  exact this
noncomputable def FL (CB : Addr) (cells : List Int) (line : List Nat) (prs : List (Int × Int)) (ns : List Int) : Sig := [("cells", .val (il cells)), ("line", .val (.str (S line))), ("by_http", .val (pl prs)), ("by_mail", .val (pl prs)), ("orders", .val (il (ns.map ordOf))), ("drawn", .val (.lst (ns.map (hobj CB)))), ("outcome", .val (.lst ((runOf prs ns).map (hobj CB))))]
theorem cut_pv (b o : Int) (c : Bool) (h : c = decide (o < b)) : (if c = true then PV.str "\t" else PV.str " ") = PV.str (ch (cut b o)) := by
  unfold cut
  by_cases ho : o < b
  · rw [h, decide_eq_true ho, if_pos rfl, if_pos ho, S_tab]; rfl
  · rw [h, decide_eq_false ho, if_neg Bool.false_ne_true, if_neg ho, S_blank]; rfl
theorem thr_len (b : Int) (r : List Int) : (thr b r).length = r.length := List.length_map ..
theorem law_bound (K : Kit h₀ mg mb F CW CB) {cells : List Int} {line : List Nat} {prs : List (Int × Int)} {ns : List Int} (low : Low4 prs) (hn4 : ns.length = 4) {i : Nat} (hi : i < 4) :
    ExOK pw w h₀ (d + 9) LS (upd (FL CB cells line prs ns) "place" (.val (.int i))) (forBody LB[18]?) (.next (FL CB cells line prs ns)) := by
  have hq4 : (runOf prs ns).length = 4 := (runOf_length prs ns).trans hn4
  have g1 : item? (il (ns.map ordOf)) (i : Int) = some (.int (ordOf (ns.getD i 0))) := by
    refine item_get (by omega) ?_
    rw [Int.toNat_natCast, List.getElem?_map, List.getElem?_map, List.getD_eq_getElem?_getD, List.getElem?_eq_getElem (by omega)]; rfl
  have g2 : item? (.lst (ns.map (hobj CB))) (i : Int) = some (hobj CB (ns.getD i 0)) := by
    have := get_hobj (C := CB) (r := ns) (i := (i : Int)) (by omega) (by omega)
    rwa [Int.toNat_natCast] at this
  generalize hm : ns.getD i 0 = m at g1 g2
  generalize hb : ordOf m = b at g1
  refine ex_cons (st_assign (p := .str (S (thr b ns))) (ev_is (ev_join (xs := (thr b ns).map ch) ev_str (ev_new (new_listcomp (it_list (its := (ns.map ordOf).map .int) (ev_name rfl)) ?_ (.inl ⟨_, _, rfl⟩))) (joinOk_chs _ (by rw [thr_len, hn4]; decide))) (by rw [join_chs]))) ?_
  · rw [show ((thr b ns).map ch).map PV.str = (ns.map ordOf).map fun o => PV.str (ch (cut b o)) by unfold thr; rw [List.map_map, List.map_map, List.map_map]; rfl]
    refine comp_maps PV.int (fun o => PV.str (ch (cut b o))) (ns.map ordOf) [] (fun o _ => ⟨_, asg_name, ⟨rfl, rfl, trivial⟩, ev_is (ev_ite (c := decide (o < b)) (tst_cmp (ev_name (p := .int o) rfl) (ev_item (p := il (ns.map ordOf)) (ev_name rfl) (ev_name (p := .int i) rfl) g1 (lo63 i) (hi63 hi (by decide))) cmp_lti) (fun _ => ev_str) (fun _ => ev_str)) (cut_pv b o _ rfl)⟩) (by rw [List.length_nil, List.length_map, hn4]; decide)
  refine ex_cons (st_assign (p := .str (S (thr b (runOf prs ns)))) (ev_is (ev_join (xs := (thr b (runOf prs ns)).map ch) ev_str (ev_new (new_listcomp (it_list (its := (runOf prs ns).map (hobj CB)) (ev_name rfl)) ?_ (.inl ⟨_, _, rfl⟩))) (joinOk_chs _ (by rw [thr_len, hq4]; decide))) (by rw [join_chs]))) ?_
  · rw [show ((thr b (runOf prs ns)).map ch).map PV.str = (runOf prs ns).map fun n => PV.str (ch (cut b (ordOf n))) by unfold thr; rw [List.map_map, List.map_map]; rfl]
    refine comp_maps (hobj CB) (fun n => PV.str (ch (cut b (ordOf n)))) (runOf prs ns) [] (fun n _ => ⟨_, asg_name, ⟨rfl, rfl, trivial⟩, ev_is (ev_ite (c := (decide (ordOf n < ordOf m) == true)) (tst_cmp (ev_cmp (ev_name (p := hobj CB n) rfl) (ev_item (p := .lst (ns.map (hobj CB))) (ev_name rfl) (ev_name (p := .int i) rfl) g2 (lo63 i) (hi63 hi (by decide))) (cmp_lt K.G K.X K.B n m)) ev_bool cmp_isb) (fun _ => ev_str) (fun _ => ev_str)) (cut_pv b (ordOf n) _ (by rw [hb]; simp))⟩) (by rw [List.length_nil, hq4]; decide)
  have es := slide_run b prs ns low hn4
  refine ex_post (ex_one (@st_if _ _ _ _ _ _ _ _ _ _ (false) _ (tst_cmp (ev_is (q := .str (S (thr b (runOf prs ns)))) (ev_fn K.f20 K.G ok20 (evs_cons (ev_name (p := pl prs) rfl) (evs_cons (ev_name (p := .str (S (thr b ns))) rfl) evs_nil)) (@body_slide _ _ _ _ _ K.G K.list_ prs low (thr b ns) (by rw [thr_len, hn4]))) (by rw [es])) (ev_name (p := .str (S (thr b (runOf prs ns)))) rfl) cmp_nes_self) (fun h => nomatch h) (fun _ => ex_nil))) ⟨rfl, rfl, rfl, rfl, rfl, rfl, rfl, trivial⟩
theorem law3 (K : Kit h₀ mg mb F CW CB) (cells : List Int) (hc : cells.length = 10) {o : Out} (h : ExOK pw w h₀ (d + 9) LS (σ3 CB cells) (LB.drop 19) o) : ExOK pw w h₀ (d + 9) LS (σ2 cells) (LB.drop 13) o := by
  unfold σ2; unfold σ3 at h
  have ok := its_ok cells
  have h6 := its_len cells
  have low : Low4 ((itsOf cells).map prI) := by rw [← pairs_its]; exact low4_pairs cells
  generalize itsOf cells = its at ok h6 low h ⊢
  have hkl := keys_len ok
  have hvl := vals_len its
  rw [h6] at hkl hvl
  have hn4 : (cells.drop 6).length = 4 := by rw [List.length_drop, hc]
  refine ex_frz (x := ("by_http" : Str)) (p := pl (its.map prI)) (st_assign_lc_cell (it_list (its := its.map toldI) (ev_name rfl)) ?_ (.inl ⟨_, _, rfl⟩) rfl rfl rfl (fun _ _ => rfl) rfl) ?_
  · unfold pl
    rw [List.map_map]
    refine comp_maps toldI (ip ∘ prI) its [] (fun t ht => ⟨_, asg_name, trivial, ?_⟩) (by rw [List.length_nil, h6]; decide)
    obtain ⟨k1, k2, k3, k4⟩ := ok t ht
    exact ev_tuple (evs_cons (ev_index ev_str (ev_item (ev_item (p := toldI t) (ev_name rfl) ev_int (item_get (by decide) rfl) (by decide) (by decide)) ev_int (item_get_t (by decide) rfl) (by decide) (by decide)) (occ_A k1).1)
      (evs_cons (ev_index ev_str (ev_item (p := .str (S (meant t))) (ev_item (ev_item (p := toldI t) (ev_name rfl) ev_int (item_get (by decide) rfl) (by decide) (by decide)) ev_int (item_get_t (by decide) rfl) (by decide) (by decide)) ev_int (item_str0 _ _) (by decide) (by decide)) (occ_A k2).2) evs_nil)) (show 2 ≤ sizeLine by decide)
  have e : PV.lst (zips (its.map fun t => PV.int t.k) (its.map fun t => PV.int t.v)) = pl (its.map prI) := by rw [zips_map]; unfold pl; rw [List.map_map]; rfl
  refine ex_frz (x := ("by_mail" : Str)) (p := pl (its.map prI)) (by
    rw [← e]
    refine @st_assign_own _ _ _ _ _ _ _ _ _ _ _ (new_list_zip K.G K.list_ K.zip_ (ev_new (new_listcomp (it_str (x := S (keysL its)) (ev_name rfl)) ?_ (.inl ⟨_, _, rfl⟩))) (ev_new (new_listcomp (it_str (x := S (valsL its)) (ev_name rfl)) ?_ (.inl ⟨_, _, rfl⟩))) (by rw [List.length_map, List.length_map]) (by rw [List.length_map, h6]; decide) rfl rfl (fun _ => rfl) (fun _ => ⟨_, _, rfl⟩) (fun _ => rfl) (fun _ => rfl)) (.inr rfl) (by intro _; rfl)
    · have e2 : ((keysL its).filter isA).map (fun c => PV.int ((c - 65 : Nat) : Int)) = its.map fun t => PV.int t.k := by
        rw [filter_keys ok, List.map_map]
        refine List.map_congr_left fun t _ => ?_
        show PV.int ((65 + t.k - 65 : Nat) : Int) = _
        rw [Nat.add_sub_cancel_left]
      rw [← e2]
      refine comp_filters chv (fun c => PV.int ((c - 65 : Nat) : Int)) isA (keysL its) [] (fun c _ => ⟨_, asg_name, trivial, ?_, fun hA => ?_⟩) (by rw [List.length_nil, Nat.zero_add]; exact fitL (Nat.le_trans hkl (by decide)))
      · have hcmp := cmp_in_one (prog := pw) (w := w) (h₀ := h₀) (d := d + 9) (c := c) (x := "ABCD")
        rw [cps_AB.1] at hcmp
        exact tst_cmp (ev_name (p := chv c) rfl) ev_str hcmp
      · obtain ⟨k, hk, rfl⟩ := isA_ex hA
        rw [Nat.add_sub_cancel_left]
        exact ev_index ev_str (ev_name (p := .str (S [65 + k])) rfl) (occ_A hk).1
    · have e2 : ((valsL its).filter isa).map (fun c => PV.int ((c - 97 : Nat) : Int)) = its.map fun t => PV.int t.v := by
        rw [filter_vals ok, List.map_map]
        refine List.map_congr_left fun t _ => ?_
        show PV.int ((97 + t.v - 97 : Nat) : Int) = _
        rw [Nat.add_sub_cancel_left]
      rw [← e2]
      refine comp_filters chv (fun c => PV.int ((c - 97 : Nat) : Int)) isa (valsL its) [] (fun c _ => ⟨_, asg_name, trivial, ?_, fun hA => ?_⟩) (by rw [List.length_nil, Nat.zero_add]; exact fitL (Nat.le_trans hvl (by decide)))
      · have hcmp := cmp_in_one (prog := pw) (w := w) (h₀ := h₀) (d := d + 9) (c := c) (x := "abcd")
        rw [cps_AB.2] at hcmp
        exact tst_cmp (ev_name (p := chv c) rfl) ev_str hcmp
      · obtain ⟨k, hk, rfl⟩ := isa_ex hA
        rw [Nat.add_sub_cancel_left]
        exact ev_index ev_str (ev_name (p := .str (S [97 + k])) rfl) (occ_A hk).2) ?_
  generalize hprs : its.map prI = prs at low h ⊢
  generalize hns : cells.drop 6 = ns at hn4 h ⊢
  have hnl : ∀ {β : Type} (f : Int → β), (ns.map f).length ≤ sizeLine := fun f => by rw [List.length_map, hn4]; decide
  refine ex_frz (x := ("orders" : Str)) (p := il (ns.map ordOf)) (st_assign_lc_cell (it_list (its := ns.map .int) (ev_is (cells_tail cells hc (ev_name rfl) ev_int) (by rw [hns]))) ?_ (.inl ⟨_, _, rfl⟩) rfl rfl rfl (fun _ _ => rfl) rfl) ?_
  · unfold il
    rw [List.map_map]
    refine comp_maps PV.int (PV.int ∘ ordOf) ns [] (fun n _ => ⟨_, asg_name, trivial, ev_is (ev_ite (c := n.fmod 4 != 0) (tst_cmp (ev_bin (ev_name rfl) ev_int (bin_mod (by decide))) ev_int cmp_nei) (fun _ => ev_name (p := .int n) rfl) (fun _ => ev_int)) ?_⟩) (by rw [List.length_nil, hn4]; decide)
    show _ = PV.int (ordOf n)
    unfold ordOf; split <;> rfl
  refine ex_frz (x := ("drawn" : Str)) (p := .lst (ns.map (hobj CB))) (st_assign_lc_cell (it_list (its := ns.map .int) (ev_is (cells_tail cells hc (ev_name rfl) ev_int) (by rw [hns]))) ?_ (.inl ⟨_, _, rfl⟩) rfl rfl rfl (fun _ _ => rfl) rfl) ?_
  · exact comp_maps PV.int (hobj CB) ns [] (fun n _ => ⟨_, asg_name, trivial, ev_fn K.f18 K.G ok18 (evs_cons (ev_name rfl) evs_nil) (@body_handler _ _ _ _ _ _ _ K.G K.X K.B n)⟩) (by rw [List.length_nil, hn4]; decide)
  refine ex_cons (st_assign (ev_fn K.f19 K.G ok19 (evs_cons (ev_name (p := pl prs) rfl) (evs_cons (ev_name (p := .lst (ns.map (hobj CB))) rfl) evs_nil)) (@body_run _ _ _ _ _ _ _ K.G K.X K.B K.list_ prs low ns hn4))) ?_
  refine ex_pre ?_ (show Sub (FL CB cells (lineL its) prs ns) _ from ⟨rfl, rfl, rfl, rfl, rfl, rfl, rfl, trivial⟩)
  refine ex_cons (st_for (it_range (n := 4) K.G K.range_ ev_int (by decide) (by decide)) (.inl ⟨_, _, rfl⟩) (turns_seq (fun _ => FL CB cells (lineL its) prs ns) (rng 0 4) 0 fun i p hp => ⟨_, asg_name (.inr rfl), ?_⟩)) (ex_pre h ⟨rfl, rfl, rfl, rfl, rfl, trivial⟩)
  obtain ⟨hi, rfl⟩ := rng_get hp
  rw [Int.zero_add]
  exact law_bound K low hn4 hi
end
end Mine.Internal

end PartE3
section PartE4
open PySem PySem.W PyProof.Rows
set_option Elab.async false
set_option maxRecDepth 100000
set_option linter.unusedVariables false
namespace Mine.Internal
theorem bit_all : ((List.range 16).all fun n => (List.range 4).all fun p => (((0 + (n : Int)).fdiv (2 ^ (0 + (p : Int)).toNat)).fmod 2 == 1) == decide (n / 2 ^ p % 2 = 1) && decide ((2 : Int) ^ (0 + (p : Int)).toNat ≠ 0) && decide (((2 : Int) ^ (0 + (p : Int)).toNat).natAbs < 2 ^ 30)) = true := by decide +kernel
theorem bits {n p : Nat} (hn : n < 16) (hp : p < 4) : (((0 + (n : Int)).fdiv (2 ^ (0 + (p : Int)).toNat)).fmod 2 == 1) = decide (n / 2 ^ p % 2 = 1) ∧ (2 : Int) ^ (0 + (p : Int)).toNat ≠ 0 ∧ ((2 : Int) ^ (0 + (p : Int)).toNat).natAbs < 2 ^ 30 := by
  have := range_get (range_get bit_all hn) hp
  simp only [Bool.and_eq_true, beq_iff_eq, decide_eq_true_eq] at this
  exact ⟨this.1.1, this.1.2, this.2⟩
noncomputable def enL (prs : List (Int × Int)) (n : Nat) : List Nat := slideOf prs (rowL n)
noncomputable def r16 {β : Type} (f : Nat → β) : List β := (List.range 16).map f
theorem r16_len {β : Type} (f : Nat → β) : (r16 f).length = 16 := by simp [r16]
theorem r16_get {f : Nat → PV} {i : Nat} (h : i < 16) : (r16 f)[i]? = some (f i) := by unfold r16; rw [List.getElem?_map, List.getElem?_range h]; rfl
theorem item_r16 {f : Nat → PV} {i : Nat} (h : i < 16) {k : Int} (hk : k = (i : Int)) : item? (.lst (r16 f)) k = some (f i) := by
  subst hk
  exact item_get (by omega) (by rw [Int.toNat_natCast]; exact r16_get h)
noncomputable def prevI (i : Nat) : Nat := if i = 0 then 15 else i - 1
theorem item_prev {f : Nat → PV} {i : Nat} (h : i < 16) {k : Int} (hk : k = (i : Int) - 1) : item? (.lst (r16 f)) k = some (f (prevI i)) := by
  subst hk
  unfold prevI
  by_cases h0 : i = 0
  · subst h0
    rw [if_pos rfl]
    show (seqIndex? ((0 : Nat) - 1 : Int) (r16 f).length).bind ((r16 f)[·]?) = _
    rw [r16_len]
    have : seqIndex? (((0 : Nat) : Int) - 1) 16 = some 15 := by decide +kernel
    rw [this]; exact r16_get (by decide)
  · rw [if_neg h0]
    exact item_r16 (by omega) (by omega)
theorem pr63 {i : Nat} (h : i < 16) : -(2 ^ 63) ≤ (i : Int) - 1 ∧ (i : Int) - 1 < 2 ^ 63 := by omega
theorem prev_lt {i : Nat} (h : i < 16) : prevI i < 16 := by unfold prevI; split <;> omega
theorem slice_init (xs : List PV) (h : 1 ≤ xs.length) : slice? (.lst xs) none (some (-1)) none = some (.lst xs.dropLast) := by
  show (if (none : Option Int) = some 0 then none else some (PV.lst (sliceL xs none (some (-1)) none))) = _
  rw [if_neg (by simp)]
  unfold sliceL sliceBounds
  simp only [Option.getD_none, show (1 : Int) > 0 by decide, if_true, show ((-1 : Int) < 0) by decide]
  rw [show max (0 : Int) (min (-1 + (xs.length : Int)) (xs.length : Int)) = ((xs.length - 1 : Nat) : Int) by omega, sliceRange_one 0 _ (by omega) (by omega)]
  have := pick_range xs 0 (xs.length - 1) (by omega)
  rw [show (((xs.length - 1 : Nat) : Int) - 0).toNat = xs.length - 1 by omega, List.dropLast_eq_take]
  simpa using this
theorem slice_tail (xs : List PV) (h : 1 ≤ xs.length) : slice? (.lst xs) (some (-1)) none none = some (.lst (xs.drop (xs.length - 1))) := by
  show (if (none : Option Int) = some 0 then none else some (PV.lst (sliceL xs (some (-1)) none none))) = _
  rw [if_neg (by simp)]
  unfold sliceL sliceBounds
  simp only [Option.getD_none, show (1 : Int) > 0 by decide, if_true, show ((-1 : Int) < 0) by decide]
  rw [show max (0 : Int) (min (-1 + (xs.length : Int)) (xs.length : Int)) = ((xs.length - 1 : Nat) : Int) by omega, sliceRange_one _ xs.length (by omega) (by omega)]
  have := pick_range xs (xs.length - 1) (xs.length - (xs.length - 1)) (by omega)
  rw [show ((xs.length : Int) - ((xs.length - 1 : Nat) : Int)).toNat = xs.length - (xs.length - 1) by omega, Int.toNat_natCast, this, List.take_of_length_le (by simp)]
theorem drop_last {l : List Nat} (h : 1 ≤ l.length) : l.drop (l.length - 1) = [l.getLastD 0] := by
  have hn : l ≠ [] := fun e => by rw [e] at h; cases h
  have hx : ∃ ys y, l = ys ++ [y] := ⟨l.dropLast, l.getLast hn, (List.dropLast_concat_getLast hn).symm⟩
  obtain ⟨ys, y, rfl⟩ := hx
  simp
/- what is known of the rows that came out -/
theorem en_row {prs : List (Int × Int)} (low : Low4 prs) {n : Nat} (hn : n < 16) : ∃ m, m < 16 ∧ enL prs n = rowL m ∧ (rowL m).count 9 = (rowL n).count 9 := by
  obtain ⟨h1, h2⟩ := bin_slide prs (rowL n) low (bin_row hn)
  obtain ⟨m, hm, e⟩ := bin_get h1
  exact ⟨m, hm, e, by rw [← e]; exact h2⟩
section
variable {w : World} {h₀ : Heap} {d : Nat} {sc : Scope} {σ : Sig} {mg mb : Str → Option Value} {F : Frag} {CW CB : Addr} {prog : Program} {W : Str → Bool}
theorem ev_split_one {o a : Expr} {apos pos : Pos} {x y : Str} (ho : EvOK pw w h₀ d sc σ o (.str x)) (ha : EvOK pw w h₀ d sc σ a (.str y)) (hsz : x.length + 2 ≤ sizeLine) (hy : (y.length == 0) = false)
    (hbase : ∀ env, attributeBase o "split" env (eval o env) = eval o env) (hline : (apos.endLine == pos.line) = true) (hs : ∀ env, starEach [a] env = (false, eval a env) :: starEach [] env) :
    EvOK pw w h₀ d sc σ (.Call (.Attribute o "split" apos) [a] [] pos) (.lst ((Txt.split x y).map .str)) :=
  ev_smeth PySem.F.slot_str_split PySem.F.type_str_split ho (evs_cons ha evs_nil hs) (call_split_one hsz hy) hbase (fun env => by rw [hs]; rfl) hline (fun env => by rw [hs]; rfl) (fun env => ⟨_, _, hs env⟩)
noncomputable def vRows : PV := .lst (r16 fun n => .str (S (rowL n)))
noncomputable def vEnds (prs : List (Int × Int)) : PV := .lst (r16 fun n => .str (S (enL prs n)))
noncomputable def vWhites (CW : Addr) (line : List Nat) (prs : List (Int × Int)) : PV := .lst (r16 fun n => wobj CW (S (enL prs n ++ line)) (whOf (enL prs n)))
noncomputable def vRuns (prs : List (Int × Int)) : PV := .lst (r16 fun n => sl ((runsN (enL prs n)).map blk))
noncomputable def σ4 (CW CB : Addr) (cells : List Int) (line : List Nat) (prs : List (Int × Int)) (ns : List Int) : Sig := [("cells", .val (il cells)), ("line", .val (.str (S line))), ("by_http", .val (pl prs)), ("outcome", .val (.lst ((runOf prs ns).map (hobj CB)))), ("rows", .val vRows), ("ends", .val (vEnds prs)), ("whites", .val (vWhites CW line prs)), ("runs", .val (vRuns prs))]
noncomputable def σ3' (CB : Addr) (cells : List Int) (line : List Nat) (prs : List (Int × Int)) (ns : List Int) : Sig := [("cells", .val (il cells)), ("line", .val (.str (S line))), ("by_http", .val (pl prs)), ("by_mail", .val (pl prs)), ("outcome", .val (.lst ((runOf prs ns).map (hobj CB))))]
theorem law4 (K : Kit h₀ mg mb F CW CB) {cells : List Int} {line : List Nat} {prs : List (Int × Int)} {ns : List Int} (low : Low4 prs) (hll : line.length ≤ 100) (hline : ∃ c r, line = c :: r ∧ c ≠ 32 ∧ c ≠ 9) {o : Out}
    (h : ExOK pw w h₀ (d + 9) LS (σ4 CW CB cells line prs ns) (LB.drop 23) o) : ExOK pw w h₀ (d + 9) LS (σ3' CB cells line prs ns) (LB.drop 19) o := by
  refine ex_frz (x := ("rows" : Str)) (p := vRows) (st_assign_listcomp (it_range (n := 16) K.G K.range_ ev_int (by decide) (by decide)) ?_ (.inl ⟨_, _, rfl⟩)) ?_
  · refine comp_maps (fun i : Nat => PV.int (0 + i)) (fun n => PV.str (S (rowL n))) (List.range 16) [] (fun n hn => ⟨_, asg_name (.inr rfl), trivial, ?_⟩) (by decide)
    have hn := List.mem_range.mp hn
    refine ev_is (ev_join (xs := (rowL n).map ch) ev_str (ev_new (new_listcomp (it_range (n := 4) K.G K.range_ ev_int (by decide) (by decide)) ?_ (.inl ⟨_, _, rfl⟩))) (joinOk_chs _ (by rw [row_len]; decide))) (by rw [join_chs])
    rw [show ((rowL n).map ch).map PV.str = (List.range 4).map fun p => PV.str (ch (if n / 2 ^ p % 2 = 1 then 32 else 9)) by unfold rowL; rw [List.map_map, List.map_map]; rfl]
    refine comp_maps (fun i : Nat => PV.int (0 + i)) (fun p => PV.str (ch (if n / 2 ^ p % 2 = 1 then 32 else 9))) (List.range 4) [] (fun p hp => ⟨_, asg_name, ⟨rfl, trivial⟩, ?_⟩) (by decide)
    have hp := List.mem_range.mp hp
    obtain ⟨b1, b2, b3⟩ := bits hn hp
    refine ev_is (ev_ite (c := (((0 + (n : Int)).fdiv (2 ^ (0 + (p : Int)).toNat)).fmod 2 == 1)) (tst_cmp (ev_bin (ev_bin (ev_name (p := .int (0 + n)) rfl) (ev_bin ev_int (ev_name (p := .int (0 + p)) rfl) (bin_pow (by omega) (by omega) (by decide))) (bin_fdiv b2 (no_pylong _ _ b3))) ev_int (bin_mod (by decide))) ev_int cmp_eqi) (fun _ => ev_str) (fun _ => ev_str)) ?_
    rw [b1]
    by_cases hc : n / 2 ^ p % 2 = 1
    · rw [decide_eq_true hc, if_pos rfl, if_pos hc, S_blank]; rfl
    · rw [decide_eq_false hc, if_neg Bool.false_ne_true, if_neg hc, S_tab]; rfl
  have hrow : ∀ n, n < 16 → ∃ m, m < 16 ∧ enL prs n = rowL m ∧ (rowL m).count 9 = (rowL n).count 9 := fun n hn => en_row low hn
  refine ex_frz (x := ("ends" : Str)) (p := vEnds prs) (st_assign_listcomp (it_list (its := r16 fun n => .str (S (rowL n))) (ev_name rfl)) ?_ (.inl ⟨_, _, rfl⟩)) ?_
  · refine comp_maps (fun n => PV.str (S (rowL n))) (fun n => PV.str (S (enL prs n))) (List.range 16) [] (fun n hn => ⟨_, asg_name, ⟨rfl, trivial⟩, ?_⟩) (by decide)
    exact ev_fn K.f20 K.G ok20 (evs_cons (ev_name (p := pl prs) rfl) (evs_cons (ev_name (p := .str (S (rowL n))) rfl) evs_nil)) (@body_slide _ _ _ _ _ K.G K.list_ prs low (rowL n) (row_len n))
  refine ex_frz (x := ("whites" : Str)) (p := vWhites CW line prs) (st_assign_listcomp (it_list (its := r16 fun n => .str (S (enL prs n))) (ev_name rfl)) ?_ (.inl ⟨_, _, rfl⟩)) ?_
  · refine comp_maps (fun n => PV.str (S (enL prs n))) (fun n => wobj CW (S (enL prs n ++ line)) (whOf (enL prs n))) (List.range 16) [] (fun n hn => ⟨_, asg_name, ⟨rfl, trivial⟩, ?_⟩) (by decide)
    have hn := List.mem_range.mp hn
    obtain ⟨m, hm, e, _⟩ := hrow n hn
    rw [e]
    have ew : whOf (rowL m) = wGo w0 (rowL m ++ line) := by
      obtain ⟨c, r, rfl, c1, c2⟩ := hline
      exact (wGo_stop c1 c2 r (rowL m) w0 (row_char hm)).symm
    rw [ew]
    refine ev_ws K.G K.X K.Wk K.len_ (rowL m ++ line) (by rw [List.length_append, row_len]; omega) (ev_is (ev_bin (ev_name (p := .str (S (rowL m))) rfl) (ev_name (p := .str (S line)) rfl) (bin_adds ?_)) (by rw [S_app]))
    exact fitL (show (rowL m).length + line.length ≤ 10000 by rw [row_len]; omega)
  refine ex_frz (x := ("runs" : Str)) (p := vRuns prs) (st_assign_listcomp (it_list (its := r16 fun n => .str (S (enL prs n))) (ev_name rfl)) ?_ (.inl ⟨_, _, rfl⟩)) ?_
  · refine comp_maps (fun n => PV.str (S (enL prs n))) (fun n => sl ((runsN (enL prs n)).map blk)) (List.range 16) [] (fun n hn => ⟨_, asg_name, trivial, ?_⟩) (by decide)
    have hn := List.mem_range.mp hn
    obtain ⟨m, hm, e, _⟩ := hrow n hn
    rw [e]
    have hs := range_get seg_split hm
    rw [beq_iff_eq] at hs
    have hc := range_get seg_small hm
    simp only [Bool.and_eq_true, List.all_eq_true, decide_eq_true_eq] at hc
    obtain ⟨⟨⟨⟨c1, c2⟩, c3⟩, c4⟩, c5⟩ := hc
    have e0 : PV.lst ((Txt.split (S (rowL m)) "\t").map PV.str) = .lst (((segs (rowL m)).map blk).map .str) := by rw [S_tab, hs]
    have hl1 : (((segs (rowL m)).map blk).map PV.str).length = (segs (rowL m)).length := by rw [List.length_map, List.length_map]
    have fit5 : (((segs (rowL m)).map blk).map PV.str).length ≤ sizeLine := by rw [hl1]; exact fitL (by omega)
    have s1 := slice_init (((segs (rowL m)).map blk).map PV.str) (by rw [hl1]; exact c3)
    have s2 := slice_tail (((segs (rowL m)).map blk).map PV.str) (by rw [hl1]; exact c3)
    rw [← List.map_dropLast, ← List.map_dropLast] at s1
    rw [hl1, ← List.map_drop, ← List.map_drop, drop_last c3] at s2
    have eR : sl ((runsN (rowL m)).map blk) = .lst (((isort (segs (rowL m)).dropLast).map blk).map PV.str ++ ([(segs (rowL m)).getLastD 0].map blk).map PV.str) := by unfold sl runsN; rw [List.map_append, List.map_append]
    rw [eR]
    have hz : (S (rowL m)).length + 2 ≤ sizeLine := fitL (show (rowL m).length + 2 ≤ 10000 by rw [row_len]; decide)
    have hlen : (isort (segs (rowL m)).dropLast).length ≤ 5 := by rw [(List.isPerm_iff.mp c4).length_eq, List.length_dropLast]; omega
    refine ev_bin (ev_call K.G K.sorted_ (.inr (.inl ⟨_, rfl⟩)) (evs_cons (ev_slice (l := none) (u := some (-1)) (k := none) (ev_is (ev_split_one (ev_name (p := .str (S (rowL m))) rfl) ev_str hz (by decide +kernel) (fun _ => rfl) rfl (fun _ => rfl)) e0) part_none (part_some (ev_neg ev_int)) part_none s1 fit5) evs_nil) (call_sorted (ss := ((segs (rowL m)).dropLast).map blk) (srt := (isort (segs (rowL m)).dropLast).map blk) ?_ (sort_unique hm)))
      (ev_slice (l := some (-1)) (u := none) (k := none) (ev_is (ev_split_one (ev_name (p := .str (S (rowL m))) rfl) ev_str hz (by decide +kernel) (fun _ => rfl) rfl (fun _ => rfl)) e0) (part_some (ev_neg ev_int)) part_none part_none s2 fit5) (bin_addl ?_)
    · rw [List.length_map, List.length_dropLast]; omega
    · simp only [List.length_map, List.length_cons, List.length_nil]; exact fitL (by omega)
  exact ex_pre h ⟨rfl, rfl, rfl, rfl, rfl, rfl, rfl, rfl, trivial⟩
end
end Mine.Internal

end PartE4
section PartE5
open PySem PySem.W PyProof.Rows
set_option Elab.async false
set_option maxRecDepth 100000
set_option linter.unusedVariables false
namespace Mine.Internal
theorem mul_tab : ((List.range 5).all fun t => Txt.mul "\t" (t : Int) == S (List.replicate t 9) && Txt.mul " " (4 - (t : Int)) == S (List.replicate (4 - t) 32)) = true := by decide +kernel
theorem mul_ok5 {x : Str} (hx : x.length = 1) {t : Nat} (h : t < 5) : MulOk x (t : Int) ∧ MulOk x (4 - (t : Int)) := ⟨mulOk_one hx (by omega) (by omega), mulOk_one hx (by omega) (by omega)⟩
structure WFacts (m : Nat) : Prop where
  n : (whOf (rowL m)).n = 4
  nt : (whOf (rowL m)).nt = (rowL m).count 9
  eq_ : normEq (whOf (rowL m)) (whOf (List.replicate ((rowL m).count 9) 9 ++ List.replicate (4 - (rowL m).count 9) 32)) = simpleB (rowL m)
  simple : decide (((whOf (rowL m)).cnt.length : Int) ≤ 1) = simpleB (rowL m)
  more : normEq (whOf (rowL m)) (whOf (rowL m ++ [32])) = false
theorem w_of {m : Nat} (h : m < 16) : WFacts m := by
  have := range_get w_facts h
  simp only [Bool.and_eq_true, beq_iff_eq, Bool.not_eq_true'] at this
  exact ⟨this.1.1.1.1, this.1.1.1.2, this.1.1.2, this.1.2, this.2⟩
theorem cnt_row {m : Nat} (h : m < 16) : Txt.count (S (rowL m)) "\t" = (((rowL m).count 9 : Nat) : Int) := by
  rw [S_tab]
  have := range_get count_tab h
  rwa [beq_iff_eq] at this
theorem tabs_lt {m : Nat} (h : m < 16) : (rowL m).count 9 < 5 := of_decide_eq_true (range_get row_count h)
section
variable {w : World} {h₀ : Heap} {d : Nat} {sc : Scope} {σ : Sig} {mg mb : Str → Option Value} {F : Frag} {CW CB : Addr} {prog : Program} {W : Str → Bool}
theorem cmp_strs (xs ys : List Str) (hx : ∀ x ∈ xs, PyData.canLay0 (.str x) = true) (hy : ∀ x ∈ ys, PyData.canLay0 (.str x) = true) : CmpOK prog w h₀ d .Eq (sl xs) (sl ys) (decide (xs = ys)) := by
  have lx : ∀ {l : List Str}, (∀ x ∈ l, PyData.canLay0 (.str x) = true) → Lay 1 (.list (l.map .str)) := fun h => lay_list fun p hp => by
    obtain ⟨x, hx, rfl⟩ := List.mem_map.mp hp; exact lay_str (h x hx)
  have := cmp_eqD (prog := prog) (w := w) (h₀ := h₀) (d := d) (.lst (isDs_strs xs)) (.lst (isDs_strs ys)) ((lx hx).shaped (by decide)) ((lx hy).shaped (by decide))
  rw [show PyData.eqv (.list (xs.map .str)) (.list (ys.map .str)) = PyData.eqvAll (xs.map .str) (ys.map .str) from rfl, eqv_strs] at this
  exact this
theorem blk_lay (l : List Nat) : ∀ x ∈ l.map blk, PyData.canLay0 (.str x) = true := fun x hx => by
  obtain ⟨k, _, rfl⟩ := List.mem_map.mp hx
  exact str_ok fun c hc => by rw [(List.mem_replicate.mp hc).2]; decide
theorem ws_names {n : Nat} : ("n" : Str) ∈ (["raw", "n", "nt", "norm", "is_simple"] : List Str) ∧ ("nt" : Str) ∈ (["raw", "n", "nt", "norm", "is_simple"] : List Str) ∧ ("is_simple" : Str) ∈ (["raw", "n", "nt", "norm", "is_simple"] : List Str) :=
  ⟨.tail _ (.head _), .tail _ (.tail _ (.head _)), .tail _ (.tail _ (.tail _ (.tail _ (.head _))))⟩
theorem law_white (K : Kit h₀ mg mb F CW CB) {cells : List Int} {line : List Nat} {prs : List (Int × Int)} {ns : List Int} (low : Low4 prs) (hll : line.length ≤ 100) {i : Nat} (hi : i < 16) :
    ExOK pw w h₀ (d + 9) LS (upd (σ4 CW CB cells line prs ns) "place" (.val (.int i))) (forBody LB[23]?) (.next (σ4 CW CB cells line prs ns)) := by
  obtain ⟨m, hm, e, ec⟩ := en_row low hi
  obtain ⟨q, hq, e', ec'⟩ := en_row low (prev_lt hi)
  have wf := w_of hm
  have tl := tabs_lt hm
  have g1 : item? (vWhites CW line prs) (i : Int) = some (wobj CW (S (enL prs i ++ line)) (whOf (rowL m))) := by rw [← e]; exact item_r16 (f := fun n => wobj CW (S (enL prs n ++ line)) (whOf (enL prs n))) hi rfl
  have g2 : item? (vWhites CW line prs) ((i : Int) - 1) = some (wobj CW (S (enL prs (prevI i) ++ line)) (whOf (rowL q))) := by rw [← e']; exact item_prev (f := fun n => wobj CW (S (enL prs n ++ line)) (whOf (enL prs n))) hi rfl
  have g3 : item? vRows (i : Int) = some (.str (S (rowL i))) := item_r16 (f := fun n => PV.str (S (rowL n))) hi rfl
  have g4 : item? (vRuns prs) (i : Int) = some (sl ((runsN (rowL m)).map blk)) := by rw [← e]; exact item_r16 (f := fun n => sl ((runsN (enL prs n)).map blk)) hi rfl
  have g5 : item? (vRuns prs) ((i : Int) - 1) = some (sl ((runsN (rowL q)).map blk)) := by rw [← e']; exact item_prev (f := fun n => sl ((runsN (enL prs n)).map blk)) hi rfl
  generalize enL prs i ++ line = x1 at g1
  generalize enL prs (prevI i) ++ line = x2 at g2
  have ecnt : PV.int (Txt.count (S (rowL i)) "\t") = .int (((rowL m).count 9 : Nat) : Int) := by rw [cnt_row hi, ec]
  generalize ht : (rowL m).count 9 = t at ecnt tl wf
  obtain ⟨wn, wnt, weq, wsim, _⟩ := wf
  rw [ht] at wnt weq
  have hw := range_get (range_get w_equal hm) hq
  rw [beq_iff_eq] at hw
  generalize whOf (rowL m) = s1 at *
  refine ex_cons (st_swap (x := ("white" : Str)) (y := ("tabs" : Str)) (ev_tuple (evs_cons (ev_item (p := vWhites CW line prs) (ev_name rfl) (ev_name rfl) g1 (lo63 i) (hi63 hi (by decide))) (evs_cons (ev_is (ev_count (ev_item (p := vRows) (ev_name rfl) (ev_name rfl) g3 (lo63 i) (hi63 hi (by decide))) ev_str) ecnt) evs_nil)) (show 2 ≤ sizeLine by decide)) (.inl rfl) (.inl rfl)) ?_
  have eB : decide ((runsN (rowL m)).map blk = (runsN (rowL q)).map blk) = normEq s1 (whOf (rowL q)) := by
    rw [hw]
    by_cases h : runsN (rowL m) = runsN (rowL q)
    · rw [h]; simp
    · rw [decide_eq_false h, decide_eq_false fun k => h ((List.map_inj_right fun _ _ => S_blk_inj).mp k)]
  have cB := cmp_strs (prog := pw) (w := w) (h₀ := h₀) (d := d + 9) _ _ (blk_lay (runsN (rowL m))) (blk_lay (runsN (rowL q)))
  rw [eB] at cB
  have cI := cmp_isntb (prog := pw) (w := w) (h₀ := h₀) (d := d + 9) (a := normEq s1 (whOf (rowL q))) (b := normEq s1 (whOf (rowL q)))
  rw [show (normEq s1 (whOf (rowL q)) != normEq s1 (whOf (rowL q))) = false by simp] at cI
  have cS := cmp_isntb (prog := pw) (w := w) (h₀ := h₀) (d := d + 9) (a := simpleB (rowL m)) (b := simpleB (rowL m))
  rw [show (simpleB (rowL m) != simpleB (rowL m)) = false by simp] at cS
  have eT : PV.tup [.int (s1.n : Int), .int (s1.nt : Int)] = .tup [.int 4, .int (t : Int)] := by rw [wn, wnt]; rfl
  have lT : Lay 1 (.tuple [.int 4, .int (t : Int)]) := lay_tuple (lay_two (lay_int _) (lay_int _))
  refine ex_cons (@st_if _ _ _ _ _ _ _ _ _ _ (false || (false || false)) _ (tst_bool (or_cons (tst_cmp (ev_is (ev_tuple (evs_cons (ev_attr K.X K.Wk.cls (ev_name (p := wobj CW (S x1) s1) rfl) fun M hM => ws_attr K.Wk (ws_names (n := 0)).1 rfl M _) (evs_cons (ev_attr K.X K.Wk.cls (ev_name (p := wobj CW (S x1) s1) rfl) fun M hM => ws_attr K.Wk (ws_names (n := 0)).2.1 rfl M _) evs_nil)) (show 2 ≤ sizeLine by decide)) eT) (ev_tuple (evs_cons ev_int (evs_cons (ev_name (p := .int t) rfl) evs_nil)) (show 2 ≤ sizeLine by decide)) (cmp_ne_self (.tup (.cons (.int _) (.cons (.int _) .nil))) lT (by decide)))
    fun _ => or_cons (tst_cmp (ev_equal K.G K.X K.Wk (ev_name (p := wobj CW (S x1) s1) rfl) (ev_item (p := vWhites CW line prs) (ev_name rfl) (ev_bin (ev_name (p := .int i) rfl) ev_int bin_sub) g2 (pr63 hi).1 (pr63 hi).2)) (ev_cmp (ev_item (p := vRuns prs) (ev_name rfl) (ev_name (p := .int i) rfl) g4 (lo63 i) (hi63 hi (by decide))) (ev_item (p := vRuns prs) (ev_name rfl) (ev_bin (ev_name (p := .int i) rfl) ev_int bin_sub) g5 (pr63 hi).1 (pr63 hi).2) cB) cI) fun _ => or_nil)) (fun h => nomatch h) (fun _ => ex_nil)) ?_
  have hm1 := range_get mul_tab tl
  rw [Bool.and_eq_true, beq_iff_eq, beq_iff_eq] at hm1
  have l1 : ("\t" : Str).length = 1 := by decide +kernel
  have l2 : (" " : Str).length = 1 := by decide +kernel
  have hx : (List.replicate t 9 ++ List.replicate (4 - t) 32).length ≤ 900 := by rw [List.length_append, List.length_replicate, List.length_replicate]; omega
  refine ex_post (ex_one (@st_if _ _ _ _ _ _ _ _ _ _ (false) _ (tst_cmp (ev_is (ev_equal K.G K.X K.Wk (ev_name (p := wobj CW (S x1) s1) rfl) (ev_ws K.G K.X K.Wk K.len_ (List.replicate t 9 ++ List.replicate (4 - t) 32) hx (ev_is (ev_bin (ev_is (ev_bin ev_str (ev_name (p := .int t) rfl) (bin_muls (mul_ok5 l1 tl).1)) (by rw [hm1.1])) (ev_is (ev_bin ev_str (ev_bin ev_int (ev_name (p := .int t) rfl) bin_sub) (bin_muls (mul_ok5 l2 tl).2)) (by rw [hm1.2])) (bin_adds ?_)) (by rw [S_app])))) (q := .bool (simpleB (rowL m))) (by rw [← weq]; rfl)) (ev_is (ev_attr K.X K.Wk.cls (ev_name (p := wobj CW (S x1) s1) rfl) fun M hM => ws_attr K.Wk (ws_names (n := 0)).2.2 rfl M _) (q := .bool (simpleB (rowL m))) (by rw [← wsim])) cS) (fun h => nomatch h) (fun _ => ex_nil))) ⟨rfl, rfl, rfl, rfl, rfl, rfl, rfl, rfl, trivial⟩
  rw [S_len, S_len, List.length_replicate, List.length_replicate]; exact fitL (by omega)
theorem law5 (K : Kit h₀ mg mb F CW CB) {cells : List Int} {line : List Nat} {prs : List (Int × Int)} {ns : List Int} (hc : cells.length = 10) (low : Low4 prs) (hll : line.length ≤ 100) (hline : ∃ c r, line = c :: r ∧ c ≠ 32 ∧ c ≠ 9) {o : Out}
    (h : ExOK pw w h₀ (d + 9) LS (σ4 CW CB cells line prs ns) (LB.drop 25) o) : ExOK pw w h₀ (d + 9) LS (σ4 CW CB cells line prs ns) (LB.drop 23) o := by
  refine ex_cons (st_for (it_range (n := 16) K.G K.range_ ev_int (by decide) (by decide)) (.inl ⟨_, _, rfl⟩) (turns_seq (fun _ => σ4 CW CB cells line prs ns) (rng 0 16) 0 fun i p hp => ⟨_, asg_name (.inr rfl), ?_⟩)) ?_
  · obtain ⟨hi, rfl⟩ := rng_get hp
    rw [Int.zero_add]
    exact law_white K low hll hi
  have g0 : item? (il cells) 9 = some (.int (cells.getD 9 0)) := by
    refine item_get (by decide) ?_
    refine il_get ?_
    rw [List.getD_eq_getElem?_getD]
    show cells[9]? = some ((cells[9]?).getD 0)
    rw [List.getElem?_eq_getElem (by omega)]; rfl
  obtain ⟨r1, r2⟩ := fmod_range (cells.getD 9 0) 16 (by decide)
  have hi : ((cells.getD 9 0).fmod 16).toNat < 16 := by omega
  have hk : (cells.getD 9 0).fmod 16 = ((((cells.getD 9 0).fmod 16).toNat : Nat) : Int) := by omega
  obtain ⟨m, hm, e, ec⟩ := en_row low hi
  have wf := w_of hm
  have g1 : item? (vWhites CW line prs) ((cells.getD 9 0).fmod 16) = some (wobj CW (S (enL prs ((cells.getD 9 0).fmod 16).toNat ++ line)) (whOf (rowL m))) := by rw [← e]; exact item_r16 (f := fun n => wobj CW (S (enL prs n ++ line)) (whOf (enL prs n))) hi hk
  have g2 : item? (vEnds prs) ((cells.getD 9 0).fmod 16) = some (.str (S (rowL m))) := by rw [← e]; exact item_r16 (f := fun n => PV.str (S (enL prs n))) hi hk
  generalize enL prs ((cells.getD 9 0).fmod 16).toNat ++ line = x1 at g1
  have ew : whOf (rowL m ++ [32]) = wGo w0 ((rowL m ++ [32]) ++ line) := by
    obtain ⟨c, r, rfl, c1, c2⟩ := hline
    refine (wGo_stop c1 c2 r (rowL m ++ [32]) w0 fun x hx => ?_).symm
    rcases List.mem_append.mp hx with hx | hx
    · exact row_char hm x hx
    · simp at hx; exact .inr hx
  have hlen : ((rowL m ++ [32]) ++ line).length ≤ 900 := by rw [List.length_append, List.length_append, row_len]; simp; omega
  have more := wf.more
  rw [ew] at more
  have cS := cmp_isntb (prog := pw) (w := w) (h₀ := h₀) (d := d + 9) (a := false) (b := false)
  rw [show (false != false) = false from rfl] at cS
  have l2 : (" " : Str).length ≤ 1 := by decide +kernel
  have lr : (S (rowL m)).length ≤ 4 := by show (rowL m).length ≤ 4; rw [row_len]; exact Nat.le_refl 4
  have lline : (S line).length ≤ 100 := hll
  refine ex_cons (@st_if _ _ _ _ _ _ _ _ _ _ (false) _ (tst_cmp (ev_is (ev_equal K.G K.X K.Wk (ev_item (p := vWhites CW line prs) (ev_name rfl) (ev_bin (ev_item (p := il cells) (ev_name rfl) ev_int g0 (by decide) (by decide)) ev_int (bin_mod (by decide))) g1 (fm63 _ (by decide) (by decide)).1 (fm63 _ (by decide) (by decide)).2) (ev_ws K.G K.X K.Wk K.len_ ((rowL m ++ [32]) ++ line) hlen (ev_is (ev_adds (ev_adds ⟨ev_item (p := vEnds prs) (ev_name rfl) (ev_bin (ev_item (p := il cells) (ev_name rfl) ev_int g0 (by decide) (by decide)) ev_int (bin_mod (by decide))) g2 (fm63 _ (by decide) (by decide)).1 (fm63 _ (by decide) (by decide)).2, lr⟩ ⟨ev_str, l2⟩ (by decide)) ⟨ev_name (p := .str (S line)) rfl, lline⟩ (by decide)).1 (by rw [S_blank, S_app, S_app])))) (q := .bool false) (by rw [more])) ev_bool cS) (fun h => nomatch h) (fun _ => ex_nil)) h
end
end Mine.Internal

end PartE5
section PartE6
open PySem PySem.W PyProof.Rows
set_option Elab.async false
set_option maxRecDepth 100000
set_option linter.unusedVariables false
namespace Mine.Internal
section
variable {w : World} {h₀ : Heap} {d : Nat} {sc : Scope} {σ : Sig} {mg mb : Str → Option Value} {F : Frag} {CW CB : Addr} {prog : Program} {W : Str → Bool}
theorem cmp_eq_nil {xs : List PV} : CmpOK prog w h₀ d .Eq (.lst xs) (.lst []) xs.isEmpty := fun A K s x y hA hO ra rb => by
  cases ra with
  | @lst a o vs _ e q r =>
  cases rb with
  | @lst b o' vs' _ e' q' r' =>
  cases r'
  have hu : A.units < cLine := by have := hA.room; omega
  have hl : s.heap.IsList a vs.toArray := ⟨o, hO.sub _ _ e, q⟩
  have hb : s.heap.IsList b ([] : List Value).toArray := ⟨o', hO.sub _ _ e', q'⟩
  cases r with
  | nil => exact SeqAt.RcAt.lists (e := fun _ => true) hl hb rfl hu (fun j h1 _ => by simp at h1) prog w _ _ ⟨K, Step.refl hO.sub, rfl⟩
  | cons _ _ => exact SeqAt.RcAt.lists_lengths hl hb rfl hu prog w _ _ ⟨K, Step.refl hO.sub, rfl⟩
theorem ints_isD (l : List Int) : IsD (il l) (.list (l.map .int)) := .lst (isDs_ints l)
theorem ints_lay (l : List Int) : Lay 1 (.list (l.map .int)) := lay_list (lay_ints' l)
theorem cmp_ints_eq (a b : List Int) : CmpOK prog w h₀ d .Eq (il a) (il b) (decide (a = b)) := by
  have := cmp_eqD (prog := prog) (w := w) (h₀ := h₀) (d := d) (ints_isD a) (ints_isD b) ((ints_lay a).shaped (by decide)) ((ints_lay b).shaped (by decide))
  rw [show PyData.eqv (.list (a.map .int)) (.list (b.map .int)) = PyData.eqvAll (a.map .int) (b.map .int) from rfl, eqv_ints] at this
  exact this
theorem cmp_ints_ne (a b : List Int) : CmpOK prog w h₀ d .NotEq (il a) (il b) (!decide (a = b)) := by
  have := cmp_neD (prog := prog) (w := w) (h₀ := h₀) (d := d) (ints_isD a) (ints_isD b) ((ints_lay a).shaped (by decide)) ((ints_lay b).shaped (by decide))
  rw [show PyData.eqv (.list (a.map .int)) (.list (b.map .int)) = PyData.eqvAll (a.map .int) (b.map .int) from rfl, eqv_ints] at this
  exact this
theorem cmp_in_ints (x : Int) (l : List Int) : CmpOK prog w h₀ d .In (.int x) (il l) (l.contains x) := by
  have := cmp_inD (prog := prog) (w := w) (h₀ := h₀) (d := d) (.int x) (isDs_ints l) rfl (lay_ints l) (show PyData.depth (.int x) ≤ 60 from Nat.zero_le 60)
  have e : ((l.map PyData.int).any fun y => PyData.eqv y (.int x)) = l.contains x := by
    rw [List.any_map]
    clear this
    induction l with
    | nil => rfl
    | cons a r ih =>
      rw [List.any_cons, List.contains_cons, ih]
      show ((a == x) || _) = _
      rw [show (a == x) = (x == a) from Bool.beq_comm]
  rw [e] at this
  exact this
theorem cmp_nofalse (l : List Bool) : CmpOK prog w h₀ d .NotIn (.bool false) (.lst (l.map .bool)) (l.all id) := by
  have lay : ∀ l : List Bool, PyData.canLayAll0 (l.map .bool) = true := fun l => by
    induction l with
    | nil => rfl
    | cons a r ih => exact ih
  have := cmp_ninD (prog := prog) (w := w) (h₀ := h₀) (d := d) (.bool false) (isDs_bools l) rfl (lay l) (by decide)
  have e : (!(l.map PyData.bool).any fun y => PyData.eqv y (.bool false)) = l.all id := by
    clear this lay
    induction l with
    | nil => rfl
    | cons a r ih =>
      rw [List.map_cons, List.any_cons, List.all_cons, ← ih]
      show (!((a == false) || _)) = _
      cases a <;> simp
  rw [e] at this
  exact this
theorem slice_rev4 (a b c e : PV) : slice? (.lst [a, b, c, e]) none none (some (-1)) = some (.lst [e, c, b, a]) := by
  show (if (some (-1 : Int)) = some 0 then none else some (PV.lst (sliceL [a, b, c, e] none none (some (-1))))) = _
  rw [if_neg (by decide)]
  unfold sliceL
  have : sliceRange (sliceBounds none none (some (-1)) [a, b, c, e].length).1 (sliceBounds none none (some (-1)) [a, b, c, e].length).2.1 (sliceBounds none none (some (-1)) [a, b, c, e].length).2.2 = [3, 2, 1, 0] := (by decide +kernel : sliceRange (sliceBounds none none (some (-1)) 4).1 (sliceBounds none none (some (-1)) 4).2.1 (sliceBounds none none (some (-1)) 4).2.2 = [3, 2, 1, 0])
  rw [this]; rfl
theorem slice_ns {l : List Nat} {k : Nat} (hk : k ≤ l.length) : Txt.slice (S l) none (some (k : Int)) = S (l.take k) := by
  have := slice_core (l := l) (u := none) (v := some (k : Int)) (a := 0) (b := k) (Nat.zero_le _) hk (by
    unfold Builtin.Str.strSliceIndices
    simp only [show (1 : Int) > 0 by decide, if_true, show ¬ ((k : Int) < 0) by omega, if_false]
    rw [clip_le hk]; rfl)
  rw [this]; simp
theorem rng2_get {a : Int} {n i : Nat} {p : PV} (h : (rng a n)[i]? = some p) : i < n ∧ p = .int (a + i) := rng_get h
theorem body_lt_ws (K : Kit h₀ mg mb F CW CB) (n : Int) (x : Str) (s : WS) : ExOK pw w h₀ d (scopeOf (methAt 9 3)) [("self", .val (hobj CB n)), ("other", .val (wobj CW x s))] (bodyOf (methAt 9 3)) (.ret (.bool true)) := by
  refine ex_stop (@st_if _ _ _ _ _ _ _ _ _ _ (true) _ (@tst_not _ _ _ _ _ _ _ _ (false) (tst_val (ev_call K.G K.B.has (.inr (.inl ⟨_, rfl⟩)) (evs_cons (ev_name (p := wobj CW x s) rfl) (evs_cons ev_str evs_nil)) (call_hasattr_no K.X K.Wk.cls K.wmod K.worder (by decide +kernel) rfl K.wshort (by decide +kernel))) truth_bool)) (fun _ => ex_one (st_return ev_bool)) (fun h => nomatch h))
theorem cmp_lt_ws (K : Kit h₀ mg mb F CW CB) (n : Int) (x : Str) (s : WS) : CmpOK pw w h₀ (d + 1) .Lt (hobj CB n) (wobj CW x s) true := by
  obtain ⟨f, h1, h2, h3⟩ := K.B.lt
  exact cmp_lt_obj K.X h1 h2 (.inr K.sub_) (h3.call K.G okLt rfl (body_lt_ws K n x s))
end
end Mine.Internal

end PartE6
section PartE7
open PySem PySem.W PyProof.Rows
set_option Elab.async false
set_option maxRecDepth 100000
set_option linter.unusedVariables false
namespace Mine.Internal
noncomputable def ranks4 : List Int := [1, 2, 3, 5]
noncomputable def badB (prs : List (Int × Int)) (o : List Int) : Bool := !decide (runOf prs o = ranks4)
noncomputable def wrongL (prs : List (Int × Int)) : List (List Int) := perms.filter (badB prs)
theorem all_simple {prs : List (Int × Int)} (low : Low4 prs) : (r16 fun n => simpleB (enL prs n)).all id = (wrongL prs).isEmpty := by
  have h := noughts low
  have e1 : ((r16 fun n => simpleB (enL prs n)).all id = true) ↔ ∀ n, n < 16 → simpleB (slideOf prs (rowL n)) = true := by
    unfold r16
    rw [List.all_map, List.all_eq_true]
    exact ⟨fun k n hn => k n (List.mem_range.mpr hn), fun k n hn => k n (List.mem_range.mp hn)⟩
  have e2 : ((wrongL prs).isEmpty = true) ↔ ∀ o ∈ perms, runOf prs o = [1, 2, 3, 5] := by
    unfold wrongL
    rw [List.isEmpty_iff, List.filter_eq_nil_iff]
    refine forall_congr' fun o => forall_congr' fun ho => ?_
    unfold badB ranks4
    simp
  exact Bool.eq_iff_iff.mpr (e1.trans (h.symm.trans e2.symm))
theorem turned_bool {prs : List (Int × Int)} (near : Near prs) : decide (runOf prs [5, 3, 2, 1] = ranks4) = (wrongL prs).isEmpty := by
  have h := turned near
  have e2 : ((wrongL prs).isEmpty = true) ↔ ∀ o ∈ perms, runOf prs o = [1, 2, 3, 5] := by
    unfold wrongL
    rw [List.isEmpty_iff, List.filter_eq_nil_iff]
    refine forall_congr' fun o => forall_congr' fun ho => ?_
    unfold badB ranks4
    simp
  refine Bool.eq_iff_iff.mpr (Iff.trans ?_ (h.symm.trans e2.symm))
  exact decide_eq_true_iff
noncomputable def σ5 (CW CB : Addr) (cells : List Int) (line : List Nat) (prs : List (Int × Int)) (ns : List Int) : Sig := [("cells", .val (il cells)), ("line", .val (.str (S line))), ("by_http", .val (pl prs)), ("outcome", .val (.lst ((runOf prs ns).map (hobj CB)))), ("ends", .val (vEnds prs)), ("ranks", .val (.lst (ranks4.map (hobj CB)))), ("wrong", .val (.lst ((wrongL prs).map fun o : List Int => .lst (o.map (hobj CB)))))]
section
variable {w : World} {h₀ : Heap} {d : Nat} {sc : Scope} {σ : Sig} {mg mb : Str → Option Value} {F : Frag} {CW CB : Addr} {prog : Program} {W : Str → Bool}
theorem ev_four {pos p1 p2 p3 p4 : Pos} {k1 k2 k3 k4 : Nat} : EvOK pw w h₀ d sc σ (.List [.Constant (.int 1) k1 p1, .Constant (.int 2) k2 p2, .Constant (.int 3) k3 p3, .Constant (.int 5) k4 p4] pos) (il ranks4) := by
  refine @ev_list _ _ _ _ _ _ _ _ _ ?_ (show 4 ≤ sizeLine by decide)
  iterate 4 (refine @evs_int _ _ _ _ _ _ _ _ _ _ _ ?_)
  exact @evs_nil _ _ _ _ _ _
theorem ev_fourT {pos p1 p2 p3 p4 : Pos} {k1 k2 k3 k4 n : Nat} : EvOK pw w h₀ d sc σ (.Tuple [.Constant (.int 1) k1 p1, .Constant (.int 2) k2 p2, .Constant (.int 3) k3 p3, .Constant (.int 5) k4 p4] n pos) (.tup (ranks4.map .int)) := by
  refine @ev_tuple _ _ _ _ _ _ _ _ _ _ ?_ (show 4 ≤ sizeLine by decide)
  iterate 4 (refine @evs_int _ _ _ _ _ _ _ _ _ _ _ ?_)
  exact @evs_nil _ _ _ _ _ _
theorem law6 (K : Kit h₀ mg mb F CW CB) {cells : List Int} {line : List Nat} {prs : List (Int × Int)} {ns : List Int} (low : Low4 prs) (hll : line.length ≤ 100) {o : Out}
    (h : ExOK pw w h₀ (d + 9) LS (σ5 CW CB cells line prs ns) (LB.drop 29) o) : ExOK pw w h₀ (d + 9) LS (σ4 CW CB cells line prs ns) (LB.drop 25) o := by
  refine ex_frz (x := ("simple" : Str)) (p := .lst ((r16 fun n => simpleB (enL prs n)).map .bool)) (st_assign_listcomp (it_list (its := r16 fun n => wobj CW (S (enL prs n ++ line)) (whOf (enL prs n))) (ev_name rfl)) ?_ (.inl ⟨_, _, rfl⟩)) ?_
  · rw [show (r16 fun n => simpleB (enL prs n)).map PV.bool = (List.range 16).map fun n => PV.bool (simpleB (enL prs n)) by unfold r16; rw [List.map_map]; rfl]
    refine comp_maps (fun n => wobj CW (S (enL prs n ++ line)) (whOf (enL prs n))) (fun n => PV.bool (simpleB (enL prs n))) (List.range 16) [] (fun n hn => ⟨_, asg_name, trivial, ?_⟩) (by decide)
    obtain ⟨m, hm, e, _⟩ := en_row low (List.mem_range.mp hn)
    rw [e, ← (w_of hm).simple]
    exact ev_attr K.X K.Wk.cls (ev_name (p := wobj CW _ (whOf (rowL m))) rfl) fun M hM => ws_attr K.Wk (ws_names (n := 0)).2.2 rfl M _
  refine ex_frz (x := ("ranks" : Str)) (p := .lst (ranks4.map (hobj CB))) (st_assign_listcomp (it_tup (its := ranks4.map .int) (@ev_fourT _ _ _ _ _ _ _ _ _ _ _ _ _ _ _)) ?_ (.inl ⟨_, _, rfl⟩)) ?_
  · exact comp_maps PV.int (hobj CB) ranks4 [] (fun n _ => ⟨_, asg_name, trivial, ev_fn K.f18 K.G ok18 (evs_cons (ev_name rfl) evs_nil) (@body_handler _ _ _ _ _ _ _ K.G K.X K.B n)⟩) (by decide)
  refine ex_frz (x := ("wrong" : Str)) (p := .lst ((wrongL prs).map fun o : List Int => .lst (o.map (hobj CB)))) (st_assign_listcomp (it_list (its := perms.map fun o : List Int => PV.lst (o.map (hobj CB))) (ev_is (ev_fn K.f21 K.G ok21 (evs_cons (ev_name (p := .lst (ranks4.map (hobj CB))) rfl) evs_nil) (@body_orders _ _ _ _ _ _ (hobj CB) K.G K.range_ K.len_ ranks4 (by decide))) (by unfold ll perms; rw [List.map_map]; rfl))) ?_ (.inl ⟨_, _, rfl⟩)) ?_
  · rw [show ((wrongL prs).map fun o : List Int => PV.lst (o.map (hobj CB))) = [] ++ (perms.filter (badB prs)).map (fun o : List Int => PV.lst (o.map (hobj CB))) from rfl]
    generalize hpp : perms = pp
    refine comp_filters (fun o : List Int => PV.lst (o.map (hobj CB))) (fun o : List Int => PV.lst (o.map (hobj CB))) (badB prs) pp [] (fun q hq => ⟨_, asg_name, ⟨rfl, trivial⟩, ?_, fun _ => ev_name rfl⟩) (by rw [List.length_nil, Nat.zero_add, ← hpp]; exact fitL (by decide +kernel))
    rw [← hpp] at hq
    have eb : badB prs q = !decide ((runOf prs q).map ordOf = ranks4) := by rw [(perm_ord (perm_run prs q low hq)).1]; rfl
    rw [eb]
    exact tst_cmp (ev_fn K.f22 K.G ok22 (evs_cons (ev_name (p := pl prs) rfl) (evs_cons (ev_name (p := .lst (q.map (hobj CB))) rfl) evs_nil)) (@body_ranks _ _ _ _ _ _ _ K.G K.X K.B K.list_ K.f19 prs low q (perm_ord hq).2)) (@ev_four _ _ _ _ _ _ _ _ _ _ _ _ _ _) (cmp_ints_ne _ _)
  have cI := cmp_isntb (prog := pw) (w := w) (h₀ := h₀) (d := d + 9) (a := ((wrongL prs).map fun o : List Int => PV.lst (o.map (hobj CB))).isEmpty) (b := (r16 fun n => simpleB (enL prs n)).all id)
  rw [show (((wrongL prs).map fun o : List Int => PV.lst (o.map (hobj CB))).isEmpty != (r16 fun n => simpleB (enL prs n)).all id) = false by rw [all_simple low]; simp] at cI
  refine ex_cons (@st_if _ _ _ _ _ _ _ _ _ _ (false) _ (tst_cmp (ev_cmp (ev_name (p := .lst ((wrongL prs).map fun o : List Int => .lst (o.map (hobj CB)))) rfl) (ev_list evs_nil) cmp_eq_nil) (ev_cmp ev_bool (ev_name (p := .lst ((r16 fun n => simpleB (enL prs n)).map .bool)) rfl) (cmp_nofalse _)) cI) (fun h => nomatch h) (fun _ => ex_nil)) ?_
  exact ex_pre h ⟨rfl, rfl, rfl, rfl, rfl, rfl, rfl, trivial⟩
end
end Mine.Internal

end PartE7
section PartE8
open PySem PySem.W PyProof.Rows
set_option Elab.async false
set_option maxRecDepth 100000
set_option linter.unusedVariables false
namespace Mine.Internal
theorem cnt_ones {m k : Nat} (h : m < 16) (hk : k < 5) : Txt.count (S ((rowL m).take k)) " " = ((ones (rowL m) k : Nat) : Int) := by
  rw [S_blank]
  have := range_get (range_get count_ones h) hk
  rwa [beq_iff_eq] at this
noncomputable def NB : List Stmt := match LB[29]? with | some (Stmt.If _ b _ _) => b | _ => []
section
variable {w : World} {h₀ : Heap} {d : Nat} {sc : Scope} {σ : Sig} {mg mb : Str → Option Value} {F : Frag} {CW CB : Addr} {prog : Program} {W : Str → Bool}
noncomputable def σ6 (CW CB : Addr) (cells : List Int) (line : List Nat) (prs : List (Int × Int)) (ns : List Int) (q : List Int) : Sig := [("cells", .val (il cells)), ("line", .val (.str (S line))), ("outcome", .val (.lst ((runOf prs ns).map (hobj CB)))), ("ends", .val (vEnds prs)), ("worst", .val (il q))]
noncomputable def σ7 (CW CB : Addr) (cells : List Int) (line : List Nat) (prs : List (Int × Int)) (ns : List Int) (q g : List Int) (e : List Nat) : Sig := [("cells", .val (il cells)), ("line", .val (.str (S line))), ("outcome", .val (.lst ((runOf prs ns).map (hobj CB)))), ("ends", .val (vEnds prs)), ("worst", .val (il q)), ("end", .val (.str (S e))), ("greats", .val (il g))]
theorem law_size (K : Kit h₀ mg mb F CW CB) {cells : List Int} {line : List Nat} {prs : List (Int × Int)} {ns : List Int} {q : List Int} (hq : q.length = 4) {m t k : Nat} (hm : m < 16) (hk1 : 1 ≤ k) (hk : k < 5)
    (hle : ones (rowL m) k ≤ ((q.take k).filter fun r => (ranks4.drop t).contains r).length) :
    ExOK pw w h₀ (d + 9) LS (upd (σ7 CW CB cells line prs ns q (ranks4.drop t) (rowL m)) "size" (.val (.int k))) (forBody (match NB[2]? with | some (Stmt.For _ _ b _ _) => b[1]? | _ => none)) (.next (σ7 CW CB cells line prs ns q (ranks4.drop t) (rowL m))) := by
  have hr : (S (rowL m)).length ≤ sizeLine := fitL (show (rowL m).length ≤ 10000 by rw [row_len]; decide)
  have s1 : slice? (.str (S (rowL m))) none (some (k : Int)) none = some (.str (S ((rowL m).take k))) := by
    show some (PV.str (Txt.slice (S (rowL m)) none (some (k : Int)))) = _
    rw [slice_ns (by rw [row_len]; omega)]
  have s2 : slice? (il q) none (some (k : Int)) none = some (.lst ((q.take k).map .int)) := by
    have := slice_take (q.map .int) k (by rw [List.length_map, hq]; omega)
    rw [← List.map_take] at this
    exact this
  have hf : (q.map PV.int).length ≤ sizeLine := by rw [List.length_map, hq]; decide
  have e1 : PV.int (Txt.count (S ((rowL m).take k)) " ") = .int (ones (rowL m) k : Nat) := by rw [cnt_ones hm hk]
  generalize hG : ((q.take k).filter fun r => (ranks4.drop t).contains r) = G at hle
  have hlG : (G.map PV.int).length ≤ sizeLine := by
    rw [List.length_map, ← hG]
    refine Nat.le_trans (List.length_filter_le ..) (Nat.le_trans (List.length_take_le ..) (fitL (by omega)))
  have cg := cmp_gti (prog := pw) (w := w) (h₀ := h₀) (d := d + 9) (a := ((ones (rowL m) k : Nat) : Int)) (b := (((G.map PV.int).length : Nat) : Int))
  rw [decide_eq_false (by rw [List.length_map]; omega)] at cg
  refine ex_post (ex_one (@st_if _ _ _ _ _ _ _ _ _ _ (false) _ (tst_cmp (ev_is (ev_count (ev_slice (l := none) (u := some (k : Int)) (k := none) (p := .str (S (rowL m))) (ev_name rfl) part_none (part_some (ev_name (p := .int k) rfl)) part_none s1 hr) ev_str) e1) (ev_call K.G K.len_ (.inr (.inl ⟨_, rfl⟩)) (evs_cons (ev_new (new_listcomp (q := .lst (G.map .int)) (it_list (its := (q.take k).map .int) (ev_slice (l := none) (u := some (k : Int)) (k := none) (p := il q) (ev_name rfl) part_none (part_some (ev_name (p := .int k) rfl)) part_none s2 hf)) ?_ (.inl ⟨_, _, rfl⟩))) evs_nil) (call_len_l hlG)) cg) (fun h => nomatch h) (fun _ => ex_nil))) ⟨rfl, rfl, rfl, rfl, rfl, rfl, rfl, trivial⟩
  rw [← hG]
  exact comp_filters PV.int PV.int (fun r => (ranks4.drop t).contains r) (q.take k) [] (fun r _ => ⟨_, asg_name, ⟨rfl, trivial⟩, tst_cmp (ev_name rfl) (ev_name (p := il (ranks4.drop t)) rfl) (cmp_in_ints _ _), fun _ => ev_name rfl⟩) (by rw [List.length_nil, Nat.zero_add]; exact Nat.le_trans (List.length_take_le ..) (fitL (by omega)))
theorem law_end (K : Kit h₀ mg mb F CW CB) {cells : List Int} {line : List Nat} {prs : List (Int × Int)} {ns : List Int} (near : Near prs) {i : Nat} (hi : i < 16) :
    ExOK pw w h₀ (d + 9) LS (upd (σ6 CW CB cells line prs ns (runOf prs [5, 3, 2, 1])) "end" (.val (.str (S (enL prs i))))) (forBody NB[2]?) (.next (σ6 CW CB cells line prs ns (runOf prs [5, 3, 2, 1]))) := by
  have low := near_low4 near
  obtain ⟨m, hm, e, ec⟩ := en_row low hi
  have hg : ∀ k, k < 5 → ones (rowL m) k ≤ (((runOf prs [5, 3, 2, 1]).take k).filter fun r => (ranks4.drop ((rowL m).count 9)).contains r).length := fun k hk => by
    have := great_le near hi hk
    rw [show slideOf prs (rowL i) = rowL m from e] at this
    exact this
  have hq : (runOf prs [5, 3, 2, 1]).length = 4 := runOf_length prs _
  rw [e]
  generalize runOf prs [5, 3, 2, 1] = q at hg hq ⊢
  have tl := tabs_lt hm
  have cr := cnt_row hm
  generalize (rowL m).count 9 = t at hg tl cr
  have s1 : slice? (il ranks4) (some (Txt.count (S (rowL m)) "\t")) none none = some (il (ranks4.drop t)) := by
    rw [cr]
    have := slice_drop (ranks4.map .int) t (by show t ≤ 4; omega)
    rw [← List.map_drop] at this
    exact this
  refine ex_cons (st_assign (ev_slice (l := some (Txt.count (S (rowL m)) "\t")) (u := none) (k := none) (p := il ranks4) (@ev_four _ _ _ _ _ _ _ _ _ _ _ _ _ _) (part_some (ev_count (ev_name (p := .str (S (rowL m))) rfl) ev_str)) part_none part_none s1 (show 4 ≤ sizeLine by decide))) ?_
  refine ex_pre ?_ (show Sub (σ7 CW CB cells line prs ns q (ranks4.drop t) (rowL m)) _ from ⟨rfl, rfl, rfl, rfl, rfl, rfl, rfl, trivial⟩)
  refine ex_post (ex_one (st_for (it_range2 (a := 1) (b := 4) K.G K.range_ ev_int ev_int (by decide) (by decide) (by decide) (by decide) rfl (fun _ => rfl) (fun _ => ⟨_, _, rfl⟩) (fun _ => rfl) (fun _ => rfl)) (.inl ⟨_, _, rfl⟩) (turns_seq (fun _ => σ7 CW CB cells line prs ns q (ranks4.drop t) (rowL m)) (rng 1 3) 0 fun j p hp => ⟨_, asg_name, ?_⟩))) ⟨rfl, rfl, rfl, rfl, rfl, trivial⟩
  obtain ⟨hj, rfl⟩ := rng_get hp
  rw [show (1 : Int) + (j : Int) = ((1 + j : Nat) : Int) by omega]
  exact law_size K hq hm (by omega) (by omega) (hg (1 + j) (by omega))
theorem law7 (K : Kit h₀ mg mb F CW CB) {cells : List Int} {line : List Nat} {prs : List (Int × Int)} {ns : List Int} (hc : cells.length = 10) (low : Low4 prs) (hnear : nearOf cells = true → Near prs) (hll : line.length ≤ 100) (hn4 : ns.length = 4) :
    ExOK pw w h₀ (d + 9) LS (σ5 CW CB cells line prs ns) (LB.drop 29) (.ret (.bool true)) := by
  have g0 : item? (il cells) 0 = some (.int (cells.getD 0 0)) := by
    refine item_get (by decide) ?_
    refine il_get ?_
    rw [List.getD_eq_getElem?_getD]
    show cells[0]? = some ((cells[0]?).getD 0)
    rw [List.getElem?_eq_getElem (by omega)]; rfl
  refine ex_cons (@st_if _ _ _ _ _ _ _ _ _ _ (nearOf cells) (.next [("line", .val (.str (S line))), ("outcome", .val (.lst ((runOf prs ns).map (hobj CB))))]) (tst_cmp (ev_bin (ev_item (p := il cells) (ev_name rfl) ev_int g0 (by decide) (by decide)) ev_int (bin_mod (by decide))) ev_int cmp_eqi) (fun hb => ?_) (fun _ => ex_end ⟨rfl, rfl, trivial⟩)) ?_
  · have near := hnear hb
    have hw : (runOf prs [5, 3, 2, 1]).map ordOf = runOf prs [5, 3, 2, 1] := (perm_ord (perm_run prs _ low rev_perm)).1
    refine ex_cons (st_assign (p := il (runOf prs [5, 3, 2, 1])) (ev_is (ev_fn K.f22 K.G ok22 (evs_cons (ev_name (p := pl prs) rfl) (evs_cons (p := .lst (([5, 3, 2, 1] : List Int).map (hobj CB))) (ev_slice (l := none) (u := none) (k := some (-1)) (p := .lst (ranks4.map (hobj CB))) (ev_name rfl) part_none part_none (part_some (ev_neg ev_int)) (slice_rev4 _ _ _ _) (show 4 ≤ sizeLine by decide)) evs_nil)) (@body_ranks _ _ _ _ _ _ _ K.G K.X K.B K.list_ K.f19 prs low [5, 3, 2, 1] rfl)) (by rw [hw]))) ?_
    have cI := cmp_isntb (prog := pw) (w := w) (h₀ := h₀) (d := d + 9) (a := decide (runOf prs [5, 3, 2, 1] = ranks4)) (b := ((wrongL prs).map fun o : List Int => PV.lst (o.map (hobj CB))).isEmpty)
    rw [show (decide (runOf prs [5, 3, 2, 1] = ranks4) != ((wrongL prs).map fun o : List Int => PV.lst (o.map (hobj CB))).isEmpty) = false by rw [turned_bool near]; simp] at cI
    refine ex_cons (@st_if _ _ _ _ _ _ _ _ _ _ (false) _ (tst_cmp (ev_cmp (ev_name (p := il (runOf prs [5, 3, 2, 1])) rfl) (@ev_four _ _ _ _ _ _ _ _ _ _ _ _ _ _) (cmp_ints_eq _ _)) (ev_cmp (ev_name (p := .lst ((wrongL prs).map fun o : List Int => .lst (o.map (hobj CB)))) rfl) (ev_list evs_nil) cmp_eq_nil) cI) (fun h => nomatch h) (fun _ => ex_nil)) ?_
    refine ex_pre ?_ (show Sub (σ6 CW CB cells line prs ns (runOf prs [5, 3, 2, 1])) _ from ⟨rfl, rfl, rfl, rfl, rfl, trivial⟩)
    refine ex_post (ex_one (st_for (it_list (its := r16 fun n => .str (S (enL prs n))) (ev_name rfl)) (.inl ⟨_, _, rfl⟩) (turns_seq (fun _ => σ6 CW CB cells line prs ns (runOf prs [5, 3, 2, 1])) (r16 fun n => .str (S (enL prs n))) 0 fun i p hp => ⟨_, asg_name, ?_⟩))) ⟨rfl, rfl, trivial⟩
    have hi : i < 16 := by have := (List.getElem?_eq_some_iff.mp hp).1; rwa [r16_len] at this
    rw [r16_get hi] at hp
    cases hp
    exact law_end K near hi
  · have hq4 : (runOf prs ns).length = 4 := (runOf_length prs ns).trans hn4
    have g1 : item? (.lst ((runOf prs ns).map (hobj CB))) 0 = some (hobj CB ((runOf prs ns).getD 0 0)) := by
      have := get_hobj (C := CB) (r := runOf prs ns) (i := 0) (by decide) (by omega)
      exact this
    generalize (runOf prs ns).getD 0 0 = n at g1
    have c1 := cmp_isb (prog := pw) (w := w) (h₀ := h₀) (d := d + 9) (a := decide (ordOf n < ordOf n)) (b := false)
    rw [show (decide (ordOf n < ordOf n) == false) = true by simp] at c1
    have c2 := cmp_isb (prog := pw) (w := w) (h₀ := h₀) (d := d + 9) (a := true) (b := true)
    rw [show (true == true) = true from rfl] at c2
    refine ex_one (st_return (ev_is (ev_and (b := true) (ev_cmp (ev_cmp (ev_item (p := .lst ((runOf prs ns).map (hobj CB))) (ev_name rfl) ev_int g1 (by decide) (by decide)) (ev_item (p := .lst ((runOf prs ns).map (hobj CB))) (ev_name rfl) ev_int g1 (by decide) (by decide)) (cmp_lt K.G K.X K.B n n)) ev_bool c1) (fun _ => ev_cmp (ev_cmp (ev_item (p := .lst ((runOf prs ns).map (hobj CB))) (ev_name rfl) ev_int g1 (by decide) (by decide)) (ev_ws K.G K.X K.Wk K.len_ line (by omega) (ev_name (p := .str (S line)) rfl)) (cmp_lt_ws K n _ _)) ev_bool c2)) rfl))
theorem near_prs {cells : List Int} (h : nearOf cells = true) : Near ((itsOf cells).map prI) := by
  rw [← pairs_its]
  intro p hp
  obtain ⟨i, hi, rfl⟩ := List.mem_map.mp hp
  have hi := List.mem_range.mp hi
  have e := near_pair cells h hi
  obtain ⟨h1, h2, h3, h4⟩ := pair4 cells hi
  generalize pairAt cells i = p at *
  obtain ⟨a, b⟩ := p
  have ha : a = 0 ∨ a = 1 ∨ a = 2 := by dsimp only at *; omega
  have hb : b = a + 1 := e
  subst hb
  rcases ha with rfl | rfl | rfl <;> decide
theorem line_head {its : List It} (ok : ∀ t ∈ its, t.ok) (hn : its ≠ []) : ∃ c r, lineL its = c :: r ∧ c ≠ 32 ∧ c ≠ 9 := by
  cases its with
  | nil => exact absurd rfl hn
  | cons t r =>
    have := (ok t (.head _)).1
    cases r with
    | nil => exact ⟨65 + t.k, _, rfl, by omega, by omega⟩
    | cons y r => exact ⟨65 + t.k, _, rfl, by omega, by omega⟩
theorem body_law (K : Kit h₀ mg mb F CW CB) (script : List Int) (hs : script.length ≤ 1000) : ExOK pw w h₀ (d + 9) LS [("script", .val (il script))] LB (.ret (.bool true)) := by
  refine law1 K script hs ?_
  have hc : (cellsOf script).length = 10 := cellsAt_length _ _
  generalize cellsOf script = cells at hc ⊢
  have low : Low4 ((itsOf cells).map prI) := by rw [← pairs_its]; exact low4_pairs cells
  have hll := line_len (its_ok cells)
  rw [its_len] at hll
  have hn4 : (cells.drop 6).length = 4 := by rw [List.length_drop, hc]
  have hh := line_head (its_ok cells) (its_ne cells)
  exact law2 K cells (law3 K cells hc (law4 K low (by omega) hh (law5 K hc low (by omega) hh (law6 K low (by omega) (law7 K hc low (fun h => near_prs h) (by omega) hn4)))))
end
end Mine.Internal

end PartE8
section PartJ1
open PySem PySem.W PyProof.Rows
set_option Elab.async false
set_option maxRecDepth 100000
set_option linter.unusedVariables false
namespace Mine.Internal
section
variable {w : World} {h : Heap} {mg mb : Str → Option Value} {F : Frag} {CW CB : Addr}
theorem fnAt_of {i : Nat} {st : Stmt} {a : Addr} {oc : Value} {od : Option Addr} {name qual : Str} {params : Arguments} {body : List Stmt} {scope : Scope} {dV kV doc pm cdv ct : Value} {an : Option Addr} {osl : Array (Option Value)} (X : F.In h)
    (e2 : F.lookup a = some ⟨oc, od, .func (fnOf name qual params body scope dV kV doc pm an cdv ct), osl⟩) (e3 : codeIn F cdv qual = true) (hb : body = bodyOf st) (hs : scope = scopeOf st) (hk : scope.kind = .function) (hco : scope.isCoroutine = false) :
    FnAt h a (fnOf name qual params body scope dV kV doc pm an cdv ct) (bodyOf st) :=
  ⟨⟨_, X _ _ e2, rfl⟩, codeRec_of X e3, by rw [← hb], rfl, rfl, rfl, hk, hco⟩
theorem fnI_of {i : Nat} {nm : Str} {xs : List Str} {a : Addr} {oc : Value} {od : Option Addr} {name qual : Str} {params : Arguments} {body : List Stmt} {scope : Scope} {dV kV doc pm cdv ct : Value} {an : Option Addr} {osl : Array (Option Value)} (X : F.In h) (G : h.Ns mainGlobals mg)
    (e1 : nsIn F mainGlobals nm = some (some (.ref a))) (e2 : F.lookup a = some ⟨oc, od, .func (fnOf name qual params body scope dV kV doc pm an cdv ct), osl⟩) (e3 : codeIn F cdv qual = true) (hb : body = bodyOf (stAt i)) (hs : scope = scopeOf (stAt i))
    (hk : scope.kind = .function) (hco : scope.isCoroutine = false) (hbind : ∀ vs : List Value, vs.length = xs.length → bindArgs (fnOf name qual params body scope dV kV doc pm an cdv ct) ⟨vs, []⟩ = pure (xs.zip vs)) : FnI h mg mb i nm a xs :=
  ⟨⟨_, fnAt_of (i := i) (st := stAt i) X e2 e3 hb hs hk hco, hs, hbind⟩, .inl (mg_of X G e1)⟩
theorem fnS_of {st : Stmt} {xs : List Str} {a : Addr} {oc : Value} {od : Option Addr} {name qual : Str} {params : Arguments} {body : List Stmt} {scope : Scope} {dV kV doc pm cdv ct : Value} {an : Option Addr} {osl : Array (Option Value)} (X : F.In h)
    (e2 : F.lookup a = some ⟨oc, od, .func (fnOf name qual params body scope dV kV doc pm an cdv ct), osl⟩) (e3 : codeIn F cdv qual = true) (hb : body = bodyOf st) (hs : scope = scopeOf st)
    (hk : scope.kind = .function) (hco : scope.isCoroutine = false) (hbind : ∀ vs : List Value, vs.length = xs.length → bindArgs (fnOf name qual params body scope dV kV doc pm an cdv ct) ⟨vs, []⟩ = pure (xs.zip vs)) : FnS h st a xs :=
  ⟨_, fnAt_of (i := 0) X e2 e3 hb hs hk hco, hs, hbind⟩
theorem kitE_of {a : Addr} {oc : Value} {od : Option Addr} {name qual : Str} {params : Arguments} {body : List Stmt} {scope : Scope} {dV kV doc pm cdv ct : Value} {an : Option Addr} {osl : Array (Option Value)} (X : F.In h) (G : h.Ns mainGlobals mg)
    (e1 : nsIn F mainGlobals "_iter_escaped_chars" = some (some (.ref a))) (e2 : F.lookup a = some ⟨oc, od, .func (fnOf name qual params body scope dV kV doc pm an cdv ct), osl⟩) (e3 : codeIn F cdv qual = true) (hb : body = bodyOf (stAt 4)) (hs : scope = ESC)
    (hk : scope.kind = .function) (hco : scope.isCoroutine = false) (hbind : ∀ v : Value, bindArgs (fnOf name qual params body scope dV kV doc pm an cdv ct) ⟨[v], []⟩ = pure [(("addr" : Str), v)]) (en : Callee mg mb ("enumerate" : Str) (.type "enumerate")) : KitE h mg mb :=
  ⟨en, _, _, .inl (mg_of X G e1), ⟨⟨_, X _ _ e2, rfl⟩, codeRec_of X e3, by rw [← hb], rfl, rfl, rfl, hk, hco⟩, hs, hbind⟩
theorem kitC_of {a T : Addr} {oc oc' : Value} {od od' : Option Addr} {name qual : Str} {params : Arguments} {body : List Stmt} {scope : Scope} {kV doc pm cdv ct : Value} {an : Option Addr} {osl osl' : Array (Option Value)} {items : Array Value} {n : Nat} (X : F.In h) (G : h.Ns mainGlobals mg)
    (e1 : nsIn F mainGlobals "capwords" = some (some (.ref a))) (e2 : F.lookup a = some ⟨oc, od, .func (fnOf name qual params body scope (.ref T) kV doc pm an cdv ct), osl⟩) (e3 : codeIn F cdv qual = true) (e4 : F.lookup T = some ⟨oc', od', .seq items n, osl'⟩) (hb : body = bodyOf (stAt 2)) (hs : scope = scopeOf (stAt 2))
    (hk : scope.kind = .function) (hco : scope.isCoroutine = false) (hbind : ∀ v : Value, ∃ k : Option (Array Value) → Sem (List (Str × Value)), bindArgs (fnOf name qual params body scope (.ref T) kV doc pm an cdv ct) ⟨[v], []⟩ = (seqItems? (.ref T) >>= k) ∧ k (some items) = pure [(("s" : Str), v), (("sep" : Str), Value.none)])
    (hm : Callee mg mb ("map" : Str) (.type "map")) (hst : Callee mg mb ("str" : Str) (.type "str")) : KitC h mg mb := by
  refine ⟨hm, hst, _, _, .inl (mg_of X G e1), ⟨⟨_, X _ _ e2, rfl⟩, codeRec_of X e3, by rw [← hb], rfl, rfl, rfl, hk, hco⟩, hs, fun s v hkp => ?_⟩
  obtain ⟨k, h1, h2⟩ := hbind v
  exact BindsTo.of_defaults rfl (hkp _ _ (X _ _ e4)) rfl h1 h2
theorem bind1 {fd : FuncData} {x : Str} (h : ∀ v : Value, bindArgs fd ⟨[v], []⟩ = pure [(x, v)]) : ∀ vs : List Value, vs.length = [x].length → bindArgs fd ⟨vs, []⟩ = pure ([x].zip vs)
  | [v], _ => h v
  | [], e => by cases e
  | _ :: _ :: _, e => by simp at e
theorem bind2 {fd : FuncData} {x y : Str} (h : ∀ v u : Value, bindArgs fd ⟨[v, u], []⟩ = pure [(x, v), (y, u)]) : ∀ vs : List Value, vs.length = [x, y].length → bindArgs fd ⟨vs, []⟩ = pure ([x, y].zip vs)
  | [v, u], _ => h v u
  | [], e => by cases e
  | [_], e => by simp at e
  | _ :: _ :: _ :: _, e => by simp at e
theorem callee_b {x : Str} {f : Value} (X : F.In h) (G : h.Ns mainGlobals mg) (e : nsIn F mainGlobals x = some none) (hb : ∀ y : Str, y ≠ "__name__" → mb y = bootBuiltins y) (hx : x ≠ "__name__") (hv : bootBuiltins x = some f) : Callee mg mb x f :=
  .inr ⟨mg_none_of X G e, (hb x hx).trans hv⟩
noncomputable def shortC (n : Str) : Bool := decide (n.cps.foldl (fun k c => k + (Str.utf8Of c).length) 0 ≤ 100) && decide ((s!"'{n.toString}' object has no attribute '").length ≤ 90)
theorem short_of {C : Addr} {cd : ClassData} (e : clsIn F C = some cd) (hs : shortC cd.name = true) : shortName F C = true := by
  unfold shortName
  rw [e]; exact hs
theorem clsOk_of {C : Addr} (a : makesIn F C = true) (b : plainOver F C = true) (c : hasDictIn F C = true) (e : findIn F (.ref C) "__getattribute__" = some (some (.builtin "object.__getattribute__"))) (f : findIn F (.ref C) "__getattr__" = some none) (g : findIn F (.ref C) "__setattr__" = some (some (.builtin "object.__setattr__"))) : ClsOk F C := ⟨a, b, c, e, f, g⟩
theorem ordB_of {C : Addr} {t : Tok} (a : findIn F (.ref C) "handler_order" = some (some (.int 500 t))) (b : noGet F (some (.int 500 t)) = true) (c : specialIn F (.int 500 t) "__get__" = some none) : ∃ t, findIn F (.ref C) "handler_order" = some (some (.int 500 t)) ∧ noGet F (some (.int 500 t)) = true ∧ specialIn F (.int 500 t) "__get__" = some none := ⟨t, a, b, c⟩
theorem sign_of {C : Addr} {n x y : Str} {t : Tok} (a : readsIn F C (.type "type") = true) (b : findCls F (.ref C) (.type "type") n = some (.val (.str x t))) (c : x = y) : ∃ mc t, readsIn F C mc = true ∧ findCls F (.ref C) mc n = some (.val (.str y t)) := by
  subst c; exact ⟨_, t, a, b⟩
theorem ints_rep {P : Params} {K : KMap} : ∀ {vs : List Value} {ns : List Int}, IntsAre vs ns → RepL P K vs (ns.map .int)
  | _, _, .nil => .nil
  | _, _, .cons n t r => .cons (.int n t) (ints_rep r)
theorem ok23 : fnOk 23 ["script"] = true := by decide +kernel
theorem callerOk : AOk 10 callerA := ⟨rfl, by decide +kernel, by decide +kernel⟩
theorem good_end {c : ClaimW} {cl : Str → Option Addr} {mean : ExcName → Option Value} {args : List WData} {s₁ : Shared} {fa a : Addr} {items : List Value} {ns : List Int} (K : Kit s₁.heap mg mb F CW CB) (law : FnI s₁.heap mg mb 23 "law" fa ["script"]) (hg : s₁.gens = #[])
    (hl : s₁.heap.IsList a items.toArray) (hi : IntsAre items ns) (hlen : ¬ ((63 : Nat) : Int) < (ns.length : Int)) (hr : ∀ cls, c.raises args cls = false) (hp : c.post args (.bool true) args = true) :
    wpAny (model pw w) callerA (call (.ref fa) [.ref a]) (fun v s' => GoodWG c cl mean args s₁ (.ok (.ret v)) s') (fun e s' => GoodWG c cl mean args s₁ (.error e) s') s₁ := by
  have hcall : CallOK pw w s₁.heap 10 (.ref fa) [il ns] (.bool true) := call_of law K.G ok23 rfl (@body_law _ _ _ _ _ _ _ _ K ns (by omega))
  obtain ⟨o, ho, hoc⟩ := hl
  have hO : Ok s₁.heap (fun b => s₁.heap.get? b) s₁ := ⟨fun _ _ e => e, fun _ _ e => e⟩
  refine wpAny_mono (hcall callerA _ s₁ [.ref a] callerOk hO (.cons (.lst ho hoc (ints_rep hi)) .nil)) (fun v s' hv => ?_) fun _ _ x => x.elim
  obtain ⟨K', st, rv⟩ := hv
  cases rv
  exact ⟨.inl ⟨_, _, [], rfl, hr, ReadsW.bool true, hp, fun _ => ⟨List.nodup_nil, fun _ hm => nomatch hm⟩⟩, .of_keep fun b o e => st.get e, st.os, st.gens.1 (.of_eq hg)⟩
end
end Mine.Internal

end PartJ1
section PartJ2
open PySem PySem.W PyProof.Rows
set_option Elab.async false
set_option maxRecDepth 100000
set_option linter.unusedVariables false
namespace Mine.Internal
noncomputable def paramsOf : Stmt → Arguments
  | .FunctionDef _ a _ _ _ _ _ _ _ _ => a
  | _ => default
/- the part of the heap that the proof leans on, as the top leaves it -/
noncomputable def frag (P : Params) : Frag :=
  (nat_lit 2, ({ cls := Value.none, data := Data.dict #[] } : Obj)) ::
  (nat_lit 3, ({ cls := Value.type "dict", data := Data.dict #[{ hash := PyData.keyHash P (Str.ofString "__name__"), key := Value.str (Str.ofString "__name__") 165, val := Value.str (Str.ofString "law_wu0086_01") 386 }, { hash := PyData.keyHash P (Str.ofString "__doc__"), key := Value.str (Str.ofString "__doc__") 166, val := Value.none }, { hash := PyData.keyHash P (Str.ofString "__package__"), key := Value.str (Str.ofString "__package__") 167, val := Value.none }, { hash := PyData.keyHash P (Str.ofString "__loader__"), key := Value.str (Str.ofString "__loader__") 168, val := Value.builtin "__main__.__loader__#opaque" }, { hash := PyData.keyHash P (Str.ofString "__spec__"), key := Value.str (Str.ofString "__spec__") 169, val := Value.none }, { hash := PyData.keyHash P (Str.ofString "__annotations__"), key := Value.str (Str.ofString "__annotations__") 170, val := Value.ref 6 }, { hash := PyData.keyHash P (Str.ofString "__builtins__"), key := Value.str (Str.ofString "__builtins__") 171, val := Value.ref 4 }, { hash := PyData.keyHash P (Str.ofString "__file__"), key := Value.str (Str.ofString "__file__") 173, val := Value.str (Str.ofString "/claim/cut.py") 172 }, { hash := PyData.keyHash P (Str.ofString "__cached__"), key := Value.str (Str.ofString "__cached__") 174, val := Value.none }, { hash := PyData.keyHash P (Str.ofString "_wall"), key := Value.str (Str.ofString "_wall") 193, val := Value.ref 21 }, { hash := PyData.keyHash P (Str.ofString "capwords"), key := Value.str (Str.ofString "capwords") 203, val := Value.ref 29 }, { hash := PyData.keyHash P (Str.ofString "_iter_escaped_chars"), key := Value.str (Str.ofString "_iter_escaped_chars") 215, val := Value.ref 36 }, { hash := PyData.keyHash P (Str.ofString "_strip_quoted_realnames"), key := Value.str (Str.ofString "_strip_quoted_realnames") 227, val := Value.ref 43 }, { hash := PyData.keyHash P (Str.ofString "Whitespace"), key := Value.str (Str.ofString "Whitespace") 321, val := Value.ref 105 }, { hash := PyData.keyHash P (Str.ofString "BaseHandler"), key := Value.str (Str.ofString "BaseHandler") 368, val := Value.ref 140 }, { hash := PyData.keyHash P (Str.ofString "parse_keqv_list"), key := Value.str (Str.ofString "parse_keqv_list") 379, val := Value.ref 151 }, { hash := PyData.keyHash P (Str.ofString "parse_http_list"), key := Value.str (Str.ofString "parse_http_list") 385, val := Value.ref 156 }, { hash := PyData.keyHash P (Str.ofString "_law_cells"), key := Value.str (Str.ofString "_law_cells") 396, val := Value.ref 163 }, { hash := PyData.keyHash P (Str.ofString "_law_figures"), key := Value.str (Str.ofString "_law_figures") 406, val := Value.ref 170 }, { hash := PyData.keyHash P (Str.ofString "_law_pairs"), key := Value.str (Str.ofString "_law_pairs") 420, val := Value.ref 177 }, { hash := PyData.keyHash P (Str.ofString "_law_dress"), key := Value.str (Str.ofString "_law_dress") 427, val := Value.ref 184 }, { hash := PyData.keyHash P (Str.ofString "_law_typed"), key := Value.str (Str.ofString "_law_typed") 441, val := Value.ref 191 }, { hash := PyData.keyHash P (Str.ofString "_law_handler"), key := Value.str (Str.ofString "_law_handler") 449, val := Value.ref 198 }, { hash := PyData.keyHash P (Str.ofString "_law_run"), key := Value.str (Str.ofString "_law_run") 460, val := Value.ref 205 }, { hash := PyData.keyHash P (Str.ofString "_law_slide"), key := Value.str (Str.ofString "_law_slide") 471, val := Value.ref 212 }, { hash := PyData.keyHash P (Str.ofString "_law_orders"), key := Value.str (Str.ofString "_law_orders") 477, val := Value.ref 217 }, { hash := PyData.keyHash P (Str.ofString "_law_ranks"), key := Value.str (Str.ofString "_law_ranks") 483, val := Value.ref 222 }, { hash := PyData.keyHash P (Str.ofString "law"), key := Value.str (Str.ofString "law") 489, val := Value.ref 227 }] 28 } : Obj)) ::
  (nat_lit 22, ({ cls := Value.type "tuple", data := Data.seq #[Value.none] } : Obj)) ::
  (nat_lit 28, ({ cls := Value.type "code", data := Data.fields #[Value.str (Str.ofString "capwords") 196, Value.str (Str.ofString "capwords") 197, Value.str (Str.ofString "/claim/cut.py") 198, Value.int 5 0, Value.int 2 0, Value.int 0 0, Value.int 0 0, Value.int 3 0, Value.ref 23, Value.bool true, Value.int 181 0, Value.ref 24, Value.none, Value.ref 25, Value.ref 26, Value.ref 27, Value.int 201 0, Value.int 5 0, Value.str (Str.ofString "/claim/cut.py") 202] } : Obj)) ::
  (nat_lit 29, ⟨Value.type "function", none, .func (fnOf (Str.ofString "capwords") (Str.ofString "capwords") (paramsOf (stAt 2)) (bodyOf (stAt 2)) (scopeOf (stAt 2)) (Value.ref 22) (Value.none) (Value.none) (Value.str (Str.ofString "cpy313.string") 194) none (Value.ref 28) (Value.none)), #[]⟩) ::
  (nat_lit 35, ({ cls := Value.type "code", data := Data.fields #[Value.str (Str.ofString "_iter_escaped_chars") 206, Value.str (Str.ofString "_iter_escaped_chars") 207, Value.str (Str.ofString "/claim/cut.py") 208, Value.int 8 0, Value.int 1 0, Value.int 0 0, Value.int 0 0, Value.int 35 0, Value.ref 30, Value.bool true, Value.int 181 0, Value.ref 31, Value.none, Value.ref 32, Value.ref 33, Value.ref 34, Value.int 213 0, Value.int 8 0, Value.str (Str.ofString "/claim/cut.py") 214] } : Obj)) ::
  (nat_lit 36, ⟨Value.type "function", none, .func (fnOf (Str.ofString "_iter_escaped_chars") (Str.ofString "_iter_escaped_chars") (paramsOf (stAt 4)) (bodyOf (stAt 4)) (scopeOf (stAt 4)) (Value.none) (Value.none) (Value.none) (Value.str (Str.ofString "cpy313.email.utils") 204) none (Value.ref 35) (Value.none)), #[]⟩) ::
  (nat_lit 42, ({ cls := Value.type "code", data := Data.fields #[Value.str (Str.ofString "_strip_quoted_realnames") 216, Value.str (Str.ofString "_strip_quoted_realnames") 217, Value.str (Str.ofString "/claim/cut.py") 218, Value.int 21 0, Value.int 1 0, Value.int 0 0, Value.int 0 0, Value.int 3 0, Value.ref 37, Value.bool true, Value.int 181 0, Value.ref 38, Value.none, Value.ref 39, Value.ref 40, Value.ref 41, Value.int 225 0, Value.int 21 0, Value.str (Str.ofString "/claim/cut.py") 226] } : Obj)) ::
  (nat_lit 43, ⟨Value.type "function", none, .func (fnOf (Str.ofString "_strip_quoted_realnames") (Str.ofString "_strip_quoted_realnames") (paramsOf (stAt 5)) (bodyOf (stAt 5)) (scopeOf (stAt 5)) (Value.none) (Value.none) (Value.none) (Value.str (Str.ofString "cpy313.email.utils") 204) none (Value.ref 42) (Value.none)), #[]⟩) ::
  (nat_lit 59, ({ cls := Value.type "code", data := Data.fields #[Value.str (Str.ofString "__init__") 247, Value.str (Str.ofString "Whitespace.__init__") 248, Value.str (Str.ofString "/claim/cut.py") 249, Value.int 43 0, Value.int 2 0, Value.int 0 0, Value.int 0 0, Value.int 3 0, Value.ref 54, Value.bool true, Value.int 181 0, Value.ref 55, Value.none, Value.ref 56, Value.ref 57, Value.ref 58, Value.int 259 0, Value.int 43 0, Value.str (Str.ofString "/claim/cut.py") 260] } : Obj)) ::
  (nat_lit 60, ⟨Value.type "function", none, .func (fnOf (Str.ofString "__init__") (Str.ofString "Whitespace.__init__") (paramsOf (methAt 7 1)) (bodyOf (methAt 7 1)) (scopeOf (methAt 7 1)) (Value.none) (Value.none) (Value.none) (Value.str (Str.ofString "cpy313.tabnanny") 228) none (Value.ref 59) (Value.none)), #[]⟩) ::
  (nat_lit 80, ({ cls := Value.type "code", data := Data.fields #[Value.str (Str.ofString "equal") 277, Value.str (Str.ofString "Whitespace.equal") 278, Value.str (Str.ofString "/claim/cut.py") 279, Value.int 72 0, Value.int 2 0, Value.int 0 0, Value.int 0 0, Value.int 3 0, Value.ref 75, Value.bool true, Value.int 181 0, Value.ref 76, Value.none, Value.ref 77, Value.ref 78, Value.ref 79, Value.int 282 0, Value.int 72 0, Value.str (Str.ofString "/claim/cut.py") 283] } : Obj)) ::
  (nat_lit 81, ⟨Value.type "function", none, .func (fnOf (Str.ofString "equal") (Str.ofString "Whitespace.equal") (paramsOf (methAt 7 4)) (bodyOf (methAt 7 4)) (scopeOf (methAt 7 4)) (Value.none) (Value.none) (Value.none) (Value.str (Str.ofString "cpy313.tabnanny") 228) none (Value.ref 80) (Value.none)), #[]⟩) ::
  (nat_lit 104, ({ cls := Value.type "dict", data := Data.dict #[{ hash := PyData.keyHash P (Str.ofString "__module__"), key := Value.str (Str.ofString "__module__") 237, val := Value.str (Str.ofString "cpy313.tabnanny") 228 }, { hash := PyData.keyHash P (Str.ofString "__firstlineno__"), key := Value.str (Str.ofString "__firstlineno__") 241, val := Value.int 40 240 }, { hash := PyData.keyHash P (Str.ofString "S"), key := Value.str (Str.ofString "S") 245, val := Value.str (Str.ofString " ") 243 }, { hash := PyData.keyHash P (Str.ofString "T"), key := Value.str (Str.ofString "T") 246, val := Value.str (Str.ofString "\t") 244 }, { hash := PyData.keyHash P (Str.ofString "__init__"), key := Value.str (Str.ofString "__init__") 261, val := Value.ref 60 }, { hash := PyData.keyHash P (Str.ofString "longest_run_of_spaces"), key := Value.str (Str.ofString "longest_run_of_spaces") 268, val := Value.ref 67 }, { hash := PyData.keyHash P (Str.ofString "indent_level"), key := Value.str (Str.ofString "indent_level") 276, val := Value.ref 74 }, { hash := PyData.keyHash P (Str.ofString "equal"), key := Value.str (Str.ofString "equal") 284, val := Value.ref 81 }, { hash := PyData.keyHash P (Str.ofString "not_equal_witness"), key := Value.str (Str.ofString "not_equal_witness") 292, val := Value.ref 88 }, { hash := PyData.keyHash P (Str.ofString "less"), key := Value.str (Str.ofString "less") 300, val := Value.ref 95 }, { hash := PyData.keyHash P (Str.ofString "not_less_witness"), key := Value.str (Str.ofString "not_less_witness") 308, val := Value.ref 102 }, { hash := PyData.keyHash P (Str.ofString "__static_attributes__"), key := Value.str (Str.ofString "__static_attributes__") 314, val := Value.ref 103 }, { hash := PyData.keyHash P (Str.ofString "__dict__"), key := Value.str (Str.ofString "__dict__") 316, val := Value.ref 106 }, { hash := PyData.keyHash P (Str.ofString "__weakref__"), key := Value.str (Str.ofString "__weakref__") 318, val := Value.ref 107 }, { hash := PyData.keyHash P (Str.ofString "__doc__"), key := Value.str (Str.ofString "__doc__") 319, val := Value.none }] 4 } : Obj)) ::
  (nat_lit 105, ({ cls := Value.type "type", data := Data.cls { name := Str.ofString "Whitespace", bases := [Value.type "object"], mro := [Value.ref 105, Value.type "object"], ns := 104, qualname := Str.ofString "Whitespace" }, slots := #[none, none, some (Value.str (Str.ofString "Whitespace") 230), some (Value.str (Str.ofString "Whitespace") 238), some (Value.builtin "object.__new__"), some (Value.bool true)] } : Obj)) ::
  (nat_lit 106, ({ cls := Value.type "getset_descriptor", data := Data.fields #[Value.str (Str.ofString "__dict__") 315, Value.ref 105, Value.builtin "function.__dict__", Value.builtin "function.__dict__#set"] } : Obj)) ::
  (nat_lit 107, ({ cls := Value.type "getset_descriptor", data := Data.fields #[Value.str (Str.ofString "__weakref__") 317, Value.ref 105, Value.builtin "ExceptionGroup.__weakref__", Value.none] } : Obj)) ::
  (nat_lit 136, ({ cls := Value.type "code", data := Data.fields #[Value.str (Str.ofString "__lt__") 353, Value.str (Str.ofString "BaseHandler.__lt__") 354, Value.str (Str.ofString "/claim/cut.py") 355, Value.int 93 0, Value.int 2 0, Value.int 0 0, Value.int 0 0, Value.int 3 0, Value.ref 131, Value.bool true, Value.int 181 0, Value.ref 132, Value.none, Value.ref 133, Value.ref 134, Value.ref 135, Value.int 358 0, Value.int 93 0, Value.str (Str.ofString "/claim/cut.py") 359] } : Obj)) ::
  (nat_lit 137, ⟨Value.type "function", none, .func (fnOf (Str.ofString "__lt__") (Str.ofString "BaseHandler.__lt__") (paramsOf (methAt 9 3)) (bodyOf (methAt 9 3)) (scopeOf (methAt 9 3)) (Value.none) (Value.none) (Value.none) (Value.str (Str.ofString "cpy313.urllib.request") 322) none (Value.ref 136) (Value.none)), #[]⟩) ::
  (nat_lit 139, ({ cls := Value.type "dict", data := Data.dict #[{ hash := PyData.keyHash P (Str.ofString "__module__"), key := Value.str (Str.ofString "__module__") 331, val := Value.str (Str.ofString "cpy313.urllib.request") 322 }, { hash := PyData.keyHash P (Str.ofString "__firstlineno__"), key := Value.str (Str.ofString "__firstlineno__") 335, val := Value.int 84 334 }, { hash := PyData.keyHash P (Str.ofString "handler_order"), key := Value.str (Str.ofString "handler_order") 337, val := Value.int 500 336 }, { hash := PyData.keyHash P (Str.ofString "add_parent"), key := Value.str (Str.ofString "add_parent") 345, val := Value.ref 123 }, { hash := PyData.keyHash P (Str.ofString "close"), key := Value.str (Str.ofString "close") 352, val := Value.ref 130 }, { hash := PyData.keyHash P (Str.ofString "__lt__"), key := Value.str (Str.ofString "__lt__") 360, val := Value.ref 137 }, { hash := PyData.keyHash P (Str.ofString "__static_attributes__"), key := Value.str (Str.ofString "__static_attributes__") 361, val := Value.ref 138 }, { hash := PyData.keyHash P (Str.ofString "__dict__"), key := Value.str (Str.ofString "__dict__") 363, val := Value.ref 141 }, { hash := PyData.keyHash P (Str.ofString "__weakref__"), key := Value.str (Str.ofString "__weakref__") 365, val := Value.ref 142 }, { hash := PyData.keyHash P (Str.ofString "__doc__"), key := Value.str (Str.ofString "__doc__") 366, val := Value.none }] 4 } : Obj)) ::
  (nat_lit 140, ({ cls := Value.type "type", data := Data.cls { name := Str.ofString "BaseHandler", bases := [Value.type "object"], mro := [Value.ref 140, Value.type "object"], ns := 139, qualname := Str.ofString "BaseHandler" }, slots := #[none, none, some (Value.str (Str.ofString "BaseHandler") 324), some (Value.str (Str.ofString "BaseHandler") 332), some (Value.builtin "object.__new__"), some (Value.bool true)] } : Obj)) ::
  (nat_lit 141, ({ cls := Value.type "getset_descriptor", data := Data.fields #[Value.str (Str.ofString "__dict__") 362, Value.ref 140, Value.builtin "function.__dict__", Value.builtin "function.__dict__#set"] } : Obj)) ::
  (nat_lit 142, ({ cls := Value.type "getset_descriptor", data := Data.fields #[Value.str (Str.ofString "__weakref__") 364, Value.ref 140, Value.builtin "ExceptionGroup.__weakref__", Value.none] } : Obj)) ::
  (nat_lit 150, ({ cls := Value.type "code", data := Data.fields #[Value.str (Str.ofString "parse_keqv_list") 369, Value.str (Str.ofString "parse_keqv_list") 370, Value.str (Str.ofString "/claim/cut.py") 371, Value.int 97 0, Value.int 1 0, Value.int 0 0, Value.int 0 0, Value.int 3 0, Value.ref 145, Value.bool true, Value.int 181 0, Value.ref 146, Value.none, Value.ref 147, Value.ref 148, Value.ref 149, Value.int 377 0, Value.int 97 0, Value.str (Str.ofString "/claim/cut.py") 378] } : Obj)) ::
  (nat_lit 151, ⟨Value.type "function", none, .func (fnOf (Str.ofString "parse_keqv_list") (Str.ofString "parse_keqv_list") (paramsOf (stAt 10)) (bodyOf (stAt 10)) (scopeOf (stAt 10)) (Value.none) (Value.none) (Value.none) (Value.str (Str.ofString "cpy313.urllib.request") 322) none (Value.ref 150) (Value.none)), #[]⟩) ::
  (nat_lit 155, ({ cls := Value.type "code", data := Data.fields #[Value.str (Str.ofString "parse_http_list") 380, Value.str (Str.ofString "parse_http_list") 381, Value.str (Str.ofString "/claim/cut.py") 382, Value.int 105 0, Value.int 1 0, Value.int 0 0, Value.int 0 0, Value.int 3 0, Value.ref 152, Value.bool true, Value.int 181 0, Value.ref 153, Value.none, Value.none, Value.none, Value.ref 154, Value.int 383 0, Value.int 105 0, Value.str (Str.ofString "/claim/cut.py") 384] } : Obj)) ::
  (nat_lit 156, ⟨Value.type "function", none, .func (fnOf (Str.ofString "parse_http_list") (Str.ofString "parse_http_list") (paramsOf (stAt 11)) (bodyOf (stAt 11)) (scopeOf (stAt 11)) (Value.none) (Value.none) (Value.none) (Value.str (Str.ofString "cpy313.urllib.request") 322) none (Value.ref 155) (Value.none)), #[]⟩) ::
  (nat_lit 162, ({ cls := Value.type "code", data := Data.fields #[Value.str (Str.ofString "_law_cells") 388, Value.str (Str.ofString "_law_cells") 389, Value.str (Str.ofString "/claim/cut.py") 390, Value.int 133 0, Value.int 1 0, Value.int 0 0, Value.int 0 0, Value.int 3 0, Value.ref 157, Value.bool true, Value.int 181 0, Value.ref 158, Value.none, Value.ref 159, Value.ref 160, Value.ref 161, Value.int 394 0, Value.int 133 0, Value.str (Str.ofString "/claim/cut.py") 395] } : Obj)) ::
  (nat_lit 163, ⟨Value.type "function", none, .func (fnOf (Str.ofString "_law_cells") (Str.ofString "_law_cells") (paramsOf (stAt 13)) (bodyOf (stAt 13)) (scopeOf (stAt 13)) (Value.none) (Value.none) (Value.none) (Value.str (Str.ofString "law_wu0086_01") 386) none (Value.ref 162) (Value.none)), #[]⟩) ::
  (nat_lit 169, ({ cls := Value.type "code", data := Data.fields #[Value.str (Str.ofString "_law_figures") 397, Value.str (Str.ofString "_law_figures") 398, Value.str (Str.ofString "/claim/cut.py") 399, Value.int 138 0, Value.int 1 0, Value.int 0 0, Value.int 0 0, Value.int 3 0, Value.ref 164, Value.bool true, Value.int 181 0, Value.ref 165, Value.none, Value.ref 166, Value.ref 167, Value.ref 168, Value.int 404 0, Value.int 138 0, Value.str (Str.ofString "/claim/cut.py") 405] } : Obj)) ::
  (nat_lit 170, ⟨Value.type "function", none, .func (fnOf (Str.ofString "_law_figures") (Str.ofString "_law_figures") (paramsOf (stAt 14)) (bodyOf (stAt 14)) (scopeOf (stAt 14)) (Value.none) (Value.none) (Value.none) (Value.str (Str.ofString "law_wu0086_01") 386) none (Value.ref 169) (Value.none)), #[]⟩) ::
  (nat_lit 176, ({ cls := Value.type "code", data := Data.fields #[Value.str (Str.ofString "_law_pairs") 407, Value.str (Str.ofString "_law_pairs") 408, Value.str (Str.ofString "/claim/cut.py") 409, Value.int 144 0, Value.int 1 0, Value.int 0 0, Value.int 0 0, Value.int 3 0, Value.ref 171, Value.bool true, Value.int 181 0, Value.ref 172, Value.none, Value.ref 173, Value.ref 174, Value.ref 175, Value.int 418 0, Value.int 144 0, Value.str (Str.ofString "/claim/cut.py") 419] } : Obj)) ::
  (nat_lit 177, ⟨Value.type "function", none, .func (fnOf (Str.ofString "_law_pairs") (Str.ofString "_law_pairs") (paramsOf (stAt 15)) (bodyOf (stAt 15)) (scopeOf (stAt 15)) (Value.none) (Value.none) (Value.none) (Value.str (Str.ofString "law_wu0086_01") 386) none (Value.ref 176) (Value.none)), #[]⟩) ::
  (nat_lit 183, ({ cls := Value.type "code", data := Data.fields #[Value.str (Str.ofString "_law_dress") 421, Value.str (Str.ofString "_law_dress") 422, Value.str (Str.ofString "/claim/cut.py") 423, Value.int 159 0, Value.int 1 0, Value.int 0 0, Value.int 0 0, Value.int 3 0, Value.ref 178, Value.bool true, Value.int 181 0, Value.ref 179, Value.none, Value.ref 180, Value.ref 181, Value.ref 182, Value.int 425 0, Value.int 159 0, Value.str (Str.ofString "/claim/cut.py") 426] } : Obj)) ::
  (nat_lit 184, ⟨Value.type "function", none, .func (fnOf (Str.ofString "_law_dress") (Str.ofString "_law_dress") (paramsOf (stAt 16)) (bodyOf (stAt 16)) (scopeOf (stAt 16)) (Value.none) (Value.none) (Value.none) (Value.str (Str.ofString "law_wu0086_01") 386) none (Value.ref 183) (Value.none)), #[]⟩) ::
  (nat_lit 190, ({ cls := Value.type "code", data := Data.fields #[Value.str (Str.ofString "_law_typed") 428, Value.str (Str.ofString "_law_typed") 429, Value.str (Str.ofString "/claim/cut.py") 430, Value.int 161 0, Value.int 2 0, Value.int 0 0, Value.int 0 0, Value.int 3 0, Value.ref 185, Value.bool true, Value.int 181 0, Value.ref 186, Value.none, Value.ref 187, Value.ref 188, Value.ref 189, Value.int 439 0, Value.int 161 0, Value.str (Str.ofString "/claim/cut.py") 440] } : Obj)) ::
  (nat_lit 191, ⟨Value.type "function", none, .func (fnOf (Str.ofString "_law_typed") (Str.ofString "_law_typed") (paramsOf (stAt 17)) (bodyOf (stAt 17)) (scopeOf (stAt 17)) (Value.none) (Value.none) (Value.none) (Value.str (Str.ofString "law_wu0086_01") 386) none (Value.ref 190) (Value.none)), #[]⟩) ::
  (nat_lit 197, ({ cls := Value.type "code", data := Data.fields #[Value.str (Str.ofString "_law_handler") 442, Value.str (Str.ofString "_law_handler") 443, Value.str (Str.ofString "/claim/cut.py") 444, Value.int 170 0, Value.int 1 0, Value.int 0 0, Value.int 0 0, Value.int 3 0, Value.ref 192, Value.bool true, Value.int 181 0, Value.ref 193, Value.none, Value.ref 194, Value.ref 195, Value.ref 196, Value.int 447 0, Value.int 170 0, Value.str (Str.ofString "/claim/cut.py") 448] } : Obj)) ::
  (nat_lit 198, ⟨Value.type "function", none, .func (fnOf (Str.ofString "_law_handler") (Str.ofString "_law_handler") (paramsOf (stAt 18)) (bodyOf (stAt 18)) (scopeOf (stAt 18)) (Value.none) (Value.none) (Value.none) (Value.str (Str.ofString "law_wu0086_01") 386) none (Value.ref 197) (Value.none)), #[]⟩) ::
  (nat_lit 204, ({ cls := Value.type "code", data := Data.fields #[Value.str (Str.ofString "_law_run") 450, Value.str (Str.ofString "_law_run") 451, Value.str (Str.ofString "/claim/cut.py") 452, Value.int 175 0, Value.int 2 0, Value.int 0 0, Value.int 0 0, Value.int 3 0, Value.ref 199, Value.bool true, Value.int 181 0, Value.ref 200, Value.none, Value.ref 201, Value.ref 202, Value.ref 203, Value.int 458 0, Value.int 175 0, Value.str (Str.ofString "/claim/cut.py") 459] } : Obj)) ::
  (nat_lit 205, ⟨Value.type "function", none, .func (fnOf (Str.ofString "_law_run") (Str.ofString "_law_run") (paramsOf (stAt 19)) (bodyOf (stAt 19)) (scopeOf (stAt 19)) (Value.none) (Value.none) (Value.none) (Value.str (Str.ofString "law_wu0086_01") 386) none (Value.ref 204) (Value.none)), #[]⟩) ::
  (nat_lit 211, ({ cls := Value.type "code", data := Data.fields #[Value.str (Str.ofString "_law_slide") 461, Value.str (Str.ofString "_law_slide") 462, Value.str (Str.ofString "/claim/cut.py") 463, Value.int 181 0, Value.int 2 0, Value.int 0 0, Value.int 0 0, Value.int 3 0, Value.ref 206, Value.bool true, Value.int 181 0, Value.ref 207, Value.none, Value.ref 208, Value.ref 209, Value.ref 210, Value.int 469 0, Value.int 181 0, Value.str (Str.ofString "/claim/cut.py") 470] } : Obj)) ::
  (nat_lit 212, ⟨Value.type "function", none, .func (fnOf (Str.ofString "_law_slide") (Str.ofString "_law_slide") (paramsOf (stAt 20)) (bodyOf (stAt 20)) (scopeOf (stAt 20)) (Value.none) (Value.none) (Value.none) (Value.str (Str.ofString "law_wu0086_01") 386) none (Value.ref 211) (Value.none)), #[]⟩) ::
  (nat_lit 216, ({ cls := Value.type "code", data := Data.fields #[Value.str (Str.ofString "_law_orders") 472, Value.str (Str.ofString "_law_orders") 473, Value.str (Str.ofString "/claim/cut.py") 474, Value.int 187 0, Value.int 1 0, Value.int 0 0, Value.int 0 0, Value.int 3 0, Value.ref 213, Value.bool true, Value.int 181 0, Value.ref 214, Value.none, Value.none, Value.none, Value.ref 215, Value.int 475 0, Value.int 187 0, Value.str (Str.ofString "/claim/cut.py") 476] } : Obj)) ::
  (nat_lit 217, ⟨Value.type "function", none, .func (fnOf (Str.ofString "_law_orders") (Str.ofString "_law_orders") (paramsOf (stAt 21)) (bodyOf (stAt 21)) (scopeOf (stAt 21)) (Value.none) (Value.none) (Value.none) (Value.str (Str.ofString "law_wu0086_01") 386) none (Value.ref 216) (Value.none)), #[]⟩) ::
  (nat_lit 221, ({ cls := Value.type "code", data := Data.fields #[Value.str (Str.ofString "_law_ranks") 478, Value.str (Str.ofString "_law_ranks") 479, Value.str (Str.ofString "/claim/cut.py") 480, Value.int 192 0, Value.int 2 0, Value.int 0 0, Value.int 0 0, Value.int 3 0, Value.ref 218, Value.bool true, Value.int 181 0, Value.ref 219, Value.none, Value.none, Value.none, Value.ref 220, Value.int 481 0, Value.int 192 0, Value.str (Str.ofString "/claim/cut.py") 482] } : Obj)) ::
  (nat_lit 222, ⟨Value.type "function", none, .func (fnOf (Str.ofString "_law_ranks") (Str.ofString "_law_ranks") (paramsOf (stAt 22)) (bodyOf (stAt 22)) (scopeOf (stAt 22)) (Value.none) (Value.none) (Value.none) (Value.str (Str.ofString "law_wu0086_01") 386) none (Value.ref 221) (Value.none)), #[]⟩) ::
  (nat_lit 226, ({ cls := Value.type "code", data := Data.fields #[Value.str (Str.ofString "law") 484, Value.str (Str.ofString "law") 485, Value.str (Str.ofString "/claim/cut.py") 486, Value.int 194 0, Value.int 1 0, Value.int 0 0, Value.int 0 0, Value.int 3 0, Value.ref 223, Value.bool true, Value.int 181 0, Value.ref 224, Value.none, Value.none, Value.none, Value.ref 225, Value.int 487 0, Value.int 194 0, Value.str (Str.ofString "/claim/cut.py") 488] } : Obj)) ::
  (nat_lit 227, ⟨Value.type "function", none, .func (fnOf (Str.ofString "law") (Str.ofString "law") (paramsOf (stAt 23)) (bodyOf (stAt 23)) (scopeOf (stAt 23)) (Value.none) (Value.none) (Value.none) (Value.str (Str.ofString "law_wu0086_01") 386) none (Value.ref 226) (Value.none)), #[]⟩) :: []
noncomputable def fragAs : List Addr := [2, 3, 22, 28, 29, 35, 36, 42, 43, 59, 60, 80, 81, 104, 105, 106, 107, 136, 137, 139, 140, 141, 142, 150, 151, 155, 156, 162, 163, 169, 170, 176, 177, 183, 184, 190, 191, 197, 198, 204, 205, 211, 212, 216, 217, 221, 222, 226, 227]
/- the statements of the text that the head looks at -/
noncomputable def view : Program := { pw with main := { pw.main with body := [0, 4, 5, 7, 9, 10, 11, 13, 14, 15, 16, 17, 18, 19, 20, 21, 22, 23].map stAt } }
noncomputable def loose : List Str := ["capwords", "Whitespace", "BaseHandler"]
theorem fragAs_eq (P : Params) : fragAs = (frag P).map (·.1) := rfl
end Mine.Internal

end PartJ2
section PartK1
open PySem PySem.W PyProof.Rows
set_option Elab.async false
set_option maxRecDepth 100000
set_option maxHeartbeats 8000000
namespace Mine.Internal
theorem via {σ κ ρ τ : Type} {x : Option σ} {v : σ → τ} {t : τ} {g : σ → Option κ} {F : κ → ρ} {r : ρ} (b : x.map v = some t) (h : ∀ s, v s = t → (g s).map F = some r) : (x.bind g).map F = some r :=
  match x, b with
  | some s, b => h s (Option.some.inj b)
/- a state from its parts: the heap, the generators, what was drawn, the tokens -/
noncomputable def stOf (x : Heap × Array GenState × Drawn × Nat) (os : OsState) : Shared := ⟨x.1, x.2.1, x.2.2.1, x.2.2.2, os⟩
noncomputable abbrev booted (w : World) : Heap × Array GenState × Drawn × Nat := (boot_heap w.params, Array.mk [], boot_drawn, boot_toks)
theorem left_of_boot {p q : Program} {loose : List Str} {Xt : Shared → Bool} {α : Type} {Yf : Shared → α} {Ya : World → α} {N : Nat} (row : String)
    (e : opening p = plainProg p.main.scope.names) (hN : Nat.ble 600 N = true) (f : ∀ s, fenceModules? p s = some s)
    (h : ∀ (b : Bool) (w : World) (os : OsState), (topFrom treeTable p (w.withFollow row b) N (stOf (booted (w.withFollow row b)) os)).map (fun s => (openSeen q loose (importedModules p.main.body) Xt true s, Yf s)) =
      some (openGood q loose, Ya (w.withFollow row b))) : LeftO p q loose Xt Yf Ya N := fun w =>
  via (boot_open e hN f w) fun s b =>
    (congrArg (fun x => (topFrom treeTable p w N (stOf x s.os)).map fun s => (openSeen q loose (importedModules p.main.body) Xt true s, Yf s)) b).trans
      (@Eq.ndrec World _ (fun w => ∀ os, (topFrom treeTable p w N (stOf (booted w) os)).map (fun s => (openSeen q loose (importedModules p.main.body) Xt true s, Yf s)) = some (openGood q loose, Ya w)) (h (w.params.followText row) w) w (World.withFollow_self w row) s.os)
/- the top's run by the quick twins -/
noncomputable def quickTop : {T : Program → World → Nat → Shared → Option Shared // topFrom treeTable = T} :=
  ⟨fun p w N s => _, funext fun p => funext fun w => funext fun N => funext fun s => by
    unfold topFrom
    rw [Fast.te14082659384304107361, Fast.te14364793385576792824]⟩
noncomputable abbrev xt : Shared → Bool := fun s => xlAt view [] s && recOk (RowW.records (OpenRow.toRowW PySem.Challenge.rw_wu0086_01.row)) s
noncomputable abbrev hk := kHook frag fragAs fragAs_eq
noncomputable def Runs {γ : Type} (T : Program → World → Nat → Shared → Option Shared) (O : Shared → γ) (g : γ) (b : Bool) : Prop :=
  ∀ (w : World) (os : OsState), (T PySem.Challenge.rw_wu0086_01.row.prog (w.withFollow "special-get-raises" b) 2818 (stOf (booted (w.withFollow "special-get-raises" b)) os)).map (fun s => (O s, hk.obs s)) = some (g, hk.val (w.withFollow "special-get-raises" b))
theorem run0 : Runs quickTop.1 (Fast.tw4187177175401517315 view loose (importedModules PySem.Challenge.rw_wu0086_01.row.prog.main.body) xt true) (openGood view loose) false := fun w os => by kernel_rfl
theorem run1 : Runs quickTop.1 (Fast.tw4187177175401517315 view loose (importedModules PySem.Challenge.rw_wu0086_01.row.prog.main.body) xt true) (openGood view loose) true := fun w os => by kernel_rfl
theorem left : LeftO PySem.Challenge.rw_wu0086_01.row.prog view loose xt hk.obs hk.val 2818 :=
  left_of_boot "special-get-raises" (by kernel_rfl) rfl (fun s => by kernel_rfl) fun b => by
    rw [quickTop.2, Fast.te4187177175401517315]
    cases b
    · exact run0
    · exact run1
theorem said0 : Fast.tw17960256430627541270 (Fast.tw2368527892694137696 PySem.Challenge.rw_wu0086_01) = true := by kernel_rfl
theorem said : PySem.Challenge.rw_wu0086_01.wellSaid = true := by
  rw [Fast.te9446332074065402090]
  delta Fast.tw9446332074065402090
  rw [said0]
  kernel_rfl
end Mine.Internal

end PartK1
open PySem PySem.W PyProof.Rows
set_option Elab.async false
set_option maxRecDepth 100000 in
set_option maxHeartbeats 8000000 in
theorem PySem.Challenge.cw_wu0086_01_holds : PySem.Challenge.rw_wu0086_01.Holds := by
  w_on
  refine holds_law Mine.Internal.said fun said => ?_
  refine holds_open (q := Mine.Internal.view) (loose := Mine.Internal.loose) (Xt := fun s => xlAt Mine.Internal.view [] s && recOk (RowW.records (OpenRow.toRowW PySem.Challenge.rw_wu0086_01.row)) s) (XP := XL Mine.Internal.view []) (Yf := Hook.obs (kHook Mine.Internal.frag Mine.Internal.fragAs Mine.Internal.fragAs_eq)) (Ya := Hook.val (kHook Mine.Internal.frag Mine.Internal.fragAs Mine.Internal.fragAs_eq)) (YP := Hook.says (kHook Mine.Internal.frag Mine.Internal.fragAs Mine.Internal.fragAs_eq)) (N := 2818) ?hl (Hook.of (kHook Mine.Internal.frag Mine.Internal.fragAs Mine.Internal.fragAs_eq)) (Hook.keeps (kHook Mine.Internal.frag Mine.Internal.fragAs Mine.Internal.fragAs_eq)) (fun s e => xl_of s (Bool.and_eq_true_iff.mp e).1) XL.keeps (by rfl) (by rfl) (by rfl) (fun s e => recFacts_of (Bool.and_eq_true_iff.mp e).2) (by rfl) (by first | assumption | decide +kernel) (by decide +kernel) ⟨rfl, rfl, rfl, rfl, rfl, by decide +kernel⟩ ?hw ?hc
  case hl => exact Mine.Internal.left
  case hw => w_witness2
  k_fill
  intro w s₀ s₁ mg mb G Y fa o pm cd doc dV kV ho hd hcd hD hmg hg args vals as hpre hlay hrd hwl hlo
  have KX := kIn_of Y
  refine Ground.open G ?_
  intro T B D TE TW
  wrow_args hpre hlay hrd hwl hlo
  clear hd hcd hD
  have f5 : Mine.Internal.Fn s₁.heap mg mb 5 "_strip_quoted_realnames" ["addr"] := by
    refine' ⟨_, Mine.Internal.fnI_of KX T.g ?qe1 ?qe2 ?qe3 ?qhb ?qhs ?qhk ?qhco ?qhbind⟩
    case qe1 => k_is
    case qe2 => k_is
    case qe3 => k_is
    case qhb => rfl
    case qhs => rfl
    case qhk => rfl
    case qhco => rfl
    case qhbind => exact Mine.Internal.bind1 fun _ => rfl
  have f10 : Mine.Internal.Fn s₁.heap mg mb 10 "parse_keqv_list" ["l"] := by
    refine' ⟨_, Mine.Internal.fnI_of KX T.g ?qe1 ?qe2 ?qe3 ?qhb ?qhs ?qhk ?qhco ?qhbind⟩
    case qe1 => k_is
    case qe2 => k_is
    case qe3 => k_is
    case qhb => rfl
    case qhs => rfl
    case qhk => rfl
    case qhco => rfl
    case qhbind => exact Mine.Internal.bind1 fun _ => rfl
  have f11 : Mine.Internal.Fn s₁.heap mg mb 11 "parse_http_list" ["s"] := by
    refine' ⟨_, Mine.Internal.fnI_of KX T.g ?qe1 ?qe2 ?qe3 ?qhb ?qhs ?qhk ?qhco ?qhbind⟩
    case qe1 => k_is
    case qe2 => k_is
    case qe3 => k_is
    case qhb => rfl
    case qhs => rfl
    case qhk => rfl
    case qhco => rfl
    case qhbind => exact Mine.Internal.bind1 fun _ => rfl
  have f13 : Mine.Internal.Fn s₁.heap mg mb 13 "_law_cells" ["script"] := by
    refine' ⟨_, Mine.Internal.fnI_of KX T.g ?qe1 ?qe2 ?qe3 ?qhb ?qhs ?qhk ?qhco ?qhbind⟩
    case qe1 => k_is
    case qe2 => k_is
    case qe3 => k_is
    case qhb => rfl
    case qhs => rfl
    case qhk => rfl
    case qhco => rfl
    case qhbind => exact Mine.Internal.bind1 fun _ => rfl
  have f14 : Mine.Internal.Fn s₁.heap mg mb 14 "_law_figures" ["number"] := by
    refine' ⟨_, Mine.Internal.fnI_of KX T.g ?qe1 ?qe2 ?qe3 ?qhb ?qhs ?qhk ?qhco ?qhbind⟩
    case qe1 => k_is
    case qe2 => k_is
    case qe3 => k_is
    case qhb => rfl
    case qhs => rfl
    case qhk => rfl
    case qhco => rfl
    case qhbind => exact Mine.Internal.bind1 fun _ => rfl
  have f15 : Mine.Internal.Fn s₁.heap mg mb 15 "_law_pairs" ["cells"] := by
    refine' ⟨_, Mine.Internal.fnI_of KX T.g ?qe1 ?qe2 ?qe3 ?qhb ?qhs ?qhk ?qhco ?qhbind⟩
    case qe1 => k_is
    case qe2 => k_is
    case qe3 => k_is
    case qhb => rfl
    case qhs => rfl
    case qhk => rfl
    case qhco => rfl
    case qhbind => exact Mine.Internal.bind1 fun _ => rfl
  have f16 : Mine.Internal.Fn s₁.heap mg mb 16 "_law_dress" ["figure"] := by
    refine' ⟨_, Mine.Internal.fnI_of KX T.g ?qe1 ?qe2 ?qe3 ?qhb ?qhs ?qhk ?qhco ?qhbind⟩
    case qe1 => k_is
    case qe2 => k_is
    case qe3 => k_is
    case qhb => rfl
    case qhs => rfl
    case qhk => rfl
    case qhco => rfl
    case qhbind => exact Mine.Internal.bind1 fun _ => rfl
  have f17 : Mine.Internal.Fn s₁.heap mg mb 17 "_law_typed" ["cells", "pairs"] := by
    refine' ⟨_, Mine.Internal.fnI_of KX T.g ?qe1 ?qe2 ?qe3 ?qhb ?qhs ?qhk ?qhco ?qhbind⟩
    case qe1 => k_is
    case qe2 => k_is
    case qe3 => k_is
    case qhb => rfl
    case qhs => rfl
    case qhk => rfl
    case qhco => rfl
    case qhbind => exact Mine.Internal.bind2 fun _ _ => rfl
  have f18 : Mine.Internal.Fn s₁.heap mg mb 18 "_law_handler" ["order"] := by
    refine' ⟨_, Mine.Internal.fnI_of KX T.g ?qe1 ?qe2 ?qe3 ?qhb ?qhs ?qhk ?qhco ?qhbind⟩
    case qe1 => k_is
    case qe2 => k_is
    case qe3 => k_is
    case qhb => rfl
    case qhs => rfl
    case qhk => rfl
    case qhco => rfl
    case qhbind => exact Mine.Internal.bind1 fun _ => rfl
  have f19 : Mine.Internal.Fn s₁.heap mg mb 19 "_law_run" ["pairs", "row"] := by
    refine' ⟨_, Mine.Internal.fnI_of KX T.g ?qe1 ?qe2 ?qe3 ?qhb ?qhs ?qhk ?qhco ?qhbind⟩
    case qe1 => k_is
    case qe2 => k_is
    case qe3 => k_is
    case qhb => rfl
    case qhs => rfl
    case qhk => rfl
    case qhco => rfl
    case qhbind => exact Mine.Internal.bind2 fun _ _ => rfl
  have f20 : Mine.Internal.Fn s₁.heap mg mb 20 "_law_slide" ["pairs", "text"] := by
    refine' ⟨_, Mine.Internal.fnI_of KX T.g ?qe1 ?qe2 ?qe3 ?qhb ?qhs ?qhk ?qhco ?qhbind⟩
    case qe1 => k_is
    case qe2 => k_is
    case qe3 => k_is
    case qhb => rfl
    case qhs => rfl
    case qhk => rfl
    case qhco => rfl
    case qhbind => exact Mine.Internal.bind2 fun _ _ => rfl
  have f21 : Mine.Internal.Fn s₁.heap mg mb 21 "_law_orders" ["things"] := by
    refine' ⟨_, Mine.Internal.fnI_of KX T.g ?qe1 ?qe2 ?qe3 ?qhb ?qhs ?qhk ?qhco ?qhbind⟩
    case qe1 => k_is
    case qe2 => k_is
    case qe3 => k_is
    case qhb => rfl
    case qhs => rfl
    case qhk => rfl
    case qhco => rfl
    case qhbind => exact Mine.Internal.bind1 fun _ => rfl
  have f22 : Mine.Internal.Fn s₁.heap mg mb 22 "_law_ranks" ["pairs", "row"] := by
    refine' ⟨_, Mine.Internal.fnI_of KX T.g ?qe1 ?qe2 ?qe3 ?qhb ?qhs ?qhk ?qhco ?qhbind⟩
    case qe1 => k_is
    case qe2 => k_is
    case qe3 => k_is
    case qhb => rfl
    case qhs => rfl
    case qhk => rfl
    case qhco => rfl
    case qhbind => exact Mine.Internal.bind2 fun _ _ => rfl
  have flaw : ∃ fa, nsIn (Mine.Internal.frag w.params) mainGlobals "law" = some (some (.ref fa)) ∧ Mine.Internal.FnI s₁.heap mg mb 23 "law" fa ["script"] := by
    refine' ⟨_, ?qe1, Mine.Internal.fnI_of KX T.g ?qe1 ?qe2 ?qe3 ?qhb ?qhs ?qhk ?qhco ?qhbind⟩
    case qe1 => k_is
    case qe2 => k_is
    case qe3 => k_is
    case qhb => rfl
    case qhs => rfl
    case qhk => rfl
    case qhco => rfl
    case qhbind => exact Mine.Internal.bind1 fun _ => rfl
  have b_range : Mine.Internal.Callee mg mb ("range" : Str) (.type "range") := by
    refine' Mine.Internal.callee_b KX T.g ?qe T.builtins ?qn ?qv
    case qe => k_is
    case qn => decide +kernel
    case qv => rfl
  have b_len : Mine.Internal.Callee mg mb ("len" : Str) (.builtin "len") := by
    refine' Mine.Internal.callee_b KX T.g ?qe T.builtins ?qn ?qv
    case qe => k_is
    case qn => decide +kernel
    case qv => rfl
  have b_divmod : Mine.Internal.Callee mg mb ("divmod" : Str) (.builtin "divmod") := by
    refine' Mine.Internal.callee_b KX T.g ?qe T.builtins ?qn ?qv
    case qe => k_is
    case qn => decide +kernel
    case qv => rfl
  have b_list : Mine.Internal.Callee mg mb ("list" : Str) (.type "list") := by
    refine' Mine.Internal.callee_b KX T.g ?qe T.builtins ?qn ?qv
    case qe => k_is
    case qn => decide +kernel
    case qv => rfl
  have b_zip : Mine.Internal.Callee mg mb ("zip" : Str) (.type "zip") := by
    refine' Mine.Internal.callee_b KX T.g ?qe T.builtins ?qn ?qv
    case qe => k_is
    case qn => decide +kernel
    case qv => rfl
  have b_sorted : Mine.Internal.Callee mg mb ("sorted" : Str) (.builtin "sorted") := by
    refine' Mine.Internal.callee_b KX T.g ?qe T.builtins ?qn ?qv
    case qe => k_is
    case qn => decide +kernel
    case qv => rfl
  have b_enumerate : Mine.Internal.Callee mg mb ("enumerate" : Str) (.type "enumerate") := by
    refine' Mine.Internal.callee_b KX T.g ?qe T.builtins ?qn ?qv
    case qe => k_is
    case qn => decide +kernel
    case qv => rfl
  have b_tuple : Mine.Internal.Callee mg mb ("tuple" : Str) (.type "tuple") := by
    refine' Mine.Internal.callee_b KX T.g ?qe T.builtins ?qn ?qv
    case qe => k_is
    case qn => decide +kernel
    case qv => rfl
  have b_map : Mine.Internal.Callee mg mb ("map" : Str) (.type "map") := by
    refine' Mine.Internal.callee_b KX T.g ?qe T.builtins ?qn ?qv
    case qe => k_is
    case qn => decide +kernel
    case qv => rfl
  have b_str : Mine.Internal.Callee mg mb ("str" : Str) (.type "str") := by
    refine' Mine.Internal.callee_b KX T.g ?qe T.builtins ?qn ?qv
    case qe => k_is
    case qn => decide +kernel
    case qv => rfl
  have b_hasattr : Mine.Internal.Callee mg mb ("hasattr" : Str) (.builtin "hasattr") := by
    refine' Mine.Internal.callee_b KX T.g ?qe T.builtins ?qn ?qv
    case qe => k_is
    case qn => decide +kernel
    case qv => rfl
  have kE : Mine.Internal.KitE s₁.heap mg mb := by
    refine' Mine.Internal.kitE_of KX T.g ?qe1 ?qe2 ?qe3 ?qhb ?qhs ?qhk ?qhco (fun _ => ?qhbind) b_enumerate
    case qe1 => k_is
    case qe2 => k_is
    case qe3 => k_is
    case qhb => rfl
    case qhs => rfl
    case qhk => rfl
    case qhco => rfl
    case qhbind => rfl
  have kC : Mine.Internal.KitC s₁.heap mg mb := by
    refine' Mine.Internal.kitC_of KX T.g ?qe1 ?qe2 ?qe3 ?qe4 ?qhb ?qhs ?qhk ?qhco (fun _ => ⟨_, ?qh1, ?qh2⟩) b_map b_str
    case qe1 => k_is
    case qe2 => k_is
    case qe3 => k_is
    case qe4 => k_is
    case qhb => rfl
    case qhs => rfl
    case qhk => rfl
    case qhco => rfl
    case qh1 => rfl
    case qh2 => rfl
  have cW : Mine.Internal.ClsOk (Mine.Internal.frag w.params) 105 := by
    refine' Mine.Internal.clsOk_of ?qa ?qb ?qc ?qd ?qe ?qf
    case qa => k_is
    case qb => k_is
    case qc => k_is
    case qd => k_is
    case qe => k_is
    case qf => k_is
  have cB : Mine.Internal.ClsOk (Mine.Internal.frag w.params) 140 := by
    refine' Mine.Internal.clsOk_of ?qa ?qb ?qc ?qd ?qe ?qf
    case qa => k_is
    case qb => k_is
    case qc => k_is
    case qd => k_is
    case qe => k_is
    case qf => k_is
  have mLt : ∃ f, findIn (Mine.Internal.frag w.params) (.ref 140) "__lt__" = some (some (.ref f)) ∧ typeIn (Mine.Internal.frag w.params) (.ref f) = some (.type "function") ∧ Mine.Internal.FnS s₁.heap (Mine.Internal.methAt 9 3) f ["self", "other"] := by
    refine' ⟨_, ?qe0, ?qet, Mine.Internal.fnS_of KX ?qe2 ?qe3 ?qhb ?qhs ?qhk ?qhco ?qhbind⟩
    case qe0 => k_is
    case qet => k_is
    case qe2 => k_is
    case qe3 => k_is
    case qhb => rfl
    case qhs => rfl
    case qhk => rfl
    case qhco => rfl
    case qhbind => exact Mine.Internal.bind2 fun _ _ => rfl
  have mInit : ∃ f, findIn (Mine.Internal.frag w.params) (.ref 105) "__init__" = some (some (.ref f)) ∧ typeIn (Mine.Internal.frag w.params) (.ref f) = some (.type "function") ∧ Mine.Internal.FnS s₁.heap (Mine.Internal.methAt 7 1) f ["self", "ws"] := by
    refine' ⟨_, ?qe0, ?qet, Mine.Internal.fnS_of KX ?qe2 ?qe3 ?qhb ?qhs ?qhk ?qhco ?qhbind⟩
    case qe0 => k_is
    case qet => k_is
    case qe2 => k_is
    case qe3 => k_is
    case qhb => rfl
    case qhs => rfl
    case qhk => rfl
    case qhco => rfl
    case qhbind => exact Mine.Internal.bind2 fun _ _ => rfl
  have mEq : ∃ f, findIn (Mine.Internal.frag w.params) (.ref 105) "equal" = some (some (.ref f)) ∧ typeIn (Mine.Internal.frag w.params) (.ref f) = some (.type "function") ∧ Mine.Internal.FnS s₁.heap (Mine.Internal.methAt 7 4) f ["self", "other"] := by
    refine' ⟨_, ?qe0, ?qet, Mine.Internal.fnS_of KX ?qe2 ?qe3 ?qhb ?qhs ?qhk ?qhco ?qhbind⟩
    case qe0 => k_is
    case qet => k_is
    case qe2 => k_is
    case qe3 => k_is
    case qhb => rfl
    case qhs => rfl
    case qhk => rfl
    case qhco => rfl
    case qhbind => exact Mine.Internal.bind2 fun _ _ => rfl
  have atB : nsIn (Mine.Internal.frag w.params) mainGlobals "BaseHandler" = some (some (.ref 140)) := by k_is
  have atW : nsIn (Mine.Internal.frag w.params) mainGlobals "Whitespace" = some (some (.ref 105)) := by k_is
  have kpB : keepIn (Mine.Internal.frag w.params) (.ref 140) = true := by k_is
  have kpW : keepIn (Mine.Internal.frag w.params) (.ref 105) = true := by k_is
  have inB : findIn (Mine.Internal.frag w.params) (.ref 140) "__init__" = some (some (.builtin "object.__init__")) := by k_is
  have tkB : takerIn (Mine.Internal.frag w.params) 140 "handler_order" = some none := by k_is
  have mdB : mroIn (Mine.Internal.frag w.params) 140 (.type "module") = some false := by k_is
  have mdW : mroIn (Mine.Internal.frag w.params) 105 (.type "module") = some false := by k_is
  have sub : subIn (Mine.Internal.frag w.params) (.ref 105) (.ref 140) = some false := by k_is
  have noO : findIn (Mine.Internal.frag w.params) (.ref 105) "handler_order" = some none := by k_is
  have ordB : ∃ t, findIn (Mine.Internal.frag w.params) (.ref 140) "handler_order" = some (some (.int 500 t)) ∧ noGet (Mine.Internal.frag w.params) (some (.int 500 t)) = true ∧ specialIn (Mine.Internal.frag w.params) (.int 500 t) "__get__" = some none := by
    refine' Mine.Internal.ordB_of ?qa ?qb ?qc
    case qa => k_is
    case qb => k_is
    case qc => k_is
  have tk_raw : takerIn (Mine.Internal.frag w.params) 105 "raw" = some none := by k_is
  have fd_raw : findIn (Mine.Internal.frag w.params) (.ref 105) "raw" = some none := by k_is
  have tk_n : takerIn (Mine.Internal.frag w.params) 105 "n" = some none := by k_is
  have fd_n : findIn (Mine.Internal.frag w.params) (.ref 105) "n" = some none := by k_is
  have tk_nt : takerIn (Mine.Internal.frag w.params) 105 "nt" = some none := by k_is
  have fd_nt : findIn (Mine.Internal.frag w.params) (.ref 105) "nt" = some none := by k_is
  have tk_norm : takerIn (Mine.Internal.frag w.params) 105 "norm" = some none := by k_is
  have fd_norm : findIn (Mine.Internal.frag w.params) (.ref 105) "norm" = some none := by k_is
  have tk_is_simple : takerIn (Mine.Internal.frag w.params) 105 "is_simple" = some none := by k_is
  have fd_is_simple : findIn (Mine.Internal.frag w.params) (.ref 105) "is_simple" = some none := by k_is
  have clsS : ∃ mc t, readsIn (Mine.Internal.frag w.params) 105 mc = true ∧ findCls (Mine.Internal.frag w.params) (.ref 105) mc "S" = some (.val (.str " " t)) := by
    refine' Mine.Internal.sign_of ?qa ?qb ?qc
    case qa => k_is
    case qb => k_is
    case qc => decide +kernel
  have clsT : ∃ mc t, readsIn (Mine.Internal.frag w.params) 105 mc = true ∧ findCls (Mine.Internal.frag w.params) (.ref 105) mc "T" = some (.val (.str "\t" t)) := by
    refine' Mine.Internal.sign_of ?qa ?qb ?qc
    case qa => k_is
    case qb => k_is
    case qc => decide +kernel
  have shW : Mine.Internal.shortName (Mine.Internal.frag w.params) 105 = true := by
    refine' Mine.Internal.short_of ?qe ?qs
    case qe => k_is
    case qs => decide +kernel
  have kB : Mine.Internal.KitB s₁.heap mg mb (Mine.Internal.frag w.params) 140 := ⟨.inl (mg_of KX T.g atB), kpB, cB, inB, tkB, ordB, mLt, mdB, b_hasattr⟩
  have kW : Mine.Internal.KitW s₁.heap mg mb (Mine.Internal.frag w.params) 105 := by
    refine ⟨.inl (mg_of KX T.g atW), kpW, cW, mInit, mEq, fun name hm => ?_, clsS, clsT, b_tuple⟩
    simp only [List.mem_cons, List.mem_nil_iff, or_false] at hm
    rcases hm with rfl | rfl | rfl | rfl | rfl
    · exact ⟨tk_raw, fd_raw⟩
    · exact ⟨tk_n, fd_n⟩
    · exact ⟨tk_nt, fd_nt⟩
    · exact ⟨tk_norm, fd_norm⟩
    · exact ⟨tk_is_simple, fd_is_simple⟩
  have sys : Mine.Internal.SysIn s₁.heap := by
    have sr := T.seer (by rfl)
    obtain ⟨mm, ⟨oo, es, ep, hoo, _⟩, _⟩ := sr.mods
    show (s₁.heap.get? sysModules).isSome = true
    rw [hoo]; rfl
  have K : Mine.Internal.Kit s₁.heap mg mb (Mine.Internal.frag w.params) 105 140 := ⟨⟨T.g, T.b, T.nolimit⟩, KX, sys, b_range, b_len, b_divmod, b_list, b_zip, b_sorted, kB, kW, kE, kC, f5, f10, f11, f13, f14, f15, f16, f17, f18, f19, f20, f21, f22, sub, mdW, noO, shW⟩
  obtain ⟨fl, l1, l2⟩ := flaw
  have efa : fl = fa := by
    have h1 := mg_of KX T.g l1
    have h2 : mg "law" = some (.ref fa) := hmg
    rw [h1] at h2
    cases h2; rfl
  subst efa
  rename_i hL _ _ _ hI _ hcond _
  exact Mine.Internal.good_end K l2 hg (by assumption) (by assumption) (by assumption) (fun _ => rfl) (by first | rfl | wrow_post)
