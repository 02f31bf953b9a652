import PyProof.Rows.All
import Wide.All
import OpenK.AllK
import Wide.FinOn
import PySem.Challenge.RW_rt0062_01
open PySem PySem.W PyProof.Rows
set_option Elab.async false
set_option maxRecDepth 100000
set_option linter.unusedVariables false
set_option linter.unusedSimpArgs false

noncomputable section
/-! The head. k_head writes the heap's fragment (Lw.pre.heap_1); the rest of it is done by hand below, with one twin (runV's), for the compiled file's size. -/
section
local macro_rules | `(tactic| o_head $H) => `(tactic| contradiction)
theorem Lw.pre (no : False) : PySem.Challenge.rw_rt0062_01.row.Holds := by k_head
end
namespace Lw
noncomputable def qv : Program := view PySem.Challenge.pw_rt0062_01 [0, 2, 3, 4, 6, 7, 8, 9, 11, 13, 15, 16, 18, 20, 22, 23, 24, 25, 27, 28, 29, 30, 31, 32, 33, 34]
noncomputable def A0 : List Addr := [2,3,15,17,18,20,21,22,24,25,27,28,29,31,32,34,35,36,38,39,41,42,43,45,46,48,49,50,52,53,55,56,57,59,60,62,63,64,66,67,69,70,71,73,74,76,77,78,85,87,88,90,91,92,93,94,97,104,106,107,109,110,111,113,114,116,117,118,120,121,123,124,125,126,127,130,132,133,135,136,137,139,140,142,143,144,146,147,149,150,151,153,154,156,157,158,160,161,163,164,165,167,168,170,171,172,174,175,177,178,179,182,183,184,187,188,189,191,192,194,195,196,199,200,201,203,204,206,207,208,211,212,213,216,217,218,220,221,223,224]
theorem A0_eq (P : Params) : A0 = (pre.heap_1 P).map (·.1) := by kernel_rfl
noncomputable abbrev HK : Hook := kHook pre.heap_1 A0 A0_eq
noncomputable def topRunT (tb : String → Option Builtin) (p : Program) (w : World) (n₀ : Nat) (ann : Option Value) : Nat → SharedT → Thread → Option SharedT
  | 0, _, _ => none
  | n + 1, s, t => match through t with
    | true => some s
    | false => match stepOk n₀ ann t with
      | false => none
      | true => match stepT (denote tb) p w s t with
        | some (s', t') => topRunT tb p w n₀ ann n s' t'
        | none => none
theorem topRunT_of {tb : String → Option Builtin} {p : Program} {w : World} {n₀ : Nat} {ann : Option Value} : ∀ {n : Nat} {s s' : SharedT} {t : Thread}, topRunT tb p w n₀ ann n s t = some s' → topRun tb p w n₀ ann n s.abs t = some s'.abs
  | 0, _, _, _, h => by cases h
  | n + 1, s, s', t, h => by
    unfold topRunT at h
    unfold topRun
    cases ht : through t with
    | true => rw [ht] at h; cases h; rfl
    | false =>
      rw [ht] at h
      cases hk : stepOk n₀ ann t with
      | false => rw [hk] at h; cases h
      | true =>
        rw [hk] at h
        cases hs : stepT (denote tb) p w s t with
        | none => rw [hs] at h; cases h
        | some r =>
          obtain ⟨s₂, t₂⟩ := r
          rw [hs] at h
          rw [stepT_spec hs]
          exact topRunT_of h
noncomputable def bt : List Obj → Nat → BT → BT
  | [], _, t => t
  | o :: l, n, t => bt l (n + 1) (t.ins n o)
noncomputable def T0 (P : Params) : BT := bt (boot_heap P).objs.toList 0 .nil
theorem T0_eq (P : Params) : absHeap (T0 P) 11 (boot_heap P).life = boot_heap P := by kernel_rfl
theorem boot_size (P : Params) : (boot_heap P).objs.size = 11 := by kernel_rfl
theorem boot_ann (P : Params) : (boot_heap P).nsMap mainGlobals "__annotations__" = some (.ref 6) := by kernel_rfl
theorem boot_ns (P : Params) : (boot_heap P).isNs mainGlobals = true := by kernel_rfl
/-- the program -/
noncomputable abbrev pr : Program := PySem.Challenge.rw_rt0062_01.row.prog
noncomputable abbrev XT : Shared → Bool := fun s => xlAt qv [] s && recOk (RowW.records PySem.Challenge.rw_rt0062_01.row.toRowW) s
noncomputable def runV (T : BT) (life : Life) (d : Drawn) (k : Nat) (w : World) (os : OsState) : Option SharedT := topRunT treeTable pr w 11 (some (.ref 6)) 2790 ⟨T, 11, life, Array.mk [], d, k, os⟩ (topStub pr)
lay_quick Lw.runV
/-- runV's twin, its literals read: the kernel runs the top once with each look -/
noncomputable abbrev twV := PySem.W.Fast.tw10883764088763438929
theorem runV_eq : @runV = @twV := PySem.W.Fast.te10883764088763438929
theorem look1 : ∀ (w : World) (os : OsState), (twV (T0 w.params) (boot_heap w.params).life boot_drawn boot_toks w os).map (fun s => (staticsOk (importedModules pr.main.body) (boot_heap w.params) s.abs.heap && namesBound pr s.abs.heap && gensDone s.abs && laidKept (boot_heap w.params) s.abs.heap, HK.obs s.abs)) = some (true, HK.val w) := fun w os => by kernel_rfl
theorem look2 : ∀ (w : World) (os : OsState), (twV (T0 w.params) (boot_heap w.params).life boot_drawn boot_toks w os).map (fun s => openSeen qv [] (importedModules pr.main.body) XT true s.abs) = some (openGood qv []) := fun w os => by kernel_rfl
theorem open0 : opening pr = plainProg pr.main.scope.names := by kernel_rfl
theorem fence0 (s : Shared) : fenceModules? pr s = some s := by kernel_rfl
theorem part1 {w : World} {os : OsState} {s : SharedT} (hs : twV (T0 w.params) (boot_heap w.params).life boot_drawn boot_toks w os = some s) : topRun treeTable pr w 11 (some (.ref 6)) 2790 ⟨boot_heap w.params, Array.mk [], boot_drawn, boot_toks, os⟩ (topStub pr) = some s.abs := by
  rw [← runV_eq] at hs
  have r := topRunT_of hs
  have e0 : SharedT.abs ⟨T0 w.params, 11, (boot_heap w.params).life, Array.mk [], boot_drawn, boot_toks, os⟩ = ⟨boot_heap w.params, Array.mk [], boot_drawn, boot_toks, os⟩ := by
    unfold SharedT.abs
    rw [T0_eq]
  rw [e0] at r
  exact r
theorem part2 {w : World} {os : OsState} {s : Shared} (r : topRun treeTable pr w 11 (some (.ref 6)) 2790 ⟨boot_heap w.params, Array.mk [], boot_drawn, boot_toks, os⟩ (topStub pr) = some s)
  (h1 : (staticsOk (importedModules pr.main.body) (boot_heap w.params) s.heap && namesBound pr s.heap && gensDone s && laidKept (boot_heap w.params) s.heap) = true) : topFrom treeTable pr w 2790 ⟨boot_heap w.params, Array.mk [], boot_drawn, boot_toks, os⟩ = some s := by
    unfold topFrom
    dsimp only
    rw [boot_ns, boot_size, boot_ann, r]
    show (match staticsOk (importedModules pr.main.body) (boot_heap w.params) s.heap && namesBound pr s.heap && gensDone s && laidKept (boot_heap w.params) s.heap with | true => _ | false => _) = _
    rw [h1]
theorem part3 {w : World} {s₀ s : Shared} (e : fencedOpening treeTable pr w 2790 = some s₀) (t : topFrom treeTable pr w 2790 s₀ = some s) : openEnds treeTable pr w 2790 = some s := by
  unfold openEnds
  rw [e, Option.bind_some, t]
theorem left : LeftO pr qv [] XT HK.obs HK.val 2790 := fun w => by
  obtain ⟨⟨h, gs, d, k, os⟩, e, e'⟩ := Option.map_eq_some_iff.mp (boot_open (p := pr) (N := 2790) open0 (by decide) fence0 w)
  simp only [Prod.mk.injEq] at e'
  obtain ⟨rfl, rfl, rfl, rfl⟩ := e'
  obtain ⟨s, hs, h1⟩ := Option.map_eq_some_iff.mp (look1 w os)
  obtain ⟨s', hs', h2⟩ := Option.map_eq_some_iff.mp (look2 w os)
  rw [hs] at hs'
  cases hs'
  rw [part3 e (part2 (part1 hs) (Prod.mk.inj h1).1), Option.map_some, h2, (Prod.mk.inj h1).2]
theorem law_of (h : PySem.Challenge.rw_rt0062_01.row.wellSaid = true → PySem.Challenge.rw_rt0062_01.row.Holds) : PySem.Challenge.rw_rt0062_01.Holds := by
  o_law
  exact h (by assumption)
end Lw
end
noncomputable section
namespace Lw

noncomputable abbrev View := Addr → Option Obj

noncomputable abbrev LO (vs : Array Value) (n : Nat) : Obj := { cls := .type "list", dict := none, data := .seq vs n, slots := #[] }
noncomputable abbrev TO (vs : Array Value) (n : Nat) : Obj := { cls := .type "tuple", dict := none, data := .seq vs n, slots := #[] }
mutual
inductive Rel (g : View) : Value → PyData → Prop
  | none : Rel g .none .none
  | bool (b) : Rel g (.bool b) (.bool b)
  | int (i t) : Rel g (.int i t) (.int i)
  | str (x t) : Rel g (.str x t) (.str x)
  | list {a vs n ds} : g a = some (LO vs n) → RelAll g vs.toList ds → Rel g (.ref a) (.list ds)
  | tuple {a vs n ds} : g a = some (TO vs n) → RelAll g vs.toList ds → Rel g (.ref a) (.tuple ds)
inductive RelAll (g : View) : List Value → List PyData → Prop
  | nil : RelAll g [] []
  | cons {v vs d ds} : Rel g v d → RelAll g vs ds → RelAll g (v :: vs) (d :: ds)
end

noncomputable def Le (g g' : View) : Prop := ∀ a o, g a = some o → g' a = some o
theorem Le.refl (g : View) : Le g g := fun _ _ e => e
theorem Le.trans {g g' g'' : View} (x : Le g g') (y : Le g' g'') : Le g g'' := fun a o e => y a o (x a o e)

mutual
theorem Rel.mono {g g' : View} (k : Le g g') : ∀ {v : Value} {d : PyData}, Rel g v d → Rel g' v d
  | _, _, .none => .none
  | _, _, .bool b => .bool b
  | _, _, .int i t => .int i t
  | _, _, .str x t => .str x t
  | _, _, .list h r => .list (k _ _ h) (RelAll.mono k r)
  | _, _, .tuple h r => .tuple (k _ _ h) (RelAll.mono k r)
theorem RelAll.mono {g g' : View} (k : Le g g') : ∀ {vs : List Value} {ds : List PyData}, RelAll g vs ds → RelAll g' vs ds
  | _, _, .nil => .nil
  | _, _, .cons h r => .cons (h.mono k) (RelAll.mono k r)
end

theorem RelAll.length {g : View} : ∀ {vs : List Value} {ds : List PyData}, RelAll g vs ds → vs.length = ds.length
  | _, _, .nil => rfl
  | _, _, .cons _ r => by simp [r.length]
theorem RelAll.get {g : View} : ∀ {vs : List Value} {ds : List PyData}, RelAll g vs ds → ∀ {i : Nat} {v : Value}, vs[i]? = some v → ∃ d, ds[i]? = some d ∧ Rel g v d
  | _, _, .nil, i, v, e => by simp at e
  | _, _, .cons h r, 0, v, e => by simp at e; subst e; exact ⟨_, rfl, h⟩
  | _, _, .cons h r, i + 1, v, e => by
    simp only [List.getElem?_cons_succ] at e ⊢
    exact r.get e
theorem RelAll.get' {g : View} : ∀ {vs : List Value} {ds : List PyData}, RelAll g vs ds → ∀ {i : Nat} {d : PyData}, ds[i]? = some d → ∃ v, vs[i]? = some v ∧ Rel g v d
  | _, _, .nil, i, v, e => by simp at e
  | _, _, .cons h r, 0, v, e => by simp at e; subst e; exact ⟨_, rfl, h⟩
  | _, _, .cons h r, i + 1, v, e => by
    simp only [List.getElem?_cons_succ] at e ⊢
    exact r.get' e
theorem RelAll.append {g : View} : ∀ {vs : List Value} {ds : List PyData} {us : List Value} {es : List PyData}, RelAll g vs ds → RelAll g us es → RelAll g (vs ++ us) (ds ++ es)
  | _, _, _, _, .nil, q => q
  | _, _, _, _, .cons h r, q => .cons h (r.append q)
theorem RelAll.take {g : View} : ∀ {vs : List Value} {ds : List PyData} (n : Nat), RelAll g vs ds → RelAll g (vs.take n) (ds.take n)
  | _, _, 0, _ => by simpa using RelAll.nil
  | _, _, n + 1, .nil => by simpa using RelAll.nil
  | _, _, n + 1, .cons h r => by simpa using RelAll.cons h (r.take n)
theorem RelAll.drop {g : View} : ∀ {vs : List Value} {ds : List PyData} (n : Nat), RelAll g vs ds → RelAll g (vs.drop n) (ds.drop n)
  | _, _, 0, q => by simpa using q
  | _, _, n + 1, .nil => by simpa using RelAll.nil
  | _, _, n + 1, .cons h r => by simpa using r.drop n

mutual
theorem Rel.reads {g : View} {h : Heap} (k : ∀ a o, g a = some o → h.get? a = some o) : ∀ {v : Value} {d : PyData}, Rel g v d → ∃ as, Reads h v d as
  | _, _, .none => ⟨_, .none⟩
  | _, _, .bool b => ⟨_, .bool b⟩
  | _, _, .int i t => ⟨_, .int i t⟩
  | _, _, .str x t => ⟨_, .str x t⟩
  | _, _, .list h r => let ⟨as, q⟩ := RelAll.reads k r; ⟨_, .list (k _ _ h) rfl rfl q⟩
  | _, _, .tuple h r => let ⟨as, q⟩ := RelAll.reads k r; ⟨_, .tuple (k _ _ h) rfl rfl q⟩
theorem RelAll.reads {g : View} {h : Heap} (k : ∀ a o, g a = some o → h.get? a = some o) : ∀ {vs : List Value} {ds : List PyData}, RelAll g vs ds → ∃ as, ReadsAll h vs ds as
  | _, _, .nil => ⟨_, .nil⟩
  | _, _, .cons h r => let ⟨as, q⟩ := h.reads k; let ⟨bs, p⟩ := RelAll.reads k r; ⟨_, .cons q p⟩
end

structure Cx where
  prog : Program
  w : World
  h₀ : Heap
  p : Program
  loose : List Str
  mg : Str → Option Value
  mb : Str → Option Value
  os₀ : OsState
  GP : Array GenState → Prop
  X : (pre.heap_1 w.params).In h₀
  T : TopRead p loose mg mb h₀

noncomputable abbrev Cx.M (C : Cx) : Model := model C.prog C.w

structure St (C : Cx) (g : View) (s : Shared) : Prop where
  base : ∀ a o, C.h₀.get? a = some o → g a = some o
  sub : ∀ a o, g a = some o → s.heap.get? a = some o
  gens : C.GP s.gens
  os : s.os = C.os₀

theorem St.keep {C : Cx} {g : View} {s : Shared} (x : St C g s) : ∀ a o, C.h₀.get? a = some o → s.heap.get? a = some o := fun a o e => x.sub a o (x.base a o e)
theorem St.toks {C : Cx} {g : View} {s : Shared} (x : St C g s) (t : Nat) : St C g { s with toks := t } := ⟨x.base, x.sub, x.gens, x.os⟩

structure Grow (C : Cx) (g : View) (s : Shared) (g' : View) (s' : Shared) : Prop where
  st : St C g' s'
  ext : ∀ a o, s.heap.get? a = some o → s'.heap.get? a = some o
  old : ∀ a o, s.heap.get? a = some o → g' a = g a

section
variable {C : Cx} {g g' g'' : View} {s s' s'' : Shared}
theorem Grow.le (G : Grow C g s g' s') (x : St C g s) : Le g g' := fun a o e => (G.old a o (x.sub a o e)).trans e
theorem Grow.refl (x : St C g s) : Grow C g s g s := ⟨x, fun _ _ e => e, fun _ _ _ => rfl⟩
theorem Grow.tok (x : St C g s) (t : Nat) : Grow C g s g { s with toks := t } := ⟨x.toks t, fun _ _ e => e, fun _ _ _ => rfl⟩
theorem Grow.trans (G : Grow C g s g' s') (H : Grow C g' s' g'' s'') : Grow C g s g'' s'' :=
  ⟨H.st, fun a o e => H.ext a o (G.ext a o e), fun a o e => (H.old a o (G.ext a o e)).trans (G.old a o e)⟩
theorem Grow.toks (G : Grow C g s g' s') (t : Nat) : Grow C g s g' { s' with toks := t } := G.trans (.tok G.st t)

noncomputable def View.set (g : View) (n : Addr) (o : Obj) : View := fun a => if a = n then some o else g a
theorem View.set_self (g : View) (n : Addr) (o : Obj) : g.set n o n = some o := by simp [View.set]
theorem View.set_ne (g : View) {n a : Addr} (o : Obj) (h : a ≠ n) : g.set n o a = g a := by simp [View.set, h]

theorem none_at_size (h : Heap) : h.get? h.objs.size = none := by
  cases e : h.get? h.objs.size with
  | none => rfl
  | some o => exact absurd (Heap.lt_size e) (Nat.lt_irrefl _)
theorem St.none_of (x : St C g s) {a : Addr} (h : s.heap.get? a = none) : g a = none := by
  cases e : g a with
  | none => rfl
  | some o => rw [x.sub a o e] at h; cases h

theorem Le.set {n : Addr} {o : Obj} (h : g n = none) : Le g (g.set n o) := fun a o' e => by
  by_cases q : a = n
  · subst q; rw [h] at e; cases e
  · rw [View.set_ne g o q]; exact e

/-- a new object, frozen at once -/
theorem Grow.push (x : St C g s) (o : Obj) (hf : o.isFreed = false) : Grow C g s (g.set s.heap.objs.size o) { s with heap := s.heap.push o } := by
  have hn : g s.heap.objs.size = none := x.none_of (none_at_size _)
  refine ⟨⟨fun a o' e => Le.set hn a o' (x.base a o' e), fun a o' e => ?_, x.gens, x.os⟩, fun a o' e => Heap.get?_push_of_some o e, fun a o' e => View.set_ne g o (Nat.ne_of_lt (Heap.lt_size e))⟩
  by_cases q : a = s.heap.objs.size
  · subst q; rw [View.set_self] at e; cases e; exact Heap.get?_push_size _ hf
  · rw [View.set_ne g o q] at e; exact Heap.get?_push_of_some o (x.sub a o' e)
/-- a new object, not frozen -/
theorem Grow.pushed (x : St C g s) (o : Obj) : Grow C g s g { s with heap := s.heap.push o } :=
  ⟨⟨x.base, fun a o' e => Heap.get?_push_of_some o (x.sub a o' e), x.gens, x.os⟩, fun a o' e => Heap.get?_push_of_some o e, fun _ _ _ => rfl⟩
end

structure Room (n : Nat) (A : Around) : Prop where
  hnd : A.handled = none
  depth : A.depth + n < recursionLimit
  units : A.units + 8 * n + 100 < cLine
theorem Room.deeper {n : Nat} {A : Around} (r : Room (n + 1) A) (env : Env) : Room n (A.deeper env) :=
  ⟨r.hnd, by have := r.depth; show A.depth + 1 + n < _; omega, by have := r.units; show A.units + 3 + 8 * n + 100 < _; omega⟩
theorem Room.le {n m : Nat} {A : Around} (r : Room n A) (h : m ≤ n) : Room m A := ⟨r.hnd, by have := r.depth; omega, by have := r.units; omega⟩
theorem Room.d {n : Nat} {A : Around} (r : Room n A) : A.depth < recursionLimit := by have := r.depth; omega
theorem Room.u {n : Nat} {A : Around} (r : Room n A) : A.units < cLine := by have := r.units; omega
theorem Room.u64 {n : Nat} {A : Around} (r : Room n A) : A.units + 64 < cLine := by have := r.units; omega

inductive Sl where
  | dat (d : PyData)
  | own (M : Addr) (ds : List PyData)

noncomputable def SlRel (g : View) (h : Heap) (v : Value) : Sl → Prop
  | .dat d => Rel g v d
  | .own M ds => v = .ref M ∧ ∃ vs n, h.get? M = some (LO vs n) ∧ RelAll g vs.toList ds

noncomputable def Holds (env : Env) (h : Heap) (x : Str) (v : Value) : Prop :=
  (env.kindOf x = some .local ∧ ∃ m, h.Ns env.locals m ∧ m x = some v) ∨
  ((env.kindOf x = some .cell ∨ (env.kindOf x = some .free ∧ (x == ("__classdict__" : Str)) = false)) ∧ ∃ c, env.cells.lookup x = some c ∧ h.IsCell c (some v))

noncomputable abbrev Loc := Str → Option Sl

structure Vis (C : Cx) (env : Env) (ρ : Loc) (g : View) (s : Shared) : Prop where
  st : St C g s
  kind : env.scope.kind = .function
  glob : env.globals = mainGlobals
  blt : env.builtins = builtinsNs
  rd : ∀ x sl, ρ x = some sl → ∃ v, Holds env s.heap x v ∧ SlRel g s.heap v sl
  lv : ∀ x c, env.cells.lookup x = some c → ∃ v, s.heap.IsCell c v

theorem Holds.ext {env : Env} {h h' : Heap} {x : Str} {v : Value} (k : ∀ a o, h.get? a = some o → h'.get? a = some o) : Holds env h x v → Holds env h' x v
  | .inl ⟨a, m, hn, hm⟩ => .inl ⟨a, m, hn.keeps k, hm⟩
  | .inr ⟨a, c, hc, hv⟩ => .inr ⟨a, c, hc, hv.keeps k⟩
theorem SlRel.grow {g g' : View} {h h' : Heap} {v : Value} (l : Le g g') (k : ∀ a o, h.get? a = some o → h'.get? a = some o) : ∀ {sl : Sl}, SlRel g h v sl → SlRel g' h' v sl
  | .dat d, r => Rel.mono l r
  | .own M ds, ⟨e, vs, n, hl, r⟩ => ⟨e, vs, n, k _ _ hl, r.mono l⟩
theorem Vis.grow {C : Cx} {env : Env} {ρ : Loc} {g g' : View} {s s' : Shared} (x : Vis C env ρ g s) (G : Grow C g s g' s') : Vis C env ρ g' s' :=
  ⟨G.st, x.kind, x.glob, x.blt, fun n sl e => let ⟨v, a, b⟩ := x.rd n sl e; ⟨v, a.ext G.ext, b.grow (G.le x.st) G.ext⟩,
   fun n c e => let ⟨v, a⟩ := x.lv n c e; ⟨v, a.keeps G.ext⟩⟩

theorem Holds.load {M : Model} {A : Around} {env : Env} {s : Shared} {x : Str} {v : Value} {Q : Value → Shared → Prop} {E : Value → Shared → Prop} (hk : env.scope.kind = .function) (h : Holds env s.heap x v) (q : Q v s) :
    wpAny M A (loadName env x) Q E s := by
  rcases h with ⟨a, m, hn, hm⟩ | ⟨a | ⟨a, b⟩, c, hc, hv⟩
  · exact wpAny_loadName_local hk a hn hm q
  · exact wpAny_loadName_cell hk a hc hv q
  · exact wpAny_loadName_free hk a hc hv q b

/-- an expression: what it gives, over data alone; the heap only grows -/
noncomputable def Ev (C : Cx) (n : Nat) (env : Env) (ρ : Loc) (e : PySem.Expr) (K : PyData → Prop) : Prop :=
  ∀ (A : Around) (g : View) (s : Shared) (Q E : Value → Shared → Prop), Room n A → Vis C env ρ g s →
    (∀ d v g' s', K d → Rel g' v d → Grow C g s g' s' → Q v s') → wpAny C.M A (eval e env) Q E s

noncomputable def Tst (C : Cx) (n : Nat) (env : Env) (ρ : Loc) (e : PySem.Expr) (K : Bool → Prop) : Prop :=
  ∀ (A : Around) (g : View) (s : Shared) (Q : Bool → Shared → Prop) (E : Value → Shared → Prop), Room n A → Vis C env ρ g s →
    (∀ b g' s', K b → Grow C g s g' s' → Q b s') → wpAny C.M A (isTrue e env (eval e env)) Q E s

/-- an operation on values -/
noncomputable def Vop (C : Cx) (n : Nat) (t : List Value → Sem Value) (ds : List PyData) (K : PyData → Prop) : Prop :=
  ∀ (A : Around) (g : View) (s : Shared) (Q E : Value → Shared → Prop) (vs : List Value), Room n A → St C g s → RelAll g vs ds →
    (∀ d v g' s', K d → Rel g' v d → Grow C g s g' s' → Q v s') → wpAny C.M A (t vs) Q E s

noncomputable def Op2 (C : Cx) (n : Nat) (t : Value → Value → Sem Value) (x y : PyData) (K : PyData → Prop) : Prop :=
  ∀ (A : Around) (g : View) (s : Shared) (Q E : Value → Shared → Prop) (v u : Value), Room n A → St C g s → Rel g v x → Rel g u y →
    (∀ d v g' s', K d → Rel g' v d → Grow C g s g' s' → Q v s') → wpAny C.M A (t v u) Q E s
noncomputable def Op1 (C : Cx) (n : Nat) (t : Value → Sem Value) (x : PyData) (K : PyData → Prop) : Prop :=
  ∀ (A : Around) (g : View) (s : Shared) (Q E : Value → Shared → Prop) (v : Value), Room n A → St C g s → Rel g v x →
    (∀ d v g' s', K d → Rel g' v d → Grow C g s g' s' → Q v s') → wpAny C.M A (t v) Q E s

/-- a contract of a def: called with these data, it gives a datum that meets K -/
noncomputable def Fn (C : Cx) (n : Nat) (f : Value) (ds : List PyData) (K : PyData → Prop) : Prop := Vop C n (fun vs => call f vs) ds K

section
variable {C : Cx} {n : Nat} {env : Env} {ρ : Loc} {K : PyData → Prop} {pos : Pos}

theorem Ev.mono {e : PySem.Expr} {K' : PyData → Prop} (h : Ev C n env ρ e K) (k : ∀ d, K d → K' d) : Ev C n env ρ e K' :=
  fun A g s Q E r v q => h A g s Q E r v fun d u g' s' hd => q d u g' s' (k d hd)
theorem Ev.name {x : Str} {d : PyData} (h : ρ x = some (.dat d)) (k : K d) (hd : (x == ("__debug__" : Str)) = false := by decide) : Ev C n env ρ (.Name x pos) K :=
  fun A g s Q E r v q => by
    obtain ⟨u, hu, ru⟩ := v.rd x _ h
    exact wpAny_Name (hu.load v.kind (q d u g s k ru (.refl v.st))) hd
theorem Ev.int {i : Int} {k' : Nat} (k : K (.int i)) : Ev C n env ρ (.Constant (.int i) k' pos) K :=
  fun A g s Q E r v q => wpAny_Constant_int (q _ _ g _ k (.int i _) (.tok v.st _))
theorem Ev.str {x : Str} {k' : Nat} (k : K (.str x)) : Ev C n env ρ (.Constant (.str x) k' pos) K :=
  fun A g s Q E r v q => wpAny_Constant_str (q _ _ g _ k (.str x _) (.tok v.st _))
theorem Ev.none {k' : Nat} (k : K .none) : Ev C n env ρ (.Constant .none k' pos) K :=
  fun A g s Q E r v q => wpAny_Constant_none (q _ _ g _ k .none (.refl v.st))
theorem Ev.bin {l r : PySem.Expr} {op : PySem.Operator} (h : Ev C n env ρ l fun x => Ev C n env ρ r fun y => Op2 C n (binaryOp op) x y K) : Ev C n env ρ (.BinOp l op r pos) K :=
  fun A g s Q E rm vis q => wpAny_BinOp (h A g s _ E rm vis fun x v g1 s1 hx rx G1 =>
    hx A g1 s1 _ E rm (vis.grow G1) fun y u g2 s2 hy ry G2 =>
      hy A g2 s2 _ E v u rm G2.st (rx.mono (G2.le G1.st)) ry fun d z g3 s3 hd rz G3 => q d z g3 s3 hd rz ((G1.trans G2).trans G3))
theorem Ev.cmp {l r : PySem.Expr} {op : PySem.CmpOp} (h : Ev C n env ρ l fun x => Ev C n env ρ r fun y => Op2 C n (compareOp op) x y K)
    (hm : behindInMarks op r = false := by with_unfolding_all rfl) : Ev C n env ρ (.Compare l [op] [r] pos) K :=
  fun A g s Q E rm vis q => wpAny_Compare1 (h A g s _ E rm vis fun x v g1 s1 hx rx G1 =>
    hx A g1 s1 _ E rm (vis.grow G1) fun y u g2 s2 hy ry G2 =>
      hy A g2 s2 _ E v u rm G2.st (rx.mono (G2.le G1.st)) ry fun d z g3 s3 hd rz G3 => q d z g3 s3 hd rz ((G1.trans G2).trans G3)) hm
theorem Tst.cmp {l r : PySem.Expr} {op : PySem.CmpOp} {K : Bool → Prop} (h : Ev C n env ρ l fun x => Ev C n env ρ r fun y => Op2 C n (compareOp op) x y fun d => ∃ b, d = .bool b ∧ K b)
    (hm : behindInMarks op r = false := by with_unfolding_all rfl) : Tst C n env ρ (.Compare l [op] [r] pos) K :=
  fun A g s Q E rm vis q => wpAny_isTrue_Compare1 (h A g s _ E rm vis fun x v g1 s1 hx rx G1 =>
    hx A g1 s1 _ E rm (vis.grow G1) fun y u g2 s2 hy ry G2 =>
      hy A g2 s2 _ E v u rm G2.st (rx.mono (G2.le G1.st)) ry fun d z g3 s3 hd rz G3 => by
        obtain ⟨b, rfl, kb⟩ := hd
        cases rz
        exact wpAny_truthy_bool (q b g3 s3 kb ((G1.trans G2).trans G3))) hm
theorem Tst.not {x : PySem.Expr} {K : Bool → Prop} (h : Tst C n env ρ x fun b => K (!b)) : Tst C n env ρ (.UnaryOp .Not x pos) K :=
  fun A g s Q E rm vis q => wpAny_isTrue_Not (h A g s _ E rm vis fun b g' s' hb G => q _ g' s' hb G)
theorem Ev.ite {t b o : PySem.Expr} (h : Tst C n env ρ t fun c => if c then Ev C n env ρ b K else Ev C n env ρ o K) : Ev C n env ρ (.IfExp t b o pos) K :=
  fun A g s Q E rm vis q => wpAny_IfExp (h A g s _ E rm vis fun c g' s' hc G => by
    cases c
    · exact hc A g' s' Q E rm (vis.grow G) fun d v g2 s2 hd rd G2 => q d v g2 s2 hd rd (G.trans G2)
    · exact hc A g' s' Q E rm (vis.grow G) fun d v g2 s2 hd rd G2 => q d v g2 s2 hd rd (G.trans G2))

/-- the truth of a datum that is a value -/
noncomputable def tru : PyData → Bool
  | .none => false
  | .bool b => b
  | .int i => i != 0
  | .str x => x.cps.size != 0
  | .list xs => !xs.isEmpty
  | .tuple xs => !xs.isEmpty
  | .dict _ => true
end
end Lw
end
noncomputable section
open PySem.SeqAt
namespace Lw

section
variable {C : Cx} {n : Nat} {K : PyData → Prop}
theorem op_add_int {a b : Int} (k : K (.int (a + b))) : Op2 C n (binaryOp .Add) (.int a) (.int b) K :=
  fun A g s Q E v u r st rv ru q => by cases rv; cases ru; exact P.add_int (q _ _ g _ k (.int ..) (.tok st _))
theorem op_sub_int {a b : Int} (k : K (.int (a - b))) : Op2 C n (binaryOp .Sub) (.int a) (.int b) K :=
  fun A g s Q E v u r st rv ru q => by cases rv; cases ru; exact P.sub_int (q _ _ g _ k (.int ..) (.tok st _))
theorem op_mul_int {a b : Int} (k : K (.int (a * b))) (hm : IntMulOk a b) : Op2 C n (binaryOp .Mult) (.int a) (.int b) K :=
  fun A g s Q E v u r st rv ru q => by cases rv; cases ru; exact P.mul_int (q _ _ g _ k (.int ..) (.tok st _)) hm
theorem op_div_int {a b : Int} (k : K (.int (a / b))) (hb : 0 < b) (hs : b < 2 ^ 100) : Op2 C n (binaryOp .FloorDiv) (.int a) (.int b) K :=
  fun A g s Q E v u r st rv ru q => by
    cases rv; cases ru
    rw [← Int.fdiv_eq_ediv_of_nonneg a (Int.le_of_lt hb)] at k
    refine PyProof.Rows.floordiv_int (by omega) (q _ _ g _ k (.int ..) (.tok st _)) (Or.inl ?_)
    refine PyProof.noPylong_of_log2 ?_
    have h1 : b.natAbs < 2 ^ 100 := by omega
    by_cases h0 : b.natAbs = 0
    · omega
    · have := (Nat.log2_lt h0).mpr h1
      exact Nat.lt_of_lt_of_le this (by decide)
theorem op_mod_int {a b : Int} (k : K (.int (a % b))) (hb : 0 < b) : Op2 C n (binaryOp .Mod) (.int a) (.int b) K :=
  fun A g s Q E v u r st rv ru q => by
    cases rv; cases ru
    rw [← Int.fmod_eq_emod_of_nonneg a (Int.le_of_lt hb)] at k
    exact PyProof.Rows.mod_int' (by omega) (q _ _ g _ k (.int ..) (.tok st _))
theorem op_pow_int {a b : Int} (k : K (.int (a ^ b.toNat))) (h0 : 0 ≤ b) (h1 : b ≤ 1000000) (ha : a.natAbs < 2 ^ 64) : Op2 C n (binaryOp .Pow) (.int a) (.int b) K :=
  fun A g s Q E v u r st rv ru q => by cases rv; cases ru; exact PyProof.Rows.pow_int_small h0 h1 ha (q _ _ g _ k (.int ..) (.tok st _))
theorem op_shr_int {a b : Int} (k : K (.int (a / 2 ^ b.toNat))) (h0 : 0 ≤ b) : Op2 C n (binaryOp .RShift) (.int a) (.int b) K :=
  fun A g s Q E v u r st rv ru q => by
    cases rv; cases ru
    have hp : (0 : Int) ≤ 2 ^ b.toNat := Int.le_of_lt (Int.pow_pos (by decide))
    rw [← Int.fdiv_eq_ediv_of_nonneg a hp] at k
    exact PyProof.Rows.rshift_int h0 (q _ _ g _ k (.int ..) (.tok st _))
theorem op_eq_int {a b : Int} (k : K (.bool (decide (a = b)))) : Op2 C n (compareOp .Eq) (.int a) (.int b) K :=
  fun A g s Q E v u r st rv ru q => by
    cases rv; cases ru
    have e : (a == b) = decide (a = b) := by by_cases h : a = b <;> simp [h]
    exact P.eq_int (e ▸ q _ _ g _ k (.bool _) (.refl st))
theorem op_lt_int {a b : Int} (k : K (.bool (decide (a < b)))) : Op2 C n (compareOp .Lt) (.int a) (.int b) K :=
  fun A g s Q E v u r st rv ru q => by cases rv; cases ru; exact P.lt_int (q _ _ g _ k (.bool _) (.refl st))
theorem op_le_int {a b : Int} (k : K (.bool (decide (a ≤ b)))) : Op2 C n (compareOp .LtE) (.int a) (.int b) K :=
  fun A g s Q E v u r st rv ru q => by cases rv; cases ru; exact P.le_int (q _ _ g _ k (.bool _) (.refl st))
theorem op_gt_int {a b : Int} (k : K (.bool (decide (a > b)))) : Op2 C n (compareOp .Gt) (.int a) (.int b) K :=
  fun A g s Q E v u r st rv ru q => by cases rv; cases ru; exact P.gt_int (q _ _ g _ k (.bool _) (.refl st))

theorem str_eq_dec (x y : Str) : (x.cps.toList == y.cps.toList) = decide (x = y) := by
  rw [str_beq]
  by_cases h : x = y <;> simp [h]
theorem op_eq_str {a b : Str} (k : K (.bool (decide (a = b)))) : Op2 C n (compareOp .Eq) (.str a) (.str b) K :=
  fun A g s Q E v u r st rv ru q => by
    cases rv; cases ru
    refine P.eq_str ?_
    rw [str_eq_dec]
    exact q _ _ g _ k (.bool _) (.refl st)
theorem op_ne_str {a b : Str} (k : K (.bool (!decide (a = b)))) : Op2 C n (compareOp .NotEq) (.str a) (.str b) K :=
  fun A g s Q E v u r st rv ru q => by
    cases rv; cases ru
    refine P.ne_str ?_
    have e : (a.cps.toList != b.cps.toList) = !decide (a = b) := by
      show (!(a.cps.toList == b.cps.toList)) = _
      rw [str_eq_dec]
    rw [e]
    exact q _ _ g _ k (.bool _) (.refl st)

theorem made_add {C : Cx} {g : View} {s : Shared} {x y : Str} {t u : Tok} {Q : Value → Shared → Prop} (st : St C g s) (hsz : (x ++ y).length ≤ sizeLine)
    (q : ∀ d v g' s', d = .str (x ++ y) → Rel g' v d → Grow C g s g' s' → Q v s') :
    (if x.length == 0 then Made.val (.str y u) else if y.length == 0 then Made.val (.str x t) else Made.str (x ++ y)).post Q s := by
  by_cases hx : x.length = 0
  · have e : x ++ y = y := by
      have hx' : x = Str.empty := Str.ext' (by simpa [Str.length, Str.empty] using hx)
      rw [hx', Str.empty_append]
    rw [if_pos (by simpa using hx)]
    exact q _ _ g _ rfl (by rw [e]; exact .str ..) (.refl st)
  · rw [if_neg (by simpa using hx)]
    by_cases hy : y.length = 0
    · have e : x ++ y = x := by
        apply Str.ext'
        rw [Str.cps_append]
        have : y.cps = #[] := by simpa [Str.length] using hy
        rw [this]; simp
      rw [if_pos (by simpa using hy)]
      exact q _ _ g _ rfl (by rw [e]; exact .str ..) (.refl st)
    · rw [if_neg (by simpa using hy)]
      exact ⟨hsz, q _ _ g _ rfl (.str ..) (.tok st _)⟩
theorem op_add_str {a b : Str} (k : K (.str (a ++ b))) (hsz : (a ++ b).length ≤ sizeLine) : Op2 C n (binaryOp .Add) (.str a) (.str b) K :=
  fun A g s Q E v u r st rv ru q => by
    cases rv; cases ru
    exact P.add_str (made_add st hsz fun d v g' s' hd => by subst hd; exact q _ v g' s' k)
theorem op_iadd_str {a b : Str} (k : K (.str (a ++ b))) (hsz : (a ++ b).length ≤ sizeLine) : Op2 C n (inplaceOp .Add) (.str a) (.str b) K :=
  fun A g s Q E v u r st rv ru q => by
    cases rv; cases ru
    exact P.iadd_str (made_add st hsz fun d v g' s' hd => by subst hd; exact q _ v g' s' k)
theorem op_isub_int {a b : Int} (k : K (.int (a - b))) : Op2 C n (inplaceOp .Sub) (.int a) (.int b) K :=
  fun A g s Q E v u r st rv ru q => by cases rv; cases ru; exact P.isub_int (q _ _ g _ k (.int ..) (.tok st _))

/-- a new list of frozen items -/
theorem Rel.newList {C : Cx} {g : View} {s : Shared} {vs : Array Value} {ds : List PyData} (st : St C g s) (r : RelAll g vs.toList ds) :
    Rel (g.set s.heap.objs.size (LO vs 0)) (.ref s.heap.objs.size) (.list ds) ∧ Grow C g s (g.set s.heap.objs.size (LO vs 0)) { s with heap := s.heap.push (LO vs 0) } := by
  have G := Grow.push st (LO vs 0) rfl
  exact ⟨.list (View.set_self ..) (r.mono (G.le st)), G⟩
theorem Rel.newTuple {C : Cx} {g : View} {s : Shared} {vs : Array Value} {ds : List PyData} (st : St C g s) (r : RelAll g vs.toList ds) :
    Rel (g.set s.heap.objs.size (TO vs 0)) (.ref s.heap.objs.size) (.tuple ds) ∧ Grow C g s (g.set s.heap.objs.size (TO vs 0)) { s with heap := s.heap.push (TO vs 0) } := by
  have G := Grow.push st (TO vs 0) rfl
  exact ⟨.tuple (View.set_self ..) (r.mono (G.le st)), G⟩

theorem op_add_list {xs ys : List PyData} (k : K (.list (xs ++ ys))) (hsz : xs.length + ys.length ≤ sizeLine) : Op2 C n (binaryOp .Add) (.list xs) (.list ys) K :=
  fun A g s Q E v u r st rv ru q => by
    cases rv with
    | list h1 r1 => cases ru with
      | list h2 r2 =>
        have l1 := r1.length
        have l2 := r2.length
        simp only [Array.length_toList] at l1 l2
        refine P.add_list (st.sub _ _ h1) (st.sub _ _ h2) ?_ (by rw [l1, l2]; exact hsz)
        obtain ⟨a, b⟩ := Rel.newList st (vs := _ ++ _) (by rw [Array.toList_append]; exact r1.append r2)
        exact q _ _ _ _ k a b
end

/-! equality and order of data -/
mutual
noncomputable def eqD : PyData → PyData → Bool
  | .int a, .int b => decide (a = b)
  | .str a, .str b => decide (a = b)
  | .list xs, .list ys => eqDs xs ys
  | _, _ => false
noncomputable def eqDs : List PyData → List PyData → Bool
  | [], [] => true
  | x :: xs, y :: ys => eqD x y && eqDs xs ys
  | _, _ => false
end
mutual
noncomputable def cpt : PyData → PyData → Bool
  | .int _, .int _ => true
  | .str _, .str _ => true
  | .list xs, .list ys => cpts xs ys
  | _, _ => false
noncomputable def cpts : List PyData → List PyData → Bool
  | x :: xs, y :: ys => cpt x y && cpts xs ys
  | _, _ => true
end
mutual
noncomputable def ltD : PyData → PyData → Bool
  | .int a, .int b => decide (a < b)
  | .str a, .str b => decide (a.cps.toList < b.cps.toList)
  | .list xs, .list ys => ltDs xs ys
  | _, _ => false
noncomputable def ltDs : List PyData → List PyData → Bool
  | [], [] => false
  | [], _ :: _ => true
  | _ :: _, [] => false
  | x :: xs, y :: ys => if eqD x y then ltDs xs ys else ltD x y
end

mutual
theorem Rel.unique {g : View} : ∀ {v : Value} {d d' : PyData}, Rel g v d → Rel g v d' → d = d'
  | _, _, _, .none, .none => rfl
  | _, _, _, .bool _, .bool _ => rfl
  | _, _, _, .int _ _, .int _ _ => rfl
  | _, _, _, .str _ _, .str _ _ => rfl
  | _, _, _, .list h1 r1, .list h2 r2 => by
    rw [h1] at h2; cases h2
    rw [RelAll.unique r1 r2]
  | _, _, _, .tuple h1 r1, .tuple h2 r2 => by
    rw [h1] at h2; cases h2
    rw [RelAll.unique r1 r2]
  | _, _, _, .list h1 r1, .tuple h2 r2 => by rw [h1] at h2; simp at h2
  | _, _, _, .tuple h1 r1, .list h2 r2 => by rw [h1] at h2; simp at h2
theorem RelAll.unique {g : View} : ∀ {vs : List Value} {ds es : List PyData}, RelAll g vs ds → RelAll g vs es → ds = es
  | _, _, _, .nil, .nil => rfl
  | _, _, _, .cons h r, .cons h' r' => by rw [Rel.unique h h', RelAll.unique r r']
end

mutual
theorem eqD_iff : ∀ {d e : PyData}, cpt d e = true → (eqD d e = true ↔ d = e)
  | .int a, .int b, _ => by simp [eqD]
  | .str a, .str b, _ => by simp [eqD]
  | .list xs, .list ys, h => by simp only [eqD, PyData.list.injEq]; exact eqDs_iff (by simpa [cpt] using h)
  | .none, e, h => by cases e <;> simp [cpt] at h
  | .bool _, e, h => by cases e <;> simp [cpt] at h
  | .tuple _, e, h => by cases e <;> simp [cpt] at h
  | .dict _, e, h => by cases e <;> simp [cpt] at h
  | .int _, .str _, h | .int _, .list _, h | .int _, .none, h | .int _, .bool _, h | .int _, .tuple _, h | .int _, .dict _, h => by simp [cpt] at h
  | .str _, .int _, h | .str _, .list _, h | .str _, .none, h | .str _, .bool _, h | .str _, .tuple _, h | .str _, .dict _, h => by simp [cpt] at h
  | .list _, .int _, h | .list _, .str _, h | .list _, .none, h | .list _, .bool _, h | .list _, .tuple _, h | .list _, .dict _, h => by simp [cpt] at h
theorem eqDs_iff : ∀ {ds es : List PyData}, cpts ds es = true → (eqDs ds es = true ↔ ds = es)
  | [], [], _ => by simp [eqDs]
  | [], _ :: _, _ => by simp [eqDs]
  | _ :: _, [], _ => by simp [eqDs]
  | x :: xs, y :: ys, h => by
    simp only [cpts, Bool.and_eq_true] at h
    simp only [eqDs, Bool.and_eq_true, List.cons.injEq, eqD_iff h.1, eqDs_iff h.2]
end

theorem eqDs_all : ∀ (xs ys : List PyData), xs.length = ys.length → (List.range xs.length).all (fun j => eqD (xs.getD j .none) (ys.getD j .none)) = eqDs xs ys
  | [], [], _ => by simp [eqDs]
  | [], _ :: _, h => by simp at h
  | _ :: _, [], h => by simp at h
  | x :: xs, y :: ys, h => by
    rw [List.length_cons, List.range_succ_eq_map, List.all_cons, List.all_map]
    simp only [eqDs]
    congr 1
    rw [← eqDs_all xs ys (by simpa using h)]
    rfl
theorem eqDs_len : ∀ {xs ys : List PyData}, xs.length ≠ ys.length → eqDs xs ys = false
  | [], [], h => by simp at h
  | [], _ :: _, h => by simp [eqDs]
  | _ :: _, [], h => by simp [eqDs]
  | x :: xs, y :: ys, h => by
    simp only [eqDs, Bool.and_eq_false_iff]
    exact .inr (eqDs_len (by simpa using h))

theorem depthAll_le {d : PyData} : ∀ {ds : List PyData}, d ∈ ds → d.depth ≤ PyData.depthAll ds
  | [], h => by simp at h
  | x :: xs, h => by
    rcases List.mem_cons.mp h with rfl | h
    · simp only [PyData.depthAll]; omega
    · have := depthAll_le h; simp only [PyData.depthAll]; omega

theorem cpts_get : ∀ {xs ys : List PyData} (j : Nat), cpts xs ys = true → ∀ {d e : PyData}, xs[j]? = some d → ys[j]? = some e → cpt d e = true
  | [], _, _, _, _, _, h, _ => by simp at h
  | _ :: _, [], _, _, _, _, _, h => by simp at h
  | x :: xs, y :: ys, 0, hc, d, e, h1, h2 => by
    simp only [cpts, Bool.and_eq_true] at hc
    simp at h1 h2; subst h1 h2; exact hc.1
  | x :: xs, y :: ys, j + 1, hc, d, e, h1, h2 => by
    simp only [cpts, Bool.and_eq_true] at hc
    simp only [List.getElem?_cons_succ] at h1 h2
    exact cpts_get j hc.2 h1 h2

theorem eqAt_rel {C : Cx} {g : View} {s : Shared} (st : St C g s) : ∀ (k : Nat) {A : Around} {v u : Value} {d e : PyData}, d.depth ≤ k → A.units + k < cLine → Rel g v d → Rel g u e → cpt d e = true → EqAt A s v u (eqD d e)
  | k, A, v, u, d, e, hk, hu, rv, ru, hc => by
    cases rv with
    | none => cases ru <;> simp [cpt] at hc
    | bool _ => cases ru <;> simp [cpt] at hc
    | tuple _ _ => cases ru <;> simp [cpt] at hc
    | int a t => cases ru with
      | int b u =>
        have e : eqD (.int a) (.int b) = (a == b) := by simp only [eqD]; by_cases h : a = b <;> simp [h]
        rw [e]; exact EqAt.int_int a t b u
      | _ => simp [cpt] at hc
    | str a t => cases ru with
      | str b u =>
        have e : eqD (.str a) (.str b) = (a == b) := by simp only [eqD]; by_cases h : a = b <;> simp [h]
        rw [e]; exact EqAt.str_str a t b u
      | _ => simp [cpt] at hc
    | @list a vs n ds h1 r1 => cases ru with
      | @list b us m es h2 r2 =>
        simp only [PyData.depth] at hk
        have l1 := r1.length
        have l2 := r2.length
        simp only [Array.length_toList] at l1 l2
        have H1 := st.sub _ _ h1
        have H2 := st.sub _ _ h2
        by_cases hab : a = b
        · subst hab
          rw [h1] at h2; cases h2
          have := r1.unique r2; subst this
          have e : eqD (.list ds) (.list ds) = true := (eqD_iff hc).mpr rfl
          rw [e]; exact EqAt.same _
        · refine EqAt.of_refs hab ?_
          simp only [eqD]
          by_cases hl : ds.length = es.length
          · have key := RcAt.lists (A := A) (e := fun j => eqD (ds.getD j .none) (es.getD j .none)) (IsL.isList H1) (IsL.isList H2) (by rw [l1, l2, hl]) (by omega) (fun j h1' h2' => ?_)
            · rw [l1, eqDs_all ds es hl] at key; exact key
            · obtain ⟨d, hd, rd⟩ := r1.get (i := j) (v := vs[j]) (by simp [h1'])
              obtain ⟨e, he, re⟩ := r2.get (i := j) (v := us[j]) (by simp [h2'])
              have hd' : ds.getD j .none = d := by rw [List.getD_eq_getElem?_getD, hd]; rfl
              have he' : es.getD j .none = e := by rw [List.getD_eq_getElem?_getD, he]; rfl
              rw [hd', he']
              have hm := depthAll_le (List.mem_of_getElem? hd)
              match k, hk with
              | k + 1, hk => exact eqAt_rel st k (by omega) (by show A.units + 1 + k < cLine; omega) rd re (cpts_get j (by simpa [cpt] using hc) hd he)
          · rw [eqDs_len hl]
            exact RcAt.lists_lengths (IsL.isList H1) (IsL.isList H2) (by rw [l1, l2]; simpa using hl) (by omega)
      | _ => simp [cpt] at hc

section
variable {C : Cx} {n : Nat} {K : PyData → Prop}
theorem op_eq_list {xs ys : List PyData} (k : K (.bool (eqDs xs ys))) (hc : cpts xs ys = true) (hd : PyData.depthAll xs ≤ 60) : Op2 C n (compareOp .Eq) (.list xs) (.list ys) K :=
  fun A g s Q E v u r st rv ru q => by
    cases rv with
    | @list a vs n ds h1 r1 => cases ru with
      | @list b us m es h2 r2 =>
        have l1 := r1.length
        have l2 := r2.length
        simp only [Array.length_toList] at l1 l2
        have H1 := st.sub _ _ h1
        have H2 := st.sub _ _ h2
        have hu := r.units
        have fin : RcAt A s (.ref a) (.ref b) (eqDs xs ys) := by
          by_cases hl : xs.length = ys.length
          · have key := RcAt.lists (A := A) (e := fun j => eqD (xs.getD j .none) (ys.getD j .none)) (IsL.isList H1) (IsL.isList H2) (by rw [l1, l2, hl]) r.u (fun j h1' h2' => ?_)
            · rw [l1, eqDs_all xs ys hl] at key; exact key
            · obtain ⟨d, hd', rd⟩ := r1.get (i := j) (v := vs[j]) (by simp [h1'])
              obtain ⟨e, he, re⟩ := r2.get (i := j) (v := us[j]) (by simp [h2'])
              have e1 : xs.getD j .none = d := by rw [List.getD_eq_getElem?_getD, hd']; rfl
              have e2 : ys.getD j .none = e := by rw [List.getD_eq_getElem?_getD, he]; rfl
              rw [e1, e2]
              have hm := depthAll_le (List.mem_of_getElem? hd')
              exact eqAt_rel st 60 (by omega) (by show A.units + 1 + 60 < cLine; omega) rd re (cpts_get j hc hd' he)
          · rw [eqDs_len hl]
            exact RcAt.lists_lengths (IsL.isList H1) (IsL.isList H2) (by rw [l1, l2]; simpa using hl) r.u
        exact fin C.prog C.w E Q (q _ _ g _ k (.bool _) (.refl st))
end
end Lw
end
noncomputable section
open PySem.SeqAt
open PySem.AutoSeq1 (wpAny_loadPart')
open PySem.MeetsSeq PySem.MeetsSeq2 PySem.MeetsSeq3 PySem.SeqRoads2
namespace Lw

noncomputable def LtAt (A : Around) (s : Shared) (y x : Value) (b : Bool) : Prop :=
  ∀ (prog : Program) (w : World) (E : Value → Shared → Prop) (Q : Value → Shared → Prop), Q (.bool b) s → wpAny (model prog w) A (richCompare .Lt y x) Q E s

theorem ltDs_len : ∀ {xs ys : List PyData}, (xs = [] ∨ ys = []) → ltDs xs ys = decide (xs.length < ys.length)
  | [], [], _ => by simp [ltDs]
  | [], _ :: _, _ => by simp [ltDs]
  | _ :: _, [], _ => by simp [ltDs]
  | _ :: _, _ :: _, h => by simp at h

theorem lt_loopAt (l b : Addr) (items items2 : Array Value) (n n2 : Nat) (e c : Nat → Bool) (r : Nat → Bool)
    (hr : ∀ i, r i = if i < items.size ∧ i < items2.size then (if e i then r (i + 1) else c i) else decide (items.size < items2.size)) (k : Nat) :
    ∀ i : Nat, items.size - i = k → Meets (Builtin.«list.__eq__.loop» ⟨[.ref l, .ref b, rawInt i, rawInt 0], []⟩)
      (fun A R s => s.heap.get? l = some (LO items n) ∧ s.heap.get? b = some (LO items2 n2) ∧
        (∀ j (h1 : j < items.size) (h2 : j < items2.size), EqAt A.in1 s items[j] items2[j] (e j)) ∧
        (∀ j (h1 : j < items.size) (h2 : j < items2.size), e j = false → LtAt A.in1 s items[j] items2[j] (c j)) ∧
        R (.ok (.ret (.bool (r i)))) s) := by
  induction k with
  | zero =>
    intro i hk prog w A R s h
    obtain ⟨hp, g, d, tk, os⟩ := s; obtain ⟨hl, hb, he, hc, h⟩ := h
    wp_walk using wpAny_loadPart' hl, wpAny_loadPart' hb
    have hi1 : items[((i : Nat) : Int).toNat]? = none := by simp; omega
    rw [hr i, if_neg (by omega)] at h
    rw [hi1]
    cases hq : items2[((i : Nat) : Int).toNat]? with
    | none =>
      wp_walk using wpAny_loadPart' hl, wpAny_loadPart' hb
      exact h
    | some _ =>
      wp_walk using wpAny_loadPart' hl, wpAny_loadPart' hb
      exact h
  | succ k ih =>
    intro i hk prog w A R s h
    obtain ⟨hp, g, d, tk, os⟩ := s; obtain ⟨hl, hb, he, hc, h⟩ := h
    wp_walk using wpAny_loadPart' hl, wpAny_loadPart' hb
    have hlt : i < items.size := by omega
    have hi1 : items[((i : Nat) : Int).toNat]? = some items[i] := by simp [hlt]
    rw [hi1]
    by_cases hlt2 : i < items2.size
    · have hi2 : items2[((i : Nat) : Int).toNat]? = some items2[i] := by simp [hlt2]
      have hcc : ((i : Int) + 1) = ((i + 1 : Nat) : Int) := by push_cast; rfl
      rw [hr i, if_pos ⟨hlt, hlt2⟩] at h
      rw [hi2]
      refine wpAny_bind (he i hlt hlt2 prog w _ _ ?_)
      cases hb' : e i with
      | true =>
        rw [hb'] at h
        wp_walk
        rw [hcc]
        exact ⟨plainId_quiet plain_eq_loop _, codeAny_builtin entry_eq_loop (by
          rw [Around.under_plainId plain_eq_loop _]
          exact ih (i + 1) (by omega) prog w A R _ ⟨hl, hb, he, hc, by simpa using h⟩)⟩
      | false =>
        rw [hb'] at h
        wp_walk using wpAny_loadPart' hl, wpAny_loadPart' hb
        rw [hi1, hi2]
        refine wpAny_bind (hc i hlt hlt2 hb' prog w _ _ ?_)
        wp_walk
        simpa using h
    · have hi2 : items2[((i : Nat) : Int).toNat]? = none := by simp; omega
      rw [hr i, if_neg (by omega)] at h
      rw [hi2]
      wp_walk using wpAny_loadPart' hl, wpAny_loadPart' hb
      exact h

theorem list_ltAt (l b : Addr) (items items2 : Array Value) (n n2 : Nat) (e c : Nat → Bool) (r : Nat → Bool)
    (hr : ∀ i, r i = if i < items.size ∧ i < items2.size then (if e i then r (i + 1) else c i) else decide (items.size < items2.size)) :
    Meets (Builtin.«list.__lt__» ⟨[.ref l, .ref b], []⟩)
      (fun A R s => s.heap.get? l = some (LO items n) ∧ s.heap.get? b = some (LO items2 n2) ∧
        (∀ j (h1 : j < items.size) (h2 : j < items2.size), EqAt A.in1 s items[j] items2[j] (e j)) ∧
        (∀ j (h1 : j < items.size) (h2 : j < items2.size), e j = false → LtAt A.in1 s items[j] items2[j] (c j)) ∧
        R (.ok (.ret (.bool (r 0)))) s) := by
  intro prog w A R s h
  obtain ⟨hp, g, d, tk, os⟩ := s; obtain ⟨hl, hb, he, hc, h⟩ := h
  have f3 := AutoSeq1.sub_list_list
  wp_walk using wpAny_loadPart' hl, wpAny_loadPart' hb
  exact ⟨plainId_quiet plain_eq_loop _, codeAny_builtin entry_eq_loop (by
    rw [Around.under_plainId plain_eq_loop _]
    exact lt_loopAt l b items items2 n n2 e c r hr _ 0 rfl prog w A R _ ⟨hl, hb, he, hc, h⟩)⟩

theorem LtAt.lists {A : Around} {s : Shared} {l b : Addr} {items items2 : Array Value} {n n2 : Nat} {e c r : Nat → Bool} (hl : s.heap.get? l = some (LO items n)) (hb : s.heap.get? b = some (LO items2 n2)) (hu : A.units < cLine)
    (hr : ∀ i, r i = if i < items.size ∧ i < items2.size then (if e i then r (i + 1) else c i) else decide (items.size < items2.size))
    (he : ∀ j (h1 : j < items.size) (h2 : j < items2.size), EqAt A.in1 s items[j] items2[j] (e j))
    (hc : ∀ j (h1 : j < items.size) (h2 : j < items2.size), e j = false → LtAt A.in1 s items[j] items2[j] (c j)) : LtAt A s (.ref l) (.ref b) (r 0) := fun prog w E Q h =>
  richCompare_meets_room (op := .Lt) ⟨_, hl, rfl⟩ ⟨_, hb, rfl⟩ F.slot_list_lt F.entry_list_lt (F.args_list_lt_2 _ _) (list_ltAt l b items items2 n n2 e c r hr)
    ⟨hl, hb, he, hc, show Value.bool (r 0) ≠ Value.notImplemented ∧ Q (.bool (r 0)) s from ⟨(fun x => nomatch x), h⟩⟩ hu

noncomputable def ltFrom (xs ys : List PyData) (i : Nat) : Bool := if i < xs.length ∧ i < ys.length then ltDs (xs.drop i) (ys.drop i) else decide (xs.length < ys.length)
theorem ltFrom_zero (xs ys : List PyData) : ltFrom xs ys 0 = ltDs xs ys := by
  unfold ltFrom
  split
  · simp
  · rename_i h
    refine (ltDs_len ?_).symm
    cases xs <;> cases ys <;> simp_all
theorem ltFrom_step (xs ys : List PyData) (i : Nat) : ltFrom xs ys i = if i < xs.length ∧ i < ys.length then
    (if eqD (xs.getD i .none) (ys.getD i .none) then ltFrom xs ys (i + 1) else ltD (xs.getD i .none) (ys.getD i .none)) else decide (xs.length < ys.length) := by
  by_cases h : i < xs.length ∧ i < ys.length
  · rw [if_pos h]
    have e1 : xs.drop i = xs.getD i .none :: xs.drop (i + 1) := by
      rw [List.drop_eq_getElem_cons h.1]; simp [h.1]
    have e2 : ys.drop i = ys.getD i .none :: ys.drop (i + 1) := by
      rw [List.drop_eq_getElem_cons h.2]; simp [h.2]
    have e3 : ltFrom xs ys i = ltDs (xs.drop i) (ys.drop i) := by unfold ltFrom; rw [if_pos h]
    rw [e3, e1, e2, ltDs]
    congr 1
    unfold ltFrom
    split
    · rfl
    · rename_i h2
      rw [ltDs_len (by
        rcases Nat.lt_or_ge (i + 1) xs.length with q | q
        · exact .inr (List.drop_eq_nil_of_le (by omega))
        · exact .inl (List.drop_eq_nil_of_le q))]
      simp only [List.length_drop]
      by_cases q : xs.length < ys.length
      · rw [decide_eq_true q]; exact decide_eq_true (by omega)
      · rw [decide_eq_false q]; exact decide_eq_false (by omega)
  · rw [if_neg h]; unfold ltFrom; rw [if_neg h]

theorem ltAt_rel {C : Cx} {g : View} {s : Shared} (st : St C g s) : ∀ (k : Nat) {A : Around} {v u : Value} {d e : PyData}, d.depth ≤ k → A.units + k < cLine → Rel g v d → Rel g u e → cpt d e = true → LtAt A s v u (ltD d e)
  | k, A, v, u, d, e, hk, hu, rv, ru, hc => by
    cases rv with
    | none => cases ru <;> simp [cpt] at hc
    | bool _ => cases ru <;> simp [cpt] at hc
    | tuple _ _ => cases ru <;> simp [cpt] at hc
    | int a t => cases ru with
      | int b u => exact fun prog w E Q h => by simp only [ltD] at h; exact P.lt_int (A := A) (t := t) (u := u) (a := a) (b := b) h
      | _ => simp [cpt] at hc
    | str a t => cases ru with
      | str b u => exact fun prog w E Q h => by simp only [ltD] at h; exact P.lt_str (A := A) (t := t) (u := u) (x := a) (y := b) h
      | _ => simp [cpt] at hc
    | @list a vs n ds h1 r1 => cases ru with
      | @list b us m es h2 r2 =>
        simp only [PyData.depth] at hk
        have l1 := r1.length
        have l2 := r2.length
        simp only [Array.length_toList] at l1 l2
        have H1 := st.sub _ _ h1
        have H2 := st.sub _ _ h2
        simp only [ltD]
        rw [← ltFrom_zero]
        have it : ∀ j (h1' : j < vs.size) (h2' : j < us.size), Rel g vs[j] (ds.getD j .none) ∧ Rel g us[j] (es.getD j .none) ∧ cpt (ds.getD j .none) (es.getD j .none) = true ∧ (ds.getD j .none).depth ≤ PyData.depthAll ds := fun j h1' h2' => by
          obtain ⟨d, hd, rd⟩ := r1.get (i := j) (v := vs[j]) (by simp [h1'])
          obtain ⟨e, he, re⟩ := r2.get (i := j) (v := us[j]) (by simp [h2'])
          have hd' : ds.getD j .none = d := by rw [List.getD_eq_getElem?_getD, hd]; rfl
          have he' : es.getD j .none = e := by rw [List.getD_eq_getElem?_getD, he]; rfl
          rw [hd', he']
          exact ⟨rd, re, cpts_get j (by simpa [cpt] using hc) hd he, depthAll_le (List.mem_of_getElem? hd)⟩
        match k, hk with
        | k + 1, hk =>
          refine LtAt.lists (e := fun j => eqD (ds.getD j .none) (es.getD j .none)) (c := fun j => ltD (ds.getD j .none) (es.getD j .none)) (r := ltFrom ds es) H1 H2 (by omega) (fun i => by rw [ltFrom_step, l1, l2])
            (fun j h1' h2' => ?_) (fun j h1' h2' _ => ?_)
          · obtain ⟨a1, a2, a3, a4⟩ := it j h1' h2'
            exact eqAt_rel st k (by omega) (by show A.units + 1 + k < cLine; omega) a1 a2 a3
          · obtain ⟨a1, a2, a3, a4⟩ := it j h1' h2'
            exact ltAt_rel st k (by omega) (by show A.units + 1 + k < cLine; omega) a1 a2 a3
      | _ => simp [cpt] at hc

section
variable {C : Cx} {n : Nat} {K : PyData → Prop}
theorem op_lt_data {d e : PyData} (k : K (.bool (ltD d e))) (hc : cpt d e = true) (hd : d.depth ≤ 60) : Op2 C n (compareOp .Lt) d e K :=
  fun A g s Q E v u r st rv ru q => by
    have hu := r.units
    exact ltAt_rel st 60 hd (by omega) rv ru hc C.prog C.w E Q (q _ _ g _ k (.bool _) (.refl st))

/-- truth of a value -/
noncomputable def Tr (C : Cx) (n : Nat) (d : PyData) (K : Bool → Prop) : Prop :=
  ∀ (A : Around) (g : View) (s : Shared) (Q : Bool → Shared → Prop) (E : Value → Shared → Prop) (v : Value), Room n A → St C g s → Rel g v d →
    (∀ b g' s', K b → Grow C g s g' s' → Q b s') → wpAny C.M A (truthy v) Q E s
theorem tr_str {x : Str} {K : Bool → Prop} (k : K (decide (x.length ≠ 0))) (hsz : x.length ≤ sizeLine) : Tr C n (.str x) K :=
  fun A g s Q E v r st rv q => by
    cases rv
    rw [sizeLine_eq] at hsz
    refine P.truthy_str (by omega) ?_
    have e : ((x.length : Int) != 0) = decide (x.length ≠ 0) := by
      by_cases h : x.length = 0 <;> simp [h]
    rw [e]
    exact q _ g _ k (.tok st _)
theorem tr_int {x : Int} {K : Bool → Prop} (k : K (decide (x ≠ 0))) : Tr C n (.int x) K :=
  fun A g s Q E v r st rv q => by
    cases rv
    refine P.truthy_int ?_
    have e : (x != 0) = decide (x ≠ 0) := by
      by_cases h : x = 0 <;> simp [h]
    rw [e]
    exact q _ g _ k (.refl st)
theorem tr_list {xs : List PyData} {K : Bool → Prop} (k : K (!xs.isEmpty)) (hsz : xs.length ≤ sizeLine) : Tr C n (.list xs) K :=
  fun A g s Q E v r st rv q => by
    cases rv with
    | @list a vs m ds h1 r1 =>
      have l1 := r1.length
      simp only [Array.length_toList] at l1
      rw [sizeLine_eq] at hsz
      refine wpAny_truthy_list (IsL.isList (st.sub _ _ h1)) (by rw [l1]; omega) ?_
      have e : vs.isEmpty = xs.isEmpty := by
        cases xs <;> simp_all [Array.isEmpty]
      rw [e]
      exact q _ g _ k (.tok st _)
theorem Tst.val {env : Env} {ρ : Loc} {e : PySem.Expr} {K : Bool → Prop} (h : Ev C n env ρ e fun d => Tr C n d K)
    (he : ∀ whole, isTrue e env whole = (do let v ← whole; standAt e.pos; holding [v] (truthy v)) := by intro _; rfl) : Tst C n env ρ e K :=
  fun A g s Q E rm vis q => wpAny_isTrue_value (h A g s _ E rm vis fun d v g1 s1 hd rd G1 => hd A g1 s1 Q E v rm G1.st rd fun b g2 s2 hb G2 => q b g2 s2 hb (G1.trans G2)) (he _)
theorem Tst.or2 {env : Env} {ρ : Loc} {x y : PySem.Expr} {pos : Pos} {K : Bool → Prop} (h : Tst C n env ρ x fun b => if b then K true else Tst C n env ρ y K) : Tst C n env ρ (.BoolOp .Or [x, y] pos) K :=
  fun A g s Q E rm vis q => wpAny_isTrue_BoolOp (wpAny_allTrue_Or_cons (h A g s _ E rm vis fun b g1 s1 hb G1 => by
    cases b
    · exact wpAny_allTrue_Or_cons (hb A g1 s1 _ E rm (vis.grow G1) fun c g2 s2 hc G2 => by
        cases c
        · exact wpAny_allTrue_Or_nil (q _ g2 s2 hc (G1.trans G2))
        · exact q _ g2 s2 hc (G1.trans G2))
    · exact q _ g1 s1 hb G1))
theorem Tst.or3 {env : Env} {ρ : Loc} {x y z : PySem.Expr} {pos : Pos} {K : Bool → Prop} (h : Tst C n env ρ x fun b => if b then K true else Tst C n env ρ y fun c => if c then K true else Tst C n env ρ z K) :
    Tst C n env ρ (.BoolOp .Or [x, y, z] pos) K :=
  fun A g s Q E rm vis q => wpAny_isTrue_BoolOp (wpAny_allTrue_Or_cons (h A g s _ E rm vis fun b g1 s1 hb G1 => by
    cases b
    · exact wpAny_allTrue_Or_cons (hb A g1 s1 _ E rm (vis.grow G1) fun c g2 s2 hc G2 => by
        cases c
        · exact wpAny_allTrue_Or_cons (hc A g2 s2 _ E rm ((vis.grow G1).grow G2) fun d g3 s3 hd G3 => by
            cases d
            · exact wpAny_allTrue_Or_nil (q _ g3 s3 hd ((G1.trans G2).trans G3))
            · exact q _ g3 s3 hd ((G1.trans G2).trans G3))
        · exact q _ g2 s2 hc (G1.trans G2))
    · exact q _ g1 s1 hb G1))
theorem Tst.and2 {env : Env} {ρ : Loc} {x y : PySem.Expr} {pos : Pos} {K : Bool → Prop} (h : Tst C n env ρ x fun b => if b then Tst C n env ρ y K else K false) : Tst C n env ρ (.BoolOp .And [x, y] pos) K :=
  fun A g s Q E rm vis q => wpAny_isTrue_BoolOp (wpAny_allTrue_And_cons (h A g s _ E rm vis fun b g1 s1 hb G1 => by
    cases b
    · exact q _ g1 s1 hb G1
    · exact wpAny_allTrue_And_cons (hb A g1 s1 _ E rm (vis.grow G1) fun c g2 s2 hc G2 => by
        cases c
        · exact q _ g2 s2 hc (G1.trans G2)
        · exact wpAny_allTrue_And_nil (q _ g2 s2 hc (G1.trans G2)))))
theorem Ev.or2 {env : Env} {ρ : Loc} {x y : PySem.Expr} {pos : Pos} (h : Ev C n env ρ x fun d => Tr C n d fun b => if b then K d else Ev C n env ρ y K) : Ev C n env ρ (.BoolOp .Or [x, y] pos) K :=
  fun A g s Q E rm vis q => wpAny_Or2 (h A g s _ E rm vis fun d v g1 s1 hd rd G1 => hd A g1 s1 _ E v rm G1.st rd fun b g2 s2 hb G2 => by
    cases b
    · exact hb A g2 s2 Q E rm ((vis.grow G1).grow G2) fun d' v' g3 s3 hd' rd' G3 => q d' v' g3 s3 hd' rd' ((G1.trans G2).trans G3)
    · exact q d v g2 s2 hb (rd.mono (G2.le G1.st)) (G1.trans G2))

/-! displays -/
noncomputable def Evs (C : Cx) (n : Nat) (env : Env) (ρ : Loc) : List PySem.Expr → (List PyData → Prop) → Prop
  | [], K => K []
  | e :: es, K => Ev C n env ρ e fun d => Evs C n env ρ es fun ds => K (d :: ds)
noncomputable def plainElt : PySem.Expr → Bool
  | .Starred .. => false
  | _ => true
theorem starEach_plain {env : Env} {e : PySem.Expr} {rest : List PySem.Expr} (h : plainElt e = true) : starEach (e :: rest) env = (false, eval e env) :: starEach rest env := by
  cases e <;> first | rfl | simp [plainElt] at h
theorem Evs.run {env : Env} {ρ : Loc} {pos : Pos} : ∀ (es : List PySem.Expr) (K : List PyData → Prop) (A : Around) (g : View) (s : Shared) (Q : List Value → Shared → Prop) (E : Value → Shared → Prop), es.all plainElt = true → Evs C n env ρ es K → Room n A → Vis C env ρ g s →
    (∀ ds vs g' s', K ds → RelAll g' vs ds → Grow C g s g' s' → Q vs s') → wpAny C.M A (spliced (backTo pos (starEach es env))) Q E s
  | [], K, A, g, s, Q, E, _, h, rm, vis, q => wpAny_items_nil (q [] [] g s h .nil (.refl vis.st))
  | e :: es, K, A, g, s, Q, E, hp, h, rm, vis, q => by
    simp only [List.all_cons, Bool.and_eq_true] at hp
    refine wpAny_items_cons (h A g s _ E rm vis fun d v g1 s1 hd rd G1 => ?_) (starEach_plain hp.1)
    exact Evs.run es _ A g1 s1 _ E hp.2 hd rm (vis.grow G1) fun ds vs g2 s2 hk r2 G2 => q (d :: ds) (v :: vs) g2 s2 hk (.cons (rd.mono (G2.le G1.st)) r2) (G1.trans G2)
theorem Ev.list {env : Env} {ρ : Loc} {es : List PySem.Expr} {pos : Pos} (h : Evs C n env ρ es fun ds => ds.length ≤ sizeLine ∧ K (.list ds)) (hp : es.all plainElt = true := by rfl) : Ev C n env ρ (.List es pos) K :=
  fun A g s Q E rm vis q => wpAny_List (Evs.run es _ A g s _ E hp h rm vis fun ds vs g1 s1 hk r1 G1 => by
    obtain ⟨a, b⟩ := Rel.newList G1.st (vs := vs.toArray) (by simpa using r1)
    exact ⟨by rw [r1.length]; exact hk.1, q _ _ _ _ hk.2 a (G1.trans b)⟩)
theorem Ev.tuple {env : Env} {ρ : Loc} {es : List PySem.Expr} {k : Nat} {pos : Pos} (h : Evs C n env ρ es fun ds => ds.length ≤ sizeLine ∧ K (.tuple ds)) (hp : es.all plainElt = true := by rfl) : Ev C n env ρ (.Tuple es k pos) K :=
  fun A g s Q E rm vis q => wpAny_Tuple (Evs.run es _ A g s _ E hp h rm vis fun ds vs g1 s1 hk r1 G1 => by
    obtain ⟨a, b⟩ := Rel.newTuple G1.st (vs := vs.toArray) (by simpa using r1)
    exact ⟨by rw [r1.length]; exact hk.1, q _ _ _ _ hk.2 a (G1.trans b)⟩)
end
end Lw
end
noncomputable section
namespace Lw

/-- the frame of a running def: what its names hold, and that the rest of the heap that it met (hin) stands -/
structure Frm (C : Cx) (env : Env) (ws : Str → Bool) (hin gin : View) (ρ : Loc) (g : View) (s : Shared) : Prop where
  vis : Vis C env ρ g s
  keep : ∀ a o, hin a = some o → s.heap.get? a = some o
  frz : ∀ a o, hin a = some o → g a = gin a
  ns : ∃ m, s.heap.Ns env.locals m
  nsp : hin env.locals = none ∧ g env.locals = none
  cell : ∀ x c, ws x = true → env.cells.lookup x = some c → hin c = none ∧ g c = none
  cinj : ∀ x y c, ws x = true → env.cells.lookup x = some c → env.cells.lookup y = some c → x = y
  own : ∀ x M ds, ρ x = some (.own M ds) → hin M = none ∧ g M = none
  oinj : ∀ x y M ds es, ρ x = some (.own M ds) → ρ y = some (.own M es) → x = y

theorem Heap.Ns.at {h : Heap} {a : Addr} {m : Str → Option Value} (x : h.Ns a m) : ∃ o es ep, h.get? a = some o ∧ o.data = .dict es ep := let ⟨o, es, ep, ho, hd, _⟩ := x; ⟨o, es, ep, ho, hd⟩

section
variable {C : Cx} {env : Env} {ws : Str → Bool} {hin gin : View} {ρ : Loc} {g g' : View} {s s' : Shared}
theorem Frm.grow (F : Frm C env ws hin gin ρ g s) (G : Grow C g s g' s') : Frm C env ws hin gin ρ g' s' := by
  refine ⟨F.vis.grow G, fun a o e => G.ext a o (F.keep a o e), fun a o e => (G.old a o (F.keep a o e)).trans (F.frz a o e), ?_, ⟨F.nsp.1, ?_⟩, fun x c w e => ?_, F.cinj, fun x M ds e => ?_, F.oinj⟩
  · obtain ⟨m, h⟩ := F.ns; exact ⟨m, h.keeps G.ext⟩
  · obtain ⟨m, h⟩ := F.ns
    obtain ⟨o, _, _, ho, _⟩ := Heap.Ns.at h
    rw [G.old _ _ ho]; exact F.nsp.2
  · obtain ⟨h1, h2⟩ := F.cell x c w e
    refine ⟨h1, ?_⟩
    obtain ⟨v, o, ho, _⟩ := F.vis.lv x c e
    rw [G.old _ _ ho]; exact h2
  · obtain ⟨h1, h2⟩ := F.own x M ds e
    refine ⟨h1, ?_⟩
    obtain ⟨v, _, _, vs, n, ho, _⟩ := F.vis.rd x _ e
    rw [G.old _ _ ho]; exact h2

noncomputable def Loc.upd (ρ : Loc) (x : Str) (sl : Sl) : Loc := fun y => if y = x then some sl else ρ y
theorem Loc.upd_self (ρ : Loc) (x : Str) (sl : Sl) : ρ.upd x sl x = some sl := by simp [Loc.upd]
theorem Loc.upd_ne (ρ : Loc) {x y : Str} (sl : Sl) (h : y ≠ x) : ρ.upd x sl y = ρ y := by simp [Loc.upd, h]

theorem SlRel.sameBut {h h' : Heap} {a : Addr} (hs : Heap.SameBut a h h') {v : Value} : ∀ {sl : Sl}, (∀ M ds, sl = .own M ds → M ≠ a) → SlRel g h v sl → SlRel g h' v sl
  | .dat d, _, r => r
  | .own M ds, n, ⟨e, vs, k, ho, r⟩ => ⟨e, vs, k, (hs.2 M (n M ds rfl)).trans ho, r⟩

/-- a name is stored: what stands behind it -/
theorem Frm.put (F : Frm C env ws hin gin ρ g s) {x : Str} {v : Value} {sl : Sl} {h' : Heap} {t : Nat} {b : Addr} (hs : Heap.SameBut b s.heap h') (hgb : g b = none) (hhb : hin b = none)
    (hold : Holds env h' x v) (hsl : SlRel g h' v sl) (hns : ∃ m, h'.Ns env.locals m) (hcell : ∀ y c, env.cells.lookup y = some c → ∃ u, h'.IsCell c u)
    (hoth : ∀ y u, y ≠ x → Holds env s.heap y u → Holds env h' y u) (hown : ∀ y M ds, ρ y = some (.own M ds) → M ≠ b)
    (ho1 : ∀ M ds, sl = .own M ds → hin M = none ∧ g M = none ∧ ∀ y es, y ≠ x → ρ y ≠ some (.own M es)) : Frm C env ws hin gin (ρ.upd x sl) g { s with heap := h', toks := t } := by
  have st' : St C g { s with heap := h', toks := t } := ⟨F.vis.st.base, fun a o e => (hs.2 a (fun q => by rw [q, hgb] at e; cases e)).trans (F.vis.st.sub a o e), F.vis.st.gens, F.vis.st.os⟩
  refine ⟨⟨st', F.vis.kind, F.vis.glob, F.vis.blt, fun y sl' e => ?_, hcell⟩, fun a o e => (hs.2 a (fun q => by rw [q, hhb] at e; cases e)).trans (F.keep a o e), F.frz, hns, F.nsp, F.cell, F.cinj, fun y M ds e => ?_, fun y z M ds es e1 e2 => ?_⟩
  · by_cases q : y = x
    · subst q; rw [Loc.upd_self] at e; cases e; exact ⟨v, hold, hsl⟩
    · rw [Loc.upd_ne _ _ q] at e
      obtain ⟨u, hu, ru⟩ := F.vis.rd y sl' e
      exact ⟨u, hoth y u q hu, SlRel.sameBut hs (fun M ds e' => hown y M ds (e' ▸ e)) ru⟩
  · by_cases q : y = x
    · subst q; rw [Loc.upd_self] at e; cases e
      exact ⟨(ho1 M ds rfl).1, (ho1 M ds rfl).2.1⟩
    · rw [Loc.upd_ne _ _ q] at e; exact F.own y M ds e
  · by_cases q : y = x
    · subst q; rw [Loc.upd_self] at e1; cases e1
      by_cases q2 : z = y
      · exact q2.symm
      · rw [Loc.upd_ne _ _ q2] at e2; exact absurd e2 ((ho1 M ds rfl).2.2 z es q2)
    · rw [Loc.upd_ne _ _ q] at e1
      by_cases q2 : z = x
      · subst q2; rw [Loc.upd_self] at e2; cases e2; exact absurd e1 ((ho1 M es rfl).2.2 y ds q)
      · rw [Loc.upd_ne _ _ q2] at e2; exact F.oinj y z M ds es e1 e2

/-- may x be stored in this frame, and where -/
noncomputable def storable (env : Env) (ws : Str → Bool) (x : Str) : Bool := match env.kindOf x with
  | some .local => true
  | some .cell => (env.cells.lookup x).isSome && ws x
  | _ => false

theorem Frm.store {M : Model} {A : Around} {E : Value → Shared → Prop} {Q : Unit → Shared → Prop} (F : Frm C env ws hin gin ρ g s) {x : Str} {v : Value} {sl : Sl} (hsl : SlRel g s.heap v sl)
    (ho1 : ∀ M ds, sl = .own M ds → hin M = none ∧ g M = none ∧ ∀ y es, y ≠ x → ρ y ≠ some (.own M es))
    (q : ∀ h' t, Frm C env ws hin gin (ρ.upd x sl) g { s with heap := h', toks := t } → Q () { s with heap := h', toks := t }) (hx : storable env ws x = true := by rfl) :
    wpAny M A (storeName env x v) Q E s := by
  unfold storable at hx
  obtain ⟨m, hn⟩ := F.ns
  obtain ⟨oL, es, ep, hoL, hdL⟩ := Heap.Ns.at hn
  have ownL : ∀ y N ds, ρ y = some (.own N ds) → N ≠ env.locals := fun y N ds e q0 => by
    obtain ⟨_, _, _, vs, n, ho, _⟩ := F.vis.rd y _ e
    rw [q0, hoL] at ho; cases ho; cases hdL
  have slL : ∀ N ds, sl = .own N ds → N ≠ env.locals := fun N ds e q0 => by
    subst e
    obtain ⟨_, vs, n, ho, _⟩ := hsl
    rw [q0, hoL] at ho; cases ho; cases hdL
  split at hx
  · rename_i hk
    refine wpAny_storeName_local hk hn (fun h' hn' hs => q h' _ ?_) (by rw [F.vis.kind]; rfl)
    have cellL : ∀ y c, env.cells.lookup y = some c → c ≠ env.locals := fun y c e q0 => by
      obtain ⟨u, o, ho, hd⟩ := F.vis.lv y c e
      rw [q0, hoL] at ho; cases ho; rw [hdL] at hd; cases hd
    refine F.put hs F.nsp.2 F.nsp.1 (.inl ⟨hk, _, hn', by simp⟩) (SlRel.sameBut hs slL hsl) ⟨_, hn'⟩ (fun y c e => ?_) (fun y u hy hu => ?_) ownL ho1
    · obtain ⟨u, o, ho, hd⟩ := F.vis.lv y c e
      exact ⟨u, o, (hs.2 c (cellL y c e)).trans ho, hd⟩
    · rcases hu with ⟨a, m2, hn2, hm2⟩ | ⟨a, c, hc, o, ho, hd⟩
      · refine .inl ⟨a, _, hn', ?_⟩
        simp only [hy, if_false]
        obtain ⟨o1, e1, p1, g1, d1, _, f1⟩ := hn
        obtain ⟨o2, e2, p2, g2, d2, _, f2⟩ := hn2
        rw [g1] at g2; cases g2; rw [d1] at d2; cases d2
        rw [← f1, f2]; exact hm2
      · exact .inr ⟨a, c, hc, o, (hs.2 c (fun q0 => by rw [q0, hoL] at ho; cases ho; rw [hdL] at hd; cases hd)).trans ho, hd⟩
  · rename_i hk
    obtain ⟨hx, hw⟩ := Bool.and_eq_true_iff.mp hx
    obtain ⟨c, hc⟩ := Option.isSome_iff_exists.mp hx
    obtain ⟨h1, h2⟩ := F.cell x c hw hc
    obtain ⟨u0, hv0⟩ := F.vis.lv x c hc
    have hcL : env.locals ≠ c := fun q0 => by
      obtain ⟨o, ho, hd⟩ := hv0
      rw [← q0, hoL] at ho; cases ho; rw [hdL] at hd; cases hd
    have ownC : ∀ y N ds, ρ y = some (.own N ds) → N ≠ c := fun y N ds e q0 => by
      obtain ⟨_, _, _, vs, n, ho, _⟩ := F.vis.rd y _ e
      obtain ⟨o, ho', hd⟩ := hv0
      rw [q0, ho'] at ho; cases ho; cases hd
    have slC : ∀ N ds, sl = .own N ds → N ≠ c := fun N ds e q0 => by
      subst e
      obtain ⟨_, vs, n, ho, _⟩ := hsl
      obtain ⟨o, ho', hd⟩ := hv0
      rw [q0, ho'] at ho; cases ho; cases hd
    refine wpAny_storeName_cell F.vis.kind hk hc hv0 (fun h' hv' hs => q h' s.toks ?_)
    refine F.put hs h2 h1 (.inr ⟨.inl hk, c, hc, hv'⟩) (SlRel.sameBut hs slC hsl) ⟨m, hn.sameBut hs hcL⟩ (fun y d e => ?_) (fun y u hy hu => ?_) ownC ho1
    · by_cases hd : d = c
      · subst hd; exact ⟨_, hv'⟩
      · obtain ⟨u, hu⟩ := F.vis.lv y d e; exact ⟨u, hu.sameBut hs hd⟩
    · rcases hu with ⟨a, m2, hn2, hm2⟩ | ⟨a, d, hd, hv⟩
      · exact .inl ⟨a, m2, hn2.sameBut hs hcL, hm2⟩
      · exact .inr ⟨a, d, hd, hv.sameBut hs fun e => hy (F.cinj x y c hw hc (e ▸ hd)).symm⟩
  · cases hx
end

noncomputable abbrev allW : Str → Bool := fun _ => true

inductive Fl where
  | next | brk | cont
  | ret (d : PyData)
noncomputable def FlRel (g : View) : Flow → Fl → Prop
  | .next, .next => True
  | .brk, .brk => True
  | .cont, .cont => True
  | .ret v, .ret d => Rel g v d
  | _, _ => False

noncomputable def Ex (C : Cx) (n : Nat) (env : Env) (ρ : Loc) (st : Stmt) (K : Fl → Loc → Prop) : Prop :=
  ∀ (A : Around) (hin gin g : View) (s : Shared) (Q : Flow → Shared → Prop) (E : Value → Shared → Prop), Room n A → Frm C env allW hin gin ρ g s →
    (∀ f fv ρ' g' s', K f ρ' → FlRel g' fv f → Le g g' → Frm C env allW hin gin ρ' g' s' → Q fv s') → wpAny C.M A (exec st env) Q E s
noncomputable def Exs (C : Cx) (n : Nat) (env : Env) (ρ : Loc) (st : List Stmt) (K : Fl → Loc → Prop) : Prop :=
  ∀ (A : Around) (hin gin g : View) (s : Shared) (Q : Flow → Shared → Prop) (E : Value → Shared → Prop), Room n A → Frm C env allW hin gin ρ g s →
    (∀ f fv ρ' g' s', K f ρ' → FlRel g' fv f → Le g g' → Frm C env allW hin gin ρ' g' s' → Q fv s') → wpAny C.M A (execs st env) Q E s

section
variable {C : Cx} {n : Nat} {env : Env} {ρ : Loc} {K : Fl → Loc → Prop} {pos : Pos}
theorem Exs.nil (k : K .next ρ) : Exs C n env ρ [] K := fun A hin gin g s Q E r F q => wpAny_execs_nil (q .next .next ρ g s k trivial (.refl g) F)
theorem Exs.cons {st : Stmt} {rest : List Stmt} (h : Ex C n env ρ st fun f ρ' => match f with | .next => Exs C n env ρ' rest K | f => K f ρ') : Exs C n env ρ (st :: rest) K :=
  fun A hin gin g s Q E r F q => wpAny_execs_cons (h A hin gin g s _ E r F fun f fv ρ' g' s' hf rf l F' => by
    cases f <;> cases fv <;> first | exact rf.elim | skip
    · exact hf A hin gin g' s' Q E r F' fun f fv ρ'' g'' s'' k rf l' F'' => q f fv ρ'' g'' s'' k rf (l.trans l') F''
    · exact q _ _ ρ' g' s' hf rf l F'
    · exact q _ _ ρ' g' s' hf rf l F'
    · exact q _ _ ρ' g' s' hf rf l F')
theorem Ex.ret {e : PySem.Expr} (h : Ev C n env ρ e fun d => K (.ret d) ρ) : Ex C n env ρ (.Return (some e) pos) K :=
  fun A hin gin g s Q E r F q => wpAny_Return_some (h A g s _ E r F.vis fun d v g' s' k rd G => q (.ret d) (.ret v) ρ g' s' k rd (G.le F.vis.st) (F.grow G))
theorem Ex.ite {t : PySem.Expr} {b o : List Stmt} (h : Tst C n env ρ t fun c => if c then Exs C n env ρ b K else Exs C n env ρ o K) : Ex C n env ρ (.If t b o pos) K :=
  fun A hin gin g s Q E r F q => wpAny_If (h A g s _ E r F.vis fun c g' s' hc G => by
    cases c
    · exact hc A hin gin g' s' Q E r (F.grow G) fun f fv ρ'' g'' s'' k rf l' F'' => q f fv ρ'' g'' s'' k rf ((G.le F.vis.st).trans l') F''
    · exact hc A hin gin g' s' Q E r (F.grow G) fun f fv ρ'' g'' s'' k rf l' F'' => q f fv ρ'' g'' s'' k rf ((G.le F.vis.st).trans l') F'')
theorem Ex.brk (k : K .brk ρ) : Ex C n env ρ (.Break pos) K := fun A hin gin g s Q E r F q => wpAny_Break (q .brk .brk ρ g s k trivial (.refl g) F)
theorem Ex.cont (k : K .cont ρ) : Ex C n env ρ (.Continue pos) K := fun A hin gin g s Q E r F q => wpAny_Continue (q .cont .cont ρ g s k trivial (.refl g) F)
theorem Ex.assign {x : Str} {e : PySem.Expr} {px : Pos} (h : Ev C n env ρ e fun d => K .next (ρ.upd x (.dat d)))
    (hs : swapsWith e (some (.Name x px)) pos.line env = pure false := by rfl) (hx : storable env allW x = true := by rfl) : Ex C n env ρ (.Assign [.Name x px] e pos) K :=
  fun A hin gin g s Q E r F q => wpAny_Assign_Name (h A g s _ E r F.vis fun d v g' s' k rd G =>
    (F.grow G).store (sl := .dat d) rd (fun _ _ e => by cases e) (fun h' t F' => q .next .next _ g' _ k trivial (G.le F.vis.st) F') hx) hs
theorem Ex.aug {x : Str} {op : PySem.Operator} {e : PySem.Expr} {px : Pos} {d : PyData} (hd : ρ x = some (.dat d)) (h : Ev C n env ρ e fun y => Op2 C n (inplaceOp op) d y fun z => K .next (ρ.upd x (.dat z)))
    (hx : storable env allW x = true := by rfl) : Ex C n env ρ (.AugAssign (.Name x px) op e pos) K :=
  fun A hin gin g s Q E r F q => wpAny_AugAssign_Name (by
    obtain ⟨u, hu, ru⟩ := F.vis.rd x _ hd
    refine hu.load F.vis.kind (h A g s _ E r F.vis fun y v g' s' k rd G => ?_)
    exact k A g' s' _ E u v r G.st (ru.mono (G.le F.vis.st)) rd fun z w g2 s2 kz rz G2 =>
      (F.grow (G.trans G2)).store (sl := .dat z) rz (fun _ _ e => by cases e) (fun h' t F' => q .next .next _ g2 _ kz trivial ((G.trans G2).le F.vis.st) F') hx)
end

/-! a def, called -/
noncomputable def bindDat (names : List Str) (ds : List PyData) : Loc := fun x => ((names.zip ds).reverse.lookup x).map .dat

end Lw
end
noncomputable section
namespace Lw

theorem bindL_lookup (kindOf : Str → Option NameKind) : ∀ (binds : List (Str × Value)) (m : Str → Option Value) (x : Str), kindOf x = some .local → bindL kindOf binds m x = (binds.reverse.lookup x).or (m x)
  | [], m, x, h => by simp [bindL]
  | (n, v) :: r, m, x, h => by
    rw [bindL, bindL_lookup kindOf r _ x h, List.reverse_cons, List.lookup_append, Option.or_assoc]
    congr 1
    by_cases e : x = n
    · subst e; simp [h, List.lookup]
    · have hb : (x == n) = false := beq_eq_false_iff_ne.mpr e
      simp only [List.lookup, hb, Option.none_or]
      split <;> simp [e]
theorem bindC_lookup (kindOf : Str → Option NameKind) : ∀ (binds : List (Str × Value)) (m : Str → Option Value) (x : Str), kindOf x ≠ some .local → bindC kindOf binds m x = (binds.reverse.lookup x).or (m x)
  | [], m, x, h => by simp [bindC]
  | (n, v) :: r, m, x, h => by
    rw [bindC, bindC_lookup kindOf r _ x h, List.reverse_cons, List.lookup_append, Option.or_assoc]
    congr 1
    by_cases e : x = n
    · subst e; simp [h, List.lookup]
    · have hb : (x == n) = false := beq_eq_false_iff_ne.mpr e
      simp only [List.lookup, hb, Option.none_or]
      split <;> simp [e]

theorem rel_lookup {g : View} : ∀ {vs : List Value} {ds : List PyData}, RelAll g vs ds → ∀ (names : List Str) {x : Str} {d : PyData}, (names.zip ds).reverse.lookup x = some d → ∃ v, (names.zip vs).reverse.lookup x = some v ∧ Rel g v d
  | _, _, .nil, names, x, d, h => by cases names <;> simp at h
  | _, _, .cons hd r, [], x, d, h => by simp at h
  | v :: vs, d' :: ds, .cons hd r, n :: names, x, d, h => by
    simp only [List.zip_cons_cons, List.reverse_cons, List.lookup_append] at h ⊢
    cases e : (names.zip ds).reverse.lookup x with
    | some d2 =>
      rw [e] at h
      simp only [Option.some_or, Option.some.injEq] at h
      subst h
      obtain ⟨u, hu, ru⟩ := rel_lookup r names e
      exact ⟨u, by rw [hu]; rfl, ru⟩
    | none =>
      rw [e, Option.none_or] at h
      have en : (names.zip vs).reverse.lookup x = none := by
        clear h
        have hlen := r.length
        rw [List.lookup_eq_none_iff] at e ⊢
        intro p hp
        rw [List.mem_reverse] at hp
        obtain ⟨i, hi, rfl⟩ := List.mem_iff_getElem.mp hp
        simp only [List.length_zip] at hi
        have hi2 : i < (names.zip ds).length := by rw [List.length_zip]; omega
        have := e _ (List.mem_reverse.mpr (List.getElem_mem hi2))
        simpa using this
      rw [en, Option.none_or]
      by_cases q : x = n
      · subst q
        simp only [List.lookup, beq_self_eq_true, Option.some.injEq] at h ⊢
        subst h; exact ⟨v, rfl, hd⟩
      · have hb : (x == n) = false := beq_eq_false_iff_ne.mpr q
        simp [List.lookup, hb] at h
theorem mem_of_lookup_zip {ds : List PyData} {names : List Str} {x : Str} {d : PyData} (h : (names.zip ds).reverse.lookup x = some d) : x ∈ names := by
  have := PySem.mem_of_lookup h
  rw [List.mem_reverse] at this
  exact (List.of_mem_zip this).1

noncomputable def retK (K : PyData → Prop) : Fl → Loc → Prop
  | .ret d, _ => K d
  | .next, _ => K .none
  | _, _ => False

section
variable {C : Cx} {n : Nat} {K : PyData → Prop}

theorem Frm.start {g : View} {s s' : Shared} {fd : FuncData} {f : Addr} {names : List Str} {vs : List Value} {ds : List PyData} (st : St C g s) (r : RelAll g vs ds)
    (hk : fd.scope.kind = .function) (hglob : fd.globals = mainGlobals) (hblt : fd.builtins = builtinsNs)
    (hkind : ∀ k, ∀ x ∈ names, fd.scope.names.lookup x = some .local ∨ (fd.scope.names.lookup x = some .cell ∧ ((cellsFrom k fd.scope.names []).lookup x).isSome = true))
    (x : InCallC s (callEnvC fd s.heap.objs.size f).locals (bindL (callEnvC fd s.heap.objs.size f).kindOf (names.zip vs) fun _ => none) (callEnvC fd s.heap.objs.size f).cells
        (bindC (callEnvC fd s.heap.objs.size f).kindOf (names.zip vs) fun _ => none) s') :
    Frm C (callEnvC fd s.heap.objs.size f) allW s.heap.get? g (bindDat names ds) g s' := by
  obtain ⟨h', t, hs'⟩ := x.toInCall.same
  have keep := x.toInCall.keep
  have st' : St C g s' := by
    subst hs'
    exact ⟨st.base, fun a o e => keep a o (st.sub a o e), st.gens, st.os⟩
  have Lnone : s.heap.get? s.heap.objs.size = none := none_at_size _
  refine ⟨⟨st', hk, hglob, hblt, fun y sl e => ?_, fun y c e => ⟨_, x.cell y c e⟩⟩, keep, fun a o e => rfl, ⟨_, x.toInCall.ns⟩, ⟨Lnone, st.none_of Lnone⟩, fun y c _ e => ?_, fun y z c _ e1 e2 => name_of_addr x.apart (PySem.mem_of_lookup e1) (PySem.mem_of_lookup e2), fun y M ds' e => ?_, fun y z M ds' es e _ => ?_⟩
  · unfold bindDat at e
    cases q : (names.zip ds).reverse.lookup y with
    | none => rw [q] at e; cases e
    | some d =>
      rw [q] at e; cases e
      obtain ⟨v, hv, rv⟩ := rel_lookup r names q
      refine ⟨v, ?_, rv⟩
      rcases hkind (s.heap.objs.size + 1) y (mem_of_lookup_zip q) with hl | ⟨hl, hc⟩
      · exact .inl ⟨hl, _, x.toInCall.ns, by rw [bindL_lookup _ _ _ _ hl, hv]; rfl⟩
      · obtain ⟨c, hc⟩ := Option.isSome_iff_exists.mp hc
        refine .inr ⟨.inl hl, c, hc, ?_⟩
        have := x.cell y c hc
        rw [bindC_lookup _ _ _ _ (by show fd.scope.names.lookup y ≠ _; rw [hl]; decide), hv] at this
        exact this
  · have hlt : s.heap.objs.size < c := x.above y c (PySem.mem_of_lookup e)
    have hn : s.heap.get? c = none := Heap.get?_none_of_le (Nat.le_of_lt hlt)
    exact ⟨hn, st.none_of hn⟩
  · unfold bindDat at e; cases q : (names.zip ds).reverse.lookup y <;> rw [q] at e <;> cases e
  · unfold bindDat at e; cases q : (names.zip ds).reverse.lookup y <;> rw [q] at e <;> cases e

theorem Fn.of_binds {f : Addr} {oc : Value} {od : Option Addr} {osl : Array (Option Value)} {fd : FuncData} {body : List Stmt} {names : List Str} {ds ds' : List PyData}
    (ho : (pre.heap_1 C.w.params).lookup f = some ⟨oc, od, .func fd, osl⟩) (hbody : fd.body = .stmts body)
    (hb : ∀ (A : Around) (g : View) (s : Shared) (Q : List (Str × Value) → Shared → Prop) (E : Value → Shared → Prop) (vs : List Value), St C g s → RelAll g vs ds →
      (∀ vs' g' s', RelAll g' vs' ds' → Grow C g s g' s' → Q (names.zip vs') s') → wpAny C.M A (bindArgs fd ⟨vs, []⟩) Q E s)
    (hkind : ∀ k, ∀ x ∈ names, fd.scope.names.lookup x = some .local ∨ (fd.scope.names.lookup x = some .cell ∧ ((cellsFrom k fd.scope.names []).lookup x).isSome = true))
    (hcode : codeIn (pre.heap_1 C.w.params) fd.code fd.qualname = true)
    (h : ∀ L, Exs C n (callEnvC fd L f) (bindDat names ds') body (retK K))
    (hcl : fd.closure = [] := by rfl) (hglob : fd.globals = mainGlobals := by rfl) (hblt : fd.builtins = builtinsNs := by rfl)
    (hco : fd.scope.isCoroutine = false := by rfl) (hgen : fd.scope.isGenerator = false := by rfl) (hk : fd.scope.kind = .function := by rfl) : Fn C (n + 1) (.ref f) ds K := by
  intro A g s Q E vs r st rel q
  have X := C.X.keeps st.keep
  refine wpAny_call (codeAny_call_function r.d (X _ _ ho) rfl hco hgen hbody (codeRec_of X hcode) ?_)
  rw [hcl]
  refine hb A.in1 g s _ _ vs st rel fun vs' g1 s1 r1 G1 => ?_
  refine wpAny_newFunctionEnv_cells hk (fun x hx => ?_) fun env he s' x => ?_
  · obtain ⟨h1, _⟩ := List.of_mem_zip (show (x.1, x.2) ∈ _ from hx)
    exact hkind _ _ h1
  subst he
  refine ⟨(C.T.nolimit.keeps G1.st.keep).keeps x.toInCall.keep, codeAny_func ?_⟩
  have F := Frm.start (f := f) G1.st r1 hk hglob hblt hkind x
  refine h _ (A.deeper _) _ _ _ s' _ _ (r.deeper _) F fun fl fv ρ' g' s'' hK rf l F' => ?_
  have G : Grow C g1 s1 g' s'' := ⟨F'.vis.st, F'.keep, F'.frz⟩
  cases fl <;> cases fv <;> first | exact rf.elim | exact hK.elim | skip
  · exact q .none .none g' s'' hK .none (G1.trans G)
  · exact q _ _ g' s'' hK rf (G1.trans G)

theorem binds_plain {fd : FuncData} {ds : List PyData} {names : List Str} (hlen : ds.length = names.length) (hbind : ∀ vs : List Value, vs.length = names.length → bindArgs fd ⟨vs, []⟩ = pure (names.zip vs)) :
    ∀ (A : Around) (g : View) (s : Shared) (Q : List (Str × Value) → Shared → Prop) (E : Value → Shared → Prop) (vs : List Value), St C g s → RelAll g vs ds →
      (∀ vs' g' s', RelAll g' vs' ds → Grow C g s g' s' → Q (names.zip vs') s') → wpAny C.M A (bindArgs fd ⟨vs, []⟩) Q E s :=
  fun A g s Q E vs st r q => by
    rw [hbind vs (by rw [r.length, hlen])]
    exact wpAny_pure (q vs g s r (.refl st))

/-- a def called by its name -/
theorem Ev.call {env : Env} {ρ : Loc} {f : Str} {a : Addr} {args : List PySem.Expr} {pf pos : Pos} {m : Nat} {oc : Value} {od : Option Addr} {osl : Array (Option Value)} {fd : FuncData}
    (ha : nsIn (pre.heap_1 C.w.params) mainGlobals f = some (some (.ref a))) (ho : (pre.heap_1 C.w.params).lookup a = some ⟨oc, od, .func fd, osl⟩) (hm : m ≤ n)
    (h : Evs C n env ρ args fun ds => Fn C m (.ref a) ds K)
    (hx : env.kindOf f = some .globalImplicit := by rfl) (hp : args.all plainElt = true := by rfl) (hne : args ≠ [] := by simp) (hdb : (f == ("__debug__" : Str)) = false := by decide) :
    Ev C n env ρ (.Call (.Name f pf) args [] pos) K :=
  fun A g s Q E rm vis q => by
    show wpAny C.M A (do callWith pos (← eval (.Name f pf) env) [] (backTo pos (starEach args env)) []) Q E s
    have st := vis.st
    refine wpAny_bind (Calls.Name_function_global vis.kind hx (Calls.loadGlobal_global (by rw [vis.glob]; exact C.T.g.keeps st.keep) (mg_of C.X C.T.g ha) ?_) hdb)
    refine Calls.callWith_function (fd := fd) (o := ⟨oc, od, .func fd, osl⟩) ?_
    obtain ⟨e, es, rfl⟩ := List.exists_cons_of_ne_nil hne
    have hp' := hp
    simp only [List.all_cons, Bool.and_eq_true] at hp'
    have run := Evs.run (pos := pos) (e :: es) _ A g s (fun vs s' => (s'.heap.get? a = some ⟨oc, od, .func fd, osl⟩ ∧ True) ∧ wpAny C.M A (PySem.call (.ref a) vs) Q E s') E hp h rm vis fun ds vs g' s' hk r G => ⟨⟨C.X.keeps G.st.keep _ _ ho, trivial⟩, hk A g' s' Q E vs (rm.le hm) G.st r fun d v g2 s2 hd rd G2 => q d v g2 s2 hd rd (G.trans G2)⟩
    rw [starEach_plain hp'.1] at run ⊢
    exact Calls.evalArgs_plain (wpAny_mono run (fun vs s' h' => ⟨⟨h'.1.1, rfl⟩, h'.2⟩) fun _ _ e => e)
end
end Lw
end
noncomputable section
namespace Lw

structure GrowBut (C : Cx) (fp : List Addr) (g : View) (s : Shared) (g' : View) (s' : Shared) : Prop where
  st : St C g' s'
  ext : ∀ a o, a ∉ fp → s.heap.get? a = some o → s'.heap.get? a = some o
  old : ∀ a o, s.heap.get? a = some o → g' a = g a

section
variable {C : Cx} {fp : List Addr} {g g' g'' : View} {s s' s'' : Shared}
theorem GrowBut.le (G : GrowBut C fp g s g' s') (x : St C g s) : Le g g' := fun a o e => (G.old a o (x.sub a o e)).trans e
theorem Grow.but (G : Grow C g s g' s') : GrowBut C fp g s g' s' := ⟨G.st, fun a o _ e => G.ext a o e, G.old⟩
theorem GrowBut.refl (x : St C g s) : GrowBut C fp g s g s := (Grow.refl x).but
/-- what was made since, and then turned, is no old object -/
theorem GrowBut.fresh (G : GrowBut C fp g s g' s') (h : ∀ b ∈ fp, s.heap.get? b = none) : Grow C g s g' s' :=
  ⟨G.st, fun a o e => G.ext a o (fun m => by rw [h a m] at e; cases e) e, G.old⟩
theorem Grow.thenBut (G : Grow C g s g' s') (H : GrowBut C fp g' s' g'' s'') : GrowBut C fp g s g'' s'' :=
  ⟨H.st, fun a o m e => H.ext a o m (G.ext a o e), fun a o e => (H.old a o (G.ext a o e)).trans (G.old a o e)⟩
/-- only a, no frozen object, is turned; new objects may come -/
theorem GrowBut.ofExt (x : St C g s) {b : Addr} {h' : Heap} {t : Nat} (hb : g b = none) (hs : Heap.ExtBut b s.heap h') : GrowBut C [b] g s g { s with heap := h', toks := t } :=
  ⟨⟨x.base, fun a o e => hs a o (fun q => by rw [q, hb] at e; cases e) (x.sub a o e), x.gens, x.os⟩, fun a o m e => hs a o (fun q => m (by simp [q])) e, fun _ _ _ => rfl⟩
end

/-- an iterator that hands on the data ds, and what it wants to stand (S i: i of them are taken) -/
structure Itr (C : Cx) (A : Around) (tgt : PySem.Expr) (I : Addr) (fp : List Addr) (S : Nat → View → Heap → Prop) (ds : List PyData) : Prop where
  frame : ∀ i g h g' h', S i g h → Le g g' → (∀ b ∈ fp, g' b = none) → (∀ b ∈ fp, ∀ o, h.get? b = some o → h'.get? b = some o) → S i g' h'
  prv : ∀ i g h, S i g h → ∀ b ∈ fp, g b = none ∧ ∃ o, h.get? b = some o
  item : ∀ i (g : View) (s : Shared) (d : PyData) (Q : Value → Shared → Prop) (E : Value → Shared → Prop), S i g s.heap → St C g s → ds[i]? = some d →
    (∀ v g' s', Rel g' v d → GrowBut C fp g s g' s' → S (i + 1) g' s'.heap → Q v s') →
    wpAny C.M A (pyNext (.ref I)) (fun r s1 => match r with | some v => wpAny C.M A (letOwnedTupleGo tgt (.ref I) v) (fun _ s2 => Q v s2) E s1 | none => False) E s
  done : ∀ (g : View) (s : Shared) (Q : Shared → Prop) (E : Value → Shared → Prop), S ds.length g s.heap → St C g s →
    (∀ s', GrowBut C fp g s g s' → Q s') → wpAny C.M A (pyNext (.ref I)) (fun r s1 => r = none ∧ Q s1) E s
  self : ∀ i (g : View) (s : Shared) (Q : Value → Shared → Prop) (E : Value → Shared → Prop), S i g s.heap → Q (.ref I) s → wpAny C.M A (pyIter (.ref I)) Q E s

noncomputable def plainTgt : PySem.Expr → Bool
  | .Name .. | .Tuple .. => true
  | _ => false

theorem letGo_list {prog : Program} {w : World} {A : Around} {E : Value → Shared → Prop} {s : Shared} {tgt : PySem.Expr} {I : Addr} {o : Obj} {T : String} {vs : Array Value} {v : Value} {Q : Unit → Shared → Prop}
    (ho : s.heap.get? I = some o) (hc : o.cls = .type T) (hd : o.data = .fields vs) (hT : (["enumerate", "zip", "dict_itemiterator", "dict_reverseitemiterator", "odict_iterator", "itertools.zip_longest", "itertools.pairwise"].contains T) = false) (ht : plainTgt tgt = true) (hQ : Q () s) :
    wpAny (model prog w) A (letOwnedTupleGo tgt (.ref I) v) Q E s := by
  unfold letOwnedTupleGo
  cases tgt <;> first | (simp [plainTgt] at ht; done) | skip
  · exact wpAny_pure hQ
  · cases v <;> first | exact wpAny_pure hQ | skip
    refine wpAny_bind (wpAny_load ho ?_)
    rw [hc, hd]
    simp only [hT, Bool.false_and, Bool.false_eq_true, if_false]
    exact wpAny_pure hQ

theorem Itr.list {C : Cx} {A : Around} (hh : A.handled = none) {tgt : PySem.Expr} (ht : plainTgt tgt = true) {it l : Addr} {vs : Array Value} {n : Nat} {ds : List PyData} :
    Itr C A tgt it [it] (fun i g h => h.IsListIter it l i ∧ g l = some (LO vs n) ∧ RelAll g vs.toList ds ∧ g it = none) ds where
  frame := fun i g h g' h' ⟨a, b, c, d⟩ l hg hk => ⟨a.at fun o e => hk it (by simp) o e, l _ _ b, c.mono l, hg it (by simp)⟩
  prv := fun i g h ⟨a, b, c, d⟩ x hx => by
    simp only [List.mem_singleton] at hx; subst hx
    obtain ⟨o, ho, _⟩ := a
    exact ⟨d, o, ho⟩
  item := fun i g s d Q E ⟨a, b, c, e⟩ st hd q => by
    obtain ⟨v, hv, rv⟩ := c.get' hd
    refine wpAny_pyNext_list_item a (IsL.isList (st.sub _ _ b)) (by simpa using hv) fun h' hit' hs' => ?_
    have G : GrowBut C [it] g s g { s with heap := h' } := GrowBut.ofExt (t := s.toks) st e hs'.extBut
    obtain ⟨o, ho, hc, hd'⟩ := id hit'
    exact letGo_list (s := { s with heap := h' }) ho hc hd' (by decide) ht (q v g _ rv G ⟨hit', b, c, e⟩)
  done := fun g s Q E ⟨a, b, c, e⟩ st q => by
    have l1 := c.length
    simp only [Array.length_toList] at l1
    exact wpAny_pyNext_list_end hh a (IsL.isList (st.sub _ _ b)) (by simp [l1]) fun h' he => ⟨rfl, q _ (GrowBut.ofExt (t := s.toks) st e he)⟩
  self := fun i g s Q E ⟨a, _⟩ q => wpAny_pyIter_listiter a q

theorem Itr.tuple {C : Cx} {A : Around} (hh : A.handled = none) {tgt : PySem.Expr} (ht : plainTgt tgt = true) {it l : Addr} {vs : Array Value} {n : Nat} {ds : List PyData} :
    Itr C A tgt it [it] (fun i g h => h.IsTupleIter it l i ∧ g l = some (TO vs n) ∧ RelAll g vs.toList ds ∧ g it = none) ds where
  frame := fun i g h g' h' ⟨a, b, c, d⟩ l hg hk => ⟨let ⟨o, ho, r⟩ := a; ⟨o, hk it (by simp) o ho, r⟩, l _ _ b, c.mono l, hg it (by simp)⟩
  prv := fun i g h ⟨a, b, c, d⟩ x hx => by
    simp only [List.mem_singleton] at hx; subst hx
    obtain ⟨o, ho, _⟩ := a
    exact ⟨d, o, ho⟩
  item := fun i g s d Q E ⟨a, b, c, e⟩ st hd q => by
    obtain ⟨v, hv, rv⟩ := c.get' hd
    refine wpAny_pyNext_tuple_item a ⟨_, st.sub _ _ b, rfl, _, rfl⟩ (by simpa using hv) fun h' hit' hs' => ?_
    have G : GrowBut C [it] g s g { s with heap := h' } := GrowBut.ofExt (t := s.toks) st e hs'.extBut
    obtain ⟨o, ho, hc, hd'⟩ := id hit'
    exact letGo_list (s := { s with heap := h' }) ho hc hd' (by decide) ht (q v g _ rv G ⟨hit', b, c, e⟩)
  done := fun g s Q E ⟨a, b, c, e⟩ st q => by
    have l1 := c.length
    simp only [Array.length_toList] at l1
    exact wpAny_pyNext_tuple_end hh a ⟨_, st.sub _ _ b, rfl, _, rfl⟩ (by simp [l1]) fun h' he => ⟨rfl, q _ (GrowBut.ofExt (t := s.toks) st e he)⟩
  self := fun i g s Q E ⟨⟨o, ho, hc, hd⟩, _⟩ q => by
    refine wpAny_pyIter_slot ⟨o, ho, hc⟩ F.slot_tuple_iterator_iter (wpAny_call_entry F.slot_tuple_iterator_iter ⟨o, ho, hc⟩ F.entry_tuple_iterator_iter ?_ (F.args_tuple_iterator_iter_1 _))
    show wpAny _ _ (ret (.ref it)) _ _ s
    exact wpAny_pure ⟨_, rfl, "tuple_iterator", _, ⟨o, ho, hc⟩, F.slot_tuple_iterator_next.lookup, q⟩

noncomputable def natInts (m : Nat) : List PyData := (List.range m).map fun (i : Nat) => PyData.int (i : Int)
theorem natInts_get {m i : Nat} {d : PyData} (h : (natInts m)[i]? = some d) : i < m ∧ d = .int i := by
  unfold natInts at h
  rw [List.getElem?_map] at h
  by_cases q : i < m
  · rw [List.getElem?_range q] at h; simp at h; exact ⟨q, h.symm⟩
  · rw [List.getElem?_eq_none (by simpa using q)] at h; cases h
theorem Itr.range {C : Cx} {A : Around} (hh : A.handled = none) {tgt : PySem.Expr} (ht : plainTgt tgt = true) {it : Addr} {m : Nat} :
    Itr C A tgt it [it] (fun i g h => IsRangeIter h it (i : Int) ((m : Int) - i) 1 ∧ g it = none) (natInts m) where
  frame := fun i g h g' h' ⟨a, d⟩ l hg hk => ⟨hk it (by simp) _ a, hg it (by simp)⟩
  prv := fun i g h ⟨a, d⟩ x hx => by
    simp only [List.mem_singleton] at hx; subst hx
    exact ⟨d, _, a⟩
  item := fun i g s d Q E ⟨a, e⟩ st hd q => by
    obtain ⟨hi, rfl⟩ := natInts_get hd
    refine wpAny_pyNext_range_item a (by omega) fun h' hit' hs' => ?_
    have G : GrowBut C [it] g s g { s with heap := h', toks := s.toks + 1 } := GrowBut.ofExt st e hs'.extBut
    have e1 : ((i : Int) + 1) = ((i + 1 : Nat) : Int) := by push_cast; rfl
    have e2 : ((m : Int) - i - 1) = (m : Int) - ((i + 1 : Nat) : Int) := by push_cast; omega
    rw [e1, e2] at hit'
    exact letGo_list (s := { s with heap := h', toks := s.toks + 1 }) hit' rfl rfl (by decide) ht (q _ g _ (.int ..) G ⟨hit', e⟩)
  done := fun g s Q E ⟨a, e⟩ st q => by
    have l1 : (natInts m).length = m := by simp [natInts]
    rw [l1] at a
    exact wpAny_pyNext_range_end hh a (by omega) fun h' he => ⟨rfl, q _ (GrowBut.ofExt (t := s.toks) st e he)⟩
  self := fun i g s Q E ⟨a, _⟩ q => by
    have hT : s.TypeIs (.ref it) "range_iterator" := ⟨_, a, rfl⟩
    refine wpAny_pyIter_slot hT F.slot_range_iterator_iter (wpAny_call_entry F.slot_range_iterator_iter hT F.entry_range_iterator_iter ?_ (F.args_range_iterator_iter_1 _))
    show wpAny _ _ (ret (.ref it)) _ _ s
    exact wpAny_pure ⟨_, rfl, "range_iterator", _, hT, F.slot_range_iterator_next.lookup, q⟩

/-- enumerate over a list, its pairs unpacked at once -/
noncomputable def enumData : Nat → List PyData → List PyData
  | _, [] => []
  | i, d :: ds => .tuple [.int i, d] :: enumData (i + 1) ds
theorem enumData_get : ∀ {ds : List PyData} {k i : Nat} {d : PyData}, (enumData k ds)[i]? = some d → ∃ x, ds[i]? = some x ∧ d = .tuple [.int ((k + i : Nat) : Int), x]
  | [], k, i, d, h => by simp [enumData] at h
  | y :: ds, k, 0, d, h => by simp [enumData] at h; exact ⟨y, rfl, by simp [← h]⟩
  | y :: ds, k, i + 1, d, h => by
    simp only [enumData, List.getElem?_cons_succ] at h ⊢
    obtain ⟨x, h1, h2⟩ := enumData_get h
    exact ⟨x, h1, by rw [h2]; congr 3; push_cast; omega⟩
theorem enumData_length : ∀ (k : Nat) (ds : List PyData), (enumData k ds).length = ds.length
  | _, [] => rfl
  | k, _ :: ds => by simp [enumData, enumData_length (k + 1) ds]
theorem Itr.enum {C : Cx} {A : Around} (hh : A.handled = none) {elts : List PySem.Expr} {k : Nat} {pos : Pos} {e it l : Addr} {vs : Array Value} {n : Nat} {ds : List PyData} (hne : e ≠ it) :
    Itr C A (.Tuple elts k pos) e [e, it] (fun i g h => (∃ old, IsEnum h e it i old) ∧ h.IsListIter it l i ∧ g l = some (LO vs n) ∧ RelAll g vs.toList ds ∧ g e = none ∧ g it = none) (enumData 0 ds) where
  frame := fun i g h g' h' ⟨⟨old, x⟩, a, b, c, d, d'⟩ l hg hk => ⟨⟨old, hk e (by simp) _ x⟩, a.at fun o y => hk it (by simp) o y, l _ _ b, c.mono l, hg e (by simp), hg it (by simp)⟩
  prv := fun i g h ⟨⟨old, y⟩, a, b, c, d, d'⟩ x hx => by
    simp only [List.mem_cons, List.not_mem_nil, or_false] at hx
    rcases hx with rfl | rfl
    · exact ⟨d, _, y⟩
    · obtain ⟨o, ho, _⟩ := a
      exact ⟨d', o, ho⟩
  item := fun i g s d Q E ⟨⟨old, y⟩, a, b, c, d1, d2⟩ st hd q => by
    obtain ⟨x, hx, rfl⟩ := enumData_get hd
    obtain ⟨v, hv, rv⟩ := c.get' hx
    refine wpAny_pyNext_enum_item y a (IsL.isList (st.sub _ _ b)) (x := v) (by simpa using hv) hne fun h' he' hit' ht' hz hk => ?_
    have hn : g s.heap.objs.size = none := st.none_of (none_at_size _)
    refine wpAny_letOwnedTupleGo_enum he' fun h2 he2 hs2 => ?_
    have hle := Heap.lt_size y
    have key : ∀ a o, a ≠ e → a ≠ it → s.heap.get? a = some o → h2.get? a = some o := fun a o x1 x2 x3 => hs2.extBut a o x1 (hk a o x1 x2 x3)
    have ht2 : h2.get? s.heap.objs.size = some (TO #[.int i s.toks, v] 0) := hs2.extBut _ _ (Nat.ne_of_gt hle) ht'
    have G : GrowBut C [e, it] g s (g.set s.heap.objs.size (TO #[.int i s.toks, v] 0)) { s with heap := h2, toks := s.toks + 1 } := by
      refine ⟨⟨fun a o x => Le.set hn a o (st.base a o x), fun a o x => ?_, st.gens, st.os⟩, fun a o m x => ?_, fun a o x => View.set_ne g _ (Nat.ne_of_lt (Heap.lt_size x))⟩
      · by_cases p : a = s.heap.objs.size
        · subst p; rw [View.set_self] at x; cases x; exact ht2
        · rw [View.set_ne _ _ p] at x
          exact key a o (fun p => by rw [p, d1] at x; cases x) (fun p => by rw [p, d2] at x; cases x) (st.sub a o x)
      · simp only [List.mem_cons, List.not_mem_nil, or_false, not_or] at m
        exact key a o m.1 m.2 x
    have hit2 : h2.IsListIter it l (i + 1) := hit'.at fun o x => (hs2.2 it hne.symm).trans x
    refine q (.ref s.heap.objs.size) _ _ ?_ G ⟨⟨v, by simpa using he2⟩, hit2, G.le st _ _ b, c.mono (G.le st), ?_, ?_⟩
    · refine .tuple (View.set_self ..) ?_
      rw [Nat.zero_add]
      exact .cons (.int ..) (.cons (rv.mono (G.le st)) .nil)
    · rw [View.set_ne _ _ (Nat.ne_of_lt hle)]; exact d1
    · obtain ⟨o, ho, _⟩ := a
      rw [View.set_ne _ _ (Nat.ne_of_lt (Heap.lt_size ho))]; exact d2
  done := fun g s Q E ⟨⟨old, y⟩, a, b, c, d1, d2⟩ st q => by
    rw [enumData_length] at y a
    have l1 := c.length
    simp only [Array.length_toList] at l1
    refine wpAny_pyNext_enum_end hh y a (IsL.isList (st.sub _ _ b)) (by simp [l1]) fun h' he => ⟨rfl, q _ ?_⟩
    have G := GrowBut.ofExt (t := s.toks) st d2 he
    exact ⟨G.st, fun a o m x => G.ext a o (fun p => m (by simp at p; simp [p])) x, G.old⟩
  self := fun i g s Q E ⟨⟨old, y⟩, _⟩ q => wpAny_pyIter_enum y q
end Lw
end
noncomputable section
namespace Lw

section
variable {prog : Program} {w : World} {A : Around} {E : Value → Shared → Prop} {s : Shared}
theorem draw_list {it t : Addr} {items : Array Value} (hne : t ≠ it) : ∀ (n i : Nat) (s : Shared) (Q : List Value → Shared → Prop), s.heap.IsListIter it t i → s.heap.IsList t items → i + n ≤ items.size →
    (∀ h', h'.IsListIter it t (i + n) → Heap.SameBut it s.heap h' → Q ((items.toList.drop i).take n) { s with heap := h' }) → wpAny (model prog w) A (draw (.ref it) n) Q E s
  | 0, i, s, Q, hit, _, _, hQ => by
    show wpAny _ _ (pure []) Q E s
    exact wpAny_pure (by simpa using hQ s.heap hit (Heap.SameBut.refl ..))
  | n + 1, i, s, Q, hit, ht, hle, hQ => by
    have hlt : i < items.size := by omega
    show wpAny _ _ (pyNext (.ref it) >>= _) Q E s
    refine wpAny_bind (wpAny_pyNext_list_item hit ht (x := items[i]) (by simp [hlt]) fun h₁ hit₁ hs₁ => ?_)
    refine wpAny_bind (wpAny_holding (draw_list hne n (i + 1) _ _ hit₁ (ht.extBut hs₁.extBut hne) (by omega) fun h₂ hit₂ hs₂ => wpAny_pure ?_))
    have hd : items.toList.drop i = items[i] :: items.toList.drop (i + 1) := by simp [List.drop_eq_getElem_cons, hlt]
    have := hQ h₂ (by rw [show i + (n + 1) = i + 1 + n by omega]; exact hit₂) (hs₁.trans hs₂)
    rw [hd, List.take_succ_cons] at this
    exact this
theorem unpackItems_list {t : Addr} {items : Array Value} {Q : List Value → Shared → Prop} (hh : A.handled = none) (ht : s.heap.IsList t items)
    (hQ : ∀ h', Heap.ExtBut s.heap.objs.size s.heap h' → Q items.toList { s with heap := h' }) : wpAny (model prog w) A (unpackItems (.ref t) items.size none) Q E s := by
  have hlt : t ≠ s.heap.objs.size := by obtain ⟨o, ho, _⟩ := ht; exact Nat.ne_of_lt (Heap.lt_size ho)
  unfold unpackItems
  refine wpAny_bind ?_
  · unfold notIterableAtAll
    refine wpAny_bind (wpAny_specialOf ht.typeIs slot_list_iter.lookup ?_)
    refine wpAny_pure ?_
    simp only [Bool.false_eq_true, if_false]
    refine wpAny_bind (wpAny_holding (wpAny_pyIter_list ht ?_))
    refine wpAny_bind (wpAny_holding (draw_list hlt items.size 0 _ _ ⟨_, Heap.get?_push_size _ rfl, rfl, rfl⟩ (ht.push _) (by omega) fun h₁ hit₁ hs₁ => ?_))
    have hall : List.take items.size (List.drop 0 items.toList) = items.toList := by
      rw [List.drop_zero]; exact List.take_of_length_le (by simp)
    rw [hall]
    rw [if_neg (by simp)]
    have ht₁ : h₁.IsList t items := (ht.push _).extBut hs₁.extBut hlt
    refine wpAny_bind (wpAny_holding (wpAny_pyNext_list_end hh hit₁ ht₁ (by simp) fun h₂ he₂ => ?_))
    simp only [Option.isSome_none, Bool.false_eq_true, if_false]
    refine wpAny_pure (hQ h₂ fun b o hb e => he₂ b o hb (hs₁.extBut b o hb (Heap.get?_push_of_some _ e)))
end

theorem Grow.ofNew {C : Cx} {g : View} {s : Shared} (x : St C g s) {h' : Heap} {t : Nat} (hs : Heap.ExtBut s.heap.objs.size s.heap h') : Grow C g s g { s with heap := h', toks := t } :=
  (GrowBut.ofExt (t := t) x (x.none_of (none_at_size _)) hs).fresh fun b hb => by
    simp only [List.mem_singleton] at hb; subst hb; exact none_at_size _

theorem unpackItems_rel {C : Cx} {A : Around} {g : View} {s : Shared} {Q : List Value → Shared → Prop} {E : Value → Shared → Prop} {v : Value} {d : PyData} {ds : List PyData} (hh : A.handled = none) (st : St C g s) (rv : Rel g v d) (hd : d = .list ds ∨ d = .tuple ds)
    (q : ∀ vs s', RelAll g vs ds → Grow C g s g s' → Q vs s') : wpAny C.M A (unpackItems v ds.length none) Q E s := by
  rcases hd with rfl | rfl
  · cases rv with
    | @list a vs n _ h r =>
      have l1 := r.length
      simp only [Array.length_toList] at l1
      rw [← l1]
      exact unpackItems_list hh (IsL.isList (st.sub _ _ h)) fun h' he => q _ _ r (Grow.ofNew (t := s.toks) st he)
  · cases rv with
    | @tuple a vs n _ h r =>
      have l1 := r.length
      simp only [Array.length_toList] at l1
      rw [← l1]
      exact wpAny_unpackItems_tuple hh ⟨_, st.sub _ _ h, rfl, _, rfl⟩ fun h' he => q _ _ r (Grow.ofNew (t := s.toks) st he)

/-- a datum stored by a target -/
noncomputable def Asg (C : Cx) (n : Nat) (env : Env) (ws : Str → Bool) (ρ : Loc) (t : PySem.Expr) (d : PyData) (K : Loc → Prop) : Prop :=
  ∀ (A : Around) (hin gin g : View) (s : Shared) (Q : Unit → Shared → Prop) (E : Value → Shared → Prop) (v : Value), Room n A → Frm C env ws hin gin ρ g s → Rel g v d →
    (∀ ρ' g' s', K ρ' → Le g g' → Frm C env ws hin gin ρ' g' s' → Q () s') → wpAny C.M A (assign t env v) Q E s
noncomputable def Asgs (C : Cx) (n : Nat) (env : Env) (ws : Str → Bool) : Loc → List PySem.Expr → List PyData → (Loc → Prop) → Prop
  | ρ, [], [], K => K ρ
  | ρ, t :: ts, d :: ds, K => Asg C n env ws ρ t d fun ρ' => Asgs C n env ws ρ' ts ds K
  | _, _, _, _ => False

section
variable {C : Cx} {n : Nat} {env : Env} {ws : Str → Bool} {ρ : Loc} {K : Loc → Prop} {pos : Pos}
theorem Asg.name {x : Str} {d : PyData} (k : K (ρ.upd x (.dat d))) (hx : storable env ws x = true := by rfl) : Asg C n env ws ρ (.Name x pos) d K :=
  fun A hin gin g s Q E v r F rv q => wpAny_bind (wpAny_standAt (wpAny_bindName (F.store (sl := .dat d) rv (fun _ _ e => by cases e) (fun h' t F' => q _ g _ k (.refl g) F') hx)))
theorem assignEach_plain {t : PySem.Expr} {ts : List PySem.Expr} (h : plainElt t = true) : assignEach (t :: ts) env = (false, assign t env) :: assignEach ts env := by
  cases t <;> first | rfl | simp [plainElt] at h
theorem assignEach_star : ∀ {ts : List PySem.Expr}, ts.all plainElt = true → (assignEach ts env).findIdx? (·.1) = none
  | [], _ => rfl
  | t :: ts, h => by
    simp only [List.all_cons, Bool.and_eq_true] at h
    rw [assignEach_plain h.1, List.findIdx?_cons]
    simp [assignEach_star h.2]
theorem assignEach_len : ∀ {ts : List PySem.Expr}, ts.all plainElt = true → (assignEach ts env).length = ts.length
  | [], _ => rfl
  | t :: ts, h => by
    simp only [List.all_cons, Bool.and_eq_true] at h
    rw [assignEach_plain h.1]; simp [assignEach_len h.2]
theorem Asgs.run : ∀ (ts : List PySem.Expr) (ds : List PyData) (ρ : Loc) (K : Loc → Prop) (A : Around) (hin gin g : View) (s : Shared) (Q : Unit → Shared → Prop) (E : Value → Shared → Prop) (vs : List Value), ts.all plainElt = true →
    Asgs C n env ws ρ ts ds K → Room n A → Frm C env ws hin gin ρ g s → RelAll g vs ds →
    (∀ ρ' g' s', K ρ' → Le g g' → Frm C env ws hin gin ρ' g' s' → Q () s') → wpAny C.M A (assignInOrder ((assignEach ts env).map (·.2)) vs) Q E s
  | [], [], ρ, K, A, hin, gin, g, s, Q, E, vs, _, h, r, F, rv, q => by cases rv; exact wpAny_pure (q ρ g s h (.refl g) F)
  | [], _ :: _, _, _, _, _, _, _, _, _, _, _, _, h, _, _, _, _ => h.elim
  | _ :: _, [], _, _, _, _, _, _, _, _, _, _, _, h, _, _, _, _ => h.elim
  | t :: ts, d :: ds, ρ, K, A, hin, gin, g, s, Q, E, vs, hp, h, r, F, rv, q => by
    simp only [List.all_cons, Bool.and_eq_true] at hp
    cases rv with
    | @cons v vs _ _ rd rr =>
      rw [assignEach_plain hp.1]
      show wpAny _ _ (do holding vs (assign t env v); assignInOrder ((assignEach ts env).map (·.2)) vs) Q E s
      refine wpAny_bind (wpAny_holding (h A hin gin g s _ E v r F rd fun ρ' g' s' hk l F' => ?_))
      exact Asgs.run ts ds ρ' K A hin gin g' s' Q E vs hp.2 hk r F' (rr.mono l) fun ρ'' g'' s'' k l' F'' => q ρ'' g'' s'' k (l.trans l') F''
theorem Asg.tuple {ts : List PySem.Expr} {k : Nat} {d : PyData} {ds : List PyData} (hd : d = .list ds ∨ d = .tuple ds) (hn : ts.length = ds.length) (h : Asgs C n env ws ρ ts ds K) (hp : ts.all plainElt = true := by rfl) :
    Asg C n env ws ρ (.Tuple ts k pos) d K :=
  fun A hin gin g s Q E v r F rv q => by
    rw [arm_assign_Tuple]
    refine wpAny_bind (wpAny_standAt ?_)
    unfold unpack
    rw [assignEach_star hp, assignEach_len hp, hn]
    refine wpAny_bind (wpAny_holding (unpackItems_rel r.hnd F.vis.st rv hd fun vs s' rr G => ?_))
    exact Asgs.run ts ds ρ K A hin gin g s' Q E vs hp h r (F.grow G) rr fun ρ' g' s'' k l F' => q ρ' g' s'' k l F'
end

/-! what a frame keeps to itself, and what is kept for it -/
noncomputable def priv (env : Env) (ws : Str → Bool) (ρ : Loc) (a : Addr) : Prop := a = env.locals ∨ (∃ x, ws x = true ∧ env.cells.lookup x = some a) ∨ ∃ x ds, ρ x = some (.own a ds)
open Classical in
noncomputable def pub (env : Env) (ws : Str → Bool) (ρ : Loc) (h : Heap) : View := fun a => if priv env ws ρ a then none else h.get? a
theorem pub_some {env : Env} {ws : Str → Bool} {ρ : Loc} {h : Heap} {a : Addr} {o : Obj} (e : pub env ws ρ h a = some o) : ¬ priv env ws ρ a ∧ h.get? a = some o := by
  unfold pub at e
  split at e
  · cases e
  · exact ⟨‹_›, e⟩
theorem pub_of {env : Env} {ws : Str → Bool} {ρ : Loc} {h : Heap} {a : Addr} (n : ¬ priv env ws ρ a) : pub env ws ρ h a = h.get? a := by
  unfold pub; rw [if_neg n]
theorem pub_priv {env : Env} {ws : Str → Bool} {ρ : Loc} {h : Heap} {a : Addr} (n : priv env ws ρ a) : pub env ws ρ h a = none := by
  unfold pub; rw [if_pos n]

section
variable {C : Cx} {env : Env} {ws : Str → Bool} {hin gin : View} {ρ ρ' : Loc} {g g' : View} {s s' : Shared} {fp : List Addr}
theorem Frm.wide (F : Frm C env ws hin gin ρ g s) : Frm C env ws (pub env ws ρ s.heap) g ρ g s :=
  ⟨F.vis, fun a o e => (pub_some e).2, fun _ _ _ => rfl, F.ns, ⟨pub_priv (.inl rfl), F.nsp.2⟩, fun x c w e => ⟨pub_priv (.inr (.inl ⟨x, w, e⟩)), (F.cell x c w e).2⟩, F.cinj,
    fun x M ds e => ⟨pub_priv (.inr (.inr ⟨x, ds, e⟩)), (F.own x M ds e).2⟩, F.oinj⟩
theorem Frm.hin_priv (F : Frm C env ws hin gin ρ g s) {a : Addr} (p : priv env ws ρ a) : hin a = none := by
  rcases p with rfl | ⟨x, w, e⟩ | ⟨x, ds, e⟩
  · exact F.nsp.1
  · exact (F.cell x a w e).1
  · exact (F.own x a ds e).1
theorem Frm.narrow (F : Frm C env ws hin gin ρ g s) (F' : Frm C env ws (pub env ws ρ s.heap) g ρ' g' s') : Frm C env ws hin gin ρ' g' s' := by
  have up : ∀ a o, hin a = some o → pub env ws ρ s.heap a = some o := fun a o e => by
    rw [pub_of fun p => by rw [F.hin_priv p] at e; cases e]; exact F.keep a o e
  refine ⟨F'.vis, fun a o e => F'.keep a o (up a o e), fun a o e => (F'.frz a o (up a o e)).trans (F.frz a o e), F'.ns, ⟨F.nsp.1, F'.nsp.2⟩, fun x c w e => ⟨(F.cell x c w e).1, (F'.cell x c w e).2⟩, F'.cinj,
    fun x M ds e => ⟨?_, (F'.own x M ds e).2⟩, F'.oinj⟩
  cases q : hin M with
  | none => rfl
  | some o => have := (F'.own x M ds e).1; rw [up M o q] at this; cases this

/-- what stands apart from a frame -/
noncomputable def Off (env : Env) (ws : Str → Bool) (ρ : Loc) (hin : View) (fp : List Addr) : Prop := ∀ b ∈ fp, hin b = none ∧ ¬ priv env ws ρ b ∧ ∀ x, env.cells.lookup x ≠ some b
theorem Frm.off (F : Frm C env ws hin gin ρ g s) (h : ∀ b ∈ fp, s.heap.get? b = none) : Off env ws ρ hin fp := fun b hb => by
  have hn := h b hb
  have c1 : ∀ x, env.cells.lookup x ≠ some b := fun x e => by
    obtain ⟨v, o, ho, _⟩ := F.vis.lv x b e
    rw [hn] at ho; cases ho
  refine ⟨?_, fun p => ?_, c1⟩
  · cases q : hin b with
    | none => rfl
    | some o => rw [F.keep b o q] at hn; cases hn
  · rcases p with rfl | ⟨x, w, e⟩ | ⟨x, ds, e⟩
    · obtain ⟨m, h'⟩ := F.ns
      obtain ⟨o, _, _, ho, _⟩ := Heap.Ns.at h'
      rw [hn] at ho; cases ho
    · exact c1 x e
    · obtain ⟨_, _, _, vs, n, ho, _⟩ := F.vis.rd x _ e
      rw [hn] at ho; cases ho
theorem Vis.growBut (V : Vis C env ρ g s) (G : GrowBut C fp g s g' s') (h : ∀ b ∈ fp, b ≠ env.locals ∧ (∀ x, env.cells.lookup x ≠ some b) ∧ ∀ x ds, ρ x ≠ some (.own b ds)) : Vis C env ρ g' s' := by
  refine ⟨G.st, V.kind, V.glob, V.blt, fun x sl e => ?_, fun x c e => ?_⟩
  · obtain ⟨v, hv, rv⟩ := V.rd x sl e
    refine ⟨v, ?_, ?_⟩
    · rcases hv with ⟨a, m, hn, hm⟩ | ⟨a, c, hc, o, ho, hd⟩
      · refine .inl ⟨a, m, ?_, hm⟩
        obtain ⟨o, es, ep, ho, r⟩ := hn
        exact ⟨o, es, ep, G.ext _ o (fun q => (h _ q).1 rfl) ho, r⟩
      · exact .inr ⟨a, c, hc, o, G.ext _ o (fun q => (h _ q).2.1 x hc) ho, hd⟩
    · cases sl with
      | dat d => exact Rel.mono (G.le V.st) rv
      | own M ds =>
        obtain ⟨e1, vs, n, ho, r⟩ := rv
        exact ⟨e1, vs, n, G.ext _ _ (fun q => (h _ q).2.2 x ds e) ho, r.mono (G.le V.st)⟩
  · obtain ⟨v, o, ho, hd⟩ := V.lv x c e
    exact ⟨v, o, G.ext _ o (fun q => (h _ q).2.1 x e) ho, hd⟩
theorem Frm.growBut (F : Frm C env ws hin gin ρ g s) (G : GrowBut C fp g s g' s') (h : Off env ws ρ hin fp) : Frm C env ws hin gin ρ g' s' := by
  have nL : env.locals ∉ fp := fun q => (h _ q).2.1 (.inl rfl)
  refine ⟨F.vis.growBut G fun b hb => ⟨fun q => nL (q ▸ hb), (h b hb).2.2, fun x ds e => (h b hb).2.1 (.inr (.inr ⟨x, ds, e⟩))⟩, fun a o e => G.ext a o (fun q => by rw [(h a q).1] at e; cases e) (F.keep a o e),
    fun a o e => (G.old a o (F.keep a o e)).trans (F.frz a o e), ?_, ⟨F.nsp.1, ?_⟩, fun x c w e => ⟨(F.cell x c w e).1, ?_⟩, F.cinj, fun x M ds e => ⟨(F.own x M ds e).1, ?_⟩, F.oinj⟩
  · obtain ⟨m, o, es, ep, ho, r⟩ := F.ns
    exact ⟨m, o, es, ep, G.ext _ o nL ho, r⟩
  · obtain ⟨m, h'⟩ := F.ns
    obtain ⟨o, _, _, ho, _⟩ := Heap.Ns.at h'
    rw [G.old _ _ ho]; exact F.nsp.2
  · obtain ⟨v, o, ho, _⟩ := F.vis.lv x c e
    rw [G.old _ _ ho]; exact (F.cell x c w e).2
  · obtain ⟨v, _, _, vs, n, ho, _⟩ := F.vis.rd x _ e
    rw [G.old _ _ ho]; exact (F.own x M ds e).2
end

/-! sources of loops -/
noncomputable def Src (C : Cx) (n : Nat) (env : Env) (ρ : Loc) (tgt e : PySem.Expr) (K : List PyData → Prop) : Prop :=
  ∀ (A : Around) (g : View) (s : Shared) (Q E : Value → Shared → Prop), Room n A → Vis C env ρ g s →
    (∀ ds I fp S g' s', K ds → Itr C A tgt I fp S ds → S 0 g' s'.heap → Grow C g s g' s' → (∀ b ∈ fp, s.heap.get? b = none) → Q (.ref I) s') →
    wpAny C.M A (eval e env) (fun x s1 => wpAny C.M A (pyIter x) (fun it s2 => Q it s2) E s1) E s

section
variable {C : Cx} {n : Nat} {env : Env} {ρ : Loc} {tgt e : PySem.Expr} {K : List PyData → Prop}
theorem Src.list (h : Ev C n env ρ e fun d => ∃ ds, d = .list ds ∧ K ds) (ht : plainTgt tgt = true := by rfl) : Src C n env ρ tgt e K :=
  fun A g s Q E r V q => h A g s _ E r V fun d v g1 s1 ⟨ds, hd, hk⟩ rv G => by
    subst hd
    cases rv with
    | @list a vs k _ ha ra =>
      have st := G.st
      refine wpAny_pyIter_list (IsL.isList (st.sub _ _ ha)) ?_
      have G2 := Grow.pushed st { cls := .type "list_iterator", data := .fields #[.ref a, .int 0 0] }
      exact q ds _ [s1.heap.objs.size] _ g1 _ hk (Itr.list r.hnd ht) ⟨⟨_, Heap.get?_push_size _ rfl, rfl, rfl⟩, ha, ra, st.none_of (none_at_size _)⟩ (G.trans G2)
        fun b hb => by
          simp only [List.mem_singleton] at hb; subst hb
          cases q : s.heap.get? s1.heap.objs.size with
          | none => rfl
          | some o => exact absurd (Heap.lt_size (G.ext _ o q)) (Nat.lt_irrefl _)
theorem Src.tuple (h : Ev C n env ρ e fun d => ∃ ds, d = .tuple ds ∧ K ds) (ht : plainTgt tgt = true := by rfl) : Src C n env ρ tgt e K :=
  fun A g s Q E r V q => h A g s _ E r V fun d v g1 s1 ⟨ds, hd, hk⟩ rv G => by
    subst hd
    cases rv with
    | @tuple a vs k _ ha ra =>
      have st := G.st
      refine wpAny_pyIter_tuple ⟨_, st.sub _ _ ha, rfl, _, rfl⟩ ?_
      have G2 := Grow.pushed st { cls := .type "tuple_iterator", data := .fields #[.ref a, .int 0 0] }
      exact q ds _ [s1.heap.objs.size] _ g1 _ hk (Itr.tuple r.hnd ht) ⟨⟨_, Heap.get?_push_size _ rfl, rfl, rfl⟩, ha, ra, st.none_of (none_at_size _)⟩ (G.trans G2)
        fun b hb => by
          simp only [List.mem_singleton] at hb; subst hb
          cases q : s.heap.get? s1.heap.objs.size with
          | none => rfl
          | some o => exact absurd (Heap.lt_size (G.ext _ o q)) (Nat.lt_irrefl _)
end

/-- a for loop, turn by turn, over the data that its source hands on -/
noncomputable def ForK (C : Cx) (n : Nat) (env : Env) (tgt : PySem.Expr) (body : List Stmt) : Loc → List PyData → (Fl → Loc → Prop) → Prop
  | ρ, [], K => K .next ρ
  | ρ, d :: ds, K => Asg C n env allW ρ tgt d fun ρ' => Exs C n env ρ' body fun f ρ'' => match f with
    | .next | .cont => ForK C n env tgt body ρ'' ds K
    | .brk => K .next ρ''
    | .ret d => K (.ret d) ρ''

section
variable {C : Cx} {n : Nat} {env : Env} {ρ : Loc} {tgt e : PySem.Expr} {body : List Stmt} {K : Fl → Loc → Prop} {pos : Pos}
theorem Ex.for (h : Src C n env ρ tgt e fun ds => ForK C n env tgt body ρ ds K) (hs : ∀ x, foldedSetIterable e env x = pure x := by intro _; rfl) : Ex C n env ρ (.For tgt e body [] pos) K := by
  intro A hin gin g s Q E r F q
  refine wpAny_For (wpAny_mono (h A g s (fun it s2 => codeAny C.M A (.forLoop tgt it body [] env) (fun r s' => match r with | .ok f => Q f s' | .error e => cameBackBy C.M A env E e s') s2) E r F.vis ?_) (fun x s1 hx => hx) fun _ _ x => x) hs
  intro ds I fp S g1 s1 hk it hS G hfp
  have off := F.off hfp
  refine codeAny_forLoop_any (fun m s' => ∃ i ρ' g', m = ds.length - i + 1 ∧ i ≤ ds.length ∧ ForK C n env tgt body ρ' (ds.drop i) K ∧ Le g g' ∧ Frm C env allW hin gin ρ' g' s' ∧ S i g' s'.heap ∧ Off env allW ρ' hin fp) ?_ (ds.length + 1)
    ⟨0, ρ, g1, rfl, Nat.zero_le _, hk, G.le F.vis.st, F.grow G, hS, off⟩
  rintro m s' ⟨i, ρ', g', rfl, hi, hk', hle, F', hS', off'⟩
  by_cases hlt : i < ds.length
  · have hd : ds[i]? = some ds[i] := List.getElem?_eq_getElem hlt
    rw [List.drop_eq_getElem_cons hlt] at hk'
    refine wpAny_mono (it.item i g' s' ds[i] (fun v s2 => wpAny C.M A (PySem.assign tgt env v) (fun _ s₂ => wpAny C.M A (execs body env) (fun f s₃ => match f with
            | .next | .cont => ∃ m, m < ds.length - i + 1 ∧ ∃ i ρ' g', m = ds.length - i + 1 ∧ i ≤ ds.length ∧ ForK C n env tgt body ρ' (ds.drop i) K ∧ Le g g' ∧ Frm C env allW hin gin ρ' g' s₃ ∧ S i g' s₃.heap ∧ Off env allW ρ' hin fp
            | .brk => Q .next s₃
            | .ret v => Q (.ret v) s₃) (notedBy C.M A env fun e s' => cameBackBy C.M A env E e s') s₂) (notedBy C.M A env fun e s' => cameBackBy C.M A env E e s') s2) _ hS' F'.vis.st hd ?_) (fun r s1 hr => ?_) fun _ _ x => x
    · intro v g2 s2 rv G2 hS2
      have F2 := F'.growBut G2 off'
      have W2 := F2.wide
      refine hk' A _ _ g2 s2 _ _ v r W2 rv fun ρ3 g3 s3 h3 l3 W3 => ?_
      refine h3 A _ _ g3 s3 _ _ r W3 fun f fv ρ4 g4 s4 h4 rf l4 W4 => ?_
      have F4 := F2.narrow W4
      have l04 : Le g g4 := (hle.trans (G2.le F'.vis.st)).trans (l3.trans l4)
      have S4 : S (i + 1) g4 s4.heap := by
        have pr := it.prv _ _ _ hS2
        refine it.frame _ _ _ _ _ hS2 (l3.trans l4) (fun b hb => ?_) (fun b hb o e => ?_)
        · obtain ⟨p1, o, ho⟩ := pr b hb
          have := W4.frz b o (by rw [pub_of (off' b hb).2.1]; exact ho)
          rw [this]; exact p1
        · exact W4.keep b o (by rw [pub_of (off' b hb).2.1]; exact e)
      have off4 : Off env allW ρ4 hin fp := fun b hb => by
        refine ⟨(off' b hb).1, fun p => ?_, (off' b hb).2.2⟩
        obtain ⟨p1, o, ho⟩ := it.prv _ _ _ hS2 b hb
        have := W4.hin_priv p
        rw [pub_of (off' b hb).2.1, ho] at this; cases this
      cases f <;> cases fv <;> first | exact rf.elim | skip
      · exact ⟨_, by omega, i + 1, ρ4, g4, rfl, hlt, h4, l04, F4, S4, off4⟩
      · exact q .next .next ρ4 g4 s4 h4 trivial l04 F4
      · exact ⟨_, by omega, i + 1, ρ4, g4, rfl, hlt, h4, l04, F4, S4, off4⟩
      · exact q (.ret _) (.ret _) ρ4 g4 s4 h4 rf l04 F4
    · cases r with
      | none => exact hr.elim
      | some v => exact hr
  · have hin' : i = ds.length := by omega
    subst hin'
    rw [List.drop_length] at hk'
    refine wpAny_mono (it.done g' s' (fun s1 => Q .next s1) _ hS' F'.vis.st fun s2 G2 => ?_) (fun r s1 hr => ?_) fun _ _ x => x
    · exact q .next .next ρ' g' s2 hk' trivial hle (F'.growBut G2 off')
    · obtain ⟨rfl, hq⟩ := hr
      exact wpAny_execs_nil hq
end
end Lw
end
noncomputable section
namespace Lw

/-- the environment of a comprehension's turn -/
noncomputable def cEnv (scope : Scope) (cl : List (Str × Addr)) (L k : Addr) (env : Env) : Env :=
  { scope := relabel scope env, locals := L, globals := env.globals, cells := cellsFrom k scope.names cl, qual := env.qual, func := none, code := env.code, frame := env.frame, builtins := env.builtins }

theorem newCompEnv {M : Model} {A : Around} {E : Value → Shared → Prop} {s : Shared} {scope : Scope} {cl : List (Str × Addr)} {env : Env} {Q : Env → Shared → Prop}
    (h : Q { scope := scope, locals := s.heap.objs.size, globals := env.globals, cells := cellsFrom (s.heap.objs.size + 1) scope.names cl, qual := env.qual, func := none, code := env.code, frame := env.frame, builtins := env.builtins }
      { s with heap := pushCells (s.heap.push { cls := .type "dict", data := .dict #[] }) scope.names }) :
    wpAny M A (newFunctionEnv scope env.globals cl [] env.qual none .none (some env)) Q E s := by
  simp only [newFunctionEnv, Option.isSome_some, if_true]
  refine wpAny_bind (wpAny_alloc ?_)
  refine wpAny_bind (wpAny_layCells _ (fun name kind cells => by cases hkc : kind == NameKind.cell <;> simp [hkc]) _ _ _ _ ?_)
  rw [show ({ s with heap := s.heap.push { cls := .type "dict", data := .dict #[] } } : Shared).heap.objs.size = s.heap.objs.size + 1 from Heap.size_push ..]
  refine wpAny_bind ?_
  rw [List.forIn_nil]
  exact wpAny_pure (wpAny_pure h)

theorem pushCells_size : ∀ (names : List (Str × NameKind)) (h : Heap), h.objs.size ≤ (pushCells h names).objs.size
  | [], h => Nat.le_refl _
  | (_, k) :: r, h => by
    unfold pushCells
    split
    · have := pushCells_size r (h.push { cls := .type "cell", data := .cell none })
      rw [Heap.size_push] at this; omega
    · exact pushCells_size r h

theorem cellsFrom_mem : ∀ (names : List (Str × NameKind)) (h : Heap) (acc : List (Str × Addr)) (x : Str) (c : Addr), (x, c) ∈ cellsFrom h.objs.size names acc →
    (x, c) ∈ acc ∨ (h.objs.size ≤ c ∧ (x, NameKind.cell) ∈ names ∧ (pushCells h names).IsCell c none)
  | [], h, acc, x, c, m => .inl m
  | (n, k) :: r, h, acc, x, c, m => by
    unfold cellsFrom pushCells at *
    split at m
    · rename_i hk
      rw [if_pos hk]
      have hk' : k = .cell := by simpa using hk
      have := cellsFrom_mem r (h.push { cls := .type "cell", data := .cell none }) ((n, h.objs.size) :: acc) x c (by rw [Heap.size_push]; exact m)
      rw [Heap.size_push] at this
      rcases this with q | ⟨q1, q2, q3⟩
      · rcases List.mem_cons.mp q with q | q
        · cases q
          exact .inr ⟨Nat.le_refl _, hk' ▸ List.mem_cons_self, _, pushCells_keeps r _ _ _ (Heap.get?_push_size _ rfl), rfl⟩
        · exact .inl q
      · exact .inr ⟨by omega, .tail _ q2, q3⟩
    · rename_i hk
      rw [if_neg hk]
      rcases cellsFrom_mem r h acc x c m with q | ⟨q1, q2, q3⟩
      · exact .inl q
      · exact .inr ⟨q1, .tail _ q2, q3⟩

theorem cellsFrom_low : ∀ (names : List (Str × NameKind)) (k : Nat) (acc : List (Str × Addr)) (x : Str) (c : Nat), (x, c) ∈ cellsFrom k names acc → c < k → (x, c) ∈ acc
  | [], _, _, _, _, m, _ => m
  | (n, kd) :: r, k, acc, x, c, m, hc => by
    unfold cellsFrom at m
    split at m
    · rcases List.mem_cons.mp (cellsFrom_low r (k + 1) _ x c m (by omega)) with q | q
      · have h2 : c = k := congrArg Prod.snd q
        omega
      · exact q
    · exact cellsFrom_low r k acc x c m hc
theorem cellsFrom_inj : ∀ (names : List (Str × NameKind)) (k : Nat) (acc : List (Str × Addr)), (∀ (z : Str) (d : Nat), (z, d) ∈ acc → d < k) → ∀ (x y : Str) (c : Nat), k ≤ c → (x, c) ∈ cellsFrom k names acc → (y, c) ∈ cellsFrom k names acc → x = y
  | [], k, acc, ha, x, y, c, hc, m1, m2 => absurd (ha x c m1) (by omega)
  | (n, kd) :: r, k, acc, ha, x, y, c, hc, m1, m2 => by
    unfold cellsFrom at m1 m2
    split at m1
    · rename_i hk
      rw [if_pos hk] at m2
      by_cases q : k + 1 ≤ c
      · refine cellsFrom_inj r (k + 1) _ (fun z d hm => ?_) x y c q m1 m2
        rcases List.mem_cons.mp hm with e | e
        · have h2 : d = k := congrArg Prod.snd e
          omega
        · have := ha z d e; omega
      · have hck : c = k := by omega
        subst hck
        have a1 := cellsFrom_low r (c + 1) _ x c m1 (by omega)
        have a2 := cellsFrom_low r (c + 1) _ y c m2 (by omega)
        rcases List.mem_cons.mp a1 with e | e
        · rcases List.mem_cons.mp a2 with e' | e'
          · cases e; cases e'; rfl
          · exact absurd (ha _ _ e') (by omega)
        · exact absurd (ha _ _ e) (by omega)
    · rename_i hk
      rw [if_neg hk] at m2
      exact cellsFrom_inj r k acc ha x y c hc m1 m2

noncomputable def ownW (k : Nat) (scope : Scope) (cl : List (Str × Addr)) : Str → Bool := fun x => match (cellsFrom k scope.names cl).lookup x with
  | some c => Nat.ble k c
  | none => false
noncomputable def fvLoc (fv : List Str) (ρ : Loc) : Loc := fun x => if x ∈ fv then ρ x else none

noncomputable def FvOk (env : Env) (scope : Scope) (cl : List (Str × Addr)) (k : Nat) : List Str → Prop
  | [] => True
  | x :: r => ((cellsFrom k scope.names cl).lookup x = env.cells.lookup x ∧ ((relabel scope env).names.lookup x = some .cell ∨ ((relabel scope env).names.lookup x = some .free ∧ (x == ("__classdict__" : Str)) = false)) ∧
      (env.kindOf x = some .cell ∨ env.kindOf x = some .free)) ∧ FvOk env scope cl k r
theorem FvOk.mem {env : Env} {scope : Scope} {cl : List (Str × Addr)} {k : Nat} : ∀ {fv : List Str}, FvOk env scope cl k fv → ∀ x ∈ fv, (cellsFrom k scope.names cl).lookup x = env.cells.lookup x ∧ ((relabel scope env).names.lookup x = some .cell ∨ ((relabel scope env).names.lookup x = some .free ∧ (x == ("__classdict__" : Str)) = false)) ∧
      (env.kindOf x = some .cell ∨ env.kindOf x = some .free)
  | _ :: _, h, x, m => by
    rcases List.mem_cons.mp m with rfl | m
    · exact h.1
    · exact h.2.mem x m
noncomputable def ClOk (env : Env) : List (Str × Addr) → Prop
  | [] => True
  | (x, c) :: r => env.cells.lookup x = some c ∧ ClOk env r
theorem ClOk.mem {env : Env} : ∀ {cl : List (Str × Addr)}, ClOk env cl → ∀ x c, (x, c) ∈ cl → env.cells.lookup x = some c
  | (y, d) :: r, h, x, c, m => by
    rcases List.mem_cons.mp m with e | m
    · cases e; exact h.1
    · exact h.2.mem x c m

/-- the frame of a comprehension as it is made -/
theorem Frm.comp {C : Cx} {env : Env} {ρ : Loc} {g₀ g : View} {s₀ s : Shared} {scope : Scope} {cl : List (Str × Addr)} {fv : List Str} (V : Vis C env ρ g₀ s₀) (G : Grow C g₀ s₀ g s) (hk : scope.kind = .function) (hcl : ClOk env cl)
    (hfv : FvOk env scope cl (s.heap.objs.size + 1) fv) (hpl : ∀ x M ds, x ∈ fv → ρ x ≠ some (.own M ds)) :
    Frm C (cEnv scope cl s.heap.objs.size (s.heap.objs.size + 1) env) (ownW (s.heap.objs.size + 1) scope cl) s₀.heap.get? g₀ (fvLoc fv ρ) g { s with heap := pushCells (s.heap.push { cls := .type "dict", data := .dict #[] }) scope.names } := by
  have keep : ∀ a o, s.heap.get? a = some o → (pushCells (s.heap.push { cls := .type "dict", data := .dict #[] }) scope.names).get? a = some o := fun a o e => pushCells_keeps _ _ _ _ (Heap.get?_push_of_some _ e)
  have st : St C g { s with heap := pushCells (s.heap.push { cls := .type "dict", data := .dict #[] }) scope.names } := ⟨G.st.base, fun a o e => keep a o (G.st.sub a o e), G.st.gens, G.st.os⟩
  have hL : s.heap.get? s.heap.objs.size = none := none_at_size _
  have hz : (s.heap.push { cls := .type "dict", data := .dict #[] }).objs.size = s.heap.objs.size + 1 := Heap.size_push ..
  have cold : ∀ x c, (x, c) ∈ cl → ∃ v, s.heap.IsCell c v := fun x c m => by
    obtain ⟨v, hv⟩ := V.lv x c (hcl.mem x c m)
    exact ⟨v, hv.keeps G.ext⟩
  have low : ∀ (z : Str) (d : Nat), (z, d) ∈ cl → d < s.heap.objs.size := fun z d m => let ⟨v, o, ho, _⟩ := cold z d m; Heap.lt_size ho
  have none₀ : ∀ a, s.heap.objs.size ≤ a → s₀.heap.get? a = none ∧ g a = none := fun a ha => by
    have h1 : s.heap.get? a = none := Heap.get?_none_of_le ha
    refine ⟨?_, G.st.none_of h1⟩
    cases q : s₀.heap.get? a with
    | none => rfl
    | some o => rw [G.ext a o q] at h1; cases h1
  have mem : ∀ x c, (cellsFrom (s.heap.objs.size + 1) scope.names cl).lookup x = some c → (x, c) ∈ cl ∨ (s.heap.objs.size + 1 ≤ c ∧ (x, NameKind.cell) ∈ scope.names ∧ (pushCells (s.heap.push { cls := .type "dict", data := .dict #[] }) scope.names).IsCell c none) := fun x c e => by
    have := cellsFrom_mem scope.names (s.heap.push { cls := .type "dict", data := .dict #[] }) cl x c (by rw [hz]; exact PySem.mem_of_lookup e)
    rwa [hz] at this
  have ownC : ∀ (x : Str) (c : Nat), ownW (s.heap.objs.size + 1) scope cl x = true → (cellsFrom (s.heap.objs.size + 1) scope.names cl).lookup x = some c → s.heap.objs.size + 1 ≤ c := fun x c w e => by
    unfold ownW at w
    rw [e] at w
    exact Nat.le_of_ble_eq_true w
  refine ⟨⟨st, hk, V.glob, V.blt, fun x sl e => ?_, fun x c e => ?_⟩, fun a o e => keep a o (G.ext a o e), fun a o e => G.old a o e, ⟨_, (Heap.Ns.new s.heap (.type "dict")).keeps fun b o e => pushCells_keeps _ _ _ _ e⟩, none₀ _ (Nat.le_refl _),
    fun x c w e => ?_, fun x y c w e1 e2 => ?_, fun x M ds e => ?_, fun x y M ds es e _ => ?_⟩
  · unfold fvLoc at e
    split at e
    · rename_i hx
      obtain ⟨v, hv, rv⟩ := V.rd x sl e
      obtain ⟨f1, f2, f3⟩ := hfv.mem x hx
      refine ⟨v, ?_, rv.grow (G.le V.st) fun a o e => keep a o (G.ext a o e)⟩
      rcases hv with ⟨a, _⟩ | ⟨a, c, hc, hcv⟩
      · rcases f3 with f3 | f3 <;> rw [f3] at a <;> cases a
      · exact .inr ⟨f2, c, f1.trans hc, (hcv.keeps G.ext).keeps keep⟩
    · cases e
  · rcases mem x c e with q | ⟨_, _, q⟩
    · obtain ⟨v, hv⟩ := cold x c q
      exact ⟨v, hv.keeps keep⟩
    · exact ⟨_, q⟩
  · exact none₀ c (Nat.le_of_succ_le (ownC x c w e))
  · have hlt := ownC x c w e1
    exact cellsFrom_inj scope.names (s.heap.objs.size + 1) cl (fun z d m => Nat.lt_succ_of_lt (low z d m)) x y c hlt (PySem.mem_of_lookup e1) (PySem.mem_of_lookup e2)
  · unfold fvLoc at e
    split at e
    · exact absurd e (hpl x M ds ‹_›)
    · cases e
  · unfold fvLoc at e
    split at e
    · exact absurd e (hpl x M ds ‹_›)
    · cases e
end Lw
end
noncomputable section
namespace Lw

noncomputable def Tsts (C : Cx) (n : Nat) (env : Env) (ρ : Loc) : List PySem.Expr → (Bool → Prop) → Prop
  | [], K => K true
  | [c], K => Tst C n env ρ c K
  | _, _ => False

/-- a list comprehension, turn by turn -/
noncomputable def CompK (C : Cx) (n : Nat) (env : Env) (ws : Str → Bool) (tgt : PySem.Expr) (ifs : List PySem.Expr) (elt : PySem.Expr) : Loc → List PyData → List PyData → (List PyData → Prop) → Prop
  | _, [], acc, K => K acc
  | ρ, d :: ds, acc, K => Asg C n env ws ρ tgt d fun ρ' => Tsts C n env ρ' ifs fun b =>
      if b then Ev C n env ρ' elt fun y => acc.length ≤ sizeLine ∧ CompK C n env ws tgt ifs elt ρ' ds (acc ++ [y]) K else CompK C n env ws tgt ifs elt ρ' ds acc K

theorem compLoop_any {prog : Program} {w : World} {A : Around} {R : Result → Shared → Prop} {s : Shared} {elt target iter : PySem.Expr} {ifs : List PySem.Expr} {scope : Scope} {pos : Pos} {it acc : Value} {env : Env} (I : Nat → Shared → Prop)
    (turn : ∀ n s, I n s → wpAny (model prog w) A (pyNext it) (fun r s₁ => match r with
      | none => R (.ok .next) s₁
      | some v => wpAny (model prog w) A (letOwnedTupleGo target it v) (fun _ s₁' => wpAny (model prog w) A (assign target env v) (fun _ s₂ =>
          wpAny (model prog w) A (forIn ifs true fun c r => if r = true then do let ok ← isTrue c env (eval c env); pure (ForInStep.yield ok) else pure (ForInStep.yield r)) (fun ok s₃ =>
            if ok = true then wpAny (model prog w) A (eval elt env) (fun x s₄ =>
              wpAny (model prog w) A (call (.builtin "list.append") [acc, x]) (fun _ s₅ => ∃ m, m < n ∧ I m s₅) (notedBy (model prog w) A env fun e s' => R (.error e) s') s₄) (notedBy (model prog w) A env fun e s' => R (.error e) s') s₃
            else ∃ m, m < n ∧ I m s₃) (notedBy (model prog w) A env fun e s' => R (.error e) s') s₂) (notedBy (model prog w) A env fun e s' => R (.error e) s') s₁') (notedBy (model prog w) A env fun e s' => R (.error e) s') s₁) (notedBy (model prog w) A env fun e s' => R (.error e) s') s)
    (n : Nat) (h : I n s) :
    codeAny (model prog w) A (.compLoop (.ListComp elt [⟨target, iter, ifs, 0⟩] scope pos) 0 it acc env) R s := by
  refine codeAny_loop rfl I (fun n s hI => ?_) n h
  show wpAny _ A ((compTurn (.ListComp elt [⟨target, iter, ifs, 0⟩] scope pos) 0 it acc env).onRaise (fun x => do noteFrame x env; theTreesLotGoes x)) _ _ s
  refine wpAny_noted ?_
  rw [compTurn_list]
  refine wpAny_bind (wpAny_standAt (wpAny_bind (wpAny_mono (turn n s hI) (fun r s₁ h₁ => ?_) fun _ _ h' => h')))
  cases r with
  | none => exact wpAny_pure h₁
  | some v =>
    refine wpAny_bind (wpAny_mono h₁ (fun _ s₁' h₁' => ?_) fun _ _ h' => h')
    refine wpAny_bind (wpAny_mono h₁' (fun _ s₂ h₂ => wpAny_bind (wpAny_mono h₂ (fun ok s₃ h₃ => ?_) fun _ _ h' => h')) fun _ _ h' => h')
    cases ok with
    | false => exact wpAny_pure ⟨rfl, h₃⟩
    | true =>
      exact wpAny_bind (wpAny_bind (wpAny_mono h₃ (fun x s₄ h₄ => wpAny_bind (wpAny_mono h₄ (fun _ s₅ h₅ => wpAny_pure (wpAny_pure ⟨rfl, h₅⟩)) fun _ _ h' => h')) fun _ _ h' => h'))

section
variable {C : Cx} {n : Nat} {env cenv : Env} {ws : Str → Bool} {ρ : Loc}

theorem Tsts.run {ifs : List PySem.Expr} {K : Bool → Prop} {A : Around} {g : View} {s : Shared} {Q : Bool → Shared → Prop} {E : Value → Shared → Prop} (h : Tsts C n env ρ ifs K) (r : Room n A) (V : Vis C env ρ g s)
    (q : ∀ b g' s', K b → Grow C g s g' s' → Q b s') :
    wpAny C.M A (forIn ifs true fun c r => if r = true then do let ok ← isTrue c env (eval c env); pure (ForInStep.yield ok) else pure (ForInStep.yield r)) Q E s := by
  match ifs, h with
  | [], h => exact wpAny_tests_nil (q _ g s h (.refl V.st))
  | [c], h => exact wpAny_tests_one (h A g s Q E r V q)

/-- the loop of a comprehension: its list D grows; hin, gin: what stood when it began -/
theorem compLoop {tgt elt iter : PySem.Expr} {ifs : List PySem.Expr} {scope : Scope} {pos : Pos} {K : List PyData → Prop} {A : Around} {hin gin g : View} {s : Shared} {R : Result → Shared → Prop} {I D : Addr} {fp : List Addr} {S : Nat → View → Heap → Prop} {ds : List PyData} {m0 : Nat}
    (r : Room n A) (F : Frm C cenv ws hin gin ρ g s) (it : Itr C A tgt I fp S ds) (hS : S 0 g s.heap) (off : Off cenv ws ρ hin (D :: fp)) (hD : s.heap.get? D = some (LO #[] m0)) (gD : g D = none) (nD : D ∉ fp)
    (hk : CompK C n cenv ws tgt ifs elt ρ ds [] K)
    (q : ∀ acc vs k ρ' g' s', K acc → Frm C cenv ws hin gin ρ' g' s' → s'.heap.get? D = some (LO vs k) → g' D = none → RelAll g' vs.toList acc → Off cenv ws ρ' hin [D] → R (.ok .next) s') :
    codeAny C.M A (.compLoop (.ListComp elt [⟨tgt, iter, ifs, 0⟩] scope pos) 0 (.ref I) (.ref D) cenv) R s := by
  refine compLoop_any (fun m s' => ∃ i ρ' g' acc vs k, m = ds.length - i + 1 ∧ i ≤ ds.length ∧ CompK C n cenv ws tgt ifs elt ρ' (ds.drop i) acc K ∧ Frm C cenv ws hin gin ρ' g' s' ∧ S i g' s'.heap ∧ Off cenv ws ρ' hin (D :: fp) ∧
      s'.heap.get? D = some (LO vs k) ∧ g' D = none ∧ RelAll g' vs.toList acc) ?_ (ds.length + 1) ⟨0, ρ, g, [], #[], m0, rfl, Nat.zero_le _, hk, F, hS, off, hD, gD, .nil⟩
  rintro m s' ⟨i, ρ', g', acc, vs, k, rfl, hi, hk', F', hS', off', hD', gD', rD'⟩
  have offF : Off cenv ws ρ' hin fp := fun b hb => off' b (.tail _ hb)
  have offD : Off cenv ws ρ' hin [D] := fun b hb => by simp only [List.mem_singleton] at hb; subst hb; exact off' b (.head _)
  by_cases hlt : i < ds.length
  · have hd : ds[i]? = some ds[i] := List.getElem?_eq_getElem hlt
    rw [List.drop_eq_getElem_cons hlt] at hk'
    refine wpAny_mono (it.item i g' s' ds[i] (fun v s2 => wpAny C.M A (PySem.assign tgt cenv v) (fun _ s₂ =>
          wpAny C.M A (forIn ifs true fun c r => if r = true then do let ok ← isTrue c cenv (eval c cenv); pure (ForInStep.yield ok) else pure (ForInStep.yield r)) (fun ok s₃ =>
            if ok = true then wpAny C.M A (eval elt cenv) (fun x s₄ =>
              wpAny C.M A (call (.builtin "list.append") [.ref D, x]) (fun _ s₅ => ∃ m, m < ds.length - i + 1 ∧ ∃ i ρ' g' acc vs k, m = ds.length - i + 1 ∧ i ≤ ds.length ∧ CompK C n cenv ws tgt ifs elt ρ' (ds.drop i) acc K ∧ Frm C cenv ws hin gin ρ' g' s₅ ∧ S i g' s₅.heap ∧ Off cenv ws ρ' hin (D :: fp) ∧
      s₅.heap.get? D = some (LO vs k) ∧ g' D = none ∧ RelAll g' vs.toList acc) (notedBy C.M A cenv fun e s' => R (.error e) s') s₄) (notedBy C.M A cenv fun e s' => R (.error e) s') s₃
            else ∃ m, m < ds.length - i + 1 ∧ ∃ i ρ' g' acc vs k, m = ds.length - i + 1 ∧ i ≤ ds.length ∧ CompK C n cenv ws tgt ifs elt ρ' (ds.drop i) acc K ∧ Frm C cenv ws hin gin ρ' g' s₃ ∧ S i g' s₃.heap ∧ Off cenv ws ρ' hin (D :: fp) ∧
      s₃.heap.get? D = some (LO vs k) ∧ g' D = none ∧ RelAll g' vs.toList acc) (notedBy C.M A cenv fun e s' => R (.error e) s') s₂) (notedBy C.M A cenv fun e s' => R (.error e) s') s2) _ hS' F'.vis.st hd ?_) (fun r s1 hr => ?_) fun _ _ x => x
    · intro v g2 s2 rv G2 hS2
      have F2 := F'.growBut G2 offF
      have W2 := F2.wide
      have l2 := G2.le F'.vis.st
      have hD2 : s2.heap.get? D = some (LO vs k) := G2.ext D _ nD hD'
      have gD2 : g2 D = none := (G2.old D _ hD').trans gD'
      refine hk' A _ _ g2 s2 _ _ v r W2 rv fun ρ3 g3 s3 h3 l3 W3 => ?_
      have pubD : pub cenv ws ρ' s2.heap D = some (LO vs k) := by rw [pub_of (off' D (.head _)).2.1]; exact hD2
      have hD3 : s3.heap.get? D = some (LO vs k) := W3.keep D _ pubD
      have gD3 : g3 D = none := (W3.frz D _ pubD).trans gD2
      have pubF : ∀ b ∈ fp, ∀ o, s2.heap.get? b = some o → pub cenv ws ρ' s2.heap b = some o := fun b hb o e => by rw [pub_of (offF b hb).2.1]; exact e
      have F3 := F2.narrow W3
      have S3 : S (i + 1) g3 s3.heap := by
        have pr := it.prv _ _ _ hS2
        refine it.frame _ _ _ _ _ hS2 l3 (fun b hb => ?_) (fun b hb o e => W3.keep b o (pubF b hb o e))
        obtain ⟨p1, o, ho⟩ := pr b hb
        rw [W3.frz b o (pubF b hb o ho)]; exact p1
      have off3 : Off cenv ws ρ3 hin (D :: fp) := fun b hb => by
        refine ⟨(off' b hb).1, fun p => ?_, (off' b hb).2.2⟩
        have hn := W3.hin_priv p
        rcases List.mem_cons.mp hb with rfl | hb
        · rw [pubD] at hn; cases hn
        · obtain ⟨p1, o, ho⟩ := it.prv _ _ _ hS2 b hb
          rw [pubF b hb o ho] at hn; cases hn
      have growS : ∀ {g4 : View} {s4 : Shared}, Grow C g3 s3 g4 s4 → S (i + 1) g4 s4.heap := fun {g4 s4} G4 => by
        have pr := it.prv _ _ _ S3
        refine it.frame _ _ _ _ _ S3 (G4.le F3.vis.st) (fun b hb => ?_) (fun b hb o e => G4.ext b o e)
        obtain ⟨p1, o, ho⟩ := pr b hb
        rw [G4.old b o ho]; exact p1
      refine h3.run r F3.vis fun b g4 s4 hb G4 => ?_
      cases b with
      | false =>
        exact ⟨_, by omega, i + 1, ρ3, g4, acc, vs, k, rfl, hlt, hb, F3.grow G4, growS G4, off3, G4.ext _ _ hD3, (G4.old _ _ hD3).trans gD3, rD'.mono ((l2.trans l3).trans (G4.le F3.vis.st))⟩
      | true =>
        simp only [if_true] at hb ⊢
        have F4 := F3.grow G4
        refine hb A g4 s4 _ _ r F4.vis fun y u g5 s5 hy ry G5 => ?_
        have G35 := G4.trans G5
        have F5 := F4.grow G5
        have hD5 : s5.heap.get? D = some (LO vs k) := G35.ext _ _ hD3
        have gD5 : g5 D = none := (G35.old _ _ hD3).trans gD3
        have rD5 : RelAll g5 vs.toList acc := rD'.mono ((l2.trans l3).trans (G35.le F3.vis.st))
        have hsz : vs.size ≤ sizeLine := by
          have := rD5.length
          simp only [Array.length_toList] at this
          rw [this]; exact hy.1
        refine wpAny_list_append_plain (hsz := hsz) ⟨k, hD5⟩ fun h6 hl6 hs6 => ?_
        obtain ⟨k6, hD6⟩ := hl6
        have G6 : GrowBut C [D] g5 s5 g5 { s5 with heap := h6 } := GrowBut.ofExt (t := s5.toks) F5.vis.st gD5 hs6.extBut
        have off3D : Off cenv ws ρ3 hin [D] := fun b hb => by simp only [List.mem_singleton] at hb; subst hb; exact off3 b (.head _)
        refine ⟨_, by omega, i + 1, ρ3, g5, acc ++ [y], vs.push u, k6, rfl, hlt, hy.2, F5.growBut G6 off3D, ?_, off3, hD6, gD5, by rw [Array.toList_push]; exact rD5.append (.cons ry .nil)⟩
        have S5 := growS G35
        have pr := it.prv _ _ _ S5
        exact it.frame _ _ _ _ _ S5 (.refl _) (fun b hb => (pr b hb).1) (fun b hb o e => G6.ext b o (fun p => nD (by simp only [List.mem_singleton] at p; exact p ▸ hb)) e)
    · cases r with
      | none => exact hr.elim
      | some v => exact hr
  · have hin' : i = ds.length := by omega
    subst hin'
    rw [List.drop_length] at hk'
    refine wpAny_mono (it.done g' s' (fun s1 => R (.ok .next) s1) _ hS' F'.vis.st fun s2 G2 => ?_) (fun r s1 hr => ?_) fun _ _ x => x
    · exact q acc vs k ρ' g' s2 hk' (F'.growBut G2 offF) (G2.ext D _ nD hD') gD' rD' offD
    · obtain ⟨rfl, hq⟩ := hr
      exact hq

/-- the whole block: a new list, the frame, the loop -/
theorem comp_block {tgt elt iter : PySem.Expr} {ifs : List PySem.Expr} {scope : Scope} {pos : Pos} {cl : List (Str × Addr)} {fv : List Str} {K : List PyData → Prop} {A : Around} {g₀ g : View} {s₀ s : Shared} {E : Value → Shared → Prop} {RR : Value → Addr → Result → Shared → Prop} {I : Addr} {fp : List Addr} {S : Nat → View → Heap → Prop} {ds : List PyData}
    (r : Room n A) (V : Vis C env ρ g₀ s₀) (G : Grow C g₀ s₀ g s) (it : Itr C A tgt I fp S ds) (hS : S 0 g s.heap) (hfp : ∀ b ∈ fp, s₀.heap.get? b = none) (hkd : scope.kind = .function) (hcl : ClOk env cl)
    (hfv : ∀ k, FvOk env scope cl k fv) (hpl : ∀ x M ds, x ∈ fv → ρ x ≠ some (.own M ds))
    (hk : ∀ L, CompK C n (cEnv scope cl L (L + 1) env) (ownW (L + 1) scope cl) tgt ifs elt (fvLoc fv ρ) ds [] K)
    (q : ∀ acc D L g' s', K acc → Rel g' (.ref D) (.list acc) → Grow C g₀ s₀ g' s' → g' L = none → s₀.heap.get? L = none → (∃ m, s'.heap.Ns L m) → RR (.ref D) L (.ok .next) s') :
    wpAny C.M A (newList []) (fun acc s₃ => wpAny C.M A (newFunctionEnv scope env.globals cl [] env.qual Option.none .none (some env)) (fun cenv s₄ =>
      codeAny C.M A (.compStart (.ListComp elt [⟨tgt, iter, ifs, 0⟩] scope pos) 0 (.ref I) acc { cenv with scope := relabel scope env }) (RR acc cenv.locals) s₄) E s₃) E s := by
  refine wpAny_newObj_type (newCompEnv ?_)
  have hz : (s.heap.push { cls := .type "list", dict := none, data := .seq ([] : List Value).toArray }).objs.size = s.heap.objs.size + 1 := Heap.size_push ..
  have G1 : Grow C g₀ s₀ g { s with heap := s.heap.push { cls := .type "list", dict := none, data := .seq ([] : List Value).toArray } } := G.trans (Grow.pushed G.st _)
  have F := Frm.comp (scope := scope) (cl := cl) (fv := fv) V G1 hkd hcl (hfv _) hpl
  have hkk := hk (s.heap.push { cls := .type "list", dict := none, data := .seq ([] : List Value).toArray }).objs.size
  generalize hL : (s.heap.push { cls := .type "list", dict := none, data := .seq ([] : List Value).toArray }).objs.size = L at F hkk hz ⊢
  have hD1 : (s.heap.push { cls := .type "list", dict := none, data := .seq ([] : List Value).toArray }).get? s.heap.objs.size = some (LO #[] 0) := Heap.get?_push_size _ rfl
  have up1 : ∀ a o, (s.heap.push { cls := .type "list", dict := none, data := .seq ([] : List Value).toArray }).get? a = some o →
      (pushCells ((s.heap.push { cls := .type "list", dict := none, data := .seq ([] : List Value).toArray }).push { cls := .type "dict", data := .dict #[] }) scope.names).get? a = some o := fun a o e => pushCells_keeps _ _ _ _ (Heap.get?_push_of_some _ e)
  have up : ∀ a o, s.heap.get? a = some o →
      (pushCells ((s.heap.push { cls := .type "list", dict := none, data := .seq ([] : List Value).toArray }).push { cls := .type "dict", data := .dict #[] }) scope.names).get? a = some o := fun a o e => up1 a o (Heap.get?_push_of_some _ e)
  have dn : s.heap.get? s.heap.objs.size = none := none_at_size _
  have gD : g s.heap.objs.size = none := G.st.none_of dn
  have nD : s.heap.objs.size ∉ fp := fun m => by
    obtain ⟨_, o, ho⟩ := it.prv _ _ _ hS _ m
    rw [dn] at ho; cases ho
  have hd₀ : s₀.heap.get? s.heap.objs.size = none := by
    cases q : s₀.heap.get? s.heap.objs.size with
    | none => rfl
    | some o => rw [G.ext _ o q] at dn; cases dn
  have hS1 : S 0 g (pushCells ((s.heap.push { cls := .type "list", dict := none, data := .seq ([] : List Value).toArray }).push { cls := .type "dict", data := .dict #[] }) scope.names) := by
    have pr := it.prv _ _ _ hS
    exact it.frame _ _ _ _ _ hS (.refl _) (fun b hb => (pr b hb).1) fun b hb o e => up b o e
  -- what is older than the comprehension's frame, and none of the outer cells, stands apart from it
  have cellsNew : ∀ x c, (cellsFrom (L + 1) scope.names cl).lookup x = some c → (∃ o, s₀.heap.get? c = some o) ∨ L + 1 ≤ c := fun x c e => by
    have h2 : ((s.heap.push { cls := .type "list", dict := none, data := .seq ([] : List Value).toArray }).push { cls := .type "dict", data := .dict #[] }).objs.size = L + 1 := by rw [Heap.size_push, hL]
    have := cellsFrom_mem scope.names ((s.heap.push { cls := .type "list", dict := none, data := .seq ([] : List Value).toArray }).push { cls := .type "dict", data := .dict #[] }) cl x c (by rw [h2]; exact PySem.mem_of_lookup e)
    rw [h2] at this
    rcases this with q | ⟨q, _⟩
    · obtain ⟨v, o, ho, _⟩ := V.lv x c (hcl.mem x c q)
      exact .inl ⟨o, ho⟩
    · exact .inr q
  have off : Off (cEnv scope cl L (L + 1) env) (ownW (L + 1) scope cl) (fvLoc fv ρ) s₀.heap.get? (s.heap.objs.size :: fp) := fun b hb => by
    have hb₀ : s₀.heap.get? b = none := by
      rcases List.mem_cons.mp hb with rfl | hb
      · exact hd₀
      · exact hfp b hb
    have hlt : b < L := by
      rcases List.mem_cons.mp hb with h | hb
      · have h' : b = s.heap.objs.size := h
        rw [hz, h']; exact Nat.lt_succ_self _
      · obtain ⟨_, o, ho⟩ := it.prv _ _ _ hS b hb
        rw [hz]; exact Nat.lt_succ_of_lt (Heap.lt_size ho)
    have c1 : ∀ x, (cellsFrom (L + 1) scope.names cl).lookup x ≠ some b := fun x e => by
      rcases cellsNew x b e with ⟨o, ho⟩ | h
      · rw [hb₀] at ho; cases ho
      · exact Nat.lt_irrefl _ (Nat.lt_of_lt_of_le hlt (Nat.le_of_succ_le h))
    refine ⟨hb₀, fun p => ?_, c1⟩
    rcases p with h | ⟨x, _, e⟩ | ⟨x, ds', e⟩
    · have h' : b = L := h
      exact Nat.lt_irrefl _ (h' ▸ hlt)
    · exact c1 x e
    · unfold fvLoc at e
      split at e
      · exact hpl x b ds' ‹_› e
      · cases e
  have main : codeAny C.M A (.compLoop (.ListComp elt [⟨tgt, iter, ifs, 0⟩] scope pos) 0 (.ref I) (.ref s.heap.objs.size) (cEnv scope cl L (L + 1) env)) (RR (.ref s.heap.objs.size) L)
      { s with heap := pushCells ((s.heap.push { cls := .type "list", dict := none, data := .seq ([] : List Value).toArray }).push { cls := .type "dict", data := .dict #[] }) scope.names } := by
    refine compLoop r F it hS1 off (up1 _ _ hD1) gD nD hkk fun acc vs k ρ' g' s' hK F' hD' gD' rD' off' => ?_
    have nDL : s.heap.objs.size ≠ L := by rw [hz]; exact Nat.ne_of_lt (Nat.lt_succ_self _)
    have st' := F'.vis.st
    have lset : Le g' (g'.set s.heap.objs.size (LO vs k)) := Le.set gD'
    refine q acc _ L (g'.set s.heap.objs.size (LO vs k)) s' hK (.list (View.set_self ..) (rD'.mono lset)) ⟨⟨fun a o e => lset a o (st'.base a o e), fun a o e => ?_, st'.gens, st'.os⟩, F'.keep, fun a o e => ?_⟩ ?_ F'.nsp.1 F'.ns
    · by_cases p : a = s.heap.objs.size
      · subst p; rw [View.set_self] at e; cases e; exact hD'
      · rw [View.set_ne _ _ p] at e; exact st'.sub a o e
    · rw [View.set_ne _ _ (fun p => by rw [p, hd₀] at e; cases e)]; exact F'.frz a o e
    · rw [View.set_ne _ _ (Ne.symm nDL)]; exact F'.nsp.2
  exact codeAny_compStart_list main (it.self 0 g _ _ _ hS1 main)

theorem Ev.comp {tgt elt iter : PySem.Expr} {ifs : List PySem.Expr} {scope : Scope} {pos : Pos} {K : PyData → Prop} (cl : List (Str × Addr)) (fv : List Str)
    (hclos : closureFor scope env = pure cl) (hcl : ClOk env cl) (hfv : ∀ k, FvOk env scope cl k fv) (hpl : ∀ x M ds, x ∈ fv → ρ x ≠ some (.own M ds))
    (h : Src C n env ρ tgt iter fun ds => ∀ L, CompK C n (cEnv scope cl L (L + 1) env) (ownW (L + 1) scope cl) tgt ifs elt (fvLoc fv ρ) ds [] fun acc => K (.list acc))
    (hnames : ∀ x ∈ scope.names, x.2 = .local → scope.names.lookup x.1 = some .local := by decide) (hkd : scope.kind = .function := by rfl)
    (hs : ∀ x, foldedSetIterable iter env x = pure x := by intro _; rfl) : Ev C n env ρ (.ListComp elt [⟨tgt, iter, ifs, 0⟩] scope pos) K := by
  intro A g s Q E r V q
  rw [eval_ListComp]
  refine wpAny_comprehension_free (e := .ListComp elt [⟨tgt, iter, ifs, 0⟩] scope pos) (use := Option.none) (g := ⟨tgt, iter, ifs, 0⟩) (gs := []) rfl hs hclos hkd hnames ?_
  refine h A g s (fun it s2 => wpAny C.M A (newList []) (fun acc s₃ => wpAny C.M A (newFunctionEnv scope env.globals cl [] env.qual Option.none .none (some env)) (fun cenv s₄ =>
      codeAny C.M A (.compStart (.ListComp elt [⟨tgt, iter, ifs, 0⟩] scope pos) 0 it acc { cenv with scope := relabel scope env }) (compPost C.M A E Option.none Q acc cenv.locals) s₄) E s₃) E s2) E r V ?_
  intro ds I fp S g1 s1 hk it hS G hfp
  refine comp_block r V G it hS hfp hkd hcl hfv hpl hk fun acc D L g' s' hK rD G' gL hL hns => ?_
  obtain ⟨m, hn⟩ := hns
  refine ⟨m, hn, fun h' hs' => ?_⟩
  have GB : GrowBut C [L] g' s' g' { s' with heap := h' } := GrowBut.ofExt (t := s'.toks) G'.st gL hs'.extBut
  exact q _ _ g' _ hK rD ((G'.thenBut GB).fresh fun b hb => by simp only [List.mem_singleton] at hb; subst hb; exact hL)

theorem Ex.assignComp {tgt elt iter : PySem.Expr} {ifs : List PySem.Expr} {scope : Scope} {pos cpos px : Pos} {x : Str} {K : Fl → Loc → Prop} (cl : List (Str × Addr)) (fv : List Str)
    (hclos : closureFor scope env = pure cl) (hcl : ClOk env cl) (hfv : ∀ k, FvOk env scope cl k fv) (hpl : ∀ x M ds, x ∈ fv → ρ x ≠ some (.own M ds))
    (h : Src C n env ρ tgt iter fun ds => ∀ L, CompK C n (cEnv scope cl L (L + 1) env) (ownW (L + 1) scope cl) tgt ifs elt (fvLoc fv ρ) ds [] fun acc => K .next (ρ.upd x (.dat (.list acc))))
    (hsw : swapsWith (.ListComp elt [⟨tgt, iter, ifs, 0⟩] scope cpos) (some (.Name x px)) pos.line env = pure true := by rfl)
    (hnames : ∀ x ∈ scope.names, x.2 = .local → scope.names.lookup x.1 = some .local := by decide) (hkd : scope.kind = .function := by rfl) (hx : storable env allW x = true := by rfl)
    (hs : ∀ x, foldedSetIterable iter env x = pure x := by intro _; rfl) : Ex C n env ρ (.Assign [.Name x px] (.ListComp elt [⟨tgt, iter, ifs, 0⟩] scope cpos) pos) K := by
  intro A hin gin g s Q E r F q
  rw [exec_Assign_Name_used _ _ _ _ hsw]
  refine wpAny_bind (wpAny_standAt (wpAny_bind ?_))
  show wpAny C.M A (do let _ ← comprehension (.ListComp elt [⟨tgt, iter, ifs, 0⟩] scope cpos) scope env (firstIterPos [⟨tgt, iter, ifs, 0⟩] cpos) (newList []) false (eval iter env) (some (PySem.assign (.Name x px) env))) _ E s
  refine wpAny_bind (wpAny_comprehension_free (e := .ListComp elt [⟨tgt, iter, ifs, 0⟩] scope cpos) (use := some (PySem.assign (.Name x px) env)) (g := ⟨tgt, iter, ifs, 0⟩) (gs := []) rfl hs hclos hkd hnames ?_)
  refine h A g s (fun it s2 => wpAny C.M A (newList []) (fun acc s₃ => wpAny C.M A (newFunctionEnv scope env.globals cl [] env.qual Option.none .none (some env)) (fun cenv s₄ =>
      codeAny C.M A (.compStart (.ListComp elt [⟨tgt, iter, ifs, 0⟩] scope cpos) 0 it acc { cenv with scope := relabel scope env }) (compPost C.M A E (some (PySem.assign (.Name x px) env)) (fun a s' => wpAny C.M A (pure PUnit.unit : Sem PUnit) (fun a s' => wpAny C.M A (pure Flow.next : Sem Flow) Q E s') E s') acc cenv.locals) s₄) E s₃) E s2) E r F.vis ?_
  intro ds I fp S g1 s1 hk it hS G hfp
  refine comp_block r F.vis G it hS hfp hkd hcl hfv hpl hk fun acc D L g' s' hK rD G' gL hL hns => ?_
  obtain ⟨m, o, es, ep, hoL, hdL⟩ := hns
  have F' := F.grow G'
  have offL : Off env allW ρ hin [L] := F.off fun b hb => by simp only [List.mem_singleton] at hb; subst hb; exact hL
  have pubL : pub env allW ρ s'.heap L = some o := by rw [pub_of (offL L (by simp)).2.1]; exact hoL
  refine wpAny_bind (wpAny_standAt (wpAny_bindName ((F'.wide).store (sl := .dat (.list acc)) rD (fun _ _ e => by cases e) (fun h' t W => ?_) hx)))
  have hL2 := W.keep L o pubL
  refine ⟨m, ⟨o, es, ep, hL2, hdL⟩, fun h'' hs'' => wpAny_pure (wpAny_pure ?_)⟩
  have F2 := F'.narrow W
  have off2 : Off env allW (ρ.upd x (.dat (.list acc))) hin [L] := fun b hb => by
    simp only [List.mem_singleton] at hb; subst hb
    refine ⟨(offL b (by simp)).1, fun p => ?_, (offL b (by simp)).2.2⟩
    have := W.hin_priv p
    rw [pubL] at this; cases this
  have GB : GrowBut C [L] g' { s' with heap := h', toks := t } g' { s' with heap := h'', toks := t } := GrowBut.ofExt (s := { s' with heap := h', toks := t }) (t := t) F2.vis.st gL hs''.extBut
  exact q .next .next _ g' _ hK trivial (G'.le F.vis.st) (F2.growBut GB off2)
end
end Lw
end
noncomputable section
namespace Lw

theorem text_len {a : Int} (h1 : -1000000 < a) (h2 : a < 1000000) : (Str.ofString (toString a)).length ≤ 20 := by
  rw [PySem.ofString_length]
  exact Nat.le_trans (int_text_length_le10 (k := 7) (by decide) (by have : (10 : Nat) ^ 7 = 10000000 := by decide
                                                                    omega)) (by decide)
theorem log_small {a : Int} (h1 : -1000000 < a) (h2 : a < 1000000) : a.natAbs.log2 < 1920 := by
  by_cases h0 : a.natAbs = 0
  · rw [h0]; decide
  · exact Nat.lt_of_lt_of_le ((Nat.log2_lt h0).mpr (show a.natAbs < 2 ^ 20 by omega)) (by decide)

set_option maxHeartbeats 4000000 in
theorem fmt1_meets (a : Int) (t u : Tok) (h1 : -1000000 < a) (h2 : a < 1000000) :
    Meets (Builtin.«str.format» ⟨[.str { cps := #[123, 125] } t, .int a u], []⟩) (fun _ R s => ∀ t' k, R (.ok (.ret (.str (Str.ofString (toString a)) t'))) { s with toks := k }) := by
  apply KPc.meets_of
  intro _ _ _ _ _ _ _
  unfold Builtin.«str.format»
  refine wpAny_bind (wpAny_of_eq (a := (_, _, _)) rfl ?_)
  refine wpAny_bind ?_
  unfold Builtin.Str.buildString
  refine wpAny_bind ?_
  rw [KPc.range_list]
  refine KFm.start ?_
  intro _ _
  refine KPc.turn ?_; kpc_if
  kpc_check
  refine wpAny_bind (KFm.field_auto (by kfm_num) (by rfl) ?_)
  refine wpAny_bind (wpAny_holding (wpAny_of_eq (a := _) rfl ?_))
  kpc_if
  refine wpAny_bind (wpAny_pure ?_)
  refine wpAny_bind (wpAny_holding (KFm.formatOf_int (log_small h1 h2) ?_)); intro _ _
  refine wpAny_bind (wpAny_of_eq (a := some _) rfl ?_)
  refine wpAny_pure ?_
  refine KFm.after_field (by kpc_g) (by kpc_text) (by kpc_obj) (text_len h1 h2) (by kpc_obj) (by kfm_cat2) (by kfm_rest) ?_
  intro _ _
  refine KPc.turn ?_; kpc_if
  kfm_close

set_option maxHeartbeats 4000000 in
theorem fmt2_meets (a b : Int) (t u v : Tok) (h1 : -1000000 < a) (h2 : a < 1000000) (h3 : -1000000 < b) (h4 : b < 1000000) :
    Meets (Builtin.«str.format» ⟨[.str { cps := #[123, 125, 44, 123, 125] } t, .int a u, .int b v], []⟩) (fun _ R s => ∀ t' k, R (.ok (.ret (.str (Str.ofString (toString a) ++ Str.ofString "," ++ Str.ofString (toString b)) t'))) { s with toks := k }) := by
  apply KPc.meets_of
  intro _ _ _ _ _ _ _
  unfold Builtin.«str.format»
  refine wpAny_bind (wpAny_of_eq (a := (_, _, _)) rfl ?_)
  refine wpAny_bind ?_
  unfold Builtin.Str.buildString
  refine wpAny_bind ?_
  rw [KPc.range_list]
  refine KFm.start ?_
  intro _ _
  refine KPc.turn ?_; kpc_if
  kpc_check
  refine wpAny_bind (KFm.field_auto (by kfm_num) (by rfl) ?_)
  refine wpAny_bind (wpAny_holding (wpAny_of_eq (a := _) rfl ?_))
  kpc_if
  refine wpAny_bind (wpAny_pure ?_)
  refine wpAny_bind (wpAny_holding (KFm.formatOf_int (log_small h1 h2) ?_)); intro _ _
  refine wpAny_bind (wpAny_of_eq (a := some _) rfl ?_)
  refine wpAny_pure ?_
  refine KFm.after_field (by kpc_g) (by kpc_text) (by kpc_obj) (text_len h1 h2) (by kpc_obj) (by kfm_cat2) (by kfm_rest) ?_
  intro _ _
  refine KPc.turn ?_; kpc_if
  kpc_check
  refine wpAny_bind (KFm.field_auto (by kfm_num) (by rfl) ?_)
  refine wpAny_bind (wpAny_holding (wpAny_of_eq (a := _) rfl ?_))
  kpc_if
  refine wpAny_bind (wpAny_pure ?_)
  refine wpAny_bind (wpAny_holding (KFm.formatOf_int (log_small h3 h4) ?_)); intro _ _
  refine wpAny_bind (wpAny_of_eq (a := some _) rfl ?_)
  refine wpAny_pure ?_
  refine KFm.after_field (by kpc_g) (by kpc_text) (by kpc_obj) (text_len h3 h4) (by kpc_obj) (by kfm_cat2) (by kfm_rest) ?_
  intro _ _
  refine KPc.turn ?_; kpc_if
  kfm_close

theorem RelAll.one {g : View} {vs : List Value} {a : PyData} (r : RelAll g vs [a]) : ∃ x, vs = [x] ∧ Rel g x a := by
  cases r with | cons h r => cases r; exact ⟨_, rfl, h⟩
theorem RelAll.two {g : View} {vs : List Value} {a b : PyData} (r : RelAll g vs [a, b]) : ∃ x y, vs = [x, y] ∧ Rel g x a ∧ Rel g y b := by
  cases r with | cons h r => obtain ⟨y, rfl, h2⟩ := r.one; exact ⟨_, y, rfl, h, h2⟩
theorem RelAll.three {g : View} {vs : List Value} {a b c : PyData} (r : RelAll g vs [a, b, c]) : ∃ x y z, vs = [x, y, z] ∧ Rel g x a ∧ Rel g y b ∧ Rel g z c := by
  cases r with | cons h r => obtain ⟨y, z, rfl, h2, h3⟩ := r.two; exact ⟨_, y, z, rfl, h, h2, h3⟩

/-! values of built-in calls -/
section
variable {C : Cx} {n : Nat} {K : PyData → Prop}
theorem vop_fmt1 {a : Int} (h1 : -1000000 < a) (h2 : a < 1000000) (k : K (.str (Str.ofString (toString a)))) : Vop C n (fun vs => call (.builtin "str.format") vs) [.str (Str.ofString "{}"), .int a] K := by
  intro A g s Q E vs r st rv q
  obtain ⟨x, y, rfl, r1, r2⟩ := rv.two
  cases r1; cases r2
  exact KFm.call_k (X' := { cps := #[123, 125] }) (by decide +kernel) (KFm.args_2 _ _) (fmt1_meets a _ _ h1 h2) fun t' k' => q _ _ g _ k (.str ..) (.tok st _)
theorem vop_fmt2 {a b : Int} (h1 : -1000000 < a) (h2 : a < 1000000) (h3 : -1000000 < b) (h4 : b < 1000000) (k : K (.str (Str.ofString (toString a) ++ Str.ofString "," ++ Str.ofString (toString b)))) :
    Vop C n (fun vs => call (.builtin "str.format") vs) [.str (Str.ofString "{},{}"), .int a, .int b] K := by
  intro A g s Q E vs r st rv q
  obtain ⟨x, y, z, rfl, r1, r2, r3⟩ := rv.three
  cases r1; cases r2; cases r3
  exact KFm.call_k (X' := { cps := #[123, 125, 44, 123, 125] }) (by decide +kernel) (KFm.args_3 _ _ _) (fmt2_meets a b _ _ _ h1 h2 h3 h4) fun t' k' => q _ _ g _ k (.str ..) (.tok st _)
theorem vop_str {a : Int} (h1 : -1000000 < a) (h2 : a < 1000000) (k : K (.str (Str.ofString (toString a)))) : Vop C n (fun vs => call (.type "str") vs) [.int a] K := by
  intro A g s Q E vs r st rv q
  obtain ⟨x, rfl, r1⟩ := rv.one
  cases r1
  exact P.str_of_int (log_small h1 h2) (q _ _ g _ k (.str ..) (.tok st _))
theorem vop_startswith {x y : Str} (k : K (.bool (Txt.startswith x y))) : Vop C n (fun vs => call (.builtin "str.startswith") vs) [.str x, .str y] K := by
  intro A g s Q E vs r st rv q
  obtain ⟨x, y, rfl, r1, r2⟩ := rv.two
  cases r1; cases r2
  exact SC.startswith (q _ _ g _ k (.bool _) (.refl st))
theorem vop_endswith {x y : Str} (k : K (.bool (Txt.endswith x y))) : Vop C n (fun vs => call (.builtin "str.endswith") vs) [.str x, .str y] K := by
  intro A g s Q E vs r st rv q
  obtain ⟨x, y, rfl, r1, r2⟩ := rv.two
  cases r1; cases r2
  exact SC.endswith (q _ _ g _ k (.bool _) (.refl st))

theorem rel_strs {g : View} : ∀ {vs : List Value} {xs : List Str}, RelAll g vs (xs.map .str) → ∃ l : List (Str × Tok), vs = strValues l ∧ l.map (·.1) = xs
  | [], [], _ => ⟨[], rfl, rfl⟩
  | [], _ :: _, r => by cases r
  | _ :: _, [], r => by cases r
  | v :: vs, x :: xs, r => by
    rw [List.map_cons] at r
    cases r with
    | cons h r =>
      obtain ⟨l, rfl, hl⟩ := rel_strs r
      cases h with
      | str _ t => exact ⟨(x, t) :: l, rfl, by simp [hl]⟩
theorem strs_rel {g : View} : ∀ (l : List (Str × Tok)), RelAll g (strValues l) ((l.map (·.1)).map .str)
  | [] => .nil
  | (x, t) :: l => .cons (.str x t) (strs_rel l)
theorem vop_join {x : Str} {xs : List Str} (hok : JoinOk x xs = true) (k : K (.str (Txt.join x xs))) : Vop C n (fun vs => call (.builtin "str.join") vs) [.str x, .list (xs.map .str)] K := by
  intro A g s Q E vs r st rv q
  obtain ⟨a, b, rfl, r1, r2⟩ := rv.two
  cases r1
  cases r2 with
  | @list a us m _ h rr =>
    obtain ⟨l, hl, hx⟩ := rel_strs rr
    exact SC.join (D := a) (l := l) (by rw [← hl]; exact IsL.isList (st.sub _ _ h)) hx hok fun t' k' => q _ _ g _ k (.str ..) (.tok st _)
theorem vop_split {x y : Str} (hy : y.length ≠ 0) (hsz : x.length ≤ sizeLine) (hsz2 : (Builtin.Str.partsBetween x (Builtin.Str.occurrences x y 0 x.length (x.length + 1)) y.length).length ≤ sizeLine)
    (k : K (.list ((Txt.split x y).map .str))) : Vop C n (fun vs => call (.builtin "str.split") vs) [.str x, .str y] K := by
  intro A g s Q E vs r st rv q
  obtain ⟨a, b, rfl, r1, r2⟩ := rv.two
  cases r1 with | str _ t => cases r2 with
    | str _ u =>
      have hy' : (y.length == 0) = false := by simpa using hy
      have fin : ∀ (l : List (Str × Tok)) (tk : Nat), l.map (·.1) = Txt.split x y → Q (.ref s.heap.objs.size) { s with heap := s.heap.push (LO (strValues l).toArray 0), toks := tk } := fun l tk hl => by
        obtain ⟨r0, G0⟩ := Rel.newList st (vs := (strValues l).toArray) (strs_rel (g := g) l)
        rw [hl] at r0
        exact q _ _ _ _ k r0 (G0.toks tk)
      unfold Txt.split at fin
      by_cases h1 : (decide (x.length < y.length) || decide (Builtin.Str.strKind x < Builtin.Str.strKind y)) = true
      · rw [if_pos h1] at fin
        exact call_meets F.slot_str_split (typeIs_str _ _ _) F.entry_str_split (F.args_str_split_2 _ _) (meets_str_split_cannot_occur x y t u h1) (fin [(x, t)] s.toks rfl)
      · rw [if_neg h1] at fin
        have h1' := Bool.eq_false_iff.mpr h1
        by_cases hf : (Builtin.Str.occurrences x y 0 x.length (x.length + 1)).isEmpty = true
        · rw [if_pos hf] at fin
          exact call_meets F.slot_str_split (typeIs_str _ _ _) F.entry_str_split (F.args_str_split_2 _ _) (meets_str_split_not_found x y t u h1' hy' hf) (fin [(x, t)] s.toks rfl)
        · rw [if_neg hf] at fin
          refine call_meets F.slot_str_split (typeIs_str _ _ _) F.entry_str_split (F.args_str_split_2 _ _) (meets_str_split_sep x y t u h1' hy' (Bool.eq_false_iff.mpr hf) hsz hsz2) ?_
          have := fin (numbered s.toks (Builtin.Str.partsBetween x (Builtin.Str.occurrences x y 0 x.length (x.length + 1)) y.length)) (s.toks + (Builtin.Str.partsBetween x (Builtin.Str.occurrences x y 0 x.length (x.length + 1)) y.length).length) (numbered_texts _ _)
          rw [← strsFrom_eq] at this
          exact this
theorem vop_len_list {xs : List PyData} (hsz : xs.length ≤ sizeLine) (k : K (.int (xs.length : Nat))) : Vop C n (fun vs => call (.builtin "len") vs) [.list xs] K := by
  intro A g s Q E vs r st rv q
  obtain ⟨a, rfl, r1⟩ := rv.one
  cases r1 with
  | @list a us m _ h rr =>
    have l1 := rr.length
    simp only [Array.length_toList] at l1
    rw [sizeLine_eq] at hsz
    refine Calls.call_len_list (IsL.isList (st.sub _ _ h)) (by rw [l1]; omega) ?_
    rw [l1]
    exact q _ _ g _ k (.int ..) (.tok st _)
end
end Lw
end
noncomputable section
namespace Lw

section
variable {C : Cx} {n : Nat} {env : Env} {ρ : Loc} {K : PyData → Prop} {pos : Pos}

noncomputable def isBlt : Value → Bool
  | .builtin _ | .type _ => true
  | _ => false
theorem callWith_blt {M : Model} {A : Around} {E : Value → Shared → Prop} {s : Shared} {pos : Pos} {f : Value} {first : List Value} {args : List (Bool × Sem Value)} {Q : Value → Shared → Prop} (hf : isBlt f = true) (hplain : args.any (·.1) = false)
    (h : wpAny M A (evalArgs f true args []) (fun a s₁ => wpAny M A (PySem.call f (first ++ a.pos) a.kw) Q E s₁) E s) :
    wpAny M A (callWith pos f first args []) Q E s := by
  unfold callWith
  refine wpAny_bind (wpAny_holding (wpAny_mono h (fun a s₁ h₁ => wpAny_bind (wpAny_standAt ?_)) fun _ _ x => x))
  simp only [hplain, List.any_nil, Bool.or_false]
  have hk : keeperOf f = pure .machine := by cases f <;> first | rfl | simp [isBlt] at hf
  rw [hk]
  refine wpAny_bind (wpAny_pure ?_)
  exact wpAny_bind (wpAny_mono h₁ (fun r s₂ hr => wpAny_bind (wpAny_holding (wpAny_point (wpAny_pure hr)))) fun _ _ x => x)
theorem backTo_plain {env : Env} {pos : Pos} : ∀ {es : List PySem.Expr}, es.all plainElt = true → (backTo pos (starEach es env)).any (·.1) = false
  | [], _ => rfl
  | e :: es, h => by
    simp only [List.all_cons, Bool.and_eq_true] at h
    rw [starEach_plain h.1]
    show (false || (backTo pos (starEach es env)).any (·.1)) = false
    rw [backTo_plain h.2]; rfl
theorem evalArgs_run {f : Value} {args : List PySem.Expr} {K : List PyData → Prop} {A : Around} {g : View} {s : Shared} {Q : Args → Shared → Prop} {E : Value → Shared → Prop} (hp : args.all plainElt = true) (h : Evs C n env ρ args K) (r : Room n A) (V : Vis C env ρ g s)
    (q : ∀ ds vs g' s', K ds → RelAll g' vs ds → Grow C g s g' s' → Q ⟨vs, []⟩ s') : wpAny C.M A (evalArgs f true (backTo pos (starEach args env)) []) Q E s := by
  cases args with
  | nil => exact PySem.evalArgs_none (q [] [] g s h .nil (.refl V.st))
  | cons e es =>
    have run := Evs.run (pos := pos) (e :: es) K A g s (fun vs s' => Q ⟨vs, []⟩ s') E hp h r V q
    simp only [List.all_cons, Bool.and_eq_true] at hp
    rw [starEach_plain hp.1] at run ⊢
    exact Calls.evalArgs_plain run

/-- a built-in function or type, called by its name -/
theorem Ev.callB {f : Str} {v : Value} {args : List PySem.Expr} {pf : Pos} (hmg : nsIn (pre.heap_1 C.w.params) mainGlobals f = some Option.none) (hv : bootBuiltins f = some v) (hb : isBlt v = true)
    (h : Evs C n env ρ args fun ds => Vop C n (fun vs => PySem.call v vs) ds K)
    (hn : f ≠ "__name__" := by decide) (hx : env.kindOf f = some .globalImplicit := by rfl) (hp : args.all plainElt = true := by rfl) (hdb : (f == ("__debug__" : Str)) = false := by decide) :
    Ev C n env ρ (.Call (.Name f pf) args [] pos) K :=
  fun A g s Q E rm vis q => by
    show wpAny C.M A (do callWith pos (← eval (.Name f pf) env) [] (backTo pos (starEach args env)) []) Q E s
    have st := vis.st
    refine wpAny_bind (Calls.Name_function_global vis.kind hx (Calls.loadGlobal_builtin (by rw [vis.glob]; exact C.T.g.keeps st.keep) (mg_none_of C.X C.T.g hmg) (by rw [vis.blt]; exact C.T.b.keeps st.keep) ((C.T.builtins f hn).trans hv) ?_) hdb)
    refine callWith_blt hb (backTo_plain hp) (evalArgs_run hp h rm vis fun ds vs g' s' hk r G => ?_)
    exact hk A g' s' Q E vs rm G.st r fun d v g2 s2 hd rd G2 => q d v g2 s2 hd rd (G.trans G2)

/-- a method of a text -/
theorem Ev.strMeth {o : PySem.Expr} {name : Str} {apos : Pos} {args : List PySem.Expr} {id : String} (slot : Slot "str" name id) (ty : typeOf (.builtin id) = pure (.type "method_descriptor"))
    (h : Ev C n env ρ o fun x => ∃ t, x = .str t ∧ Evs C n env ρ args fun ds => Vop C n (fun vs => PySem.call (.builtin id) vs) (.str t :: ds) K)
    (hp : args.all plainElt = true := by rfl) (hbase : attributeBase o name env (eval o env) = eval o env := by rfl)
    (hfew : ((backTo pos (starEach args env)).all (fun x => !x.1) && (backToKw pos (keywordEach [] env)).all (fun x => x.1.isSome)
      && decide (args.length + ([] : List Keyword).length + (if ([] : List Keyword).isEmpty then 0 else 1) < 30)) = true := by rfl)
    (hline : (apos.endLine == pos.line) = true := by rfl) : Ev C n env ρ (.Call (.Attribute o name apos) args [] pos) K :=
  fun A g s Q E rm vis q => by
    refine wpAny_Call_method hbase hfew hline F.plainAttrs_str slot ty (h A g s _ E rm vis fun d v g1 s1 ⟨t, hd, hk⟩ rv G => ?_)
    subst hd
    cases rv with
    | str _ tk =>
      refine ⟨typeIs_str _ _ _, (fun _ e => nomatch e), callWith_blt rfl (backTo_plain hp) (evalArgs_run hp hk rm (vis.grow G) fun ds vs g' s' hk r G' => ?_)⟩
      exact hk A g' s' Q E (.str t tk :: vs) rm G'.st (.cons (.str t tk) r) fun d v g2 s2 hd rd G2 => q d v g2 s2 hd rd ((G.trans G').trans G2)

/-- an item of a list -/
theorem Ev.item {value slice : PySem.Expr} (h : Ev C n env ρ value fun x => Ev C n env ρ slice fun i => ∃ xs k d, x = .list xs ∧ i = .int k ∧ 0 ≤ k ∧ k < 2 ^ 62 ∧ xs[k.toNat]? = some d ∧ K d)
    (hs : ∀ (a : Addr) (k : Int) (u : Tok), subscripted slice false (.ref a) (.int k u) = operate [.ref a, .int k u] (getItem (.ref a) (.int k u)) := by intros; rfl) : Ev C n env ρ (.Subscript value slice pos) K :=
  fun A g s Q E rm vis q => Subscript_ (h A g s _ E rm vis fun x v g1 s1 hx rx G1 => hx A g1 s1 _ E rm (vis.grow G1) fun i u g2 s2 ⟨xs, k, d, e1, e2, h0, h1, hd, hk⟩ ri G2 => by
    subst e1 e2
    cases ri
    have rx2 := rx.mono (G2.le G1.st)
    cases rx2 with
    | @list a us m _ ha ra =>
      obtain ⟨y, hy, ry⟩ := ra.get' hd
      have hl := IsL.isList (G2.st.sub _ _ ha)
      exact tail_any hl.typeIs slot_list_getitem.lookup (wpAny_getItem_list hl h0 (by omega) (by simpa using hy) (q d y g2 s2 hk ry (G1.trans G2))) (hs _ _ _))

theorem op_neg {a : Int} (k : K (.int (-a))) : Op1 C n (unaryOp .USub) (.int a) K := fun A g s Q E v r st rv q => by cases rv; exact P.neg_int (q _ _ g _ k (.int ..) (.tok st _))
theorem Ev.un {e : PySem.Expr} {op : PySem.UnaryOp} (h : Ev C n env ρ e fun x => Op1 C n (unaryOp op) x K) : Ev C n env ρ (.UnaryOp op e pos) K :=
  fun A g s Q E rm vis q => wpAny_UnaryOp (h A g s _ E rm vis fun x v g1 s1 hx rx G1 => hx A g1 s1 Q E v rm G1.st rx fun d u g2 s2 hd rd G2 => q d u g2 s2 hd rd (G1.trans G2))

/-! slices -/
noncomputable def EvP (C : Cx) (n : Nat) (env : Env) (ρ : Loc) (o : Option PySem.Expr) (K : Option Int → Prop) : Prop := match o with
  | Option.none => K Option.none
  | some e => Ev C n env ρ e fun d => ∃ i, d = .int i ∧ K (some i)
theorem EvP.run {o : Option PySem.Expr} {K : Option Int → Prop} {A : Around} {g : View} {s : Shared} {Q E : Value → Shared → Prop} (h : EvP C n env ρ o K) (r : Room n A) (V : Vis C env ρ g s)
    (q : ∀ (p : Option (Int × Tok)) g' s', K (p.map (·.1)) → Grow C g s g' s' → Q (partValue p) s') : wpAny C.M A (evalPart o env) Q E s := by
  cases o with
  | none => rw [evalPart_none]; exact wpAny_pure (q Option.none g s h (.refl V.st))
  | some e =>
    rw [evalPart_some]
    refine h A g s Q E r V fun d v g' s' ⟨i, hd, hk⟩ rv G => ?_
    subst hd
    cases rv with | int _ t => exact q (some (i, t)) g' s' hk G
theorem isPart_of (p : Option (Int × Tok)) : IsPart (partValue p) (p.map (·.1)) := by
  cases p with
  | none => exact .none
  | some p => exact .int p.1 p.2

noncomputable def cutA (lo : Option Int) (n : Nat) : Nat := lo.elim 0 (clipAt n)
noncomputable def cutB (hi : Option Int) (n : Nat) : Nat := hi.elim n (clipAt n)
noncomputable def cutL {α : Type} (xs : List α) (lo hi : Option Int) : List α := (xs.drop (cutA lo xs.length)).take (cutB hi xs.length - cutA lo xs.length)
noncomputable def cutS (x : Str) (lo hi : Option Int) : Str := ⟨(cutL x.cps.toList lo hi).toArray⟩

theorem Ev.sliceL {x : Str} {px p : Pos} {lo hi : Option PySem.Expr} {xs : List PyData} (hx : ρ x = some (.dat (.list xs))) (hsz : xs.length ≤ sizeLine)
    (h : EvP C n env ρ lo fun a => EvP C n env ρ hi fun b => K (.list (cutL xs a b))) (hdb : (x == ("__debug__" : Str)) = false := by decide) : Ev C n env ρ (.Subscript (.Name x px) (.Slice lo hi Option.none p) pos) K :=
  fun A g s Q E rm vis q => by
    refine wpAny_Subscript_list_slice ?_
    obtain ⟨u, hu, ru⟩ := vis.rd x _ hx
    refine wpAny_Name (hu.load vis.kind ?_) hdb
    refine h.run rm vis fun a g1 s1 h1 G1 => h1.run rm (vis.grow G1) fun b g2 s2 h2 G2 => ?_
    have ru2 : Rel g2 u (.list xs) := Rel.mono ((G1.le vis.st).trans (G2.le G1.st)) ru
    cases ru2 with
    | @list l us m _ ha ra =>
      have l1 := ra.length
      simp only [Array.length_toList] at l1
      refine ⟨l, us, _, _, rfl, IsL.isList (G2.st.sub _ _ ha), by rw [l1]; exact hsz, isPart_of a, isPart_of b, ?_⟩
      have G3 := Grow.pushed G2.st { cls := .type "slice", data := .fields #[partValue a, partValue b, .none] }
      have pk : slicePick us (a.map (·.1)) (b.map (·.1)) Option.none = (cutL us.toList (a.map (·.1)) (b.map (·.1))).toArray := by
        rw [slicePick_plain]; simp [cutL, cutA, cutB]
      obtain ⟨r4, G4⟩ := Rel.newList G3.st (vs := slicePick us (a.map (·.1)) (b.map (·.1)) Option.none) (ds := cutL xs (a.map (·.1)) (b.map (·.1))) (by
        rw [pk]
        simp only [cutL]
        rw [show us.toList.length = xs.length from ra.length]
        exact (ra.drop _).take _)
      have := q _ _ _ _ h2 r4 (((G1.trans G2).trans G3).trans G4)
      simp only [Heap.size_push] at this
      exact this

theorem strSlice (x : Str) (lo hi : Option Int) : (Builtin.Str.strSliceIndices lo hi 1 x.length).filterMap (x.cps[·]?) = cutL x.cps.toList lo hi := by
  have hb : ∀ (i : Int), max 0 (min (if i < 0 then i + (x.length : Int) else i) (x.length : Int)) = ((clipAt x.length i : Nat) : Int) := fun i => (clipAt_cast x.length i).symm
  have e : Builtin.Str.strSliceIndices lo hi 1 x.length = (List.range (cutB hi x.length - cutA lo x.length)).map (cutA lo x.length + ·) := by
    rw [← sliceRange_one]
    unfold Builtin.Str.strSliceIndices cutA cutB
    cases lo <;> cases hi <;> simp [hb]
  rw [e, pick_run]
  simp [cutL, Str.length]
theorem cutS_whole (t : Str) (lo hi : Option Int) (hc : (Builtin.Str.strSliceIndices lo hi 1 t.length).length = t.length) : cutS t lo hi = t := by
  have hb : ∀ (i : Int), max 0 (min (if i < 0 then i + (t.length : Int) else i) (t.length : Int)) = ((clipAt t.length i : Nat) : Int) := fun i => (clipAt_cast t.length i).symm
  have e : Builtin.Str.strSliceIndices lo hi 1 t.length = (List.range (cutB hi t.length - cutA lo t.length)).map (cutA lo t.length + ·) := by
    rw [← sliceRange_one]
    unfold Builtin.Str.strSliceIndices cutA cutB
    cases lo <;> cases hi <;> simp [hb]
  rw [e, List.length_map, List.length_range] at hc
  have hB : cutB hi t.length ≤ t.length := by
    unfold cutB
    cases hi with
    | none => exact Nat.le_refl _
    | some p =>
      have := clipAt_cast t.length p
      show clipAt t.length p ≤ t.length
      omega
  have hz : cutA lo t.length = 0 ∨ t.length = 0 := by omega
  apply Str.ext'
  unfold cutS cutL
  apply Array.toList_inj.mp
  rw [show t.cps.toList.length = t.length from Array.length_toList, hc]
  have hs : ((t.cps.toList.drop (cutA lo t.length)).take t.length).length = t.cps.toList.length := by
    rw [List.length_take, List.length_drop, show t.cps.toList.length = t.length from Array.length_toList]
    rcases hz with h | h
    · rw [h]; omega
    · rw [h]; omega
  exact ((List.take_sublist _ _).trans (List.drop_sublist _ _)).eq_of_length hs
theorem Ev.sliceS {x : Str} {px p : Pos} {lo hi : Option PySem.Expr} {t : Str} (hx : ρ x = some (.dat (.str t))) (hsz : t.length ≤ sizeLine)
    (h : EvP C n env ρ lo fun a => EvP C n env ρ hi fun b => K (.str (cutS t a b))) (hdb : (x == ("__debug__" : Str)) = false := by decide) : Ev C n env ρ (.Subscript (.Name x px) (.Slice lo hi Option.none p) pos) K :=
  fun A g s Q E rm vis q => by
    refine wpAny_Subscript_str_slice ?_
    obtain ⟨u, hu, ru⟩ := vis.rd x _ hx
    refine wpAny_Name (hu.load vis.kind ?_) hdb
    refine h.run rm vis fun a g1 s1 h1 G1 => h1.run rm (vis.grow G1) fun b g2 s2 h2 G2 => ?_
    cases ru with
    | str _ tk =>
      refine ⟨t, tk, a, b, rfl, rfl, rfl, ?_⟩
      have G3 := Grow.pushed G2.st { cls := .type "slice", data := .fields #[partValue a, partValue b, .none] }
      have G := (G1.trans G2).trans G3
      unfold sliceMade slicePicked
      have ek : (Option.map (fun x => x.1) (Option.none : Option (Int × Tok))).getD 1 = (1 : Int) := rfl
      rw [ek]
      have es := strSlice t (a.map (·.1)) (b.map (·.1))
      have hle : (cutL t.cps.toList (a.map (·.1)) (b.map (·.1))).length ≤ t.length := by
        unfold cutL; rw [List.length_take, List.length_drop]; simp only [Array.length_toList]; exact Nat.le_trans (Nat.min_le_right _ _) (Nat.sub_le _ _)
      split
      · rename_i hc
        simp only [beq_self_eq_true, Bool.true_and, beq_iff_eq] at hc
        have e2 : cutS t (a.map (·.1)) (b.map (·.1)) = t := cutS_whole t _ _ hc
        exact q _ _ _ _ h2 (by rw [e2]; exact .str ..) G
      · show _ ∧ _
        rw [es]
        refine ⟨?_, q _ _ _ _ h2 (.str ..) (G.toks _)⟩
        show ((cutL t.cps.toList (a.map (·.1)) (b.map (·.1))).toArray).size ≤ sizeLine
        rw [List.size_toArray]
        exact Nat.le_trans hle hsz

/-! a text among texts -/
theorem op_in_strs {x : Str} {xs : List Str} (k : K (.bool (decide (x ∈ xs)))) : Op2 C n (compareOp .In) (.str x) (.list (xs.map .str)) K :=
  fun A g s Q E v u r st rv ru q => by
    cases rv with | str _ t => cases ru with
      | @list a us m _ ha ra =>
        obtain ⟨l, hl, hx⟩ := rel_strs ra
        have hus : us = (strValues l).toArray := by rw [← hl]
        subst hus
        refine SeqAt.in_listAt (fun y => match y with | .str z _ => z == x | _ => false) (IsL.isList (st.sub _ _ ha)) (fun y hy => ?_) ?_
        · simp only [strValues, List.mem_toArray, List.mem_map] at hy
          obtain ⟨p, _, rfl⟩ := hy
          exact SeqAt.EqAt.str_str _ _ _ _
        · have e : ((strValues l).toArray.any fun y => match y with | .str z _ => z == x | _ => false) = decide (x ∈ xs) := by
            subst hx
            clear hl ra ha q k
            induction l with
            | nil => simp [strValues]
            | cons p l ih =>
              simp only [strValues, List.map_cons, List.any_toArray, List.any_cons, List.mem_cons] at ih ⊢
              rw [ih]
              by_cases h1 : p.1 = x
              · simp [h1]
              · have : ¬ x = p.1 := fun h => h1 h.symm
                simp [h1, this]
          rw [e]
          exact q _ _ g _ k (.bool _) (.refl st)
theorem op_notIn_strs {x : Str} {xs : List Str} (k : K (.bool (!decide (x ∈ xs)))) : Op2 C n (compareOp .NotIn) (.str x) (.list (xs.map .str)) K :=
  fun A g s Q E v u r st rv ru q => by
    cases rv with | str _ t => cases ru with
      | @list a us m _ ha ra =>
        obtain ⟨l, hl, hx⟩ := rel_strs ra
        have hus : us = (strValues l).toArray := by rw [← hl]
        subst hus
        refine SeqAt.notIn_listAt (fun y => match y with | .str z _ => z == x | _ => false) (IsL.isList (st.sub _ _ ha)) (fun y hy => ?_) ?_
        · simp only [strValues, List.mem_toArray, List.mem_map] at hy
          obtain ⟨p, _, rfl⟩ := hy
          exact SeqAt.EqAt.str_str _ _ _ _
        · have e : ((strValues l).toArray.any fun y => match y with | .str z _ => z == x | _ => false) = decide (x ∈ xs) := by
            subst hx
            clear hl ra ha q k
            induction l with
            | nil => simp [strValues]
            | cons p l ih =>
              simp only [strValues, List.map_cons, List.any_toArray, List.any_cons, List.mem_cons] at ih ⊢
              rw [ih]
              by_cases h1 : p.1 = x
              · simp [h1]
              · have : ¬ x = p.1 := fun h => h1 h.symm
                simp [h1, this]
          rw [e]
          exact q _ _ g _ k (.bool _) (.refl st)
end
end Lw
end
noncomputable section
namespace Lw

/-! lists that a frame owns -/
section
variable {C : Cx} {env : Env} {ws : Str → Bool} {hin gin : View} {ρ : Loc} {g g' : View} {s s' : Shared}

theorem Frm.own_at (F : Frm C env ws hin gin ρ g s) {x : Str} {M : Addr} {xs : List PyData} (hx : ρ x = some (.own M xs)) :
    Holds env s.heap x (.ref M) ∧ ∃ vs k, s.heap.get? M = some (LO vs k) ∧ RelAll g vs.toList xs := by
  obtain ⟨v, hv, rfl, vs, k, ho, r⟩ := F.vis.rd x _ hx
  exact ⟨hv, vs, k, ho, r⟩
theorem Frm.own_ne (F : Frm C env ws hin gin ρ g s) {x : Str} {M : Addr} {xs : List PyData} (hx : ρ x = some (.own M xs)) :
    M ≠ env.locals ∧ ∀ y c, env.cells.lookup y = some c → M ≠ c := by
  obtain ⟨_, vs, k, ho, _⟩ := F.own_at hx
  refine ⟨fun q => ?_, fun y c e q => ?_⟩
  · obtain ⟨m, h⟩ := F.ns
    obtain ⟨o, es, ep, hL, hd⟩ := Heap.Ns.at h
    rw [← q, ho] at hL; cases hL; cases hd
  · obtain ⟨u, o, hc, hd⟩ := F.vis.lv y c e
    rw [← q, ho] at hc; cases hc; cases hd

theorem Frm.growOwn (F : Frm C env ws hin gin ρ g s) {x : Str} {M : Addr} {xs ys : List PyData} {vs : Array Value} {k : Nat} (hx : ρ x = some (.own M xs)) (G : GrowBut C [M] g s g' s')
    (hM : s'.heap.get? M = some (LO vs k)) (r : RelAll g' vs.toList ys) : Frm C env ws hin gin (ρ.upd x (.own M ys)) g' s' := by
  obtain ⟨n1, n2⟩ := F.own_ne hx
  have l := G.le F.vis.st
  have hholds : ∀ y v, Holds env s.heap y v → Holds env s'.heap y v := fun y v h => by
    rcases h with ⟨a, m, hn, hm⟩ | ⟨a, c, hc, o, ho, hd⟩
    · obtain ⟨o, es, ep, ho, rr⟩ := hn
      exact .inl ⟨a, m, ⟨o, es, ep, G.ext _ o (fun q => n1 (by simp at q; exact q.symm)) ho, rr⟩, hm⟩
    · exact .inr ⟨a, c, hc, o, G.ext _ o (fun q => n2 y c hc (by simp at q; exact q.symm)) ho, hd⟩
  refine ⟨⟨G.st, F.vis.kind, F.vis.glob, F.vis.blt, fun y sl e => ?_, fun y c e => ?_⟩, fun a o e => G.ext a o (fun q => ?_) (F.keep a o e), fun a o e => (G.old a o (F.keep a o e)).trans (F.frz a o e), ?_, ⟨F.nsp.1, ?_⟩,
    fun y c w e => ⟨(F.cell y c w e).1, ?_⟩, F.cinj, fun y N ds e => ?_, fun y z N ds es e1 e2 => ?_⟩
  · by_cases q : y = x
    · subst q; rw [Loc.upd_self] at e; cases e
      exact ⟨.ref M, hholds _ _ (F.own_at hx).1, rfl, vs, k, hM, r⟩
    · rw [Loc.upd_ne _ _ q] at e
      obtain ⟨v, hv, rv⟩ := F.vis.rd y sl e
      refine ⟨v, hholds _ _ hv, ?_⟩
      cases sl with
      | dat d => exact Rel.mono l rv
      | own N ds =>
        obtain ⟨e1, us, j, ho, rr⟩ := rv
        exact ⟨e1, us, j, G.ext _ _ (fun p => q (by simp at p; subst p; exact F.oinj y x N ds xs e hx)) ho, rr.mono l⟩
  · obtain ⟨v, o, ho, hd⟩ := F.vis.lv y c e
    exact ⟨v, o, G.ext _ o (fun q => n2 y c e (by simp at q; exact q.symm)) ho, hd⟩
  · simp only [List.mem_singleton] at q
    rw [q, (F.own x M xs hx).1] at e; cases e
  · obtain ⟨m, o, es, ep, ho, rr⟩ := F.ns
    exact ⟨m, o, es, ep, G.ext _ o (fun q => n1 (by simp at q; exact q.symm)) ho, rr⟩
  · obtain ⟨m, h'⟩ := F.ns
    obtain ⟨o, _, _, ho, _⟩ := Heap.Ns.at h'
    rw [G.old _ _ ho]; exact F.nsp.2
  · obtain ⟨v, o, ho, _⟩ := F.vis.lv y c e
    rw [G.old _ _ ho]; exact (F.cell y c w e).2
  · by_cases q : y = x
    · subst q; rw [Loc.upd_self] at e; cases e
      obtain ⟨_, us, j, ho, _⟩ := F.own_at hx
      exact ⟨(F.own y M xs hx).1, (G.old _ _ ho).trans (F.own y M xs hx).2⟩
    · rw [Loc.upd_ne _ _ q] at e
      obtain ⟨_, us, j, ho, _⟩ := F.own_at e
      exact ⟨(F.own y N ds e).1, (G.old _ _ ho).trans (F.own y N ds e).2⟩
  · by_cases q : y = x
    · subst q; rw [Loc.upd_self] at e1; cases e1
      by_cases q2 : z = y
      · exact q2.symm
      · rw [Loc.upd_ne _ _ q2] at e2; exact F.oinj _ _ _ _ _ hx e2
    · rw [Loc.upd_ne _ _ q] at e1
      by_cases q2 : z = x
      · subst q2; rw [Loc.upd_self] at e2; cases e2; exact F.oinj _ _ _ _ _ e1 hx
      · rw [Loc.upd_ne _ _ q2] at e2; exact F.oinj _ _ _ _ _ e1 e2

/-- an owned list turns into a datum -/
theorem Frm.freeze (F : Frm C env ws hin gin ρ g s) {x : Str} {M : Addr} {xs : List PyData} (hx : ρ x = some (.own M xs)) :
    ∃ g', Le g g' ∧ Frm C env ws hin gin (ρ.upd x (.dat (.list xs))) g' s := by
  obtain ⟨n1, n2⟩ := F.own_ne hx
  obtain ⟨hh, vs, k, ho, r⟩ := F.own_at hx
  obtain ⟨o1, o2⟩ := F.own x M xs hx
  have l : Le g (g.set M (LO vs k)) := Le.set o2
  refine ⟨g.set M (LO vs k), l, ⟨⟨⟨fun a o e => l a o (F.vis.st.base a o e), fun a o e => ?_, F.vis.st.gens, F.vis.st.os⟩, F.vis.kind, F.vis.glob, F.vis.blt, fun y sl e => ?_, F.vis.lv⟩, F.keep, fun a o e => ?_, F.ns, ⟨F.nsp.1, ?_⟩,
    fun y c w e => ⟨(F.cell y c w e).1, ?_⟩, F.cinj, fun y N ds e => ?_, fun y z N ds es e1 e2 => ?_⟩⟩
  · by_cases q : a = M
    · subst q; rw [View.set_self] at e; cases e; exact ho
    · rw [View.set_ne _ _ q] at e; exact F.vis.st.sub a o e
  · by_cases q : y = x
    · subst q; rw [Loc.upd_self] at e; cases e
      exact ⟨.ref M, hh, .list (View.set_self ..) (r.mono l)⟩
    · rw [Loc.upd_ne _ _ q] at e
      obtain ⟨v, hv, rv⟩ := F.vis.rd y sl e
      exact ⟨v, hv, rv.grow l fun _ _ e => e⟩
  · rw [View.set_ne _ _ (fun q => by rw [q, o1] at e; cases e)]; exact F.frz a o e
  · rw [View.set_ne _ _ (Ne.symm n1)]; exact F.nsp.2
  · rw [View.set_ne _ _ (Ne.symm (n2 y c e))]; exact (F.cell y c w e).2
  · by_cases q : y = x
    · subst q; rw [Loc.upd_self] at e; cases e
    · rw [Loc.upd_ne _ _ q] at e
      have : N ≠ M := fun p => q (by subst p; exact F.oinj _ _ _ _ _ e hx)
      rw [View.set_ne _ _ this]; exact F.own y N ds e
  · by_cases q : y = x
    · subst q; rw [Loc.upd_self] at e1; cases e1
    · rw [Loc.upd_ne _ _ q] at e1
      by_cases q2 : z = x
      · subst q2; rw [Loc.upd_self] at e2; cases e2
      · rw [Loc.upd_ne _ _ q2] at e2; exact F.oinj _ _ _ _ _ e1 e2
end

section
variable {C : Cx} {n : Nat} {env : Env} {ρ : Loc} {K : Fl → Loc → Prop} {pos : Pos}
theorem Exs.freeze {st : List Stmt} (x : Str) {M : Addr} {xs : List PyData} (hx : ρ x = some (.own M xs)) (h : Exs C n env (ρ.upd x (.dat (.list xs))) st K) : Exs C n env ρ st K :=
  fun A hin gin g s Q E r F q => by
    obtain ⟨g', l, F'⟩ := F.freeze hx
    exact h A hin gin g' s Q E r F' fun f fv ρ' g2 s2 k rf l2 F2 => q f fv ρ' g2 s2 k rf (l.trans l2) F2
theorem Exs.ext {st : List Stmt} {ρ' : Loc} (he : ρ = ρ') (h : Exs C n env ρ' st K) : Exs C n env ρ st K := he ▸ h
theorem Exs.mono {st : List Stmt} {K' : Fl → Loc → Prop} (h : Exs C n env ρ st K) (k : ∀ f ρ', K f ρ' → K' f ρ') : Exs C n env ρ st K' :=
  fun A hin gin g s Q E r F q => h A hin gin g s Q E r F fun f fv ρ' g' s' hk rf l F' => q f fv ρ' g' s' (k f ρ' hk) rf l F'
theorem Ex.mono {st : Stmt} {K' : Fl → Loc → Prop} (h : Ex C n env ρ st K) (k : ∀ f ρ', K f ρ' → K' f ρ') : Ex C n env ρ st K' :=
  fun A hin gin g s Q E r F q => h A hin gin g s Q E r F fun f fv ρ' g' s' hk rf l F' => q f fv ρ' g' s' (k f ρ' hk) rf l F'

/-- a name gets a new list of its own -/
theorem Ex.ownNew {x : Str} {px p : Pos} (h : ∀ M, K .next (ρ.upd x (.own M [])))
    (hs : swapsWith (.List [] p) (some (.Name x px)) pos.line env = pure false := by rfl) (hx : storable env allW x = true := by rfl) : Ex C n env ρ (.Assign [.Name x px] (.List [] p) pos) K :=
  fun A hin gin g s Q E r F q => wpAny_Assign_Name (wpAny_List (wpAny_items_nil ⟨Nat.zero_le _, by
    have hn : s.heap.get? s.heap.objs.size = Option.none := none_at_size _
    have F' := F.grow (Grow.pushed F.vis.st (LO ([] : List Value).toArray 0))
    refine F'.store (sl := .own s.heap.objs.size []) ⟨rfl, #[], 0, Heap.get?_push_size _ rfl, .nil⟩ (fun M ds e => ?_) (fun h' t F2 => q .next .next _ g _ (h _) trivial (.refl g) F2) hx
    cases e
    refine ⟨?_, F.vis.st.none_of hn, fun y es hy e => ?_⟩
    · cases q : hin s.heap.objs.size with
      | none => rfl
      | some o => have := F.keep _ o q; rw [hn] at this; cases this
    · obtain ⟨_, us, j, ho, _⟩ := F.own_at e
      rw [hn] at ho; cases ho⟩)) hs
end

/-! an expression that may turn owned lists -/
noncomputable def Evx (C : Cx) (n : Nat) (env : Env) (ρ : Loc) (e : PySem.Expr) (K : PyData → Loc → Prop) : Prop :=
  ∀ (A : Around) (hin gin g : View) (s : Shared) (Q E : Value → Shared → Prop), Room n A → Frm C env allW hin gin ρ g s →
    (∀ d v ρ' g' s', K d ρ' → Rel g' v d → Le g g' → Frm C env allW hin gin ρ' g' s' → Q v s') → wpAny C.M A (eval e env) Q E s
/-- a call that turns its first argument, a list -/
noncomputable def Mut (C : Cx) (n : Nat) (t : List Value → Sem Value) (xs ds : List PyData) (K : PyData → List PyData → Prop) : Prop :=
  ∀ (A : Around) (g : View) (s : Shared) (Q E : Value → Shared → Prop) (M : Addr) (us : Array Value) (k : Nat) (vs : List Value), Room n A → St C g s → s.heap.get? M = some (LO us k) → g M = none → RelAll g us.toList xs → RelAll g vs ds →
    (∀ d v ys g' s' us' k', K d ys → Rel g' v d → GrowBut C [M] g s g' s' → s'.heap.get? M = some (LO us' k') → RelAll g' us'.toList ys → Q v s') → wpAny C.M A (t (.ref M :: vs)) Q E s

section
variable {C : Cx} {n : Nat} {env : Env} {ρ : Loc} {pos : Pos}
theorem Mut.mono {t : List Value → Sem Value} {xs ds : List PyData} {K K' : PyData → List PyData → Prop} (h : Mut C n t xs ds K) (k : ∀ d ys, K d ys → K' d ys) : Mut C n t xs ds K' :=
  fun A g s Q E M us j vs r st hM gM ru rv q => h A g s Q E M us j vs r st hM gM ru rv fun d v ys g' s' us' k' hk => q d v ys g' s' us' k' (k d ys hk)
theorem Evx.of {e : PySem.Expr} {K : PyData → Loc → Prop} (h : Ev C n env ρ e fun d => K d ρ) : Evx C n env ρ e K :=
  fun A hin gin g s Q E r F q => h A g s Q E r F.vis fun d v g' s' k rd G => q d v ρ g' s' k rd (G.le F.vis.st) (F.grow G)

theorem mut_append {xs : List PyData} {y : PyData} {K : PyData → List PyData → Prop} (k : K .none (xs ++ [y])) (hsz : xs.length ≤ sizeLine) : Mut C n (fun vs => call (.builtin "list.append") vs) xs [y] K := by
  intro A g s Q E M us j vs r st hM gM ru rv q
  obtain ⟨v, hv, _⟩ := id rv.one
  subst hv
  have l1 := ru.length
  simp only [Array.length_toList] at l1
  refine wpAny_list_append_plain (hsz := by rw [l1]; exact hsz) ⟨j, hM⟩ fun h' hl hs => ?_
  obtain ⟨j', hM'⟩ := hl
  exact q .none .none _ g _ _ j' k .none (GrowBut.ofExt (t := s.toks) st gM hs.extBut) hM' (by rw [Array.toList_push]; exact ru.append rv)

theorem mut_pop {xs : List PyData} {y : PyData} {K : PyData → List PyData → Prop} (k : K y xs) (hsz : xs.length < sizeLine) : Mut C n (fun vs => call (.builtin "list.pop") vs) (xs ++ [y]) [] K := by
  intro A g s Q E M us j vs r st hM gM ru rv q
  cases rv
  have l1 := ru.length
  simp only [Array.length_toList, List.length_append, List.length_singleton] at l1
  obtain ⟨v, hv, rv⟩ := ru.get' (i := xs.length) (d := y) (by simp)
  have hi : us.size - 1 = xs.length := by omega
  refine call_meets F.slot_list_pop ⟨_, hM, rfl⟩ F.entry_list_pop (F.args_list_pop_1 _) (MeetsSeq.list_pop_last M us j v (by rw [hi]; simpa using hv) (by omega)) ⟨hM, ?_⟩
  have e1 : ∃ j', (s.heap.update M (Obj.mapSeq fun xs => xs.eraseIdxIfInBounds (us.size - 1))).get? M = some (LO (us.eraseIdxIfInBounds (us.size - 1)) j') := by
    exact ⟨_, (Heap.get?_update_self _ hM rfl).trans rfl⟩
  obtain ⟨j', hM'⟩ := e1
  have el : (us.eraseIdxIfInBounds (us.size - 1)).toList = us.toList.take xs.length := by
    have hlt : us.size - 1 < us.size := by omega
    rw [Array.eraseIdxIfInBounds, dif_pos hlt, Array.toList_eraseIdx, hi]
    rw [List.eraseIdx_eq_take_drop_succ, List.drop_of_length_le (by simp; omega), List.append_nil]
  refine q y v xs g _ _ j' k rv (GrowBut.ofExt (t := s.toks) st gM (Heap.SameBut.update ..).extBut) hM' ?_
  rw [el]
  have := ru.take xs.length
  simpa using this

/-- a method of an owned list -/
theorem Evx.meth {x name : Str} {px apos : Pos} {args : List PySem.Expr} {id : String} {M : Addr} {xs : List PyData} {K : PyData → Loc → Prop} (slot : Slot "list" name id) (ty : typeOf (.builtin id) = pure (.type "method_descriptor"))
    (hx : ρ x = some (.own M xs)) (h : Evs C n env ρ args fun ds => Mut C n (fun vs => PySem.call (.builtin id) vs) xs ds fun d ys => K d (ρ.upd x (.own M ys)))
    (hp : args.all plainElt = true := by rfl) (hbase : attributeBase (.Name x px) name env (eval (.Name x px) env) = eval (.Name x px) env := by rfl)
    (hfew : ((backTo pos (starEach args env)).all (fun x => !x.1) && (backToKw pos (keywordEach [] env)).all (fun x => x.1.isSome)
      && decide (args.length + ([] : List Keyword).length + (if ([] : List Keyword).isEmpty then 0 else 1) < 30)) = true := by rfl)
    (hline : (apos.endLine == pos.line) = true := by rfl) (hdb : (x == ("__debug__" : Str)) = false := by decide) : Evx C n env ρ (.Call (.Attribute (.Name x px) name apos) args [] pos) K :=
  fun A hin gin g s Q E r F q => by
    obtain ⟨hh, vs, k, ho, rr⟩ := F.own_at hx
    refine wpAny_Call_method hbase hfew hline PySem.F.plainAttrs_list slot ty (wpAny_Name (hh.load F.vis.kind ?_) hdb)
    refine ⟨⟨_, ho, rfl⟩, (fun a e => by cases e; exact ⟨_, ho, rfl⟩), callWith_blt rfl (backTo_plain hp) (evalArgs_run hp h r F.vis fun ds us g' s' hk ru G => ?_)⟩
    have F' := F.grow G
    have ho' := G.ext _ _ ho
    refine hk A g' s' Q E M vs k us r G.st ho' (F'.own x M xs hx).2 (rr.mono (G.le F.vis.st)) ru fun d v ys g2 s2 us' k' hk2 rd G2 hM ry => ?_
    exact q d v _ g2 s2 hk2 rd ((G.le F.vis.st).trans (G2.le G.st)) (F'.growOwn hx G2 hM ry)

theorem Evs.runOwn {x : Str} {px : Pos} {es : List PySem.Expr} {M : Addr} {xs : List PyData} {K : List PyData → Prop} {A : Around} {g : View} {s : Shared} {Q : List Value → Shared → Prop} {E : Value → Shared → Prop} (hx : ρ x = some (.own M xs)) (hp : es.all plainElt = true) (h : Evs C n env ρ es K) (r : Room n A) (V : Vis C env ρ g s)
    (q : ∀ ds vs g' s', K ds → RelAll g' vs ds → Grow C g s g' s' → Q (.ref M :: vs) s') (hdb : (x == ("__debug__" : Str)) = false) : wpAny C.M A (spliced (backTo pos (starEach (.Name x px :: es) env))) Q E s := by
  refine wpAny_items_cons ?_ (starEach_plain rfl)
  obtain ⟨u, hu, rfl, _⟩ := V.rd x _ hx
  exact wpAny_Name (hu.load V.kind (Evs.run es _ A g s _ E hp h r V q)) hdb

/-- a def that turns its first argument, called by its name -/
theorem Evx.mut {f x : Str} {a : Addr} {args : List PySem.Expr} {px pf : Pos} {m : Nat} {oc : Value} {od : Option Addr} {osl : Array (Option Value)} {fd : FuncData} {M : Addr} {xs : List PyData} {K : PyData → Loc → Prop}
    (ha : nsIn (pre.heap_1 C.w.params) mainGlobals f = some (some (.ref a))) (ho : (pre.heap_1 C.w.params).lookup a = some ⟨oc, od, .func fd, osl⟩) (hm : m ≤ n) (hx : ρ x = some (.own M xs))
    (h : Evs C n env ρ args fun ds => Mut C m (fun vs => PySem.call (.ref a) vs) xs ds fun d ys => K d (ρ.upd x (.own M ys)))
    (hx2 : env.kindOf f = some .globalImplicit := by rfl) (hp : args.all plainElt = true := by rfl) (hdb : (f == ("__debug__" : Str)) = false := by decide) (hdb2 : (x == ("__debug__" : Str)) = false := by decide) :
    Evx C n env ρ (.Call (.Name f pf) (.Name x px :: args) [] pos) K :=
  fun A hin gin g s Q E rm F q => by
    show wpAny C.M A (do callWith pos (← eval (.Name f pf) env) [] (backTo pos (starEach (.Name x px :: args) env)) []) Q E s
    have st := F.vis.st
    obtain ⟨hh, us, k, hM, rr⟩ := F.own_at hx
    refine wpAny_bind (Calls.Name_function_global F.vis.kind hx2 (Calls.loadGlobal_global (by rw [F.vis.glob]; exact C.T.g.keeps st.keep) (mg_of C.X C.T.g ha) ?_) hdb)
    refine Calls.callWith_function (fd := fd) (o := ⟨oc, od, .func fd, osl⟩) ?_
    have run := Evs.runOwn (pos := pos) (px := px) (A := A) (E := E) (s := s) hx hp h rm F.vis (Q := fun vs s' => (s'.heap.get? a = some ⟨oc, od, .func fd, osl⟩ ∧ True) ∧ wpAny C.M A (PySem.call (.ref a) vs) Q E s')
      (fun ds vs g' s' hk r G => ⟨⟨C.X.keeps G.st.keep _ _ ho, trivial⟩, by
        have F' := F.grow G
        refine hk A g' s' Q E M us k vs (rm.le hm) G.st (G.ext _ _ hM) (F'.own x M xs hx).2 (rr.mono (G.le st)) r fun d v ys g2 s2 us' k' hk2 rd G2 hM2 ry => ?_
        exact q d v _ g2 s2 hk2 rd ((G.le st).trans (G2.le G.st)) (F'.growOwn hx G2 hM2 ry)⟩) hdb2
    rw [starEach_plain rfl] at run ⊢
    exact Calls.evalArgs_plain (wpAny_mono run (fun vs s' h' => ⟨⟨h'.1.1, rfl⟩, h'.2⟩) fun _ _ e => e)

theorem Ex.expr {e : PySem.Expr} {K : Fl → Loc → Prop} (h : Evx C n env ρ e fun d ρ' => K .next ρ')
    (hi : interactive env = false := by rfl) (hs : swapsWith e Option.none pos.line env = pure false := by rfl) : Ex C n env ρ (.Expr e pos) K :=
  fun A hin gin g s Q E r F q => wpAny_Expr_any (h A hin gin g s _ E r F fun d v ρ' g' s' k rd l F' => q .next .next ρ' g' s' k trivial l F') hi hs
theorem Ex.assignX {x : Str} {e : PySem.Expr} {px : Pos} {K : Fl → Loc → Prop} (h : Evx C n env ρ e fun d ρ' => K .next (ρ'.upd x (.dat d)))
    (hs : swapsWith e (some (.Name x px)) pos.line env = pure false := by rfl) (hx : storable env allW x = true := by rfl) : Ex C n env ρ (.Assign [.Name x px] e pos) K :=
  fun A hin gin g s Q E r F q => wpAny_Assign_Name (h A hin gin g s _ E r F fun d v ρ' g' s' k rd l F' =>
    F'.store (sl := .dat d) rd (fun _ _ e => by cases e) (fun h' t F2 => q .next .next _ g' _ k trivial l F2) hx) hs
theorem Ex.assignTup {ts : List PySem.Expr} {e : PySem.Expr} {k : Nat} {px : Pos} {K : Fl → Loc → Prop} (h : Evx C n env ρ e fun d ρ' => Asg C n env allW ρ' (.Tuple ts k px) d fun ρ'' => K .next ρ'')
    (hs : swapsWithSole [.Tuple ts k px] e pos.line env = pure false := by rfl) (hw : swappedStores [.Tuple ts k px] e env = pure Option.none := by rfl) : Ex C n env ρ (.Assign [.Tuple ts k px] e pos) K :=
  fun A hin gin g s Q E r F q => Assign_Tuple (h A hin gin g s _ E r F fun d v ρ' g' s' k rd l F' =>
    k A hin gin g' s' _ E v r F' rd fun ρ2 g2 s2 k2 l2 F2 => q .next .next ρ2 g2 s2 k2 trivial (l.trans l2) F2) hs hw

/-- two names, from two expressions, stored the other way round -/
theorem Ex.swap2 {x y : Str} {e : PySem.Expr} {k : Nat} {p1 p2 px : Pos} {K : Fl → Loc → Prop}
    (h : Ev C n env ρ e fun d => ∃ a b, d = .tuple [a, b] ∧ K .next ((ρ.upd y (.dat b)).upd x (.dat a)))
    (hs : swapsWithSole [.Tuple [.Name x p1, .Name y p2] k px] e pos.line env = pure false := by rfl) (hw : swappedStores [.Tuple [.Name x p1, .Name y p2] k px] e env = pure (some [x, y]) := by rfl)
    (hx : storable env allW x = true := by rfl) (hy : storable env allW y = true := by rfl) : Ex C n env ρ (.Assign [.Tuple [.Name x p1, .Name y p2] k px] e pos) K :=
  fun A hin gin g s Q E r F q => Assign_Tuple_swapped (names := [x, y]) (h A g s _ E r F.vis fun d v g' s' ⟨a, b, hd, hk⟩ rd G => by
    subst hd
    refine unpackItems_rel (ds := [a, b]) r.hnd G.st rd (.inr rfl) fun vs s2 rr G2 => ?_
    obtain ⟨u, w, rfl, r1, r2⟩ := rr.two
    show wpAny C.M A (do holding [u] (bindName env y w); assignInOrder [fun v => bindName env x v] [u]) _ E s2
    refine wpAny_bind (wpAny_holding (wpAny_bindName ((F.grow (G.trans G2)).store (sl := .dat b) r2 (fun _ _ e => by cases e) (fun h' t F2 => ?_) hy)))
    show wpAny C.M A (do holding [] (bindName env x u); assignInOrder [] []) _ E _
    refine wpAny_bind (wpAny_holding (wpAny_bindName (F2.store (sl := .dat a) r1 (fun _ _ e => by cases e) (fun h' t F3 => ?_) hx)))
    exact wpAny_pure (q .next .next _ g' _ hk trivial ((G.trans G2).le F.vis.st) F3)) hs hw

/-! owned lists, read -/
theorem Ev.ownLen {x : Str} {px pf : Pos} {M : Addr} {xs : List PyData} {K : PyData → Prop} (hmg : nsIn (pre.heap_1 C.w.params) mainGlobals (Str.ofString "len") = some Option.none) (hx : ρ x = some (.own M xs)) (hsz : xs.length ≤ sizeLine) (k : K (.int (xs.length : Nat)))
    (hn : env.kindOf (Str.ofString "len") = some .globalImplicit := by rfl) (hdb : (x == ("__debug__" : Str)) = false := by decide) : Ev C n env ρ (.Call (.Name (Str.ofString "len") pf) [.Name x px] [] pos) K :=
  fun A g s Q E rm vis q => by
    show wpAny C.M A (do callWith pos (← eval (.Name (Str.ofString "len") pf) env) [] (backTo pos (starEach [.Name x px] env)) []) Q E s
    have st := vis.st
    refine wpAny_bind (Calls.Name_function_global vis.kind hn (Calls.loadGlobal_builtin (by rw [vis.glob]; exact C.T.g.keeps st.keep) (mg_none_of C.X C.T.g hmg) (by rw [vis.blt]; exact C.T.b.keeps st.keep) ((C.T.builtins _ (by decide)).trans (by rfl : bootBuiltins (Str.ofString "len") = some (.builtin "len"))) ?_) (by decide))
    obtain ⟨u, hu, rfl, us, j, ho, rr⟩ := vis.rd x _ hx
    have l1 := rr.length
    simp only [Array.length_toList] at l1
    rw [sizeLine_eq] at hsz
    refine callWith_blt rfl (backTo_plain rfl) ?_
    rw [starEach_plain rfl]
    refine Calls.evalArgs_plain (wpAny_items_cons (e := .Name x px) (rest := []) (wpAny_Name (hu.load vis.kind (wpAny_items_nil ?_)) hdb) rfl)
    refine Calls.call_len_list (IsL.isList ho) (by rw [l1]; omega) ?_
    rw [l1]
    exact q _ _ g _ k (.int ..) (.tok st _)
theorem Ev.ownItem {x : Str} {px : Pos} {slice : PySem.Expr} {M : Addr} {xs : List PyData} {K : PyData → Prop} (hx : ρ x = some (.own M xs)) (h : Ev C n env ρ slice fun i => ∃ k d, i = .int k ∧ 0 ≤ k ∧ k < 2 ^ 62 ∧ xs[k.toNat]? = some d ∧ K d)
    (hs : ∀ (a : Addr) (k : Int) (u : Tok), subscripted slice false (.ref a) (.int k u) = operate [.ref a, .int k u] (getItem (.ref a) (.int k u)) := by intros; rfl) (hdb : (x == ("__debug__" : Str)) = false := by decide) : Ev C n env ρ (.Subscript (.Name x px) slice pos) K :=
  fun A g s Q E rm vis q => by
    obtain ⟨u, hu, rfl, us, j, ho, rr⟩ := vis.rd x _ hx
    refine Subscript_ (wpAny_Name (hu.load vis.kind ?_) hdb)
    refine h A g s _ E rm vis fun i u g2 s2 ⟨k, d, e2, h0, h1, hd, hk⟩ ri G2 => ?_
    subst e2
    cases ri
    obtain ⟨y, hy, ry⟩ := (rr.mono (G2.le vis.st)).get' hd
    have hl := IsL.isList (G2.ext _ _ ho)
    exact tail_any hl.typeIs slot_list_getitem.lookup (wpAny_getItem_list hl h0 (by omega) (by simpa using hy) (q d y g2 s2 hk ry G2)) (hs _ _ _)
theorem Ev.ownLast {x : Str} {px : Pos} {slice : PySem.Expr} {M : Addr} {xs : List PyData} {d : PyData} {K : PyData → Prop} (hx : ρ x = some (.own M (xs ++ [d]))) (hsz : xs.length ≤ sizeLine) (h : Ev C n env ρ slice fun i => i = .int (-1) ∧ K d)
    (hs : ∀ (a : Addr) (k : Int) (u : Tok), subscripted slice false (.ref a) (.int k u) = operate [.ref a, .int k u] (getItem (.ref a) (.int k u)) := by intros; rfl) (hdb : (x == ("__debug__" : Str)) = false := by decide) : Ev C n env ρ (.Subscript (.Name x px) slice pos) K :=
  fun A g s Q E rm vis q => by
    obtain ⟨u, hu, rfl, us, j, ho, rr⟩ := vis.rd x _ hx
    refine Subscript_ (wpAny_Name (hu.load vis.kind ?_) hdb)
    refine h A g s _ E rm vis fun i u g2 s2 ⟨e2, hk⟩ ri G2 => ?_
    subst e2
    cases ri
    have r2 := rr.mono (G2.le vis.st)
    obtain ⟨y, hy, ry⟩ := r2.get' (i := xs.length) (d := d) (by simp)
    have l1 := rr.length
    simp only [Array.length_toList, List.length_append, List.length_singleton] at l1
    rw [sizeLine_eq] at hsz
    have hl := IsL.isList (G2.ext _ _ ho)
    have hi : ((-1 : Int) + us.size).toNat = xs.length := by omega
    exact tail_any hl.typeIs slot_list_getitem.lookup (wpAny_getItem_list_neg hl (by decide) (by omega) (by decide) (by rw [hi]; simpa using hy) (q d y g2 s2 hk ry G2)) (hs _ _ _)
theorem Tst.own {x : Str} {px : Pos} {M : Addr} {xs : List PyData} {K : Bool → Prop} (hx : ρ x = some (.own M xs)) (hsz : xs.length ≤ sizeLine) (k : K (!xs.isEmpty)) (hdb : (x == ("__debug__" : Str)) = false := by decide) : Tst C n env ρ (.Name x px) K :=
  fun A g s Q E rm vis q => by
    obtain ⟨u, hu, rfl, us, j, ho, rr⟩ := vis.rd x _ hx
    have l1 := rr.length
    simp only [Array.length_toList] at l1
    rw [sizeLine_eq] at hsz
    refine wpAny_isTrue_value (wpAny_Name (hu.load vis.kind (wpAny_truthy_list (IsL.isList ho) (by rw [l1]; omega) ?_)) hdb) rfl
    have e : us.isEmpty = xs.isEmpty := by
      cases xs <;> simp_all [Array.isEmpty]
    rw [e]
    exact q _ g _ k (.tok vis.st _)
theorem Tst.ownNe {x : Str} {px p : Pos} {M : Addr} {xs : List PyData} {K : Bool → Prop} (hx : ρ x = some (.own M xs)) (k : K (!xs.isEmpty)) (hdb : (x == ("__debug__" : Str)) = false := by decide) : Tst C n env ρ (.Compare (.Name x px) [.NotEq] [.List [] p] pos) K :=
  fun A g s Q E rm vis q => by
    obtain ⟨u, hu, rfl, us, j, ho, rr⟩ := vis.rd x _ hx
    have l1 := rr.length
    simp only [Array.length_toList] at l1
    refine wpAny_isTrue_Compare1 (wpAny_Name (hu.load vis.kind (wpAny_List (wpAny_items_nil ⟨Nat.zero_le _, ?_⟩))) hdb)
    have G := Grow.pushed vis.st (LO ([] : List Value).toArray 0)
    have ho2 := G.ext _ _ ho
    have hz : ({ s with heap := s.heap.push (LO ([] : List Value).toArray 0) } : Shared).heap.get? s.heap.objs.size = some (LO #[] 0) := Heap.get?_push_size _ rfl
    have key : SeqAt.RcNeAt A { s with heap := s.heap.push (LO ([] : List Value).toArray 0) } (.ref M) (.ref s.heap.objs.size) (!xs.isEmpty) := by
      cases xs with
      | nil =>
        have l2 : us.size = 0 := l1
        have := SeqAt.RcNeAt.lists (A := A) (e := fun _ => true) (IsL.isList ho2) (IsL.isList hz) (by rw [l2]; rfl) rm.u (fun j h1 h2 => by omega)
        rw [l2] at this; exact this
      | cons a b =>
        simp only [List.length_cons] at l1
        exact SeqAt.RcNeAt.lists_lengths (IsL.isList ho2) (IsL.isList hz) (by rw [l1]; rfl) rm.u
    exact key C.prog C.w E _ (wpAny_truthy_bool (q _ g _ k G))

/-! while -/
theorem Ex.while {test : PySem.Expr} {body : List Stmt} {K : Fl → Loc → Prop} (I : Nat → Loc → Prop)
    (turn : ∀ m ρ, I m ρ → Tst C n env ρ test fun b => if b then Exs C n env ρ body fun f ρ' => (match f with
      | .next | .cont => ∃ m', m' < m ∧ I m' ρ'
      | .brk => K .next ρ'
      | .ret d => K (.ret d) ρ') else K .next ρ) (m : Nat) (h : I m ρ) : Ex C n env ρ (.While test body [] pos) K := by
  intro A hin gin g s Q E r F q
  refine wpAny_While (codeAny_whileLoop (fun m s' => ∃ ρ' g', I m ρ' ∧ Le g g' ∧ Frm C env allW hin gin ρ' g' s') (fun m s' ⟨ρ', g', hI, hle, F'⟩ => ?_) m ⟨ρ, g, h, .refl g, F⟩)
  refine turn m ρ' hI A g' s' _ _ r F'.vis fun b g2 s2 hb G => ?_
  have F2 := F'.grow G
  have l2 := hle.trans (G.le F'.vis.st)
  cases b with
  | false => exact wpAny_execs_nil (q .next .next ρ' g2 s2 hb trivial l2 F2)
  | true =>
    refine hb A hin gin g2 s2 _ _ r F2 fun f fv ρ3 g3 s3 h3 rf l3 F3 => ?_
    cases f <;> cases fv <;> first | exact rf.elim | skip
    · obtain ⟨m', hm, hI'⟩ := h3
      exact ⟨m', hm, ρ3, g3, hI', l2.trans l3, F3⟩
    · exact q .next .next ρ3 g3 s3 h3 trivial (l2.trans l3) F3
    · obtain ⟨m', hm, hI'⟩ := h3
      exact ⟨m', hm, ρ3, g3, hI', l2.trans l3, F3⟩
    · exact q (.ret _) (.ret _) ρ3 g3 s3 h3 rf (l2.trans l3) F3
end
end Lw
end
noncomputable section
namespace Lw

section
variable {prog : Program} {w : World} {A : Around} {E : Value → Shared → Prop} {s : Shared}
theorem setItem_lo {l : Addr} {items : Array Value} {j : Nat} {k : Int} {t : Tok} {v : Value} {Q : Unit → Shared → Prop} (ho : s.heap.get? l = some (LO items j))
    (h0 : 0 ≤ k) (hfit : k < 2 ^ 63) (hn : k < items.size)
    (hQ : ∀ h' j', h'.get? l = some (LO (items.setIfInBounds k.toNat v) j') → Heap.SameBut l s.heap h' → Q () { s with heap := h' }) :
    wpAny (model prog w) A (setItem (.ref l) (.int k t) v) Q E s := by
  have hl : s.heap.IsList l items := IsL.isList ho
  unfold setItem
  try with_reducible refine wpAny_holding ?_
  first | refine wpAny_bind (wpAny_pure ?_) | skip
  refine wpAny_bind (wpAny_sequenceKey hl.typeIs (by decide) ?_)
  refine wpAny_bind (wpAny_callSpecial?_slot (name := Str.ofString "__setitem__") hl.typeIs slot_list_setitem (wpAny_call_entry slot_list_setitem hl.typeIs entry_list_setitem ?_ (args_list_setitem _ _ _)))
  show wpAny _ _ (Builtin.List.listSubscript? (.int k t) >>= _) _ _ s
  refine wpAny_bind (wpAny_listSubscript_int (fitsIndex_of h0 hfit) ?_)
  clear hfit
  obtain ⟨i, rfl⟩ := Int.eq_ofNat_of_zero_le h0
  have hi : i < items.size := by omega
  have hx' : items[i]? = some items[i] := Array.getElem?_eq_getElem hi
  show wpAny _ _ ((seqItemAt l i >>= fun r => pure (r.map (i, ·))) >>= _) _ _ s
  refine wpAny_bind (wpAny_bind (wpAny_seqItemAt ho rfl (wpAny_pure ?_)))
  rw [hx']
  show wpAny _ _ (setSeqItemAt l i v >>= _) _ _ s
  have fin := hQ _ _ ((Heap.get?_update_self (Obj.mapSeq (·.setIfInBounds i v)) ho rfl).trans rfl) (Heap.SameBut.update ..)
  refine wpAny_bind (wpAny_setSeqItemAt ho rfl ?_)
  first
    | exact wpAny_bind (wpAny_pure (wpAny_pure ⟨.none, rfl, wpAny_pure fin⟩))
    | exact wpAny_pure ⟨.none, rfl, wpAny_pure fin⟩
end

section
variable {C : Cx} {n : Nat} {env : Env} {ρ : Loc} {pos : Pos}

theorem RelAll.set {g : View} : ∀ {vs : List Value} {ds : List PyData} (i : Nat) {v : Value} {d : PyData}, RelAll g vs ds → Rel g v d → RelAll g (vs.set i v) (ds.set i d)
  | _, _, _, _, _, .nil, _ => by simpa using RelAll.nil
  | _, _, 0, _, _, .cons _ r, h => .cons h r
  | _, _, i + 1, _, _, .cons h0 r, h => .cons h0 (RelAll.set i r h)

/-- an item of an owned list is set -/
theorem Ex.ownSet {x : Str} {px ps : Pos} {i e : PySem.Expr} {M : Addr} {xs : List PyData} {K : Fl → Loc → Prop} (hx : ρ x = some (.own M xs)) (hsz : xs.length ≤ sizeLine)
    (h : Ev C n env ρ e fun d => Ev C n env ρ i fun k => ∃ j : Int, k = .int j ∧ 0 ≤ j ∧ j < xs.length ∧ K .next (ρ.upd x (.own M (xs.set j.toNat d))))
    (hs : swapsWith e (some (.Subscript (.Name x px) i ps)) pos.line env = pure false := by rfl) (hdb : (x == ("__debug__" : Str)) = false := by decide) :
    Ex C n env ρ (.Assign [.Subscript (.Name x px) i ps] e pos) K :=
  fun A hin gin g s Q E r F q => wpAny_Assign_Subscript (h A g s _ E r F.vis fun d v g1 s1 hk rd G1 => by
    have F1 := F.grow G1
    obtain ⟨hh, us, c, ho, rr⟩ := F1.own_at hx
    refine wpAny_Name (hh.load F1.vis.kind (hk A g1 s1 _ E r F1.vis fun k u g2 s2 ⟨j, hkj, h0, h1, hK⟩ ri G2 => ?_)) hdb
    subst hkj
    cases ri
    have F2 := F1.grow G2
    have ho2 := G2.ext _ _ ho
    have l1 := rr.length
    simp only [Array.length_toList] at l1
    rw [sizeLine_eq] at hsz
    refine setItem_lo ho2 h0 (by omega) (by omega) fun h' j' hl hsb => ?_
    have gM := (F2.own x M xs hx).2
    have GB : GrowBut C [M] g2 s2 g2 { s2 with heap := h' } := GrowBut.ofExt (t := s2.toks) F2.vis.st gM hsb.extBut
    exact q .next .next _ g2 _ hK trivial ((G1.le F.vis.st).trans (G2.le F1.vis.st)) (F2.growOwn hx GB hl (by
      rw [Array.toList_setIfInBounds]
      exact RelAll.set _ (rr.mono (G2.le F1.vis.st)) (rd.mono (G2.le F1.vis.st))))) hs

/-! a def whose first argument is a list that it turns -/
noncomputable def mutK (x : Str) (M : Addr) (K : PyData → List PyData → Prop) : Fl → Loc → Prop
  | .ret d, ρ => ∃ ys, ρ x = some (.own M ys) ∧ K d ys
  | .next, ρ => ∃ ys, ρ x = some (.own M ys) ∧ K .none ys
  | _, _ => False

theorem Frm.startOwn {g : View} {s s' : Shared} {fd : FuncData} {f M : Addr} {x0 : Str} {names : List Str} {us : Array Value} {j : Nat} {xs : List PyData} {vs : List Value} {ds : List PyData} (st : St C g s)
    (hM : s.heap.get? M = some (LO us j)) (gM : g M = none) (rM : RelAll g us.toList xs) (r : RelAll g vs ds) (hx0 : x0 ∉ names)
    (hk : fd.scope.kind = .function) (hglob : fd.globals = mainGlobals) (hblt : fd.builtins = builtinsNs) (h0 : fd.scope.names.lookup x0 = some .local)
    (hkind : ∀ k, ∀ x ∈ names, fd.scope.names.lookup x = some .local ∨ (fd.scope.names.lookup x = some .cell ∧ ((cellsFrom k fd.scope.names []).lookup x).isSome = true))
    (x : InCallC s (callEnvC fd s.heap.objs.size f).locals (bindL (callEnvC fd s.heap.objs.size f).kindOf ((x0 :: names).zip (.ref M :: vs)) fun _ => none) (callEnvC fd s.heap.objs.size f).cells
        (bindC (callEnvC fd s.heap.objs.size f).kindOf ((x0 :: names).zip (.ref M :: vs)) fun _ => none) s') :
    Frm C (callEnvC fd s.heap.objs.size f) allW (fun a => if a = M then none else s.heap.get? a) g ((bindDat names ds).upd x0 (.own M xs)) g s' := by
  obtain ⟨h', t, hs'⟩ := x.toInCall.same
  have keep := x.toInCall.keep
  have st' : St C g s' := by
    subst hs'
    exact ⟨st.base, fun a o e => keep a o (st.sub a o e), st.gens, st.os⟩
  have Lnone : s.heap.get? s.heap.objs.size = none := none_at_size _
  have hin_none : ∀ a, s.heap.get? a = none → (if a = M then none else s.heap.get? a) = none := fun a e => by
    by_cases q : a = M
    · rw [if_pos q]
    · rw [if_neg q]; exact e
  have lookM : ((x0 :: names).zip (Value.ref M :: vs)).reverse.lookup x0 = some (.ref M) := by
    rw [List.zip_cons_cons, List.reverse_cons, List.lookup_append]
    have : (names.zip vs).reverse.lookup x0 = none := by
      rw [List.lookup_eq_none_iff]
      intro p hp
      rw [List.mem_reverse] at hp
      have := (List.of_mem_zip (show (p.1, p.2) ∈ _ from hp)).1
      have hne : x0 ≠ p.1 := fun e => hx0 (by rw [e]; exact this)
      simp [hne]
    rw [this, Option.none_or]
    simp [List.lookup]
  refine ⟨⟨st', hk, hglob, hblt, fun y sl e => ?_, fun y c e => ⟨_, x.cell y c e⟩⟩, fun a o e => ?_, fun a o e => rfl, ⟨_, x.toInCall.ns⟩, ⟨hin_none _ Lnone, st.none_of Lnone⟩, fun y c _ e => ?_, fun y z c _ e1 e2 => name_of_addr x.apart (PySem.mem_of_lookup e1) (PySem.mem_of_lookup e2), fun y N ds' e => ?_, fun y z N ds' es e1 e2 => ?_⟩
  · by_cases q0 : y = x0
    · subst q0
      rw [Loc.upd_self] at e; cases e
      exact ⟨.ref M, .inl ⟨h0, _, x.toInCall.ns, by rw [bindL_lookup _ _ _ _ h0, lookM]; rfl⟩, rfl, us, j, keep _ _ hM, rM⟩
    rw [Loc.upd_ne _ _ q0] at e
    unfold bindDat at e
    cases q : (names.zip ds).reverse.lookup y with
    | none => rw [q] at e; cases e
    | some d =>
      rw [q] at e; cases e
      obtain ⟨v, hv, rv⟩ := rel_lookup r names q
      have hv' : ((x0 :: names).zip (Value.ref M :: vs)).reverse.lookup y = some v := by
        rw [List.zip_cons_cons, List.reverse_cons, List.lookup_append, hv]; rfl
      refine ⟨v, ?_, rv⟩
      rcases hkind (s.heap.objs.size + 1) y (mem_of_lookup_zip q) with hl | ⟨hl, hc⟩
      · exact .inl ⟨hl, _, x.toInCall.ns, by rw [bindL_lookup _ _ _ _ hl, hv']; rfl⟩
      · obtain ⟨c, hc⟩ := Option.isSome_iff_exists.mp hc
        refine .inr ⟨.inl hl, c, hc, ?_⟩
        have := x.cell y c hc
        rw [bindC_lookup _ _ _ _ (by show fd.scope.names.lookup y ≠ _; rw [hl]; decide), hv'] at this
        exact this
  · split at e
    · cases e
    · exact keep a o e
  · have hlt : s.heap.objs.size < c := x.above y c (PySem.mem_of_lookup e)
    have hn : s.heap.get? c = none := Heap.get?_none_of_le (Nat.le_of_lt hlt)
    exact ⟨hin_none _ hn, st.none_of hn⟩
  · by_cases q0 : y = x0
    · subst q0; rw [Loc.upd_self] at e; cases e
      exact ⟨if_pos rfl, gM⟩
    · rw [Loc.upd_ne _ _ q0] at e
      unfold bindDat at e; cases q : (names.zip ds).reverse.lookup y <;> rw [q] at e <;> cases e
  · by_cases q0 : y = x0
    · by_cases q1 : z = x0
      · rw [q0, q1]
      · rw [Loc.upd_ne _ _ q1] at e2
        unfold bindDat at e2; cases q : (names.zip ds).reverse.lookup z <;> rw [q] at e2 <;> cases e2
    · rw [Loc.upd_ne _ _ q0] at e1
      unfold bindDat at e1; cases q : (names.zip ds).reverse.lookup y <;> rw [q] at e1 <;> cases e1

theorem Mut.of_binds {f : Addr} {oc : Value} {od : Option Addr} {osl : Array (Option Value)} {fd : FuncData} {body : List Stmt} (x0 : Str) (names : List Str) {xs ds : List PyData} {K : PyData → List PyData → Prop}
    (ho : (pre.heap_1 C.w.params).lookup f = some ⟨oc, od, .func fd, osl⟩) (hbody : fd.body = .stmts body)
    (hbind : ∀ vs : List Value, vs.length = names.length + 1 → bindArgs fd ⟨vs, []⟩ = pure ((x0 :: names).zip vs)) (hlen : ds.length = names.length) (hx0 : x0 ∉ names) (h0 : fd.scope.names.lookup x0 = some .local)
    (hkind : ∀ k, ∀ x ∈ names, fd.scope.names.lookup x = some .local ∨ (fd.scope.names.lookup x = some .cell ∧ ((cellsFrom k fd.scope.names []).lookup x).isSome = true))
    (hcode : codeIn (pre.heap_1 C.w.params) fd.code fd.qualname = true)
    (h : ∀ L M, Exs C n (callEnvC fd L f) ((bindDat names ds).upd x0 (.own M xs)) body (mutK x0 M K))
    (hcl : fd.closure = [] := by rfl) (hglob : fd.globals = mainGlobals := by rfl) (hblt : fd.builtins = builtinsNs := by rfl)
    (hco : fd.scope.isCoroutine = false := by rfl) (hgen : fd.scope.isGenerator = false := by rfl) (hk : fd.scope.kind = .function := by rfl) : Mut C (n + 1) (fun vs => PySem.call (.ref f) vs) xs ds K := by
  intro A g s Q E M us j vs r st hM gM rM rel q
  have X := C.X.keeps st.keep
  refine wpAny_call (codeAny_call_function r.d (X _ _ ho) rfl hco hgen hbody (codeRec_of X hcode) ?_)
  rw [hcl, hbind _ (by rw [List.length_cons, rel.length, hlen])]
  refine wpAny_pure (wpAny_newFunctionEnv_cells hk (fun x hx => ?_) fun env he s' x => ?_)
  · obtain ⟨h1, _⟩ := List.of_mem_zip (show (x.1, x.2) ∈ _ from hx)
    rcases List.mem_cons.mp h1 with e | h1
    · rw [e]; exact .inl h0
    · exact hkind _ _ h1
  subst he
  refine ⟨(C.T.nolimit.keeps st.keep).keeps x.toInCall.keep, codeAny_func ?_⟩
  have F := Frm.startOwn (f := f) st hM gM rM rel hx0 hk hglob hblt h0 hkind x
  refine h _ M (A.deeper _) _ _ _ s' _ _ (r.deeper _) F fun fl fv ρ' g' s'' hK rf l F' => ?_
  have G : GrowBut C [M] g s g' s'' := by
    refine ⟨F'.vis.st, fun a o m e => F'.keep a o ?_, fun a o e => ?_⟩
    · show (if a = M then none else s.heap.get? a) = some o
      rw [if_neg (fun q => m (by simp [q]))]; exact e
    · by_cases q : a = M
      · subst q
        cases fl <;> first | exact hK.elim | skip
        all_goals (obtain ⟨ys, hy, _⟩ := hK; rw [(F'.own _ _ _ hy).2, gM])
      · exact F'.frz a o (by show (if a = M then none else s.heap.get? a) = some o; rw [if_neg q]; exact e)
  cases fl <;> cases fv <;> first | exact rf.elim | exact hK.elim | skip
  · obtain ⟨ys, hy, hK⟩ := hK
    obtain ⟨_, us', j', ho', rr'⟩ := F'.own_at hy
    exact q .none .none ys g' s'' us' j' hK .none G ho' rr'
  · obtain ⟨ys, hy, hK⟩ := hK
    obtain ⟨_, us', j', ho', rr'⟩ := F'.own_at hy
    exact q _ _ ys g' s'' us' j' hK rf G ho' rr'

/-! a built-in called by name, its answer no datum -/
theorem callB_raw {f : Str} {v : Value} {args : List PySem.Expr} {pf : Pos} {K : List PyData → Prop} {A : Around} {g : View} {s : Shared} {Q : Value → Shared → Prop} {E : Value → Shared → Prop}
    (hmg : nsIn (pre.heap_1 C.w.params) mainGlobals f = some Option.none) (hv : bootBuiltins f = some v) (hb : isBlt v = true)
    (h : Evs C n env ρ args K) (r : Room n A) (V : Vis C env ρ g s)
    (q : ∀ ds vs g' s', K ds → RelAll g' vs ds → Grow C g s g' s' → wpAny C.M A (PySem.call v vs) Q E s')
    (hn : f ≠ "__name__" := by decide) (hx : env.kindOf f = some .globalImplicit := by rfl) (hp : args.all plainElt = true := by rfl) (hdb : (f == ("__debug__" : Str)) = false := by decide) :
    wpAny C.M A (eval (.Call (.Name f pf) args [] pos) env) Q E s := by
  show wpAny C.M A (do callWith pos (← eval (.Name f pf) env) [] (backTo pos (starEach args env)) []) Q E s
  have st := V.st
  refine wpAny_bind (Calls.Name_function_global V.kind hx (Calls.loadGlobal_builtin (by rw [V.glob]; exact C.T.g.keeps st.keep) (mg_none_of C.X C.T.g hmg) (by rw [V.blt]; exact C.T.b.keeps st.keep) ((C.T.builtins f hn).trans hv) ?_) hdb)
  exact callWith_blt hb (backTo_plain hp) (evalArgs_run hp h r V q)

theorem Src.range {tgt e : PySem.Expr} {pf : Pos} {K : List PyData → Prop} (hmg : nsIn (pre.heap_1 C.w.params) mainGlobals (Str.ofString "range") = some Option.none)
    (h : Ev C n env ρ e fun d => ∃ i : Int, d = .int i ∧ -1000000 < i ∧ i < 1000000 ∧ K (natInts i.toNat)) (ht : plainTgt tgt = true := by rfl)
    (hx : env.kindOf (Str.ofString "range") = some .globalImplicit := by rfl) (hp : plainElt e = true := by rfl) : Src C n env ρ tgt (.Call (.Name (Str.ofString "range") pf) [e] [] pos) K :=
  fun A g s Q E r V q => by
    refine callB_raw (K := fun ds => ∃ i : Int, ds = [.int i] ∧ -1000000 < i ∧ i < 1000000 ∧ K (natInts i.toNat)) hmg (v := .type "range") (by rfl) rfl (h := ?_) r V (fun ds vs g1 s1 ⟨i, hd, h1, h2, hk⟩ rv G => ?_) (hx := hx) (hp := by simp [hp])
    · exact h.mono fun d ⟨i, hd, hr⟩ => ⟨i, by rw [hd], hr⟩
    · subst hd
      obtain ⟨v, rfl, r1⟩ := rv.one
      cases r1 with
      | int _ t =>
        refine call_range_1 ?_
        have st := G.st
        have G2 := (Grow.pushed st { cls := .type "range", data := .fields #[.int 0 s1.toks, .int i t, .int 1 (s1.toks + 1)] }).toks (s1.toks + 1 + 1)
        refine wpAny_pyIter_range (IsRange.new s1.heap 0 i 1 s1.toks t (s1.toks + 1)) (small_one (by decide) (by decide) (by omega) (by omega)) ?_
        have G3 := G2.trans (Grow.pushed G2.st { cls := .type "range_iterator", data := .fields #[rawInt 0, rawInt (Builtin.Range.rangeSize 0 i 1), rawInt 1] })
        have hz : Builtin.Range.rangeSize 0 i 1 = ((i.toNat : Nat) : Int) := by rw [rangeSize_one]; split <;> omega
        have hn : (s1.heap.push { cls := .type "range", data := .fields #[.int 0 s1.toks, .int i t, .int 1 (s1.toks + 1)] }).objs.size = s1.heap.objs.size + 1 := Heap.size_push ..
        refine q (natInts i.toNat) _ [_] _ g1 _ hk (Itr.range r.hnd ht) ⟨?_, ?_⟩ (G.trans G3) fun b hb => ?_
        · show Heap.get? _ _ = _
          rw [hz]
          exact (Heap.get?_push_size _ rfl).trans (by simp [rawInt])
        · exact G2.st.none_of (none_at_size _)
        · simp only [List.mem_singleton] at hb; subst hb
          cases q0 : s.heap.get? (s1.heap.push { cls := .type "range", data := .fields #[.int 0 s1.toks, .int i t, .int 1 (s1.toks + 1)] }).objs.size with
          | none => rfl
          | some o => exact absurd (Heap.lt_size (G2.ext _ o (G.ext _ o q0))) (Nat.lt_irrefl _)

theorem Src.enum {elts : List PySem.Expr} {kk : Nat} {pt pf : Pos} {e : PySem.Expr} {K : List PyData → Prop} (hmg : nsIn (pre.heap_1 C.w.params) mainGlobals (Str.ofString "enumerate") = some Option.none)
    (h : Ev C n env ρ e fun d => ∃ ds, d = .list ds ∧ K (enumData 0 ds))
    (hx : env.kindOf (Str.ofString "enumerate") = some .globalImplicit := by rfl) (hp : plainElt e = true := by rfl) : Src C n env ρ (.Tuple elts kk pt) (.Call (.Name (Str.ofString "enumerate") pf) [e] [] pos) K :=
  fun A g s Q E r V q => by
    refine callB_raw (K := fun ds' => ∃ ds, ds' = [.list ds] ∧ K (enumData 0 ds)) hmg (v := .type "enumerate") (by rfl) rfl (h := ?_) r V (fun ds' vs g1 s1 ⟨ds, hd, hk⟩ rv G => ?_) (hx := hx) (hp := by simp [hp])
    · exact h.mono fun d ⟨ds, hd, hr⟩ => ⟨ds, by rw [hd], hr⟩
    · subst hd
      obtain ⟨v, rfl, r1⟩ := rv.one
      cases r1 with
      | @list l us m _ hl rr =>
        have st := G.st
        refine call_enumerate_1 (st.sub _ _ hl) fun h' he hi hz hk' => ?_
        have n0 : s1.heap.get? s1.heap.objs.size = none := none_at_size _
        have n1 : s1.heap.get? (s1.heap.objs.size + 1) = none := Heap.get?_none_of_le (Nat.le_succ _)
        have G2 : Grow C g1 s1 g1 { s1 with heap := h' } := ⟨⟨st.base, fun a o e => hk' a o (st.sub a o e), st.gens, st.os⟩, hk', fun _ _ _ => rfl⟩
        refine wpAny_pyIter_enum he ?_
        refine q (enumData 0 ds) (s1.heap.objs.size + 1) [s1.heap.objs.size + 1, s1.heap.objs.size] _ g1 _ hk (Itr.enum (l := l) (vs := us) (n := m) (ds := ds) r.hnd (Nat.succ_ne_self _)) ⟨⟨.none, he⟩, hi, hl, rr, st.none_of n1, st.none_of n0⟩ (G.trans G2) fun b hb => ?_
        have key : s1.heap.get? b = none := by
          simp only [List.mem_cons, List.not_mem_nil, or_false] at hb
          rcases hb with rfl | rfl
          · exact n1
          · exact n0
        cases q0 : s.heap.get? b with
        | none => rfl
        | some o => rw [G.ext _ o q0] at key; cases key

/-- a try whose suite does not raise -/
theorem Ex.try {body : List Stmt} {h₀ : ExceptHandler} {hs : List ExceptHandler} {K : Fl → Loc → Prop} (h : Exs C n env ρ body K) : Ex C n env ρ (.Try body (h₀ :: hs) [] [] pos) K :=
  fun A hin gin g s Q E r F q => wpAny_Try_except (h A hin gin g s _ _ r F fun f fv ρ' g' s' k rf l F' => by
    cases f <;> cases fv <;> first | exact rf.elim | skip
    · exact wpAny_execs_nil (q .next .next ρ' g' s' k trivial l F')
    · exact q .brk .brk ρ' g' s' k trivial l F'
    · exact q .cont .cont ρ' g' s' k trivial l F'
    · exact q (.ret _) (.ret _) ρ' g' s' k rf l F')
end
end Lw
end
noncomputable section
namespace Lw

noncomputable def wEnv (sc : Scope) (L f : Addr) (qn : Str) (code : Value) : Env := newEnv sc L mainGlobals (cellsFrom (L + 1) sc.names []) (qn ++ ".<locals>.") (some f) code none builtinsNs
theorem wEnv_eq {fd : FuncData} (hg : fd.globals = mainGlobals) (hb : fd.builtins = builtinsNs) (L f : Addr) : callEnvC fd L f = wEnv fd.scope L f fd.qualname fd.code := by
  unfold callEnvC wEnv; rw [hg, hb]

section
variable {C : Cx} {n : Nat} {K : PyData → Prop}
theorem Fn.of {f : Addr} {oc : Value} {od : Option Addr} {osl : Array (Option Value)} {fd : FuncData} {body : List Stmt} {names : List Str} {ds ds' : List PyData} {sc : Scope} {qn : Str} {code : Value}
    (ho : (pre.heap_1 C.w.params).lookup f = some ⟨oc, od, .func fd, osl⟩) (hbody : fd.body = .stmts body)
    (hb : ∀ (A : Around) (g : View) (s : Shared) (Q : List (Str × Value) → Shared → Prop) (E : Value → Shared → Prop) (vs : List Value), St C g s → RelAll g vs ds →
      (∀ vs' g' s', RelAll g' vs' ds' → Grow C g s g' s' → Q (names.zip vs') s') → wpAny C.M A (bindArgs fd ⟨vs, []⟩) Q E s)
    (hkind : ∀ k, ∀ x ∈ names, fd.scope.names.lookup x = some .local ∨ (fd.scope.names.lookup x = some .cell ∧ ((cellsFrom k fd.scope.names []).lookup x).isSome = true))
    (hcode : codeIn (pre.heap_1 C.w.params) fd.code fd.qualname = true) (hsc : fd.scope = sc) (hqn : fd.qualname = qn) (hcd : fd.code = code)
    (h : ∀ L, Exs C n (wEnv sc L f qn code) (bindDat names ds') body (retK K))
    (hcl : fd.closure = [] := by rfl) (hglob : fd.globals = mainGlobals := by rfl) (hblt : fd.builtins = builtinsNs := by rfl)
    (hco : fd.scope.isCoroutine = false := by rfl) (hgen : fd.scope.isGenerator = false := by rfl) (hk : fd.scope.kind = .function := by rfl) : Fn C (n + 1) (.ref f) ds K := by
  subst hsc hqn hcd
  exact Fn.of_binds ho hbody hb hkind hcode (fun L => by rw [wEnv_eq hglob hblt]; exact h L) hcl hglob hblt hco hgen hk
theorem Mut.of {f : Addr} {oc : Value} {od : Option Addr} {osl : Array (Option Value)} {fd : FuncData} {body : List Stmt} (x0 : Str) (names : List Str) {xs ds : List PyData} {K : PyData → List PyData → Prop} {sc : Scope} {qn : Str} {code : Value}
    (ho : (pre.heap_1 C.w.params).lookup f = some ⟨oc, od, .func fd, osl⟩) (hbody : fd.body = .stmts body)
    (hbind : ∀ vs : List Value, vs.length = names.length + 1 → bindArgs fd ⟨vs, []⟩ = pure ((x0 :: names).zip vs)) (hlen : ds.length = names.length) (hx0 : x0 ∉ names) (h0 : fd.scope.names.lookup x0 = some .local)
    (hkind : ∀ k, ∀ x ∈ names, fd.scope.names.lookup x = some .local ∨ (fd.scope.names.lookup x = some .cell ∧ ((cellsFrom k fd.scope.names []).lookup x).isSome = true))
    (hcode : codeIn (pre.heap_1 C.w.params) fd.code fd.qualname = true) (hsc : fd.scope = sc) (hqn : fd.qualname = qn) (hcd : fd.code = code)
    (h : ∀ L M, Exs C n (wEnv sc L f qn code) ((bindDat names ds).upd x0 (.own M xs)) body (mutK x0 M K))
    (hcl : fd.closure = [] := by rfl) (hglob : fd.globals = mainGlobals := by rfl) (hblt : fd.builtins = builtinsNs := by rfl)
    (hco : fd.scope.isCoroutine = false := by rfl) (hgen : fd.scope.isGenerator = false := by rfl) (hk : fd.scope.kind = .function := by rfl) : Mut C (n + 1) (fun vs => PySem.call (.ref f) vs) xs ds K := by
  subst hsc hqn hcd
  exact Mut.of_binds x0 names ho hbody hbind hlen hx0 h0 hkind hcode (fun L M => by rw [wEnv_eq hglob hblt]; exact h L M) hcl hglob hblt hco hgen hk
end

noncomputable def plainBase : PySem.Expr → Bool
  | .Call .. => false
  | _ => true
theorem base_ok {o : PySem.Expr} (h : plainBase o = true) (name : Str) (env : Env) (v : Sem Value) : attributeBase o name env v = v := by
  cases o <;> first | rfl | simp [plainBase] at h
theorem backTo_all {env : Env} {pos : Pos} : ∀ {es : List PySem.Expr}, es.all plainElt = true → (backTo pos (starEach es env)).all (fun x => !x.1) = true
  | [], _ => rfl
  | e :: es, h => by
    simp only [List.all_cons, Bool.and_eq_true] at h
    rw [starEach_plain h.1]
    show (true && (backTo pos (starEach es env)).all (fun x => !x.1)) = true
    rw [backTo_all h.2]; rfl
theorem few_ok {args : List PySem.Expr} {env : Env} {pos : Pos} (hp : args.all plainElt = true) (hl : args.length < 30) : ((backTo pos (starEach args env)).all (fun x => !x.1) && (backToKw pos (keywordEach [] env)).all (fun x => x.1.isSome)
      && decide (args.length + ([] : List Keyword).length + (if ([] : List Keyword).isEmpty then 0 else 1) < 30)) = true := by
  rw [backTo_all hp]
  have : (backToKw pos (keywordEach [] env)).all (fun x => x.1.isSome) = true := rfl
  rw [this]
  simpa using hl

section
variable {C : Cx} {n : Nat} {env : Env} {ρ : Loc} {pos : Pos}
theorem Ev.meth {K : PyData → Prop} {o : PySem.Expr} {name : Str} {apos : Pos} {args : List PySem.Expr} {id : String} (slot : Slot "str" name id) (ty : typeOf (.builtin id) = pure (.type "method_descriptor"))
    (h : Ev C n env ρ o fun x => ∃ t, x = .str t ∧ Evs C n env ρ args fun ds => Vop C n (fun vs => PySem.call (.builtin id) vs) (.str t :: ds) K)
    (hp : args.all plainElt = true := by rfl) (hb : plainBase o = true := by rfl) (hl : args.length < 30 := by decide) (hline : (apos.endLine == pos.line) = true := by rfl) : Ev C n env ρ (.Call (.Attribute o name apos) args [] pos) K :=
  Ev.strMeth slot ty h hp (base_ok hb _ _ _) (few_ok hp hl) hline
theorem Evx.method {x name : Str} {px apos : Pos} {args : List PySem.Expr} {id : String} {M : Addr} {xs : List PyData} {K : PyData → Loc → Prop} (slot : Slot "list" name id) (ty : typeOf (.builtin id) = pure (.type "method_descriptor"))
    (hx : ρ x = some (.own M xs)) (h : Evs C n env ρ args fun ds => Mut C n (fun vs => PySem.call (.builtin id) vs) xs ds fun d ys => K d (ρ.upd x (.own M ys)))
    (hp : args.all plainElt = true := by rfl) (hl : args.length < 30 := by decide) (hline : (apos.endLine == pos.line) = true := by rfl) (hdb : (x == ("__debug__" : Str)) = false := by decide) : Evx C n env ρ (.Call (.Attribute (.Name x px) name apos) args [] pos) K :=
  Evx.meth slot ty hx h hp (base_ok rfl _ _ _) (few_ok hp hl) hline hdb
end
theorem bb_str : bootBuiltins (Str.ofString "str") = some (.type "str") := by rfl
theorem Ev.callStr {C : Cx} {n : Nat} {env : Env} {ρ : Loc} {K : PyData → Prop} {pos pf : Pos} {args : List PySem.Expr} (h : Evs C n env ρ args fun ds => Vop C n (fun vs => PySem.call (.type "str") vs) ds K)
    (hx : env.kindOf (Str.ofString "str") = some .globalImplicit) (hp : args.all plainElt = true) : Ev C n env ρ (.Call (.Name (Str.ofString "str") pf) args [] pos) K :=
  Ev.callB (by rfl) bb_str rfl h (by decide) hx hp (by decide)
theorem bb_len : bootBuiltins (Str.ofString "len") = some (.builtin "len") := by rfl
theorem Ev.callLen {C : Cx} {n : Nat} {env : Env} {ρ : Loc} {K : PyData → Prop} {pos pf : Pos} {args : List PySem.Expr} (h : Evs C n env ρ args fun ds => Vop C n (fun vs => PySem.call (.builtin "len") vs) ds K)
    (hx : env.kindOf (Str.ofString "len") = some .globalImplicit) (hp : args.all plainElt = true) : Ev C n env ρ (.Call (.Name (Str.ofString "len") pf) args [] pos) K :=
  Ev.callB (by rfl) bb_len rfl h (by decide) hx hp (by decide)
theorem bb_sum : bootBuiltins (Str.ofString "sum") = some (.builtin "sum") := by rfl
theorem Ev.callSum {C : Cx} {n : Nat} {env : Env} {ρ : Loc} {K : PyData → Prop} {pos pf : Pos} {args : List PySem.Expr} (h : Evs C n env ρ args fun ds => Vop C n (fun vs => PySem.call (.builtin "sum") vs) ds K)
    (hx : env.kindOf (Str.ofString "sum") = some .globalImplicit) (hp : args.all plainElt = true) : Ev C n env ρ (.Call (.Name (Str.ofString "sum") pf) args [] pos) K :=
  Ev.callB (by rfl) bb_sum rfl h (by decide) hx hp (by decide)
theorem bb_sorted : bootBuiltins (Str.ofString "sorted") = some (.builtin "sorted") := by rfl
theorem Ev.callSorted {C : Cx} {n : Nat} {env : Env} {ρ : Loc} {K : PyData → Prop} {pos pf : Pos} {args : List PySem.Expr} (h : Evs C n env ρ args fun ds => Vop C n (fun vs => PySem.call (.builtin "sorted") vs) ds K)
    (hx : env.kindOf (Str.ofString "sorted") = some .globalImplicit) (hp : args.all plainElt = true) : Ev C n env ρ (.Call (.Name (Str.ofString "sorted") pf) args [] pos) K :=
  Ev.callB (by rfl) bb_sorted rfl h (by decide) hx hp (by decide)
theorem mg_range (w : World) : nsIn (pre.heap_1 w.params) mainGlobals (Str.ofString "range") = some none := by rfl
theorem mg_enumerate (w : World) : nsIn (pre.heap_1 w.params) mainGlobals (Str.ofString "enumerate") = some none := by rfl
theorem mg_len (w : World) : nsIn (pre.heap_1 w.params) mainGlobals (Str.ofString "len") = some none := by rfl
end Lw
end
noncomputable section
namespace Lw
section

section
variable {C : Cx} {n : Nat} {env : Env} {ρ : Loc} {K : PyData → Prop} {pos : Pos}
theorem Evs.nil {K : List PyData → Prop} (k : K []) : Evs C n env ρ [] K := k
theorem Evs.cons {e : PySem.Expr} {es : List PySem.Expr} {K : List PyData → Prop} (h : Ev C n env ρ e fun d => Evs C n env ρ es fun ds => K (d :: ds)) : Evs C n env ρ (e :: es) K := h
theorem szl {xs : List PyData} {P : Prop} (h : Nat.ble xs.length 1000 = true) (k : P) : xs.length ≤ sizeLine ∧ P := ⟨by rw [sizeLine_eq]; have := Nat.le_of_ble_eq_true h; omega, k⟩
theorem str_ex {x : Str} {K : Str → Prop} (k : K x) : ∃ t, PyData.str x = .str t ∧ K t := ⟨x, rfl, k⟩
theorem list_ex {x : List PyData} {K : List PyData → Prop} (k : K x) : ∃ t, PyData.list x = .list t ∧ K t := ⟨x, rfl, k⟩
theorem tuple_ex {x : List PyData} {K : List PyData → Prop} (k : K x) : ∃ t, PyData.tuple x = .tuple t ∧ K t := ⟨x, rfl, k⟩
theorem int_ex {x : Int} {K : Int → Prop} (k : K x) : ∃ t, PyData.int x = .int t ∧ K t := ⟨x, rfl, k⟩
theorem bool_ex {b : Bool} {K : Bool → Prop} (k : K b) : ∃ c, PyData.bool b = .bool c ∧ K c := ⟨b, rfl, k⟩
theorem ite_ff {A B : Prop} (h : B) : if false = true then A else B := by rw [if_neg (by decide)]; exact h
theorem ite_tt {A B : Prop} (h : A) : if true = true then A else B := by rw [if_pos rfl]; exact h
theorem ite_bool {p : Prop} [Decidable p] {A B : Prop} (h1 : p → A) (h2 : ¬ p → B) : if decide p = true then A else B := by
  by_cases h : p
  · rw [if_pos (decide_eq_true h)]; exact h1 h
  · rw [if_neg (by simpa using h)]; exact h2 h
theorem ite_nbool {p : Prop} [Decidable p] {A B : Prop} (h1 : ¬ p → A) (h2 : p → B) : if (!decide p) = true then A else B := by
  by_cases h : p
  · rw [if_neg (by simpa using h)]; exact h2 h
  · rw [if_pos (by simpa using h)]; exact h1 h
theorem binds_two {fd : FuncData} {a b : PyData} {x y : Str} (hbind : ∀ v u : Value, bindArgs fd ⟨[v, u], []⟩ = pure [(x, v), (y, u)]) :
    ∀ (A : Around) (g : View) (s : Shared) (Q : List (Str × Value) → Shared → Prop) (E : Value → Shared → Prop) (vs : List Value), St C g s → RelAll g vs [a, b] →
      (∀ vs' g' s', RelAll g' vs' [a, b] → Grow C g s g' s' → Q ([x, y].zip vs') s') → wpAny C.M A (bindArgs fd ⟨vs, []⟩) Q E s :=
  binds_plain (names := [x, y]) rfl fun vs h => by
    match vs, h with
    | [v, u], _ => exact hbind v u
theorem binds_one {fd : FuncData} {a : PyData} {x : Str} (hbind : ∀ v : Value, bindArgs fd ⟨[v], []⟩ = pure [(x, v)]) :
    ∀ (A : Around) (g : View) (s : Shared) (Q : List (Str × Value) → Shared → Prop) (E : Value → Shared → Prop) (vs : List Value), St C g s → RelAll g vs [a] →
      (∀ vs' g' s', RelAll g' vs' [a] → Grow C g s g' s' → Q ([x].zip vs') s') → wpAny C.M A (bindArgs fd ⟨vs, []⟩) Q E s :=
  binds_plain (names := [x]) rfl fun vs h => by
    match vs, h with
    | [v], _ => exact hbind v
noncomputable def KindOk (fd : FuncData) (x : Str) : Prop := ∀ k, fd.scope.names.lookup x = some .local ∨ (fd.scope.names.lookup x = some .cell ∧ ((cellsFrom k fd.scope.names []).lookup x).isSome = true)
theorem kind_one {fd : FuncData} {x : Str} (h : KindOk fd x) : ∀ k, ∀ y ∈ [x], fd.scope.names.lookup y = some .local ∨ (fd.scope.names.lookup y = some .cell ∧ ((cellsFrom k fd.scope.names []).lookup y).isSome = true) :=
  fun k y hy => by simp only [List.mem_singleton] at hy; subst hy; exact h k
theorem kind_two {fd : FuncData} {x z : Str} (h : KindOk fd x) (h2 : KindOk fd z) : ∀ k, ∀ y ∈ [x, z], fd.scope.names.lookup y = some .local ∨ (fd.scope.names.lookup y = some .cell ∧ ((cellsFrom k fd.scope.names []).lookup y).isSome = true) :=
  fun k y hy => by
    simp only [List.mem_cons, List.not_mem_nil, or_false] at hy
    rcases hy with rfl | rfl
    · exact h k
    · exact h2 k

theorem EvP.no {K : Option Int → Prop} (k : K none) : EvP C n env ρ none K := k
theorem EvP.yes {e : PySem.Expr} {K : Option Int → Prop} (h : Ev C n env ρ e fun d => ∃ i, d = .int i ∧ K (some i)) : EvP C n env ρ (some e) K := h
theorem Tst.mono {e : PySem.Expr} {K K' : Bool → Prop} (h : Tst C n env ρ e K) (k : ∀ b, K b → K' b) : Tst C n env ρ e K' :=
  fun A g s Q E r v q => h A g s Q E r v fun b g' s' hb => q b g' s' (k b hb)
theorem Tsts.mono {ifs : List PySem.Expr} {K K' : Bool → Prop} (h : Tsts C n env ρ ifs K) (k : ∀ b, K b → K' b) : Tsts C n env ρ ifs K' := by
  match ifs, h with
  | [], h => exact k _ h
  | [c], h => exact Tst.mono h k
theorem Asg.mono {ws : Str → Bool} {t : PySem.Expr} {d : PyData} {K K' : Loc → Prop} (h : Asg C n env ws ρ t d K) (k : ∀ ρ', K ρ' → K' ρ') : Asg C n env ws ρ t d K' :=
  fun A hin gin g s Q E v r F rv q => h A hin gin g s Q E v r F rv fun ρ' g' s' hk => q ρ' g' s' (k ρ' hk)
theorem Vop.mono {t : List Value → Sem Value} {ds : List PyData} {K K' : PyData → Prop} (h : Vop C n t ds K) (k : ∀ d, K d → K' d) : Vop C n t ds K' :=
  fun A g s Q E vs r st rv q => h A g s Q E vs r st rv fun d v g' s' hd => q d v g' s' (k d hd)
theorem Fn.mono {f : Value} {ds : List PyData} {K K' : PyData → Prop} (h : Fn C n f ds K) (k : ∀ d, K d → K' d) : Fn C n f ds K' := Vop.mono h k

/-! less is known of a frame -/
noncomputable def Sub (ρ ρ' : Loc) : Prop := ∀ x sl, ρ x = some sl → ρ' x = some sl
theorem Sub.refl (ρ : Loc) : Sub ρ ρ := fun _ _ e => e
theorem Sub.upd {ρ ρ' : Loc} (h : Sub ρ ρ') {x : Str} {sl : Sl} (hx : ρ x = none := by rfl) : Sub ρ (ρ'.upd x sl) := fun y sl' e => by
  by_cases q : y = x
  · subst q; rw [hx] at e; cases e
  · rw [Loc.upd_ne _ _ q]; exact h y sl' e
theorem Sub.trans {ρ ρ' ρ'' : Loc} (a : Sub ρ ρ') (b : Sub ρ' ρ'') : Sub ρ ρ'' := fun x sl e => b x sl (a x sl e)
theorem Frm.sub {C : Cx} {env : Env} {ws : Str → Bool} {hin gin : View} {ρ ρ' : Loc} {g : View} {s : Shared} (F : Frm C env ws hin gin ρ' g s) (h : Sub ρ ρ') : Frm C env ws hin gin ρ g s :=
  ⟨⟨F.vis.st, F.vis.kind, F.vis.glob, F.vis.blt, fun x sl e => F.vis.rd x sl (h x sl e), F.vis.lv⟩, F.keep, F.frz, F.ns, F.nsp, F.cell, F.cinj, fun x M ds e => F.own x M ds (h x _ e), fun x y M ds es e1 e2 => F.oinj x y M ds es (h x _ e1) (h y _ e2)⟩
theorem Asg.sub {ws : Str → Bool} {ρ ρ' : Loc} {t : PySem.Expr} {d : PyData} {K : Loc → Prop} (h : Asg C n env ws ρ t d K) (hs : Sub ρ ρ') : Asg C n env ws ρ' t d K :=
  fun A hin gin g s Q E v r F rv q => h A hin gin g s Q E v r (F.sub hs) rv q
theorem Exs.sub {ρ ρ' : Loc} {st : List Stmt} {K : Fl → Loc → Prop} (h : Exs C n env ρ st K) (hs : Sub ρ ρ') : Exs C n env ρ' st K :=
  fun A hin gin g s Q E r F q => h A hin gin g s Q E r (F.sub hs) q
theorem Ex.less {ρ : Loc} {st : Stmt} {K : Fl → Loc → Prop} (h : Ex C n env ρ st fun f ρ' => ∃ ρ₀, Sub ρ₀ ρ' ∧ K f ρ₀) : Ex C n env ρ st K :=
  fun A hin gin g s Q E r F q => h A hin gin g s Q E r F fun f fv ρ' g' s' ⟨ρ₀, h1, h2⟩ rf l F' => q f fv ρ₀ g' s' h2 rf l (F'.sub h1)

/-- a comprehension whose turns are told by a function -/
theorem CompK.filterMap {ws : Str → Bool} {tgt elt : PySem.Expr} {ifs : List PySem.Expr} {ρ₀ : Loc} (f : PyData → Option PyData) : ∀ (ds acc : List PyData) (ρ : Loc) (K : List PyData → Prop), Sub ρ₀ ρ → acc.length + ds.length ≤ sizeLine →
    (∀ d ∈ ds, Asg C n env ws ρ₀ tgt d fun ρ' => Sub ρ₀ ρ' ∧ Tsts C n env ρ' ifs fun b => if b then Ev C n env ρ' elt fun y => f d = some y else f d = none) → K (acc ++ ds.filterMap f) →
    CompK C n env ws tgt ifs elt ρ ds acc K
  | [], acc, ρ, K, hP, hsz, turn, k => by simpa [CompK] using k
  | d :: ds, acc, ρ, K, hP, hsz, turn, k => by
    simp only [List.length_cons] at hsz
    refine Asg.mono ((turn d (.head _)).sub hP) fun ρ' ⟨hP', h⟩ => Tsts.mono h fun b hb => ?_
    cases b with
    | true =>
      simp only [if_true] at hb ⊢
      refine Ev.mono hb fun y hy => ⟨by omega, CompK.filterMap f ds (acc ++ [y]) ρ' K hP' (by rw [List.length_append, List.length_singleton]; omega) (fun d' h2 => turn d' (.tail _ h2)) ?_⟩
      rw [List.filterMap_cons, hy] at k
      simpa using k
    | false =>
      simp only [Bool.false_eq_true, if_false] at hb ⊢
      refine CompK.filterMap f ds acc ρ' K hP' (by omega) (fun d' h2 => turn d' (.tail _ h2)) ?_
      rw [List.filterMap_cons, hb] at k
      exact k
/-- one without a test -/
theorem CompK.map {ws : Str → Bool} {tgt elt : PySem.Expr} (f : PyData → PyData) {ds : List PyData} {ρ : Loc} {K : List PyData → Prop} (hsz : ds.length ≤ sizeLine)
    (turn : ∀ d ∈ ds, Asg C n env ws ρ tgt d fun ρ' => Sub ρ ρ' ∧ Ev C n env ρ' elt fun y => y = f d) (k : K (ds.map f)) : CompK C n env ws tgt [] elt ρ ds [] K :=
  CompK.filterMap (fun d => some (f d)) ds [] ρ K (.refl _) (by simpa using hsz) (fun d h2 => Asg.mono (turn d h2) fun ρ' ⟨a, b⟩ => ⟨a, by
    have : Ev C n env ρ' elt fun y => some (f d) = some y := Ev.mono b fun y hy => by rw [hy]
    simpa [Tsts] using this⟩) (by simpa [List.filterMap_eq_map] using k)

/-- a for loop whose turns are told: R, what is known when these data are behind it -/
theorem ForK.inv {tgt : PySem.Expr} {body : List Stmt} {K : Fl → Loc → Prop} (R : List PyData → Loc) : ∀ (post pre : List PyData) (ρ : Loc), Sub (R pre) ρ →
    (∀ p d q, pre ++ post = p ++ d :: q → Asg C n env allW (R p) tgt d fun ρ' => Exs C n env ρ' body fun f ρ'' => (f = .next ∨ f = .cont) ∧ Sub (R (p ++ [d])) ρ'') → (∀ ρ', Sub (R (pre ++ post)) ρ' → K .next ρ') →
    ForK C n env tgt body ρ post K
  | [], pre, ρ, hs, turn, k => k ρ (by simpa using hs)
  | d :: post, pre, ρ, hs, turn, k => by
    refine Asg.mono ((turn pre d post rfl).sub hs) fun ρ' h => Exs.mono h fun f ρ'' ⟨hf, hs'⟩ => ?_
    have ih := ForK.inv (K := K) R post (pre ++ [d]) ρ'' hs' (fun p d' q e => turn p d' q (by rw [← e]; simp)) (fun ρ' h' => k ρ' (by simpa using h'))
    rcases hf with rfl | rfl <;> exact ih

theorem joinOk_small {x : Str} {xs : List Str} (h : ∀ y ∈ xs, y.length ≤ 1000) (hn : xs.length ≤ 1000) (hx : x.length ≤ 10) : JoinOk x xs = true := by
  unfold JoinOk
  have key : ∀ (ys : List Str) (a : Nat), (∀ y ∈ ys, y.length ≤ 1000) → ys.foldl (· + ·.length + x.length) a ≤ a + ys.length * 1010 := by
    intro ys
    induction ys with
    | nil => intro a _; simp
    | cons y ys ih =>
      intro a h
      have h1 := h y (.head _)
      have := ih (a + y.length + x.length) fun z hz => h z (.tail _ hz)
      simp only [List.foldl_cons, List.length_cons]
      omega
  have := key xs 0 h
  rw [List.foldl_toArray]
  have h2 : ¬ (xs.foldl (· + ·.length + x.length) 0 > sizeLine) := by rw [sizeLine_eq]; omega
  simp [Builtin.Str.tooLong, h2]
theorem join_small {x : Str} {xs : List Str} {m : Nat} (h : ∀ y ∈ xs, y.length ≤ m) (hx : x.length ≤ 1) : (Txt.join x xs).length ≤ xs.length * (m + 1) := by
  show (Builtin.Str.glued x xs).length ≤ _
  rw [StrLaws.glued_eq_join]
  refine Nat.le_trans (StrLaws.join_length_le x xs) ?_
  have : (xs.map (·.length)).sum ≤ xs.length * m := by
    clear hx
    induction xs with
    | nil => simp
    | cons y ys ih =>
      have h1 := h y (.head _)
      have := ih fun z hz => h z (.tail _ hz)
      simp only [List.map_cons, List.sum_cons, List.length_cons, Nat.succ_mul]
      omega
  have h3 : xs.length * x.length ≤ xs.length * 1 := Nat.mul_le_mul_left _ hx
  rw [Nat.mul_add]; omega
end

noncomputable def NoOwn (ρ : Loc) : Prop := ∀ x M ds, ρ x ≠ some (.own M ds)
theorem NoOwn.bind (names : List Str) (ds : List PyData) : NoOwn (bindDat names ds) := fun x M ds' e => by
  unfold bindDat at e; cases q : (names.zip ds).reverse.lookup x <;> rw [q] at e <;> cases e
theorem NoOwn.upd {ρ : Loc} (h : NoOwn ρ) (x : Str) (d : PyData) : NoOwn (ρ.upd x (.dat d)) := fun y M ds e => by
  by_cases q : y = x
  · subst q; rw [Loc.upd_self] at e; cases e
  · rw [Loc.upd_ne _ _ q] at e; exact h y M ds e
theorem NoOwn.fv {ρ : Loc} (h : NoOwn ρ) (fv : List Str) : NoOwn (fvLoc fv ρ) := fun y M ds e => by
  unfold fvLoc at e
  split at e
  · exact h y M ds e
  · cases e
theorem NoOwn.pl {ρ : Loc} (h : NoOwn ρ) (fv : List Str) : ∀ x M ds, x ∈ fv → ρ x ≠ some (.own M ds) := fun x M ds _ => h x M ds

end
local macro_rules | `(tactic| walk_at "lw0") => `(tactic| first
  | with_reducible refine Ev.int ?_
  | with_reducible refine Ev.str ?_
  | with_reducible refine Ev.none ?_
  | with_reducible refine Ev.bin ?_
  | with_reducible refine Ev.name (by with_unfolding_all rfl) ?_
  | with_reducible refine Ev.ite ?_
  | with_reducible refine Ev.cmp ?_ (by with_unfolding_all rfl)
  | with_reducible refine Ev.list ?_ (by with_unfolding_all rfl)
  | with_reducible refine Ev.tuple ?_ (by with_unfolding_all rfl)
  | with_reducible refine Ev.un ?_
  | with_reducible refine Evs.cons ?_
  | with_reducible refine Evs.nil ?_
  | with_reducible refine Exs.cons ?_
  | with_reducible refine Exs.nil ?_
  | with_reducible refine Ex.ret ?_
  | with_reducible refine Ex.ite ?_
  | with_reducible refine Ex.assign ?_ (by with_unfolding_all rfl) (by with_unfolding_all rfl)
  | with_reducible refine Tst.cmp ?_ (by with_unfolding_all rfl)
  | with_reducible refine Tst.not ?_
  | with_reducible refine op_add_int ?_
  | with_reducible refine op_sub_int ?_
  | with_reducible refine op_eq_int ?_
  | with_reducible refine op_lt_int ?_
  | with_reducible refine op_gt_int ?_
  | with_reducible refine op_le_int ?_
  | with_reducible refine op_eq_str ?_
  | with_reducible refine op_ne_str ?_
  | with_reducible refine op_isub_int ?_
  | with_reducible refine op_neg ?_
  | with_reducible refine EvP.no ?_
  | with_reducible refine EvP.yes ?_
  | with_reducible refine op_div_int ?_ (by first | decide | omega) (by first | decide | omega)
  | with_reducible refine op_mod_int ?_ (by first | decide | omega)
  | with_reducible refine szl (by with_unfolding_all rfl) ?_
  | with_reducible refine bool_ex ?_
  | with_reducible refine str_ex ?_
  | with_reducible refine int_ex ?_
  | with_reducible refine list_ex ?_
  | with_reducible refine tuple_ex ?_
  | with_reducible refine Ev.callStr ?_ (by with_unfolding_all rfl) (by with_unfolding_all rfl)
  | with_reducible refine Ev.callLen ?_ (by with_unfolding_all rfl) (by with_unfolding_all rfl))
local macro_rules | `(tactic| walk_at "lw") => `(tactic| (walk_at "lw0"; all_goals (try dsimp only)))
local macro_rules | `(tactic| walk_at "lws") => `(tactic| first
  | walk_at "lw"
  | with_reducible refine ite_ff ?_
  | with_reducible refine ite_tt ?_
  | (with_reducible refine ite_bool (fun _ => ?_) (fun _ => ?_) <;> (try dsimp only))
  | (with_reducible refine ite_nbool (fun _ => ?_) (fun _ => ?_) <;> (try dsimp only)))
local macro_rules | `(tactic| walk_at "own") => `(tactic| (refine NoOwn.pl ?_ _; repeat (first | exact NoOwn.bind _ _ | refine NoOwn.upd ?_ _ _ | refine NoOwn.fv ?_ _)))
local macro_rules | `(tactic| walk_at "clos") => `(tactic| (first | (intros; exact trivial) | (intros; repeat' (first | exact trivial | exact rfl | exact .inr ⟨by rfl, by decide⟩ | exact .inl (by rfl) | refine ⟨?_, ?_⟩))))
section



/-! the pieces of a path -/
noncomputable def six (i : Int) : Str := match i.toNat with
  | 0 => Str.ofString "b"
  | 1 => Str.ofString "a"
  | 2 => Str.ofString "c.d"
  | 3 => Str.ofString "."
  | 4 => Str.ofString ".."
  | _ => Str.ofString ""
theorem six_get {i : Int} (h0 : 0 ≤ i) (h6 : i < 6) : [PyData.str (Str.ofString "b"), .str (Str.ofString "a"), .str (Str.ofString "c.d"), .str (Str.ofString "."), .str (Str.ofString ".."), .str (Str.ofString "")][i.toNat]? = some (.str (six i)) := by
  obtain ⟨j, rfl⟩ := Int.eq_ofNat_of_zero_le h0
  match j, h6 with
  | 0, _ | 1, _ | 2, _ | 3, _ | 4, _ | 5, _ => rfl
theorem six_len (i : Int) : (six i).length ≤ 3 := by
  unfold six
  split <;> decide +kernel
noncomputable def pieceAt (x : Int) (k : Nat) : Str := six (x / 6 / 6 ^ k % 6)
noncomputable def turnP (x : Int) : PyData → PyData
  | .int k => .str (pieceAt x k.toNat)
  | d => d
noncomputable def piecesD (x : Int) : List Str := (List.range (1 + x % 3).toNat).map (pieceAt x)
noncomputable def pathD (x : Int) : Str := (if x / 3 % 2 = 1 then Str.ofString "/" else Str.ofString "") ++ Txt.join (Str.ofString "/") (piecesD x)
theorem piecesD_len (x : Int) : (piecesD x).length ≤ 3 := by unfold piecesD; simp; omega
theorem pathD_len (x : Int) : (pathD x).length ≤ 13 := by
  unfold pathD
  have h1 : (Txt.join (Str.ofString "/") (piecesD x)).length ≤ (piecesD x).length * 4 := join_small (m := 3) (fun y hy => by
    unfold piecesD at hy
    simp only [List.mem_map] at hy
    obtain ⟨k, _, rfl⟩ := hy
    exact six_len _) (by decide +kernel)
  have h2 := piecesD_len x
  have h3 : (if x / 3 % 2 = 1 then Str.ofString "/" else Str.ofString "").length ≤ 1 := by split <;> decide +kernel
  rw [Str.length_append]
  omega

set_option maxHeartbeats 4000000 in
theorem law_path {C : Cx} {x : Int} {K : PyData → Prop} (k : K (.str (pathD x))) : Fn C 1 (.ref 183) [.int x] K := by
  refine Fn.of (n := 0) (names := [Str.ofString "x"]) (ds' := [.int x]) (by rfl) (by rfl) (binds_one fun _ => by rfl) (kind_one fun _ => .inr ⟨by rfl, by rfl⟩) (by rfl) (by rfl) (by rfl) (by rfl) ?_
  dsimp only
  intro L
  refine Exs.cons ?_
  refine Ex.assignComp (cl := _) (fv := [Str.ofString "x"]) (by rfl) ?_ ?_ ?_ ?_
  · walk_at "clos"
  · walk_at "clos"
  · walk_at "own"
  refine Src.range (mg_range _) ?_
  repeat' walk_at "lw"
  refine ⟨by omega, by omega, fun L1 => ?_⟩
  refine CompK.map (turnP x) (by simp [natInts, sizeLine_eq]; omega) (fun d hd => ?_) ?_
  · obtain ⟨i, hi, rfl⟩ : ∃ i : Nat, i < 3 ∧ d = .int (i : Int) := by
      simp only [natInts, List.mem_map, List.mem_range] at hd
      obtain ⟨i, h1, rfl⟩ := hd
      exact ⟨i, by omega, rfl⟩
    refine Asg.name ⟨(Sub.refl _).upd, ?_⟩
    refine Ev.item ?_
    have h6 : (6 : Int) ^ i = 1 ∨ (6 : Int) ^ i = 6 ∨ (6 : Int) ^ i = 36 := by
      match i, hi with
      | 0, _ | 1, _ | 2, _ => decide
    have hp : (0 : Int) < 6 ^ i := by omega
    have hp2 : (6 : Int) ^ i < 2 ^ 100 := by omega
    repeat' walk_at "lw"
    repeat' walk_at "lw"
    refine op_pow_int ?_ (by omega) (by omega) (by decide)
    rw [Int.toNat_natCast]
    refine op_div_int ?_ hp hp2
    repeat' walk_at "lw"
    exact ⟨_, _, _, rfl, rfl, by omega, by omega, six_get (by omega) (by omega), by simp [turnP, pieceAt]⟩
  have e : (natInts (1 + x % 3).toNat).map (turnP x) = (piecesD x).map PyData.str := by
    unfold natInts piecesD
    rw [List.map_map, List.map_map]
    rfl
  rw [e]
  have hj : JoinOk (Str.ofString "/") (piecesD x) = true := joinOk_small (fun y hy => by
    unfold piecesD at hy
    simp only [List.mem_map] at hy
    obtain ⟨k, _, rfl⟩ := hy
    have := six_len (x / 6 / 6 ^ k % 6)
    unfold pieceAt; omega) (by have := piecesD_len x; omega) (by decide +kernel)
  have hl := pathD_len x
  have hl2 : (pathD x).length ≤ sizeLine := by rw [sizeLine_eq]; omega
  unfold pathD at k hl2
  repeat' walk_at "lws"
  all_goals
    with_reducible refine Ev.meth PySem.F.slot_str_join PySem.F.type_str_join ?_ (by with_unfolding_all rfl) (by with_unfolding_all rfl) (by decide) (by with_unfolding_all rfl)
    refine Ev.str ⟨_, rfl, ?_⟩
    repeat' walk_at "lw"
    refine vop_join hj ?_
  · rename_i h
    rw [if_pos h] at k hl2
    exact op_add_str k hl2
  · rename_i h
    rw [if_neg h] at k hl2
    exact op_add_str k hl2
end
section


/-! the ranges, as the law writes them -/
noncomputable def rangeD (start many : Int) : PyData :=
  let first := Str.ofString (toString (if many > 0 then start + 1 else start))
  .list (if many = 1 then [.str first, .str first] else
    [.str (first ++ Str.ofString "," ++ Str.ofString (toString many)), .str (if many = 0 then first else first ++ Str.ofString "," ++ Str.ofString (toString (start + many)))])
theorem comma_len : (Str.ofString ",").length = 1 := by decide +kernel
theorem rangeD_one {start many : Int} (h : many = 1) : rangeD start many = .list [.str (Str.ofString (toString (start + 1))), .str (Str.ofString (toString (start + 1)))] := by
  subst h; simp [rangeD]
theorem rangeD_zero {start many : Int} (h : many = 0) : rangeD start many = .list [.str (Str.ofString (toString start) ++ Str.ofString "," ++ Str.ofString (toString many)), .str (Str.ofString (toString start))] := by
  subst h; simp [rangeD]
theorem rangeD_pos {start many : Int} (h : many > 0) (h1 : many ≠ 1) : rangeD start many = .list [.str (Str.ofString (toString (start + 1)) ++ Str.ofString "," ++ Str.ofString (toString many)), .str (Str.ofString (toString (start + 1)) ++ Str.ofString "," ++ Str.ofString (toString (start + many)))] := by
  have : many ≠ 0 := by omega
  simp [rangeD, h, h1, this]
theorem rangeD_neg {start many : Int} (h : ¬ many > 0) (h1 : many ≠ 0) : rangeD start many = .list [.str (Str.ofString (toString start) ++ Str.ofString "," ++ Str.ofString (toString many)), .str (Str.ofString (toString start) ++ Str.ofString "," ++ Str.ofString (toString (start + many)))] := by
  have : many ≠ 1 := by omega
  simp [rangeD, h, h1, this]

set_option maxHeartbeats 4000000 in
theorem law_range {C : Cx} {start many : Int} {K : PyData → Prop} (h1 : -100000 < start) (h2 : start < 100000) (h3 : -100000 < many) (h4 : many < 100000) (k : K (rangeD start many)) : Fn C 1 (.ref 207) [.int start, .int many] K := by
  refine Fn.of (n := 0) (names := [Str.ofString "start", Str.ofString "many"]) (ds' := [.int start, .int many]) (by rfl) (by rfl) (binds_two fun _ _ => by rfl) (kind_two (fun _ => .inl (by rfl)) (fun _ => .inl (by rfl))) (by rfl) (by rfl) (by rfl) (by rfl) ?_
  dsimp only
  intro L
  have t1 := text_len (a := start) (by omega) (by omega)
  have t2 := text_len (a := start + 1) (by omega) (by omega)
  have t3 := text_len (a := many) (by omega) (by omega)
  have t4 := text_len (a := start + many) (by omega) (by omega)
  repeat' (first
    | walk_at "lws"
    | with_reducible refine vop_str (by omega) (by omega) ?_
    | with_reducible refine op_add_str ?_ (by simp only [Str.length_append, comma_len, sizeLine_eq]; omega))
  all_goals (show K _)
  · rw [rangeD_one ‹_›] at k; exact k
  · exfalso; omega
  · rw [rangeD_pos ‹_› ‹_›] at k; exact k
  · exfalso; omega
  · rw [rangeD_zero ‹_›] at k; exact k
  · rw [rangeD_neg ‹_› ‹_›] at k; exact k

/-! the ranges, as the project writes them -/
noncomputable def uniD (start stop : Int) : Str := if stop - start = 1 then Str.ofString (toString (start + 1)) else
  Str.ofString (toString (if stop - start = 0 then start else start + 1)) ++ Str.ofString "," ++ Str.ofString (toString (stop - start))
noncomputable def ctxD (start stop : Int) : Str := if stop - start ≤ 1 then Str.ofString (toString (if stop - start = 0 then start else start + 1)) else
  Str.ofString (toString (start + 1)) ++ Str.ofString "," ++ Str.ofString (toString (start + 1 + (stop - start) - 1))

set_option maxHeartbeats 4000000 in
theorem fn_unified {C : Cx} {start stop : Int} {K : PyData → Prop} (h1 : -100000 < start) (h2 : start < 100000) (h3 : -100000 < stop) (h4 : stop < 100000) (k : K (.str (uniD start stop))) : Fn C 1 (.ref 28) [.int start, .int stop] K := by
  refine Fn.of (n := 0) (names := [Str.ofString "start", Str.ofString "stop"]) (ds' := [.int start, .int stop]) (by rfl) (by rfl) (binds_two fun _ _ => by rfl) (kind_two (fun _ => .inl (by rfl)) (fun _ => .inl (by rfl))) (by rfl) (by rfl) (by rfl) (by rfl) ?_
  dsimp only
  intro L
  repeat' (first
    | walk_at "lws"
    | (with_reducible refine Ex.aug (by with_unfolding_all rfl) ?_ (by with_unfolding_all rfl); dsimp only)
    | with_reducible refine Ev.meth PySem.F.slot_str_format_m PySem.F.type_str_format_m ?_ (by with_unfolding_all rfl) (by with_unfolding_all rfl) (by decide) (by with_unfolding_all rfl)
    | with_reducible refine Tst.val ?_ (by intro _; with_unfolding_all rfl)
    | with_reducible refine tr_int ?_
    | with_reducible refine vop_fmt1 (by omega) (by omega) ?_
    | with_reducible refine vop_fmt2 (by omega) (by omega) (by omega) (by omega) ?_)
  all_goals (show K _)
  all_goals unfold uniD at k
  · rename_i h
    rw [if_pos h] at k; exact k
  · rename_i h h0
    have h0' : stop - start = 0 := by omega
    rw [if_neg h, if_pos h0'] at k
    rw [show start + 1 - 1 = start by omega]; exact k
  · rename_i h h0
    have h0' : ¬ stop - start = 0 := by omega
    rw [if_neg h, if_neg h0'] at k; exact k

set_option maxHeartbeats 4000000 in
theorem fn_context {C : Cx} {start stop : Int} {K : PyData → Prop} (h1 : -100000 < start) (h2 : start < 100000) (h3 : -100000 < stop) (h4 : stop < 100000) (k : K (.str (ctxD start stop))) : Fn C 1 (.ref 35) [.int start, .int stop] K := by
  refine Fn.of (n := 0) (names := [Str.ofString "start", Str.ofString "stop"]) (ds' := [.int start, .int stop]) (by rfl) (by rfl) (binds_two fun _ _ => by rfl) (kind_two (fun _ => .inl (by rfl)) (fun _ => .inl (by rfl))) (by rfl) (by rfl) (by rfl) (by rfl) ?_
  dsimp only
  intro L
  repeat' (first
    | walk_at "lws"
    | (with_reducible refine Ex.aug (by with_unfolding_all rfl) ?_ (by with_unfolding_all rfl); dsimp only)
    | with_reducible refine Ev.meth PySem.F.slot_str_format_m PySem.F.type_str_format_m ?_ (by with_unfolding_all rfl) (by with_unfolding_all rfl) (by decide) (by with_unfolding_all rfl)
    | with_reducible refine Tst.val ?_ (by intro _; with_unfolding_all rfl)
    | with_reducible refine tr_int ?_
    | with_reducible refine vop_fmt1 (by omega) (by omega) ?_
    | with_reducible refine vop_fmt2 (by omega) (by omega) (by omega) (by omega) ?_)
  all_goals (try show K _)
  all_goals unfold ctxD at k
  · rename_i h0 h
    have h0' : stop - start = 0 := by omega
    rw [if_pos h, if_pos h0'] at k
    rw [show start + 1 - 1 = start by omega]; exact k
  · exfalso; omega
  · rename_i h0 h
    have h0' : ¬ stop - start = 0 := by omega
    rw [if_pos h, if_neg h0'] at k; exact k
  · rename_i h0 h
    rw [if_neg h] at k; exact k

/-! the lines -/
noncomputable def tagD (i : Int) : Str := match i.toNat with
  | 0 => Str.ofString "  "
  | 1 => Str.ofString "- "
  | 2 => Str.ofString "+ "
  | _ => Str.ofString "? "
theorem tag_get {i : Int} (h0 : 0 ≤ i) (h6 : i < 4) : [PyData.str (Str.ofString "  "), .str (Str.ofString "- "), .str (Str.ofString "+ "), .str (Str.ofString "? ")][i.toNat]? = some (.str (tagD i)) := by
  obtain ⟨j, rfl⟩ := Int.eq_ofNat_of_zero_le h0
  match j, h6 with
  | 0, _ | 1, _ | 2, _ | 3, _ => rfl
noncomputable def manyD (i : Int) : Nat := match i.toNat with
  | 0 => 0
  | 1 => 1
  | 2 => 2
  | _ => 30
theorem many_get {i : Int} (h0 : 0 ≤ i) (h6 : i < 4) : [PyData.int 0, .int 1, .int 2, .int 30][i.toNat]? = some (.int (manyD i : Nat)) := by
  obtain ⟨j, rfl⟩ := Int.eq_ofNat_of_zero_le h0
  match j, h6 with
  | 0, _ | 1, _ | 2, _ | 3, _ => rfl
theorem manyD_le (i : Int) : manyD i ≤ 30 := by unfold manyD; split <;> decide
noncomputable def lineAt (k : Nat) : Str := Str.ofString "- " ++ Str.ofString (toString (k : Int))
noncomputable def tagAt (x : Int) (k : Nat) : Str := tagD (x / 16 / 4 ^ k % 4)
noncomputable def linesD (x : Int) : List (Str × Str) := (List.range (manyD (x / 4 % 4))).map fun k => (tagAt x k, lineAt k)
noncomputable def pairD (p : Str × Str) : PyData := .list [.str p.1, .str p.2]
noncomputable def turnL (x : Int) : PyData → PyData
  | .int k => pairD (tagAt x k.toNat, lineAt k.toNat)
  | d => d
theorem dash_len : (Str.ofString "- ").length = 2 := by decide +kernel
theorem natInts_mem {m : Nat} {d : PyData} (h : d ∈ natInts m) : ∃ i : Nat, i < m ∧ d = .int (i : Int) := by
  simp only [natInts, List.mem_map, List.mem_range] at h
  obtain ⟨i, h1, rfl⟩ := h
  exact ⟨i, h1, rfl⟩
theorem natInts_len (m : Nat) : (natInts m).length = m := by simp [natInts]
theorem natInts_map (m : Nat) (f : PyData → PyData) : (natInts m).map f = (List.range m).map fun (k : Nat) => f (.int (k : Int)) := by
  unfold natInts; rw [List.map_map]; rfl

set_option maxHeartbeats 4000000 in
theorem law_lines {C : Cx} {x : Int} {K : PyData → Prop} (k : K (.list ((linesD x).map pairD))) : Fn C 1 (.ref 188) [.int x] K := by
  refine Fn.of (n := 0) (names := [Str.ofString "x"]) (ds' := [.int x]) (by rfl) (by rfl) (binds_one fun _ => by rfl) (kind_one fun _ => .inr ⟨by rfl, by rfl⟩) (by rfl) (by rfl) (by rfl) (by rfl) ?_
  dsimp only
  intro L
  refine Exs.cons (Ex.ret ?_)
  refine Ev.comp (cl := _) (fv := [Str.ofString "x"]) (by rfl) ?_ ?_ ?_ ?_
  · walk_at "clos"
  · walk_at "clos"
  · walk_at "own"
  refine Src.range (mg_range _) ?_
  refine Ev.item ?_
  repeat' (first | walk_at "lw")
  have hm := manyD_le (x / 4 % 4)
  refine ⟨_, _, _, rfl, rfl, by omega, by omega, many_get (by omega) (by omega), ?_⟩
  refine ⟨_, rfl, by omega, by omega, fun L1 => ?_⟩
  rw [Int.toNat_natCast]
  refine CompK.map (turnL x) (by rw [natInts_len, sizeLine_eq]; omega) (fun d hd => ?_) ?_
  · obtain ⟨i, hi, rfl⟩ := natInts_mem hd
    refine Asg.name ⟨(Sub.refl _).upd, ?_⟩
    have hi30 : i < 30 := by omega
    have h6 : (4 ^ i : Nat) ≤ 4 ^ 30 := Nat.pow_le_pow_right (by decide) (by omega)
    have h7 : 0 < (4 ^ i : Nat) := Nat.pow_pos (by decide)
    have h8 : (4 : Int) ^ i = ((4 ^ i : Nat) : Int) := by simp
    have hp : (0 : Int) < 4 ^ i := by rw [h8]; omega
    have hp2 : (4 : Int) ^ i < 2 ^ 100 := by rw [h8]; have : (4 ^ 30 : Nat) = 1152921504606846976 := by decide
                                             omega
    have t1 := text_len (a := (i : Int)) (by omega) (by omega)
    refine Ev.list ?_
    refine Evs.cons (Ev.item ?_)
    repeat' (first | walk_at "lw")
    refine op_pow_int ?_ (by omega) (by omega) (by decide)
    rw [Int.toNat_natCast]
    refine op_div_int ?_ hp hp2
    repeat' (first | walk_at "lw")
    refine ⟨_, _, _, rfl, rfl, by omega, by omega, tag_get (by omega) (by omega), ?_⟩
    repeat' (first | walk_at "lw" | with_reducible refine vop_str (by omega) (by omega) ?_ | with_reducible refine op_add_str ?_ (by simp only [Str.length_append, dash_len, sizeLine_eq]; omega))
    rfl
  · rw [natInts_map]
    unfold linesD at k
    rw [List.map_map] at k
    exact k
end
section


section
variable {C : Cx} {n : Nat} {env : Env} {ρ : Loc} {pos : Pos}
theorem Sub.set {ρ ρ' : Loc} (h : Sub ρ ρ') (x : Str) (sl : Sl) : Sub (ρ.upd x sl) (ρ'.upd x sl) := fun y s e => by
  by_cases q : y = x
  · subst q; rw [Loc.upd_self] at e ⊢; exact e
  · rw [Loc.upd_ne _ _ q] at e ⊢; exact h y s e
theorem ForK.all {tgt : PySem.Expr} {body : List Stmt} {K : Fl → Loc → Prop} (R : List PyData → Loc) {ds : List PyData} (h0 : Sub (R []) ρ)
    (turn : ∀ p d q, ds = p ++ d :: q → Asg C n env allW (R p) tgt d fun ρ' => Exs C n env ρ' body fun f ρ'' => (f = .next ∨ f = .cont) ∧ Sub (R (p ++ [d])) ρ'') (k : K .next (R ds)) :
    ForK C n env tgt body ρ ds (fun f ρ' => ∃ ρ₀, Sub ρ₀ ρ' ∧ K f ρ₀) :=
  ForK.inv R ds [] ρ h0 (fun p d q e => turn p d q e) (fun ρ' h => ⟨_, h, k⟩)
end

noncomputable def strOf : PyData → Str
  | .str x => x
  | _ => Str.ofString ""
noncomputable def placeStep (steps : List Str) (p : Str) : List Str :=
  if p = Str.ofString ".." then cutL steps none (some (-1)) else if p ∈ [Str.ofString "", Str.ofString "."] then steps else steps ++ [p]
noncomputable def placeSteps (p : Str) : List Str := (Txt.split p (Str.ofString "/")).foldl placeStep (if cutS p none (some 1) = Str.ofString "/" then [] else [Str.ofString "r"])
noncomputable def placeHead (p : Str) : Str := if cutS p none (some 2) = Str.ofString "//" then (if cutS p (some 2) (some 3) = Str.ofString "/" then Str.ofString "/" else Str.ofString "//") else Str.ofString "/"
noncomputable def placeD (p : Str) : Str := placeHead p ++ Txt.join (Str.ofString "/") (placeSteps p)
noncomputable def okPath (p : Str) : Bool := p.length ≤ 20 && (Builtin.Str.partsBetween p (Builtin.Str.occurrences p (Str.ofString "/") 0 p.length (p.length + 1)) (Str.ofString "/").length).length ≤ 20 &&
  (Txt.split p (Str.ofString "/")).length ≤ 20 && (Txt.split p (Str.ofString "/")).all fun y => y.length ≤ 20

theorem mem_cutL {α : Type} {x : α} {xs : List α} {a b : Option Int} (h : x ∈ cutL xs a b) : x ∈ xs := List.mem_of_mem_drop (List.mem_of_mem_take h)
theorem cutL_len {α : Type} (xs : List α) (a b : Option Int) : (cutL xs a b).length ≤ xs.length := by unfold cutL; rw [List.length_take, List.length_drop]; omega
theorem cutL_map {α β : Type} (f : α → β) (xs : List α) (a b : Option Int) : cutL (xs.map f) a b = (cutL xs a b).map f := by
  unfold cutL; rw [List.length_map, List.map_take, List.map_drop]
theorem placeFold : ∀ (ps s : List Str), (∀ y ∈ s, y.length ≤ 20) → (∀ y ∈ ps, y.length ≤ 20) → (ps.foldl placeStep s).length ≤ s.length + ps.length ∧ ∀ y ∈ ps.foldl placeStep s, y.length ≤ 20
  | [], s, h1, h2 => ⟨by simp, h1⟩
  | p :: ps, s, h1, h2 => by
    have key : (placeStep s p).length ≤ s.length + 1 ∧ ∀ y ∈ placeStep s p, y.length ≤ 20 := by
      unfold placeStep
      split
      · exact ⟨Nat.le_succ_of_le (cutL_len _ _ _), fun y hy => h1 y (mem_cutL hy)⟩
      · split
        · exact ⟨Nat.le_succ _, h1⟩
        · refine ⟨by simp, fun y hy => ?_⟩
          rcases List.mem_append.mp hy with q | q
          · exact h1 y q
          · simp only [List.mem_singleton] at q; subst q; exact h2 y (.head _)
    obtain ⟨a, b⟩ := placeFold ps (placeStep s p) key.2 fun y hy => h2 y (.tail _ hy)
    refine ⟨?_, b⟩
    simp only [List.foldl_cons, List.length_cons]
    omega
theorem slash_len : (Str.ofString "/").length = 1 := by decide +kernel

theorem map_strOf (xs : List Str) : (xs.map PyData.str).map strOf = xs := by rw [List.map_map]; exact List.map_id _
theorem cut_strs {xs : List Str} {pre : List PyData} {d : PyData} {post : List PyData} (h : xs.map PyData.str = pre ++ d :: post) : ∃ x, d = .str x ∧ x ∈ xs ∧ (∀ y ∈ pre.map strOf, y ∈ xs) ∧ pre.length ≤ xs.length := by
  have hl := congrArg List.length h
  simp only [List.length_map, List.length_append, List.length_cons] at hl
  have hm : d ∈ xs.map PyData.str := by rw [h]; simp
  obtain ⟨x, hx, rfl⟩ := List.mem_map.mp hm
  refine ⟨x, rfl, hx, fun y hy => ?_, by omega⟩
  obtain ⟨e, he, rfl⟩ := List.mem_map.mp hy
  have : e ∈ xs.map PyData.str := by rw [h]; simp [he]
  obtain ⟨z, hz, rfl⟩ := List.mem_map.mp this
  exact hz

set_option maxHeartbeats 4000000 in
theorem law_place {C : Cx} {p : Str} {K : PyData → Prop} (hp : okPath p = true) (k : K (.str (placeD p))) : Fn C 1 (.ref 195) [.str p] K := by
  simp only [okPath, Bool.and_eq_true, decide_eq_true_eq, List.all_eq_true] at hp
  obtain ⟨⟨⟨p1, p2⟩, p3⟩, p4⟩ := hp
  have hps : p.length ≤ sizeLine := by rw [sizeLine_eq]; omega
  refine Fn.of (n := 0) (names := [Str.ofString "path"]) (ds' := [.str p]) (by rfl) (by rfl) (binds_one fun _ => by rfl) (kind_one fun _ => .inl (by rfl)) (by rfl) (by rfl) (by rfl) (by rfl) ?_
  dsimp only
  intro L
  generalize hs0 : (if cutS p none (some 1) = Str.ofString "/" then [] else [Str.ofString "r"]) = s0
  have s0a : ∀ y ∈ s0, y.length ≤ 20 := fun y hy => by
    subst hs0
    split at hy
    · cases hy
    · simp only [List.mem_singleton] at hy; subst hy; decide +kernel
  have s0b : s0.length ≤ 1 := by subst hs0; split <;> simp
  refine Exs.cons (Ex.mono (K := fun f ρ' => f = .next ∧ ρ' = (bindDat [Str.ofString "path"] [.str p]).upd (Str.ofString "steps") (.dat (.list (s0.map .str)))) ?_ ?_)
  · refine Ex.assign ?_
    refine Ev.ite (Tst.cmp (Ev.sliceS (by rfl) hps ?_))
    repeat' (first | walk_at "lws")
    · rename_i h; rw [if_pos h] at hs0; subst hs0; exact ⟨rfl, rfl⟩
    · rename_i h; rw [if_neg h] at hs0; subst hs0; exact ⟨rfl, rfl⟩
  rintro f ρ' ⟨rfl, rfl⟩
  dsimp only
  refine Exs.cons (Ex.less (Ex.for (Src.list ?_)))
  with_reducible refine Ev.meth PySem.F.slot_str_split PySem.F.type_str_split ?_ (by with_unfolding_all rfl) (by with_unfolding_all rfl) (by decide) (by with_unfolding_all rfl)
  repeat' (walk_at "lws")
  refine vop_split (by rw [slash_len]; decide) hps (by rw [sizeLine_eq]; omega) ?_
  with_reducible refine list_ex ?_
  refine ForK.all (fun pre => (bindDat [Str.ofString "path"] [.str p]).upd (Str.ofString "steps") (.dat (.list (((pre.map strOf).foldl placeStep s0).map .str)))) (.refl _) (fun pre d post he => ?_) ?_
  · obtain ⟨x, rfl, hx, hpre, hlen⟩ := cut_strs he
    have hxl := p4 x hx
    obtain ⟨f1, f2⟩ := placeFold (pre.map strOf) s0 s0a (fun y hy => p4 y (hpre y hy))
    rw [List.length_map] at f1
    have e1 : (pre ++ [PyData.str x]).map strOf = pre.map strOf ++ [x] := by simp [strOf]
    have e2 : ((pre ++ [PyData.str x]).map strOf).foldl placeStep s0 = placeStep ((pre.map strOf).foldl placeStep s0) x := by rw [e1, List.foldl_append]; rfl
    simp only [e2]
    generalize (pre.map strOf).foldl placeStep s0 = st at f1 f2 ⊢
    have hst : (st.map PyData.str).length ≤ sizeLine := by rw [List.length_map, sizeLine_eq]; omega
    refine Asg.name ?_
    refine Exs.cons (Ex.ite (Tst.cmp ?_))
    repeat' (walk_at "lws")
    · rename_i h
      refine Ev.sliceL (by rfl) hst ?_
      repeat' (walk_at "lws")
      refine ⟨.inl rfl, ?_⟩
      have : placeStep st x = cutL st none (some (-1)) := by unfold placeStep; rw [if_pos h]
      rw [this, ← cutL_map]
      exact ((Sub.refl _).upd.upd).set _ _
    · rename_i h
      refine op_notIn_strs (xs := [Str.ofString "", Str.ofString "."]) ?_
      repeat' (walk_at "lws")
      · rename_i h2
        refine op_add_list (ys := [.str x]) ?_ (by rw [List.length_map, sizeLine_eq]; simp; omega)
        repeat' (walk_at "lws")
        refine ⟨.inl rfl, ?_⟩
        have : placeStep st x = st ++ [x] := by unfold placeStep; rw [if_neg h, if_neg h2]
        rw [this, List.map_append]
        exact ((Sub.refl _).upd.upd).set _ _
      · rename_i h2
        refine ⟨.inl rfl, ?_⟩
        have : placeStep st x = st := by unfold placeStep; rw [if_neg h, if_pos h2]
        rw [this]
        exact (Sub.refl _).upd
  dsimp only
  rw [map_strOf]
  obtain ⟨f1, f2⟩ := placeFold (Txt.split p (Str.ofString "/")) s0 s0a p4
  have hk : K (.str (placeHead p ++ Txt.join (Str.ofString "/") ((Txt.split p (Str.ofString "/")).foldl placeStep s0))) := by
    unfold placeD placeSteps at k; rw [hs0] at k; exact k
  generalize (Txt.split p (Str.ofString "/")).foldl placeStep s0 = st at f1 f2 hk ⊢
  have hj : JoinOk (Str.ofString "/") st = true := joinOk_small (fun y hy => by have := f2 y hy; omega) (by omega) (by rw [slash_len]; decide)
  have hj2 : (Txt.join (Str.ofString "/") st).length ≤ st.length * 21 := join_small f2 (by rw [slash_len]; decide)
  have fin : ∀ hd : Str, placeHead p = hd → hd.length ≤ 2 → Op2 C 0 (binaryOp .Add) (.str hd) (.str (Txt.join (Str.ofString "/") st)) K := fun hd he hl => op_add_str (by rw [← he]; exact hk) (by rw [Str.length_append, sizeLine_eq]; omega)
  unfold placeHead at fin
  refine Exs.cons (Ex.ret (Ev.bin (Ev.ite (Tst.and2 (Tst.cmp (Ev.sliceS (by rfl) hps ?_))))))
  repeat' (walk_at "lws")
  · rename_i h
    refine Ev.sliceS (by rfl) hps ?_
    repeat' (walk_at "lws")
    all_goals
      with_reducible refine Ev.meth PySem.F.slot_str_join PySem.F.type_str_join ?_ (by with_unfolding_all rfl) (by with_unfolding_all rfl) (by decide) (by with_unfolding_all rfl)
      repeat' (walk_at "lws")
      refine vop_join hj ?_
    · rename_i h2
      exact fin _ (by rw [if_pos h, if_neg h2]) (by decide +kernel)
    · rename_i h2
      exact fin _ (by rw [if_pos h, if_pos h2]) (by decide +kernel)
  · rename_i h
    repeat' (walk_at "lws")
    with_reducible refine Ev.meth PySem.F.slot_str_join PySem.F.type_str_join ?_ (by with_unfolding_all rfl) (by with_unfolding_all rfl) (by decide) (by with_unfolding_all rfl)
    repeat' (walk_at "lws")
    refine vop_join hj ?_
    exact fin _ (by rw [if_neg h]) (by decide +kernel)
end
end Lw
end
noncomputable section
namespace Lw
section
end
local macro_rules | `(tactic| walk_at "lw0") => `(tactic| first
  | with_reducible refine Ev.int ?_
  | with_reducible refine Ev.str ?_
  | with_reducible refine Ev.none ?_
  | with_reducible refine Ev.bin ?_
  | with_reducible refine Ev.name (by with_unfolding_all rfl) ?_
  | with_reducible refine Ev.ite ?_
  | with_reducible refine Ev.cmp ?_ (by with_unfolding_all rfl)
  | with_reducible refine Ev.list ?_ (by with_unfolding_all rfl)
  | with_reducible refine Ev.tuple ?_ (by with_unfolding_all rfl)
  | with_reducible refine Ev.un ?_
  | with_reducible refine Evs.cons ?_
  | with_reducible refine Evs.nil ?_
  | with_reducible refine Exs.cons ?_
  | with_reducible refine Exs.nil ?_
  | with_reducible refine Ex.ret ?_
  | with_reducible refine Ex.ite ?_
  | with_reducible refine Ex.assign ?_ (by with_unfolding_all rfl) (by with_unfolding_all rfl)
  | with_reducible refine Tst.cmp ?_ (by with_unfolding_all rfl)
  | with_reducible refine Tst.not ?_
  | with_reducible refine op_add_int ?_
  | with_reducible refine op_sub_int ?_
  | with_reducible refine op_eq_int ?_
  | with_reducible refine op_lt_int ?_
  | with_reducible refine op_gt_int ?_
  | with_reducible refine op_le_int ?_
  | with_reducible refine op_eq_str ?_
  | with_reducible refine op_ne_str ?_
  | with_reducible refine op_isub_int ?_
  | with_reducible refine op_neg ?_
  | with_reducible refine op_mul_int ?_ (by first | exact IntMulOk.of_left (by decide +kernel) | exact IntMulOk.of_right (by decide +kernel))
  | with_reducible refine EvP.no ?_
  | with_reducible refine EvP.yes ?_
  | with_reducible refine op_div_int ?_ (by first | decide | omega) (by first | decide | omega)
  | with_reducible refine op_mod_int ?_ (by first | decide | omega)
  | with_reducible refine szl (by with_unfolding_all rfl) ?_
  | with_reducible refine bool_ex ?_
  | with_reducible refine str_ex ?_
  | with_reducible refine int_ex ?_
  | with_reducible refine list_ex ?_
  | with_reducible refine tuple_ex ?_
  | with_reducible refine Ev.callStr ?_ (by with_unfolding_all rfl) (by with_unfolding_all rfl)
  | with_reducible refine Ev.callLen ?_ (by with_unfolding_all rfl) (by with_unfolding_all rfl))
local macro_rules | `(tactic| walk_at "lw") => `(tactic| (walk_at "lw0"; all_goals (try dsimp only)))
local macro_rules | `(tactic| walk_at "lws") => `(tactic| first
  | walk_at "lw"
  | with_reducible refine ite_ff ?_
  | with_reducible refine ite_tt ?_
  | (with_reducible refine ite_bool (fun _ => ?_) (fun _ => ?_) <;> (try dsimp only))
  | (with_reducible refine ite_nbool (fun _ => ?_) (fun _ => ?_) <;> (try dsimp only)))
local macro_rules | `(tactic| walk_at "own") => `(tactic| (refine NoOwn.pl ?_ _; repeat (first | exact NoOwn.bind _ _ | refine NoOwn.upd ?_ _ _ | refine NoOwn.fv ?_ _)))
local macro_rules | `(tactic| walk_at "clos") => `(tactic| (first | (intros; exact trivial) | (intros; repeat' (first | exact trivial | exact rfl | exact .inr ⟨by rfl, by decide⟩ | exact .inl (by rfl) | refine ⟨?_, ?_⟩))))
section


section
variable {C : Cx} {n : Nat} {env : Env} {ρ : Loc} {pos pf : Pos} {K : PyData → Prop} {args : List PySem.Expr}
theorem Ev.fn183 (hm : 1 ≤ n) (h : Evs C n env ρ args fun ds => Fn C 1 (.ref 183) ds K) (hx : env.kindOf (Str.ofString "_law_path") = some .globalImplicit) (hp : args.all plainElt = true) (hne : args ≠ []) :
    Ev C n env ρ (.Call (.Name (Str.ofString "_law_path") pf) args [] pos) K := Ev.call (by rfl) (by rfl) hm h hx hp hne (by decide)
theorem Ev.fn188 (hm : 1 ≤ n) (h : Evs C n env ρ args fun ds => Fn C 1 (.ref 188) ds K) (hx : env.kindOf (Str.ofString "_law_lines") = some .globalImplicit) (hp : args.all plainElt = true) (hne : args ≠ []) :
    Ev C n env ρ (.Call (.Name (Str.ofString "_law_lines") pf) args [] pos) K := Ev.call (by rfl) (by rfl) hm h hx hp hne (by decide)
theorem Ev.fn195 (hm : 1 ≤ n) (h : Evs C n env ρ args fun ds => Fn C 1 (.ref 195) ds K) (hx : env.kindOf (Str.ofString "_law_place") = some .globalImplicit) (hp : args.all plainElt = true) (hne : args ≠ []) :
    Ev C n env ρ (.Call (.Name (Str.ofString "_law_place") pf) args [] pos) K := Ev.call (by rfl) (by rfl) hm h hx hp hne (by decide)
end

noncomputable def keepSide (o : Str) (p : Str × Str) : Option Str := if p.1 ∈ [Str.ofString "  ", o] then some p.2 else none
noncomputable def sideD (x : Int) (o : Str) : List Str := (linesD x).filterMap (keepSide o)
noncomputable def strsD (xs : List Str) : PyData := .list (xs.map .str)
noncomputable def sideTurn (x : Int) : PyData → PyData
  | .str o => strsD (sideD x o)
  | d => d
noncomputable def lineTurn (o : Str) : PyData → Option PyData
  | .list [.str t, .str l] => (keepSide o (t, l)).map .str
  | _ => none
noncomputable def lenTurn : PyData → PyData
  | .list xs => .int (xs.length : Nat)
  | d => d
noncomputable def pieceD (x : Int) : PyData := .list ([.str (placeD (pathD (x / 1024))), .int (97 + 2 * (x % 4))] ++ [.int ((sideD x (Str.ofString "- ")).length : Nat), .int ((sideD x (Str.ofString "+ ")).length : Nat)] ++
  [strsD (sideD x (Str.ofString "- ")), strsD (sideD x (Str.ofString "+ "))])
theorem linesD_len (x : Int) : (linesD x).length ≤ 30 := by unfold linesD; rw [List.length_map, List.length_range]; exact manyD_le _
theorem sideD_len (x : Int) (o : Str) : (sideD x o).length ≤ 30 := Nat.le_trans (List.length_filterMap_le _ _) (linesD_len x)
theorem lineTurn_map (o : Str) (ls : List (Str × Str)) : (ls.map pairD).filterMap (lineTurn o) = (ls.filterMap (keepSide o)).map .str := by
  induction ls with
  | nil => rfl
  | cons p ls ih =>
    rw [List.map_cons, List.filterMap_cons, List.filterMap_cons, ih]
    have : lineTurn o (pairD p) = (keepSide o p).map .str := rfl
    rw [this]
    cases keepSide o p <;> rfl

set_option maxHeartbeats 4000000 in
theorem law_piece {C : Cx} {x : Int} {K : PyData → Prop} (hp : okPath (pathD (x / 1024)) = true) (k : K (pieceD x)) : Fn C 2 (.ref 212) [.int x] K := by
  refine Fn.of (n := 1) (names := [Str.ofString "x"]) (ds' := [.int x]) (by rfl) (by rfl) (binds_one fun _ => by rfl) (kind_one fun _ => .inr ⟨by rfl, by rfl⟩) (by rfl) (by rfl) (by rfl) (by rfl) ?_
  dsimp only
  intro L
  refine Exs.cons (Ex.assignComp (cl := _) (fv := [Str.ofString "x"]) (by rfl) ?_ ?_ ?_ ?_)
  · walk_at "clos"
  · walk_at "clos"
  · walk_at "own"
  refine Src.list ?_
  repeat' (walk_at "lws")
  intro L1
  refine CompK.map (sideTurn x) (by rw [sizeLine_eq]; decide) (fun d hd => ?_) ?_
  · obtain ⟨o, rfl⟩ : ∃ o, d = .str o := by
      simp only [List.mem_cons, List.not_mem_nil, or_false] at hd
      rcases hd with rfl | rfl <;> exact ⟨_, rfl⟩
    refine Asg.name ⟨(Sub.refl _).upd, ?_⟩ (by show Nat.ble (L1 + 1) (L1 + 1) = true; exact Nat.ble_eq.mpr (Nat.le_refl _))
    refine Ev.comp (cl := _) (fv := [Str.ofString "other"]) (by rfl) ?_ ?_ ?_ ?_
    · walk_at "clos"
    · walk_at "clos"
    · walk_at "own"
    refine Src.list ?_
    refine Ev.fn188 (Nat.le_refl _) ?_ (by rfl) (by rfl) (by simp)
    repeat' (walk_at "lws")
    refine law_lines ?_
    with_reducible refine list_ex ?_
    intro L2
    have hl := linesD_len x
    refine CompK.filterMap (lineTurn o) _ [] _ _ (.refl _) (by simp [sizeLine_eq]; omega) (fun d hd => ?_) ?_
    · obtain ⟨⟨t, l⟩, hm, rfl⟩ := List.mem_map.mp hd
      refine Asg.tuple (ds := [.str t, .str l]) (.inl rfl) (by rfl) ?_
      refine Asg.name (Asg.name ⟨(Sub.refl _).upd.upd, ?_⟩)
      refine Tst.cmp ?_
      repeat' (walk_at "lws")
      refine op_in_strs (xs := [Str.ofString "  ", o]) ?_
      repeat' (walk_at "lws")
      · rename_i h
        simp only [lineTurn, pairD, keepSide, if_pos h, Option.map_some]
      · rename_i h
        simp only [lineTurn, pairD, keepSide, if_neg h, Option.map_none]
    · rw [List.nil_append, lineTurn_map]
      rfl
  have hl1 := sideD_len x (Str.ofString "- ")
  have hl2 := sideD_len x (Str.ofString "+ ")
  simp only [List.map_cons, List.map_nil]
  dsimp only [sideTurn]
  refine Exs.cons (Ex.ret (Ev.bin (Ev.bin ?_)))
  refine Ev.list (Evs.cons (Ev.fn195 (Nat.le_refl _) (Evs.cons (Ev.fn183 (Nat.le_refl _) ?_ (by rfl) (by rfl) (by simp))) (by rfl) (by rfl) (by simp)))
  repeat' (walk_at "lws")
  refine law_path ?_
  repeat' (walk_at "lws")
  refine law_place hp ?_
  repeat' (walk_at "lws")
  refine Ev.comp (cl := _) (fv := []) (by rfl) ?_ ?_ ?_ ?_
  · walk_at "clos"
  · walk_at "clos"
  · walk_at "own"
  refine Src.list ?_
  repeat' (walk_at "lws")
  intro L2
  refine CompK.map lenTurn (by rw [sizeLine_eq]; exact Nat.le_of_ble_eq_true rfl) (fun d hd => ?_) ?_
  · obtain ⟨o, ho, rfl⟩ : ∃ o, o.length ≤ 30 ∧ d = strsD o := by
      simp only [List.mem_cons, List.not_mem_nil, or_false] at hd
      rcases hd with rfl | rfl
      · exact ⟨_, hl1, rfl⟩
      · exact ⟨_, hl2, rfl⟩
    refine Asg.name ⟨(Sub.refl _).upd, ?_⟩
    repeat' (walk_at "lws")
    refine vop_len_list (by rw [List.length_map, sizeLine_eq]; omega) ?_
    repeat' (walk_at "lws")
    rfl
  refine op_add_list ?_ (by rw [sizeLine_eq]; exact Nat.le_of_ble_eq_true rfl)
  repeat' (walk_at "lws")
  refine op_add_list ?_ (by rw [sizeLine_eq]; exact Nat.le_of_ble_eq_true rfl)
  show K _
  have e : lenTurn (strsD (sideD x (Str.ofString "- "))) = .int ((sideD x (Str.ofString "- ")).length : Nat) := by simp [lenTurn, strsD]
  have e2 : lenTurn (strsD (sideD x (Str.ofString "+ "))) = .int ((sideD x (Str.ofString "+ ")).length : Nat) := by simp [lenTurn, strsD]
  simp only [List.map_cons, List.map_nil, e, e2]
  exact k
end
section

/-! the sort of fewer than 64 things, as a tree of questions -/
structure Ord (n : Nat) (lt : Nat → Nat → Bool) : Prop where
  asymm : ∀ a b, a < n → b < n → lt a b = true → lt b a = false
  trans : ∀ a b c, a < n → b < n → c < n → lt b a = false → lt c b = false → lt c a = false

noncomputable def sp {α : Type} (n : Nat) (lt : Nat → Nat → Bool) : KasT α → (α → Prop) → Prop
  | .ret a, Q => Q a
  | .ask i j k, Q => i < n ∧ j < n ∧ sp n lt (k (lt i j)) Q
theorem sp.mono {α : Type} {n : Nat} {lt : Nat → Nat → Bool} {Q Q' : α → Prop} (h : ∀ a, Q a → Q' a) : ∀ {t : KasT α}, sp n lt t Q → sp n lt t Q'
  | .ret a, x => h a x
  | .ask i j k, ⟨a, b, x⟩ => ⟨a, b, sp.mono h x⟩
theorem sp.bind {α β : Type} {n : Nat} {lt : Nat → Nat → Bool} {f : α → KasT β} {Q : β → Prop} : ∀ {t : KasT α}, sp n lt t (fun a => sp n lt (f a) Q) → sp n lt (t.bind f) Q
  | .ret a, x => x
  | .ask i j k, ⟨a, b, x⟩ => ⟨a, b, sp.bind x⟩
theorem sp.run {α : Type} {n : Nat} {lt : Nat → Nat → Bool} {cmp : Nat → Nat → (Bool → Shared → Prop) → Shared → Prop} {s : Shared} (hc : ∀ i j, i < n → j < n → ∀ C : Bool → Shared → Prop, C (lt i j) s → cmp i j C s) {Q : α → Prop} {G : α → Shared → Prop} (h : ∀ a, Q a → G a s) :
    ∀ {t : KasT α}, sp n lt t Q → t.kasWp cmp G s
  | .ret a, x => h a x
  | .ask i j k, ⟨a, b, x⟩ => hc i j a b _ (sp.run hc h x)

section
variable {n : Nat} {lt : Nat → Nat → Bool}
noncomputable def at' (p : Array Nat) (i : Nat) : Nat := p.getD i 0
noncomputable def Below (n : Nat) (p : Array Nat) : Prop := ∀ i, at' p i < n
noncomputable def Up (lt : Nat → Nat → Bool) (p : Array Nat) (k : Nat) : Prop := ∀ i j, i < j → j < k → lt (at' p j) (at' p i) = false
noncomputable def Down (lt : Nat → Nat → Bool) (p : Array Nat) (k : Nat) : Prop := ∀ i j, i < j → j < k → lt (at' p i) (at' p j) = false

theorem at_of {p q : Array Nat} {i j : Nat} (h : p[i]? = q[j]?) : at' p i = at' q j := by
  simp only [at', Array.getD_eq_getD_getElem?, h]
theorem at_rev {p : Array Nat} {i j : Nat} (hj : j ≤ p.size) (k : Nat) : at' (kas_rev p i j) k = if i ≤ k ∧ k < j then at' p (i + j - 1 - k) else at' p k := by
  have e := getElem?_mirror_all (xs := p) (i := i) hj k
  by_cases h : i ≤ k ∧ k < j
  · rw [if_pos h] at e ⊢; exact at_of e
  · rw [if_neg h] at e ⊢; exact at_of e
theorem at_bubble {p : Array Nat} {src d : Nat} (hs : src < p.size) (hd : d ≤ src) (k : Nat) : at' (bubble p src d) k = if k = src - d then at' p src else if src - d < k ∧ k ≤ src then at' p (k - 1) else at' p k := by
  have e := getElem?_bubble hs d hd k
  by_cases h1 : k = src - d
  · rw [if_pos h1] at e ⊢; exact at_of e
  · rw [if_neg h1] at e ⊢
    by_cases h2 : src - d < k ∧ k ≤ src
    · rw [if_pos h2] at e ⊢; exact at_of e
    · rw [if_neg h2] at e ⊢; exact at_of e
theorem Below.rev {p : Array Nat} (h : Below n p) {i j : Nat} (hj : j ≤ p.size) : Below n (kas_rev p i j) := fun k => by rw [at_rev hj]; split <;> exact h _
theorem Below.bubble {p : Array Nat} (h : Below n p) {src d : Nat} (hs : src < p.size) (hd : d ≤ src) : Below n (bubble p src d) := fun k => by
  rw [at_bubble hs hd]
  repeat' split
  all_goals exact h _
theorem Ord.irr (O : Ord n lt) {a : Nat} (h : a < n) : lt a a = false := by
  cases e : lt a a with
  | false => rfl
  | true => have := O.asymm a a h h e; rw [e] at this; cases this
theorem Ord.lt_le (O : Ord n lt) {a b c : Nat} (ha : a < n) (hb : b < n) (hc : c < n) (h1 : lt a b = true) (h2 : lt c b = false) : lt a c = true := by
  cases e : lt a c with
  | true => rfl
  | false => have := O.trans b c a hb hc ha h2 e; rw [h1] at this; cases this

theorem asc_sp (O : Ord n lt) {p : Array Nat} (B : Below n p) : ∀ (f k : Nat), 1 ≤ k → Up lt p k → sp n lt (kas_asc p f k) fun m => k ≤ m ∧ m ≤ k + f ∧ Up lt p m ∧ (m < k + f → lt (at' p m) (at' p (m - 1)) = true)
  | 0, k, hk, hu => ⟨Nat.le_refl _, Nat.le_refl _, hu, fun h => absurd h (Nat.lt_irrefl _)⟩
  | f + 1, k, hk, hu => by
    refine ⟨B _, B _, ?_⟩
    show sp n lt (if lt (at' p k) (at' p (k - 1)) = true then _ else _) _
    cases e : lt (at' p k) (at' p (k - 1)) with
    | true => rw [if_pos rfl]; exact ⟨Nat.le_refl _, Nat.le_add_right _ _, hu, fun _ => e⟩
    | false =>
      rw [if_neg (by decide)]
      refine sp.mono (fun m ⟨a, b, c, d⟩ => ⟨by omega, by omega, c, fun h => d (by omega)⟩) (asc_sp O B f (k + 1) (by omega) fun i j hij hj => ?_)
      by_cases hjk : j < k
      · exact hu i j hij hjk
      · have hj' : j = k := by omega
        subst hj'
        by_cases hi : i = j - 1
        · subst hi; exact e
        · exact O.trans _ _ _ (B _) (B _) (B _) (hu i (j - 1) (by omega) (by omega)) e

theorem tail3_sp (O : Ord n lt) {p : Array Nat} (B : Below n p) {k nrem : Nat} (hk : 1 ≤ k) (hn : k ≤ nrem) (hz : nrem ≤ p.size) (hd : Down lt p k) :
    sp n lt (kas_tail3 k nrem p) fun r => r.2.Perm p ∧ 1 ≤ r.1 ∧ r.1 ≤ nrem ∧ Up lt r.2 r.1 ∧ Below n r.2 := by
  have hk' : k ≤ p.size := by omega
  have B' := B.rev (i := 0) hk'
  refine sp.bind (sp.mono (fun m ⟨a, b, c, _⟩ => ⟨mirror_perm _ _ _ _, by omega, by omega, c, B'⟩) (asc_sp O B' (nrem - k) k hk fun i j hij hj => ?_))
  rw [at_rev hk', at_rev hk', if_pos ⟨Nat.zero_le _, by omega⟩, if_pos ⟨Nat.zero_le _, by omega⟩]
  exact hd _ _ (by omega) (by omega)

noncomputable def Flat (lt : Nat → Nat → Bool) (p : Array Nat) (a b : Nat) : Prop := ∀ i j, a ≤ i → i < b → a ≤ j → j < b → lt (at' p i) (at' p j) = false

theorem rev_down (O : Ord n lt) {p : Array Nat} (B : Below n p) {k a m : Nat} (hk : k ≤ p.size) (ha : a ≤ k) (hkm : k ≤ m) (hd : Down lt p m) (hf : Flat lt p a k) : Down lt (kas_rev p a k) m := fun i j hij hj => by
  rw [at_rev hk, at_rev hk]
  by_cases h1 : a ≤ i ∧ i < k
  · by_cases h2 : a ≤ j ∧ j < k
    · rw [if_pos h1, if_pos h2]; exact hf _ _ (by omega) (by omega) (by omega) (by omega)
    · rw [if_pos h1, if_neg h2]; exact hd _ _ (by omega) hj
  · by_cases h2 : a ≤ j ∧ j < k
    · rw [if_neg h1, if_pos h2]; exact hd _ _ (by omega) (by omega)
    · rw [if_neg h1, if_neg h2]; exact hd _ _ hij hj

theorem desc_sp (O : Ord n lt) : ∀ (f : Nat) (p : Array Nat) (k q : Nat), Below n p → 1 ≤ k → q + 1 ≤ k → k + f ≤ p.size → Down lt p k → Flat lt p (k - (q + 1)) k →
    sp n lt (kas_desc f p k q) fun r => r.1.Perm p ∧ Below n r.1 ∧ 1 ≤ r.2.1 ∧ r.2.2 + 1 ≤ r.2.1 ∧ r.2.1 ≤ k + f ∧ Down lt r.1 r.2.1 ∧ Flat lt r.1 (r.2.1 - (r.2.2 + 1)) r.2.1
  | 0, p, k, q, B, hk, hq, hz, hd, hf => ⟨Array.Perm.refl _, B, hk, hq, Nat.le_refl _, hd, hf⟩
  | f + 1, p, k, q, B, hk, hq, hz, hd, hf => by
    have ext : lt (at' p (k - 1)) (at' p k) = false → Down lt p (k + 1) := fun e i j hij hj => by
      by_cases hjk : j < k
      · exact hd i j hij hjk
      · have hj' : j = k := by omega
        subst hj'
        by_cases hi : i = j - 1
        · subst hi; exact e
        · exact O.trans _ _ _ (B _) (B _) (B _) e (hd i (j - 1) (by omega) (by omega))
    have one : ∀ p' : Array Nat, Below n p' → Flat lt p' (k + 1 - (0 + 1)) (k + 1) := fun p' B' i j h1 h2 h3 h4 => by
      have : i = j := by omega
      subst this; exact O.irr (B' _)
    refine ⟨B _, B _, ?_⟩
    show sp n lt (if lt (at' p k) (at' p (k - 1)) = true then _ else _) _
    cases e : lt (at' p k) (at' p (k - 1)) with
    | true =>
      rw [if_pos rfl]
      have e2 := ext (O.asymm _ _ (B _) (B _) e)
      split
      · have B' := B.rev (i := k - (q + 1)) (j := k) (by omega)
        have hs : (kas_rev p (k - (q + 1)) k).size = p.size := mirror_size _ _ _ _
        refine sp.mono (fun r ⟨a1, a2, a3, a4, a5, a6, a7⟩ => ⟨a1.trans (mirror_perm _ _ _ _), a2, a3, a4, by omega, a6, a7⟩)
          (desc_sp O f (kas_rev p (k - (q + 1)) k) (k + 1) 0 B' (by omega) (by omega) (by omega) (rev_down O B (by omega) (by omega) (by omega) e2 hf) (one _ B'))
      · refine sp.mono (fun r ⟨a1, a2, a3, a4, a5, a6, a7⟩ => ⟨a1, a2, a3, a4, by omega, a6, a7⟩) (desc_sp O f p (k + 1) 0 B (by omega) (by omega) (by omega) e2 (one _ B))
    | false =>
      rw [if_neg (by decide)]
      refine ⟨B _, B _, ?_⟩
      show sp n lt (if lt (at' p (k - 1)) (at' p k) = true then _ else _) _
      cases e2 : lt (at' p (k - 1)) (at' p k) with
      | true => rw [if_pos rfl]; exact ⟨Array.Perm.refl _, B, hk, hq, Nat.le_add_right _ _, hd, hf⟩
      | false =>
        rw [if_neg (by decide)]
        refine sp.mono (fun r ⟨a1, a2, a3, a4, a5, a6, a7⟩ => ⟨a1, a2, a3, a4, by omega, a6, a7⟩) (desc_sp O f p (k + 1) (q + 1) B (by omega) (by omega) (by omega) (ext e2) fun i j h1 h2 h3 h4 => ?_)
        by_cases hi : i = k
        · by_cases hj : j = k
          · rw [hi, hj]; exact O.irr (B _)
          · subst hi
            exact O.trans _ _ _ (B _) (B _) (B _) (hf (i - 1) j (by omega) (by omega) (by omega) (by omega)) e
        · by_cases hj : j = k
          · subst hj
            exact O.trans _ _ _ (B _) (B _) (B _) e2 (hf i (j - 1) (by omega) (by omega) (by omega) (by omega))
          · exact hf i j (by omega) (by omega) (by omega) (by omega)

theorem descPart_sp (O : Ord n lt) {p : Array Nat} (B : Below n p) {k nrem : Nat} (hk : 1 ≤ k) (hn : k + 1 ≤ nrem) (hz : nrem ≤ p.size) (hd : Down lt p (k + 1)) :
    sp n lt (kas_descPart k nrem p) fun r => r.2.Perm p ∧ 1 ≤ r.1 ∧ r.1 ≤ nrem ∧ Up lt r.2 r.1 ∧ Below n r.2 := by
  refine sp.bind (sp.mono (fun r ⟨a1, a2, a3, a4, a5, a6, a7⟩ => ?_) (desc_sp O (nrem - (k + 1)) p (k + 1) 0 B (by omega) (by omega) (by omega) hd fun i j h1 h2 h3 h4 => by
    have : i = j := by omega
    subst this; exact O.irr (B _)))
  have hs : r.1.size = p.size := a1.size_eq
  split
  · have hs2 : (kas_rev r.1 (r.2.1 - (r.2.2 + 1)) r.2.1).size = r.1.size := mirror_size _ _ _ _
    refine sp.mono (fun m ⟨b1, b2, b3, b4, b5⟩ => ⟨b1.trans ((mirror_perm _ _ _ _).trans a1), b2, b3, b4, b5⟩) (tail3_sp O (a2.rev (by omega)) a3 (by omega) (by omega) (rev_down O a2 (by omega) (by omega) (Nat.le_refl _) a6 a7))
  · exact sp.mono (fun m ⟨b1, b2, b3, b4, b5⟩ => ⟨b1.trans a1, b2, b3, b4, b5⟩) (tail3_sp O a2 a3 (by omega) (by omega) a6)

theorem count_sp (O : Ord n lt) {p : Array Nat} (B : Below n p) {nrem : Nat} (hn : 1 ≤ nrem) (hz : nrem = p.size) :
    sp n lt (kas_count nrem p) fun r => r.2.Perm p ∧ 1 ≤ r.1 ∧ r.1 ≤ nrem ∧ Up lt r.2 r.1 ∧ Below n r.2 := by
  refine sp.bind (sp.mono (fun m ⟨a1, a2, a3, a4⟩ => ?_) (asc_sp O B (nrem - 1) 1 (Nat.le_refl _) fun i j hij hj => by omega))
  split
  · exact ⟨Array.Perm.refl _, a1, by omega, a3, B⟩
  · rename_i hne
    have hne' : m ≠ nrem := fun h => hne (by rw [h]; exact beq_self_eq_true _)
    have e := a4 (by omega)
    have em := O.asymm _ _ (B _) (B _) e
    split
    · refine ⟨B _, B _, ?_⟩
      show sp n lt (if lt (at' p 0) (at' p (m - 1)) = true then _ else _) _
      cases e0 : lt (at' p 0) (at' p (m - 1)) with
      | true => rw [if_pos rfl]; exact ⟨Array.Perm.refl _, a1, by omega, a3, B⟩
      | false =>
        rw [if_neg (by decide)]
        have flat : ∀ i j, i < m → j < m → lt (at' p i) (at' p j) = false := fun i j hi hj => by
          have le : ∀ i j, i ≤ j → j < m → lt (at' p j) (at' p i) = false := fun i j hij hj => by
            by_cases q : i = j
            · rw [q]; exact O.irr (B _)
            · exact a3 i j (by omega) hj
          exact O.trans _ _ _ (B _) (B _) (B _) (le j (m - 1) (by omega) (by omega)) (O.trans _ _ _ (B _) (B _) (B _) e0 (le 0 i (by omega) hi))
        have hs : (kas_rev p 0 m).size = p.size := mirror_size _ _ _ _
        have hm : m ≤ p.size := by omega
        refine sp.mono (fun r ⟨b1, b2, b3, b4, b5⟩ => ⟨b1.trans (mirror_perm _ _ _ _), b2, b3, b4, b5⟩) (descPart_sp O (B.rev (i := 0) hm) a1 (by omega) (by omega) fun i j hij hj => ?_)
        rw [at_rev hm, at_rev hm, if_pos ⟨Nat.zero_le _, by omega⟩]
        by_cases q : j < m
        · rw [if_pos ⟨Nat.zero_le _, q⟩]; exact flat _ _ (by omega) (by omega)
        · rw [if_neg (by omega)]
          have : j = m := by omega
          subst this
          exact O.trans _ _ _ (B _) (B _) (B _) em (flat (0 + j - 1 - i) (j - 1) (by omega) (by omega))
    · have hm : m = 1 := by omega
      subst hm
      refine descPart_sp O B (by omega) (by omega) (by omega) fun i j hij hj => ?_
      have hi : i = 0 := by omega
      have hj' : j = 1 := by omega
      subst hi hj'
      exact em

theorem place_sp (O : Ord n lt) {p : Array Nat} (B : Below n p) {k : Nat} (hu : Up lt p k) : ∀ (f l r : Nat), l ≤ r → r ≤ k → r - l ≤ f → (∀ j, j < l → lt (at' p k) (at' p j) = false) → (∀ j, r ≤ j → j < k → lt (at' p k) (at' p j) = true) →
    sp n lt (kas_place p k f l r) fun m => m ≤ k ∧ (∀ j, j < m → lt (at' p k) (at' p j) = false) ∧ (∀ j, m ≤ j → j < k → lt (at' p k) (at' p j) = true)
  | 0, l, r, hl, hr, hf, h1, h2 => by
    have : l = r := by omega
    subst this
    exact ⟨hr, h1, h2⟩
  | f + 1, l, r, hl, hr, hf, h1, h2 => by
    unfold kas_place
    split
    · have : l = r := by omega
      subst this
      exact ⟨hr, h1, h2⟩
    · refine ⟨B _, B _, ?_⟩
      show sp n lt (if lt (at' p k) (at' p ((l + r) / 2)) = true then _ else _) _
      cases e : lt (at' p k) (at' p ((l + r) / 2)) with
      | true =>
        rw [if_pos rfl]
        refine place_sp O B hu f l ((l + r) / 2) (by omega) (by omega) (by omega) h1 fun j hj hjk => ?_
        by_cases hm : j = (l + r) / 2
        · rw [hm]; exact e
        · exact O.lt_le (B _) (B _) (B _) e (hu _ _ (by omega) hjk)
      | false =>
        rw [if_neg (by decide)]
        refine place_sp O B hu f ((l + r) / 2 + 1) r (by omega) hr (by omega) (fun j hj => ?_) h2
        by_cases hm : j = (l + r) / 2
        · rw [hm]; exact e
        · exact O.trans _ _ _ (B _) (B _) (B _) (hu j ((l + r) / 2) (by omega) (by omega)) e

theorem bin_sp (O : Ord n lt) : ∀ (f : Nat) (p : Array Nat) (k : Nat), Below n p → k + f = p.size → Up lt p k → sp n lt (kas_bin f p k) fun r => r.Perm p ∧ Up lt r p.size
  | 0, p, k, B, hz, hu => ⟨Array.Perm.refl _, by rw [← hz]; exact hu⟩
  | f + 1, p, k, B, hz, hu => by
    refine sp.bind (sp.mono (fun m ⟨h0, h1, h2⟩ => ?_) (place_sp O B hu k 0 k (Nat.zero_le _) (Nat.le_refl _) (by omega) (fun j hj => by omega) (fun j hj hjk => by omega)))
    have hk : k < p.size := by omega
    have hs : (bubble p k (k - m)).size = p.size := bubble_size _ _ _
    have at_ := fun j => at_bubble hk (d := k - m) (by omega) j
    rw [show k - (k - m) = m by omega] at at_
    refine sp.mono (fun r ⟨a, b⟩ => ⟨a.trans (bubble_perm _ _ _), by rw [hs] at b; exact b⟩) (bin_sp O f (bubble p k (k - m)) (k + 1) (B.bubble hk (by omega)) (by omega) fun i j hij hj => ?_)
    rw [at_ i, at_ j]
    by_cases j1 : j = m
    · rw [if_pos j1, if_neg (by omega), if_neg (by omega)]
      exact h1 i (by omega)
    · rw [if_neg j1]
      by_cases j2 : m < j ∧ j ≤ k
      · rw [if_pos j2]
        by_cases i1 : i = m
        · rw [if_pos i1]
          exact O.asymm _ _ (B _) (B _) (h2 (j - 1) (by omega) (by omega))
        · rw [if_neg i1]
          by_cases i2 : m < i ∧ i ≤ k
          · rw [if_pos i2]; exact hu _ _ (by omega) (by omega)
          · rw [if_neg i2]; exact hu _ _ (by omega) (by omega)
      · rw [if_neg j2, if_neg (by omega), if_neg (by omega)]
        exact hu _ _ hij (by omega)

theorem range_at (n i : Nat) : at' (List.toArray (List.range n)) i = if i < n then i else 0 := by
  unfold at'
  rw [Array.getD_eq_getD_getElem?]
  by_cases h : i < n
  · rw [if_pos h]; simp [h]
  · rw [if_neg h]; simp [h]
theorem sort_sp (O : Ord n lt) (hn : 1 ≤ n) : sp n lt (kas_sort n) fun p => p.Perm (List.toArray (List.range n)) ∧ Up lt p n := by
  have hs : (List.toArray (List.range n)).size = n := by simp
  have B : Below n (List.toArray (List.range n)) := fun i => by rw [range_at]; split <;> omega
  refine sp.bind (sp.mono (fun r ⟨a1, a2, a3, a4, a5⟩ => ?_) (count_sp O B hn hs.symm))
  have hr : r.2.size = n := by rw [a1.size_eq, hs]
  split
  · refine sp.mono (fun p ⟨b1, b2⟩ => ⟨b1.trans a1, by rw [hr] at b2; exact b2⟩) (bin_sp O _ r.2 (max r.1 1) a5 (by omega) ?_)
    rw [Nat.max_eq_left a2]; exact a4
  · have : r.1 = n := by omega
    rw [this] at a4
    exact ⟨a1, a4⟩
end
end
section

section
variable {C : Cx} {n : Nat}

theorem oneLt_rel {A : Around} {g : View} {s : Shared} {v u : Value} {xs ys : List PyData} {Q : Bool → Shared → Prop} {E : Value → Shared → Prop} (st : St C g s) (hu : A.units + 62 < cLine) (rv : Rel g v (.list xs)) (ru : Rel g u (.list ys)) (hc : cpts xs ys = true) (hd : PyData.depthAll xs ≤ 60)
    (h : Q (ltDs xs ys) s) : wpAny C.M A (keyLt' oneType' v u) Q E s := by
  rw [keyLt'_oneType, oneLt'_eq]
  simp only [if_true]
  cases rv with
  | @list a vs k _ h1 r1 => cases ru with
    | @list b us m _ h2 r2 =>
      have l1 := r1.length
      have l2 := r2.length
      simp only [Array.length_toList] at l1 l2
      have H1 := st.sub _ _ h1
      have H2 := st.sub _ _ h2
      refine wpAny_bind (wpAny_cRoomFor (by omega) ?_)
      have it : ∀ j (h1' : j < vs.size) (h2' : j < us.size), Rel g vs[j] (xs.getD j .none) ∧ Rel g us[j] (ys.getD j .none) ∧ cpt (xs.getD j .none) (ys.getD j .none) = true ∧ (xs.getD j .none).depth ≤ 60 := fun j h1' h2' => by
        obtain ⟨d, hd', rd⟩ := r1.get (i := j) (v := vs[j]) (by simp [h1'])
        obtain ⟨e, he, re⟩ := r2.get (i := j) (v := us[j]) (by simp [h2'])
        have e1 : xs.getD j .none = d := by rw [List.getD_eq_getElem?_getD, hd']; rfl
        have e2 : ys.getD j .none = e := by rw [List.getD_eq_getElem?_getD, he]; rfl
        rw [e1, e2]
        exact ⟨rd, re, cpts_get j hc hd' he, Nat.le_trans (depthAll_le (List.mem_of_getElem? hd')) hd⟩
      refine wpAny_bind (wpAny_callSpecialIfBound?_slot ⟨_, H1, rfl⟩ PySem.F.slot_list_lt (call_meets PySem.F.slot_list_lt ⟨_, H1, rfl⟩ PySem.F.entry_list_lt (PySem.F.args_list_lt_2 _ _)
        (list_ltAt a b vs us k m (fun j => eqD (xs.getD j .none) (ys.getD j .none)) (fun j => ltD (xs.getD j .none) (ys.getD j .none)) (ltFrom xs ys) (fun i => by rw [ltFrom_step, l1, l2])) ⟨H1, H2, fun j h1' h2' => ?_, fun j h1' h2' _ => ?_, ?_⟩))
      · obtain ⟨a1, a2, a3, a4⟩ := it j h1' h2'
        exact eqAt_rel st 60 a4 (by show A.units + 1 + 60 < cLine; omega) a1 a2 a3
      · obtain ⟨a1, a2, a3, a4⟩ := it j h1' h2'
        exact ltAt_rel st 60 a4 (by show A.units + 1 + 60 < cLine; omega) a1 a2 a3
      · rw [ltFrom_zero]
        exact wpAny_truthy_bool h


noncomputable abbrev ltX (xs : List (List PyData)) (i j : Nat) : Bool := ltDs (xs.getD i []) (xs.getD j [])

theorem list_sort_rel {A : Around} {g : View} {s : Shared} {E : Value → Shared → Prop} {a : Addr} {vs : List Value} {k : Nat} {xs : List (List PyData)} {P : PySem.Fin → Shared → Prop} (st : St C g s) (ga : g a = none) (ho : s.heap.get? a = some (seqObj "list" vs.toArray k)) (r : RelAll g vs (xs.map .list))
    (h2 : 2 ≤ xs.length) (h64 : xs.length < 64) (hu : A.units + 62 < cLine) (hc : ∀ x ∈ xs, ∀ y ∈ xs, cpts x y = true) (hd : ∀ x ∈ xs, PyData.depthAll x ≤ 60) (O : Ord xs.length (ltX xs))
    (h : ∀ p : Array Nat, p.Perm (List.toArray (List.range xs.length)) → Up (ltX xs) p xs.length → P (.done (.ret .none)) { s with heap := sortedHeap s.heap a vs (List.toArray (p.toList.map fun i => vs.getD i Value.none)) }) :
    wpAny C.M A (Builtin.«list.sort» ⟨[.ref a], []⟩) P E s := by
  have hl := r.length
  rw [List.length_map] at hl
  have ha : a < s.heap.objs.size := Heap.lt_size ho
  rw [list_sort_plain]
  refine wpAny_bind (listItems_at ho rfl ?_)
  refine wpAny_bind (listUpdate_at ho rfl ?_ (by rw [List.size_toArray, sizeLine_eq]; omega) (Nat.zero_le _))
  obtain ⟨e1, ho1⟩ : ∃ e1, (s.heap.update a (Obj.mapSeq fun _ => (#[] : Array Value))).get? a = some (seqObj "list" #[] e1) := ⟨_, get?_update_seq ho fun _ => #[]⟩
  refine wpAny_bind (seqEpoch_at ho1 rfl ?_)
  refine wpAny_bind (wpAny_newTuple ?_ (by show vs.length ≤ _; rw [sizeLine_eq]; omega))
  refine wpAny_bind (wpAny_newList ?_ (Nat.zero_le _))
  refine wpAny_holding ?_
  have ho6 : (((s.heap.update a (Obj.mapSeq fun _ => (#[] : Array Value))).push (seqObj "tuple" vs.toArray 0)).push (seqObj "list" #[] 0)).get? a = some (seqObj "list" #[] e1) := Heap.get?_push_of_some _ (Heap.get?_push_of_some _ ho1)
  have st6 : St C g { s with heap := ((s.heap.update a (Obj.mapSeq fun _ => (#[] : Array Value))).push (seqObj "tuple" vs.toArray 0)).push (seqObj "list" #[] 0) } :=
    ⟨st.base, fun b o e => Heap.get?_push_of_some _ (Heap.get?_push_of_some _ (by
      rw [Heap.get?_update_other _ _ (fun q : a = b => by rw [← q, ga] at e; cases e)]
      exact st.sub b o e)), st.gens, st.os⟩
  show wpAny C.M A _ P E { s with heap := ((s.heap.update a (Obj.mapSeq fun _ => (#[] : Array Value))).push (seqObj "tuple" vs.toArray 0)).push (seqObj "list" #[] 0) }
  dsimp only
  have hn2 : ¬ vs.toArray.size < 2 := by rw [List.size_toArray]; omega
  rw [if_neg hn2, if_neg hn2]
  have item : ∀ i, i < xs.length → Rel g (vs.getD i Value.none) (.list (xs.getD i [])) := fun i hi => by
    have hv : vs[i]? = some (vs.getD i Value.none) := by rw [List.getD_eq_getElem?_getD, List.getElem?_eq_getElem (by omega)]; rfl
    obtain ⟨d, hd', rd⟩ := r.get hv
    rw [List.getElem?_map, List.getElem?_eq_getElem hi] at hd'
    have : xs.getD i [] = xs[i] := by simp [hi]
    rw [this]
    cases hd'; exact rd
  have memx : ∀ i, i < xs.length → xs.getD i [] ∈ xs := fun i hi => by
    have : xs.getD i [] = xs[i] := by simp [hi]
    rw [this]; exact List.getElem_mem hi
  refine wpAny_bind (kas_kind (T := .type "list") (by omega) (fun v hv => ?_) (by decide) (by decide) ?_)
  · obtain ⟨i, hi, rfl⟩ := List.mem_iff_getElem.mp hv
    have := item i (by omega)
    have e : vs.getD i Value.none = vs[i] := by simp [hi]
    rw [e] at this
    generalize vs[i] = v at this
    cases this with
    | list h1 _ => exact fun A' Q E' s' kk q => wpAny_typeOf (T := "list") ⟨_, kk _ _ (st6.sub _ _ h1), rfl⟩ q
  have est : SortSt.mk' oneType' (vs.toArray.zip vs.toArray) #[] 7 none = kas_st oneType' (pairsOf vs) (List.toArray (List.range xs.length)) := by
    have e := kas_range (pairsOf vs)
    rw [pairsOf_size, hl] at e
    show SortSt.mk' oneType' (pairsOf vs) #[] 7 none = SortSt.mk' oneType' ((List.toArray (List.range xs.length)).map (kas_item (pairsOf vs))) #[] 7 none
    rw [e]
  have ask : (kas_sort xs.length).kasWp (kas_cmp C.prog C.w A oneType' (pairsOf vs)) (fun p s' => s' = { s with heap := ((s.heap.update a (Obj.mapSeq fun _ => (#[] : Array Value))).push (seqObj "tuple" vs.toArray 0)).push (seqObj "list" #[] 0) } ∧ p.Perm (List.toArray (List.range xs.length)) ∧ Up (ltX xs) p xs.length)
      { s with heap := ((s.heap.update a (Obj.mapSeq fun _ => (#[] : Array Value))).push (seqObj "tuple" vs.toArray 0)).push (seqObj "list" #[] 0) } := by
    refine sp.run (fun i j hi hj K hK => ?_) (fun p hp => ⟨rfl, hp⟩) (sort_sp O (by omega))
    unfold kas_cmp
    rw [kas_item_eq, kas_item_eq]
    exact oneLt_rel st6 hu (item i hi) (item j hj) (hc _ (memx i hi) _ (memx j hj)) (hd _ (memx i hi)) hK
  have run := kas_runs (E := E) (Q := fun _ st' s' => ∃ p : Array Nat, arrOf st' = p.map (kas_item (pairsOf vs)) ∧ failedOf st' = none ∧ s' = { s with heap := ((s.heap.update a (Obj.mapSeq fun _ => (#[] : Array Value))).push (seqObj "tuple" vs.toArray 0)).push (seqObj "list" #[] 0) } ∧ p.Perm (List.toArray (List.range xs.length)) ∧ Up (ltX xs) p xs.length)
    h2 h64 (fun p' st' s' a1 a2 a3 a4 => ⟨p', a2, a3, a4⟩) ask
  rw [← est] at run
  refine wpAny_bind (wpAny_mono run ?_ fun _ _ e => e)
  rintro ⟨⟨⟩, st'⟩ s' ⟨p, har, hf, rfl, hp, hs⟩
  dsimp only
  have hout : (arrOf st').map (·.2) = List.toArray (p.toList.map fun i => vs.getD i Value.none) := by
    apply Array.toList_inj.mp
    rw [har, Array.map_map, Array.toList_map]
    exact List.map_congr_left fun i _ => by show (kas_item (pairsOf vs) i).2 = _; rw [kas_item_eq]
  have hpz : p.size = xs.length := by rw [hp.size_eq]; simp
  rw [hout]
  refine wpAny_bind (seqEpoch_at ho6 rfl ?_)
  refine wpAny_bind (listUpdate_at ho6 rfl ?_ (Nat.zero_le _) (by rw [List.size_toArray, List.length_map, Array.length_toList, hpz, sizeLine_eq]; omega))
  rw [hf]
  simp only [bne_self_eq_false, Bool.false_eq_true, if_false]
  exact wpAny_pure (h p hp hs)

theorem vop_sorted {xs : List (List PyData)} {K : PyData → Prop} (h2 : 2 ≤ xs.length) (h64 : xs.length < 64) (hc : ∀ x ∈ xs, ∀ y ∈ xs, cpts x y = true) (hd : ∀ x ∈ xs, PyData.depthAll x ≤ 60) (O : Ord xs.length (ltX xs))
    (k : ∀ ys : List (List PyData), ys.Perm xs → ys.Pairwise (fun a b => ltDs b a = false) → K (.list (ys.map .list))) : Vop C n (fun vs => PySem.call (.builtin "sorted") vs) [.list (xs.map .list)] K := by
  intro A g s Q E vs0 r st rv q
  obtain ⟨v, rfl, r1⟩ := rv.one
  cases r1 with
  | @list l us m _ hl rr =>
    obtain ⟨vs⟩ := us
    have rr : RelAll g vs (xs.map .list) := rr
    have hlen := rr.length
    rw [List.length_map] at hlen
    refine Calls.call_function_entry kind_sorted plain_sorted entry_sorted (args_sorted1 _) ?_
    unfold Builtin.«sorted»
    refine wpAny_bind (m := checkCount "sorted" 1 1 _) (wpAny_pure ?_)
    refine wpAny_bind (collect_list (vs := vs) (IsL.isList (st.sub _ _ hl)) ?_ (by rw [sizeLine_eq]; omega))
    refine wpAny_bind (wpAny_newList ?_ (by rw [sizeLine_eq]; omega))
    have hsz : ((s.heap.push (seqObj "list" #[] 0)).update s.heap.objs.size (Obj.mapSeq (· ++ vs.toArray))).objs.size = s.heap.objs.size + 1 := by
      rw [Heap.size_update, size_push']
    have hoL : (((s.heap.push (seqObj "list" #[] 0)).update s.heap.objs.size (Obj.mapSeq (· ++ vs.toArray))).push (seqObj "list" vs.toArray 0)).get? (s.heap.objs.size + 1) = some (seqObj "list" vs.toArray 0) := by
      rw [← hsz]; exact Heap.get?_push_size _ rfl
    have keep : ∀ b o, s.heap.get? b = some o → (((s.heap.push (seqObj "list" #[] 0)).update s.heap.objs.size (Obj.mapSeq (· ++ vs.toArray))).push (seqObj "list" vs.toArray 0)).get? b = some o := fun b o q => by
      have hlt : b < s.heap.objs.size := Heap.lt_size q
      rw [Heap.get?_push_ne _ _ _ (by rw [hsz]; exact Nat.ne_of_lt (Nat.lt_succ_of_lt hlt)), Heap.get?_update_ne _ _ _ _ (Nat.ne_of_lt hlt), Heap.get?_push_ne _ _ _ (Nat.ne_of_lt hlt)]
      exact q
    show wpAny _ _ _ _ _ { s with heap := ((s.heap.push (seqObj "list" #[] 0)).update s.heap.objs.size (Obj.mapSeq (· ++ vs.toArray))).push (seqObj "list" vs.toArray 0) }
    rw [hsz]
    have nD : s.heap.get? (s.heap.objs.size + 1) = none := Heap.get?_none_of_le (Nat.le_succ _)
    have gD : g (s.heap.objs.size + 1) = none := st.none_of nD
    have st2 : St C g { s with heap := ((s.heap.push (seqObj "list" #[] 0)).update s.heap.objs.size (Obj.mapSeq (· ++ vs.toArray))).push (seqObj "list" vs.toArray 0) } := ⟨st.base, fun b o e => keep b o (st.sub b o e), st.gens, st.os⟩
    refine wpAny_bind (wpAny_holding (wpAny_call_entry slot_list_sort ⟨_, hoL, rfl⟩ entry_list_sort ?body (args_list_sort _)))
    case body =>
      have hu := r.units
      refine list_sort_rel (A := A.in1.in1) st2 gD hoL rr h2 h64 (by show A.units + 1 + 1 + 62 < cLine; omega) hc hd O fun p hp hs => ?_
      generalize hout : List.toArray (p.toList.map fun i => vs.getD i Value.none) = out
      have hpz : p.size = xs.length := by rw [hp.size_eq]; simp
      have hpi : ∀ i ∈ p.toList, i < xs.length := fun i hi => by
        have := (hp.mem_iff (a := i)).mp (by simpa using hi)
        simpa using this
      generalize hh : ((s.heap.push (seqObj "list" #[] 0)).update s.heap.objs.size (Obj.mapSeq (· ++ vs.toArray))).push (seqObj "list" vs.toArray 0) = H at *
      obtain ⟨e1, ho1⟩ : ∃ e1, (H.update (s.heap.objs.size + 1) (Obj.mapSeq fun _ => (#[] : Array Value))).get? (s.heap.objs.size + 1) = some (seqObj "list" #[] e1) := ⟨_, get?_update_seq hoL fun _ => #[]⟩
      have ho6 := Heap.get?_push_of_some (seqObj "list" #[] 0) (Heap.get?_push_of_some (seqObj "tuple" vs.toArray 0) ho1)
      obtain ⟨e2, ho2⟩ : ∃ e2, (sortedHeap H (s.heap.objs.size + 1) vs out).get? (s.heap.objs.size + 1) = some (LO out e2) := ⟨_, get?_update_seq ho6 fun _ => out⟩
      have keep2 : ∀ b o, s.heap.get? b = some o → (sortedHeap H (s.heap.objs.size + 1) vs out).get? b = some o := fun b o e => by
        have hb : s.heap.objs.size + 1 ≠ b := fun q => by rw [← q, nD] at e; cases e
        unfold sortedHeap
        rw [Heap.get?_update_other _ _ hb]
        refine Heap.get?_push_of_some _ (Heap.get?_push_of_some _ ?_)
        rw [Heap.get?_update_other _ _ hb]
        exact keep b o e
      have lset : Le g (g.set (s.heap.objs.size + 1) (LO out e2)) := Le.set gD
      have G : Grow C g s (g.set (s.heap.objs.size + 1) (LO out e2)) { s with heap := sortedHeap H (s.heap.objs.size + 1) vs out } := by
        refine ⟨⟨fun b o e => lset b o (st.base b o e), fun b o e => ?_, st.gens, st.os⟩, keep2, fun b o e => View.set_ne _ _ (fun q => by rw [q, nD] at e; cases e)⟩
        by_cases qb : b = s.heap.objs.size + 1
        · subst qb; rw [View.set_self] at e; cases e; exact ho2
        · rw [View.set_ne _ _ qb] at e; exact keep2 b o (st.sub b o e)
      have hperm : (p.toList.map fun i => xs.getD i []).Perm xs := by
        have h1 : (p.toList.map fun i => xs.getD i []).Perm ((List.range xs.length).map fun i => xs.getD i []) := by
          have := hp.toList
          exact List.Perm.map _ (by simpa using this)
        have h2' : (List.range xs.length).map (fun i => xs.getD i []) = xs := by
          apply List.ext_getElem (by simp)
          intro i h1 h2
          simp at h1
          simp [h1]
        rw [h2'] at h1; exact h1
      have hpw : (p.toList.map fun i => xs.getD i []).Pairwise (fun a b => ltDs b a = false) := by
        rw [List.pairwise_map, List.pairwise_iff_getElem]
        intro i j hi hj hij
        simp only [Array.length_toList] at hi hj
        have := hs i j hij (by omega)
        unfold at' at this
        simpa [ltX, Array.getD, hi, hj] using this
      refine ⟨_, rfl, wpAny_pure ⟨_, rfl, q _ _ _ _ (k _ hperm hpw) (.list (View.set_self ..) ?_) G⟩⟩
      subst hout
      show RelAll _ (p.toList.map fun i => vs.getD i Value.none) _
      rw [List.map_map]
      have rel : ∀ (l : List Nat), (∀ i ∈ l, i < xs.length) → RelAll g (l.map fun i => vs.getD i Value.none) (l.map (PyData.list ∘ fun i => xs.getD i [])) := by
        intro l
        induction l with
        | nil => intro _; exact .nil
        | cons i l ih =>
          intro hl
          refine .cons ?_ (ih fun j hj => hl j (.tail _ hj))
          have hi := hl i (.head _)
          have hv : vs[i]? = some (vs.getD i Value.none) := by rw [List.getD_eq_getElem?_getD, List.getElem?_eq_getElem (by omega)]; rfl
          obtain ⟨d, hd', rd⟩ := rr.get hv
          rw [List.getElem?_map, List.getElem?_eq_getElem hi] at hd'
          have : xs.getD i [] = xs[i] := by simp [hi]
          show Rel g _ (.list (xs.getD i []))
          rw [this]
          cases hd'; exact rd
      exact (rel p.toList hpi).mono lset
end
end
section

/-! data in order -/
mutual
theorem cpt_symm : ∀ {d e : PyData}, cpt d e = true → cpt e d = true
  | .int _, .int _, _ => rfl
  | .str _, .str _, _ => rfl
  | .list xs, .list ys, h => by simp only [cpt] at h ⊢; exact cpts_symm h
  | .none, e, h => by cases e <;> simp [cpt] at h
  | .bool _, e, h => by cases e <;> simp [cpt] at h
  | .tuple _, e, h => by cases e <;> simp [cpt] at h
  | .dict _, e, h => by cases e <;> simp [cpt] at h
  | .int _, .str _, h | .int _, .list _, h | .int _, .none, h | .int _, .bool _, h | .int _, .tuple _, h | .int _, .dict _, h => by simp [cpt] at h
  | .str _, .int _, h | .str _, .list _, h | .str _, .none, h | .str _, .bool _, h | .str _, .tuple _, h | .str _, .dict _, h => by simp [cpt] at h
  | .list _, .int _, h | .list _, .str _, h | .list _, .none, h | .list _, .bool _, h | .list _, .tuple _, h | .list _, .dict _, h => by simp [cpt] at h
theorem cpts_symm : ∀ {ds es : List PyData}, cpts ds es = true → cpts es ds = true
  | [], [], _ => rfl
  | [], _ :: _, _ => by simp [cpts]
  | _ :: _, [], _ => by simp [cpts]
  | x :: xs, y :: ys, h => by
    simp only [cpts, Bool.and_eq_true] at h ⊢
    exact ⟨cpt_symm h.1, cpts_symm h.2⟩
end

noncomputable def Tri (a : Bool) (p : Prop) (b : Bool) : Prop := (a = true ∧ ¬ p ∧ b = false) ∨ (a = false ∧ p ∧ b = false) ∨ (a = false ∧ ¬ p ∧ b = true)
theorem tri_str (a b : Str) : Tri (decide (a.cps.toList < b.cps.toList)) (PyData.str a = .str b) (decide (b.cps.toList < a.cps.toList)) := by
  have e : (PyData.str a = .str b) ↔ a.cps.toList = b.cps.toList := by
    constructor
    · intro h; cases h; rfl
    · intro h; rw [Str.ext' (Array.toList_inj.mp h)]
  unfold Tri
  rw [e]
  have i1 := strKind.irrefl
  have i2 := strKind.trans
  have i3 := strKind.total
  cases h1 : strKind.blt a.cps.toList b.cps.toList with
  | true =>
    left
    refine ⟨h1, fun q => ?_, ?_⟩
    · rw [q, i1] at h1; cases h1
    · show strKind.blt b.cps.toList a.cps.toList = false
      cases h2 : strKind.blt b.cps.toList a.cps.toList with
      | false => rfl
      | true => have := i2 _ _ _ h1 h2; rw [i1] at this; cases this
  | false =>
    cases h2 : strKind.blt b.cps.toList a.cps.toList with
    | true =>
      refine .inr (.inr ⟨h1, fun q => ?_, h2⟩)
      rw [q, i1] at h2; cases h2
    | false => exact .inr (.inl ⟨h1, i3 _ _ h1 h2, h2⟩)
mutual
theorem triD : ∀ {d e : PyData}, cpt d e = true → Tri (ltD d e) (d = e) (ltD e d)
  | .int a, .int b, _ => by
    unfold Tri
    simp only [ltD, PyData.int.injEq, decide_eq_true_eq, decide_eq_false_iff_not]
    omega
  | .str a, .str b, _ => by simp only [ltD]; exact tri_str a b
  | .list xs, .list ys, h => by
    have := triDs (ds := xs) (es := ys) (by simpa [cpt] using h)
    simpa [ltD] using this
  | .none, e, h => by cases e <;> simp [cpt] at h
  | .bool _, e, h => by cases e <;> simp [cpt] at h
  | .tuple _, e, h => by cases e <;> simp [cpt] at h
  | .dict _, e, h => by cases e <;> simp [cpt] at h
  | .int _, .str _, h | .int _, .list _, h | .int _, .none, h | .int _, .bool _, h | .int _, .tuple _, h | .int _, .dict _, h => by simp [cpt] at h
  | .str _, .int _, h | .str _, .list _, h | .str _, .none, h | .str _, .bool _, h | .str _, .tuple _, h | .str _, .dict _, h => by simp [cpt] at h
  | .list _, .int _, h | .list _, .str _, h | .list _, .none, h | .list _, .bool _, h | .list _, .tuple _, h | .list _, .dict _, h => by simp [cpt] at h
theorem triDs : ∀ {ds es : List PyData}, cpts ds es = true → Tri (ltDs ds es) (ds = es) (ltDs es ds)
  | [], [], _ => by simp [Tri, ltDs]
  | [], _ :: _, _ => by simp [Tri, ltDs]
  | _ :: _, [], _ => by simp [Tri, ltDs]
  | x :: xs, y :: ys, h => by
    simp only [cpts, Bool.and_eq_true] at h
    have h1 := triD h.1
    have h2 := triDs h.2
    have e1 := eqD_iff h.1
    have e2 := eqD_iff (cpt_symm h.1)
    by_cases q : x = y
    · subst q
      have : eqD x x = true := e1.mpr rfl
      simp only [ltDs, this, if_true, List.cons.injEq, true_and]
      exact h2
    · have n1 : eqD x y = false := by
        cases z : eqD x y with
        | false => rfl
        | true => exact absurd (e1.mp z) q
      have n2 : eqD y x = false := by
        cases z : eqD y x with
        | false => rfl
        | true => exact absurd (e2.mp z).symm q
      simp only [ltDs, n1, n2, Bool.false_eq_true, if_false, List.cons.injEq, q, false_and]
      unfold Tri at h1 ⊢
      simp only [q, not_false_eq_true, true_and, false_and, and_false, false_or] at h1 ⊢
      exact h1
end
mutual
theorem transD : ∀ {d e f : PyData}, cpt d e = true → cpt e f = true → cpt d f = true → ltD d e = true → ltD e f = true → ltD d f = true
  | .int a, .int b, .int c, _, _, _, h1, h2 => by simp only [ltD, decide_eq_true_eq] at *; omega
  | .str a, .str b, .str c, _, _, _, h1, h2 => by
    simp only [ltD] at *
    exact strKind.trans _ _ _ h1 h2
  | .list xs, .list ys, .list zs, a, b, c, h1, h2 => by
    simp only [ltD, cpt] at *
    exact transDs a b c h1 h2
  | .none, e, _, h, _, _, _, _ => by cases e <;> simp [cpt] at h
  | .bool _, e, _, h, _, _, _, _ => by cases e <;> simp [cpt] at h
  | .tuple _, e, _, h, _, _, _, _ => by cases e <;> simp [cpt] at h
  | .dict _, e, _, h, _, _, _, _ => by cases e <;> simp [cpt] at h
  | .int _, .str _, _, h, _, _, _, _ | .int _, .list _, _, h, _, _, _, _ | .int _, .none, _, h, _, _, _, _ | .int _, .bool _, _, h, _, _, _, _ | .int _, .tuple _, _, h, _, _, _, _ | .int _, .dict _, _, h, _, _, _, _ => by simp [cpt] at h
  | .str _, .int _, _, h, _, _, _, _ | .str _, .list _, _, h, _, _, _, _ | .str _, .none, _, h, _, _, _, _ | .str _, .bool _, _, h, _, _, _, _ | .str _, .tuple _, _, h, _, _, _, _ | .str _, .dict _, _, h, _, _, _, _ => by simp [cpt] at h
  | .list _, .int _, _, h, _, _, _, _ | .list _, .str _, _, h, _, _, _, _ | .list _, .none, _, h, _, _, _, _ | .list _, .bool _, _, h, _, _, _, _ | .list _, .tuple _, _, h, _, _, _, _ | .list _, .dict _, _, h, _, _, _, _ => by simp [cpt] at h
  | .int _, .int _, .str _, _, h, _, _, _ | .int _, .int _, .list _, _, h, _, _, _ | .int _, .int _, .none, _, h, _, _, _ | .int _, .int _, .bool _, _, h, _, _, _ | .int _, .int _, .tuple _, _, h, _, _, _ | .int _, .int _, .dict _, _, h, _, _, _ => by simp [cpt] at h
  | .str _, .str _, .int _, _, h, _, _, _ | .str _, .str _, .list _, _, h, _, _, _ | .str _, .str _, .none, _, h, _, _, _ | .str _, .str _, .bool _, _, h, _, _, _ | .str _, .str _, .tuple _, _, h, _, _, _ | .str _, .str _, .dict _, _, h, _, _, _ => by simp [cpt] at h
  | .list _, .list _, .int _, _, h, _, _, _ | .list _, .list _, .str _, _, h, _, _, _ | .list _, .list _, .none, _, h, _, _, _ | .list _, .list _, .bool _, _, h, _, _, _ | .list _, .list _, .tuple _, _, h, _, _, _ | .list _, .list _, .dict _, _, h, _, _, _ => by simp [cpt] at h
theorem transDs : ∀ {ds es fs : List PyData}, cpts ds es = true → cpts es fs = true → cpts ds fs = true → ltDs ds es = true → ltDs es fs = true → ltDs ds fs = true
  | [], [], fs, _, _, _, h1, _ => by simp [ltDs] at h1
  | [], _ :: _, [], _, _, _, _, h2 => by simp [ltDs] at h2
  | [], _ :: _, _ :: _, _, _, _, _, _ => by simp [ltDs]
  | _ :: _, [], _, _, _, _, h1, _ => by simp [ltDs] at h1
  | _ :: _, _ :: _, [], _, _, _, _, h2 => by simp [ltDs] at h2
  | x :: xs, y :: ys, z :: zs, a, b, c, h1, h2 => by
    simp only [cpts, Bool.and_eq_true] at a b c
    simp only [ltDs] at h1 h2 ⊢
    have e1 := eqD_iff a.1
    have e2 := eqD_iff b.1
    have e3 := eqD_iff c.1
    by_cases q1 : x = y
    · subst q1
      rw [if_pos (e1.mpr rfl)] at h1
      by_cases q2 : x = z
      · subst q2
        rw [if_pos (e2.mpr rfl)] at h2
        rw [if_pos (e3.mpr rfl)]
        exact transDs a.2 b.2 c.2 h1 h2
      · rw [if_neg (fun q => q2 (e2.mp q))] at h2
        rw [if_neg (fun q => q2 (e3.mp q))]
        exact h2
    · rw [if_neg (fun q => q1 (e1.mp q))] at h1
      by_cases q2 : y = z
      · subst q2
        rw [if_neg (fun q => q1 (e3.mp q))]
        exact h1
      · rw [if_neg (fun q => q2 (e2.mp q))] at h2
        have h3 := transD a.1 b.1 c.1 h1 h2
        by_cases q3 : x = z
        · subst q3
          have := triD a.1
          unfold Tri at this
          rw [h1, h2] at this
          simp at this
        · rw [if_neg (fun q => q3 (e3.mp q))]
          exact h3
end

theorem ltDs_asymm {a b : List PyData} (h : cpts a b = true) (h1 : ltDs a b = true) : ltDs b a = false := by
  have := triDs h
  unfold Tri at this
  rw [h1] at this
  simpa using And.right (by simpa using this)
theorem leDs_trans {a b c : List PyData} (ab : cpts a b = true) (bc : cpts b c = true) (ac : cpts a c = true) (h1 : ltDs b a = false) (h2 : ltDs c b = false) : ltDs c a = false := by
  cases h3 : ltDs c a with
  | false => rfl
  | true =>
    have t1 := triDs ab
    unfold Tri at t1
    rw [h1] at t1
    by_cases q : a = b
    · subst q; rw [h2] at h3; cases h3
    · have : ltDs a b = true := by
        rcases t1 with ⟨x, _⟩ | ⟨_, x, _⟩ | ⟨_, _, x⟩
        · exact x
        · exact absurd x q
        · cases x
      have := transDs (cpts_symm ac) ab (cpts_symm bc) h3 this
      rw [h2] at this; cases this
theorem leDs_antisymm {a b : List PyData} (ab : cpts a b = true) (h1 : ltDs b a = false) (h2 : ltDs a b = false) : a = b := by
  have t1 := triDs ab
  unfold Tri at t1
  rw [h1, h2] at t1
  simpa using t1
theorem ord_of {xs : List (List PyData)} (hc : ∀ x ∈ xs, ∀ y ∈ xs, cpts x y = true) : Ord xs.length (ltX xs) := by
  have mem : ∀ i, i < xs.length → xs.getD i [] ∈ xs := fun i hi => by
    have : xs.getD i [] = xs[i] := by simp [hi]
    rw [this]; exact List.getElem_mem hi
  exact ⟨fun a b ha hb h => ltDs_asymm (hc _ (mem a ha) _ (mem b hb)) h,
    fun a b c ha hb hc' h1 h2 => leDs_trans (hc _ (mem a ha) _ (mem b hb)) (hc _ (mem b hb) _ (mem c hc')) (hc _ (mem a ha) _ (mem c hc')) h1 h2⟩
end
section


theorem rel_ints {g : View} : ∀ {vs : List Value} {xs : List Int}, RelAll g vs (xs.map .int) → ∃ l : List (Int × Tok), vs = (l.map fun p => Value.int p.1 p.2) ∧ l.map (·.1) = xs
  | [], [], _ => ⟨[], rfl, rfl⟩
  | [], _ :: _, r => by cases r
  | _ :: _, [], r => by cases r
  | v :: vs, x :: xs, r => by
    rw [List.map_cons] at r
    cases r with
    | cons h r =>
      obtain ⟨l, rfl, hl⟩ := rel_ints r
      cases h with
      | int _ t => exact ⟨(x, t) :: l, rfl, by simp [hl]⟩
theorem vop_sum {C : Cx} {n : Nat} {xs : List Int} {K : PyData → Prop} (k : K (.int xs.sum)) : Vop C n (fun vs => PySem.call (.builtin "sum") vs) [.list (xs.map .int)] K := by
  intro A g s Q E vs r st rv q
  obtain ⟨v, rfl, r1⟩ := rv.one
  cases r1 with
  | @list a us m _ h rr =>
    obtain ⟨l, hl, hx⟩ := rel_ints rr
    have hus : us = intItems l.toArray := by
      apply Array.toList_inj.mp
      rw [hl]; simp [intItems]
    subst hus
    refine sum_intListG r.hnd (IsL.isList (st.sub _ _ h)) fun h' tk t' hk => ?_
    rw [preSum_eq, List.take_of_length_le (by simp)]
    have : (l.toArray.toList.map (·.1)) = xs := by simpa using hx
    rw [this]
    exact q _ _ g _ k (.int ..) ⟨⟨st.base, fun b o e => hk b o (st.sub b o e), st.gens, st.os⟩, hk, fun _ _ _ => rfl⟩

section
variable {C : Cx} {n : Nat} {env : Env} {ρ : Loc} {pos pf : Pos} {K : PyData → Prop} {args : List PySem.Expr}
theorem Ev.fn207 (hm : 1 ≤ n) (h : Evs C n env ρ args fun ds => Fn C 1 (.ref 207) ds K) (hx : env.kindOf (Str.ofString "_law_range") = some .globalImplicit) (hp : args.all plainElt = true) (hne : args ≠ []) :
    Ev C n env ρ (.Call (.Name (Str.ofString "_law_range") pf) args [] pos) K := Ev.call (by rfl) (by rfl) hm h hx hp hne (by decide)
theorem Ev.fn212 (hm : 2 ≤ n) (h : Evs C n env ρ args fun ds => Fn C 2 (.ref 212) ds K) (hx : env.kindOf (Str.ofString "_law_piece") = some .globalImplicit) (hp : args.all plainElt = true) (hne : args ≠ []) :
    Ev C n env ρ (.Call (.Name (Str.ofString "_law_piece") pf) args [] pos) K := Ev.call (by rfl) (by rfl) hm h hx hp hne (by decide)
end

/-! a piece, as the law sorts it -/
structure Piece where
  place : Str
  start : Int
  one : List Str
  two : List Str
noncomputable def Piece.taken (p : Piece) : Int := (p.one.length : Nat)
noncomputable def Piece.given (p : Piece) : Int := (p.two.length : Nat)
noncomputable def Piece.cells (p : Piece) : List PyData := [.str p.place, .int p.start, .int p.taken, .int p.given, strsD p.one, strsD p.two]
noncomputable def Piece.dat (p : Piece) : PyData := .list p.cells
noncomputable def pieceOf (x : Int) : Piece := ⟨placeD (pathD (x / 1024)), 97 + 2 * (x % 4), sideD x (Str.ofString "- "), sideD x (Str.ofString "+ ")⟩
theorem pieceD_eq (x : Int) : pieceD x = (pieceOf x).dat := rfl
noncomputable def Piece.ok (p : Piece) : Prop := 0 ≤ p.start ∧ p.start ≤ 200 ∧ p.one.length ≤ 30 ∧ p.two.length ≤ 30
theorem pieceOf_ok (x : Int) : (pieceOf x).ok := ⟨by show 0 ≤ 97 + 2 * (x % 4); omega, by show 97 + 2 * (x % 4) ≤ 200; omega, sideD_len _ _, sideD_len _ _⟩

noncomputable def movedD (place : Str) (pre : List Piece) : Int := ((pre.filter fun p => p.place = place).map fun p => p.given - p.taken).sum
noncomputable def dueStep (pre : List Piece) (p : Piece) : List PyData :=
  (if (pre.filter fun q => q.place = p.place) = [] then [.str p.place] else []) ++
  [.list [rangeD p.start p.taken, rangeD (p.start + movedD p.place pre) p.given, strsD p.one, strsD p.two]]
noncomputable def dueFrom : List Piece → List Piece → List PyData
  | _, [] => []
  | pre, p :: ps => dueStep pre p ++ dueFrom (pre ++ [p]) ps

theorem movedD_le (place : Str) : ∀ (pre : List Piece), (∀ p ∈ pre, p.ok) → -(30 * pre.length : Int) ≤ movedD place pre ∧ movedD place pre ≤ 30 * pre.length
  | [], _ => by simp [movedD]
  | p :: pre, h => by
    have ih := movedD_le place pre fun q hq => h q (.tail _ hq)
    have hp := h p (.head _)
    unfold Piece.ok at hp
    simp only [List.length_cons]
    unfold movedD at ih ⊢
    rw [List.filter_cons]
    split
    · simp only [List.map_cons, List.sum_cons]
      have : p.given - p.taken ≤ 30 ∧ -30 ≤ p.given - p.taken := by unfold Piece.given Piece.taken; omega
      push_cast
      omega
    · push_cast
      omega

theorem cpts_strs : ∀ (xs ys : List Str), cpts (xs.map .str) (ys.map .str) = true
  | [], [] => rfl
  | [], _ :: _ => by simp [cpts]
  | _ :: _, [] => by simp [cpts]
  | x :: xs, y :: ys => by simp only [List.map_cons, cpts, cpt, Bool.true_and]; exact cpts_strs xs ys
theorem cpts_cells (p q : Piece) : cpts p.cells q.cells = true := by
  simp only [Piece.cells, cpts, cpt, strsD, cpts_strs, Bool.true_and]
theorem depth_strs : ∀ (xs : List Str), PyData.depthAll (xs.map .str) = 0
  | [] => by simp [PyData.depthAll]
  | x :: xs => by simp only [List.map_cons, PyData.depthAll, PyData.depth, depth_strs xs]; rfl
theorem depth_cells (p : Piece) : PyData.depthAll p.cells ≤ 1 := by
  simp [Piece.cells, PyData.depthAll, PyData.depth, strsD, depth_strs]
theorem depth_pieces : ∀ (ps : List Piece), PyData.depthAll (ps.map Piece.dat) ≤ 2
  | [] => by simp [PyData.depthAll]
  | p :: ps => by
    have := depth_pieces ps
    have := depth_cells p
    simp only [List.map_cons, PyData.depthAll, Piece.dat, PyData.depth] at *
    omega
theorem dueFrom_snoc : ∀ (a pre : List Piece) (p : Piece), dueFrom pre (a ++ [p]) = dueFrom pre a ++ dueStep (pre ++ a) p
  | [], pre, p => by simp [dueFrom]
  | q :: a, pre, p => by
    simp only [List.cons_append, dueFrom, dueFrom_snoc a (pre ++ [q]) p, List.append_assoc]
    simp
theorem dueFrom_len : ∀ (a pre : List Piece), (dueFrom pre a).length ≤ 2 * a.length
  | [], pre => by simp [dueFrom]
  | q :: a, pre => by
    have := dueFrom_len a (pre ++ [q])
    have h : (dueStep pre q).length ≤ 2 := by unfold dueStep; split <;> simp
    simp only [dueFrom, List.length_append, List.length_cons]
    omega
theorem cutL_take {α : Type} (xs : List α) (i : Nat) (h : i ≤ xs.length) : cutL xs none (some (i : Int)) = xs.take i := by
  unfold cutL cutA cutB
  have : clipAt xs.length (i : Int) = i := by
    have := clipAt_cast xs.length (i : Int)
    have h2 : (if (i : Int) < 0 then (i : Int) + xs.length else (i : Int)) = i := if_neg (by omega)
    rw [h2] at this
    omega
  simp [this]
theorem enum_cut {xs : List PyData} {pre : List PyData} {d : PyData} {post : List PyData} (h : enumData 0 xs = pre ++ d :: post) : ∃ x, xs[pre.length]? = some x ∧ d = .tuple [.int (pre.length : Nat), x] := by
  have : (enumData 0 xs)[pre.length]? = some d := by rw [h]; simp
  obtain ⟨x, h1, h2⟩ := enumData_get this
  exact ⟨x, h1, by rw [h2]; simp⟩
theorem Sub.of_upd {ρ ρ' : Loc} {x : Str} {sl : Sl} (h : Sub ρ ρ') (hx : ρ' x = some sl) : Sub (ρ.upd x sl) ρ' := fun y s e => by
  by_cases q : y = x
  · subst q; rw [Loc.upd_self] at e; rw [hx, ← e]
  · rw [Loc.upd_ne _ _ q] at e; exact h y s e
theorem Sub.bind1 {ρ' : Loc} {x : Str} {d : PyData} (hx : ρ' x = some (.dat d)) : Sub (bindDat [x] [d]) ρ' := fun y s e => by
  unfold bindDat at e
  by_cases q : y = x
  · subst q
    simp [List.lookup] at e
    rw [hx, ← e]
  · have hb : (y == x) = false := beq_eq_false_iff_ne.mpr q
    simp [List.lookup, hb] at e
theorem perm_map_inv {α β : Type} {f : α → β} {l : List α} {ys : List β} (h : ys.Perm (l.map f)) : ∃ ps : List α, ys = ps.map f ∧ ps.Perm l := by
  generalize hm : l.map f = m at h
  induction h generalizing l with
  | nil => cases l with
    | nil => exact ⟨[], rfl, .nil⟩
    | cons a l => simp at hm
  | @cons x l1 l2 _ ih => cases l with
    | nil => simp at hm
    | cons a l =>
      simp only [List.map_cons, List.cons.injEq] at hm
      obtain ⟨ps, rfl, hp⟩ := ih hm.2
      exact ⟨a :: ps, by simp [hm.1], hp.cons a⟩
  | swap x y l1 => cases l with
    | nil => simp at hm
    | cons a l => cases l with
      | nil => simp at hm
      | cons b l =>
        simp only [List.map_cons, List.cons.injEq] at hm
        obtain ⟨rfl, rfl, rfl⟩ := hm
        exact ⟨b :: a :: l, by simp, .swap ..⟩
  | trans _ _ ih1 ih2 =>
    obtain ⟨ps, rfl, hp⟩ := ih2 hm
    obtain ⟨qs, rfl, hq⟩ := ih1 rfl
    exact ⟨qs, rfl, hq.trans hp⟩
noncomputable def aheadTurn (place : Str) : PyData → Option PyData
  | .list (.str q :: r) => if q = place then some (.list (.str q :: r)) else none
  | _ => none
noncomputable def gainTurn : PyData → PyData
  | .list [_, _, .int t, .int g, _, _] => .int (g - t)
  | d => d
theorem ahead_map (place : Str) : ∀ (ps : List Piece), (ps.map Piece.dat).filterMap (aheadTurn place) = (ps.filter fun p => p.place = place).map Piece.dat
  | [] => rfl
  | p :: ps => by
    have : aheadTurn place p.dat = if p.place = place then some p.dat else none := rfl
    rw [List.map_cons, List.filterMap_cons, this, ahead_map place ps, List.filter_cons]
    by_cases h : p.place = place <;> simp [h]
theorem gain_map : ∀ (ps : List Piece), (ps.map Piece.dat).map gainTurn = (ps.map fun p => p.given - p.taken).map PyData.int
  | [] => rfl
  | p :: ps => by
    rw [List.map_cons, List.map_cons, gain_map ps]; rfl

set_option maxHeartbeats 4000000 in
theorem law_due {C : Cx} {xs : List Int} {K : PyData → Prop} (hp : ∀ x : Int, okPath (pathD x) = true) (h2 : 2 ≤ xs.length) (h64 : xs.length ≤ 20)
    (k : ∀ ps : List Piece, ps.Perm (xs.map pieceOf) → (ps.map Piece.cells).Pairwise (fun a b => ltDs b a = false) → K (.list (dueFrom [] ps))) : Fn C 3 (.ref 217) [.list (xs.map .int)] K := by
  refine Fn.of (n := 2) (names := [Str.ofString "numbers"]) (ds' := [.list (xs.map .int)]) (by rfl) (by rfl) (binds_one fun _ => by rfl) (kind_one fun _ => .inl (by rfl)) (by rfl) (by rfl) (by rfl) (by rfl) ?_
  dsimp only
  intro L
  refine Exs.cons (Ex.swap2 ?_)
  refine Ev.tuple (Evs.cons (Ev.callSorted (Evs.cons ?_) (by rfl) (by rfl)))
  refine Ev.comp (cl := _) (fv := []) (by rfl) ?_ ?_ ?_ ?_
  · walk_at "clos"
  · walk_at "clos"
  · walk_at "own"
  refine Src.list ?_
  repeat' (walk_at "lws")
  intro L1
  refine CompK.map (fun d => match d with | .int x => pieceD x | d => d) (by rw [List.length_map, sizeLine_eq]; omega) (fun d hd => ?_) ?_
  · obtain ⟨x, _, rfl⟩ := List.mem_map.mp hd
    refine Asg.name ⟨(Sub.refl _).upd, ?_⟩
    refine Ev.fn212 (Nat.le_refl _) ?_ (by rfl) (by rfl) (by simp)
    repeat' (walk_at "lws")
    exact law_piece (hp _) rfl
  rw [List.map_map]
  have e0 : (xs.map ((fun d => match d with | .int x => pieceD x | d => d) ∘ PyData.int)) = (xs.map fun x => (pieceOf x).cells).map .list := by rw [List.map_map]; rfl
  rw [e0]
  refine Evs.nil ?_
  have hc0 : ∀ x ∈ xs.map (fun x => (pieceOf x).cells), ∀ y ∈ xs.map (fun x => (pieceOf x).cells), cpts x y = true := fun a ha b hb => by
    obtain ⟨x, _, rfl⟩ := List.mem_map.mp ha
    obtain ⟨y, _, rfl⟩ := List.mem_map.mp hb
    exact cpts_cells _ _
  refine vop_sorted (by rw [List.length_map]; exact h2) (by rw [List.length_map]; omega) hc0 (fun a ha => ?_) (ord_of hc0) fun ys hperm hpw => ?_
  · obtain ⟨x, _, rfl⟩ := List.mem_map.mp ha
    have := depth_cells (pieceOf x)
    omega
  obtain ⟨ps, hps, hps2⟩ : ∃ ps : List Piece, ys = ps.map Piece.cells ∧ ps.Perm (xs.map pieceOf) := by
    have : ys.Perm ((xs.map pieceOf).map Piece.cells) := by rw [List.map_map]; exact hperm
    exact perm_map_inv this
  subst hps
  have hk := k ps hps2 hpw
  have hok : ∀ p ∈ ps, p.ok := fun p hp' => by
    obtain ⟨x, _, rfl⟩ := List.mem_map.mp (hps2.mem_iff.mp hp')
    exact pieceOf_ok x
  have hlen : ps.length ≤ 20 := by rw [hps2.length_eq, List.length_map]; exact h64
  clear hpw hps2 hperm
  rw [List.map_map, show PyData.list ∘ Piece.cells = Piece.dat from rfl]
  repeat' (walk_at "lws")
  refine ⟨_, _, rfl, ?_⟩
  refine Exs.cons (Ex.less (Ex.for (Src.enum (mg_enumerate _) ?_)))
  repeat' (walk_at "lws")
  refine ForK.all (fun pre => ((bindDat [Str.ofString "numbers"] [.list (xs.map .int)]).upd (Str.ofString "due") (.dat (.list (dueFrom [] (ps.take pre.length))))).upd (Str.ofString "pieces") (.dat (.list (ps.map Piece.dat)))) (.refl _) (fun pre d post he => ?_) ?_
  · obtain ⟨pd, hpd, rfl⟩ := enum_cut he
    obtain ⟨i, hi⟩ : ∃ i, pre.length = i := ⟨_, rfl⟩
    rw [List.length_append, List.length_singleton]
    rw [hi] at hpd ⊢
    rw [List.getElem?_map] at hpd
    obtain ⟨p, hpi, rfl⟩ := Option.map_eq_some_iff.mp hpd
    have hil : i < ps.length := by
      by_cases q : i < ps.length
      · exact q
      · rw [List.getElem?_eq_none (by omega)] at hpi; cases hpi
    have hpok : p.ok := hok p (List.mem_of_getElem? hpi)
    have etake : ps.take (i + 1) = ps.take i ++ [p] := by rw [List.take_add_one, hpi]; rfl
    have hstep : dueFrom [] (ps.take (i + 1)) = dueFrom [] (ps.take i) ++ dueStep (ps.take i) p := by rw [etake, dueFrom_snoc]; rfl
    have hdl := dueFrom_len (ps.take i) []
    rw [List.length_take] at hdl
    refine Asg.tuple (ds := [.int (i : Nat), p.dat]) (.inr rfl) (by rfl) (Asg.name (Asg.tuple (ds := p.cells) (.inl rfl) (by rfl) ?_))
    refine Asg.name (Asg.name (Asg.name (Asg.name (Asg.name (Asg.name ?_)))))
    refine Exs.cons (Ex.assignComp (cl := _) (fv := [Str.ofString "place"]) (by rfl) ?_ ?_ ?_ ?_)
    · walk_at "clos"
    · walk_at "clos"
    · walk_at "own"
    refine Src.list (Ev.sliceL (by rfl) (by rw [List.length_map, sizeLine_eq]; omega) ?_)
    repeat' (walk_at "lws")
    intro L2
    rw [cutL_take _ _ (by rw [List.length_map]; omega), ← List.map_take]
    refine CompK.filterMap (aheadTurn p.place) _ [] _ _ (.refl _) (by simp [sizeLine_eq]; omega) (fun d hd => ?_) ?_
    · obtain ⟨q, hq, rfl⟩ := List.mem_map.mp hd
      refine Asg.name ⟨(Sub.refl _).upd, ?_⟩
      refine Tst.cmp (Ev.item ?_)
      repeat' (walk_at "lws")
      refine ⟨_, _, _, rfl, rfl, by decide, by decide, rfl, ?_⟩
      repeat' (walk_at "lws")
      · rename_i h
        show aheadTurn p.place q.dat = some q.dat
        show (if q.place = p.place then _ else _) = _
        rw [if_pos h]; rfl
      · rename_i h
        show (if q.place = p.place then _ else _) = _
        rw [if_neg h]
    rw [List.nil_append, ahead_map]
    have hfl : ((ps.take i).filter fun q => q.place = p.place).length ≤ 20 := Nat.le_trans (List.length_filter_le _ _) (by rw [List.length_take]; omega)
    have hmv := movedD_le p.place (ps.take i) fun q hq => hok q (List.mem_of_mem_take hq)
    rw [List.length_take] at hmv
    have hds : dueStep (ps.take i) p = (if ((ps.take i).filter fun q => q.place = p.place) = [] then [.str p.place] else []) ++ [.list [rangeD p.start p.taken, rangeD (p.start + movedD p.place (ps.take i)) p.given, strsD p.one, strsD p.two]] := rfl
    have hmd : movedD p.place (ps.take i) = (((ps.take i).filter fun q => q.place = p.place).map fun q => q.given - q.taken).sum := rfl
    rw [hds] at hstep
    rw [hmd] at hstep hmv
    generalize (ps.take i).filter (fun q => q.place = p.place) = ah at hfl hstep hmv ⊢
    refine Exs.cons (Ex.assign (Ev.callSum (Evs.cons ?_) (by rfl) (by rfl)))
    refine Ev.comp (cl := _) (fv := []) (by rfl) ?_ ?_ ?_ ?_
    · walk_at "clos"
    · walk_at "clos"
    · walk_at "own"
    refine Src.list ?_
    repeat' (walk_at "lws")
    intro L3
    refine CompK.map gainTurn (by rw [List.length_map, sizeLine_eq]; omega) (fun d hd => ?_) ?_
    · obtain ⟨q, hq, rfl⟩ := List.mem_map.mp hd
      refine Asg.name ⟨(Sub.refl _).upd, ?_⟩
      refine Ev.bin (Ev.item ?_)
      repeat' (walk_at "lws")
      refine ⟨_, _, _, rfl, rfl, by decide, by decide, rfl, ?_⟩
      refine Ev.item ?_
      repeat' (walk_at "lws")
      refine ⟨_, _, _, rfl, rfl, by decide, by decide, rfl, ?_⟩
      refine op_sub_int ?_
      rfl
    rw [gain_map]
    refine Evs.nil (vop_sum ?_)
    refine Exs.cons (Ex.assign (Ev.bin (Ev.bin ?_)))
    repeat' (walk_at "lws")
    have heq : eqDs (ah.map Piece.dat) [] = decide (ah = []) := by cases ah <;> simp [eqDs]
    refine op_eq_list ?_ (by cases ah <;> simp [cpts]) (Nat.le_trans (depth_pieces ah) (by decide))
    rw [heq]
    unfold Piece.ok at hpok
    have hpt : 0 ≤ p.taken ∧ p.taken ≤ 30 ∧ 0 ≤ p.given ∧ p.given ≤ 30 := by unfold Piece.taken Piece.given; omega
    repeat' (walk_at "lws")
    all_goals
      refine op_add_list ?_ (by simp [sizeLine_eq]; omega)
      refine Ev.list (Evs.cons (Ev.list (Evs.cons (Ev.fn207 (by decide) ?_ (by rfl) (by rfl) (by simp)))))
      repeat' (walk_at "lws")
      refine law_range (by omega) (by omega) (by omega) (by omega) ?_
      refine Evs.cons (Ev.fn207 (by decide) ?_ (by rfl) (by rfl) (by simp))
      repeat' (walk_at "lws")
      refine law_range (by omega) (by omega) (by omega) (by omega) ?_
      repeat' (walk_at "lws")
      refine op_add_list ?_ (by simp [sizeLine_eq]; omega)
      repeat' (walk_at "lws")
      rename_i h
      refine ⟨.inl rfl, ?_⟩
    · rw [if_pos h] at hstep
      rw [hstep, ← List.append_assoc]
      exact Sub.of_upd (Sub.of_upd (Sub.bind1 (by rfl)) (by rfl)) (by rfl)
    · rw [if_neg h] at hstep
      rw [hstep, ← List.append_assoc]
      exact Sub.of_upd (Sub.of_upd (Sub.bind1 (by rfl)) (by rfl)) (by rfl)
  have hel : (enumData 0 (ps.map Piece.dat)).length = ps.length := by rw [enumData_length, List.length_map]
  rw [hel, List.take_length]
  repeat' (walk_at "lws")
  exact hk
end
section


section
variable {C : Cx} {env : Env} {ws : Str → Bool} {hin gin : View} {ρ : Loc} {g : View} {s : Shared}
/-- a name of which nothing is known gets some value -/
theorem Frm.store0 {M : Model} {A : Around} {E : Value → Shared → Prop} {Q : Unit → Shared → Prop} (F : Frm C env ws hin gin ρ g s) {x : Str} {v : Value} (hx : ρ x = none) (hk : env.kindOf x = some .local)
    (q : ∀ h' t, Frm C env ws hin gin ρ g { s with heap := h', toks := t } → Holds env h' x v → Q () { s with heap := h', toks := t }) : wpAny M A (storeName env x v) Q E s := by
  obtain ⟨m, hn⟩ := F.ns
  obtain ⟨oL, es, ep, hoL, hdL⟩ := Heap.Ns.at hn
  have ownL : ∀ y N ds, ρ y = some (.own N ds) → N ≠ env.locals := fun y N ds e q0 => by
    obtain ⟨_, vs, n, ho, _⟩ := F.own_at e
    rw [q0, hoL] at ho; cases ho; cases hdL
  have cellL : ∀ y c, env.cells.lookup y = some c → c ≠ env.locals := fun y c e q0 => by
    obtain ⟨u, o, ho, hd⟩ := F.vis.lv y c e
    rw [q0, hoL] at ho; cases ho; rw [hdL] at hd; cases hd
  refine wpAny_storeName_local hk hn (fun h' hn' hs => ?_) (by rw [F.vis.kind]; rfl)
  have hoth : ∀ y u, y ≠ x → Holds env s.heap y u → Holds env h' y u := fun y u hy hu => by
    rcases hu with ⟨a, m2, hn2, hm2⟩ | ⟨a, c, hc, o, ho, hd⟩
    · refine .inl ⟨a, _, hn', ?_⟩
      simp only [hy, if_false]
      obtain ⟨o1, e1, p1, g1, d1, _, f1⟩ := hn
      obtain ⟨o2, e2, p2, g2, d2, _, f2⟩ := hn2
      rw [g1] at g2; cases g2; rw [d1] at d2; cases d2
      rw [← f1, f2]; exact hm2
    · exact .inr ⟨a, c, hc, o, (hs.2 c (fun q0 => by rw [q0, hoL] at ho; cases ho; rw [hdL] at hd; cases hd)).trans ho, hd⟩
  refine q h' _ ⟨⟨⟨F.vis.st.base, fun a o e => (hs.2 a (fun q => by rw [q, F.nsp.2] at e; cases e)).trans (F.vis.st.sub a o e), F.vis.st.gens, F.vis.st.os⟩, F.vis.kind, F.vis.glob, F.vis.blt, fun y sl e => ?_, fun y c e => ?_⟩,
    fun a o e => (hs.2 a (fun q => by rw [q, F.nsp.1] at e; cases e)).trans (F.keep a o e), F.frz, ⟨_, hn'⟩, F.nsp, F.cell, F.cinj, F.own, F.oinj⟩ (.inl ⟨hk, _, hn', by simp⟩)
  · have hy : y ≠ x := fun q => by rw [q, hx] at e; cases e
    obtain ⟨u, hu, ru⟩ := F.vis.rd y sl e
    exact ⟨u, hoth y u hy hu, SlRel.sameBut hs (fun M ds e' => ownL y M ds (e' ▸ e)) ru⟩
  · obtain ⟨u, o, ho, hd⟩ := F.vis.lv y c e
    exact ⟨u, o, (hs.2 c (cellL y c e)).trans ho, hd⟩
end

/-! isinstance and issubclass of a text -/
section
variable {prog : Program} {w : World} {A : Around} {E : Value → Shared → Prop} {s : Shared}
theorem isinstance_str_bytes {x : Str} {t : Tok} {Q : Value → Shared → Prop} (h : Q (.bool false) { s with toks := s.toks + 1 }) : wpAny (model prog w) A (call (.builtin "isinstance") [.str x t, .type "bytes"]) Q E s := by
  refine call_isinstance_of ?_
  obtain ⟨hp, g, d, tk, os⟩ := s
  exact isinstance_nested_false_str (T := "bytes") (by decide) (by rfl) (by rw [isSubtype_type]; kernel_rfl) (Q := fun fin s' => match fin with
      | .done f => (match (Except.ok f : Result) with | .ok (.ret v) => Q v s' | .ok _ => False | .error e => E e s')
      | .again c' => c'.quiet = true ∧ codeAny (model prog w) A c' (fun r s' => match r with | .ok (.ret v) => Q v s' | .ok _ => False | .error e => E e s') s') h

theorem nested_str_str {k : Value} {dep : Int} {tk : Tok} {Q : Fin → Shared → Prop} (hk : k = .int dep tk) (hq : Q (.done (.ret (.bool true))) s) :
    wpAny (model prog w) A (Builtin.«issubclass.nested» ⟨[.type "str", .type "str", k], []⟩) Q E s := by
  subst hk
  have hm : typeOf (.type "str") = pure (.type "type") := by rfl
  have hs : isSubtype (.type "str") (.type "str") = pure true := by rw [isSubtype_type]; kernel_rfl
  repeat (any_goals (first | assumption | (rw [hm]) | (rw [hs]) | wp_step))

theorem issubclass_str_pair {T : Addr} {k : Nat} {Q : Value → Shared → Prop} (hT : s.heap.get? T = some (TO #[.type "str", .type "bytes"] k)) (h : Q (.bool true) s) :
    wpAny (model prog w) A (call (.builtin "issubclass") [.type "str", .ref T]) Q E s := by
  refine call_function_any PySem.F.kind_issubclass PySem.F.plain_issubclass PySem.F.entry_issubclass (PySem.F.args_issubclass_2 _ _) (issubclass_outer (R := fun r s' => match r with | .ok (.ret v) => Q v s' | .ok _ => False | .error e => E e s') ?_)
  unfold Builtin.«issubclass.nested»
  have hty : s.TypeIs (.ref T) "tuple" := ⟨_, hT, rfl⟩
  have hsub : isSubtype (.type "tuple") (.type "tuple") = pure true := by rw [isSubtype_type]; kernel_rfl
  refine wpAny_bind (wpAny_typeOf hty ?_)
  rw [if_neg (by decide)]
  refine wpAny_bind (m := Builtin.Builtins.unionMembers (.ref T)) ?_
  · unfold Builtin.Builtins.unionMembers
    refine wpAny_bind (wpAny_typeOf hty ?_)
    rw [if_neg (by decide)]
    refine wpAny_pure ?_
    refine wpAny_bind (wpAny_isInstance hty hsub ?_)
    rw [if_pos rfl]
    rw [if_neg (by decide)]
    dsimp only
    refine wpAny_bind (wpAny_seqItems hT rfl ?_)
    rw [Option.getD_some, ← Array.forIn_toList]
    refine wpAny_bind ?_
    rw [List.forIn_cons]
    refine wpAny_bind (wpAny_bind (call_function_any (by decide +kernel) (by decide +kernel) PySem.F.entry_issubclass_nested (by unfold argsOk; kernel_rfl) (nested_str_str rfl ?_)))
    refine wpAny_bind (wpAny_truthy_bool ?_)
    rw [if_pos rfl]
    refine wpAny_bind (wpAny_pure (wpAny_pure ?_))
    exact wpAny_pure (wpAny_pure h)
end

section
variable {C : Cx} {n : Nat} {env : Env} {ρ : Loc} {pos pf : Pos}
theorem name_blt {f : Str} {v : Value} {A : Around} {g : View} {s : Shared} {Q E : Value → Shared → Prop} (hmg : nsIn (pre.heap_1 C.w.params) mainGlobals f = some none) (hv : bootBuiltins f = some v) (V : Vis C env ρ g s) (q : Q v s)
    (hx : env.kindOf f = some .globalImplicit) (hn : f ≠ "__name__" := by decide) (hdb : (f == ("__debug__" : Str)) = false := by decide) : wpAny C.M A (eval (.Name f pf) env) Q E s :=
  Calls.Name_function_global V.kind hx (Calls.loadGlobal_builtin (by rw [V.glob]; exact C.T.g.keeps V.st.keep) (mg_none_of C.X C.T.g hmg) (by rw [V.blt]; exact C.T.b.keeps V.st.keep) ((C.T.builtins f hn).trans hv) q) hdb
theorem bb_bytes : bootBuiltins (Str.ofString "bytes") = some (.type "bytes") := by rfl
theorem bb_type : bootBuiltins (Str.ofString "type") = some (.type "type") := by rfl
theorem bb_issubclass : bootBuiltins (Str.ofString "issubclass") = some (.builtin "issubclass") := by rfl
theorem bb_isinstance : bootBuiltins (Str.ofString "isinstance") = some (.builtin "isinstance") := by rfl

/-- isinstance(NAME, bytes), of a text -/
theorem Tst.isBytes {x : Str} {px pb pi pc : Pos} {t : Str} {K : Bool → Prop} (hx : ρ x = some (.dat (.str t))) (k : K false) (h1 : env.kindOf (Str.ofString "isinstance") = some .globalImplicit) (h2 : env.kindOf (Str.ofString "bytes") = some .globalImplicit) (hdb : (x == ("__debug__" : Str)) = false) :
    Tst C n env ρ (.Call (.Name (Str.ofString "isinstance") pi) [.Name x px, .Name (Str.ofString "bytes") pb] [] pc) K :=
  fun A g s Q E rm V q => by
    refine wpAny_isTrue_value ?_ rfl
    show wpAny C.M A (do callWith pc (← eval (.Name (Str.ofString "isinstance") pi) env) [] (backTo pc (starEach [.Name x px, .Name (Str.ofString "bytes") pb] env)) []) _ E s
    refine wpAny_bind (name_blt (by rfl) bb_isinstance V ?_ h1)
    refine callWith_blt rfl (backTo_plain rfl) ?_
    obtain ⟨u, hu, ru⟩ := V.rd x _ hx
    cases ru with
    | str _ tk =>
      rw [starEach_plain rfl]
      refine Calls.evalArgs_plain (wpAny_items_cons (e := .Name x px) (rest := [.Name (Str.ofString "bytes") pb]) (wpAny_Name (hu.load V.kind (wpAny_items_cons (e := .Name (Str.ofString "bytes") pb) (rest := []) (name_blt (by rfl) bb_bytes V (wpAny_items_nil ?_) h2) rfl)) hdb) rfl)
      exact isinstance_str_bytes (wpAny_truthy_bool (q false g _ k (.tok V.st _)))
end

set_option maxHeartbeats 4000000 in
theorem fn_fspath {C : Cx} {x : Str} {K : PyData → Prop} (k : K (.str x)) : Fn C 1 (.ref 143) [.str x] K := by
  refine Fn.of (n := 0) (names := [Str.ofString "path"]) (ds' := [.str x]) (by rfl) (by rfl) (binds_one fun _ => by rfl) (kind_one fun _ => .inl (by rfl)) (by rfl) (by rfl) (by rfl) (by rfl) ?_
  dsimp only
  intro L A hin gin g s Q E r F q
  refine wpAny_execs_cons (wpAny_Assign_Name ?_)
  refine callB_raw (K := fun ds => ds = [.str x]) (v := .type "type") (by rfl) bb_type rfl ?_ r F.vis (fun ds vs g1 s1 hd rv G => ?_)
  · repeat' (walk_at "lws")
  subst hd
  obtain ⟨v, rfl, r1⟩ := rv.one
  cases r1 with
  | str _ t =>
    refine call_type_of (Tx := "str") rfl (by decide) ?_
    refine (F.grow G).store0 (by rfl) (by rfl) fun h' tk F2 hh => ?_
    refine wpAny_execs_cons (wpAny_If (wpAny_isTrue_value ?_ rfl))
    refine wpAny_bind (name_blt (by rfl) bb_issubclass F2.vis ?_ (by rfl))
    refine callWith_blt rfl (backTo_plain rfl) ?_
    rw [starEach_plain rfl]
    refine Calls.evalArgs_plain (wpAny_items_cons (wpAny_Name (hh.load F2.vis.kind (wpAny_items_cons (wpAny_Tuple (wpAny_items_cons (name_blt (by rfl) bb_str F2.vis ?_ (by rfl)) rfl)) rfl)) (by decide)) rfl)
    refine wpAny_items_cons (name_blt (by rfl) bb_bytes F2.vis (wpAny_items_nil ⟨by rw [sizeLine_eq]; exact Nat.le_of_ble_eq_true rfl, wpAny_items_nil ?_⟩) (by rfl)) rfl
    have G2 := Grow.pushed F2.vis.st (TO #[.type "str", .type "bytes"] 0)
    refine issubclass_str_pair (k := 0) (Heap.get?_push_size _ rfl) (wpAny_truthy_bool ?_)
    rw [if_pos rfl]
    have ret : ∀ (env : Env) p1 p2, Exs C 0 env (bindDat [Str.ofString "path"] [.str x]) [.Return (some (.Name (Str.ofString "path") p1)) p2] (fun f ρ' => ∃ d, f = .ret d ∧ K d) := fun env p1 p2 => by
      repeat' (walk_at "lws")
      exact ⟨_, rfl, k⟩
    refine ret _ _ _ A hin gin g1 _ _ E r (F2.grow G2) fun f fv ρ' g' s' ⟨d, hf, hk⟩ rf l F' => ?_
    subst hf
    cases fv <;> first | exact rf.elim | skip
    exact q (.ret d) _ ρ' g' s' hk rf ((G.le F.vis.st).trans l) F'
end
end Lw
end
noncomputable section
namespace Lw
section
theorem ite_nt {A B : Prop} (h : B) : if (!true) = true then A else B := h
theorem ite_nf {A B : Prop} (h : A) : if (!false) = true then A else B := h
end
local macro_rules | `(tactic| walk_at "lw0") => `(tactic| first
  | with_reducible refine Ev.int ?_
  | with_reducible refine Ev.str ?_
  | with_reducible refine Ev.none ?_
  | with_reducible refine Ev.bin ?_
  | with_reducible refine Ev.name (by with_unfolding_all rfl) ?_
  | with_reducible refine Ev.ite ?_
  | with_reducible refine Ev.cmp ?_ (by with_unfolding_all rfl)
  | with_reducible refine Ev.list ?_ (by with_unfolding_all rfl)
  | with_reducible refine Ev.tuple ?_ (by with_unfolding_all rfl)
  | with_reducible refine Ev.un ?_
  | with_reducible refine Evs.cons ?_
  | with_reducible refine Evs.nil ?_
  | with_reducible refine Exs.cons ?_
  | with_reducible refine Exs.nil ?_
  | with_reducible refine Ex.ret ?_
  | with_reducible refine Ex.ite ?_
  | with_reducible refine Ex.assign ?_ (by with_unfolding_all rfl) (by with_unfolding_all rfl)
  | with_reducible refine Tst.cmp ?_ (by with_unfolding_all rfl)
  | with_reducible refine Tst.not ?_
  | with_reducible refine op_add_int ?_
  | with_reducible refine op_sub_int ?_
  | with_reducible refine op_eq_int ?_
  | with_reducible refine op_lt_int ?_
  | with_reducible refine op_gt_int ?_
  | with_reducible refine op_le_int ?_
  | with_reducible refine op_eq_str ?_
  | with_reducible refine op_ne_str ?_
  | with_reducible refine op_isub_int ?_
  | with_reducible refine op_neg ?_
  | with_reducible refine op_mul_int ?_ (by first | exact IntMulOk.of_left (by decide +kernel) | exact IntMulOk.of_right (by decide +kernel))
  | with_reducible refine EvP.no ?_
  | with_reducible refine EvP.yes ?_
  | with_reducible refine op_div_int ?_ (by first | decide | omega) (by first | decide | omega)
  | with_reducible refine op_mod_int ?_ (by first | decide | omega)
  | with_reducible refine szl (by with_unfolding_all rfl) ?_
  | with_reducible refine bool_ex ?_
  | with_reducible refine str_ex ?_
  | with_reducible refine int_ex ?_
  | with_reducible refine list_ex ?_
  | with_reducible refine tuple_ex ?_
  | with_reducible refine Ev.callStr ?_ (by with_unfolding_all rfl) (by with_unfolding_all rfl)
  | with_reducible refine Ev.callLen ?_ (by with_unfolding_all rfl) (by with_unfolding_all rfl))
local macro_rules | `(tactic| walk_at "lw") => `(tactic| (walk_at "lw0"; all_goals (try dsimp only)))
local macro_rules | `(tactic| walk_at "lws") => `(tactic| first
  | walk_at "lw"
  | with_reducible refine ite_ff ?_
  | with_reducible refine ite_nt ?_
  | with_reducible refine ite_nf ?_
  | with_reducible refine ite_tt ?_
  | (with_reducible refine ite_bool (fun _ => ?_) (fun _ => ?_) <;> (try dsimp only))
  | (with_reducible refine ite_nbool (fun _ => ?_) (fun _ => ?_) <;> (try dsimp only)))
local macro_rules | `(tactic| walk_at "own") => `(tactic| (refine NoOwn.pl ?_ _; repeat (first | exact NoOwn.bind _ _ | refine NoOwn.upd ?_ _ _ | refine NoOwn.fv ?_ _)))
local macro_rules | `(tactic| walk_at "clos") => `(tactic| (first | (intros; exact trivial) | (intros; repeat' (first | exact trivial | exact rfl | exact .inr ⟨by rfl, by decide⟩ | exact .inl (by rfl) | refine ⟨?_, ?_⟩))))
section


section
variable {C : Cx} {n : Nat} {env : Env} {ρ : Loc} {pos pf : Pos} {K : PyData → Prop} {args : List PySem.Expr}
theorem Ev.fn143 (hm : 1 ≤ n) (h : Evs C n env ρ args fun ds => Fn C 1 (.ref 143) ds K) (hx : env.kindOf (Str.ofString "fspath") = some .globalImplicit) (hp : args.all plainElt = true) (hne : args ≠ []) :
    Ev C n env ρ (.Call (.Name (Str.ofString "fspath") pf) args [] pos) K := Ev.call (by rfl) (by rfl) hm h hx hp hne (by decide)
theorem Ev.fn157 (hm : 1 ≤ n) (h : Evs C n env ρ args fun ds => Fn C 1 (.ref 157) ds K) (hx : env.kindOf (Str.ofString "_get_sep") = some .globalImplicit) (hp : args.all plainElt = true) (hne : args ≠ []) :
    Ev C n env ρ (.Call (.Name (Str.ofString "_get_sep") pf) args [] pos) K := Ev.call (by rfl) (by rfl) hm h hx hp hne (by decide)
theorem Ev.fn171 (hm : 2 ≤ n) (h : Evs C n env ρ args fun ds => Fn C 2 (.ref 171) ds K) (hx : env.kindOf (Str.ofString "splitroot") = some .globalImplicit) (hp : args.all plainElt = true) (hne : args ≠ []) :
    Ev C n env ρ (.Call (.Name (Str.ofString "splitroot") pf) args [] pos) K := Ev.call (by rfl) (by rfl) hm h hx hp hne (by decide)
end

set_option maxHeartbeats 4000000 in
theorem fn_get_sep {C : Cx} {x : Str} {K : PyData → Prop} (k : K (.str (Str.ofString "/"))) : Fn C 1 (.ref 157) [.str x] K := by
  refine Fn.of (n := 0) (names := [Str.ofString "path"]) (ds' := [.str x]) (by rfl) (by rfl) (binds_one fun _ => by rfl) (kind_one fun _ => .inl (by rfl)) (by rfl) (by rfl) (by rfl) (by rfl) ?_
  dsimp only
  intro L
  refine Exs.cons (Ex.ite (Tst.isBytes (by rfl) ?_ (by rfl) (by rfl) (by decide)))
  repeat' (walk_at "lws")
  exact k

noncomputable def rootD (p : Str) : Str × Str := if ¬ cutS p none (some 1) = Str.ofString "/" then (Str.ofString "", p) else
  if ¬ cutS p (some 1) (some 2) = Str.ofString "/" ∨ cutS p (some 2) (some 3) = Str.ofString "/" then (Str.ofString "/", cutS p (some 1) none) else (cutS p none (some 2), cutS p (some 2) none)

set_option maxHeartbeats 4000000 in
theorem fn_splitroot {C : Cx} {p : Str} {K : PyData → Prop} (hp : p.length ≤ 20) (k : K (.tuple [.str (Str.ofString ""), .str (rootD p).1, .str (rootD p).2])) : Fn C 2 (.ref 171) [.str p] K := by
  have hps : p.length ≤ sizeLine := by rw [sizeLine_eq]; omega
  refine Fn.of (n := 1) (names := [Str.ofString "p"]) (ds' := [.str p]) (by rfl) (by rfl) (binds_one fun _ => by rfl) (kind_one fun _ => .inl (by rfl)) (by rfl) (by rfl) (by rfl) (by rfl) ?_
  dsimp only
  intro L
  refine Exs.cons (Ex.assign (Ev.fn143 (Nat.le_refl _) ?_ (by rfl) (by rfl) (by simp)))
  repeat' (walk_at "lws")
  refine fn_fspath ?_
  refine Exs.cons (Ex.ite (Tst.isBytes (by rfl) ?_ (by rfl) (by rfl) (by decide)))
  repeat' (walk_at "lws")
  refine Ev.sliceS (by rfl) hps ?_
  repeat' (walk_at "lws")
  · rename_i h
    have : rootD p = (Str.ofString "", p) := if_pos h
    rw [this] at k
    exact k
  rename_i h
  refine Tst.or2 (Tst.cmp (Ev.sliceS (by rfl) hps ?_))
  repeat' (walk_at "lws")
  · rename_i h2
    have : rootD p = (Str.ofString "/", cutS p (some 1) none) := by unfold rootD; rw [if_neg (fun q => q h), if_pos (.inl h2)]
    rw [this] at k
    refine Ev.sliceS (by rfl) hps ?_
    repeat' (walk_at "lws")
    exact k
  · rename_i h2
    refine Ev.sliceS (by rfl) hps ?_
    repeat' (walk_at "lws")
    · rename_i h3
      have : rootD p = (Str.ofString "/", cutS p (some 1) none) := by unfold rootD; rw [if_neg (fun q => q h), if_pos (.inr h3)]
      rw [this] at k
      refine Ev.sliceS (by rfl) hps ?_
      repeat' (walk_at "lws")
      exact k
    · rename_i h3
      have : rootD p = (cutS p none (some 2), cutS p (some 2) none) := by
        unfold rootD; rw [if_neg (fun q => q h), if_neg (fun q => q.elim (fun z => z h2) h3)]
      rw [this] at k
      refine Ev.sliceS (by rfl) hps ?_
      repeat' (walk_at "lws")
      refine Ev.sliceS (by rfl) hps ?_
      repeat' (walk_at "lws")
      exact k

noncomputable def normStep (st : List Str) (c : Str) : List Str :=
  if c.length = 0 ∨ c = Str.ofString "." then st else if ¬ c = Str.ofString ".." ∨ st.getLast? = some (Str.ofString "..") then st ++ [c] else st.dropLast
noncomputable def normSteps (p : Str) : List Str := (Txt.split (rootD p).2 (Str.ofString "/")).foldl normStep []
noncomputable def normD (p : Str) : Str := (rootD p).1 ++ Txt.join (Str.ofString "/") (normSteps p)
noncomputable def okNorm (p : Str) : Bool := p.length ≤ 20 && p.length != 0 && (rootD p).1.length ≤ 2 && (rootD p).1.length != 0 && okPath (rootD p).2
theorem normFold : ∀ (ps s : List Str), (∀ y ∈ s, y.length ≤ 20) → (∀ y ∈ ps, y.length ≤ 20) → (ps.foldl normStep s).length ≤ s.length + ps.length ∧ ∀ y ∈ ps.foldl normStep s, y.length ≤ 20
  | [], s, h1, h2 => ⟨by simp, h1⟩
  | p :: ps, s, h1, h2 => by
    have key : (normStep s p).length ≤ s.length + 1 ∧ ∀ y ∈ normStep s p, y.length ≤ 20 := by
      unfold normStep
      split
      · exact ⟨Nat.le_succ _, h1⟩
      · split
        · refine ⟨by simp, fun y hy => ?_⟩
          rcases List.mem_append.mp hy with q | q
          · exact h1 y q
          · simp only [List.mem_singleton] at q; subst q; exact h2 y (.head _)
        · exact ⟨by rw [List.length_dropLast]; omega, fun y hy => h1 y ((List.dropLast_sublist s).subset hy)⟩
    obtain ⟨a, b⟩ := normFold ps (normStep s p) key.2 fun y hy => h2 y (.tail _ hy)
    refine ⟨?_, b⟩
    simp only [List.foldl_cons, List.length_cons]
    omega

set_option maxHeartbeats 8000000 in
theorem fn_normpath {C : Cx} {p : Str} {K : PyData → Prop} (hp : okNorm p = true) (k : K (.str (normD p))) : Fn C 3 (.ref 178) [.str p] K := by
  simp only [okNorm, Bool.and_eq_true, decide_eq_true_eq, bne_iff_ne, ne_eq] at hp
  obtain ⟨⟨⟨⟨hp1, hp2⟩, hp3⟩, hp4⟩, hp5⟩ := hp
  simp only [okPath, Bool.and_eq_true, decide_eq_true_eq, List.all_eq_true] at hp5
  obtain ⟨⟨⟨p1, p2⟩, p3⟩, p4⟩ := hp5
  have hps : p.length ≤ sizeLine := by rw [sizeLine_eq]; omega
  refine Fn.of (n := 2) (names := [Str.ofString "path"]) (ds' := [.str p]) (by rfl) (by rfl) (binds_one fun _ => by rfl) (kind_one fun _ => .inl (by rfl)) (by rfl) (by rfl) (by rfl) (by rfl) ?_
  dsimp only
  intro L
  refine Exs.cons (Ex.assign (Ev.fn143 (by decide) ?_ (by rfl) (by rfl) (by simp)))
  repeat' (walk_at "lws")
  refine fn_fspath ?_
  refine Exs.cons (Ex.ite (Tst.isBytes (by rfl) ?_ (by rfl) (by rfl) (by decide)))
  repeat' (walk_at "lws")
  refine Tst.val ?_ (by intro _; with_unfolding_all rfl)
  repeat' (walk_at "lws")
  refine tr_str ?_ hps
  rw [decide_eq_true hp2]
  repeat' (walk_at "lws")
  refine Ex.assignTup (Evx.of (Ev.fn171 (by decide) ?_ (by rfl) (by rfl) (by simp)))
  repeat' (walk_at "lws")
  refine fn_splitroot hp1 ?_
  refine Asg.tuple (ds := [.str (Str.ofString ""), .str (rootD p).1, .str (rootD p).2]) (.inr rfl) (by rfl) (Asg.name (Asg.name (Asg.name ?_)))
  generalize hr1 : (rootD p).1 = r1 at *
  generalize hr2 : (rootD p).2 = r2 at *
  refine Exs.cons (Ex.assign (Ev.meth PySem.F.slot_str_split PySem.F.type_str_split ?_))
  repeat' (walk_at "lws")
  refine vop_split (by rw [slash_len]; decide) (by rw [sizeLine_eq]; omega) (by rw [sizeLine_eq]; omega) ?_
  refine Exs.cons (Ex.ownNew fun M => ?_)
  refine Exs.cons (Ex.less (Ex.for (Src.list ?_)))
  repeat' (walk_at "lws")
  refine ForK.all (fun pre => ((((((bindDat [Str.ofString "path"] [.str r2]).upd (Str.ofString "sep") (.dat (.str (Str.ofString "/")))).upd (Str.ofString "dot") (.dat (.str (Str.ofString ".")))).upd (Str.ofString "dotdot") (.dat (.str (Str.ofString "..")))).upd (Str.ofString "initial_slashes") (.dat (.str r1)))).upd (Str.ofString "new_comps") (.own M (((pre.map strOf).foldl normStep []).map .str))) ?_ (fun pre d post he => ?_) ?_
  · exact Sub.of_upd (Sub.of_upd (Sub.of_upd (Sub.of_upd (Sub.of_upd (Sub.bind1 (by rfl)) (by rfl)) (by rfl)) (by rfl)) (by rfl)) (by rfl)
  · obtain ⟨x, rfl, hx, hpre, hlen⟩ := cut_strs he
    have hxl := p4 x hx
    have hxs : x.length ≤ sizeLine := by rw [sizeLine_eq]; omega
    obtain ⟨f1, f2⟩ := normFold (pre.map strOf) [] (fun y hy => by cases hy) (fun y hy => p4 y (hpre y hy))
    rw [List.length_map] at f1
    have e1 : (pre ++ [PyData.str x]).map strOf = pre.map strOf ++ [x] := by simp [strOf]
    have e2 : ((pre ++ [PyData.str x]).map strOf).foldl normStep [] = normStep ((pre.map strOf).foldl normStep []) x := by rw [e1, List.foldl_append]; rfl
    simp only [e2]
    generalize (pre.map strOf).foldl normStep [] = st at f1 f2 ⊢
    have hr4 : decide (r1.length ≠ 0) = true := decide_eq_true hp4
    have hr1s : r1.length ≤ sizeLine := by rw [sizeLine_eq]; omega
    have hst : st.length ≤ 20 := by simp at f1; omega
    have hst1 : (st.map PyData.str).length ≤ sizeLine := by rw [List.length_map, sizeLine_eq]; omega
    refine Asg.name ?_
    refine Exs.cons (Ex.ite (Tst.or2 (Tst.not (Tst.val ?_ (by intro _; with_unfolding_all rfl)))))
    repeat' (walk_at "lws")
    refine tr_str ?_ hxs
    repeat' (first | walk_at "lws" | with_reducible refine Ex.cont ?_)
    · rename_i h
      have e : normStep st x = st := by unfold normStep; rw [if_pos (.inl (by omega))]
      rw [e]
      show (Fl.cont = .next ∨ Fl.cont = .cont) ∧ _
      exact ⟨.inr rfl, (Sub.refl _).upd⟩
    · rename_i h h'
      have e : normStep st x = st := by unfold normStep; rw [if_pos (.inr h')]
      rw [e]
      show (Fl.cont = .next ∨ Fl.cont = .cont) ∧ _
      exact ⟨.inr rfl, (Sub.refl _).upd⟩
    rename_i h h'
    have hn0 : ¬ (x.length = 0 ∨ x = Str.ofString ".") := fun q => q.elim h h'
    refine Tst.or3 (Tst.cmp ?_)
    repeat' (walk_at "lws")
    · rename_i h2
      have e : normStep st x = st ++ [x] := by unfold normStep; rw [if_neg hn0, if_pos (.inl h2)]
      refine Ex.expr (Evx.method PySem.F.slot_list_append PySem.F.type_list_append (by rfl) ?_)
      repeat' (walk_at "lws")
      refine mut_append ?_ hst1
      repeat' (walk_at "lws")
      rw [e, List.map_append]
      exact ⟨.inl rfl, ((Sub.refl _).upd.upd).set _ _⟩
    rename_i h2
    refine Tst.and2 (Tst.not (Tst.val ?_ (by intro _; with_unfolding_all rfl)))
    repeat' (walk_at "lws")
    refine tr_str ?_ hr1s
    rw [hr4]
    repeat' (walk_at "lws")
    refine Tst.and2 (Tst.own (by rfl) hst1 ?_)
    rcases List.eq_nil_or_concat st with rfl | ⟨ys, y, rfl⟩
    · have e : normStep [] x = [] := by unfold normStep; rw [if_neg hn0, if_neg (fun q => q.elim (fun z => z h2) (fun z => by simp at z))]; rfl
      rw [e]
      rw [show (!(([] : List Str).map PyData.str).isEmpty) = false from rfl]
      repeat' (walk_at "lws")
      refine Tst.own (by rfl) (Nat.zero_le _) ?_
      rw [show (!(([] : List Str).map PyData.str).isEmpty) = false from rfl]
      repeat' (walk_at "lws")
      exact ⟨.inl rfl, (Sub.refl _).upd⟩
    · rw [List.concat_eq_append] at *
      have he1 : ((ys ++ [y]).map PyData.str).isEmpty = false := by simp
      rw [show (!((ys ++ [y]).map PyData.str).isEmpty) = true by rw [he1]; rfl]
      repeat' (walk_at "lws")
      refine Ev.ownLast (xs := ys.map .str) (d := .str y) (by rw [← show ((ys ++ [y]).map PyData.str) = ys.map .str ++ [.str y] by simp]; rfl) (by simp [sizeLine_eq] at hst ⊢; omega) ?_
      repeat' (walk_at "lws")
      refine ⟨rfl, ?_⟩
      repeat' (walk_at "lws")
      · rename_i h3
        have e : normStep (ys ++ [y]) x = ys ++ [y] ++ [x] := by unfold normStep; rw [if_neg hn0, if_pos (.inr (by rw [h3]; simp))]
        refine Ex.expr (Evx.method PySem.F.slot_list_append PySem.F.type_list_append (by rfl) ?_)
        repeat' (walk_at "lws")
        refine mut_append ?_ hst1
        repeat' (walk_at "lws")
        rw [e, List.map_append]
        exact ⟨.inl rfl, ((Sub.refl _).upd.upd).set _ _⟩
      · rename_i h3
        have e : normStep (ys ++ [y]) x = ys := by unfold normStep; rw [if_neg hn0, if_neg (fun q => q.elim (fun z => z h2) (fun z => h3 (by simpa using z)))]; simp
        refine Tst.own (by rfl) hst1 ?_
        rw [show (!((ys ++ [y]).map PyData.str).isEmpty) = true by rw [he1]; rfl]
        repeat' (walk_at "lws")
        refine Ex.expr (Evx.method PySem.F.slot_list_pop PySem.F.type_list_pop (by rfl) ?_)
        repeat' (walk_at "lws")
        rw [show ((ys ++ [y]).map PyData.str) = ys.map .str ++ [.str y] by simp]
        refine mut_pop ?_ (by simp [sizeLine_eq] at hst ⊢; omega)
        repeat' (walk_at "lws")
        rw [e]
        exact ⟨.inl rfl, ((Sub.refl _).upd.upd).set _ _⟩
  rw [map_strOf]
  obtain ⟨f1, f2⟩ := normFold (Txt.split r2 (Str.ofString "/")) [] (fun y hy => by cases hy) p4
  have hk : K (.str (r1 ++ Txt.join (Str.ofString "/") ((Txt.split r2 (Str.ofString "/")).foldl normStep []))) := by
    unfold normD normSteps at k; rw [hr1, hr2] at k; exact k
  generalize (Txt.split r2 (Str.ofString "/")).foldl normStep [] = st at f1 f2 hk ⊢
  have hst : st.length ≤ 20 := by simp at f1; omega
  have hj : JoinOk (Str.ofString "/") st = true := joinOk_small (fun y hy => by have := f2 y hy; omega) (by omega) (by rw [slash_len]; decide)
  have hj2 : (Txt.join (Str.ofString "/") st).length ≤ st.length * 21 := join_small f2 (by rw [slash_len]; decide)
  have hfl : (r1 ++ Txt.join (Str.ofString "/") st).length ≤ sizeLine := by rw [Str.length_append, sizeLine_eq]; omega
  dsimp only
  refine Exs.freeze (Str.ofString "new_comps") (by rfl) ?_
  repeat' (walk_at "lws")
  refine Ev.meth PySem.F.slot_str_join PySem.F.type_str_join ?_
  repeat' (walk_at "lws")
  refine vop_join hj ?_
  refine op_add_str ?_ hfl
  repeat' (walk_at "lws")
  refine Ev.or2 ?_
  repeat' (walk_at "lws")
  refine tr_str ?_ hfl
  rw [decide_eq_true (show (r1 ++ Txt.join (Str.ofString "/") st).length ≠ 0 by rw [Str.length_append]; omega)]
  repeat' (walk_at "lws")
  exact hk

noncomputable def joinD (q : Str) : Str := if Txt.startswith q (Str.ofString "/") = true then q else Str.ofString "/r" ++ (Str.ofString "/" ++ q)
theorem tr_bool {C : Cx} {n : Nat} {b : Bool} {K : Bool → Prop} (k : K b) : Tr C n (.bool b) K :=
  fun A g s Q E v r st rv q => by cases rv; exact wpAny_truthy_bool (q _ g _ k (.refl st))
set_option maxHeartbeats 8000000 in
theorem fn_join {C : Cx} {p : Str} {K : PyData → Prop} (hp : p.length ≤ 20) (k : K (.str (joinD p))) : Fn C 3 (.ref 164) [.str (Str.ofString "/r"), .str p] K := by
  refine Fn.of (n := 2) (names := [Str.ofString "a", Str.ofString "p"]) (ds' := [.str (Str.ofString "/r"), .tuple [.str p]]) (by rfl) (by rfl) ?_ (kind_two (fun _ => .inl (by rfl)) (fun _ => .inl (by rfl))) (by rfl) (by rfl) (by rfl) (by rfl) ?_
  · intro A g s Q E vs st rv q
    obtain ⟨v, u, rfl, r1, r2⟩ := rv.two
    show wpAny C.M A (newTuple [u] >>= fun t => pure [(Str.ofString "a", v), (Str.ofString "p", t)]) _ E s
    refine wpAny_bind (wpAny_newTuple (wpAny_pure ?_) (by rw [sizeLine_eq]; exact Nat.le_of_ble_eq_true rfl))
    obtain ⟨a, b⟩ := Rel.newTuple st (vs := #[u]) (ds := [.str p]) (.cons r2 .nil)
    exact q [v, _] _ _ (.cons (r1.mono (b.le st)) (.cons a .nil)) b
  dsimp only
  intro L
  refine Exs.cons (Ex.assign (Ev.fn143 (by decide) ?_ (by rfl) (by rfl) (by simp)))
  repeat' (walk_at "lws")
  refine fn_fspath ?_
  refine Exs.cons (Ex.assign (Ev.fn157 (by decide) ?_ (by rfl) (by rfl) (by simp)))
  repeat' (walk_at "lws")
  refine fn_get_sep ?_
  repeat' (walk_at "lws")
  refine Ex.try (Exs.cons (Ex.less (Ex.for (Src.tuple ?_))))
  repeat' (walk_at "lws")
  have hps : p.length ≤ sizeLine := by rw [sizeLine_eq]; omega
  have hr : (Str.ofString "/r").length = 2 := by decide +kernel
  refine Asg.name ?_
  refine Exs.cons (Ex.assign (Ev.fn143 (by decide) ?_ (by rfl) (by rfl) (by simp)))
  repeat' (walk_at "lws")
  refine fn_fspath ?_
  refine Exs.cons (Ex.ite (Tst.or2 (Tst.val (Ev.meth PySem.F.slot_str_startswith PySem.F.type_str_startswith ?_) (by intro _; with_unfolding_all rfl))))
  repeat' (walk_at "lws")
  refine vop_startswith (tr_bool ?_)
  cases hsw : Txt.startswith p (Str.ofString "/") with
  | true =>
    repeat' (walk_at "lws")
    have : joinD p = p := if_pos hsw
    rw [this] at k
    refine ⟨_, .refl _, ?_⟩
    repeat' (walk_at "lws")
    exact k
  | false =>
    have : joinD p = Str.ofString "/r" ++ (Str.ofString "/" ++ p) := if_neg (by rw [hsw]; decide)
    rw [this] at k
    repeat' (walk_at "lws")
    refine Tst.val ?_ (by intro _; with_unfolding_all rfl)
    repeat' (walk_at "lws")
    refine tr_str ?_ (by rw [hr, sizeLine_eq]; decide)
    rw [show decide ((Str.ofString "/r").length ≠ 0) = true by rw [hr]; rfl]
    repeat' (walk_at "lws")
    refine Tst.val (Ev.meth PySem.F.slot_str_endswith PySem.F.type_str_endswith ?_) (by intro _; with_unfolding_all rfl)
    repeat' (walk_at "lws")
    refine vop_endswith (tr_bool ?_)
    rw [show Txt.endswith (Str.ofString "/r") (Str.ofString "/") = false by decide +kernel]
    repeat' (walk_at "lws")
    refine Ex.aug (by rfl) ?_
    repeat' (walk_at "lws")
    refine op_add_str ?_ (by rw [Str.length_append, slash_len, sizeLine_eq]; omega)
    refine op_iadd_str ?_ (by rw [Str.length_append, Str.length_append, slash_len, hr, sizeLine_eq]; omega)
    repeat' (walk_at "lws")
    refine ⟨_, .refl _, ?_⟩
    repeat' (walk_at "lws")
    exact k
end
section


section
variable {C : Cx} {n : Nat} {env : Env} {ρ : Loc} {pos : Pos}
theorem Vis.sub {ρ ρ' : Loc} {g : View} {s : Shared} (V : Vis C env ρ' g s) (h : Sub ρ ρ') : Vis C env ρ g s := ⟨V.st, V.kind, V.glob, V.blt, fun x sl e => V.rd x sl (h x sl e), V.lv⟩
theorem Tst.sub {ρ ρ' : Loc} {e : PySem.Expr} {K : Bool → Prop} (h : Tst C n env ρ e K) (hs : Sub ρ ρ') : Tst C n env ρ' e K := fun A g s Q E r V q => h A g s Q E r (V.sub hs) q
theorem Ex.whileR {α : Type} {test : PySem.Expr} {body : List Stmt} {K : Fl → Loc → Prop} (R : α → Loc) (Inv : α → Prop) (meas : α → Nat)
    (turn : ∀ a, Inv a → Tst C n env (R a) test fun b => if b then Exs C n env (R a) body fun f ρ' => (match f with
      | .next | .cont => ∃ a', meas a' < meas a ∧ Inv a' ∧ Sub (R a') ρ'
      | .brk => ∃ ρ₀, Sub ρ₀ ρ' ∧ K .next ρ₀
      | .ret d => ∃ ρ₀, Sub ρ₀ ρ' ∧ K (.ret d) ρ₀) else K .next (R a)) (a₀ : α) (h₀ : Inv a₀) (hs : Sub (R a₀) ρ) : Ex C n env ρ (.While test body [] pos) K := by
  refine Ex.less (Ex.while (fun m ρ' => ∃ a, meas a = m ∧ Inv a ∧ Sub (R a) ρ') (fun m ρ' ⟨a, hm, hI, hS⟩ => ?_) (meas a₀) ⟨a₀, rfl, h₀, hs⟩)
  refine Tst.mono ((turn a hI).sub hS) fun b hb => ?_
  cases b with
  | true =>
    rw [if_pos rfl] at hb ⊢
    refine Exs.mono (hb.sub hS) fun f ρ2 h2 => ?_
    cases f with
    | next => obtain ⟨a', h1, h3, h4⟩ := h2; exact ⟨meas a', by omega, a', rfl, h3, h4⟩
    | cont => obtain ⟨a', h1, h3, h4⟩ := h2; exact ⟨meas a', by omega, a', rfl, h3, h4⟩
    | brk => exact h2
    | ret d => exact h2
  | false =>
    rw [if_neg (by decide)] at hb ⊢
    exact ⟨_, hS, hb⟩
end

/-! the heap, on plain lists -/
noncomputable abbrev itm (xs : List PyData) (i : Nat) : PyData := xs.getD i .none
noncomputable def sd (new : PyData) : Nat → List PyData → Nat → List PyData
  | 0, xs, pos => xs.set pos new
  | f + 1, xs, pos => if pos = 0 then xs.set pos new else if ltD new (itm xs ((pos - 1) / 2)) = true then sd new f (xs.set pos (itm xs ((pos - 1) / 2))) ((pos - 1) / 2) else xs.set pos new
noncomputable def suChild (xs : List PyData) (pos : Nat) : Nat := if 2 * pos + 2 < xs.length ∧ ltD (itm xs (2 * pos + 1)) (itm xs (2 * pos + 2)) = false then 2 * pos + 2 else 2 * pos + 1
noncomputable def su : Nat → List PyData → Nat → List PyData × Nat
  | 0, xs, pos => (xs, pos)
  | f + 1, xs, pos => if 2 * pos + 1 < xs.length then su f (xs.set pos (itm xs (suChild xs pos))) (suChild xs pos) else (xs, pos)
noncomputable def siftup (xs : List PyData) : List PyData := sd (itm xs 0) (su xs.length xs 0).2 ((su xs.length xs 0).1.set (su xs.length xs 0).2 (itm xs 0)) (su xs.length xs 0).2
noncomputable def pushD (xs : List PyData) (x : PyData) : List PyData := sd x xs.length (xs ++ [x]) xs.length

theorem sd_fuel (new : PyData) : ∀ (f g : Nat) (xs : List PyData) (pos : Nat), pos ≤ f → pos ≤ g → sd new f xs pos = sd new g xs pos
  | 0, 0, xs, pos, _, _ => rfl
  | 0, g + 1, xs, pos, h1, h2 => by
    have : pos = 0 := by omega
    subst this; simp [sd]
  | f + 1, 0, xs, pos, h1, h2 => by
    have : pos = 0 := by omega
    subst this; simp [sd]
  | f + 1, g + 1, xs, pos, h1, h2 => by
    simp only [sd]
    split
    · rfl
    · split
      · exact sd_fuel new f g _ _ (by omega) (by omega)
      · rfl
theorem sd_step {new : PyData} {xs : List PyData} {pos : Nat} (hp : pos ≠ 0) (h : ltD new (itm xs ((pos - 1) / 2)) = true) : sd new pos xs pos = sd new ((pos - 1) / 2) (xs.set pos (itm xs ((pos - 1) / 2))) ((pos - 1) / 2) := by
  obtain ⟨f, rfl⟩ : ∃ f, pos = f + 1 := ⟨pos - 1, by omega⟩
  rw [sd, if_neg hp, if_pos h]
  exact sd_fuel _ _ _ _ _ (by omega) (by omega)
theorem sd_stop {new : PyData} {xs : List PyData} {pos : Nat} (h : pos = 0 ∨ ltD new (itm xs ((pos - 1) / 2)) = false) : sd new pos xs pos = xs.set pos new := by
  cases pos with
  | zero => rfl
  | succ f =>
    rw [sd, if_neg (by omega), if_neg (by rcases h with h | h; · omega
                                          · rw [h]; decide)]

noncomputable def Pcs (xs : List PyData) : Prop := ∀ x ∈ xs, ∃ p : Piece, x = p.dat
theorem Pcs.set {xs : List PyData} (h : Pcs xs) (i : Nat) {x : PyData} (hx : ∃ p : Piece, x = p.dat) : Pcs (xs.set i x) := fun y hy => by
  rcases List.mem_or_eq_of_mem_set hy with q | q
  · exact h y q
  · rw [q]; exact hx
theorem itm_get {xs : List PyData} {i : Nat} (h : i < xs.length) : xs[i]? = some (itm xs i) := by
  rw [itm, List.getD_eq_getElem?_getD, List.getElem?_eq_getElem h]; rfl
theorem itm_mem {xs : List PyData} {i : Nat} (h : i < xs.length) : itm xs i ∈ xs := List.mem_of_getElem? (itm_get h)
theorem pc_cpt {x y : PyData} (hx : ∃ p : Piece, x = p.dat) (hy : ∃ p : Piece, y = p.dat) : cpt x y = true := by
  obtain ⟨p, rfl⟩ := hx
  obtain ⟨q, rfl⟩ := hy
  exact cpts_cells p q
theorem pc_depth {x : PyData} (hx : ∃ p : Piece, x = p.dat) : x.depth ≤ 60 := by
  obtain ⟨p, rfl⟩ := hx
  have := depth_cells p
  simp only [Piece.dat, PyData.depth]; omega

set_option maxHeartbeats 8000000 in
theorem mut_siftdown {C : Cx} {xs : List PyData} {pos : Nat} {K : PyData → List PyData → Prop} (hP : Pcs xs) (hpos : pos < xs.length) (hlen : xs.length ≤ 1000) (k : K .none (sd (itm xs pos) pos xs pos)) : Mut C 1 (fun vs => PySem.call (.ref 63) vs) xs [.int 0, .int (pos : Nat)] K := by
  refine Mut.of (n := 0) (Str.ofString "heap") [Str.ofString "startpos", Str.ofString "pos"] (by rfl) (by rfl) (fun vs h => by
    match vs, h with
    | [a, b, c], _ => rfl) (by rfl) (by decide) (by rfl) (kind_two (fun _ => .inl (by rfl)) (fun _ => .inl (by rfl))) (by rfl) (by rfl) (by rfl) (by rfl) ?_
  dsimp only
  intro L M
  have hnew : ∃ p : Piece, itm xs pos = p.dat := hP _ (itm_mem hpos)
  generalize hnw : itm xs pos = new at *
  refine Exs.cons (Ex.assign (Ev.ownItem (by rfl) ?_))
  repeat' (walk_at "lws")
  refine ⟨_, _, rfl, by omega, by omega, by rw [Int.toNat_natCast]; exact itm_get hpos, ?_⟩
  rw [hnw]
  refine Exs.cons (Ex.mono (K := fun f ρ' => f = .next ∧ ∃ ys p, p < ys.length ∧ ys.length ≤ 1000 ∧ ys.set p new = sd new pos xs pos ∧ ρ' = (((bindDat [Str.ofString "startpos"] [.int 0]).upd (Str.ofString "newitem") (.dat new)).upd (Str.ofString "heap") (.own M ys)).upd (Str.ofString "pos") (.dat (.int (p : Nat))))
    (Ex.whileR (fun a : List PyData × Nat => (((bindDat [Str.ofString "startpos"] [.int 0]).upd (Str.ofString "newitem") (.dat new)).upd (Str.ofString "heap") (.own M a.1)).upd (Str.ofString "pos") (.dat (.int (a.2 : Nat))))
    (fun a => Pcs a.1 ∧ a.2 < a.1.length ∧ a.1.length ≤ 1000 ∧ sd new a.2 a.1 a.2 = sd new pos xs pos) (fun a => a.2) (fun ⟨ys, p⟩ ⟨hp1, hp2, hp3, hp4⟩ => ?_) (xs, pos) ⟨hP, hpos, hlen, rfl⟩ (Sub.of_upd (Sub.of_upd (Sub.of_upd (Sub.bind1 (by rfl)) (by rfl)) (by rfl)) (by rfl))) ?_)
  · dsimp only at hp1 hp2 hp3 hp4 ⊢
    repeat' (walk_at "lws")
    · rename_i h
      have hp0 : p ≠ 0 := by omega
      refine op_shr_int ?_ (by decide)
      have e : ((p : Int) - 1) / 2 ^ (1 : Int).toNat = (((p - 1) / 2 : Nat) : Int) := by
        have : (2 : Int) ^ (1 : Int).toNat = 2 := by decide
        rw [this]; omega
      rw [e]
      have hpp : (p - 1) / 2 < ys.length := by omega
      have hpi := hp1 _ (itm_mem hpp)
      repeat' (walk_at "lws")
      refine Ev.ownItem (by rfl) ?_
      repeat' (walk_at "lws")
      refine ⟨_, _, rfl, by omega, by omega, by rw [Int.toNat_natCast]; exact itm_get hpp, ?_⟩
      repeat' (walk_at "lws")
      refine op_lt_data ?_ (pc_cpt hnew hpi) (pc_depth hnew)
      cases hlt : ltD new (itm ys ((p - 1) / 2)) with
      | true =>
        repeat' (walk_at "lws")
        refine Ex.ownSet (by rfl) (by rw [sizeLine_eq]; omega) ?_
        repeat' (walk_at "lws")
        refine ⟨by omega, by omega, ?_⟩
        rw [Int.toNat_natCast]
        repeat' (first | walk_at "lws" | with_reducible refine Ex.cont ?_)
        show ∃ a', _
        refine ⟨(ys.set p (itm ys ((p - 1) / 2)), (p - 1) / 2), by show (p - 1) / 2 < p; omega, ⟨hp1.set _ hpi, by rw [List.length_set]; exact hpp, by rw [List.length_set]; exact hp3, (sd_step hp0 hlt).symm.trans hp4⟩, ?_⟩
        exact Sub.of_upd (Sub.of_upd (Sub.of_upd (Sub.bind1 (by rfl)) (by rfl)) (by rfl)) (by rfl)
      | false =>
        repeat' (first | walk_at "lws" | with_reducible refine Ex.brk ?_)
        show ∃ ρ₀, _
        refine ⟨_, ?_, rfl, ys, p, hp2, hp3, (sd_stop (.inr hlt)).symm.trans hp4, rfl⟩
        exact Sub.of_upd (Sub.of_upd (Sub.of_upd (Sub.bind1 (by rfl)) (by rfl)) (by rfl)) (by rfl)
    · rename_i h
      exact ⟨rfl, ys, p, hp2, hp3, (sd_stop (.inl (by omega))).symm.trans hp4, rfl⟩
  rintro f ρ' ⟨rfl, ys, p, h1, h2, h3, rfl⟩
  dsimp only
  refine Exs.cons (Ex.ownSet (by rfl) (by rw [sizeLine_eq]; omega) ?_)
  repeat' (walk_at "lws")
  refine ⟨by omega, by omega, ?_⟩
  rw [Int.toNat_natCast]
  repeat' (walk_at "lws")
  exact ⟨_, by rfl, by rw [h3]; exact k⟩
end
section


section
variable {C : Cx} {n : Nat} {env : Env} {ρ : Loc} {pos pf px : Pos} {K : PyData → Loc → Prop} {args : List PySem.Expr} {x : Str} {M : Addr} {xs : List PyData}
theorem Evx.fn63 (hm : 1 ≤ n) (hx : ρ x = some (.own M xs)) (h : Evs C n env ρ args fun ds => Mut C 1 (fun vs => PySem.call (.ref 63) vs) xs ds fun d ys => K d (ρ.upd x (.own M ys)))
    (hx2 : env.kindOf (Str.ofString "_siftdown") = some .globalImplicit) (hp : args.all plainElt = true) (hdb2 : (x == ("__debug__" : Str)) = false) :
    Evx C n env ρ (.Call (.Name (Str.ofString "_siftdown") pf) (.Name x px :: args) [] pos) K := Evx.mut (by rfl) (by rfl) hm hx h hx2 hp (by decide) hdb2
theorem Evx.fn70 (hm : 2 ≤ n) (hx : ρ x = some (.own M xs)) (h : Evs C n env ρ args fun ds => Mut C 2 (fun vs => PySem.call (.ref 70) vs) xs ds fun d ys => K d (ρ.upd x (.own M ys)))
    (hx2 : env.kindOf (Str.ofString "_siftup") = some .globalImplicit) (hp : args.all plainElt = true) (hdb2 : (x == ("__debug__" : Str)) = false) :
    Evx C n env ρ (.Call (.Name (Str.ofString "_siftup") pf) (.Name x px :: args) [] pos) K := Evx.mut (by rfl) (by rfl) hm hx h hx2 hp (by decide) hdb2
theorem Evx.fn49 (hm : 2 ≤ n) (hx : ρ x = some (.own M xs)) (h : Evs C n env ρ args fun ds => Mut C 2 (fun vs => PySem.call (.ref 49) vs) xs ds fun d ys => K d (ρ.upd x (.own M ys)))
    (hx2 : env.kindOf (Str.ofString "heappush") = some .globalImplicit) (hp : args.all plainElt = true) (hdb2 : (x == ("__debug__" : Str)) = false) :
    Evx C n env ρ (.Call (.Name (Str.ofString "heappush") pf) (.Name x px :: args) [] pos) K := Evx.mut (by rfl) (by rfl) hm hx h hx2 hp (by decide) hdb2
theorem Evx.fn56 (hm : 3 ≤ n) (hx : ρ x = some (.own M xs)) (h : Evs C n env ρ args fun ds => Mut C 3 (fun vs => PySem.call (.ref 56) vs) xs ds fun d ys => K d (ρ.upd x (.own M ys)))
    (hx2 : env.kindOf (Str.ofString "heappop") = some .globalImplicit) (hp : args.all plainElt = true) (hdb2 : (x == ("__debug__" : Str)) = false) :
    Evx C n env ρ (.Call (.Name (Str.ofString "heappop") pf) (.Name x px :: args) [] pos) K := Evx.mut (by rfl) (by rfl) hm hx h hx2 hp (by decide) hdb2
end
noncomputable def Loc.empty : Loc := fun _ => none
theorem Sub.bot {ρ : Loc} : Sub Loc.empty ρ := fun _ _ e => by cases e

theorem suChild_gt (xs : List PyData) (pos : Nat) : pos < suChild xs pos := by unfold suChild; split <;> omega
theorem suChild_lt {xs : List PyData} {pos : Nat} (h : 2 * pos + 1 < xs.length) : suChild xs pos < xs.length := by unfold suChild; split <;> omega
theorem su_fuel : ∀ (f g : Nat) (xs : List PyData) (pos : Nat), xs.length ≤ pos + f → xs.length ≤ pos + g → su f xs pos = su g xs pos
  | 0, 0, xs, pos, _, _ => rfl
  | 0, g + 1, xs, pos, h1, h2 => by rw [su, su, if_neg (by omega)]
  | f + 1, 0, xs, pos, h1, h2 => by rw [su, su, if_neg (by omega)]
  | f + 1, g + 1, xs, pos, h1, h2 => by
    have := suChild_gt xs pos
    rw [su, su]
    split
    · exact su_fuel f g _ _ (by rw [List.length_set]; omega) (by rw [List.length_set]; omega)
    · rfl
theorem su_step {xs : List PyData} {pos : Nat} (h : 2 * pos + 1 < xs.length) : su xs.length xs pos = su xs.length (xs.set pos (itm xs (suChild xs pos))) (suChild xs pos) := by
  have h0 := suChild_gt xs pos
  obtain ⟨f, hf⟩ : ∃ f, xs.length = f + 1 := ⟨xs.length - 1, by omega⟩
  rw [hf, su, if_pos h]
  exact su_fuel _ _ _ _ (by rw [List.length_set]; omega) (by rw [List.length_set]; omega)
theorem su_stop {xs : List PyData} {pos : Nat} (h : ¬ 2 * pos + 1 < xs.length) : su xs.length xs pos = (xs, pos) := by
  cases hf : xs.length with
  | zero => rfl
  | succ f => rw [su, if_neg h]
theorem itm_set {xs : List PyData} {i : Nat} {x : PyData} (h : i < xs.length) : itm (xs.set i x) i = x := by
  simp [itm, h]

set_option maxHeartbeats 8000000 in
theorem mut_siftup {C : Cx} {xs : List PyData} {K : PyData → List PyData → Prop} (hP : Pcs xs) (hpos : 0 < xs.length) (hlen : xs.length ≤ 1000) (k : K .none (siftup xs)) : Mut C 2 (fun vs => PySem.call (.ref 70) vs) xs [.int 0] K := by
  refine Mut.of (n := 1) (Str.ofString "heap") [Str.ofString "pos"] (by rfl) (by rfl) (fun vs h => by
    match vs, h with
    | [a, b], _ => rfl) (by rfl) (by decide) (by rfl) (kind_one (fun _ => .inl (by rfl))) (by rfl) (by rfl) (by rfl) (by rfl) ?_
  dsimp only
  intro L M
  have hnew : ∃ p : Piece, itm xs 0 = p.dat := hP _ (itm_mem hpos)
  unfold siftup at k
  generalize hnw : itm xs 0 = new at *
  refine Exs.cons (Ex.assign (Ev.ownLen (mg_len _) (by rfl) (by rw [sizeLine_eq]; omega) ?_))
  repeat' (walk_at "lws")
  refine Ev.ownItem (by rfl) ?_
  repeat' (walk_at "lws")
  refine ⟨_, new, rfl, by omega, by omega, by rw [← hnw]; exact itm_get hpos, ?_⟩
  repeat' (walk_at "lws")
  refine Ex.mono (K := fun f ρ' => f = .next ∧ ∃ ys p, Pcs ys ∧ p < ys.length ∧ ys.length ≤ 1000 ∧ su xs.length xs 0 = (ys, p) ∧ ρ' = (((((Loc.empty.upd (Str.ofString "endpos") (.dat (.int (xs.length : Nat)))).upd (Str.ofString "startpos") (.dat (.int 0))).upd (Str.ofString "newitem") (.dat new)).upd (Str.ofString "heap") (.own M ys)).upd (Str.ofString "pos") (.dat (.int (p : Nat)))).upd (Str.ofString "childpos") (.dat (.int (2 * (p : Int) + 1))))
    (Ex.whileR (fun a : List PyData × Nat => (((((Loc.empty.upd (Str.ofString "endpos") (.dat (.int (xs.length : Nat)))).upd (Str.ofString "startpos") (.dat (.int 0))).upd (Str.ofString "newitem") (.dat new)).upd (Str.ofString "heap") (.own M a.1)).upd (Str.ofString "pos") (.dat (.int (a.2 : Nat)))).upd (Str.ofString "childpos") (.dat (.int (2 * (a.2 : Int) + 1))))
    (fun a => Pcs a.1 ∧ a.2 < a.1.length ∧ a.1.length = xs.length ∧ su a.1.length a.1 a.2 = su xs.length xs 0) (fun a => xs.length - a.2) (fun ⟨ys, p⟩ ⟨hp1, hp2, hp3, hp4⟩ => ?_) (xs, 0) ⟨hP, hpos, rfl, rfl⟩ (Sub.of_upd (Sub.of_upd (Sub.of_upd (Sub.of_upd (Sub.of_upd (Sub.of_upd Sub.bot (by rfl)) (by rfl)) (by rfl)) (by rfl)) (by rfl)) (by rfl))) ?_
  · dsimp only at hp1 hp2 hp3 hp4 ⊢
    repeat' (walk_at "lws")
    · rename_i h
      have h' : 2 * p + 1 < ys.length := by omega
      have hgt := suChild_gt ys p
      have hclt := suChild_lt h'
      have hci := hp1 _ (itm_mem hclt)
      have hl := hp1 _ (itm_mem h')
      have hst := su_step h'
      have el : (2 * (p : Int) + 1) = ((2 * p + 1 : Nat) : Int) := by push_cast; rfl
      have er : (2 * (p : Int) + 1 + 1) = ((2 * p + 2 : Nat) : Int) := by push_cast; omega
      refine Tst.and2 (Tst.cmp ?_)
      repeat' (walk_at "lws")
      · rename_i h2
        have h2' : 2 * p + 2 < ys.length := by omega
        have hr := hp1 _ (itm_mem h2')
        refine Ev.ownItem (by rfl) ?_
        repeat' (walk_at "lws")
        refine ⟨_, itm ys (2 * p + 1), rfl, by omega, by omega, by rw [el, Int.toNat_natCast]; exact itm_get h', ?_⟩
        refine Ev.ownItem (by rfl) ?_
        repeat' (walk_at "lws")
        refine ⟨_, itm ys (2 * p + 2), rfl, by omega, by omega, by rw [er, Int.toNat_natCast]; exact itm_get h2', ?_⟩
        refine op_lt_data ?_ (pc_cpt hl hr) (pc_depth hl)
        cases hlt : ltD (itm ys (2 * p + 1)) (itm ys (2 * p + 2)) with
        | false =>
          have hc : suChild ys p = 2 * p + 2 := by unfold suChild; rw [if_pos ⟨h2', hlt⟩]
          repeat' (walk_at "lws")
          rw [er, ← hc]
          refine Ex.ownSet (by rfl) (by rw [sizeLine_eq]; omega) (Ev.ownItem (by rfl) ?_)
          repeat' (walk_at "lws")
          refine ⟨_, itm ys (suChild ys p), rfl, by omega, by omega, by rw [Int.toNat_natCast]; exact itm_get hclt, ?_⟩
          repeat' (walk_at "lws")
          refine ⟨by omega, by omega, ?_⟩
          rw [Int.toNat_natCast]
          repeat' (walk_at "lws")
          show ∃ a', _
          refine ⟨(ys.set p (itm ys (suChild ys p)), suChild ys p), by show xs.length - suChild ys p < xs.length - p; omega, ⟨hp1.set _ hci, by rw [List.length_set]; exact hclt, by rw [List.length_set]; exact hp3, by rw [List.length_set]; exact hst.symm.trans hp4⟩, ?_⟩
          exact Sub.of_upd (Sub.of_upd (Sub.of_upd (Sub.of_upd (Sub.of_upd (Sub.of_upd Sub.bot (by rfl)) (by rfl)) (by rfl)) (by rfl)) (by rfl)) (by rfl)
        | true =>
          have hc : suChild ys p = 2 * p + 1 := by unfold suChild; rw [if_neg (fun q => by rw [hlt] at q; cases q.2)]
          repeat' (walk_at "lws")
          rw [el, ← hc]
          refine Ex.ownSet (by rfl) (by rw [sizeLine_eq]; omega) (Ev.ownItem (by rfl) ?_)
          repeat' (walk_at "lws")
          refine ⟨_, itm ys (suChild ys p), rfl, by omega, by omega, by rw [Int.toNat_natCast]; exact itm_get hclt, ?_⟩
          repeat' (walk_at "lws")
          refine ⟨by omega, by omega, ?_⟩
          rw [Int.toNat_natCast]
          repeat' (walk_at "lws")
          show ∃ a', _
          refine ⟨(ys.set p (itm ys (suChild ys p)), suChild ys p), by show xs.length - suChild ys p < xs.length - p; omega, ⟨hp1.set _ hci, by rw [List.length_set]; exact hclt, by rw [List.length_set]; exact hp3, by rw [List.length_set]; exact hst.symm.trans hp4⟩, ?_⟩
          exact Sub.of_upd (Sub.of_upd (Sub.of_upd (Sub.of_upd (Sub.of_upd (Sub.of_upd Sub.bot (by rfl)) (by rfl)) (by rfl)) (by rfl)) (by rfl)) (by rfl)
      · rename_i h2
        have hc : suChild ys p = 2 * p + 1 := by unfold suChild; rw [if_neg (fun q => by omega)]
        rw [el, ← hc]
        refine Ex.ownSet (by rfl) (by rw [sizeLine_eq]; omega) (Ev.ownItem (by rfl) ?_)
        repeat' (walk_at "lws")
        refine ⟨_, itm ys (suChild ys p), rfl, by omega, by omega, by rw [Int.toNat_natCast]; exact itm_get hclt, ?_⟩
        repeat' (walk_at "lws")
        refine ⟨by omega, by omega, ?_⟩
        rw [Int.toNat_natCast]
        repeat' (walk_at "lws")
        show ∃ a', _
        refine ⟨(ys.set p (itm ys (suChild ys p)), suChild ys p), by show xs.length - suChild ys p < xs.length - p; omega, ⟨hp1.set _ hci, by rw [List.length_set]; exact hclt, by rw [List.length_set]; exact hp3, by rw [List.length_set]; exact hst.symm.trans hp4⟩, ?_⟩
        exact Sub.of_upd (Sub.of_upd (Sub.of_upd (Sub.of_upd (Sub.of_upd (Sub.of_upd Sub.bot (by rfl)) (by rfl)) (by rfl)) (by rfl)) (by rfl)) (by rfl)
    · rename_i h
      exact ⟨rfl, ys, p, hp1, hp2, by omega, by rw [← hp4]; exact su_stop (by omega), rfl⟩
  rintro f ρ' ⟨rfl, ys, p, h0, h1, h2, h3, rfl⟩
  dsimp only
  rw [h3] at k
  refine Exs.cons (Ex.ownSet (by rfl) (by rw [sizeLine_eq]; omega) ?_)
  repeat' (walk_at "lws")
  refine ⟨by omega, by omega, ?_⟩
  rw [Int.toNat_natCast]
  refine Exs.cons (Ex.expr (Evx.fn63 (Nat.le_refl _) (by rfl) ?_ (by rfl) (by rfl) (by decide)))
  repeat' (walk_at "lws")
  refine mut_siftdown (h0.set _ hnew) (by rw [List.length_set]; exact h1) (by rw [List.length_set]; exact h2) ?_
  repeat' (walk_at "lws")
  exact ⟨_, by rfl, by rw [itm_set h1]; exact k⟩
end
section


noncomputable def popD (xs : List PyData) (l : PyData) : PyData × List PyData := if xs = [] then (l, []) else (itm xs 0, siftup (xs.set 0 l))

set_option maxHeartbeats 8000000 in
theorem mut_heappush {C : Cx} {xs : List PyData} {x : PyData} {K : PyData → List PyData → Prop} (hP : Pcs xs) (hx : ∃ p : Piece, x = p.dat) (hlen : xs.length ≤ 900) (k : K .none (pushD xs x)) : Mut C 2 (fun vs => PySem.call (.ref 49) vs) xs [x] K := by
  refine Mut.of (n := 1) (Str.ofString "heap") [Str.ofString "item"] (by rfl) (by rfl) (fun vs h => by
    match vs, h with
    | [a, b], _ => rfl) (by rfl) (by decide) (by rfl) (kind_one (fun _ => .inl (by rfl))) (by rfl) (by rfl) (by rfl) (by rfl) ?_
  dsimp only
  intro L M
  refine Exs.cons (Ex.expr (Evx.method PySem.F.slot_list_append PySem.F.type_list_append (by rfl) ?_))
  repeat' (walk_at "lws")
  refine mut_append ?_ (by rw [sizeLine_eq]; omega)
  have hl : (xs ++ [x]).length = xs.length + 1 := by simp
  have hP' : Pcs (xs ++ [x]) := fun y hy => by
    rcases List.mem_append.mp hy with q | q
    · exact hP y q
    · simp only [List.mem_singleton] at q; subst q; exact hx
  refine Exs.cons (Ex.expr (Evx.fn63 (Nat.le_refl _) (by rfl) ?_ (by rfl) (by rfl) (by decide)))
  refine Evs.cons (Ev.int (Evs.cons (Ev.bin (Ev.ownLen (mg_len _) (by rfl) (by rw [hl, sizeLine_eq]; omega) ?_))))
  repeat' (walk_at "lws")
  have e : ((xs ++ [x]).length : Int) - 1 = ((xs.length : Nat) : Int) := by rw [hl]; push_cast; omega
  rw [e]
  refine mut_siftdown hP' (by omega) (by omega) ?_
  repeat' (walk_at "lws")
  have e2 : itm (xs ++ [x]) xs.length = x := by simp [itm]
  exact ⟨_, by rfl, by rw [e2]; exact k⟩

set_option maxHeartbeats 8000000 in
theorem mut_heappop {C : Cx} {xs : List PyData} {l : PyData} {K : PyData → List PyData → Prop} (hP : Pcs xs) (hx : ∃ p : Piece, l = p.dat) (hlen : xs.length ≤ 900) (k : K (popD xs l).1 (popD xs l).2) : Mut C 3 (fun vs => PySem.call (.ref 56) vs) (xs ++ [l]) [] K := by
  refine Mut.of (n := 2) (Str.ofString "heap") [] (by rfl) (by rfl) (fun vs h => by
    match vs, h with
    | [a], _ => rfl) (by rfl) (by decide) (by rfl) (fun _ x hx => by cases hx) (by rfl) (by rfl) (by rfl) (by rfl) ?_
  dsimp only
  intro L M
  refine Exs.cons (Ex.assignX (Evx.method PySem.F.slot_list_pop PySem.F.type_list_pop (by rfl) ?_))
  repeat' (walk_at "lws")
  refine mut_pop ?_ (by rw [sizeLine_eq]; omega)
  have hs : xs.length ≤ sizeLine := by rw [sizeLine_eq]; omega
  refine Exs.cons (Ex.ite (Tst.own (by rfl) hs ?_))
  cases hxs : xs with
  | nil =>
    subst hxs
    have : popD [] l = (l, []) := rfl
    rw [this] at k
    rw [show (!([] : List PyData).isEmpty) = false from rfl]
    repeat' (walk_at "lws")
    exact ⟨_, by rfl, k⟩
  | cons y ys =>
    rw [show (!(y :: ys).isEmpty) = true from rfl, ← hxs]
    have hpos : 0 < xs.length := by rw [hxs]; simp
    have : popD xs l = (itm xs 0, siftup (xs.set 0 l)) := if_neg (by rw [hxs]; simp)
    rw [this] at k
    repeat' (walk_at "lws")
    refine Ev.ownItem (by rfl) ?_
    repeat' (walk_at "lws")
    refine ⟨_, itm xs 0, rfl, by omega, by omega, itm_get hpos, ?_⟩
    refine Exs.cons (Ex.ownSet (by rfl) hs ?_)
    repeat' (walk_at "lws")
    refine ⟨by omega, by omega, ?_⟩
    refine Exs.cons (Ex.expr (Evx.fn70 (Nat.le_refl _) (by rfl) ?_ (by rfl) (by rfl) (by decide)))
    repeat' (walk_at "lws")
    refine mut_siftup (hP.set _ hx) (by rw [List.length_set]; exact hpos) (by rw [List.length_set]; omega) ?_
    repeat' (walk_at "lws")
    exact ⟨_, by rfl, k⟩
end
section
open Sem (wp)

/-! statements of a generator's def, between two yields -/
section
variable {M : Model} {A : Around} {R : GenEnd} {Y : Protocol} {n : Nat} {s₀ : Shared} {c : Code} {fs : List Frame} {s : Shared} {env : Env}
  {K : Flow → Sem PySem.Fin} {H : Value → Sem PySem.Fin} {gd : Bool → Bool} {lv : List Value → List Value}

theorem seg_stmt {st : Stmt} (h : wpAny M (A.over c fs) (exec st env) (fun f s' => Seg M A R Y n s₀ c (K f) fs s') (fun x s' => Seg M A R Y n s₀ c (H x) fs s') s) :
    Seg M A R Y n s₀ c ((exec st env).wrap K H gd lv) fs s := seg_wrap h

theorem seg_If {t : PySem.Expr} {b o : List Stmt} {pos : Pos} (h : wpAny M (A.over c fs) (isTrue t env (eval t env)) (fun k s' => if k = true then Seg M A R Y n s₀ c ((execs b env).wrap K H gd lv) fs s' else Seg M A R Y n s₀ c ((execs o env).wrap K H gd lv) fs s')
      (fun x s' => Seg M A R Y n s₀ c (H x) fs s') s) : Seg M A R Y n s₀ c ((exec (.If t b o pos) env).wrap K H gd lv) fs s := by
  rw [exec_If]
  refine seg_bind_wrap (wpAny_standAt ?_)
  refine seg_bind_wrap (wpAny_mono h (fun k s' hk => ?_) fun _ _ x => x)
  cases k with
  | true => rw [if_pos rfl] at hk ⊢; exact hk
  | false => rw [if_neg (by decide)] at hk ⊢; exact hk

theorem seg_For {tgt iter : PySem.Expr} {b o : List Stmt} {pos : Pos} (hs : ∀ x, foldedSetIterable iter env x = pure x)
    (h : wpAny M (A.over c fs) (eval iter env) (fun x s₁ => wpAny M (A.over c fs) (pyIter x) (fun it s₂ => ∀ p, Seg M A R Y n s₀ (.forLoop tgt it b o env) (M.den (.forLoop tgt it b o env))
      (.ret (fun r => ((match r with | .ok f => (.pure f : Sem Flow) | .error e => .raise e).onRaise fun (x : Value) => do
        if (← field x 1) == Value.none then unsupported "frame.own-activation:exception-without-traceback"
        setFlight x env.frame).wrap K H gd lv) none (gd false) (lv []) c p [] :: fs) s₂) (fun x s' => Seg M A R Y n s₀ c (H x) fs s') s₁) (fun x s' => Seg M A R Y n s₀ c (H x) fs s') s) :
    Seg M A R Y n s₀ c ((exec (.For tgt iter b o pos) env).wrap K H gd lv) fs s := by
  rw [exec_For]
  refine seg_bind_wrap (wpAny_standAt ?_)
  refine seg_bind_wrap (wpAny_mono h (fun x s₁ h₁ => ?_) fun _ _ x => x)
  refine seg_bind_wrap (wpAny_of_eq (hs x) ?_)
  refine seg_bind_wrap (wpAny_standAt ?_)
  refine seg_bind_wrap (wpAny_holding (wpAny_mono h₁ (fun it s₂ h₂ => ?_) fun _ _ x => x))
  exact seg_call h₂
end

section
variable {prog : Program} {w : World} {A : Around} {R : GenEnd} {Y : Protocol} {n : Nat} {s₀ : Shared} {fs : List Frame} {s : Shared} {env : Env}

noncomputable abbrev forK (tgt : PySem.Expr) (it : Value) (b : List Stmt) (env : Env) (f : Flow) : Sem PySem.Fin := match f with
  | .next | .cont => .pure (.again (.forLoop tgt it b [] env))
  | .brk => .pure (.done .next)
  | .ret v => .pure (.done (.ret v))
noncomputable abbrev forH (env : Env) (e : Value) : Sem PySem.Fin := (do noteFrame e env; theTreesLotGoes e : Sem Unit).wrap (fun _ => .raise e) .raise id id

noncomputable abbrev noE : Value → Shared → Prop := fun _ _ => False
theorem seg_forLoop {tgt : PySem.Expr} {it : Value} {b : List Stmt}
    (h : wpAny (model prog w) (A.over (.forLoop tgt it b [] env) fs) (pyNext it) (fun r s₁ => match r with
      | none => ∀ c', Seg (model prog w) A R Y n s₀ c' (.pure (.done .next)) fs s₁
      | some v => wpAny (model prog w) (A.over (.forLoop tgt it b [] env) fs) (letOwnedTupleGo tgt it v) (fun _ s₂ => wpAny (model prog w) (A.over (.forLoop tgt it b [] env) fs) (assign tgt env v) (fun _ s₃ =>
          Seg (model prog w) A R Y n s₀ (.forLoop tgt it b [] env) ((execs b env).wrap (forK tgt it b env) (forH env) id id) fs s₃) noE s₂) noE s₁) noE s) :
    Seg (model prog w) A R Y n s₀ (.forLoop tgt it b [] env) ((model prog w).den (.forLoop tgt it b [] env)) fs s := by
  show Seg _ A R Y n s₀ _ ((forTurn tgt it b [] env).onRaise (fun x => do noteFrame x env; theTreesLotGoes x)) fs s
  unfold forTurn
  rw [Sem.onRaise_eq_wrap]
  refine seg_bind_wrap (wpAny_standAt ?_)
  refine seg_bind_wrap (wpAny_onRaise (wpAny_mono h (fun r s₁ h₁ => ?_) fun _ _ x => x.elim))
  cases r with
  | none =>
    show Seg _ A R Y n s₀ _ (.pure (.again (.block [] env))) fs s₁
    refine seg_again rfl ?_
    exact h₁ _
  | some v =>
    refine seg_bind_wrap (wpAny_mono h₁ (fun _ s₂ h₂ => ?_) fun _ _ x => x.elim)
    refine seg_bind_wrap (wpAny_mono h₂ (fun _ s₃ h₃ => ?_) fun _ _ x => x.elim)
    rw [Sem.bind_eq_wrap', Sem.wrap_wrap]
    rw [Sem.wrap_congr (execs b env) _ _ (K' := forK tgt it b env) (H' := forH env) (fun f => by cases f <;> rfl) (fun e => by first | exact Sem.bind_eq_wrap _ _ | (show (do noteFrame e env; theTreesLotGoes e : Sem Unit).bind (fun _ => .raise e) = _; rw [Sem.bind_eq_wrap]))]
    exact h₃
end
end
section
open Sem (wp)

/-! a list made of what a generator of texts gives -/
structure GW (prog : Program) (w : World) (A : Around) (I S : Addr) (St : List Str → Shared → Prop) (Fin : Shared → Prop) : Prop where
  ne : S ≠ I
  frame : ∀ r (s : Shared) h' tk, St r s → (∀ b o, b ≠ S → s.heap.get? b = some o → h'.get? b = some o) → St r { s with heap := h', toks := tk }
  ty : ∀ r (s : Shared), St r s → s.TypeIs (.ref I) "generator"
  self : ∀ r (s : Shared) (Q : Value → Shared → Prop) (E : Value → Shared → Prop), St r s → Q (.ref I) s → wpAny (model prog w) A (pyIter (.ref I)) Q E s
  item : ∀ x r (s : Shared) (Q : Option Value → Shared → Prop) (E : Value → Shared → Prop) o, St (x :: r) s → s.heap.get? S = some o → (∀ t s', St r s' → s'.heap.get? S = some o → Q (some (.str x t)) s') → wpAny (model prog w) A (pyNext (.ref I)) Q E s
  done : ∀ (s : Shared) (Q : Option Value → Shared → Prop) (E : Value → Shared → Prop) o, St [] s → s.heap.get? S = some o → (∀ s', Fin s' → s'.heap.get? S = some o → Q none s') → wpAny (model prog w) A (pyNext (.ref I)) Q E s

section
variable {prog : Program} {w : World} {A : Around} {R : Result → Shared → Prop} {I S : Addr} {St : List Str → Shared → Prop} {Fin : Shared → Prop}

theorem extend_loop_own (W : GW prog w A.in1 I S St Fin) (res : Value) : ∀ (r : List Str) (s : Shared) (acc : Array Value) (c : Nat), r.length + acc.size ≤ sizeLine → St r s → s.heap.get? S = some (LO acc c) →
    (∀ s' acc' c' (l : List (Str × Tok)), Fin s' → s'.heap.get? S = some (LO acc' c') → acc'.toList = acc.toList ++ strValues l → l.map (·.1) = r → R (.ok (.ret res)) s') →
    codeAny (model prog w) A (.builtin "list.extend.loop" ⟨[.ref S, .ref I, res], []⟩) R s
  | [], s, acc, c, hz, hst, hS, hR => by
    refine codeAny_builtin PySem.F.entry_extend_loop ?_
    rw [Around.under_plainId PySem.F.plain_extend_loop _]
    show wpAny _ A.in1 (pyNext (.ref I) >>= _) _ _ s
    refine wpAny_bind (W.done s _ _ _ hst hS fun s' hf hS' => ?_)
    exact wpAny_pure (hR s' acc c [] hf hS' (by simp [strValues]) rfl)
  | x :: r, s, acc, c, hz, hst, hS, hR => by
    simp only [List.length_cons] at hz
    refine codeAny_builtin PySem.F.entry_extend_loop ?_
    rw [Around.under_plainId PySem.F.plain_extend_loop _]
    show wpAny _ A.in1 (pyNext (.ref I) >>= _) _ _ s
    refine wpAny_bind (W.item x r s _ _ _ hst hS fun t s' hst' hS' => ?_)
    show wpAny _ A.in1 (updateSeq S (·.push (.str x t)) >>= _) _ _ _
    refine wpAny_bind ?_
    refine wpAny_updateSeq hS' rfl (wpAny_pure ⟨plainId_quiet PySem.F.plain_extend_loop _, extend_loop_own W res r _ (acc.push (.str x t)) _ (by rw [Array.size_push]; omega) (W.frame _ s' _ s'.toks hst' fun b o hb e => ?_) (Heap.get?_update_self _ hS' rfl) fun s'' acc' c' l hf hS'' hl1 hl2 => ?_⟩)
      (by omega) (by show (acc.push (.str x t)).size ≤ sizeLine + 1; rw [Array.size_push]; omega)
    · exact (Heap.get?_update_other _ _ (Ne.symm hb)).trans e
    · exact hR s'' acc' c' ((x, t) :: l) hf hS'' (by rw [hl1, Array.toList_push]; simp [strValues]) (by simp [hl2])

theorem extend_own (W : GW prog w A.in1 I S St Fin) (res : Value) {r : List Str} {s : Shared} {c₀ : Nat} (hz : r.length ≤ sizeLine) (hst : St r s) (hS : s.heap.get? S = some (LO #[] c₀))
    (hR : ∀ s' acc' c' (l : List (Str × Tok)), Fin s' → s'.heap.get? S = some (LO acc' c') → acc'.toList = strValues l → l.map (·.1) = r → R (.ok (.ret res)) s') :
    wpAny (model prog w) A.in1 (Builtin.List.listExtendWith (.ref S) (.ref I) res)
      (fun fin s' => match fin with | .done f => R (.ok f) s' | .again c' => c'.quiet = true ∧ codeAny (model prog w) A c' R s') (fun e s' => R (.error e) s') s := by
  unfold Builtin.List.listExtendWith
  refine wpAny_bind (wpAny_typeOf (W.ty r _ hst) ?_)
  have h1 : Builtin.List.listSameRef (.ref S) (.ref I) = false := by simp [Builtin.List.listSameRef, W.ne]
  have h2 : (Value.type "generator" == Value.type "list") = false := by decide
  have h3 : (Value.type "generator" == Value.type "tuple") = false := by decide
  simp only [h1, h2, h3, Bool.or_false, Bool.false_eq_true, if_false]
  refine wpAny_bind (W.self r _ _ _ hst ?_)
  refine wpAny_bind (wpAny_holding ?_)
  unfold Builtin.List.listLengthHint
  refine wpAny_bind (wpAny_specialOf (W.ty r _ hst) PySem.F.gen_no_len ?_)
  show wpAny _ A.in1 (specialOf (Value.ref I) (Str.ofString "__length_hint__") >>= _) _ _ _
  refine wpAny_bind (wpAny_specialOf (W.ty r _ hst) PySem.F.gen_no_hint ?_)
  refine wpAny_pure ?_
  show wpAny _ A.in1 (rule "list.extend.makes-room" >>= fun _ => Builtin.List.listTouch (.ref S) >>= fun _ =>
    again (.builtin "list.extend.loop" ⟨[.ref S, .ref I, res], []⟩)) _ _ _
  refine wpAny_bind (wpAny_rule ?_)
  refine wpAny_bind ?_
  show wpAny _ A.in1 (updateSeq S (·.push .none) >>= fun _ => updateSeq S (·.pop)) _ _ _
  refine wpAny_bind (wpAny_updateSeq hS rfl ?_)
  have hS₂ := Heap.get?_update_self (Obj.mapSeq (·.push Value.none)) hS rfl
  refine wpAny_updateSeq (hz := by seq_fits) hS₂ rfl ?_
  have hS₃ := Heap.get?_update_self (Obj.mapSeq (·.pop)) hS₂ rfl
  have oth : ∀ b o, b ≠ S → s.heap.get? b = some o → ((s.heap.update S (Obj.mapSeq (·.push Value.none))).update S (Obj.mapSeq (·.pop))).get? b = some o :=
    fun b o hb e => (Heap.get?_update_other _ _ (Ne.symm hb)).trans ((Heap.get?_update_other _ _ (Ne.symm hb)).trans e)
  exact wpAny_pure ⟨plainId_quiet PySem.F.plain_extend_loop _, extend_loop_own W res r _ #[] _ (by simpa using hz) (W.frame r s _ s.toks hst oth) hS₃ fun s' acc' c' l hf hS' h1 h2 => hR s' acc' c' l hf hS' (by simpa using h1) h2⟩

theorem list_init_own {s : Shared} (W : GW prog w A.in1 I S St Fin) {r : List Str} (hz : r.length ≤ sizeLine) (hst : St r s) (hS : s.heap.get? S = some (LO #[] 0))
    (hR : ∀ s' acc' c' (l : List (Str × Tok)), Fin s' → s'.heap.get? S = some (LO acc' c') → acc'.toList = strValues l → l.map (·.1) = r → R (.ok (.ret .none)) s') :
    wpAny (model prog w) A.in1 (Builtin.«list.__init__» ⟨[.ref S, .ref I], []⟩)
      (fun fin s' => match fin with | .done f => R (.ok f) s' | .again c' => c'.quiet = true ∧ codeAny (model prog w) A c' R s') (fun e s' => R (.error e) s') s := by
  show wpAny _ A.in1 (do let old ← Builtin.List.listItems (.ref S); Builtin.List.listUpdate (.ref S) (fun _ => #[]); letGo old.toList.reverse; Builtin.List.listExtendWith (.ref S) (.ref I) .none) _ _ s
  refine wpAny_bind ?_
  unfold Builtin.List.listItems
  refine wpAny_bind (wpAny_seqItems hS rfl (wpAny_pure ?_))
  show wpAny _ A.in1 (updateSeq S (fun _ => #[]) >>= fun _ => letGo (#[] : Array Value).toList.reverse >>= fun _ => Builtin.List.listExtendWith (.ref S) (.ref I) .none) _ _ s
  refine wpAny_bind (wpAny_updateSeq hS rfl ?_)
  have hS₂ := Heap.get?_update_self (Obj.mapSeq (fun _ => (#[] : Array Value))) hS rfl
  have oth : ∀ b o, b ≠ S → s.heap.get? b = some o → (s.heap.update S (Obj.mapSeq (fun _ => (#[] : Array Value)))).get? b = some o :=
    fun b o hb e => (Heap.get?_update_other _ _ (Ne.symm hb)).trans e
  refine wpAny_bind (wpAny_letGo ?_)
  exact extend_own W .none hz (W.frame r s _ s.toks hst oth) hS₂ hR
end

theorem call_list_own {prog : Program} {w : World} {A : Around} {E : Value → Shared → Prop} {s : Shared} {I : Addr} {St : List Str → Shared → Prop} {Fin : Shared → Prop} {Q : Value → Shared → Prop} {r : List Str} (hz : r.length ≤ sizeLine)
    (W : GW prog w A.in1.in1 I s.heap.objs.size St Fin) (hst : St r { s with heap := s.heap.push (LO #[] 0) })
    (hQ : ∀ s' acc' c' (l : List (Str × Tok)), Fin s' → s'.heap.get? s.heap.objs.size = some (LO acc' c') → acc'.toList = strValues l → l.map (·.1) = r → Q (.ref s.heap.objs.size) s') :
    wpAny (model prog w) A (call (.type "list") [.ref I]) Q E s := by
  refine callType_codes (Q₁ := fun obj s₁ => obj = .ref s.heap.objs.size ∧ s₁ = { s with heap := s.heap.push { cls := .type "list", data := .seq #[] } }) PySem.F.called_list (PySem.F.typeCall_list_1 _) PySem.F.entry_list_init
    (code_list_new _ ⟨rfl, rfl⟩) fun obj s₁ h₁ => ?_
  obtain ⟨rfl, rfl⟩ := h₁
  have hS : (s.heap.push (LO #[] 0)).get? s.heap.objs.size = some (LO #[] 0) := Heap.get?_push_size _ rfl
  refine ⟨⟨_, hS, rfl⟩, PySem.F.args_list_init_2 _ _, list_init_own W hz hst hS fun s' acc' c' l hf hS' h1 h2 => ⟨rfl, hQ s' acc' c' l hf hS' h1 h2⟩⟩
end
section
open Sem (wp)


noncomputable abbrev Cx.gp (C : Cx) (G : Array GenState → Prop) : Cx := { C with GP := G }
theorem Frm.carry {C : Cx} {env : Env} {ws : Str → Bool} {hin gin : View} {ρ : Loc} {g : View} {s s' : Shared} {G : Array GenState → Prop} (F : Frm C env ws hin gin ρ g s) (hx : ∀ a o, s.heap.get? a = some o → s'.heap.get? a = some o) (hg : G s'.gens) (ho : s'.os = s.os) :
    Frm (C.gp G) env ws hin gin ρ g s' :=
  ⟨⟨⟨F.vis.st.base, fun a o e => hx a o (F.vis.st.sub a o e), hg, ho.trans F.vis.st.os⟩, F.vis.kind, F.vis.glob, F.vis.blt, fun x sl e => let ⟨v, a, b⟩ := F.vis.rd x sl e; ⟨v, a.ext hx, b.grow (.refl g) hx⟩, fun x c e => let ⟨v, a⟩ := F.vis.lv x c e; ⟨v, a.keeps hx⟩⟩,
    fun a o e => hx a o (F.keep a o e), F.frz, let ⟨m, h⟩ := F.ns; ⟨m, h.keeps hx⟩, F.nsp, F.cell, F.cinj, F.own, F.oinj⟩

/-! the generator's turns -/
/-- what the outside asks of a stretch of a generator's run -/
structure Stretch (C : Cx) (GR : Array GenState) (H0 : View) (S a : Addr) (gi : Nat) (s₀ s : Shared) : Prop where
  here : ∀ b o, b = S ∨ b = a → s₀.heap.get? b = some o → s.heap.get? b = some o
  old : ∀ b o, H0 b = some o → s.heap.get? b = some o
  gens : s.gens = GR
  os : s.os = C.os₀

noncomputable def restOf (tag : Str) (t : Str) : Option Str := if cutS t none (some 2) ∈ [Str.ofString "  ", tag] then some (cutS t (some 2) none) else none
noncomputable def restD (tag : Str) (ts : List Str) : List Str := ts.filterMap (restOf tag)

noncomputable def genR (C : Cx) (GR : Array GenState) (H0 : View) (S a : Addr) (gi : Nat) : GenEnd := fun n s₀ r s₁ => r = .ok (.ret .none) ∧ (n = 0 ∧ Stretch C GR H0 S a gi s₀ s₁)
noncomputable def genY (C : Cx) (GR : Array GenState) (H0 : View) (S a : Addr) (gi : Nat) (outs : List Str) : Protocol := fun m s₀ v s kap =>
  (∃ x t, outs[outs.length - 1 - m]? = some x ∧ v = .str x t) ∧ Stretch C GR H0 S a gi s₀ s ∧
    ∀ s'' : Shared, (∀ b o, b ≠ S → s.heap.get? b = some o → s''.heap.get? b = some o) → (∃ o, s''.heap.get? S = some o) → s''.gens = GR → s''.os = s.os → kap (.send .none) s''

/-- the generator's frame, at turn i of its loop -/
structure LI (C : Cx) (GR : Array GenState) (env : Env) (ρ : Loc) (H0 gin : View) (S a : Addr) (fp : List Addr) (Sit : Nat → View → Heap → Prop) (i : Nat) (g : View) (s : Shared) : Prop where
  F : Frm (C.gp fun x => x = GR) env allW H0 gin ρ g s
  it : Sit i g s.heap
  off : Off env allW ρ H0 (S :: a :: fp)
  gS : g S = none
  hS : ∃ o, s.heap.get? S = some o

section
variable {C : Cx} {GR : Array GenState} {env : Env} {ρ : Loc} {H0 gin : View} {S a : Addr} {gi : Nat} {fp : List Addr} {Sit : Nat → View → Heap → Prop} {g : View} {s s₀ s' : Shared}
theorem Stretch.go (x : Stretch C GR H0 S a gi s₀ s) (F : Frm (C.gp fun x => x = GR) env allW H0 gin ρ g s') (h : ∀ b o, b = S ∨ b = a → s.heap.get? b = some o → s'.heap.get? b = some o) : Stretch C GR H0 S a gi s₀ s' :=
  ⟨fun b o hb e => h b o hb (x.here b o hb e), F.keep, F.vis.st.gens, F.vis.st.os⟩

/-- the loop `for line in delta: if TEST: yield ELT` -/
theorem seg_restore {tag : Str} {texts : List Str} {tgt test elt : PySem.Expr} {ip yp ep : Pos} {I : Addr} {A : Around} {fs : List Frame}
    (hfs : ∀ s₀ s c', Stretch C GR H0 S a gi s₀ s → Seg C.M A (genR C GR H0 S a gi) (genY C GR H0 S a gi (restD tag texts)) 0 s₀ c' (.pure (.done .next)) fs s)
    (it : Itr (C.gp fun x => x = GR) (A.over (.forLoop tgt (.ref I) [.If test [.Expr (.Yield (some elt) yp) ep] [] ip] [] env) fs) tgt I fp Sit (texts.map .str)) (hr : Room 2 (A.over (.forLoop tgt (.ref I) [.If test [.Expr (.Yield (some elt) yp) ep] [] ip] [] env) fs)) (hSf : S ∉ fp) (haf : a ∉ fp)
    (hsp : splitAtGen fs = none) (hgu : fs.any Frame.guarded = false) (hco : env.scope.isCoroutine = false) (hin : interactive env = false)
    (turn : ∀ t, t ∈ texts → Asg (C.gp fun x => x = GR) 2 env allW ρ tgt (.str t) fun ρ' => Sub ρ ρ' ∧ Tst (C.gp fun x => x = GR) 2 env ρ' test fun b => (b = true → ∃ x, restOf tag t = some x ∧ Ev (C.gp fun x => x = GR) 2 env ρ' elt fun d => d = .str x) ∧ (b = false → restOf tag t = none)) :
    ∀ (k i : Nat) (s₀ s : Shared) (g : View), texts.length - i = k → i ≤ texts.length → LI C GR env ρ H0 gin S a fp Sit i g s → Stretch C GR H0 S a gi s₀ s →
      Seg C.M A (genR C GR H0 S a gi) (genY C GR H0 S a gi (restD tag texts)) (restD tag (texts.drop i)).length s₀ (.forLoop tgt (.ref I) [.If test [.Expr (.Yield (some elt) yp) ep] [] ip] [] env)
        (C.M.den (.forLoop tgt (.ref I) [.If test [.Expr (.Yield (some elt) yp) ep] [] ip] [] env)) fs s := by
  intro k
  induction k with
  | zero =>
    intro i s₀ s g hk hi L x
    have hin' : i = texts.length := by omega
    subst hin'
    rw [List.drop_length]
    refine seg_forLoop (wpAny_mono (it.done g s (fun s1 => ∀ c', Seg C.M A (genR C GR H0 S a gi) (genY C GR H0 S a gi (restD tag texts)) 0 s₀ c' (.pure (.done .next)) fs s1) noE (by rw [List.length_map]; exact L.it) L.F.vis.st fun s2 G2 c' => ?_) (fun r s1 ⟨hr1, hq⟩ => ?_) fun _ _ e => e)
    · have offF : Off env allW ρ H0 fp := fun b hb => L.off b (.tail _ (.tail _ hb))
      refine hfs s₀ s2 c' (x.go (L.F.growBut G2 offF) fun b o hb e => G2.ext b o (fun m => ?_) e)
      rcases hb with rfl | rfl
      · exact hSf m
      · exact haf m
    · subst hr1
      exact hq
  | succ k ih =>
    intro i s₀ s g hk hi L x
    have hlt : i < texts.length := by omega
    have hd : (texts.map PyData.str)[i]? = some (.str texts[i]) := by rw [List.getElem?_map, List.getElem?_eq_getElem hlt]; rfl
    have hmem : texts[i] ∈ texts := List.getElem_mem hlt
    have offF : Off env allW ρ H0 fp := fun b hb => L.off b (.tail _ (.tail _ hb))
    have hdrop : texts.drop i = texts[i] :: texts.drop (i + 1) := List.drop_eq_getElem_cons hlt
    refine seg_forLoop (wpAny_mono (it.item i g s (.str texts[i]) (fun v s2 => wpAny C.M (A.over (.forLoop tgt (.ref I) [.If test [.Expr (.Yield (some elt) yp) ep] [] ip] [] env) fs) (assign tgt env v) (fun _ s₃ =>
          Seg C.M A (genR C GR H0 S a gi) (genY C GR H0 S a gi (restD tag texts)) (restD tag (texts.drop i)).length s₀ (.forLoop tgt (.ref I) [.If test [.Expr (.Yield (some elt) yp) ep] [] ip] [] env) ((execs [.If test [.Expr (.Yield (some elt) yp) ep] [] ip] env).wrap (forK tgt (.ref I) [.If test [.Expr (.Yield (some elt) yp) ep] [] ip] env) (forH env) id id) fs s₃) noE s2) noE L.it L.F.vis.st hd ?_) (fun r s1 hr1 => ?_) fun _ _ e => e)
    · intro v g2 s2 rv G2 hS2
      have F2 := L.F.growBut G2 offF
      have k2 : ∀ b o, b = S ∨ b = a → s.heap.get? b = some o → s2.heap.get? b = some o := fun b o hb e => G2.ext b o (fun m => by
        rcases hb with rfl | rfl
        · exact hSf m
        · exact haf m) e
      have gS2 : g2 S = none := by obtain ⟨o, ho⟩ := L.hS; rw [G2.old S o ho]; exact L.gS
      have pb : ∀ b, b ∈ S :: a :: fp → ∀ o, s2.heap.get? b = some o → pub env allW ρ s2.heap b = some o := fun b hb o e => by rw [pub_of (L.off b hb).2.1]; exact e
      refine turn texts[i] hmem _ _ _ g2 s2 _ _ v hr F2.wide rv fun ρ3 g3 s3 ⟨hsub, ht⟩ l3 W3 => ?_
      have F3 := F2.narrow W3
      have k3 : ∀ b o, b = S ∨ b = a → s2.heap.get? b = some o → s3.heap.get? b = some o := fun b o hb e => W3.keep b o (pb b (by rcases hb with rfl | rfl <;> simp) o e)
      have gS3 : g3 S = none := by
        obtain ⟨o, ho⟩ := L.hS
        have ho2 := k2 S o (.inl rfl) ho
        rw [W3.frz S o (pb S (.head _) o ho2)]; exact gS2
      have S3 : Sit (i + 1) g3 s3.heap := by
        have pr := it.prv _ _ _ hS2
        refine it.frame _ _ _ _ _ hS2 l3 (fun b hb => ?_) (fun b hb o e => W3.keep b o (pb b (.tail _ (.tail _ hb)) o e))
        obtain ⟨p1, o, ho⟩ := pr b hb
        rw [W3.frz b o (pb b (.tail _ (.tail _ hb)) o ho)]; exact p1
      refine seg_execs_cons (seg_If (ht _ g3 s3 _ _ hr F3.vis fun bb g4 s4 hb G4 => ?_))
      have F4 := (F3.grow G4).sub hsub
      have growS : ∀ {g5 : View} {s5 : Shared}, Grow (C.gp fun x => x = GR) g3 s3 g5 s5 → Sit (i + 1) g5 s5.heap := fun {g5 s5} G5 => by
        have pr := it.prv _ _ _ S3
        refine it.frame _ _ _ _ _ S3 (G5.le F3.vis.st) (fun b hb => ?_) (fun b hb o e => G5.ext b o e)
        obtain ⟨p1, o, ho⟩ := pr b hb
        rw [G5.old b o ho]; exact p1
      have hS3 : ∃ o, s3.heap.get? S = some o := by
        obtain ⟨o, ho⟩ := L.hS
        exact ⟨o, k3 S o (.inl rfl) (k2 S o (.inl rfl) ho)⟩
      cases bb with
      | false =>
        rw [if_neg (by decide)]
        have hn := hb.2 rfl
        have hlen : restD tag (texts.drop i) = restD tag (texts.drop (i + 1)) := by rw [hdrop]; unfold restD; rw [List.filterMap_cons, hn]
        rw [hlen]
        refine seg_again rfl (ih (i + 1) s₀ s4 g4 (by omega) hlt ⟨F4, growS G4, L.off, ?_, ?_⟩ (x.go F4 fun b o hb e => G4.ext b o (k3 b o hb (k2 b o hb e))))
        · obtain ⟨o, ho⟩ := hS3; rw [G4.old S o ho]; exact gS3
        · obtain ⟨o, ho⟩ := hS3; exact ⟨o, G4.ext S o ho⟩
      | true =>
        rw [if_pos rfl]
        obtain ⟨y, hy, hev⟩ := hb.1 rfl
        have hlen : restD tag (texts.drop i) = y :: restD tag (texts.drop (i + 1)) := by rw [hdrop]; unfold restD; rw [List.filterMap_cons, hy]
        rw [hlen, List.length_cons]
        refine seg_execs_cons (seg_Expr_Yield hsp rfl hgu (hev _ g4 s4 _ _ hr (F3.grow G4).vis fun d v5 g5 s5 hd5 r5 G5 => ?_) hco hin)
        intro kap hkap
        subst hd5
        have G35 := G4.trans G5
        have F5 := (F3.grow G35).sub hsub
        have gS5 : g5 S = none := by obtain ⟨o, ho⟩ := hS3; rw [G35.old S o ho]; exact gS3
        have x5 : Stretch C GR H0 S a gi s₀ s5 := x.go F5 fun b o hb e => G35.ext b o (k3 b o hb (k2 b o hb e))
        have houts : restD tag texts = restD tag (texts.take i) ++ y :: restD tag (texts.drop (i + 1)) := by
          rw [← hlen]; unfold restD; rw [← List.filterMap_append, List.take_append_drop]
        cases r5 with
        | str _ t5 =>
          refine ⟨⟨y, t5, ?_, rfl⟩, x5, fun s'' hk hS'' hg ho => hkap .none s'' ?_⟩
          · rw [houts, List.length_append, List.length_cons]
            have e : (restD tag (texts.take i)).length + ((restD tag (texts.drop (i + 1))).length + 1) - 1 - (restD tag (texts.drop (i + 1))).length = (restD tag (texts.take i)).length := by omega
            rw [e, List.getElem?_append_right (Nat.le_refl _), Nat.sub_self]; rfl
          · have GB : GrowBut (C.gp fun x => x = GR) [S] g5 s5 g5 s'' := ⟨⟨F5.vis.st.base, fun b o e => hk b o (fun q => by rw [q, gS5] at e; cases e) (F5.vis.st.sub b o e), hg, ho.trans F5.vis.st.os⟩,
              fun b o m e => hk b o (fun q => m (by simp [q])) e, fun _ _ _ => rfl⟩
            have F6 := F5.growBut GB fun b hb => L.off b (by simp only [List.mem_singleton] at hb; subst hb; exact .head _)
            refine seg_again rfl (ih (i + 1) s'' s'' g5 (by omega) hlt ⟨F6, ?_, L.off, gS5, hS''⟩ ⟨fun _ _ _ e => e, F6.keep, hg, F6.vis.st.os⟩)
            have S5 := growS G35
            have pr := it.prv _ _ _ S5
            exact it.frame _ _ _ _ _ S5 (.refl _) (fun b hb => (pr b hb).1) fun b hb o e => hk b o (fun q => hSf (q ▸ hb)) e
    · cases r1 : r with
      | none => rw [r1] at hr1; exact hr1.elim
      | some v => rw [r1] at hr1; exact hr1
end
end
section
open Sem (wp)


theorem op_in_tuple {C : Cx} {n : Nat} {K : PyData → Prop} {x : Str} {xs : List Str} (k : K (.bool (decide (x ∈ xs)))) : Op2 C n (compareOp .In) (.str x) (.tuple (xs.map .str)) K :=
  fun A g s Q E v u r st rv ru q => by
    cases rv with | str _ t => cases ru with
      | @tuple a us m _ ha ra =>
        obtain ⟨l, hl, hx⟩ := rel_strs ra
        have hus : us = (strValues l).toArray := by rw [← hl]
        subst hus
        refine SeqAt.in_tupleAt (fun y => match y with | .str z _ => z == x | _ => false) ⟨_, st.sub _ _ ha, rfl, _, rfl⟩ (fun y hy => ?_) ?_
        · simp only [strValues, List.mem_toArray, List.mem_map] at hy
          obtain ⟨p, _, rfl⟩ := hy
          exact SeqAt.EqAt.str_str _ _ _ _
        · have e : ((strValues l).toArray.any fun y => match y with | .str z _ => z == x | _ => false) = decide (x ∈ xs) := by
            subst hx
            clear hl ra ha q k
            induction l with
            | nil => simp [strValues]
            | cons p l ih =>
              simp only [strValues, List.map_cons, List.any_toArray, List.any_cons, List.mem_cons] at ih ⊢
              rw [ih]
              by_cases h1 : p.1 = x
              · simp [h1]
              · have : ¬ x = p.1 := fun h => h1 h.symm
                simp [h1, this]
          rw [e]
          exact q _ _ g _ k (.bool _) (.refl st)

theorem bb_int : bootBuiltins (Str.ofString "int") = some (.type "int") := by rfl
noncomputable def tagOf (i : Int) : Str := if i = 1 then Str.ofString "- " else Str.ofString "+ "

/-- `{1: '- ', 2: '+ '}[int(which)]` -/
theorem Ev.tag {C : Cx} {n : Nat} {env : Env} {ρ : Loc} {K : PyData → Prop} {k1 k2 k3 k4 : Nat} {p1 p2 p3 p4 pd pi px pc ps : Pos} {i : Int} (hx : ρ (Str.ofString "which") = some (.dat (.int i))) (hi : i = 1 ∨ i = 2) (hb : env.kindOf (Str.ofString "int") = some .globalImplicit)
    (k : K (.str (tagOf i))) : Ev C n env ρ (.Subscript (.Dict [some (.Constant (.int 1) k1 p1), some (.Constant (.int 2) k2 p2)] [.Constant (.str (Str.ofString "- ")) k3 p3, .Constant (.str (Str.ofString "+ ")) k4 p4] pd) (.Call (.Name (Str.ofString "int") pi) [.Name (Str.ofString "which") px] [] pc) ps) K :=
  fun A g s Q E rm V q => by
    refine Subscript_ ?_
    refine wpAny_Dict_pairs (knd := intKind C.prog C.w) (pairs := [(eval (.Constant (.int 1) k1 p1) env, do let x ← eval (.Constant (.str (Str.ofString "- ")) k3 p3) env; standAt pd; pure x), (eval (.Constant (.int 2) k2 p2) env, do let x ← eval (.Constant (.str (Str.ofString "+ ")) k4 p4) env; standAt pd; pure x)]) (by rfl) (by simp) (Nat.le_of_ble_eq_true rfl) ?_
    refine evalPairs_cons (wpAny_Constant_int ?_)
    refine wpAny_bind (wpAny_Constant_str (wpAny_bind (wpAny_standAt (wpAny_pure ?_))))
    refine evalPairs_cons (wpAny_Constant_int ?_)
    refine wpAny_bind (wpAny_Constant_str (wpAny_bind (wpAny_standAt (wpAny_pure ?_))))
    refine evalPairs_nil ?_
    refine ⟨[(1, _), (2, _)], ⟨by rfl, rfl, by rfl, rfl, trivial⟩, Heap.DictOf.new s.heap, fun h' hm hs => ?_⟩
    have hn : g s.heap.objs.size = Option.none := V.st.none_of (none_at_size _)
    have G1 := (Grow.pushed V.st { cls := .type "dict", data := .dict #[] })
    have GB : GrowBut C [s.heap.objs.size] g { s with heap := s.heap.push { cls := .type "dict", data := .dict #[] } } g { s with heap := h', toks := s.toks + 1 + 1 + 1 + 1 + 2 } := GrowBut.ofExt G1.st hn hs.extBut
    have G : Grow C g s g { s with heap := h', toks := s.toks + 1 + 1 + 1 + 1 + 2 } := (G1.thenBut GB).fresh fun b hb => by simp only [List.mem_singleton] at hb; subst hb; exact none_at_size _
    have V2 := V.grow G
    refine callB_raw (K := fun ds => ds = [.int i]) (v := .type "int") (by rfl) bb_int rfl ?_ rm V2 (fun ds vs g2 s2 hd rv G2 => ?_) (hx := hb)
    · exact Evs.cons (Ev.name hx rfl)
    subst hd
    obtain ⟨v, rfl, r1⟩ := rv.one
    cases r1 with
    | int _ t =>
      refine call_int_int ?_
      have hm2 := (hm.at fun o e => G2.ext _ o e).mapOf
      have hG := (G.trans G2).toks (s2.toks + 1)
      rcases hi with rfl | rfl
      · exact tail_any hm2.typeIs slot_dict_getitem.lookup (wpAny_getItem_of (knd := intKind C.prog C.w) (k := 1) (by rfl) hm2 (by rfl) (q _ _ g2 _ k (.str ..) hG)) (by rfl)
      · exact tail_any hm2.typeIs slot_dict_getitem.lookup (wpAny_getItem_of (knd := intKind C.prog C.w) (k := 2) (by rfl) hm2 (by rfl) (q _ _ g2 _ k (.str ..) hG)) (by rfl)
end
section
open Sem (wp)


noncomputable abbrev restoreTest (p1 p2 p3 p4 p5 p6 : Pos) (k1 : Nat) : PySem.Expr := .Compare (.Subscript (.Name (Str.ofString "line") p1) (.Slice none (some (.Constant (.int 2) k1 p2)) none p3) p4) [.In] [.Name (Str.ofString "prefixes") p5] p6
noncomputable abbrev restoreElt (p1 p2 p3 p4 : Pos) (k1 : Nat) : PySem.Expr := .Subscript (.Name (Str.ofString "line") p1) (.Slice (some (.Constant (.int 2) k1 p2)) none none p3) p4

theorem restore_turn {C : Cx} {env : Env} {ρ : Loc} {tag t : Str} {pt p1 p2 p3 p4 p5 p6 q1 q2 q3 q4 : Pos} {k1 k2 : Nat} (hρ : ρ (Str.ofString "prefixes") = some (.dat (.tuple [.str (Str.ofString "  "), .str tag]))) (hl : ρ (Str.ofString "line") = none) (hs : storable env allW (Str.ofString "line") = true) (ht : t.length ≤ 100) :
    Asg C 2 env allW ρ (.Name (Str.ofString "line") pt) (.str t) fun ρ' => Sub ρ ρ' ∧ Tst C 2 env ρ' (restoreTest p1 p2 p3 p4 p5 p6 k1) fun b => (b = true → ∃ x, restOf tag t = some x ∧ Ev C 2 env ρ' (restoreElt q1 q2 q3 q4 k2) fun d => d = .str x) ∧ (b = false → restOf tag t = none) := by
  have hts : t.length ≤ sizeLine := by rw [sizeLine_eq]; omega
  refine Asg.name ⟨(Sub.refl _).upd hl, ?_⟩ hs
  have hline : (ρ.upd (Str.ofString "line") (.dat (.str t))) (Str.ofString "line") = some (.dat (.str t)) := Loc.upd_self ..
  refine Tst.cmp (Ev.sliceS hline hts ?_)
  repeat' (walk_at "lws")
  refine Ev.name (d := .tuple [.str (Str.ofString "  "), .str tag]) (by rw [Loc.upd_ne _ _ (by decide)]; exact hρ) ?_
  refine op_in_tuple (xs := [Str.ofString "  ", tag]) ?_
  refine bool_ex ⟨fun hb => ?_, fun hb => ?_⟩
  · have hb' := of_decide_eq_true hb
    refine ⟨_, if_pos hb', ?_⟩
    refine Ev.sliceS hline hts ?_
    repeat' (walk_at "lws")
  · have hb' := of_decide_eq_false hb
    exact if_neg hb'

section
variable {C : Cx} {GR : Array GenState} {env : Env} {ρ ρ₁ : Loc} {H0 gin : View} {S a : Addr} {g : View} {s s₀ : Shared} {A : Around} {R : GenEnd} {Y : Protocol} {n : Nat} {c : Code} {fs : List Frame} {K : Flow → Sem PySem.Fin} {H : Value → Sem PySem.Fin} {gd : Bool → Bool} {lv : List Value → List Value}
theorem seg_leaf_next {M : Model} {k : Result → Sem PySem.Fin} {h : Option Value} {g : Bool} {l : List Value} {c₁ : Code} {p₁ : Pos} {kp : List Value} (hk : Seg M A R Y n s₀ c₁ (k (.ok .next)) fs s) : Seg M A R Y n s₀ c (.pure (.done .next)) (.ret k h g l c₁ p₁ kp :: fs) s := seg_leaf (.ok .next) hk
theorem seg_end_none {M : Model} (h : R n s₀ (.ok (.ret .none)) s) : Seg M A R Y n s₀ c (.pure (.done (.ret .none))) [] s := seg_end (.ok (.ret .none)) h
theorem seg_ex {st : Stmt} (hE : Ex (C.gp fun x => x = GR) 2 env ρ st fun f ρ' => f = .next ∧ ρ' = ρ₁) (hr : Room 2 (A.over c fs)) (F : Frm (C.gp fun x => x = GR) env allW H0 gin ρ g s) (off : Off env allW ρ H0 [S, a]) (gS : g S = none) (hS : ∃ o, s.heap.get? S = some o) (ha : ∃ o, s.heap.get? a = some o)
    (k : ∀ g1 s1, Frm (C.gp fun x => x = GR) env allW H0 gin ρ₁ g1 s1 → Off env allW ρ₁ H0 [S, a] → g1 S = none → (∀ b o, b = S ∨ b = a → s.heap.get? b = some o → s1.heap.get? b = some o) → Seg C.M A R Y n s₀ c (K .next) fs s1) :
    Seg C.M A R Y n s₀ c ((exec st env).wrap K H gd lv) fs s := by
  have pb : ∀ b, b ∈ [S, a] → ∀ o, s.heap.get? b = some o → pub env allW ρ s.heap b = some o := fun b hb o e => by rw [pub_of (off b hb).2.1]; exact e
  refine seg_stmt (hE _ _ _ g s _ _ hr F.wide fun f fv ρ' g1 s1 ⟨hf, hρ⟩ rf l W1 => ?_)
  subst hf hρ
  cases fv <;> first | exact rf.elim | skip
  refine k g1 s1 (F.narrow W1) (fun b hb => ⟨(off b hb).1, fun p => ?_, (off b hb).2.2⟩) ?_ fun b o hb e => W1.keep b o (pb b (by rcases hb with rfl | rfl <;> simp) o e)
  · have hn := W1.hin_priv p
    have : ∃ o, s.heap.get? b = some o := by
      simp only [List.mem_cons, List.not_mem_nil, or_false] at hb
      rcases hb with rfl | rfl
      · exact hS
      · exact ha
    obtain ⟨o, ho⟩ := this
    rw [pb b hb o ho] at hn; cases hn
  · obtain ⟨o, ho⟩ := hS
    rw [W1.frz S o (pb S (.head _) o ho)]; exact gS
end

set_option maxHeartbeats 4000000 in
/-- the generator's run, from its start -/
theorem seg_start {C : Cx} {GR : Array GenState} {fd : FuncData} {oc : Value} {od : Option Addr} {osl : Array (Option Value)} {body : List Stmt} (ho : (pre.heap_1 C.w.params).lookup 42 = some ⟨oc, od, .func fd, osl⟩) (hbody : fd.body = .stmts body)
    {H0 gin : View} {L S a : Addr} {gi : Nat} {i : Int} {texts : List Str} {A : Around} {s : Shared} (hi : i = 1 ∨ i = 2) (hlen : ∀ t ∈ texts, t.length ≤ 100) (hmany : texts.length ≤ 1000)
    (F : Frm (C.gp fun x => x = GR) (callEnvC fd L 42) allW H0 gin (bindDat [Str.ofString "delta", Str.ofString "which"] [.list (texts.map .str), .int i]) gin s)
    (off : Off (callEnvC fd L 42) allW (bindDat [Str.ofString "delta", Str.ofString "which"] [.list (texts.map .str), .int i]) H0 [S, a]) (gS : gin S = none) (hS : ∃ o, s.heap.get? S = some o) (ha : ∃ o, s.heap.get? a = some o) (hA : A.handled = none) (hdep : A.depth + 20 < recursionLimit) (hun : A.units + 400 < cLine) :
    Seg C.M A (genR C GR H0 S a gi) (genY C GR H0 S a gi (restD (tagOf i) texts)) (restD (tagOf i) texts).length s (.func body (callEnvC fd L 42)) (C.M.den (.func body (callEnvC fd L 42))) [] s := by
  cases ho
  cases hbody
  rw [wEnv_eq rfl rfl] at F off ⊢
  dsimp only at F off ⊢
  have hr0 : ∀ (b : List Stmt) (e : Env), Room 2 (A.over (.func b e) []) := fun b e => ⟨hA, by show A.depth + 0 + 1 + 2 < recursionLimit; omega, by show A.units + 0 + 3 + 8 * 2 + 100 < cLine; omega⟩
  with_reducible refine seg_func ?_
  with_reducible refine seg_execs_cons ?_
  with_reducible refine seg_ex (ρ₁ := (bindDat [Str.ofString "delta", Str.ofString "which"] [.list (texts.map .str), .int i]).upd (Str.ofString "tag") (.dat (.str (tagOf i)))) ?_ (hr0 _ _) F off gS hS ha (fun g1 s1 F1 off1 gS1 k1 => ?_)
  · with_reducible refine Ex.try ?_
    with_reducible refine Exs.cons ?_
    with_reducible refine Ex.assign ?_ (by with_unfolding_all rfl) (by with_unfolding_all rfl)
    with_reducible refine Ev.tag (by with_unfolding_all rfl) hi (by with_unfolding_all rfl) ?_
    repeat' (walk_at "lws")
    exact ⟨rfl, rfl⟩
  have hS1 : ∃ o, s1.heap.get? S = some o := let ⟨o, h⟩ := hS; ⟨o, k1 S o (.inl rfl) h⟩
  have ha1 : ∃ o, s1.heap.get? a = some o := let ⟨o, h⟩ := ha; ⟨o, k1 a o (.inr rfl) h⟩
  dsimp only
  with_reducible refine seg_execs_cons ?_
  with_reducible refine seg_ex (ρ₁ := ((bindDat [Str.ofString "delta", Str.ofString "which"] [.list (texts.map .str), .int i]).upd (Str.ofString "tag") (.dat (.str (tagOf i)))).upd (Str.ofString "prefixes") (.dat (.tuple [.str (Str.ofString "  "), .str (tagOf i)]))) ?_ (hr0 _ _) F1 off1 gS1 hS1 ha1 (fun g2 s2 F2 off2 gS2 k2 => ?_)
  · with_reducible refine Ex.assign ?_ (by with_unfolding_all rfl) (by with_unfolding_all rfl)
    with_reducible refine Ev.tuple ?_ (by with_unfolding_all rfl)
    repeat' (walk_at "lws")
    exact ⟨rfl, rfl⟩
  have hS2 : ∃ o, s2.heap.get? S = some o := let ⟨o, h⟩ := hS1; ⟨o, k2 S o (.inl rfl) h⟩
  have ha2 : ∃ o, s2.heap.get? a = some o := let ⟨o, h⟩ := ha1; ⟨o, k2 a o (.inr rfl) h⟩
  dsimp only
  obtain ⟨u, hu, ru⟩ := F2.vis.rd (Str.ofString "delta") (.dat (.list (texts.map .str))) (by rfl)
  cases ru with
  | @list l vs m _ hl rr =>
    with_reducible refine seg_execs_cons ?_
    with_reducible refine seg_For (by intro _; with_unfolding_all rfl) ?_
    with_reducible refine wpAny_Name (hu.load F2.vis.kind ?_) (by decide)
    have hil := IsL.isList (F2.vis.st.sub _ _ hl)
    with_reducible refine wpAny_pyIter_list hil (fun p => ?_)
    have G3 := Grow.pushed F2.vis.st { cls := .type "list_iterator", data := .fields #[.ref l, .int 0 0] }
    have nI : s2.heap.get? s2.heap.objs.size = none := none_at_size _
    have hSI : S ≠ s2.heap.objs.size := fun q => by obtain ⟨o, h⟩ := hS2; rw [q, nI] at h; cases h
    have haI : a ≠ s2.heap.objs.size := fun q => by obtain ⟨o, h⟩ := ha2; rw [q, nI] at h; cases h
    have offI := F2.off (fp := [s2.heap.objs.size]) fun b hb => by simp only [List.mem_singleton] at hb; subst hb; exact nI
    have hit : (s2.heap.push { cls := .type "list_iterator", data := .fields #[.ref l, .int 0 0] }).IsListIter s2.heap.objs.size l 0 := ⟨_, Heap.get?_push_size _ rfl, rfl, rfl⟩
    have F3 := F2.grow G3
    have e0 : (restD (tagOf i) texts).length = (restD (tagOf i) (texts.drop 0)).length := by rw [List.drop_zero]
    rw [e0]
    with_reducible refine seg_restore (C := C) (gin := gin) (ρ := ((bindDat [Str.ofString "delta", Str.ofString "which"] [.list (texts.map .str), .int i]).upd (Str.ofString "tag") (.dat (.str (tagOf i)))).upd (Str.ofString "prefixes") (.dat (.tuple [.str (Str.ofString "  "), .str (tagOf i)]))) (S := S) (a := a) (gi := gi) (tag := tagOf i) (texts := texts) (fp := [s2.heap.objs.size]) (Sit := fun i g h => h.IsListIter s2.heap.objs.size l i ∧ g l = some (LO vs m) ∧ RelAll g vs.toList (texts.map .str) ∧ g s2.heap.objs.size = none) ?_ ?_ ?_ ?_ ?_ ?_ ?_ ?_ ?_ ?_ texts.length 0 s _ g2 (Nat.sub_zero _) (Nat.zero_le _) ?_ ?_
    · intro s₀ s' c' x
      with_reducible refine seg_leaf_next ?_
      exact seg_end_none ⟨rfl, rfl, x⟩
    · exact Itr.list (tgt := .Name (Str.ofString "line") _) (A := A.over _ _) (by exact hA) (by rfl)
    · exact ⟨hA, by show A.depth + (1 + 0) + 0 + 2 < recursionLimit; omega, by show A.units + (3 + 0) + 0 + 8 * 2 + 100 < cLine; omega⟩
    · simpa using hSI
    · simpa using haI
    · rfl
    · rfl
    · rfl
    · rfl
    · intro t ht
      exact restore_turn (by rfl) (by rfl) (by rfl) (hlen t ht)
    · refine ⟨F3, ⟨hit, hl, rr, F2.vis.st.none_of nI⟩, fun b hb => ?_, gS2, ?_⟩
      · rcases List.mem_cons.mp hb with e | hb
        · exact off2 b (e ▸ .head _)
        · rcases List.mem_cons.mp hb with e | hb
          · exact off2 b (e ▸ .tail _ (.head _))
          · exact offI b hb
      · obtain ⟨o, h⟩ := hS2; exact ⟨o, G3.ext S o h⟩
    · exact ⟨fun b o hb e => G3.ext b o (k2 b o hb (k1 b o hb e)), F3.keep, F2.vis.st.gens, F2.vis.st.os⟩
end
section
open Sem (wp)


theorem set_push (gs : Array GenState) (x y : GenState) : (gs.push x).setIfInBounds gs.size y = gs.push y := by
  apply Array.ext_getElem?
  intro i
  rw [Array.getElem?_setIfInBounds]
  by_cases h : gs.size = i
  · subst h; simp
  · rw [if_neg h]
    by_cases h2 : i < gs.size
    · simp [Array.getElem?_push, h2, Ne.symm h]
    · simp [Array.getElem?_push, Ne.symm h]
theorem setGen_push {s : Shared} {gs : Array GenState} {x : GenState} (h : s.gens = gs.push x) (y : GenState) : (s.setGen gs.size y).gens = gs.push y := by
  show s.gens.setIfInBounds gs.size y = _
  rw [h, set_push]

/-- the generator between its turns -/
noncomputable def GSt (C : Cx) (gens0 : Array GenState) (A : Around) (H0 : View) (S a : Addr) (outs r : List Str) (s : Shared) : Prop :=
  (∃ pre, outs = pre ++ r) ∧ s.heap.IsGen a gens0.size ∧ (∀ b o, H0 b = some o → s.heap.get? b = some o) ∧ s.os = C.os₀ ∧ ∃ gs, s.gens = gens0.push gs ∧
    ∀ s'' : Shared, (∀ b o, b ≠ S → s.heap.get? b = some o → s''.heap.get? b = some o) → (∃ o, s''.heap.get? S = some o) → s''.gens = gens0.push .running → s''.os = s.os →
      gs.Goes C.M A.in1 (genR C (gens0.push .running) H0 S a gens0.size) (genY C (gens0.push .running) H0 S a gens0.size outs) r.length (.send .none) s''
noncomputable def GFin (C : Cx) (gens0 : Array GenState) (H0 : View) (s : Shared) : Prop := (∀ b o, H0 b = some o → s.heap.get? b = some o) ∧ s.gens = gens0.push .finished ∧ s.os = C.os₀

theorem gw_restore {C : Cx} {gens0 : Array GenState} {A : Around} {H0 : View} {S a : Addr} {outs : List Str} (hSa : S ≠ a) (hSH : H0 S = none) (hbase : ∀ b o, C.h₀.get? b = some o → H0 b = some o) (hh : A.handled = none) (hroom : A.depth < recursionLimit) :
    GW C.prog C.w A a S (GSt C gens0 A H0 S a outs) (GFin C gens0 H0) where
  ne := hSa
  frame := fun r s h' tk ⟨h1, h2, h3, h4, gs, h5, h6⟩ hk =>
    ⟨h1, let ⟨o, nm, qn, ho, rr⟩ := h2; ⟨o, nm, qn, hk a o (Ne.symm hSa) ho, rr⟩, fun b o e => hk b o (fun q => by rw [q, hSH] at e; cases e) (h3 b o e), h4, gs, h5, fun s'' k1 k2 k3 k4 => h6 s'' (fun b o hb e => k1 b o hb (hk b o hb e)) k2 k3 k4⟩
  ty := fun r s st => st.2.1.typeIs
  self := fun r s Q E st q => wpAny_pyIter_gen st.2.1 q
  item := fun x r s Q E o ⟨⟨pre, h1⟩, h2, h3, h4, gs, h5, h6⟩ hS hQ => by
    have hl : s.heap.NoLimit := C.T.nolimit.keeps fun b o e => h3 b o (hbase b o e)
    have hgs : s.gens[gens0.size]? = some gs := by rw [h5]; simp
    refine wpAny_pyNext_gen (P := fun n s₀ s₁ => n = 0 ∧ Stretch C (gens0.push .running) H0 S a gens0.size s₀ s₁) (n := r.length + 1) hh hl hroom h2 hgs (h6 (s.setGen gens0.size .running) (fun _ _ _ e => e) ⟨o, hS⟩ (setGen_push h5 _) rfl) (fun v s₁ gs' hv => ?_) (fun s₁ hp h' hk => absurd hp.1 (Nat.succ_ne_zero _))
    obtain ⟨⟨y, t, hy, rfl⟩, x1, hkap⟩ := hv
    have hyx : y = x := by
      rw [h1, List.length_append, List.length_cons] at hy
      have e : pre.length + (r.length + 1) - 1 - (r.length + 1 - 1) = pre.length := by omega
      rw [e, List.getElem?_append_right (Nat.le_refl _), Nat.sub_self] at hy
      simpa using hy.symm
    subst hyx
    refine hQ t _ ⟨⟨pre ++ [y], by rw [h1]; simp⟩, ?_, x1.old, x1.os, gs', setGen_push x1.gens _, fun s'' k1 k2 k3 k4 => hkap s'' k1 k2 k3 k4⟩ (x1.here S o (.inl rfl) hS)
    obtain ⟨o', nm, qn, ho, rr⟩ := h2
    exact ⟨o', nm, qn, x1.here a o' (.inr rfl) ho, rr⟩
  done := fun s Q E o ⟨⟨pre, h1⟩, h2, h3, h4, gs, h5, h6⟩ hS hQ => by
    have hl : s.heap.NoLimit := C.T.nolimit.keeps fun b o e => h3 b o (hbase b o e)
    have hgs : s.gens[gens0.size]? = some gs := by rw [h5]; simp
    refine wpAny_pyNext_gen (P := fun n s₀ s₁ => n = 0 ∧ Stretch C (gens0.push .running) H0 S a gens0.size s₀ s₁) (n := 0) hh hl hroom h2 hgs (h6 (s.setGen gens0.size .running) (fun _ _ _ e => e) ⟨o, hS⟩ (setGen_push h5 _) rfl) (fun v s₁ gs' hv => ?_) (fun s₁ hp h' hk => ?_)
    · obtain ⟨_, x1, hkap⟩ := hv
      exact (hkap s₁ (fun _ _ _ e => e) ⟨o, x1.here S o (.inl rfl) hS⟩ x1.gens rfl).elim
    · obtain ⟨_, x1⟩ := hp
      exact hQ _ ⟨fun b o e => hk b o (x1.old b o e), setGen_push x1.gens _, x1.os⟩ (hk S o (x1.here S o (.inl rfl) hS))
end
section
open Sem (wp)


theorem restore_call {C : Cx} {n : Nat} {oc : Value} {od : Option Addr} {osl : Array (Option Value)} {fd : FuncData} {body : List Stmt} (hGP : ∀ a, C.GP a → C.GP (a.push .finished))
    (ho : (pre.heap_1 C.w.params).lookup 42 = some ⟨oc, od, .func fd, osl⟩) (hbody : fd.body = .stmts body)
    (hbind : ∀ v u : Value, bindArgs fd ⟨[v, u], []⟩ = pure [(Str.ofString "delta", v), (Str.ofString "which", u)])
    (hkind : ∀ k, ∀ x ∈ [Str.ofString "delta", Str.ofString "which"], fd.scope.names.lookup x = some .local ∨ (fd.scope.names.lookup x = some .cell ∧ ((cellsFrom k fd.scope.names []).lookup x).isSome = true))
    (hcode : codeIn (pre.heap_1 C.w.params) fd.code fd.qualname = true) (hcl : fd.closure = []) (hglob : fd.globals = mainGlobals) (hblt : fd.builtins = builtinsNs)
    (hco : fd.scope.isCoroutine = false) (hgen : fd.scope.isGenerator = true) (hk : fd.scope.kind = .function) (hn : 50 ≤ n)
    {texts : List Str} {i : Int} (hi : i = 1 ∨ i = 2) (hlen : ∀ t ∈ texts, t.length ≤ 100) (hmany : texts.length ≤ 1000) {A : Around} {g : View} {s : Shared} {Q E : Value → Shared → Prop} {v u : Value}
    (r : Room n A) (st : St C g s) (rv : Rel g v (.list (texts.map .str))) (ru : Rel g u (.int i))
    (q : ∀ v' g' s', Rel g' v' (strsD (restD (tagOf i) texts)) → Grow C g s g' s' → Q v' s') :
    wpAny C.M A (PySem.call (.ref 42) [v, u]) (fun r s1 => wpAny C.M A (PySem.call (.type "list") [r]) Q E s1) E s := by
  have X := C.X.keeps st.keep
  have hd := r.depth
  have hu := r.units
  refine wpAny_call (codeAny_call_generator r.d (X _ _ ho) rfl hco hgen hbody (codeRec_of X hcode) ?_)
  rw [hcl, hbind]
  refine wpAny_pure (wpAny_newFunctionEnv_cells hk (fun x hx => ?_) fun env he s' x => ?_)
  · obtain ⟨h1, _⟩ := List.of_mem_zip (show (x.1, x.2) ∈ [Str.ofString "delta", Str.ofString "which"].zip [v, u] from hx)
    exact hkind _ _ h1
  subst he
  refine ⟨(C.T.nolimit.keeps st.keep).keeps x.toInCall.keep, ?_⟩
  have F := Frm.start (names := [Str.ofString "delta", Str.ofString "which"]) (vs := [v, u]) (ds := [.list (texts.map .str), .int i]) (f := 42) st (.cons rv (.cons ru .nil)) hk hglob hblt hkind x
  obtain ⟨h', tk, hs'⟩ := x.toInCall.same
  have hgens : s'.gens = s.gens := by rw [hs']
  have na : s'.heap.get? s'.heap.objs.size = none := none_at_size _
  have nS : s'.heap.get? (s'.heap.objs.size + 1) = none := Heap.get?_none_of_le (Nat.le_succ _)
  have sN : ∀ b, s'.heap.get? b = none → s.heap.get? b = none := fun b e => by
    cases q : s.heap.get? b with
    | none => rfl
    | some o => rw [x.toInCall.keep b o q] at e; cases e
  have hz1 : ∀ (h : Heap) (o : Obj), (h.push o).objs.size = h.objs.size + 1 := fun h o => Heap.size_push ..
  show wpAny C.M A (PySem.call (.type "list") [.ref s'.heap.objs.size]) Q E _
  have W := gw_restore (C := C) (gens0 := s'.gens) (A := A.in1.in1) (H0 := s.heap.get?) (S := s'.heap.objs.size + 1) (a := s'.heap.objs.size) (outs := restD (tagOf i) texts) (Nat.succ_ne_self _) (sN _ nS) st.keep r.hnd (by show A.depth < recursionLimit; omega)
  have hml : (restD (tagOf i) texts).length ≤ sizeLine := Nat.le_trans (List.length_filterMap_le _ _) (by rw [sizeLine_eq]; omega)
  refine call_list_own (St := GSt C s'.gens A.in1.in1 s.heap.get? (s'.heap.objs.size + 1) s'.heap.objs.size (restD (tagOf i) texts)) (Fin := GFin C s'.gens s.heap.get?) (r := restD (tagOf i) texts) hml ?_ ?_ ?_
  · simp only [hz1]; exact W
  · refine ⟨⟨[], rfl⟩, ⟨_, _, _, Heap.get?_push_of_some _ (Heap.get?_push_size _ rfl), rfl, rfl, rfl⟩, fun b o e => Heap.get?_push_of_some _ (Heap.get?_push_of_some _ (x.toInCall.keep b o e)), F.vis.st.os, _, rfl, fun s'' k1 k2 k3 k4 => ⟨rfl, ?_⟩⟩
    have hx2 : ∀ b o, s'.heap.get? b = some o → s''.heap.get? b = some o := fun b o e => k1 b o (fun q => by rw [q, nS] at e; cases e) (Heap.get?_push_of_some _ (Heap.get?_push_of_some _ e))
    have F2 := F.carry (s' := s'') (G := fun x => x = s'.gens.push .running) hx2 k3 k4
    refine seg_start (gi := s'.gens.size) ho hbody hi hlen hmany F2 (F.off fun b hb => ?_) (st.none_of (sN _ nS)) k2 ⟨_, k1 _ _ (Nat.succ_ne_self _).symm (Heap.get?_push_of_some _ (Heap.get?_push_size _ rfl))⟩ r.hnd (by show A.depth + 20 < recursionLimit; omega) (by show A.units + 1 + 1 + 1 + 400 < cLine; omega)
    simp only [List.mem_cons, List.not_mem_nil, or_false] at hb
    rcases hb with rfl | rfl
    · exact nS
    · exact na
  · intro s1 acc c l hf hS h1 h2
    simp only [hz1] at hS ⊢
    have gS : g (s'.heap.objs.size + 1) = none := st.none_of (sN _ nS)
    have lset : Le g (g.set (s'.heap.objs.size + 1) (LO acc c)) := Le.set gS
    refine q _ (g.set (s'.heap.objs.size + 1) (LO acc c)) s1 (.list (View.set_self ..) ?_) ⟨⟨fun b o e => lset b o (st.base b o e), fun b o e => ?_, ?_, hf.2.2⟩, hf.1, fun b o e => View.set_ne _ _ (fun q => by rw [q, sN _ nS] at e; cases e)⟩
    · rw [h1, ← h2]
      exact (strs_rel l)
    · by_cases qb : b = s'.heap.objs.size + 1
      · subst qb; rw [View.set_self] at e; cases e; exact hS
      · rw [View.set_ne _ _ qb] at e; exact hf.1 b o (st.sub b o e)
    · rw [hf.2.1, hgens]; exact hGP _ st.gens

theorem bb_list : bootBuiltins (Str.ofString "list") = some (.type "list") := by rfl
theorem Ev.restoreList {C : Cx} {n : Nat} {env : Env} {ρ : Loc} {K : PyData → Prop} {args : List PySem.Expr} {pl pr p1 p2 : Pos} (hGP : ∀ a, C.GP a → C.GP (a.push .finished)) (hn : 50 ≤ n)
    (hxl : env.kindOf (Str.ofString "list") = some .globalImplicit) (hxr : env.kindOf (Str.ofString "restore") = some .globalImplicit) (hp : args.all plainElt = true) (hne : args ≠ [])
    (h : Evs C n env ρ args fun ds => ∃ texts i, ds = [.list (texts.map .str), .int i] ∧ (i = 1 ∨ i = 2) ∧ (∀ t ∈ texts, t.length ≤ 100) ∧ texts.length ≤ 1000 ∧ K (strsD (restD (tagOf i) texts))) :
    Ev C n env ρ (.Call (.Name (Str.ofString "list") pl) [.Call (.Name (Str.ofString "restore") pr) args [] p1] [] p2) K :=
  fun A g s Q E rm V q => by
    show wpAny C.M A (do callWith p2 (← eval (.Name (Str.ofString "list") pl) env) [] (backTo p2 (starEach [.Call (.Name (Str.ofString "restore") pr) args [] p1] env)) []) Q E s
    refine wpAny_bind (name_blt (by rfl) bb_list V ?_ hxl)
    refine callWith_blt rfl (backTo_plain rfl) ?_
    rw [starEach_plain rfl]
    refine Calls.evalArgs_plain (wpAny_items_cons (e := .Call (.Name (Str.ofString "restore") pr) args [] p1) (rest := []) ?_ rfl)
    show wpAny C.M A (do callWith p1 (← eval (.Name (Str.ofString "restore") pr) env) [] (backTo p1 (starEach args env)) []) _ E s
    obtain ⟨oc, od, osl, fd, body, ho, hbody, hbind, hkind, hcode, hcl, hglob, hblt, hco, hgen, hk⟩ : ∃ oc od osl fd body, (pre.heap_1 C.w.params).lookup 42 = some ⟨oc, od, .func fd, osl⟩ ∧ fd.body = .stmts body ∧ (∀ v u : Value, bindArgs fd ⟨[v, u], []⟩ = pure [(Str.ofString "delta", v), (Str.ofString "which", u)]) ∧
      (∀ k, ∀ x ∈ [Str.ofString "delta", Str.ofString "which"], fd.scope.names.lookup x = some .local ∨ (fd.scope.names.lookup x = some .cell ∧ ((cellsFrom k fd.scope.names []).lookup x).isSome = true)) ∧ codeIn (pre.heap_1 C.w.params) fd.code fd.qualname = true ∧ fd.closure = [] ∧ fd.globals = mainGlobals ∧ fd.builtins = builtinsNs ∧
      fd.scope.isCoroutine = false ∧ fd.scope.isGenerator = true ∧ fd.scope.kind = .function :=
      ⟨_, _, _, _, _, by rfl, by rfl, fun _ _ => by rfl, kind_two (fun _ => .inl (by rfl)) (fun _ => .inl (by rfl)), by rfl, by rfl, by rfl, by rfl, by rfl, by rfl, by rfl⟩
    have st := V.st
    refine wpAny_bind (Calls.Name_function_global V.kind hxr (Calls.loadGlobal_global (by rw [V.glob]; exact C.T.g.keeps st.keep) (mg_of C.X C.T.g (by rfl : nsIn (pre.heap_1 C.w.params) mainGlobals (Str.ofString "restore") = some (some (.ref 42)))) ?_) (by decide))
    refine Calls.callWith_function (fd := fd) (o := ⟨oc, od, .func fd, osl⟩) ?_
    obtain ⟨e, es, rfl⟩ := List.exists_cons_of_ne_nil hne
    have hp' := hp
    simp only [List.all_cons, Bool.and_eq_true] at hp'
    have run := Evs.run (pos := p1) (e :: es) _ A g s (fun vs s' => (s'.heap.get? 42 = some ⟨oc, od, .func fd, osl⟩ ∧ True) ∧ wpAny C.M A (PySem.call (.ref 42) vs) (fun r s1 => wpAny C.M A (spliced (backTo p2 (starEach [] env))) (fun vs s2 => wpAny C.M A (PySem.call (.type "list") (([] : List Value) ++ (⟨r :: vs, []⟩ : Args).pos) (⟨r :: vs, []⟩ : Args).kw) Q E s2) E s1) E s') E hp h rm V fun ds vs g1 s1 ⟨texts, i, hd', hi, h1, h2, hk2⟩ rv G => ⟨⟨C.X.keeps G.st.keep _ _ ho, trivial⟩, by
      subst hd'
      obtain ⟨v, u, rfl, r1, r2⟩ := rv.two
      refine wpAny_mono (restore_call (Q := Q) (E := E) hGP ho hbody hbind hkind hcode hcl hglob hblt hco hgen hk hn hi h1 h2 rm G.st r1 r2 fun v' g2 s2 rd G2 => q _ v' g2 s2 hk2 rd (G.trans G2)) (fun r s2 hr => wpAny_items_nil hr) fun _ _ e => e⟩
    rw [starEach_plain hp'.1] at run ⊢
    exact Calls.evalArgs_plain (wpAny_mono run (fun vs s' h' => ⟨⟨h'.1.1, rfl⟩, h'.2⟩) fun _ _ e => e)
end
section


/-! what the project's book holds -/
noncomputable def textsOf (x : Int) : List Str := (linesD x).map fun p => p.1 ++ p.2
noncomputable def pieceP (x : Int) : Piece := ⟨normD (joinD (pathD (x / 1024))), 97 + 2 * (x % 4), restD (tagOf 1) (textsOf x), restD (tagOf 2) (textsOf x)⟩
noncomputable def entryD (p : Piece) (mv : Int) : PyData := .list ([.list [.str (uniD p.start (p.start + p.taken)), .str (ctxD p.start (p.start + p.taken))], .list [.str (uniD (p.start + mv) (p.start + mv + p.given)), .str (ctxD (p.start + mv) (p.start + mv + p.given))]] ++ [strsD p.one, strsD p.two])
noncomputable def bookFrom : Str → Int → List Piece → List PyData
  | _, _, [] => []
  | bf, mv, p :: ps => (if p.place = bf then [] else [.str p.place]) ++ entryD p (if p.place = bf then mv else 0) :: bookFrom p.place ((if p.place = bf then mv else 0) + p.given - p.taken) ps
noncomputable def popsD : Nat → List PyData → List PyData
  | 0, _ => []
  | f + 1, h => if h = [] then [] else (popD h.dropLast (h.getLast?.getD .none)).1 :: popsD f (popD h.dropLast (h.getLast?.getD .none)).2
noncomputable def heapOf (xs : List Int) : List PyData := xs.foldl (fun h x => pushD h (pieceP x).dat) []

section
variable {C : Cx} {n : Nat} {env : Env} {ρ : Loc} {pos pf : Pos} {K : PyData → Prop} {args : List PySem.Expr}
theorem Ev.fn164 (hm : 3 ≤ n) (h : Evs C n env ρ args fun ds => Fn C 3 (.ref 164) ds K) (hx : env.kindOf (Str.ofString "join") = some .globalImplicit) (hp : args.all plainElt = true) (hne : args ≠ []) :
    Ev C n env ρ (.Call (.Name (Str.ofString "join") pf) args [] pos) K := Ev.call (by rfl) (by rfl) hm h hx hp hne (by decide)
theorem Ev.fn178 (hm : 3 ≤ n) (h : Evs C n env ρ args fun ds => Fn C 3 (.ref 178) ds K) (hx : env.kindOf (Str.ofString "normpath") = some .globalImplicit) (hp : args.all plainElt = true) (hne : args ≠ []) :
    Ev C n env ρ (.Call (.Name (Str.ofString "normpath") pf) args [] pos) K := Ev.call (by rfl) (by rfl) hm h hx hp hne (by decide)
theorem Ev.fn28 (hm : 1 ≤ n) (h : Evs C n env ρ args fun ds => Fn C 1 (.ref 28) ds K) (hx : env.kindOf (Str.ofString "_format_range_unified") = some .globalImplicit) (hp : args.all plainElt = true) (hne : args ≠ []) :
    Ev C n env ρ (.Call (.Name (Str.ofString "_format_range_unified") pf) args [] pos) K := Ev.call (by rfl) (by rfl) hm h hx hp hne (by decide)
theorem Ev.fn35 (hm : 1 ≤ n) (h : Evs C n env ρ args fun ds => Fn C 1 (.ref 35) ds K) (hx : env.kindOf (Str.ofString "_format_range_context") = some .globalImplicit) (hp : args.all plainElt = true) (hne : args ≠ []) :
    Ev C n env ρ (.Call (.Name (Str.ofString "_format_range_context") pf) args [] pos) K := Ev.call (by rfl) (by rfl) hm h hx hp hne (by decide)

theorem Frm.also {hin gin : View} {g : View} {s : Shared} {N : Addr} {o : Obj} (F : Frm C env allW hin gin ρ g s) (hN : s.heap.get? N = some o) (gN : g N = none) (n1 : N ≠ env.locals) (n2 : ∀ x c, env.cells.lookup x = some c → N ≠ c) (n3 : ∀ x ds, ρ x ≠ some (.own N ds)) :
    Frm C env allW (fun b => if b = N then some o else hin b) (fun b => if b = N then none else gin b) ρ g s :=
  ⟨F.vis, fun a o' e => by
      by_cases q : a = N
      · subst q; rw [if_pos rfl] at e; cases e; exact hN
      · rw [if_neg q] at e; exact F.keep a o' e,
    fun a o' e => by
      by_cases q : a = N
      · subst q; rw [if_pos rfl]; exact gN
      · rw [if_neg q] at e ⊢; exact F.frz a o' e,
    F.ns, ⟨by rw [if_neg (Ne.symm n1)]; exact F.nsp.1, F.nsp.2⟩, fun x c w e => ⟨by rw [if_neg (Ne.symm (n2 x c e))]; exact (F.cell x c w e).1, (F.cell x c w e).2⟩, F.cinj,
    fun x M ds e => ⟨by rw [if_neg (fun q : M = N => n3 x ds (by rw [← q]; exact e))]; exact (F.own x M ds e).1, (F.own x M ds e).2⟩, F.oinj⟩
theorem Frm.dropHin {hin gin hin' gin' : View} {g : View} {s : Shared} (F : Frm C env allW hin' gin' ρ g s) (h : ∀ a o, hin a = some o → hin' a = some o ∧ gin' a = gin a) : Frm C env allW hin gin ρ g s := by
  have nn : ∀ a, hin' a = none → hin a = none := fun a e => by
    cases q : hin a with
    | none => rfl
    | some o => have := (h a o q).1; rw [e] at this; cases this
  exact ⟨F.vis, fun a o e => F.keep a o (h a o e).1, fun a o e => (F.frz a o (h a o e).1).trans (h a o e).2, F.ns, ⟨nn _ F.nsp.1, F.nsp.2⟩, fun x c w e => ⟨nn _ (F.cell x c w e).1, (F.cell x c w e).2⟩, F.cinj, fun x M ds e => ⟨nn _ (F.own x M ds e).1, (F.own x M ds e).2⟩, F.oinj⟩
theorem Frm.list_ne {hin gin : View} {g : View} {s : Shared} {N : Addr} {vs : Array Value} {k : Nat} (F : Frm C env allW hin gin ρ g s) (hN : s.heap.get? N = some (LO vs k)) : N ≠ env.locals ∧ ∀ x c, env.cells.lookup x = some c → N ≠ c := by
  refine ⟨fun q => ?_, fun y c e q => ?_⟩
  · obtain ⟨m, h⟩ := F.ns
    obtain ⟨o, es, ep, hL, hd⟩ := Heap.Ns.at h
    rw [← q, hN] at hL; cases hL; cases hd
  · obtain ⟨u, o, hc, hd⟩ := F.vis.lv y c e
    rw [← q, hN] at hc; cases hc; cases hd

theorem assign4 {x1 x2 x3 x4 : Str} {p1 p2 p3 p4 pt : Pos} {kt : Nat} {t : Str} {i : Int} {A : Around} {hin gin g : View} {s : Shared} {Q : Unit → Shared → Prop} {E : Value → Shared → Prop} {M N T : Addr} {tk tk2 : Tok} {k : Nat} (r : Room n A) (F : Frm C env allW hin gin ρ g s)
    (hT : s.heap.get? T = some (TO #[.ref M, .ref N, .str t tk, .int i tk2] k)) (hM : s.heap.get? M = some (LO #[] 0)) (hN : s.heap.get? N = some (LO #[] 0)) (hMN : M ≠ N) (gM : g M = none) (gN : g N = none) (hinM : hin M = none) (hinN : hin N = none) (hno : ∀ y M ds, ρ y ≠ some (.own M ds))
    (h1 : storable env allW x1 = true) (h2 : storable env allW x2 = true) (h3 : storable env allW x3 = true) (h4 : storable env allW x4 = true)
    (q : ∀ s', Frm C env allW hin gin ((((ρ.upd x1 (.own M [])).upd x2 (.own N [])).upd x3 (.dat (.str t))).upd x4 (.dat (.int i))) g s' → Q () s') :
    wpAny C.M A (PySem.assign (.Tuple [.Name x1 p1, .Name x2 p2, .Name x3 p3, .Name x4 p4] kt pt) env (.ref T)) Q E s := by
  rw [arm_assign_Tuple]
  refine wpAny_bind (wpAny_standAt ?_)
  unfold unpack
  rw [assignEach_star rfl, assignEach_len rfl]
  refine wpAny_bind (wpAny_holding ?_)
  refine wpAny_unpackItems_tuple (items := #[.ref M, .ref N, .str t tk, .int i tk2]) r.hnd ⟨_, hT, rfl, _, rfl⟩ fun h' he => ?_
  have G := Grow.ofNew (t := s.toks) F.vis.st he
  have F1 := F.grow G
  have hM1 := G.ext _ _ hM
  have hN1 := G.ext _ _ hN
  show wpAny C.M A (do holding [.ref N, .str t tk, .int i tk2] (PySem.assign (.Name x1 p1) env (.ref M)); assignInOrder [fun v => PySem.assign (.Name x2 p2) env v, fun v => PySem.assign (.Name x3 p3) env v, fun v => PySem.assign (.Name x4 p4) env v] [.ref N, .str t tk, .int i tk2]) Q E _
  obtain ⟨n1, n2⟩ := F1.list_ne hN1
  have F1' := F1.also hN1 gN n1 n2 (fun x ds => hno x N ds)
  refine wpAny_bind (wpAny_holding (wpAny_bind (wpAny_standAt (wpAny_bindName (F1'.store (sl := .own M []) ⟨rfl, _, _, hM1, .nil⟩ (fun M' ds e => ?_) (fun h2' t2 F2' => ?_) h1)))))
  · cases e; exact ⟨by rw [if_neg hMN]; exact hinM, gM, fun y es _ => hno y M es⟩
  have hN2 : h2'.get? N = some (LO #[] 0) := F2'.keep N _ (if_pos rfl)
  have F2 : Frm C env allW hin gin (ρ.upd x1 (.own M [])) g { s with heap := h2', toks := t2 } := F2'.dropHin fun a o e => by
    have : a ≠ N := fun q => by rw [q, hinN] at e; cases e
    exact ⟨by rw [if_neg this]; exact e, if_neg this⟩
  show wpAny C.M A (do holding [.str t tk, .int i tk2] (PySem.assign (.Name x2 p2) env (.ref N)); assignInOrder [fun v => PySem.assign (.Name x3 p3) env v, fun v => PySem.assign (.Name x4 p4) env v] [.str t tk, .int i tk2]) Q E _
  refine wpAny_bind (wpAny_holding (wpAny_bind (wpAny_standAt (wpAny_bindName (F2.store (sl := .own N []) ⟨rfl, _, _, hN2, .nil⟩ (fun M' ds e => ?_) (fun h3' t3 F3 => ?_) h2)))))
  · cases e
    refine ⟨hinN, gN, fun y es hy e => ?_⟩
    by_cases q : y = x1
    · subst q; rw [Loc.upd_self] at e; cases e; exact hMN rfl
    · rw [Loc.upd_ne _ _ q] at e; exact hno y N es e
  show wpAny C.M A (do holding [.int i tk2] (PySem.assign (.Name x3 p3) env (.str t tk)); assignInOrder [fun v => PySem.assign (.Name x4 p4) env v] [.int i tk2]) Q E _
  refine wpAny_bind (wpAny_holding (wpAny_bind (wpAny_standAt (wpAny_bindName (F3.store (sl := .dat (.str t)) (.str t tk) (fun _ _ e => by cases e) (fun h4' t4 F4 => ?_) h3)))))
  show wpAny C.M A (do holding [] (PySem.assign (.Name x4 p4) env (.int i tk2)); assignInOrder [] []) Q E _
  refine wpAny_bind (wpAny_holding (wpAny_bind (wpAny_standAt (wpAny_bindName (F4.store (sl := .dat (.int i)) (.int i tk2) (fun _ _ e => by cases e) (fun h5' t5 F5 => ?_) h4)))))
  exact wpAny_pure (q _ F5)

/-- `h, b, t, m = ([], [], '', 0)`: two lists of the frame's own -/
theorem Ex.init4 {x1 x2 x3 x4 : Str} {p1 p2 p3 p4 p5 p6 p7 p8 pt pv : Pos} {k1 k2 kt kv : Nat} {t : Str} {i : Int} {K : Fl → Loc → Prop} (h : ∀ M N, M ≠ N → K .next ((((ρ.upd x1 (.own M [])).upd x2 (.own N [])).upd x3 (.dat (.str t))).upd x4 (.dat (.int i))))
    (hs : swapsWithSole [.Tuple [.Name x1 p1, .Name x2 p2, .Name x3 p3, .Name x4 p4] kt pt] (.Tuple [.List [] p5, .List [] p6, .Constant (.str t) k1 p7, .Constant (.int i) k2 p8] kv pv) pos.line env = pure false)
    (hw : swappedStores [.Tuple [.Name x1 p1, .Name x2 p2, .Name x3 p3, .Name x4 p4] kt pt] (.Tuple [.List [] p5, .List [] p6, .Constant (.str t) k1 p7, .Constant (.int i) k2 p8] kv pv) env = pure none)
    (h1 : storable env allW x1 = true) (h2 : storable env allW x2 = true) (h3 : storable env allW x3 = true) (h4 : storable env allW x4 = true) (hno : ∀ y M ds, ρ y ≠ some (.own M ds)) :
    Ex C n env ρ (.Assign [.Tuple [.Name x1 p1, .Name x2 p2, .Name x3 p3, .Name x4 p4] kt pt] (.Tuple [.List [] p5, .List [] p6, .Constant (.str t) k1 p7, .Constant (.int i) k2 p8] kv pv) pos) K :=
  fun A hin gin g s Q E r F q => by
    refine Assign_Tuple ?_ hs hw
    refine wpAny_Tuple (wpAny_items_cons (wpAny_List (wpAny_items_nil ⟨Nat.zero_le _, wpAny_items_cons (wpAny_List (wpAny_items_nil ⟨Nat.zero_le _, wpAny_items_cons (wpAny_Constant_str (wpAny_items_cons (wpAny_Constant_int (wpAny_items_nil ⟨by rw [sizeLine_eq]; exact Nat.le_of_ble_eq_true rfl, ?_⟩)) rfl)) rfl⟩)) rfl⟩)) rfl)
    have st := F.vis.st
    have hz : ∀ (h : Heap) (o : Obj), (h.push o).objs.size = h.objs.size + 1 := fun h o => Heap.size_push ..
    have nM : s.heap.get? s.heap.objs.size = Option.none := none_at_size _
    have G1 := Grow.pushed st (LO ([] : List Value).toArray 0)
    have G2 := G1.trans (Grow.pushed G1.st (LO ([] : List Value).toArray 0))
    have nN : s.heap.get? (s.heap.objs.size + 1) = Option.none := Heap.get?_none_of_le (Nat.le_succ _)
    have gM : g s.heap.objs.size = Option.none := st.none_of nM
    have gN : g (s.heap.objs.size + 1) = Option.none := st.none_of nN
    have hinN : ∀ b, s.heap.get? b = Option.none → hin b = Option.none := fun b e => by
      cases q0 : hin b with
      | none => rfl
      | some o => rw [F.keep b o q0] at e; cases e
    have hM : ∀ o1 o2, ((s.heap.push (LO ([] : List Value).toArray 0)).push o1 |>.push o2).get? s.heap.objs.size = some (LO #[] 0) := fun o1 o2 => Heap.get?_push_of_some _ (Heap.get?_push_of_some _ (Heap.get?_push_size _ rfl))
    have hN : ∀ o2, ((s.heap.push (LO ([] : List Value).toArray 0)).push (LO ([] : List Value).toArray 0) |>.push o2).get? (s.heap.objs.size + 1) = some (LO #[] 0) := fun o2 => Heap.get?_push_of_some _ (by
      have := Heap.get?_push_size (s.heap.push (LO ([] : List Value).toArray 0)) (o := LO ([] : List Value).toArray 0) rfl
      rw [hz] at this; exact this)
    have G3 := (G2.toks (s.toks + 1 + 1)).trans (Grow.pushed (G2.toks (s.toks + 1 + 1)).st (TO #[.ref s.heap.objs.size, .ref (s.heap.objs.size + 1), .str t s.toks, .int i (s.toks + 1)] 0))
    have hT : (((s.heap.push (LO ([] : List Value).toArray 0)).push (LO ([] : List Value).toArray 0)).push (TO #[.ref s.heap.objs.size, .ref (s.heap.objs.size + 1), .str t s.toks, .int i (s.toks + 1)] 0)).get? (s.heap.objs.size + 1 + 1) = some (TO #[.ref s.heap.objs.size, .ref (s.heap.objs.size + 1), .str t s.toks, .int i (s.toks + 1)] 0) := by
      have := Heap.get?_push_size ((s.heap.push (LO ([] : List Value).toArray 0)).push (LO ([] : List Value).toArray 0)) (o := TO #[.ref s.heap.objs.size, .ref (s.heap.objs.size + 1), .str t s.toks, .int i (s.toks + 1)] 0) rfl
      rw [hz, hz] at this; exact this
    simp only [hz]
    refine assign4 (M := s.heap.objs.size) (N := s.heap.objs.size + 1) r (F.grow G3) hT (hM _ _) (hN _) (Nat.succ_ne_self _).symm gM gN (hinN _ nM) (hinN _ nN) hno h1 h2 h3 h4 fun s' F' => ?_
    exact q .next .next _ g s' (h _ _ (Nat.succ_ne_self _).symm) trivial (.refl g) F'
end
end
section


section
variable {C : Cx} {n : Nat} {env : Env} {ρ : Loc} {pos : Pos}
theorem assign2 {x1 x2 : Str} {p1 p2 pt : Pos} {kt : Nat} {A : Around} {hin gin g : View} {s : Shared} {Q : Unit → Shared → Prop} {E : Value → Shared → Prop} {N T : Addr} {vi : Value} {d : PyData} {vs : Array Value} {c k : Nat} {ds : List PyData} (r : Room n A) (F : Frm C env allW hin gin ρ g s)
    (hT : s.heap.get? T = some (TO #[.ref N, vi] k)) (hN : s.heap.get? N = some (LO vs c)) (rN : RelAll g vs.toList ds) (gN : g N = none) (hinN : hin N = none) (hno : ∀ y es, y ≠ x1 → ρ y ≠ some (.own N es)) (ri : Rel g vi d)
    (h1 : storable env allW x1 = true) (h2 : storable env allW x2 = true)
    (q : ∀ s', Frm C env allW hin gin ((ρ.upd x1 (.own N ds)).upd x2 (.dat d)) g s' → Q () s') :
    wpAny C.M A (PySem.assign (.Tuple [.Name x1 p1, .Name x2 p2] kt pt) env (.ref T)) Q E s := by
  rw [arm_assign_Tuple]
  refine wpAny_bind (wpAny_standAt ?_)
  unfold unpack
  rw [assignEach_star rfl, assignEach_len rfl]
  refine wpAny_bind (wpAny_holding ?_)
  refine wpAny_unpackItems_tuple (items := #[.ref N, vi]) r.hnd ⟨_, hT, rfl, _, rfl⟩ fun h' he => ?_
  have G := Grow.ofNew (t := s.toks) F.vis.st he
  have F1 := F.grow G
  have hN1 := G.ext _ _ hN
  show wpAny C.M A (do holding [vi] (PySem.assign (.Name x1 p1) env (.ref N)); assignInOrder [fun v => PySem.assign (.Name x2 p2) env v] [vi]) Q E _
  refine wpAny_bind (wpAny_holding (wpAny_bind (wpAny_standAt (wpAny_bindName (F1.store (sl := .own N ds) ⟨rfl, _, _, hN1, rN⟩ (fun M' ds e => ?_) (fun h2' t2 F2 => ?_) h1)))))
  · cases e; exact ⟨hinN, gN, fun y es hy => hno y es hy⟩
  show wpAny C.M A (do holding [] (PySem.assign (.Name x2 p2) env vi); assignInOrder [] []) Q E _
  refine wpAny_bind (wpAny_holding (wpAny_bind (wpAny_standAt (wpAny_bindName (F2.store (sl := .dat d) ri (fun _ _ e => by cases e) (fun h3' t3 F3 => ?_) h2)))))
  exact wpAny_pure (q _ F3)

/-- `b, m = (b, m) if TEST else (b + [z], 0)`: b a list of the frame's own -/
theorem Ex.bookIf {x y z : Str} {test : PySem.Expr} {p1 p2 pt a1 a2 a3 a4 a5 q1 q2 q3 q4 q5 : Pos} {kt k1 k2 k3 : Nat} {M : Addr} {ds : List PyData} {mv : Int} {pl : Str} {K : Fl → Loc → Prop} (hx : ρ x = some (.own M ds)) (hy : ρ y = some (.dat (.int mv))) (hz : ρ z = some (.dat (.str pl))) (hsz : ds.length + 1 ≤ sizeLine)
    (h : Tst C n env ρ test fun b => (b = true → K .next ((ρ.upd x (.own M ds)).upd y (.dat (.int mv)))) ∧ (b = false → ∀ N, (∀ w O es, ρ w = some (.own O es) → O ≠ N) → K .next ((ρ.upd x (.own N (ds ++ [.str pl]))).upd y (.dat (.int 0)))))
    (hs : swapsWithSole [.Tuple [.Name x p1, .Name y p2] kt pt] (.IfExp test (.Tuple [.Name x a1, .Name y a2] k1 q1) (.Tuple [.BinOp (.Name x a3) .Add (.List [.Name z a4] q2) q3, .Constant (.int 0) k2 a5] k3 q4) q5) pos.line env = pure false)
    (hw : swappedStores [.Tuple [.Name x p1, .Name y p2] kt pt] (.IfExp test (.Tuple [.Name x a1, .Name y a2] k1 q1) (.Tuple [.BinOp (.Name x a3) .Add (.List [.Name z a4] q2) q3, .Constant (.int 0) k2 a5] k3 q4) q5) env = pure none)
    (h1 : storable env allW x = true) (h2 : storable env allW y = true) (dx : (x == ("__debug__" : Str)) = false) (dy : (y == ("__debug__" : Str)) = false) (dz : (z == ("__debug__" : Str)) = false) :
    Ex C n env ρ (.Assign [.Tuple [.Name x p1, .Name y p2] kt pt] (.IfExp test (.Tuple [.Name x a1, .Name y a2] k1 q1) (.Tuple [.BinOp (.Name x a3) .Add (.List [.Name z a4] q2) q3, .Constant (.int 0) k2 a5] k3 q4) q5) pos) K :=
  fun A hin gin g s Q E r F q => by
    refine Assign_Tuple (wpAny_IfExp (h A g s _ E r F.vis fun b g1 s1 ⟨hb1, hb2⟩ G1 => ?_)) hs hw
    have F1 := F.grow G1
    obtain ⟨hh, us, c, ho, rr⟩ := F1.own_at hx
    obtain ⟨oh, og⟩ := F1.own x M ds hx
    obtain ⟨vy, hvy, ry⟩ := F1.vis.rd y _ hy
    have l01 := G1.le F.vis.st
    have hzz : ∀ (h : Heap) (o : Obj), (h.push o).objs.size = h.objs.size + 1 := fun h o => Heap.size_push ..
    cases b with
    | true =>
      rw [if_pos rfl]
      refine wpAny_Tuple (wpAny_items_cons (wpAny_Name (hh.load F1.vis.kind (wpAny_items_cons (wpAny_Name (hvy.load F1.vis.kind (wpAny_items_nil ⟨by rw [sizeLine_eq]; exact Nat.le_of_ble_eq_true rfl, ?_⟩)) dy) rfl)) dx) rfl)
      have G2 := Grow.pushed F1.vis.st (TO #[.ref M, vy] 0)
      refine assign2 r (F1.grow G2) (Heap.get?_push_size _ rfl) (G2.ext _ _ ho) rr og oh (fun w es hw e => hw (F1.oinj w x M es ds e hx)) ry h1 h2 fun s' F' => ?_
      exact q .next .next _ g1 s' (hb1 rfl) trivial l01 F'
    | false =>
      rw [if_neg (by decide)]
      obtain ⟨vz, hvz, rz⟩ := F1.vis.rd z _ hz
      refine wpAny_Tuple (wpAny_items_cons (wpAny_BinOp (wpAny_Name (hh.load F1.vis.kind (wpAny_List (wpAny_items_cons (wpAny_Name (hvz.load F1.vis.kind (wpAny_items_nil ⟨by rw [sizeLine_eq]; exact Nat.le_of_ble_eq_true rfl, ?_⟩)) dz) rfl))) dx)) rfl)
      have G2 := Grow.pushed F1.vis.st (LO [vz].toArray 0)
      have l1 := rr.length
      simp only [Array.length_toList] at l1
      refine P.add_list (G2.ext _ _ ho) (Heap.get?_push_size _ rfl) ?_ (by rw [l1]; exact hsz)
      have G3 := G2.trans (Grow.pushed G2.st (LO (us ++ [vz].toArray) 0))
      refine wpAny_items_cons (wpAny_Constant_int (wpAny_items_nil ⟨by rw [sizeLine_eq]; exact Nat.le_of_ble_eq_true rfl, ?_⟩)) rfl
      have st1 := F1.vis.st
      have nN : s1.heap.get? (s1.heap.objs.size + 1) = Option.none := Heap.get?_none_of_le (Nat.le_succ _)
      have gN : g1 (s1.heap.objs.size + 1) = Option.none := st1.none_of nN
      have hinN : hin (s1.heap.objs.size + 1) = Option.none := by
        cases q0 : hin (s1.heap.objs.size + 1) with
        | none => rfl
        | some o => rw [F1.keep _ o q0] at nN; cases nN
      have hN0 : ((s1.heap.push (LO [vz].toArray 0)).push (LO (us ++ [vz].toArray) 0)).get? (s1.heap.objs.size + 1) = some (LO (us ++ [vz].toArray) 0) := by
        have := Heap.get?_push_size (s1.heap.push (LO [vz].toArray 0)) (o := LO (us ++ [vz].toArray) 0) rfl
        rw [hzz] at this; exact this
      have G4 := (G3.toks (s1.toks + 1)).trans (Grow.pushed (G3.toks (s1.toks + 1)).st (TO #[.ref (s1.heap.objs.size + 1), .int 0 s1.toks] 0))
      have hT : (((s1.heap.push (LO [vz].toArray 0)).push (LO (us ++ [vz].toArray) 0)).push (TO #[.ref (s1.heap.objs.size + 1), .int 0 s1.toks] 0)).get? (s1.heap.objs.size + 1 + 1) = some (TO #[.ref (s1.heap.objs.size + 1), .int 0 s1.toks] 0) := by
        have := Heap.get?_push_size ((s1.heap.push (LO [vz].toArray 0)).push (LO (us ++ [vz].toArray) 0)) (o := TO #[.ref (s1.heap.objs.size + 1), .int 0 s1.toks] 0) rfl
        rw [hzz, hzz] at this; exact this
      have nOwn : ∀ w O es, ρ w = some (.own O es) → O ≠ s1.heap.objs.size + 1 := fun w O es e q => by
        obtain ⟨_, _, _, ho', _⟩ := F1.own_at e
        rw [q, nN] at ho'; cases ho'
      simp only [hzz]
      refine assign2 r (F1.grow G4) hT (Heap.get?_push_of_some _ hN0) (ds := ds ++ [.str pl]) ?_ gN hinN (fun w es hw e => nOwn w _ es e rfl) (.int 0 s1.toks) h1 h2 fun s' F' => ?_
      · rw [Array.toList_append]; exact rr.append (.cons rz .nil)
      · exact q .next .next _ g1 s' (hb2 rfl _ nOwn) trivial l01 F'
end
end
section


noncomputable def catTurn : PyData → PyData
  | .list [.str a, .str b] => .str (a ++ b)
  | d => d
theorem cat_map (ls : List (Str × Str)) : (ls.map pairD).map catTurn = (ls.map fun p => p.1 ++ p.2).map PyData.str := by rw [List.map_map, List.map_map]; rfl
noncomputable def restTurn (x : Int) : PyData → PyData
  | .int i => strsD (restD (tagOf i) (textsOf x))
  | d => d
theorem tagD_len (i : Int) : (tagD i).length = 2 := by unfold tagD; split <;> decide +kernel
theorem linesD_small {x : Int} {p : Str × Str} (h : p ∈ linesD x) : p.1.length = 2 ∧ p.2.length ≤ 22 := by
  unfold linesD at h
  obtain ⟨k, hk, rfl⟩ := List.mem_map.mp h
  have hk' : k < 30 := Nat.lt_of_lt_of_le (List.mem_range.mp hk) (manyD_le _)
  refine ⟨tagD_len _, ?_⟩
  have := text_len (a := (k : Int)) (by omega) (by omega)
  show (lineAt k).length ≤ 22
  unfold lineAt
  rw [Str.length_append, dash_len]; omega
theorem textsOf_small {x : Int} {t : Str} (h : t ∈ textsOf x) : t.length ≤ 100 := by
  unfold textsOf at h
  obtain ⟨p, hp, rfl⟩ := List.mem_map.mp h
  have := linesD_small hp
  rw [Str.length_append]; omega
theorem textsOf_len (x : Int) : (textsOf x).length ≤ 30 := by unfold textsOf; rw [List.length_map]; exact linesD_len x
theorem restD_len (tag : Str) (ts : List Str) : (restD tag ts).length ≤ ts.length := List.length_filterMap_le _ _
theorem heapOf_snoc (a : List Int) (x : Int) : heapOf (a ++ [x]) = pushD (heapOf a) (pieceP x).dat := by unfold heapOf; rw [List.foldl_append]; rfl
theorem sd_pcs {new : PyData} (hn : ∃ p : Piece, new = p.dat) : ∀ (f : Nat) (xs : List PyData) (pos : Nat), pos < xs.length → Pcs xs → Pcs (sd new f xs pos) ∧ (sd new f xs pos).length = xs.length
  | 0, xs, pos, hp, h => ⟨h.set _ hn, by rw [sd, List.length_set]⟩
  | f + 1, xs, pos, hp, h => by
    rw [sd]
    split
    · exact ⟨h.set _ hn, List.length_set ..⟩
    · split
      · obtain ⟨a, b⟩ := sd_pcs hn f (xs.set pos (itm xs ((pos - 1) / 2))) ((pos - 1) / 2) (by rw [List.length_set]; omega) (h.set _ (h _ (itm_mem (by omega))))
        exact ⟨a, by rw [b, List.length_set]⟩
      · exact ⟨h.set _ hn, List.length_set ..⟩
theorem push_pcs {xs : List PyData} {x : PyData} (h : Pcs xs) (hx : ∃ p : Piece, x = p.dat) : Pcs (pushD xs x) ∧ (pushD xs x).length = xs.length + 1 := by
  have h' : Pcs (xs ++ [x]) := fun y hy => by
    rcases List.mem_append.mp hy with q | q
    · exact h y q
    · simp only [List.mem_singleton] at q; subst q; exact hx
  obtain ⟨a, b⟩ := sd_pcs hx xs.length (xs ++ [x]) xs.length (by simp) h'
  exact ⟨a, by unfold pushD; rw [b]; simp⟩
theorem heapOf_pcs (a : List Int) : Pcs (heapOf a) ∧ (heapOf a).length = a.length := by
  suffices ∀ (l : List Int) (h : List PyData), Pcs h → Pcs (l.foldl (fun h x => pushD h (pieceP x).dat) h) ∧ (l.foldl (fun h x => pushD h (pieceP x).dat) h).length = h.length + l.length by
    have := this a [] (fun _ hx => by cases hx)
    simpa [heapOf] using this
  intro l
  induction l with
  | nil => intro h hh; exact ⟨hh, rfl⟩
  | cons x l ih =>
    intro h hh
    obtain ⟨a, b⟩ := push_pcs hh ⟨pieceP x, rfl⟩
    obtain ⟨c, d⟩ := ih _ a
    exact ⟨c, by rw [List.foldl_cons, d, b, List.length_cons]; omega⟩
noncomputable def intOf : PyData → Int
  | .int i => i
  | _ => 0
theorem cut_ints {xs : List Int} {pre : List PyData} {d : PyData} {post : List PyData} (h : xs.map PyData.int = pre ++ d :: post) : ∃ x, d = .int x ∧ x ∈ xs ∧ pre.length < xs.length := by
  have hl := congrArg List.length h
  simp only [List.length_map, List.length_append, List.length_cons] at hl
  have hm : d ∈ xs.map PyData.int := by rw [h]; simp
  obtain ⟨x, hx, rfl⟩ := List.mem_map.mp hm
  exact ⟨x, rfl, hx, by omega⟩

theorem su_pcs : ∀ (f : Nat) (xs : List PyData) (pos : Nat), pos < xs.length → Pcs xs → Pcs (su f xs pos).1 ∧ (su f xs pos).1.length = xs.length ∧ (su f xs pos).2 < xs.length
  | 0, xs, pos, hp, h => ⟨h, rfl, hp⟩
  | f + 1, xs, pos, hp, h => by
    rw [su]
    split
    · rename_i h2
      have hc := suChild_lt h2
      obtain ⟨a, b, c⟩ := su_pcs f (xs.set pos (itm xs (suChild xs pos))) (suChild xs pos) (by rw [List.length_set]; exact hc) (h.set _ (h _ (itm_mem hc)))
      rw [List.length_set] at b c
      exact ⟨a, b, c⟩
    · exact ⟨h, rfl, hp⟩
theorem siftup_pcs {xs : List PyData} (h : Pcs xs) (hp : 0 < xs.length) : Pcs (siftup xs) ∧ (siftup xs).length = xs.length := by
  obtain ⟨a, b, c⟩ := su_pcs xs.length xs 0 hp h
  have hn := h _ (itm_mem hp)
  unfold siftup
  obtain ⟨d, e⟩ := sd_pcs hn (su xs.length xs 0).2 ((su xs.length xs 0).1.set (su xs.length xs 0).2 (itm xs 0)) (su xs.length xs 0).2 (by rw [List.length_set, b]; exact c) (a.set _ hn)
  exact ⟨d, by rw [e, List.length_set, b]⟩
theorem pop_pcs {xs : List PyData} {l : PyData} (h : Pcs xs) (hl : ∃ p : Piece, l = p.dat) : (∃ p : Piece, (popD xs l).1 = p.dat) ∧ Pcs (popD xs l).2 ∧ (popD xs l).2.length = xs.length := by
  unfold popD
  split
  · rename_i e; subst e; exact ⟨hl, fun _ hx => by (cases hx), rfl⟩
  · rename_i e
    have hp : 0 < xs.length := List.length_pos_iff.mpr e
    obtain ⟨a, b⟩ := siftup_pcs (h.set 0 hl) (by rw [List.length_set]; exact hp)
    exact ⟨h _ (itm_mem hp), a, by rw [b, List.length_set]⟩
theorem pops_pcs : ∀ (n : Nat) (h : List PyData), h.length = n → Pcs h → ∃ ps : List Piece, popsD n h = ps.map Piece.dat ∧ ps.length = n
  | 0, h, hn, hP => ⟨[], rfl, rfl⟩
  | n + 1, h, hn, hP => by
    have hne : h ≠ [] := fun q => by rw [q] at hn; cases hn
    have hdl : h.dropLast.length = n := by rw [List.length_dropLast]; omega
    have hgl : h.getLast?.getD .none = h.getLast hne := by rw [List.getLast?_eq_some_getLast hne]; rfl
    have hPd : Pcs h.dropLast := fun x hx => hP x ((List.dropLast_sublist h).subset hx)
    obtain ⟨⟨p, hp⟩, a, b⟩ := pop_pcs (l := h.getLast?.getD .none) hPd (by rw [hgl]; exact hP _ (List.getLast_mem hne))
    obtain ⟨ps, h1, h2⟩ := pops_pcs n (popD h.dropLast (h.getLast?.getD .none)).2 (by rw [b]; exact hdl) a
    exact ⟨p :: ps, by rw [popsD, if_neg hne, hp, h1]; rfl, by simp [h2]⟩

theorem sd_mem {new x : PyData} : ∀ (f : Nat) (xs : List PyData) (pos : Nat), pos < xs.length → x ∈ sd new f xs pos → x = new ∨ x ∈ xs
  | 0, xs, pos, hp, h => (List.mem_or_eq_of_mem_set h).symm
  | f + 1, xs, pos, hp, h => by
    rw [sd] at h
    split at h
    · exact (List.mem_or_eq_of_mem_set h).symm
    · split at h
      · rcases sd_mem f _ _ (by rw [List.length_set]; omega) h with q | q
        · exact .inl q
        · rcases List.mem_or_eq_of_mem_set q with q | q
          · exact .inr q
          · right; rw [q]; exact itm_mem (by omega)
      · exact (List.mem_or_eq_of_mem_set h).symm
theorem su_mem {x : PyData} : ∀ (f : Nat) (xs : List PyData) (pos : Nat), x ∈ (su f xs pos).1 → x ∈ xs
  | 0, xs, pos, h => h
  | f + 1, xs, pos, h => by
    rw [su] at h
    split at h
    · rename_i h2
      rcases List.mem_or_eq_of_mem_set (su_mem f _ _ h) with q | q
      · exact q
      · rw [q]; exact itm_mem (suChild_lt h2)
    · exact h
theorem siftup_mem {x : PyData} {xs : List PyData} (hP : Pcs xs) (hp : 0 < xs.length) (h : x ∈ siftup xs) : x ∈ xs := by
  obtain ⟨a, b, c⟩ := su_pcs xs.length xs 0 hp hP
  unfold siftup at h
  rcases sd_mem _ _ _ (by rw [List.length_set, b]; exact c) h with q | q
  · rw [q]; exact itm_mem hp
  · rcases List.mem_or_eq_of_mem_set q with q | q
    · exact su_mem _ _ _ q
    · rw [q]; exact itm_mem hp
theorem pop_mem {x l : PyData} {xs : List PyData} (hP : Pcs xs) (hl : ∃ p : Piece, l = p.dat) (h : x = (popD xs l).1 ∨ x ∈ (popD xs l).2) : x ∈ xs ∨ x = l := by
  unfold popD at h
  split at h
  · rcases h with h | h
    · exact .inr h
    · cases h
  · rename_i e
    have hp : 0 < xs.length := List.length_pos_iff.mpr e
    rcases h with h | h
    · left; rw [h]; exact itm_mem hp
    · rcases List.mem_or_eq_of_mem_set (siftup_mem (hP.set 0 hl) (by rw [List.length_set]; exact hp) h) with q | q
      · exact .inl q
      · exact .inr q
theorem pops_mem {x : PyData} : ∀ (n : Nat) (h : List PyData), h.length = n → Pcs h → x ∈ popsD n h → x ∈ h
  | 0, h, hn, hP, hx => by cases hx
  | n + 1, h, hn, hP, hx => by
    have hne : h ≠ [] := fun q => by rw [q] at hn; cases hn
    have hdl : h.dropLast.length = n := by rw [List.length_dropLast]; omega
    have hgl : h.getLast?.getD .none = h.getLast hne := by rw [List.getLast?_eq_some_getLast hne]; rfl
    have hPd : Pcs h.dropLast := fun x hx => hP x ((List.dropLast_sublist h).subset hx)
    have hPl : ∃ p : Piece, h.getLast?.getD .none = p.dat := by rw [hgl]; exact hP _ (List.getLast_mem hne)
    obtain ⟨_, a, b⟩ := pop_pcs hPd hPl
    have key : x ∈ h.dropLast ∨ x = h.getLast?.getD .none := by
      rw [popsD, if_neg hne] at hx
      rcases List.mem_cons.mp hx with q | q
      · exact pop_mem hPd hPl (.inl q)
      · exact pop_mem hPd hPl (.inr (pops_mem n _ (by rw [b]; exact hdl) a q))
    rcases key with q | q
    · exact (List.dropLast_sublist h).subset q
    · rw [q, hgl]; exact List.getLast_mem hne
theorem heapOf_mem {x : PyData} (xs : List Int) (h : x ∈ heapOf xs) : ∃ y, x = (pieceP y).dat := by
  suffices ∀ (l : List Int) (h : List PyData), (∀ x ∈ h, ∃ y, x = (pieceP y).dat) → ∀ x ∈ l.foldl (fun h x => pushD h (pieceP x).dat) h, ∃ y, x = (pieceP y).dat from this xs [] (fun _ hx => by cases hx) x h
  intro l
  induction l with
  | nil => intro h hh; exact hh
  | cons z l ih =>
    intro h hh
    refine ih _ fun x hx => ?_
    unfold pushD at hx
    rcases sd_mem _ _ _ (by simp) hx with q | q
    · exact ⟨z, q⟩
    · rcases List.mem_append.mp q with q | q
      · exact hh x q
      · simp only [List.mem_singleton] at q; exact ⟨z, q⟩
theorem strsD_inj {a b : List Str} (h : strsD a = strsD b) : a = b := by
  simp only [strsD, PyData.list.injEq] at h
  have := congrArg (List.map strOf) h
  rwa [map_strOf, map_strOf] at this
theorem dat_inj {p q : Piece} (h : p.dat = q.dat) : p = q := by
  simp only [Piece.dat, Piece.cells, PyData.list.injEq, List.cons.injEq, PyData.str.injEq, PyData.int.injEq] at h
  obtain ⟨h1, h2, _, _, h5, h6, _⟩ := h
  have a1 := strsD_inj h5
  have a2 := strsD_inj h6
  cases p; cases q
  simp_all
theorem pieceP_ok (x : Int) : (pieceP x).ok := ⟨by show 0 ≤ 97 + 2 * (x % 4); omega, by show 97 + 2 * (x % 4) ≤ 200; omega, Nat.le_trans (restD_len _ _) (textsOf_len x), Nat.le_trans (restD_len _ _) (textsOf_len x)⟩

noncomputable def rangeTurn : PyData → PyData
  | .list [.int a, .int b] => .list [.str (uniD a b), .str (ctxD a b)]
  | d => d
structure BkSt where
  h : List PyData
  bk : List PyData
  bf : Str
  mv : Int
  N : Addr
noncomputable def RB (xs : List Int) (M : Addr) (a : BkSt) : Loc := ((((bindDat [Str.ofString "numbers"] [.list (xs.map .int)]).upd (Str.ofString "book") (.own a.N a.bk)).upd (Str.ofString "before") (.dat (.str a.bf))).upd (Str.ofString "moved") (.dat (.int a.mv))).upd (Str.ofString "heap") (.own M a.h)
structure BInv (total : List PyData) (M : Addr) (a : BkSt) : Prop where
  pcs : Pcs a.h
  len : a.h.length ≤ 20
  bklen : a.bk.length + 2 * a.h.length ≤ 40
  mv1 : -(30 * (20 - a.h.length : Int)) ≤ a.mv
  mv2 : a.mv ≤ 30 * (20 - a.h.length : Int)
  ne : M ≠ a.N
  tot : ∃ ps : List Piece, popsD a.h.length a.h = ps.map Piece.dat ∧ (∀ p ∈ ps, p.ok) ∧ a.bk ++ bookFrom a.bf a.mv ps = total

set_option maxHeartbeats 8000000 in
theorem law_book {C : Cx} (hGP : ∀ a, C.GP a → C.GP (a.push .finished)) {xs : List Int} {K : PyData → Prop} (hp1 : ∀ x : Int, okNorm (joinD (pathD x)) = true) (hlen : xs.length ≤ 20)
    (k : ∀ ps : List Piece, popsD xs.length (heapOf xs) = ps.map Piece.dat → K (.list (bookFrom (Str.ofString "") 0 ps))) : Fn C 60 (.ref 200) [.list (xs.map .int)] K := by
  refine Fn.of (n := 59) (names := [Str.ofString "numbers"]) (ds' := [.list (xs.map .int)]) (by rfl) (by rfl) (binds_one fun _ => by rfl) (kind_one fun _ => .inl (by rfl)) (by rfl) (by rfl) (by rfl) (by rfl) ?_
  dsimp only
  intro L
  with_reducible refine Exs.cons ?_
  have hno := NoOwn.bind [Str.ofString "numbers"] [.list (xs.map .int)]
  unfold NoOwn at hno
  with_reducible refine Ex.init4 ?_ (by with_unfolding_all rfl) (by with_unfolding_all rfl) (by with_unfolding_all rfl) (by with_unfolding_all rfl) (by with_unfolding_all rfl) (by with_unfolding_all rfl) hno
  intro M N hMN
  dsimp only
  with_reducible refine Exs.cons ?_
  refine Ex.less (Ex.for (Src.list ?_))
  repeat' (walk_at "lws")
  refine ForK.all (fun pre => (((((bindDat [Str.ofString "numbers"] [.list (xs.map .int)]).upd (Str.ofString "book") (.own N [])).upd (Str.ofString "before") (.dat (.str (Str.ofString "")))).upd (Str.ofString "moved") (.dat (.int 0))).upd (Str.ofString "heap") (.own M (heapOf (pre.map intOf))))) ?_ (fun pre d post he => ?_) ?_
  · exact Sub.of_upd (Sub.of_upd (Sub.of_upd (Sub.of_upd (Sub.bind1 (by rfl)) (by rfl)) (by rfl)) (by rfl)) (by rfl)
  · obtain ⟨x, rfl, hx, hpl⟩ := cut_ints he
    have e1 : (pre ++ [PyData.int x]).map intOf = pre.map intOf ++ [x] := by simp [intOf]
    rw [e1, heapOf_snoc]
    obtain ⟨hP, hPl⟩ := heapOf_pcs (pre.map intOf)
    rw [List.length_map] at hPl
    generalize heapOf (pre.map intOf) = h at hP hPl ⊢
    refine Asg.name ?_
    with_reducible refine Exs.cons ?_
    with_reducible refine Ex.assign ?_ (by with_unfolding_all rfl) (by with_unfolding_all rfl)
    refine Ev.comp (cl := _) (fv := []) (by rfl) ?_ ?_ (fun y M ds hy => by cases hy) ?_
    · walk_at "clos"
    · walk_at "clos"
    refine Src.list ?_
    with_reducible refine Ev.fn188 (by decide) ?_ (by with_unfolding_all rfl) (by with_unfolding_all rfl) (by simp)
    repeat' (walk_at "lws")
    refine law_lines ?_
    with_reducible refine list_ex ?_
    intro L1
    have hll := linesD_len x
    refine CompK.map catTurn (by rw [List.length_map, sizeLine_eq]; omega) (fun d hd => ?_) ?_
    · obtain ⟨⟨t, l⟩, hm, rfl⟩ := List.mem_map.mp hd
      obtain ⟨t1, t2⟩ := linesD_small hm
      dsimp only at t1 t2
      refine Asg.tuple (ds := [.str t, .str l]) (.inl rfl) (by rfl) ?_
      refine Asg.name (Asg.name ⟨(Sub.refl _).upd.upd, ?_⟩)
      repeat' (walk_at "lws")
      refine op_add_str ?_ (by rw [Str.length_append, sizeLine_eq]; omega)
      rfl
    rw [cat_map, show ((linesD x).map fun p => p.1 ++ p.2) = textsOf x from rfl]
    have htl := textsOf_len x
    with_reducible refine Exs.cons ?_
    refine Ex.assignComp (cl := _) (fv := [Str.ofString "lines"]) (by rfl) ?_ ?_ (fun y M ds hy e => ?_) ?_
    · walk_at "clos"
    · walk_at "clos"
    · simp only [List.mem_singleton] at hy
      subst hy
      rw [Loc.upd_self] at e; cases e
    refine Src.list ?_
    repeat' (walk_at "lws")
    intro L2
    refine CompK.map (restTurn x) (by rw [sizeLine_eq]; exact Nat.le_of_ble_eq_true rfl) (fun d hd => ?_) ?_
    · obtain ⟨i, hi, rfl⟩ : ∃ i, (i = 1 ∨ i = 2) ∧ d = .int i := by
        simp only [List.mem_cons, List.not_mem_nil, or_false] at hd
        rcases hd with rfl | rfl
        · exact ⟨1, .inl rfl, rfl⟩
        · exact ⟨2, .inr rfl, rfl⟩
      refine Asg.name ⟨(Sub.refl _).upd, ?_⟩
      with_reducible refine Ev.restoreList hGP (by decide) (by with_unfolding_all rfl) (by with_unfolding_all rfl) (by with_unfolding_all rfl) (by simp) ?_
      repeat' (walk_at "lws")
      exact ⟨textsOf x, i, rfl, hi, fun t ht => textsOf_small ht, by omega, rfl⟩
    simp only [List.map_cons, List.map_nil]
    dsimp only [restTurn]
    have r1 := restD_len (tagOf 1) (textsOf x)
    have r2 := restD_len (tagOf 2) (textsOf x)
    with_reducible refine Exs.cons ?_
    with_reducible refine Ex.expr ?_ (by with_unfolding_all rfl) (by with_unfolding_all rfl)
    with_reducible refine Evx.fn49 (by decide) (by with_unfolding_all rfl) ?_ (by with_unfolding_all rfl) (by with_unfolding_all rfl) (by decide)
    with_reducible refine Evs.cons ?_
    with_reducible refine Ev.bin ?_
    with_reducible refine Ev.bin ?_
    with_reducible refine Ev.list ?_ (by with_unfolding_all rfl)
    with_reducible refine Evs.cons ?_
    with_reducible refine Ev.fn178 (by decide) ?_ (by with_unfolding_all rfl) (by with_unfolding_all rfl) (by simp)
    with_reducible refine Evs.cons ?_
    with_reducible refine Ev.fn164 (by decide) ?_ (by with_unfolding_all rfl) (by with_unfolding_all rfl) (by simp)
    with_reducible refine Evs.cons ?_
    with_reducible refine Ev.str ?_
    with_reducible refine Evs.cons ?_
    with_reducible refine Ev.fn183 (by decide) ?_ (by with_unfolding_all rfl) (by with_unfolding_all rfl) (by simp)
    repeat' (walk_at "lws")
    refine law_path ?_
    repeat' (walk_at "lws")
    refine fn_join (by have := pathD_len (x / 1024); omega) ?_
    repeat' (walk_at "lws")
    refine fn_normpath (hp1 _) ?_
    repeat' (walk_at "lws")
    refine Ev.comp (cl := _) (fv := []) (by rfl) ?_ ?_ (fun y M ds hy => by cases hy) ?_
    · walk_at "clos"
    · walk_at "clos"
    refine Src.list ?_
    repeat' (walk_at "lws")
    intro L3
    refine CompK.map lenTurn (by rw [sizeLine_eq]; exact Nat.le_of_ble_eq_true rfl) (fun d hd => ?_) ?_
    · obtain ⟨o, ho, rfl⟩ : ∃ o, o.length ≤ 30 ∧ d = strsD o := by
        simp only [List.mem_cons, List.not_mem_nil, or_false] at hd
        rcases hd with rfl | rfl
        · exact ⟨_, Nat.le_trans r1 htl, rfl⟩
        · exact ⟨_, Nat.le_trans r2 htl, rfl⟩
      refine Asg.name ⟨(Sub.refl _).upd, ?_⟩
      repeat' (walk_at "lws")
      refine vop_len_list (by rw [List.length_map, sizeLine_eq]; omega) ?_
      repeat' (walk_at "lws")
      rfl
    refine op_add_list ?_ (by rw [sizeLine_eq]; exact Nat.le_of_ble_eq_true rfl)
    repeat' (walk_at "lws")
    refine op_add_list ?_ (by rw [sizeLine_eq]; exact Nat.le_of_ble_eq_true rfl)
    repeat' (walk_at "lws")
    have e : lenTurn (strsD (restD (tagOf 1) (textsOf x))) = .int ((restD (tagOf 1) (textsOf x)).length : Nat) := by simp [lenTurn, strsD]
    have e2 : lenTurn (strsD (restD (tagOf 2) (textsOf x))) = .int ((restD (tagOf 2) (textsOf x)).length : Nat) := by simp [lenTurn, strsD]
    have ep : (pieceP x).dat = .list ([.str (normD (joinD (pathD (x / 1024)))), .int (97 + 2 * (x % 4))] ++ [.int ((restD (tagOf 1) (textsOf x)).length : Nat), .int ((restD (tagOf 2) (textsOf x)).length : Nat)] ++ [strsD (restD (tagOf 1) (textsOf x)), strsD (restD (tagOf 2) (textsOf x))]) := rfl
    simp only [List.map_cons, List.map_nil, e, e2]
    rw [← ep]
    refine mut_heappush hP ⟨pieceP x, rfl⟩ (by omega) ?_
    repeat' (walk_at "lws")
    refine ⟨.inl rfl, ?_⟩
    exact Sub.of_upd (Sub.of_upd (Sub.of_upd (Sub.of_upd (Sub.bind1 (by rfl)) (by rfl)) (by rfl)) (by rfl)) (by rfl)
  have emap : (xs.map PyData.int).map intOf = xs := by rw [List.map_map]; exact List.map_id _
  rw [emap]
  obtain ⟨hP, hPl⟩ := heapOf_pcs xs
  dsimp only
  obtain ⟨ps0, hps0, hps0l⟩ := pops_pcs xs.length (heapOf xs) hPl hP
  have hk := k ps0 hps0
  have hps0k : ∀ p ∈ ps0, p.ok := fun p hp => by
    have hm : p.dat ∈ popsD xs.length (heapOf xs) := by rw [hps0]; exact List.mem_map_of_mem hp
    obtain ⟨y, hy⟩ := heapOf_mem xs (pops_mem _ _ hPl hP hm)
    rw [dat_inj hy]; exact pieceP_ok y
  with_reducible refine Exs.cons ?_
  refine Ex.mono (K := fun f ρ' => f = .next ∧ ∃ a : BkSt, ρ' = RB xs M a ∧ a.bk = bookFrom (Str.ofString "") 0 ps0) ?_ ?_
  · refine Ex.whileR (RB xs M) (BInv (bookFrom (Str.ofString "") 0 ps0) M) (fun a => a.h.length) (fun a I => ?_) ⟨heapOf xs, [], Str.ofString "", 0, N⟩ ⟨hP, by show (heapOf xs).length ≤ 20; omega, by show 0 + 2 * (heapOf xs).length ≤ 40; omega, by show -(30 * (20 - ((heapOf xs).length : Int))) ≤ 0; omega, by show (0 : Int) ≤ 30 * (20 - ((heapOf xs).length : Int)); omega, hMN, ⟨ps0, by show popsD (heapOf xs).length (heapOf xs) = _; rw [hPl]; exact hps0, hps0k, rfl⟩⟩ ?_
    · refine Tst.ownNe (by rfl) ?_
      cases hh : a.h with
      | nil =>
        rw [show (!([] : List PyData).isEmpty) = false from rfl]
        repeat' (walk_at "lws")
        refine ⟨rfl, a, rfl, ?_⟩
        obtain ⟨ps, h1, _, h2⟩ := I.tot
        rw [hh] at h1
        have : ps = [] := by
          cases ps with
          | nil => rfl
          | cons p ps => simp [popsD] at h1
        subst this
        simpa [bookFrom] using h2
      | cons y ys =>
        rw [show (!(y :: ys).isEmpty) = true from rfl]
        obtain ⟨ps, t1, tok, t2⟩ := I.tot
        have hne : a.h ≠ [] := by rw [hh]; simp
        have hsplit : a.h = a.h.dropLast ++ [a.h.getLast?.getD .none] := by
          rw [List.getLast?_eq_some_getLast hne]
          exact (List.dropLast_concat_getLast hne).symm
        obtain ⟨m, hm⟩ : ∃ m, a.h.length = m + 1 := ⟨ys.length, by rw [hh]; rfl⟩
        have hdl : a.h.dropLast.length = m := by rw [List.length_dropLast]; omega
        have hPd : Pcs a.h.dropLast := fun x hx => I.pcs x ((List.dropLast_sublist a.h).subset hx)
        have hPg : ∃ p : Piece, a.h.getLast?.getD .none = p.dat := I.pcs _ (by rw [List.getLast?_eq_some_getLast hne]; exact List.getLast_mem hne)
        obtain ⟨_, q2, q3⟩ := pop_pcs hPd hPg
        rw [hm, popsD, if_neg hne] at t1
        cases ps with
        | nil => simp at t1
        | cons p ps =>
          simp only [List.map_cons, List.cons.injEq] at t1
          obtain ⟨t3, t4⟩ := t1
          repeat' (walk_at "lws")
          with_reducible refine Ex.assignTup ?_ (by with_unfolding_all rfl) (by with_unfolding_all rfl)
          with_reducible refine Evx.fn56 (by decide) (by with_unfolding_all rfl) ?_ (by with_unfolding_all rfl) (by with_unfolding_all rfl) (by decide)
          with_reducible refine Evs.nil ?_
          rw [hsplit]
          refine mut_heappop hPd hPg (by have := I.len; omega) ?_
          rw [t3]
          obtain ⟨k1, k2, k3, k4⟩ := tok p (.head _)
          refine Asg.tuple (ds := p.cells) (.inl rfl) (by rfl) ?_
          refine Asg.name (Asg.name (Asg.name (Asg.name (Asg.name (Asg.name ?_)))))
          generalize hh2 : (popD a.h.dropLast (a.h.getLast?.getD .none)).2 = h2 at q2 q3 t4 ⊢
          have b1 := I.bklen
          have b2 := I.mv1
          have b3 := I.mv2
          have hpt : 0 ≤ p.taken ∧ p.taken ≤ 30 ∧ 0 ≤ p.given ∧ p.given ≤ 30 := by unfold Piece.taken Piece.given; omega
          show Exs C 59 _ _ _ _
          with_reducible refine Exs.cons ?_
          refine Ex.bookIf (M := a.N) (ds := a.bk) (mv := a.mv) (pl := p.place) (by rfl) (by rfl) (by rfl) (by rw [sizeLine_eq]; omega) ?_ (by rfl) (by rfl) (by rfl) (by rfl) (by decide) (by decide) (by decide)
          have hm19 : m ≤ 19 := by have := I.len; omega
          have hb4 : a.bk.length + 2 * (m + 1) ≤ 40 := by rw [← hm]; exact b1
          have hmv3 : -(30 * (20 - ((m : Int) + 1))) ≤ a.mv ∧ a.mv ≤ 30 * (20 - ((m : Int) + 1)) := by rw [hm] at b2 b3; push_cast at b2 b3; exact ⟨b2, b3⟩
          have body : ∀ (N' : Addr) (bk' : List PyData) (mv' : Int), M ≠ N' → bk'.length + 1 + 2 * m ≤ 40 → -(30 * (20 - ((m : Int) + 1))) ≤ mv' → mv' ≤ 30 * (20 - ((m : Int) + 1)) → mv' = (if p.place = a.bf then a.mv else 0) →
              bk' ++ entryD p mv' :: bookFrom p.place (mv' + p.given - p.taken) ps = bookFrom (Str.ofString "") 0 ps0 → True := fun _ _ _ _ _ _ _ _ _ => trivial
          repeat' (walk_at "lws")
          refine ⟨fun hb => ?_, fun hb N' hN' => ?_⟩
          · have hpl := of_decide_eq_true hb
            repeat' (walk_at "lws")
            refine Ex.expr (Evx.method PySem.F.slot_list_append PySem.F.type_list_append (by rfl) ?_)
            with_reducible refine Evs.cons ?_
            with_reducible refine Ev.bin ?_
            refine Ev.comp (cl := _) (fv := []) (by rfl) ?_ ?_ (fun y M ds hy => by cases hy) ?_
            · walk_at "clos"
            · walk_at "clos"
            refine Src.list ?_
            repeat' (walk_at "lws")
            intro L3
            refine CompK.map rangeTurn (by rw [sizeLine_eq]; exact Nat.le_of_ble_eq_true rfl) (fun d hd => ?_) ?_
            · obtain ⟨u, v, hu1, hu2, hv1, hv2, rfl⟩ : ∃ u v : Int, -100000 < u ∧ u < 100000 ∧ -100000 < v ∧ v < 100000 ∧ d = .list [.int u, .int v] := by
                simp only [List.mem_cons, List.not_mem_nil, or_false] at hd
                rcases hd with rfl | rfl
                · exact ⟨_, _, by omega, by omega, by omega, by omega, rfl⟩
                · exact ⟨_, _, by omega, by omega, by omega, by omega, rfl⟩
              refine Asg.tuple (ds := [.int u, .int v]) (.inl rfl) (by rfl) ?_
              refine Asg.name (Asg.name ⟨(Sub.refl _).upd.upd, ?_⟩)
              with_reducible refine Ev.list ?_ (by with_unfolding_all rfl)
              with_reducible refine Evs.cons ?_
              with_reducible refine Ev.fn28 (by decide) ?_ (by with_unfolding_all rfl) (by with_unfolding_all rfl) (by simp)
              repeat' (walk_at "lws")
              refine fn_unified hu1 hu2 hv1 hv2 ?_
              with_reducible refine Evs.cons ?_
              with_reducible refine Ev.fn35 (by decide) ?_ (by with_unfolding_all rfl) (by with_unfolding_all rfl) (by simp)
              repeat' (walk_at "lws")
              refine fn_context hu1 hu2 hv1 hv2 ?_
              repeat' (walk_at "lws")
              rfl
            repeat' (walk_at "lws")
            refine op_add_list ?_ (by rw [sizeLine_eq]; exact Nat.le_of_ble_eq_true rfl)
            with_reducible refine Evs.nil ?_
            refine mut_append ?_ (by simp [sizeLine_eq]; omega)
            repeat' (walk_at "lws")
            refine Ex.swap2 ?_ (by rfl) (by rfl) (by rfl) (by rfl)
            repeat' (walk_at "lws")
            refine ⟨_, _, rfl, ?_⟩
            repeat' (walk_at "lws")
            refine ⟨⟨h2, a.bk ++ [entryD p a.mv], p.place, a.mv + p.given - p.taken, a.N⟩, by rw [← hh]; show h2.length < a.h.length; omega, ⟨q2, by show h2.length ≤ 20; omega, by show (a.bk ++ [entryD p a.mv]).length + 2 * h2.length ≤ 40; rw [List.length_append, List.length_singleton]; omega, by show -(30 * (20 - (h2.length : Int))) ≤ a.mv + p.given - p.taken; omega, by show a.mv + p.given - p.taken ≤ 30 * (20 - (h2.length : Int)); omega, I.ne, ⟨ps, ?_, fun q hq => tok q (.tail _ hq), ?_⟩⟩, ?_⟩
            · show popsD h2.length h2 = _
              rw [q3, hdl]; exact t4
            · show (a.bk ++ [entryD p a.mv]) ++ bookFrom p.place (a.mv + p.given - p.taken) ps = _
              rw [← t2]
              simp only [bookFrom, if_pos hpl, List.nil_append, List.append_assoc, List.singleton_append]
            · exact Sub.of_upd (Sub.of_upd (Sub.of_upd (Sub.of_upd (Sub.bind1 (by rfl)) (by rfl)) (by rfl)) (by rfl)) (by rfl)
          · have hpl := of_decide_eq_false hb
            repeat' (walk_at "lws")
            refine Ex.expr (Evx.method PySem.F.slot_list_append PySem.F.type_list_append (by rfl) ?_)
            with_reducible refine Evs.cons ?_
            with_reducible refine Ev.bin ?_
            refine Ev.comp (cl := _) (fv := []) (by rfl) ?_ ?_ (fun y M ds hy => by cases hy) ?_
            · walk_at "clos"
            · walk_at "clos"
            refine Src.list ?_
            repeat' (walk_at "lws")
            intro L3
            refine CompK.map rangeTurn (by rw [sizeLine_eq]; exact Nat.le_of_ble_eq_true rfl) (fun d hd => ?_) ?_
            · obtain ⟨u, v, hu1, hu2, hv1, hv2, rfl⟩ : ∃ u v : Int, -100000 < u ∧ u < 100000 ∧ -100000 < v ∧ v < 100000 ∧ d = .list [.int u, .int v] := by
                simp only [List.mem_cons, List.not_mem_nil, or_false] at hd
                rcases hd with rfl | rfl
                · exact ⟨_, _, by omega, by omega, by omega, by omega, rfl⟩
                · exact ⟨_, _, by omega, by omega, by omega, by omega, rfl⟩
              refine Asg.tuple (ds := [.int u, .int v]) (.inl rfl) (by rfl) ?_
              refine Asg.name (Asg.name ⟨(Sub.refl _).upd.upd, ?_⟩)
              with_reducible refine Ev.list ?_ (by with_unfolding_all rfl)
              with_reducible refine Evs.cons ?_
              with_reducible refine Ev.fn28 (by decide) ?_ (by with_unfolding_all rfl) (by with_unfolding_all rfl) (by simp)
              repeat' (walk_at "lws")
              refine fn_unified hu1 hu2 hv1 hv2 ?_
              with_reducible refine Evs.cons ?_
              with_reducible refine Ev.fn35 (by decide) ?_ (by with_unfolding_all rfl) (by with_unfolding_all rfl) (by simp)
              repeat' (walk_at "lws")
              refine fn_context hu1 hu2 hv1 hv2 ?_
              repeat' (walk_at "lws")
              rfl
            repeat' (walk_at "lws")
            refine op_add_list ?_ (by rw [sizeLine_eq]; exact Nat.le_of_ble_eq_true rfl)
            with_reducible refine Evs.nil ?_
            refine mut_append ?_ (by simp [sizeLine_eq]; omega)
            repeat' (walk_at "lws")
            refine Ex.swap2 ?_ (by rfl) (by rfl) (by rfl) (by rfl)
            repeat' (walk_at "lws")
            refine ⟨_, _, rfl, ?_⟩
            repeat' (walk_at "lws")
            refine ⟨⟨h2, a.bk ++ [.str p.place] ++ [entryD p 0], p.place, 0 + p.given - p.taken, N'⟩, by rw [← hh]; show h2.length < a.h.length; omega, ⟨q2, by show h2.length ≤ 20; omega, by show (a.bk ++ [PyData.str p.place] ++ [entryD p 0]).length + 2 * h2.length ≤ 40; simp only [List.length_append, List.length_singleton]; omega, by show -(30 * (20 - (h2.length : Int))) ≤ 0 + p.given - p.taken; omega, by show 0 + p.given - p.taken ≤ 30 * (20 - (h2.length : Int)); omega, hN' (Str.ofString "heap") M h2 (by rfl), ⟨ps, ?_, fun q hq => tok q (.tail _ hq), ?_⟩⟩, ?_⟩
            · show popsD h2.length h2 = _
              rw [q3, hdl]; exact t4
            · show (a.bk ++ [PyData.str p.place] ++ [entryD p 0]) ++ bookFrom p.place (0 + p.given - p.taken) ps = _
              rw [← t2]
              simp only [bookFrom, if_neg hpl, List.append_assoc, List.singleton_append, List.cons_append, List.nil_append]
            · exact Sub.of_upd (Sub.of_upd (Sub.of_upd (Sub.of_upd (Sub.bind1 (by rfl)) (by rfl)) (by rfl)) (by rfl)) (by rfl)
    · exact .refl _
  rintro f ρ' ⟨rfl, a, rfl, htot⟩
  dsimp only
  refine Exs.freeze (Str.ofString "book") (M := a.N) (xs := a.bk) (by rfl) ?_
  repeat' (walk_at "lws")
  rw [htot]
  exact hk
end
section
theorem cut_head {a b : Str} (h : a.length = 2) : cutS (a ++ b) none (some 2) = a := by
  have h' : a.cps.toList.length = 2 := by rw [Array.length_toList]; exact h
  have e : (a ++ b).cps.toList = a.cps.toList ++ b.cps.toList := Array.toList_append
  apply Str.ext'
  unfold cutS
  apply Array.toList_inj.mp
  show cutL (a ++ b).cps.toList none (some ((2 : Nat) : Int)) = _
  rw [cutL_take _ _ (by rw [e, List.length_append]; omega), e, List.take_append_of_le_length (by omega), List.take_of_length_le (by omega)]
theorem cut_tail {a b : Str} (h : a.length = 2) : cutS (a ++ b) (some 2) none = b := by
  have h' : a.cps.toList.length = 2 := by rw [Array.length_toList]; exact h
  have e : (a ++ b).cps.toList = a.cps.toList ++ b.cps.toList := Array.toList_append
  apply Str.ext'
  unfold cutS
  apply Array.toList_inj.mp
  show cutL (a ++ b).cps.toList (some ((2 : Nat) : Int)) none = _
  rw [e]
  unfold cutL cutA cutB
  have hc : clipAt (a.cps.toList ++ b.cps.toList).length ((2 : Nat) : Int) = 2 := by
    have := clipAt_cast (a.cps.toList ++ b.cps.toList).length ((2 : Nat) : Int)
    rw [if_neg (by omega)] at this
    rw [List.length_append] at this ⊢
    omega
  show ((a.cps.toList ++ b.cps.toList).drop (clipAt (a.cps.toList ++ b.cps.toList).length ((2 : Nat) : Int))).take ((a.cps.toList ++ b.cps.toList).length - clipAt (a.cps.toList ++ b.cps.toList).length ((2 : Nat) : Int)) = _
  rw [hc, List.drop_append_of_le_length (by omega), List.drop_of_length_le (by omega), List.nil_append, List.take_of_length_le (by rw [List.length_append]; omega)]
theorem rest_side (x : Int) (tag : Str) : restD tag (textsOf x) = sideD x tag := by
  unfold restD textsOf sideD
  rw [List.filterMap_map]
  have key : ∀ l : List (Str × Str), (∀ p ∈ l, p ∈ linesD x) → l.filterMap (restOf tag ∘ fun p => p.1 ++ p.2) = l.filterMap (keepSide tag) := by
    intro l
    induction l with
    | nil => intro _; rfl
    | cons p l ih =>
      intro hl
      have h := (linesD_small (hl p (.head _))).1
      have e : (restOf tag ∘ fun p : Str × Str => p.1 ++ p.2) p = keepSide tag p := by
        show restOf tag (p.1 ++ p.2) = keepSide tag p
        unfold restOf keepSide
        rw [cut_head h, cut_tail h]
      rw [List.filterMap_cons, List.filterMap_cons, e, ih fun q hq => hl q (.tail _ hq)]
  exact key _ fun p hp => hp
end
section
/-! the paths that the law builds, each once -/
noncomputable def pathOf (lead : Bool) (l : List Nat) : Str := (if lead = true then Str.ofString "/" else Str.ofString "") ++ Txt.join (Str.ofString "/") (l.map fun (k : Nat) => six (k : Int))
noncomputable def goodPath (p : Str) : Bool := decide (normD (joinD p) = placeD p) && okPath p && okNorm (joinD p)
theorem good1 : ∀ a < 6, goodPath (pathOf false [a]) = true ∧ goodPath (pathOf true [a]) = true := by decide +kernel
theorem good2 : ∀ a < 6, ∀ b < 6, goodPath (pathOf false [a, b]) = true ∧ goodPath (pathOf true [a, b]) = true := by decide +kernel
theorem good3a : ∀ b < 6, ∀ c < 6, goodPath (pathOf false [0, b, c]) = true ∧ goodPath (pathOf true [0, b, c]) = true := by decide +kernel
theorem good3b : ∀ b < 6, ∀ c < 6, goodPath (pathOf false [1, b, c]) = true ∧ goodPath (pathOf true [1, b, c]) = true := by decide +kernel
theorem good3c : ∀ b < 6, ∀ c < 6, goodPath (pathOf false [2, b, c]) = true ∧ goodPath (pathOf true [2, b, c]) = true := by decide +kernel
theorem good3d : ∀ b < 6, ∀ c < 6, goodPath (pathOf false [3, b, c]) = true ∧ goodPath (pathOf true [3, b, c]) = true := by decide +kernel
theorem good3e : ∀ b < 6, ∀ c < 6, goodPath (pathOf false [4, b, c]) = true ∧ goodPath (pathOf true [4, b, c]) = true := by decide +kernel
theorem good3f : ∀ b < 6, ∀ c < 6, goodPath (pathOf false [5, b, c]) = true ∧ goodPath (pathOf true [5, b, c]) = true := by decide +kernel
theorem good3 {a b c : Nat} (ha : a < 6) (hb : b < 6) (hc : c < 6) : goodPath (pathOf false [a, b, c]) = true ∧ goodPath (pathOf true [a, b, c]) = true := by
  match a, ha with
  | 0, _ => exact good3a b hb c hc
  | 1, _ => exact good3b b hb c hc
  | 2, _ => exact good3c b hb c hc
  | 3, _ => exact good3d b hb c hc
  | 4, _ => exact good3e b hb c hc
  | 5, _ => exact good3f b hb c hc
  | a + 6, h => exact absurd h (by omega)
theorem good_lead {l : List Nat} (lead : Bool) (h : goodPath (pathOf false l) = true ∧ goodPath (pathOf true l) = true) : goodPath (pathOf lead l) = true := by
  cases lead
  · exact h.1
  · exact h.2
/-- the figure to the base 6 -/
noncomputable def figD (y : Int) (k : Nat) : Nat := (y / 6 / 6 ^ k % 6).toNat
theorem figD_lt (y : Int) (k : Nat) : figD y k < 6 := by unfold figD; omega
theorem fig_six (y : Int) (k : Nat) : six ((figD y k : Nat) : Int) = pieceAt y k := by
  unfold figD pieceAt
  rw [Int.toNat_of_nonneg (by omega)]
theorem pathD_of (y : Int) : pathD y = pathOf (decide (y / 3 % 2 = 1)) ((List.range (1 + y % 3).toNat).map (figD y)) := by
  unfold pathD pathOf piecesD
  rw [List.map_map]
  have e : ((fun (k : Nat) => six (k : Int)) ∘ figD y) = pieceAt y := funext fun k => fig_six y k
  rw [e]
  by_cases h : y / 3 % 2 = 1 <;> simp [h]
theorem good_all (y : Int) : goodPath (pathD y) = true := by
  rw [pathD_of]
  have h : (1 + y % 3).toNat = 1 ∨ (1 + y % 3).toNat = 2 ∨ (1 + y % 3).toNat = 3 := by omega
  rcases h with h | h | h <;> rw [h]
  · exact good_lead _ (good1 _ (figD_lt y 0))
  · exact good_lead _ (good2 _ (figD_lt y 0) _ (figD_lt y 1))
  · exact good_lead _ (good3 (figD_lt y 0) (figD_lt y 1) (figD_lt y 2))
theorem paths_all (y : Int) : normD (joinD (pathD y)) = placeD (pathD y) ∧ okPath (pathD y) = true ∧ okNorm (joinD (pathD y)) = true := by
  have h := good_all y
  unfold goodPath at h
  simp only [Bool.and_eq_true, decide_eq_true_eq] at h
  exact ⟨h.1.1, h.1.2, h.2⟩
end
section

/-! the order of pieces -/
noncomputable abbrev Pc (x : PyData) : Prop := ∃ p : Piece, x = p.dat
noncomputable def leX (a b : PyData) : Prop := ltD b a = false
theorem leX_trans {a b c : PyData} (ha : Pc a) (hb : Pc b) (hc : Pc c) (h1 : leX a b) (h2 : leX b c) : leX a c := by
  obtain ⟨p, rfl⟩ := ha
  obtain ⟨q, rfl⟩ := hb
  obtain ⟨r, rfl⟩ := hc
  exact leDs_trans (cpts_cells p q) (cpts_cells q r) (cpts_cells p r) h1 h2
theorem leX_of_lt {a b : PyData} (ha : Pc a) (hb : Pc b) (h : ltD a b = true) : leX a b := by
  obtain ⟨p, rfl⟩ := ha
  obtain ⟨q, rfl⟩ := hb
  exact ltDs_asymm (cpts_cells p q) h
theorem leX_refl {a : PyData} (ha : Pc a) : leX a a := by
  unfold leX
  cases h : ltD a a with
  | false => rfl
  | true => have := leX_of_lt ha ha h; unfold leX at this; rw [h] at this; cases this

theorem itm_set_self {xs : List PyData} {i : Nat} {x : PyData} (h : i < xs.length) : itm (xs.set i x) i = x := itm_set h
theorem itm_set_ne {xs : List PyData} {i j : Nat} {x : PyData} (h : i ≠ j) : itm (xs.set i x) j = itm xs j := by
  rw [itm, itm, List.getD_eq_getElem?_getD, List.getD_eq_getElem?_getD, List.getElem?_set_ne h]
theorem Pcs.at {xs : List PyData} (h : Pcs xs) {i : Nat} (hi : i < xs.length) : Pc (itm xs i) := h _ (itm_mem hi)

/-- the order of the heap -/
noncomputable def Hp (xs : List PyData) : Prop := ∀ i, 0 < i → i < xs.length → leX (itm xs ((i - 1) / 2)) (itm xs i)
/-- the order of the heap but for a hole at pos -/
structure Hole (xs : List PyData) (pos : Nat) : Prop where
  rest : ∀ i, 0 < i → i < xs.length → i ≠ pos → (i - 1) / 2 ≠ pos → leX (itm xs ((i - 1) / 2)) (itm xs i)
  up : ∀ i, 0 < pos → 0 < i → i < xs.length → (i - 1) / 2 = pos → leX (itm xs ((pos - 1) / 2)) (itm xs i)

theorem Hp.hole {xs : List PyData} {l : PyData} (h : Hp xs) : Hole (xs.set 0 l) 0 :=
  ⟨fun i h0 hi n1 n2 => by
    rw [List.length_set] at hi
    rw [itm_set_ne (by omega), itm_set_ne (by omega)]
    exact h i h0 hi, fun i h0 => absurd h0 (Nat.lt_irrefl _)⟩
theorem Hole.set {xs : List PyData} {pos : Nat} {x : PyData} (h : Hole xs pos) : Hole (xs.set pos x) pos := by
  refine ⟨fun i h0 hi n1 n2 => ?_, fun i hp h0 hi e => ?_⟩
  · rw [List.length_set] at hi
    rw [itm_set_ne (by omega), itm_set_ne (by omega)]
    exact h.rest i h0 hi n1 n2
  · rw [List.length_set] at hi
    rw [itm_set_ne (by omega), itm_set_ne (by omega)]
    exact h.up i hp h0 hi e

theorem sd_heap {new : PyData} (hn : Pc new) : ∀ (f : Nat) (xs : List PyData) (pos : Nat), pos ≤ f → pos < xs.length → Pcs xs → Hole xs pos →
    (∀ i, 0 < i → i < xs.length → (i - 1) / 2 = pos → leX new (itm xs i)) → Hp (sd new f xs pos)
  | 0, xs, pos, hf, hp, hP, hh, hc => by
    have e : pos = 0 := by omega
    subst e
    intro i h0 hi
    rw [sd, List.length_set] at hi
    rw [sd, itm_set_ne (i := 0) (j := i) (by omega)]
    by_cases q : (i - 1) / 2 = 0
    · rw [q, itm_set_self hp]; exact hc i h0 hi q
    · rw [itm_set_ne (by omega)]; exact hh.rest i h0 hi (by omega) q
  | f + 1, xs, pos, hf, hp, hP, hh, hc => by
    have stop : (pos = 0 ∨ leX (itm xs ((pos - 1) / 2)) new) → Hp (xs.set pos new) := fun hs i h0 hi => by
      rw [List.length_set] at hi
      by_cases q : i = pos
      · subst q
        rw [itm_set_self hp, itm_set_ne (by omega)]
        rcases hs with hs | hs
        · omega
        · exact hs
      · rw [itm_set_ne (i := pos) (j := i) (by omega)]
        by_cases q2 : (i - 1) / 2 = pos
        · rw [q2, itm_set_self hp]; exact hc i h0 hi q2
        · rw [itm_set_ne (by omega)]; exact hh.rest i h0 hi q q2
    rw [sd]
    split
    · rename_i h0; exact stop (.inl h0)
    · rename_i h0
      split
      · rename_i hlt
        have hpp : (pos - 1) / 2 < xs.length := by omega
        have hle := leX_of_lt hn (hP.at hpp) hlt
        refine sd_heap hn f _ _ (by omega) (by rw [List.length_set]; exact hpp) (hP.set _ (hP.at hpp)) ⟨fun i i0 hi n1 n2 => ?_, fun i p0 i0 hi e => ?_⟩ (fun i i0 hi e => ?_)
        · rw [List.length_set] at hi
          have n3 : i ≠ pos := fun q => n2 (by rw [q])
          rw [itm_set_ne (i := pos) (j := i) (by omega)]
          by_cases q : (i - 1) / 2 = pos
          · rw [q, itm_set_self hp]; exact hh.up i (by omega) i0 hi q
          · rw [itm_set_ne (by omega)]; exact hh.rest i i0 hi n3 q
        · rw [List.length_set] at hi
          rw [itm_set_ne (i := pos) (j := ((pos - 1) / 2 - 1) / 2) (by omega)]
          have a1 : leX (itm xs (((pos - 1) / 2 - 1) / 2)) (itm xs ((pos - 1) / 2)) := hh.rest _ p0 hpp (by omega) (by omega)
          by_cases q : i = pos
          · rw [q, itm_set_self hp]; exact a1
          · rw [itm_set_ne (by omega)]
            have a2 := hh.rest i i0 hi q (by omega)
            rw [e] at a2
            exact leX_trans (hP.at (by omega)) (hP.at hpp) (hP.at hi) a1 a2
        · rw [List.length_set] at hi
          by_cases q : i = pos
          · rw [q, itm_set_self hp]; exact hle
          · rw [itm_set_ne (by omega)]
            have a2 := hh.rest i i0 hi q (by omega)
            rw [e] at a2
            exact leX_trans hn (hP.at hpp) (hP.at hi) hle a2
      · rename_i hlt
        exact stop (.inr (by unfold leX; simpa using hlt))

theorem child_min {xs : List PyData} {pos : Nat} (hP : Pcs xs) (h : 2 * pos + 1 < xs.length) {i : Nat} (i0 : 0 < i) (hi : i < xs.length) (e : (i - 1) / 2 = pos) : leX (itm xs (suChild xs pos)) (itm xs i) := by
  have hi2 : i = 2 * pos + 1 ∨ i = 2 * pos + 2 := by omega
  unfold suChild
  split
  · rename_i hc
    rcases hi2 with q | q
    · rw [q]; exact hc.2
    · rw [q]; exact leX_refl (hP.at hc.1)
  · rename_i hc
    rcases hi2 with q | q
    · rw [q]; exact leX_refl (hP.at h)
    · rw [q] at hi ⊢
      have : ltD (itm xs (2 * pos + 1)) (itm xs (2 * pos + 2)) = true := by
        cases z : ltD (itm xs (2 * pos + 1)) (itm xs (2 * pos + 2)) with
        | true => rfl
        | false => exact absurd ⟨hi, z⟩ hc
      exact leX_of_lt (hP.at h) (hP.at hi) this
theorem suChild_par (xs : List PyData) (pos : Nat) : (suChild xs pos - 1) / 2 = pos := by unfold suChild; split <;> omega
theorem su_hole : ∀ (f : Nat) (xs : List PyData) (pos : Nat), xs.length ≤ pos + f → pos < xs.length → Pcs xs → Hole xs pos →
    Hole (su f xs pos).1 (su f xs pos).2 ∧ ∀ i, 0 < i → i < (su f xs pos).1.length → (i - 1) / 2 ≠ (su f xs pos).2
  | 0, xs, pos, hf, hp, hP, hh => by omega
  | f + 1, xs, pos, hf, hp, hP, hh => by
    rw [su]
    split
    · rename_i h
      have hc := suChild_lt h
      have hg := suChild_gt xs pos
      have hpar := suChild_par xs pos
      have hm := @child_min xs pos hP h
      generalize suChild xs pos = c at hc hg hpar hm
      refine su_hole f _ _ (by rw [List.length_set]; omega) (by rw [List.length_set]; exact hc) (hP.set _ (hP.at hc)) ⟨fun i i0 hi n1 n2 => ?_, fun i p0 i0 hi e => ?_⟩
      · rw [List.length_set] at hi
        by_cases q : i = pos
        · subst q
          rw [itm_set_self hp, itm_set_ne (by omega)]
          exact hh.up c i0 (by omega) hc hpar
        · rw [itm_set_ne (i := pos) (j := i) (by omega)]
          by_cases q2 : (i - 1) / 2 = pos
          · rw [q2, itm_set_self hp]; exact hm i0 hi q2
          · rw [itm_set_ne (by omega)]; exact hh.rest i i0 hi q q2
      · rw [List.length_set] at hi
        rw [hpar, itm_set_self hp, itm_set_ne (by omega)]
        have := hh.rest i i0 hi (by omega) (by omega)
        rw [e] at this; exact this
    · rename_i h
      exact ⟨hh, fun i i0 hi e => by dsimp only at hi e; omega⟩

/-! what is on the heap -/
theorem set_perm {xs : List PyData} {i : Nat} (h : i < xs.length) (x : PyData) : (xs.set i x).Perm (x :: xs.eraseIdx i) := by
  induction xs generalizing i with
  | nil => simp at h
  | cons y ys ih => cases i with
    | zero => exact .refl _
    | succ i => exact ((ih (by simpa using h)).cons y).trans (.swap ..)
theorem set_self_itm {xs : List PyData} {i : Nat} (h : i < xs.length) : xs.set i (itm xs i) = xs := by
  apply List.ext_getElem?
  intro j
  rw [List.getElem?_set]
  split
  · rename_i e; subst e; exact (itm_get h).symm
  · rfl
theorem swap_perm {xs : List PyData} {i j : Nat} (hi : i < xs.length) (hj : j < xs.length) (hij : i ≠ j) (x : PyData) : ((xs.set i (itm xs j)).set j x).Perm (xs.set i x) := by
  have hj' : j < (xs.set i (itm xs j)).length := by rw [List.length_set]; exact hj
  refine (set_perm hj' x).trans (.trans (.cons x ?_) (set_perm hi x).symm)
  have a1 : (xs.set i (itm xs j)).Perm (itm xs j :: (xs.set i (itm xs j)).eraseIdx j) := by
    have := set_perm hj' (itm (xs.set i (itm xs j)) j)
    rw [set_self_itm hj', itm_set_ne hij] at this
    exact this
  exact (a1.symm.trans (set_perm hi (itm xs j))).cons_inv
theorem sd_perm {new : PyData} : ∀ (f : Nat) (xs : List PyData) (pos : Nat), pos < xs.length → (sd new f xs pos).Perm (xs.set pos new)
  | 0, xs, pos, hp => .refl _
  | f + 1, xs, pos, hp => by
    rw [sd]
    split
    · exact .refl _
    · split
      · exact (sd_perm f _ _ (by rw [List.length_set]; omega)).trans (swap_perm hp (by omega) (by omega) new)
      · exact .refl _
theorem su_perm {x : PyData} : ∀ (f : Nat) (xs : List PyData) (pos : Nat), pos < xs.length → ((su f xs pos).1.set (su f xs pos).2 x).Perm (xs.set pos x)
  | 0, xs, pos, hp => .refl _
  | f + 1, xs, pos, hp => by
    rw [su]
    split
    · rename_i h
      have hc := suChild_lt h
      have hg := suChild_gt xs pos
      exact (su_perm f _ _ (by rw [List.length_set]; exact hc)).trans (swap_perm hp hc (by omega) x)
    · exact .refl _
theorem siftup_heap {xs : List PyData} (hP : Pcs xs) (hp : 0 < xs.length) (hh : Hole xs 0) : Hp (siftup xs) ∧ (siftup xs).Perm xs := by
  obtain ⟨a, b, c⟩ := su_pcs xs.length xs 0 hp hP
  obtain ⟨d, e⟩ := su_hole xs.length xs 0 (by omega) hp hP hh
  have hpm := su_perm (x := itm xs 0) xs.length xs 0 hp
  unfold siftup
  generalize su xs.length xs 0 = r at a b c d e hpm
  have hl : r.2 < (r.1.set r.2 (itm xs 0)).length := by rw [List.length_set, b]; exact c
  refine ⟨sd_heap (hP.at hp) r.2 _ r.2 (Nat.le_refl _) hl (a.set _ (hP.at hp)) d.set (fun i i0 hi q => absurd q (e i i0 (by rwa [List.length_set] at hi))), ?_⟩
  refine (sd_perm r.2 _ r.2 hl).trans ?_
  rw [List.set_set]
  rw [set_self_itm hp] at hpm
  exact hpm
theorem push_heap {xs : List PyData} {x : PyData} (hP : Pcs xs) (hx : Pc x) (h : Hp xs) : Hp (pushD xs x) ∧ (pushD xs x).Perm (x :: xs) := by
  have hl : xs.length < (xs ++ [x]).length := by simp
  have hP' : Pcs (xs ++ [x]) := fun y hy => by
    rcases List.mem_append.mp hy with q | q
    · exact hP y q
    · simp only [List.mem_singleton] at q; subst q; exact hx
  have low : ∀ i, i < xs.length → itm (xs ++ [x]) i = itm xs i := fun i hi => by
    rw [itm, itm, List.getD_eq_getElem?_getD, List.getD_eq_getElem?_getD, List.getElem?_append_left hi]
  refine ⟨sd_heap hx xs.length _ _ (Nat.le_refl _) hl hP' ⟨fun i i0 hi n1 n2 => ?_, fun i p0 i0 hi e => ?_⟩ (fun i i0 hi e => ?_), ?_⟩
  · rw [List.length_append, List.length_singleton] at hi
    rw [low i (by omega), low _ (by omega)]
    exact h i i0 (by omega)
  · rw [List.length_append, List.length_singleton] at hi; omega
  · rw [List.length_append, List.length_singleton] at hi; omega
  · refine (sd_perm _ _ _ hl).trans ?_
    rw [List.set_append_right _ _ (Nat.le_refl _), Nat.sub_self]
    exact List.perm_append_comm
theorem heapOf_heap (xs : List Int) : Hp (heapOf xs) ∧ (heapOf xs).Perm (xs.map fun x => (pieceP x).dat) := by
  suffices ∀ (l : List Int) (h : List PyData), Pcs h → Hp h → Hp (l.foldl (fun h x => pushD h (pieceP x).dat) h) ∧ (l.foldl (fun h x => pushD h (pieceP x).dat) h).Perm (h ++ l.map fun x => (pieceP x).dat) by
    have := this xs [] (fun _ hx => by cases hx) (fun i _ hi => by cases hi)
    simpa [heapOf] using this
  intro l
  induction l with
  | nil => intro h _ hh; exact ⟨hh, by simp⟩
  | cons x l ih =>
    intro h hP hh
    obtain ⟨a, b⟩ := push_heap hP ⟨pieceP x, rfl⟩ hh
    obtain ⟨c, d⟩ := ih _ (push_pcs hP ⟨pieceP x, rfl⟩).1 a
    refine ⟨c, d.trans ?_⟩
    rw [List.map_cons]
    exact (b.append_right _).trans List.perm_middle.symm
theorem Hp.root {xs : List PyData} (hP : Pcs xs) (h : Hp xs) : ∀ (n i : Nat), i ≤ n → i < xs.length → leX (itm xs 0) (itm xs i)
  | 0, i, hn, hi => by
    have e : i = 0 := by omega
    subst e; exact leX_refl (hP.at hi)
  | n + 1, i, hn, hi => by
    by_cases q : i = 0
    · subst q; exact leX_refl (hP.at hi)
    · exact leX_trans (hP.at (by omega)) (hP.at (by omega)) (hP.at hi) (Hp.root hP h n ((i - 1) / 2) (by omega) (by omega)) (h i (by omega) hi)
theorem Hp.root_mem {xs : List PyData} (hP : Pcs xs) (h : Hp xs) {x : PyData} (hx : x ∈ xs) : leX (itm xs 0) x := by
  obtain ⟨i, hi, rfl⟩ := List.mem_iff_getElem.mp hx
  have := Hp.root hP h i i (Nat.le_refl _) hi
  have e : itm xs i = xs[i] := by rw [itm, List.getD_eq_getElem?_getD, List.getElem?_eq_getElem hi]; rfl
  rwa [e] at this
theorem itm_dropLast {xs : List PyData} {i : Nat} (h : i < xs.dropLast.length) : itm xs.dropLast i = itm xs i := by
  have h2 : i < xs.length := by rw [List.length_dropLast] at h; omega
  rw [itm, itm, List.getD_eq_getElem?_getD, List.getD_eq_getElem?_getD, List.getElem?_eq_getElem h, List.getElem?_eq_getElem h2, List.getElem_dropLast]
theorem Hp.dropLast {xs : List PyData} (h : Hp xs) : Hp xs.dropLast := fun i i0 hi => by
  have : i < xs.length := by rw [List.length_dropLast] at hi; omega
  rw [itm_dropLast hi, itm_dropLast (by omega)]
  exact h i i0 this
theorem pops_sorted : ∀ (n : Nat) (h : List PyData), h.length = n → Pcs h → Hp h → (popsD n h).Perm h ∧ (popsD n h).Pairwise leX
  | 0, h, hn, hP, hh => by
    have : h = [] := List.length_eq_zero_iff.mp hn
    subst this; exact ⟨.refl _, .nil⟩
  | n + 1, h, hn, hP, hh => by
    have hne : h ≠ [] := fun q => by rw [q] at hn; cases hn
    have hdl : h.dropLast.length = n := by rw [List.length_dropLast]; omega
    have hgl : h.getLast?.getD .none = h.getLast hne := by rw [List.getLast?_eq_some_getLast hne]; rfl
    have hPd : Pcs h.dropLast := fun x hx => hP x ((List.dropLast_sublist h).subset hx)
    have hPl : Pc (h.getLast?.getD .none) := by rw [hgl]; exact hP _ (List.getLast_mem hne)
    obtain ⟨q1, q2, q3⟩ := pop_pcs hPd hPl
    have hsp : h.dropLast ++ [h.getLast?.getD .none] = h := by rw [hgl]; exact List.dropLast_concat_getLast hne
    have key : Hp (popD h.dropLast (h.getLast?.getD .none)).2 ∧ ((popD h.dropLast (h.getLast?.getD .none)).1 :: (popD h.dropLast (h.getLast?.getD .none)).2).Perm h ∧ (popD h.dropLast (h.getLast?.getD .none)).1 = itm h 0 := by
      generalize h.getLast?.getD .none = l at hPl hsp
      unfold popD
      split
      · rename_i e
        rw [e] at hsp
        refine ⟨fun i _ hi => (by cases hi), ?_, ?_⟩
        · rw [← hsp]; exact .refl _
        · rw [← hsp]; rfl
      · rename_i e
        have hp : 0 < h.dropLast.length := List.length_pos_iff.mpr e
        obtain ⟨a, b⟩ := siftup_heap (hPd.set 0 hPl) (by rw [List.length_set]; exact hp) hh.dropLast.hole
        refine ⟨a, ?_, itm_dropLast hp⟩
        refine (b.cons _).trans ?_
        have c1 : (h.dropLast).Perm (itm h.dropLast 0 :: h.dropLast.eraseIdx 0) := by
          have := set_perm hp (itm h.dropLast 0)
          rwa [set_self_itm hp] at this
        refine ((set_perm hp l).cons _).trans (.trans (.swap ..) ?_)
        refine (c1.symm.cons l).trans ?_
        have : (l :: h.dropLast).Perm (h.dropLast ++ [l]) := (List.perm_append_comm (l₁ := [l]) (l₂ := h.dropLast))
        rwa [hsp] at this
    obtain ⟨k1, k2, k3⟩ := key
    obtain ⟨r1, r2⟩ := pops_sorted n (popD h.dropLast (h.getLast?.getD .none)).2 (by rw [q3]; exact hdl) q2 k1
    rw [popsD, if_neg hne]
    refine ⟨(r1.cons _).trans k2, .cons (fun x hx => ?_) r2⟩
    rw [k3]
    exact Hp.root_mem hP hh (k2.mem_iff.mp (.tail _ (r1.mem_iff.mp hx)))
end
section

theorem pieces_eq (x : Int) : pieceP x = pieceOf x := by
  unfold pieceP pieceOf
  rw [(paths_all _).1, rest_side, rest_side]
  rfl

/-! two sorted lists of the same pieces are one -/
theorem perm_sorted {α : Type} {le : α → α → Prop} (anti : ∀ a b, le a b → le b a → a = b) : ∀ {xs ys : List α}, xs.Perm ys → xs.Pairwise le → ys.Pairwise le → xs = ys
  | [], ys, h, _, _ => h.nil_eq
  | x :: xs, [], h, _, _ => absurd h.length_eq (by simp)
  | x :: xs, y :: ys, h, h1, h2 => by
    have e : x = y := by
      cases h1 with
      | cons a1 _ => cases h2 with
        | cons b1 _ =>
          have hy : y ∈ x :: xs := h.mem_iff.mpr (.head _)
          have hx : x ∈ y :: ys := h.mem_iff.mp (.head _)
          rcases List.mem_cons.mp hy with q | q
          · exact q.symm
          · rcases List.mem_cons.mp hx with q2 | q2
            · exact q2
            · exact anti x y (a1 y q) (b1 x q2)
    subst e
    cases h1 with
    | cons _ a2 => cases h2 with
      | cons _ b2 => rw [perm_sorted anti h.cons_inv a2 b2]

noncomputable def leP (p q : Piece) : Prop := ltDs q.cells p.cells = false
theorem leP_anti (p q : Piece) (h1 : leP p q) (h2 : leP q p) : p = q := by
  have := leDs_antisymm (cpts_cells p q) h1 h2
  exact dat_inj (congrArg PyData.list this)
theorem sorted_same {xs : List Int} {ps qs : List Piece} (h1 : popsD xs.length (heapOf xs) = ps.map Piece.dat) (h2 : qs.Perm (xs.map pieceOf)) (h3 : (qs.map Piece.cells).Pairwise (fun a b => ltDs b a = false)) : ps = qs ∧ qs.Pairwise leP := by
  obtain ⟨hP, hl⟩ := heapOf_pcs xs
  obtain ⟨hh, hpm⟩ := heapOf_heap xs
  obtain ⟨a, b⟩ := pops_sorted xs.length (heapOf xs) hl hP hh
  rw [h1] at a b
  have hq : qs.Pairwise leP := by have z := List.pairwise_map.mp h3; exact z
  have hp : ps.Pairwise leP := by have z := List.pairwise_map.mp b; exact z
  have hperm : ps.Perm (xs.map pieceOf) := by
    have := a.trans hpm
    have e : (xs.map fun x => (pieceP x).dat) = (xs.map pieceOf).map Piece.dat := by
      rw [List.map_map]; exact List.map_congr_left fun x _ => by rw [pieces_eq]; rfl
    rw [e] at this
    obtain ⟨zs, hz1, hz2⟩ := perm_map_inv this
    have : ps = zs := by
      clear hz2 h1 a b hp this
      induction ps generalizing zs with
      | nil => cases zs with
        | nil => rfl
        | cons z zs => simp at hz1
      | cons p ps ih => cases zs with
        | nil => simp at hz1
        | cons z zs =>
          simp only [List.map_cons, List.cons.injEq] at hz1
          rw [dat_inj hz1.1, ih zs hz1.2]
    rw [this]; exact hz2
  exact ⟨perm_sorted leP_anti (hperm.trans h2.symm) hp hq, hq⟩

/-! the book is what is due -/
theorem range_eq {s t : Int} (h : 0 ≤ t) : PyData.list [.str (uniD s (s + t)), .str (ctxD s (s + t))] = rangeD s t := by
  unfold uniD ctxD
  have e : s + t - s = t := by omega
  rw [e]
  by_cases h0 : t = 0
  · rw [rangeD_zero h0, if_neg (by omega), if_pos h0, if_pos (by omega)]
  · by_cases h1 : t = 1
    · rw [rangeD_one h1, if_pos h1, if_pos (by omega), if_neg h0]
    · rw [rangeD_pos (by omega) h1, if_neg h1, if_neg h0, if_neg (by omega)]
      have e2 : s + 1 + t - 1 = s + t := by omega
      rw [e2]
theorem entry_eq {p : Piece} {mv : Int} : entryD p mv = .list [rangeD p.start p.taken, rangeD (p.start + mv) p.given, strsD p.one, strsD p.two] := by
  unfold entryD
  rw [range_eq (by unfold Piece.taken; omega), range_eq (by unfold Piece.given; omega)]
  rfl
theorem leP_place {p q : Piece} (h : leP p q) : ltD (.str q.place) (.str p.place) = false := by
  unfold leP at h
  simp only [Piece.cells, ltDs] at h
  split at h
  · rename_i e
    have : q.place = p.place := by simpa [eqD] using e
    rw [this]
    have t := triD (d := .str p.place) (e := .str p.place) rfl
    unfold Tri at t
    simpa using t
  · exact h
theorem place_anti {a b : Str} (h1 : ltD (.str a) (.str b) = false) (h2 : ltD (.str b) (.str a) = false) : a = b := by
  have t := triD (d := .str a) (e := .str b) rfl
  unfold Tri at t
  rw [h1, h2] at t
  simpa using t
theorem movedD_snoc (place : Str) (pre : List Piece) (p : Piece) : movedD place (pre ++ [p]) = movedD place pre + if p.place = place then p.given - p.taken else 0 := by
  unfold movedD
  rw [List.filter_append, List.map_append, List.sum_append]
  congr 1
  by_cases h : p.place = place <;> simp [h]
theorem movedD_none {place : Str} {pre : List Piece} (h : ∀ q ∈ pre, q.place ≠ place) : (pre.filter fun q => q.place = place) = [] ∧ movedD place pre = 0 := by
  have e : (pre.filter fun q => q.place = place) = [] := List.filter_eq_nil_iff.mpr fun q hq => by simpa using h q hq
  refine ⟨e, ?_⟩
  unfold movedD
  rw [e]; rfl
theorem book_due : ∀ (ps pre : List Piece) (bf : Str) (mv : Int), (∀ p ∈ ps, p.place ≠ Str.ofString "") → (pre ++ ps).Pairwise leP →
    (bf = Str.ofString "" ∧ pre = [] ∨ ∃ q, pre.getLast? = some q ∧ bf = q.place) → mv = movedD bf pre → bookFrom bf mv ps = dueFrom pre ps
  | [], pre, bf, mv, _, _, _, _ => rfl
  | p :: ps, pre, bf, mv, hne, hs, hb, hm => by
    have hs2 : ((pre ++ [p]) ++ ps).Pairwise leP := by rw [List.append_assoc]; exact hs
    have hle : ∀ q ∈ pre, leP q p := fun q hq => (List.pairwise_append.mp hs).2.2 q hq p (.head _)
    have hpn := hne p (.head _)
    have hmem : ∀ q, pre.getLast? = some q → q ∈ pre := fun q h => List.mem_of_getLast? h
    have hlast : ∀ q, pre.getLast? = some q → ∀ r ∈ pre, r = q ∨ leP r q := fun q h r hr => by
      have hpre := (List.pairwise_append.mp hs).1
      have hne0 : pre ≠ [] := List.ne_nil_of_mem hr
      have e : pre = pre.dropLast ++ [q] := by
        rw [List.getLast?_eq_some_getLast hne0] at h
        cases h
        exact (List.dropLast_concat_getLast hne0).symm
      rw [e] at hr hpre
      rcases List.mem_append.mp hr with z | z
      · exact .inr ((List.pairwise_append.mp hpre).2.2 r z q (by simp))
      · exact .inl (by simpa using z)
    have step : (if p.place = bf then mv else 0) = movedD p.place pre ∧ (if p.place = bf then [] else [PyData.str p.place]) = (if (pre.filter fun q => q.place = p.place) = [] then [PyData.str p.place] else []) := by
      by_cases hp : p.place = bf
      · rw [if_pos hp, if_pos hp, hp]
        refine ⟨hm, ?_⟩
        rcases hb with ⟨h1, h2⟩ | ⟨q, h1, h2⟩
        · exact absurd (hp.trans h1) hpn
        · rw [if_neg]
          intro z
          have := List.filter_eq_nil_iff.mp z q (hmem q h1)
          simp [h2] at this
      · have hno : ∀ q ∈ pre, q.place ≠ p.place := fun r hr e => by
          rcases hb with ⟨h1, h2⟩ | ⟨q, h1, h2⟩
          · rw [h2] at hr; cases hr
          · refine hp ?_
            rw [h2]
            have l2 := leP_place (hle q (hmem q h1))
            rcases hlast q h1 r hr with z | z
            · rw [← z]; exact e.symm
            · have l1 := leP_place z
              rw [e] at l1
              exact place_anti l2 l1
        obtain ⟨m1, m2⟩ := movedD_none hno
        rw [if_neg hp, if_neg hp, m1, m2, if_pos rfl]
        exact ⟨rfl, rfl⟩
    have ih := book_due ps (pre ++ [p]) p.place ((if p.place = bf then mv else 0) + p.given - p.taken) (fun q hq => hne q (.tail _ hq)) hs2 (.inr ⟨p, by simp, rfl⟩) (by
      rw [movedD_snoc, if_pos rfl, step.1]; omega)
    rw [bookFrom, ih, dueFrom, dueStep, step.1, step.2, entry_eq]
    rw [List.append_assoc]
    rfl
theorem place_ne (p : Str) : placeD p ≠ Str.ofString "" := fun h => by
  have := congrArg Str.length h
  unfold placeD at this
  rw [Str.length_append] at this
  have h1 : 1 ≤ (placeHead p).length := by
    unfold placeHead
    split
    · split <;> decide +kernel
    · decide +kernel
  have h2 : (Str.ofString "").length = 0 := by decide +kernel
  omega
theorem book_is_due {xs : List Int} {ps qs : List Piece} (h1 : popsD xs.length (heapOf xs) = ps.map Piece.dat) (h2 : qs.Perm (xs.map pieceOf)) (h3 : (qs.map Piece.cells).Pairwise (fun a b => ltDs b a = false)) :
    bookFrom (Str.ofString "") 0 ps = dueFrom [] qs := by
  obtain ⟨e, hs⟩ := sorted_same h1 h2 h3
  subst e
  refine book_due ps [] _ _ (fun p hp => ?_) hs (.inl ⟨rfl, rfl⟩) rfl
  obtain ⟨x, _, rfl⟩ := List.mem_map.mp (h2.mem_iff.mp hp)
  exact place_ne _

/-! what is due can be asked of itself -/
theorem cpts_append : ∀ {a b : List PyData}, cpts a a = true → cpts b b = true → cpts (a ++ b) (a ++ b) = true
  | [], b, _, h => h
  | x :: a, b, h1, h2 => by
    simp only [cpts, Bool.and_eq_true, List.cons_append] at h1 ⊢
    exact ⟨h1.1, cpts_append h1.2 h2⟩
theorem cpt_strs (xs : List Str) : cpt (strsD xs) (strsD xs) = true := by unfold strsD; simp only [cpt]; exact cpts_strs xs xs
theorem range_flat (s t : Int) : ∃ a b : Str, rangeD s t = .list [.str a, .str b] := by
  unfold rangeD
  by_cases h : t = 1
  · simp only [if_pos h]; exact ⟨_, _, rfl⟩
  · simp only [if_neg h]; exact ⟨_, _, rfl⟩
theorem depth_append : ∀ {a b : List PyData} {n : Nat}, PyData.depthAll a ≤ n → PyData.depthAll b ≤ n → PyData.depthAll (a ++ b) ≤ n
  | [], b, n, _, h => h
  | x :: a, b, n, h1, h2 => by
    simp only [PyData.depthAll, List.cons_append] at h1 ⊢
    have := depth_append (a := a) (b := b) (n := n) (by omega) h2
    omega
theorem due_step (pre : List Piece) (p : Piece) : cpts (dueStep pre p) (dueStep pre p) = true ∧ PyData.depthAll (dueStep pre p) ≤ 5 := by
  unfold dueStep
  obtain ⟨a, b, e1⟩ := range_flat p.start p.taken
  obtain ⟨c, d, e2⟩ := range_flat (p.start + movedD p.place pre) p.given
  rw [e1, e2]
  refine ⟨cpts_append ?_ ?_, depth_append ?_ ?_⟩
  · split <;> rfl
  · simp only [cpts, cpt, cpt_strs, Bool.and_self]
  · split <;> simp [PyData.depthAll, PyData.depth]
  · simp [PyData.depthAll, PyData.depth, strsD, depth_strs]
theorem due_ok : ∀ (ps pre : List Piece), cpts (dueFrom pre ps) (dueFrom pre ps) = true ∧ PyData.depthAll (dueFrom pre ps) ≤ 5
  | [], pre => ⟨rfl, by simp [dueFrom, PyData.depthAll]⟩
  | p :: ps, pre => by
    obtain ⟨a, b⟩ := due_step pre p
    obtain ⟨c, d⟩ := due_ok ps (pre ++ [p])
    exact ⟨cpts_append a c, depth_append b d⟩
end
section


section
variable {C : Cx} {n : Nat} {env : Env} {ρ : Loc} {pos pf : Pos} {K : PyData → Prop} {args : List PySem.Expr}
theorem Ev.fn200 (hm : 60 ≤ n) (h : Evs C n env ρ args fun ds => Fn C 60 (.ref 200) ds K) (hx : env.kindOf (Str.ofString "_law_book") = some .globalImplicit) (hp : args.all plainElt = true) (hne : args ≠ []) :
    Ev C n env ρ (.Call (.Name (Str.ofString "_law_book") pf) args [] pos) K := Ev.call (by rfl) (by rfl) hm h hx hp hne (by decide)
theorem Ev.fn217 (hm : 3 ≤ n) (h : Evs C n env ρ args fun ds => Fn C 3 (.ref 217) ds K) (hx : env.kindOf (Str.ofString "_law_due") = some .globalImplicit) (hp : args.all plainElt = true) (hne : args ≠ []) :
    Ev C n env ρ (.Call (.Name (Str.ofString "_law_due") pf) args [] pos) K := Ev.call (by rfl) (by rfl) hm h hx hp hne (by decide)
end
theorem cutL_head {α : Type} (xs : List α) (i : Nat) : cutL xs none (some (i : Int)) = xs.take i := by
  unfold cutL cutA cutB
  have hc := clipAt_cast xs.length (i : Int)
  rw [if_neg (by omega)] at hc
  show (xs.drop 0).take (clipAt xs.length (i : Int) - 0) = _
  rw [List.drop_zero, Nat.sub_zero]
  by_cases h : i ≤ xs.length
  · rw [show clipAt xs.length (i : Int) = i by omega]
  · rw [List.take_of_length_le (by omega), List.take_of_length_le (by omega)]
theorem cutL_five {α : Type} (xs : List α) : cutL xs none (some (5 : Int)) = xs.take 5 := cutL_head xs 5
noncomputable def numsOf (script : List Int) : List Int := script.take 5 ++ [588, 19545, 39, 9238, 9216, 383916, 71684]
theorem numsOf_len (script : List Int) : 2 ≤ (numsOf script).length ∧ (numsOf script).length ≤ 20 := by
  unfold numsOf
  rw [List.length_append, List.length_take]
  simp only [List.length_cons, List.length_nil]
  omega
theorem numsOf_map (script : List Int) : (script.map PyData.int).take 5 ++ [PyData.int 588, .int 19545, .int 39, .int 9238, .int 9216, .int 383916, .int 71684] = (numsOf script).map .int := by
  unfold numsOf
  rw [List.map_append, List.map_take]
  rfl

set_option maxHeartbeats 8000000 in
theorem law_whole {C : Cx} (hGP : ∀ a, C.GP a → C.GP (a.push .finished)) {xs : List Int} (hlen : xs.length ≤ 63) : Fn C 61 (.ref 224) [.list (xs.map .int)] (fun d => d = .bool true) := by
  refine Fn.of (n := 60) (names := [Str.ofString "script"]) (ds' := [.list (xs.map .int)]) (by rfl) (by rfl) (binds_one fun _ => by rfl) (kind_one fun _ => .inl (by rfl)) (by rfl) (by rfl) (by rfl) (by rfl) ?_
  dsimp only
  intro L
  with_reducible refine Exs.cons ?_
  with_reducible refine Ex.assign ?_ (by with_unfolding_all rfl) (by with_unfolding_all rfl)
  with_reducible refine Ev.bin ?_
  refine Ev.sliceL (by rfl) (by rw [List.length_map, sizeLine_eq]; omega) ?_
  repeat' (walk_at "lws")
  refine op_add_list ?_ (by rw [cutL_five, List.length_take, sizeLine_eq]; simp only [List.length_cons, List.length_nil]; omega)
  rw [cutL_five, numsOf_map]
  obtain ⟨hl1, hl2⟩ := numsOf_len xs
  generalize numsOf xs = ns at hl1 hl2
  repeat' (walk_at "lws")
  with_reducible refine Ev.fn200 (by decide) ?_ (by with_unfolding_all rfl) (by with_unfolding_all rfl) (by simp)
  repeat' (walk_at "lws")
  refine law_book hGP (fun x => (paths_all x).2.2) hl2 fun ps h1 => ?_
  with_reducible refine Ev.fn217 (by decide) ?_ (by with_unfolding_all rfl) (by with_unfolding_all rfl) (by simp)
  repeat' (walk_at "lws")
  refine law_due (fun x => (paths_all x).2.1) hl1 hl2 fun qs h2 h3 => ?_
  rw [book_is_due h1 h2 h3]
  obtain ⟨c1, c2⟩ := due_ok qs []
  refine op_eq_list ?_ c1 (by omega)
  rw [(eqDs_iff c1).mpr rfl]
  exact rfl
end
end Lw
end
noncomputable section
namespace Lw
theorem well_ints {P : Params} {h : Heap} {g : View} : ∀ (xs : List Int) (vs : List Value), WellAll P h vs (ofPys (xs.map .int)) → RelAll g vs (xs.map .int)
  | [], vs, W => by cases W; exact .nil
  | x :: xs, vs, W => by
    cases W with
    | cons V W =>
      cases V with
      | int _ t => exact .cons (.int _ t) (well_ints xs _ W)
theorem well_list {P : Params} {h : Heap} {g : View} (hg : ∀ a o, h.get? a = some o → g a = some o) {a : Addr} {xs : List Int} (W : Well P h (.ref a) (ofPy (.list (xs.map .int)))) : Rel g (.ref a) (.list (xs.map .int)) := by
  simp only [ofPy] at W
  cases W with
  | list ho W => exact .list (n := 0) (hg _ _ ho) (well_ints xs _ W)
theorem allBare_push (a : Array GenState) (h : AllBare a) : AllBare (a.push .finished) := by
  intro y hy
  rcases Array.mem_push.mp hy with q | q
  · exact h y q
  · rw [q]; rfl
end Lw
end
set_option maxHeartbeats 8000000 in
theorem PySem.Challenge.cw_rt0062_01_holds : PySem.Challenge.rw_rt0062_01.Holds := by
  refine Lw.law_of fun said => ?_
  refine holds_open (q := Lw.qv) (loose := []) (Xt := fun s => xlAt Lw.qv [] s && recOk (RowW.records PySem.Challenge.rw_rt0062_01.row.toRowW) s) (XP := XL Lw.qv []) (Yf := Lw.HK.obs) (Ya := Lw.HK.val) (YP := Lw.HK.says) (N := 2790) Lw.left Lw.HK.of Lw.HK.keeps (fun s e => xl_of s (Bool.and_eq_true_iff.mp e).1) XL.keeps (by rfl) (by rfl) (by rfl) (fun s e => recFacts_of (Bool.and_eq_true_iff.mp e).2) (by rfl) (by assumption) (by decide +kernel) ⟨rfl, rfl, rfl, rfl, rfl, by decide +kernel⟩ ⟨[.list []], by decide +kernel, by decide +kernel⟩ ?_
  intro w s₀ s₁ mg mb G Y fa o pm cd doc dV kV ho hd' hcd hD hmg hg args vals as hpre hlay hrd hwl hlo
  have KX := kIn_of Y
  refine Ground.open G ?_
  intro T B D TE TW
  wrow_args hpre hlay hrd hwl hlo
  rename_i xs _ _ _ _ _ _ _ la _ _ _ _ W _ _ _ hcond _
  have hlen : xs.length ≤ 63 := by omega
  have hfa : fa = 224 := by
    have e : mg (Str.ofString "law") = some (.ref 224) := mg_of KX T.g (by rfl)
    have e2 : mg (Str.ofString "law") = some (.ref fa) := hmg
    rw [e] at e2
    cases e2
    rfl
  subst hfa
  let C : Lw.Cx := ⟨PySem.Challenge.rw_rt0062_01.row.prog, w, s₁.heap, _, _, mg, mb, s₁.os, AllBare, KX, topRead_of T⟩
  have st : Lw.St C s₁.heap.get? s₁ := ⟨fun _ _ e => e, fun _ _ e => e, by show AllBare s₁.gens; rw [hg]; exact fun y hy => by simp at hy, rfl⟩
  have hr := Lw.well_list (g := s₁.heap.get?) (fun _ _ e => e) W
  refine Lw.law_whole (C := C) Lw.allBare_push hlen callerA _ s₁ _ _ _ ⟨rfl, by decide, by decide⟩ st (.cons hr .nil) fun d v g' s' hd rd Gr => ?_
  subst hd
  cases rd with
  | bool b =>
    exact ⟨.inl ⟨_, .bool true, [], rfl, fun _ => rfl, ReadsW.bool true, by first | rfl | wrow_post, fun _ => ⟨List.nodup_nil, fun _ hm => (nomatch hm)⟩⟩, OldK.of_keep Gr.ext, Gr.st.os, Gr.st.gens⟩
