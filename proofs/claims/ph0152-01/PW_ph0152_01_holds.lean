import PyProof.Rows.All
import Wide.All
import OpenK.AllK
import Wide.FinOn
import PySem.Challenge.RW_ph0152_01
set_option Elab.async false
set_option compiler.extract_closed false
namespace Lw
open PySem PySem.W PyProof.Rows PySem.Calls
section
set_option maxRecDepth 100000
/-! ## the abstract state -/

/-- a value without its identity token -/
noncomputable def er : Value → Value
  | .int i _ => .int i 0
  | .str s _ => .str s 0
  | .float b _ => .float b 0
  | .bytes b _ => .bytes b 0
  | v => v

@[simp] theorem er_int (i : Int) (t : Tok) : er (.int i t) = .int i 0 := rfl
@[simp] theorem er_str (x : Str) (t : Tok) : er (.str x t) = .str x 0 := rfl
@[simp] theorem er_bool (b : Bool) : er (.bool b) = .bool b := rfl
@[simp] theorem er_none : er .none = .none := rfl
@[simp] theorem er_ref (a : Addr) : er (.ref a) = .ref a := rfl
theorem er_er (v : Value) : er (er v) = er v := by cases v <;> rfl

theorem er_is_int {v : Value} {i : Int} (h : er v = .int i 0) : ∃ t, v = .int i t := by
  cases v <;> simp [er] at h; exact ⟨_, by rw [h]⟩
theorem er_is_str {v : Value} {x : Str} (h : er v = .str x 0) : ∃ t, v = .str x t := by
  cases v <;> simp [er] at h; exact ⟨_, by rw [h]⟩
theorem er_is_bool {v : Value} {b : Bool} (h : er v = .bool b) : v = .bool b := by
  cases v <;> simp [er] at h; rw [h]
theorem er_is_none {v : Value} (h : er v = .none) : v = .none := by
  cases v <;> simp [er] at h; rfl
theorem er_is_ref {v : Value} {a : Addr} (h : er v = .ref a) : v = .ref a := by
  cases v <;> simp [er] at h; rw [h]
theorem er_is_builtin {v : Value} {n : String} (h : er v = .builtin n) : v = .builtin n := by
  cases v <;> simp [er] at h; rw [h]
theorem er_is_type {v : Value} {n : String} (h : er v = .type n) : v = .type n := by
  cases v <;> simp [er] at h; rw [h]

inductive Ent where
  | obj (a : Addr) (P : Obj → Prop)
  | gen (g : Nat) (P : GenState → Prop)
  | code (v : Value) (q : Str)

noncomputable def Ent.key : Ent → Option (Nat × Nat)
  | .obj a _ => some (0, a)
  | .gen g _ => some (1, g)
  | .code _ _ => none

noncomputable abbrev Led := List Ent
noncomputable def keys (l : Led) : List (Nat × Nat) := l.filterMap Ent.key
theorem keys_obj {a : Addr} {P : Obj → Prop} {l : Led} : keys (.obj a P :: l) = (0, a) :: keys l := rfl
theorem keys_cons (e : Ent) (l : Led) : keys (e :: l) = e.key.toList ++ keys l := by
  unfold keys
  rw [List.filterMap_cons]
  cases e.key <;> rfl
theorem keys_mem {e : Ent} {l : Led} {k : Nat × Nat} (he : e ∈ l) (hk : e.key = some k) : k ∈ keys l := List.mem_filterMap.mpr ⟨e, he, hk⟩
theorem keys_tail {e : Ent} {l : Led} (h : (keys (e :: l)).Nodup) : (keys l).Nodup := by
  rw [keys_cons] at h; exact (List.nodup_append.mp h).2.1
noncomputable abbrev Loc := List (Str × Option Value)

/-- a table of code objects that the text's own defs grow -/
structure TabR where
  c : Addr
  P : Addr
  pos : Pos
  qual : Str

noncomputable def CodeRecC (h : Heap) (v : Value) (q : Str) : Prop := ∃ c o vs t, v = .ref c ∧ h.get? c = some o ∧ o.cls = .type "code" ∧ o.data = .fields vs ∧ vs[1]? = some (.str q t)
theorem CodeRecC.rec' {h : Heap} {v : Value} {q : Str} (x : CodeRecC h v q) : h.CodeRec v q := let ⟨c, o, vs, t, a, b, _, d, e⟩ := x; ⟨c, o, vs, t, a, b, d, e⟩
theorem CodeRecC.keeps {h h' : Heap} {v : Value} {q : Str} (x : CodeRecC h v q) (hk : ∀ b o, h.get? b = some o → h'.get? b = some o) : CodeRecC h' v q :=
  let ⟨c, o, vs, t, a, b, r⟩ := x; ⟨c, o, vs, t, a, hk _ _ b, r⟩

structure Cx where
  prog : Program
  w : World
  h₀ : Heap
  os : OsState
  mg : Str → Option Value
  mb : Str → Option Value
  tabs : List TabR

noncomputable abbrev Cx.M (C : Cx) : Model := model C.prog C.w

structure Cx.Ok (C : Cx) : Prop where
  g : C.h₀.Ns mainGlobals C.mg
  b : C.h₀.Ns builtinsNs C.mb
  nolimit : C.h₀.NoLimit
  nodigits : C.h₀.NoDigits
  bmain : ∃ bm ob, C.mg "__builtins__" = some (.ref bm) ∧ bm ≠ builtinsNs ∧ C.h₀.get? bm = some ob ∧ ob.cls = .type "module" ∧ ob.dict = some builtinsNs ∧ ob.data = .plain
  tabs : ∀ q ∈ C.tabs, q.P < C.h₀.objs.size ∧ q.c < C.h₀.objs.size
  tabsNone : ∀ q ∈ C.tabs, C.h₀.get? q.P = none
  tabsApart : ∀ q ∈ C.tabs, ∀ q' ∈ C.tabs, (q' = q ∨ q'.P ≠ q.P) ∧ q'.c ≠ q.P

noncomputable def NoCode (o : Obj) : Prop := o.cls ≠ .type "code" ∨ ∀ vs, o.data ≠ .fields vs

theorem CodeRecC.but {h h' : Heap} {v : Value} {q : Str} {a : Addr} {o : Obj} (x : CodeRecC h v q) (hs : Heap.SameBut a h h') (ho : h.get? a = some o) (hc : NoCode o) : CodeRecC h' v q := by
  obtain ⟨c, o', vs, t, e1, e2, e3, e4, e5⟩ := x
  refine ⟨c, o', vs, t, e1, (hs.2 c (fun q => ?_)).trans e2, e3, e4, e5⟩
  rw [q, ho] at e2; cases e2
  rcases hc with hc | hc
  · exact hc e3
  · exact hc vs e4

noncomputable def TabInv (h : Heap) (q : TabR) : Prop := ∃ ps, h.IsCode q.c q.P ps ∧ h.TableAt q.c q.P ps ∧ ∀ v, codeAmong q.pos ps.toList = some v → CodeRecC h v q.qual
theorem TabInv.keeps {h h' : Heap} {q : TabR} (x : TabInv h q) (hk : ∀ b o, h.get? b = some o → h'.get? b = some o) : TabInv h' q :=
  let ⟨ps, a, b, c⟩ := x; ⟨ps, a.keeps hk, b.keeps hk, fun v hv => (c v hv).keeps hk⟩
/-- a change at an address that bears no code -/
theorem TabInv.but {h h' : Heap} {q : TabR} {a : Addr} {o : Obj} (x : TabInv h q) (hs : Heap.SameBut a h h') (h1 : q.P ≠ a) (h2 : q.c ≠ a) (ho : h.get? a = some o) (hc : NoCode o) : TabInv h' q := by
  obtain ⟨ps, x1, x2, x3⟩ := x
  refine ⟨ps, ?_, x2.sameBut hs h2 h1, fun v hv => ?_⟩
  · obtain ⟨o, vs, file, tf, flags, tg, inF, text, tt, op, a, r1, r2, r3, r4, r5, r6, b, r⟩ := x1
    exact ⟨o, vs, file, tf, flags, tg, inF, text, tt, op, (hs.2 _ h2).trans a, r1, r2, r3, r4, r5, r6, (hs.2 _ h1).trans b, r⟩
  · exact (x3 v hv).but hs ho hc

noncomputable def Ent.holds (C : Cx) (L : Addr) (s : Shared) : Ent → Prop
  | .obj a P => ∃ o, s.heap.get? a = some o ∧ P o ∧ C.h₀.objs.size ≤ a ∧ a ≠ L ∧ NoCode o
  | .gen g P => ∃ st, s.gens[g]? = some st ∧ P st
  | .code v q => CodeRecC s.heap v q

structure St (C : Cx) (env : Env) (loc : Loc) (led : Led) (s : Shared) : Prop where
  ok : C.Ok
  fr : ∃ m, Fr C.h₀ env.locals s.heap m ∧ ∀ p ∈ loc, (m p.1).map er = p.2
  fn : env.scope.kind = .function
  lnd : (loc.map (·.1)).Nodup
  kinds : ∀ p ∈ loc, env.kindOf p.1 = some .local ∧ (p.1 == ("__debug__" : Str)) = false
  all : ∀ e ∈ led, e.holds C env.locals s
  nd : (keys led).Nodup
  os : s.os = C.os
  bare : AllBare s.gens
  tabs : ∀ q ∈ C.tabs, TabInv s.heap q

/-- what a frame's names mean: globals with their values, cells with their addresses -/
structure EnvOk (C : Cx) (env : Env) (gl : List (Str × Value)) (cl : List (Str × Addr)) : Prop where
  fn : env.scope.kind = .function
  globals : env.globals = mainGlobals
  builtins : env.builtins = builtinsNs
  gl : ∀ p ∈ gl, env.kindOf p.1 = some .globalImplicit ∧ (p.1 == ("__debug__" : Str)) = false ∧ ∃ v, er v = p.2 ∧ (C.mg p.1 = some v ∨ (C.mg p.1 = none ∧ C.mb p.1 = some v))
  cl : ∀ p ∈ cl, (env.kindOf p.1 = some .cell ∨ (env.kindOf p.1 = some .free ∧ (p.1 == ("__classdict__" : Str)) = false)) ∧ (p.1 == ("__debug__" : Str)) = false ∧ env.cells.lookup p.1 = some p.2

structure Fit (A : Around) (n : Nat) : Prop where
  dep : A.depth + n ≤ 1000
  un : A.units + 20 * n ≤ 9900
  hd : A.handled = none

theorem Fit.mono {A : Around} {n m : Nat} (h : Fit A n) (hm : m ≤ n) : Fit A m :=
  ⟨by have := h.dep; lia, by have := h.un; lia, h.hd⟩

/-- the triple: from every state that the ledger tells of, t ends in K -/
noncomputable def Tri {α β : Type} (ab : α → β) (C : Cx) (A : Around) (env : Env) (t : Sem α) (loc : Loc) (led : Led) (K : β → Loc → Led → Prop) : Prop :=
  ∀ s, St C env loc led s → wpAny C.M A t (fun v s' => ∃ loc' led', K (ab v) loc' led' ∧ St C env loc' led' s') (fun _ _ => False) s

noncomputable def erF : Flow → Flow
  | .ret v => .ret (er v)
  | f => f
noncomputable abbrev erL (vs : List Value) : List Value := vs.map er

noncomputable abbrev EV (C : Cx) (A : Around) (env : Env) (e : Expr) := Tri er C A env (eval e env)
noncomputable abbrev EX (C : Cx) (A : Around) (env : Env) (s : Stmt) := Tri erF C A env (exec s env)
noncomputable abbrev EXS (C : Cx) (A : Around) (env : Env) (ss : List Stmt) := Tri erF C A env (execs ss env)

section
variable {α β γ δ : Type} {ab : α → β} {ab' : γ → δ} {C : Cx} {A : Around} {env : Env} {loc : Loc} {led : Led}

theorem Tri.mono {t : Sem α} {K K' : β → Loc → Led → Prop} (h : Tri ab C A env t loc led K) (hK : ∀ b l d, K b l d → K' b l d) : Tri ab C A env t loc led K' :=
  fun s hs => wpAny_mono (h s hs) (fun _ _ ⟨l, d, k, st⟩ => ⟨l, d, hK _ _ _ k, st⟩) fun _ _ e => e

end

/-! ## the state under changes -/
section
variable {C : Cx} {env : Env} {loc : Loc} {led : Led} {s s' : Shared}

theorem St.keep (S : St C env loc led s) : ∀ b o, C.h₀.get? b = some o → s.heap.get? b = some o :=
  let ⟨_, F, _⟩ := S.fr; F.keep
theorem St.above (S : St C env loc led s) : C.h₀.objs.size ≤ env.locals :=
  let ⟨_, F, _⟩ := S.fr; F.above

/-- everything that stood stands, nothing else is asked -/
theorem St.ext (S : St C env loc led s) (hk : ∀ b o, s.heap.get? b = some o → s'.heap.get? b = some o) (hg : s'.gens = s.gens) (ho : s'.os = s.os) : St C env loc led s' := by
  obtain ⟨m, F, hm⟩ := S.fr
  refine ⟨S.ok, ⟨m, ⟨F.ns.keeps hk, fun b o e => hk _ _ (F.keep b o e), F.above⟩, hm⟩, S.fn, S.lnd, S.kinds, fun e he => ?_, S.nd, ho.trans S.os, hg ▸ S.bare, fun q hq => (S.tabs q hq).keeps hk⟩
  have := S.all e he
  cases e with
  | obj a P => obtain ⟨o, h1, h2⟩ := this; exact ⟨o, hk _ _ h1, h2⟩
  | gen g P => obtain ⟨st, h1, h2⟩ := this; exact ⟨st, hg ▸ h1, h2⟩
  | code v q => exact CodeRecC.keeps this hk

theorem St.toks (S : St C env loc led s) {t : Nat} : St C env loc led { s with toks := t } := S.ext (fun _ _ e => e) rfl rfl

theorem St.lt (S : St C env loc led s) : env.locals < s.heap.objs.size := by
  obtain ⟨m, F, _⟩ := S.fr
  obtain ⟨o, _, _, h, _⟩ := F.ns
  exact Heap.lt_size h

theorem St.fresh_ne (S : St C env loc led s) : ∀ e ∈ led, e.key ≠ some (0, s.heap.objs.size) := by
  intro e he q
  have := S.all e he
  cases e with
  | obj a P =>
    obtain ⟨o, h1, _⟩ := this
    simp only [Ent.key, Option.some.injEq, Prod.mk.injEq, true_and] at q
    exact Nat.lt_irrefl _ (q ▸ Heap.lt_size h1)
  | gen g P => simp [Ent.key] at q
  | code v c => simp [Ent.key] at q

theorem St.base_le (S : St C env loc led s) : C.h₀.objs.size ≤ s.heap.objs.size := Nat.le_trans S.above (Nat.le_of_lt S.lt)

/-- one more entry, at an address that no entry bears -/
theorem St.more (S : St C env loc led s) {e : Ent} (he : e.holds C env.locals s) (hn : ∀ k, e.key = some k → ∀ x ∈ led, x.key ≠ some k) : St C env loc (e :: led) s :=
  ⟨S.ok, S.fr, S.fn, S.lnd, S.kinds, fun x hx => by
    rcases List.mem_cons.mp hx with rfl | hx
    · exact he
    · exact S.all x hx, by
    rw [keys_cons]
    cases hk : e.key with
    | none => exact S.nd
    | some k =>
      refine List.nodup_cons.mpr ⟨fun q => ?_, S.nd⟩
      obtain ⟨x, hx, e'⟩ := List.mem_filterMap.mp q
      exact hn k hk x hx e', S.os, S.bare, S.tabs⟩

/-- a new object -/
theorem St.push (S : St C env loc led s) {o : Obj} {P : Obj → Prop} (hP : P o) (hf : o.isFreed = false) {h' : Heap} (hh : h' = s.heap.push o) (hc : NoCode o := by exact .inl (show (_ : Value) ≠ _ from by simp)) :
    St C env loc (.obj s.heap.objs.size P :: led) { s with heap := h' } := by
  subst hh
  refine (S.ext (s' := { s with heap := s.heap.push o }) (fun b o' e => Heap.get?_push_of_some _ e) rfl rfl).more ?_ (fun k hk => by cases hk; exact S.fresh_ne)
  exact ⟨o, Heap.get?_push_size _ hf, hP, S.base_le, Nat.ne_of_gt S.lt, hc⟩

theorem St.sub (S : St C env loc led s) {led' : Led} (h : ∀ e ∈ led', e ∈ led) (hn : (keys led').Nodup) : St C env loc led' s :=
  ⟨S.ok, S.fr, S.fn, S.lnd, S.kinds, fun e he => S.all e (h e he), hn, S.os, S.bare, S.tabs⟩

/-- a local is set -/
inductive LSet (x : Str) (v : Option Value) : Loc → Loc → Prop
  | hit {u : Option Value} {l : Loc} : LSet x v ((x, u) :: l) ((x, v) :: l)
  | miss {p : Str × Option Value} {l l' : Loc} : LSet x v l l' → LSet x v (p :: l) (p :: l')
theorem LSet.keys {x : Str} {v : Option Value} {l l' : Loc} (h : LSet x v l l') : l'.map (·.1) = l.map (·.1) := by
  induction h with
  | hit => rfl
  | miss _ ih => simp [ih]
theorem LSet.mem_key {x : Str} {v : Option Value} {l l' : Loc} (h : LSet x v l l') : x ∈ l.map (·.1) := by
  induction h with
  | hit => simp
  | miss _ ih => exact List.mem_cons_of_mem _ ih
theorem LSet.of_mem {x : Str} {v : Option Value} {l l' : Loc} (h : LSet x v l l') (hn : (l.map (·.1)).Nodup) : ∀ p ∈ l', (p.1 = x ∧ p.2 = v) ∨ (p.1 ≠ x ∧ p ∈ l) := by
  induction h with
  | hit =>
    intro p hp
    rcases List.mem_cons.mp hp with rfl | hp
    · exact .inl ⟨rfl, rfl⟩
    · rw [List.map_cons, List.nodup_cons] at hn
      exact .inr ⟨fun q => hn.1 (List.mem_map.mpr ⟨p, hp, q⟩), List.mem_cons_of_mem _ hp⟩
  | miss hs ih =>
    intro p hp
    rw [List.map_cons, List.nodup_cons] at hn
    rcases List.mem_cons.mp hp with rfl | hp
    · exact .inr ⟨fun q => hn.1 (q ▸ hs.mem_key), List.mem_cons_self⟩
    · rcases ih hn.2 p hp with h | h
      · exact .inl h
      · exact .inr ⟨h.1, List.mem_cons_of_mem _ h.2⟩

theorem St.setLoc (S : St C env loc led s) {x : Str} {v : Option Value} {m' : Str → Option Value} {loc' : Loc} (hs : LSet x v loc loc')
    (hsb : Heap.SameBut env.locals s.heap s'.heap) (hn : s'.heap.Ns env.locals m')
    (hv : (m' x).map er = v) (hm' : ∀ m, s.heap.Ns env.locals m → ∀ y, y ≠ x → m' y = m y) (hg : s'.gens = s.gens) (ho : s'.os = s.os) : St C env loc' led s' := by
  obtain ⟨m, F, hm⟩ := S.fr
  refine ⟨S.ok, ⟨m', F.set hn hsb, fun p hp => ?_⟩, S.fn, hs.keys ▸ S.lnd, fun p hp => ?_, fun e he => ?_, S.nd, ho.trans S.os, hg ▸ S.bare, fun q hq => ?_⟩
  · rcases hs.of_mem S.lnd p hp with ⟨h1, h2⟩ | ⟨h1, h2⟩
    · rw [h1, h2]; exact hv
    · rw [hm' m F.ns p.1 h1]; exact hm p h2
  · have : p.1 ∈ loc.map (·.1) := hs.keys ▸ List.mem_map_of_mem hp
    obtain ⟨q, hq, e⟩ := List.mem_map.mp this
    rw [← e]; exact S.kinds q hq
  · have := S.all e he
    cases e with
    | obj a P => obtain ⟨o, h1, h2, h3, h4, h5⟩ := this; exact ⟨o, (hsb.2 a h4).trans h1, h2, h3, h4, h5⟩
    | gen g P => obtain ⟨st, h1, h2⟩ := this; exact ⟨st, hg ▸ h1, h2⟩
    | code v q =>
      obtain ⟨o, es, ep, e1, e2, _⟩ := F.ns
      exact CodeRecC.but this hsb e1 (.inr fun vs e => by rw [e2] at e; cases e)
  · obtain ⟨q1, q2⟩ := S.ok.tabs q hq
    obtain ⟨o, es, ep, e1, e2, _⟩ := F.ns
    exact (S.tabs q hq).but hsb (Nat.ne_of_lt (Nat.lt_of_lt_of_le q1 F.above)) (Nat.ne_of_lt (Nat.lt_of_lt_of_le q2 F.above)) e1 (.inr fun vs e => by rw [e2] at e; cases e)

/-- an object of the ledger is changed -/
inductive LUpd (a : Addr) (P' : Obj → Prop) : (Obj → Prop) → Led → Led → Prop
  | hit {P : Obj → Prop} {l : Led} : LUpd a P' P (.obj a P :: l) (.obj a P' :: l)
  | miss {P : Obj → Prop} {e : Ent} {l l' : Led} : LUpd a P' P l l' → LUpd a P' P (e :: l) (e :: l')
theorem LUpd.keys_eq {a : Addr} {P P' : Obj → Prop} {l l' : Led} (h : LUpd a P' P l l') : keys l' = keys l := by
  induction h with
  | hit => rfl
  | miss _ ih => rw [keys_cons, keys_cons, ih]
theorem LUpd.mem {a : Addr} {P P' : Obj → Prop} {l l' : Led} (h : LUpd a P' P l l') : Ent.obj a P ∈ l := by
  induction h with
  | hit => exact List.mem_cons_self
  | miss _ ih => exact List.mem_cons_of_mem _ ih
theorem LUpd.of_mem {a : Addr} {P P' : Obj → Prop} {l l' : Led} (h : LUpd a P' P l l') (hn : (keys l).Nodup) : ∀ e ∈ l', e = .obj a P' ∨ (e.key ≠ some (0, a) ∧ e ∈ l) := by
  induction h with
  | hit =>
    intro e he
    rcases List.mem_cons.mp he with rfl | he
    · exact .inl rfl
    · rw [keys_obj, List.nodup_cons] at hn
      exact .inr ⟨fun q => hn.1 (keys_mem he q), List.mem_cons_of_mem _ he⟩
  | miss hs ih =>
    intro e he
    rcases List.mem_cons.mp he with rfl | he
    · refine .inr ⟨fun q => ?_, List.mem_cons_self⟩
      rw [keys_cons, q] at hn
      exact (List.nodup_cons.mp hn).1 (keys_mem hs.mem rfl)
    · rcases ih (keys_tail hn) e he with h | h
      · exact .inl h
      · exact .inr ⟨h.1, List.mem_cons_of_mem _ h.2⟩

theorem St.get (S : St C env loc led s) {a : Addr} {P : Obj → Prop} (h : Ent.obj a P ∈ led) : ∃ o, s.heap.get? a = some o ∧ P o := by
  obtain ⟨o, h1, h2, _⟩ := S.all _ h; exact ⟨o, h1, h2⟩

theorem St.upd (S : St C env loc led s) {a : Addr} {P P' : Obj → Prop} {led' : Led} (hu : LUpd a P' P led led')
    (hsb : Heap.SameBut a s.heap s'.heap) {o' : Obj} (hg' : s'.heap.get? a = some o') (hP : P' o') (hg : s'.gens = s.gens) (ho : s'.os = s.os) (hcls : NoCode o') : St C env loc led' s' := by
  obtain ⟨m, F, hm⟩ := S.fr
  obtain ⟨oo, hoo, _, hb, hL, hoc⟩ := S.all _ hu.mem
  refine ⟨S.ok, ⟨m, ⟨F.ns.sameBut hsb (Ne.symm hL), fun b o e => (hsb.2 b (Nat.ne_of_lt (Nat.lt_of_lt_of_le (Heap.lt_size e) hb))).trans (F.keep b o e), F.above⟩, hm⟩, S.fn, S.lnd, S.kinds, fun e he => ?_,
    hu.keys_eq ▸ S.nd, ho.trans S.os, hg ▸ S.bare, fun q hq => (S.tabs q hq).but hsb (Nat.ne_of_lt (Nat.lt_of_lt_of_le (S.ok.tabs q hq).1 hb)) (Nat.ne_of_lt (Nat.lt_of_lt_of_le (S.ok.tabs q hq).2 hb)) hoo hoc⟩
  rcases hu.of_mem S.nd e he with rfl | ⟨h1, h2⟩
  · exact ⟨o', hg', hP, hb, hL, hcls⟩
  · have := S.all e h2
    cases e with
    | obj b Q =>
      obtain ⟨o, q1, q2⟩ := this
      exact ⟨o, (hsb.2 b (fun q => h1 (by rw [q]; rfl))).trans q1, q2⟩
    | gen g Q => obtain ⟨st, q1, q2⟩ := this; exact ⟨st, hg ▸ q1, q2⟩
    | code v q => exact CodeRecC.but this hsb hoo hoc
end
end
section
set_option maxRecDepth 100000
set_option linter.unusedVariables false
section
variable {C : Cx} {A : Around} {env : Env} {loc : Loc} {led : Led} {gl : List (Str × Value)} {cl : List (Str × Addr)}

/-! ## names, constants -/
theorem R_local {x : Str} {pos : Pos} {v : Value} {K : Value → Loc → Led → Prop} (hm : (x, some v) ∈ loc) (h : K v loc led) :
    EV C A env (.Name x pos) loc led K := fun s S => by
  obtain ⟨m, F, hm'⟩ := S.fr
  have q : (m x).map er = some v := hm' _ hm
  cases hx : m x with
  | none => rw [hx] at q; cases q
  | some u =>
    rw [hx] at q
    have q' : er u = v := Option.some.inj q
    exact wpAny_Name (wpAny_loadName_local S.fn (S.kinds _ hm).1 F.ns hx ⟨_, _, by rw [q']; exact h, S⟩) (S.kinds _ hm).2

theorem R_glob {x : Str} {pos : Pos} {v : Value} {K : Value → Loc → Led → Prop} (E : EnvOk C env gl cl) (hm : (x, v) ∈ gl) (h : K v loc led) :
    EV C A env (.Name x pos) loc led K := fun s S => by
  obtain ⟨h1, h2, u, h3, h4⟩ := E.gl _ hm
  have hg : s.heap.Ns env.globals C.mg := by rw [E.globals]; exact S.ok.g.keeps S.keep
  have hb : s.heap.Ns env.builtins C.mb := by rw [E.builtins]; exact S.ok.b.keeps S.keep
  have h3' : er u = v := h3
  rcases h4 with h4 | ⟨h4, h5⟩
  · exact Name_function_global S.fn h1 (loadGlobal_global hg h4 ⟨_, _, by rw [h3']; exact h, S⟩) h2
  · exact Name_function_global S.fn h1 (loadGlobal_builtin hg h4 hb h5 ⟨_, _, by rw [h3']; exact h, S⟩) h2

noncomputable def OCell (v : Option Value) : Obj → Prop := fun o => ∃ u, o.data = .cell u ∧ u.map er = v

theorem R_cell {x : Str} {pos : Pos} {c : Addr} {v : Value} {K : Value → Loc → Led → Prop} (E : EnvOk C env gl cl) (hm : (x, c) ∈ cl) (hc : Ent.obj c (OCell (some v)) ∈ led) (h : K v loc led) :
    EV C A env (.Name x pos) loc led K := fun s S => by
  obtain ⟨o, ho, u, hu, hv⟩ := S.get hc
  cases u with
  | none => cases hv
  | some u =>
    have hv' : er u = v := Option.some.inj hv
    obtain ⟨hk, hd, hl⟩ := E.cl _ hm
    rcases hk with hk | ⟨hk, hn⟩
    · exact wpAny_Name (wpAny_loadName_cell S.fn hk hl ⟨o, ho, hu⟩ ⟨_, _, by rw [hv']; exact h, S⟩) hd
    · exact wpAny_Name (wpAny_loadName_free S.fn hk hl ⟨o, ho, hu⟩ ⟨_, _, by rw [hv']; exact h, S⟩ hn) hd

theorem R_int {i : Int} {k : Nat} {pos : Pos} {K : Value → Loc → Led → Prop} (h : K (.int i 0) loc led) : EV C A env (.Constant (.int i) k pos) loc led K :=
  fun s S => wpAny_Constant_int ⟨_, _, h, S.toks⟩
theorem R_str {x : Str} {k : Nat} {pos : Pos} {K : Value → Loc → Led → Prop} (h : K (.str x 0) loc led) : EV C A env (.Constant (.str x) k pos) loc led K :=
  fun s S => Constant_str ⟨_, _, h, S.toks⟩
/-! ## operators -/
noncomputable def Op1 (C : Cx) (A : Around) (env : Env) (f : Value → Sem Value) (a : Value) (loc : Loc) (led : Led) (K : Value → Loc → Led → Prop) : Prop :=
  ∀ a', er a' = a → Tri er C A env (f a') loc led K
noncomputable def Op2 (C : Cx) (A : Around) (env : Env) (f : Value → Value → Sem Value) (a b : Value) (loc : Loc) (led : Led) (K : Value → Loc → Led → Prop) : Prop :=
  ∀ a' b', er a' = a → er b' = b → Tri er C A env (f a' b') loc led K
noncomputable def TB (C : Cx) (A : Around) (env : Env) (f : Value → Sem Bool) (a : Value) (loc : Loc) (led : Led) (K : Bool → Loc → Led → Prop) : Prop :=
  ∀ a', er a' = a → Tri id C A env (f a') loc led K

theorem R_BinOp {l r : Expr} {op : Operator} {pos : Pos} {K : Value → Loc → Led → Prop}
    (h : EV C A env l loc led (fun a l1 d1 => EV C A env r l1 d1 (fun b l2 d2 => Op2 C A env (binaryOp op) a b l2 d2 K))) :
    EV C A env (.BinOp l op r pos) loc led K := fun s S =>
  wpAny_BinOp (wpAny_mono (h s S) (fun a s₁ ⟨_, _, k, S₁⟩ => wpAny_mono (k s₁ S₁) (fun b s₂ ⟨_, _, k₂, S₂⟩ => k₂ a b rfl rfl s₂ S₂) fun _ _ e => e) fun _ _ e => e)

theorem R_UnaryOp {x : Expr} {op : UnaryOp} {pos : Pos} {K : Value → Loc → Led → Prop}
    (h : EV C A env x loc led (fun a l1 d1 => Op1 C A env (unaryOp op) a l1 d1 K)) : EV C A env (.UnaryOp op x pos) loc led K := fun s S => by
  show wpAny _ _ (do let v ← eval x env; standAt pos; holding [v] (unaryOp op v)) _ _ s
  exact wpAny_bind (wpAny_mono (h s S) (fun a s₁ ⟨_, _, k, S₁⟩ => wpAny_bind (wpAny_standAt (wpAny_holding (k a rfl s₁ S₁)))) fun _ _ e => e)

theorem R_Compare1 {l r : Expr} {op : CmpOp} {pos : Pos} {K : Value → Loc → Led → Prop}
    (h : EV C A env l loc led (fun a l1 d1 => EV C A env r l1 d1 (fun b l2 d2 => Op2 C A env (compareOp op) a b l2 d2 K)))
    (hm : behindInMarks op r = false := by with_unfolding_all rfl) : EV C A env (.Compare l [op] [r] pos) loc led K := fun s S =>
  wpAny_Compare1 (wpAny_mono (h s S) (fun a s₁ ⟨_, _, k, S₁⟩ => wpAny_mono (k s₁ S₁) (fun b s₂ ⟨_, _, k₂, S₂⟩ => k₂ a b rfl rfl s₂ S₂) fun _ _ e => e) fun _ _ e => e) hm

theorem R_IfExp {t b o : Expr} {pos : Pos} {K : Value → Loc → Led → Prop}
    (h : Tri id C A env (isTrue t env (eval t env)) loc led (fun c l d => if c = true then EV C A env b l d K else EV C A env o l d K)) :
    EV C A env (.IfExp t b o pos) loc led K := fun s S => by
  show wpAny _ _ (do if ← isTrue t env (eval t env) then eval b env else eval o env) _ _ s
  refine wpAny_bind (wpAny_mono (h s S) (fun c s₁ ⟨_, _, k, S₁⟩ => ?_) fun _ _ e => e)
  cases c with
  | true => simp only [id, if_true] at k; exact k s₁ S₁
  | false => simp only [id, Bool.false_eq_true, if_false] at k; exact k s₁ S₁

/-! ### ints -/
section
variable {a b : Int} {K : Value → Loc → Led → Prop}

theorem O_add (h : K (.int (a + b) 0) loc led) : Op2 C A env (binaryOp .Add) (.int a 0) (.int b 0) loc led K := fun a' b' ha hb s S => by
  obtain ⟨t, rfl⟩ := er_is_int ha; obtain ⟨u, rfl⟩ := er_is_int hb
  exact PyProof.Rows.add_int ⟨_, _, h, S.toks⟩
theorem O_sub (h : K (.int (a - b) 0) loc led) : Op2 C A env (binaryOp .Sub) (.int a 0) (.int b 0) loc led K := fun a' b' ha hb s S => by
  obtain ⟨t, rfl⟩ := er_is_int ha; obtain ⟨u, rfl⟩ := er_is_int hb
  exact PyProof.Rows.sub_int ⟨_, _, h, S.toks⟩
theorem O_mul (hm : IntMulOk a b) (h : K (.int (a * b) 0) loc led) : Op2 C A env (binaryOp .Mult) (.int a 0) (.int b 0) loc led K := fun a' b' ha hb s S => by
  obtain ⟨t, rfl⟩ := er_is_int ha; obtain ⟨u, rfl⟩ := er_is_int hb
  exact PyProof.Rows.mul_int ⟨_, _, h, S.toks⟩ hm
theorem O_floordiv (hb0 : b ≠ 0) (hp : Builtin.divisionGoesByPylong a b = false) (h : K (.int (a.fdiv b) 0) loc led) : Op2 C A env (binaryOp .FloorDiv) (.int a 0) (.int b 0) loc led K := fun a' b' ha hb s S => by
  obtain ⟨t, rfl⟩ := er_is_int ha; obtain ⟨u, rfl⟩ := er_is_int hb
  exact PyProof.Rows.floordiv_int hb0 ⟨_, _, h, S.toks⟩ (.inl hp)
theorem O_mod (hb0 : b ≠ 0) (h : K (.int (a.fmod b) 0) loc led) : Op2 C A env (binaryOp .Mod) (.int a 0) (.int b 0) loc led K := fun a' b' ha hb s S => by
  obtain ⟨t, rfl⟩ := er_is_int ha; obtain ⟨u, rfl⟩ := er_is_int hb
  exact PyProof.Rows.mod_int hb0 ⟨_, _, h, S.toks⟩
theorem O_pow (h0 : 0 ≤ b) (hs : (Builtin.Int.intBits a : Int) * b ≤ 2 ^ 27) (h : K (.int (a ^ b.toNat) 0) loc led) : Op2 C A env (binaryOp .Pow) (.int a 0) (.int b 0) loc led K := fun a' b' ha hb s S => by
  obtain ⟨t, rfl⟩ := er_is_int ha; obtain ⟨u, rfl⟩ := er_is_int hb
  exact PyProof.Rows.pow_int h0 hs ⟨_, _, h, S.toks⟩
theorem O_lshift (h0 : 0 ≤ b) (hs : (Builtin.Int.intBits a : Int) + b ≤ 2 ^ 27) (h : K (.int (a * 2 ^ b.toNat) 0) loc led) : Op2 C A env (binaryOp .LShift) (.int a 0) (.int b 0) loc led K := fun a' b' ha hb s S => by
  obtain ⟨t, rfl⟩ := er_is_int ha; obtain ⟨u, rfl⟩ := er_is_int hb
  exact PyProof.Rows.lshift_int h0 hs ⟨_, _, h, S.toks⟩
theorem O_rshift (h0 : 0 ≤ b) (h : K (.int (a.fdiv (2 ^ b.toNat)) 0) loc led) : Op2 C A env (binaryOp .RShift) (.int a 0) (.int b 0) loc led K := fun a' b' ha hb s S => by
  obtain ⟨t, rfl⟩ := er_is_int ha; obtain ⟨u, rfl⟩ := er_is_int hb
  exact PyProof.Rows.rshift_int h0 ⟨_, _, h, S.toks⟩
theorem O_and (h : K (.int (Builtin.bitAnd a b) 0) loc led) : Op2 C A env (binaryOp .BitAnd) (.int a 0) (.int b 0) loc led K := fun a' b' ha hb s S => by
  obtain ⟨t, rfl⟩ := er_is_int ha; obtain ⟨u, rfl⟩ := er_is_int hb
  exact PyProof.Rows.and_int ⟨_, _, h, S.toks⟩
theorem O_or (h : K (.int (Builtin.bitOr a b) 0) loc led) : Op2 C A env (binaryOp .BitOr) (.int a 0) (.int b 0) loc led K := fun a' b' ha hb s S => by
  obtain ⟨t, rfl⟩ := er_is_int ha; obtain ⟨u, rfl⟩ := er_is_int hb
  exact PyProof.Rows.or_int ⟨_, _, h, S.toks⟩
theorem O_xor (h : K (.int (Builtin.bitXor a b) 0) loc led) : Op2 C A env (binaryOp .BitXor) (.int a 0) (.int b 0) loc led K := fun a' b' ha hb s S => by
  obtain ⟨t, rfl⟩ := er_is_int ha; obtain ⟨u, rfl⟩ := er_is_int hb
  exact PyProof.Rows.xor_int ⟨_, _, h, S.toks⟩
theorem O_rshift' {k : Nat} (hk : b = (k : Int)) (h : K (.int (a / 2 ^ k) 0) loc led) : Op2 C A env (binaryOp .RShift) (.int a 0) (.int b 0) loc led K := by
  subst hk
  refine O_rshift (Int.natCast_nonneg k) ?_
  rw [Int.toNat_natCast, Int.fdiv_eq_ediv_of_nonneg _ (Int.le_of_lt (Int.pow_pos (by decide)))]; exact h
theorem O_lshift' {k : Nat} (hk : b = (k : Int)) (hs : Builtin.Int.intBits a + k ≤ 2 ^ 27) (h : K (.int (a * 2 ^ k) 0) loc led) : Op2 C A env (binaryOp .LShift) (.int a 0) (.int b 0) loc led K := by
  subst hk
  refine O_lshift (Int.natCast_nonneg k) (by lia) ?_
  rw [Int.toNat_natCast]; exact h
theorem O_and' {c : Int} (hc : Builtin.bitAnd a b = c) (h : K (.int c 0) loc led) : Op2 C A env (binaryOp .BitAnd) (.int a 0) (.int b 0) loc led K := O_and (hc ▸ h)
theorem O_or' {c : Int} (hc : Builtin.bitOr a b = c) (h : K (.int c 0) loc led) : Op2 C A env (binaryOp .BitOr) (.int a 0) (.int b 0) loc led K := O_or (hc ▸ h)
theorem O_xor' {c : Int} (hc : Builtin.bitXor a b = c) (h : K (.int c 0) loc led) : Op2 C A env (binaryOp .BitXor) (.int a 0) (.int b 0) loc led K := O_xor (hc ▸ h)
theorem O_mul' {c : Int} (hm : IntMulOk a b) (hc : a * b = c) (h : K (.int c 0) loc led) : Op2 C A env (binaryOp .Mult) (.int a 0) (.int b 0) loc led K := O_mul hm (hc ▸ h)
theorem O_iadd (h : K (.int (a + b) 0) loc led) : Op2 C A env (inplaceOp .Add) (.int a 0) (.int b 0) loc led K := fun a' b' ha hb s S => by
  obtain ⟨t, rfl⟩ := er_is_int ha; obtain ⟨u, rfl⟩ := er_is_int hb
  exact PyProof.Rows.iadd_int ⟨_, _, h, S.toks⟩
theorem O_isub (h : K (.int (a - b) 0) loc led) : Op2 C A env (inplaceOp .Sub) (.int a 0) (.int b 0) loc led K := fun a' b' ha hb s S => by
  obtain ⟨t, rfl⟩ := er_is_int ha; obtain ⟨u, rfl⟩ := er_is_int hb
  exact PySem.P.isub_int ⟨_, _, h, S.toks⟩
theorem O_ilshift (h0 : 0 ≤ b) (hs : (Builtin.Int.intBits a : Int) + b ≤ 2 ^ 27) (h : K (.int (a * 2 ^ b.toNat) 0) loc led) : Op2 C A env (inplaceOp .LShift) (.int a 0) (.int b 0) loc led K := fun a' b' ha hb s S => by
  obtain ⟨t, rfl⟩ := er_is_int ha; obtain ⟨u, rfl⟩ := er_is_int hb
  exact PyProof.Rows.ilshift_int h0 hs ⟨_, _, h, S.toks⟩
theorem O_irshift (h0 : 0 ≤ b) (h : K (.int (a.fdiv (2 ^ b.toNat)) 0) loc led) : Op2 C A env (inplaceOp .RShift) (.int a 0) (.int b 0) loc led K := fun a' b' ha hb s S => by
  obtain ⟨t, rfl⟩ := er_is_int ha; obtain ⟨u, rfl⟩ := er_is_int hb
  exact PyProof.Rows.irshift_int h0 ⟨_, _, h, S.toks⟩
theorem O_irshift' {k : Nat} (hk : b = (k : Int)) (h : K (.int (a / 2 ^ k) 0) loc led) : Op2 C A env (inplaceOp .RShift) (.int a 0) (.int b 0) loc led K := by
  subst hk
  refine O_irshift (Int.natCast_nonneg k) ?_
  rw [Int.toNat_natCast, Int.fdiv_eq_ediv_of_nonneg _ (Int.le_of_lt (Int.pow_pos (by decide)))]; exact h
theorem O_ilshift' {k : Nat} (hk : b = (k : Int)) (hs : Builtin.Int.intBits a + k ≤ 2 ^ 27) (h : K (.int (a * 2 ^ k) 0) loc led) : Op2 C A env (inplaceOp .LShift) (.int a 0) (.int b 0) loc led K := by
  subst hk
  refine O_ilshift (Int.natCast_nonneg k) (by lia) ?_
  rw [Int.toNat_natCast]; exact h
theorem O_neg (h : K (.int (-a) 0) loc led) : Op1 C A env (unaryOp .USub) (.int a 0) loc led K := fun a' ha s S => by
  obtain ⟨t, rfl⟩ := er_is_int ha
  exact PySem.P.neg_int ⟨_, _, h, S.toks⟩
theorem O_invert (h : K (.int (Builtin.bitNot a) 0) loc led) : Op1 C A env (unaryOp .Invert) (.int a 0) loc led K := fun a' ha s S => by
  obtain ⟨t, rfl⟩ := er_is_int ha
  exact PyProof.Rows.invert_int ⟨_, _, h, S.toks⟩
theorem O_eq (h : K (.bool (decide (a = b))) loc led) : Op2 C A env (compareOp .Eq) (.int a 0) (.int b 0) loc led K := fun a' b' ha hb s S => by
  obtain ⟨t, rfl⟩ := er_is_int ha; obtain ⟨u, rfl⟩ := er_is_int hb
  exact PyProof.Rows.eq_int ⟨_, _, h, S⟩
theorem O_ne (h : K (.bool (decide (a ≠ b))) loc led) : Op2 C A env (compareOp .NotEq) (.int a 0) (.int b 0) loc led K := fun a' b' ha hb s S => by
  obtain ⟨t, rfl⟩ := er_is_int ha; obtain ⟨u, rfl⟩ := er_is_int hb
  exact PyProof.Rows.ne_int ⟨_, _, by rw [show (a != b) = decide (a ≠ b) by by_cases q : a = b <;> simp [q]]; exact h, S⟩
theorem O_lt (h : K (.bool (decide (a < b))) loc led) : Op2 C A env (compareOp .Lt) (.int a 0) (.int b 0) loc led K := fun a' b' ha hb s S => by
  obtain ⟨t, rfl⟩ := er_is_int ha; obtain ⟨u, rfl⟩ := er_is_int hb
  exact PyProof.Rows.lt_int ⟨_, _, h, S⟩
theorem O_le (h : K (.bool (decide (a ≤ b))) loc led) : Op2 C A env (compareOp .LtE) (.int a 0) (.int b 0) loc led K := fun a' b' ha hb s S => by
  obtain ⟨t, rfl⟩ := er_is_int ha; obtain ⟨u, rfl⟩ := er_is_int hb
  exact PyProof.Rows.le_int ⟨_, _, h, S⟩
theorem O_gt (h : K (.bool (decide (b < a))) loc led) : Op2 C A env (compareOp .Gt) (.int a 0) (.int b 0) loc led K := fun a' b' ha hb s S => by
  obtain ⟨t, rfl⟩ := er_is_int ha; obtain ⟨u, rfl⟩ := er_is_int hb
  exact PyProof.Rows.gt_int ⟨_, _, h, S⟩
end
end
end
section
set_option maxRecDepth 100000
set_option linter.unusedVariables false
theorem keeps_extBut {h h' : Heap} (hs : Heap.ExtBut h.objs.size h h') : ∀ b o, h.get? b = some o → h'.get? b = some o :=
  fun b o e => hs b o (Nat.ne_of_lt (Heap.lt_size e)) e

section
variable {C : Cx} {A : Around} {env : Env} {loc : Loc} {led : Led} {gl : List (Str × Value)} {cl : List (Str × Addr)}

/-! ## truth -/
noncomputable abbrev IT (C : Cx) (A : Around) (env : Env) (e : Expr) := Tri (id : Bool → Bool) C A env (isTrue e env (eval e env))

theorem R_it_Compare1 {l r : Expr} {op : CmpOp} {pos : Pos} {K : Bool → Loc → Led → Prop}
    (h : EV C A env l loc led (fun a l1 d1 => EV C A env r l1 d1 (fun b l2 d2 => Op2 C A env (compareOp op) a b l2 d2 (fun c l3 d3 => TB C A env truthy c l3 d3 K))))
    (hm : behindInMarks op r = false := by with_unfolding_all rfl) : IT C A env (.Compare l [op] [r] pos) loc led K := fun s S =>
  wpAny_isTrue_Compare1 (wpAny_mono (h s S) (fun a s₁ ⟨_, _, k, S₁⟩ => wpAny_mono (k s₁ S₁) (fun b s₂ ⟨_, _, k₂, S₂⟩ =>
    wpAny_mono (k₂ a b rfl rfl s₂ S₂) (fun c s₃ ⟨_, _, k₃, S₃⟩ => k₃ c rfl s₃ S₃) fun _ _ e => e) fun _ _ e => e) fun _ _ e => e) hm
theorem R_it_Not {x : Expr} {pos : Pos} {K : Bool → Loc → Led → Prop} (h : IT C A env x loc led (fun c l d => K (!c) l d)) :
    IT C A env (.UnaryOp .Not x pos) loc led K := fun s S => isTrue_not (wpAny_mono (h s S) (fun _ _ x => x) fun _ _ e => e)
theorem R_it_or_nil {pos : Pos} {K : Bool → Loc → Led → Prop} (h : K false loc led) : IT C A env (.BoolOp .Or [] pos) loc led K := fun s S => isTrue_or_nil ⟨_, _, h, S⟩
theorem R_it_or {x : Expr} {rest : List Expr} {pos : Pos} {K : Bool → Loc → Led → Prop}
    (h : IT C A env x loc led (fun c l d => if c = true then K true l d else IT C A env (.BoolOp .Or rest pos) l d K)) : IT C A env (.BoolOp .Or (x :: rest) pos) loc led K := fun s S => by
  refine isTrue_or (wpAny_mono (h s S) (fun c s₁ ⟨l, d, k, S₁⟩ => ?_) fun _ _ e => e)
  cases c with
  | true => simp only [id, if_true] at k ⊢; exact ⟨_, _, k, S₁⟩
  | false => simp only [id, Bool.false_eq_true, if_false] at k ⊢; exact k s₁ S₁
theorem R_it_plain {e : Expr} {K : Bool → Loc → Led → Prop} (h : EV C A env e loc led (fun v l d => TB C A env truthy v l d K))
    (he : isTrue e env (eval e env) = (do let v ← eval e env; standAt e.pos; holding [v] (truthy v)) := by with_unfolding_all rfl) : IT C A env e loc led K := fun s S =>
  isTrue_plain (wpAny_mono (h s S) (fun v s₁ ⟨_, _, k, S₁⟩ => k v rfl s₁ S₁) fun _ _ e => e) he

theorem T_bool {b : Bool} {K : Bool → Loc → Led → Prop} (h : K b loc led) : TB C A env truthy (.bool b) loc led K := fun a ha s S => by
  rw [er_is_bool ha]; exact wpAny_truthy_bool ⟨_, _, h, S⟩
theorem T_int {i : Int} {K : Bool → Loc → Led → Prop} (h : K (decide (i ≠ 0)) loc led) : TB C A env truthy (.int i 0) loc led K := fun a ha s S => by
  obtain ⟨t, rfl⟩ := er_is_int ha
  exact PySem.P.truthy_int ⟨_, _, by rw [show (i != 0) = decide (i ≠ 0) by by_cases q : i = 0 <;> simp [q]]; exact h, S⟩

theorem bool_ite {b : Bool} {P Q : Prop} (h1 : b = true → P) (h2 : b = false → Q) : if b = true then P else Q := by
  cases b
  · exact h2 rfl
  · exact h1 rfl
theorem dec_ite {p : Prop} [Decidable p] {P Q : Prop} (h1 : p → P) (h2 : ¬ p → Q) : if (decide p) = true then P else Q := by
  by_cases h : p
  · rw [if_pos (decide_eq_true h)]; exact h1 h
  · rw [if_neg (by rw [decide_eq_false h]; exact Bool.false_ne_true)]; exact h2 h

theorem ite_dt {p : Prop} [Decidable p] {P Q : Prop} (h : p) (k : P) : if (decide p) = true then P else Q := by rw [if_pos (decide_eq_true h)]; exact k
theorem ite_df {p : Prop} [Decidable p] {P Q : Prop} (h : ¬ p) (k : Q) : if (decide p) = true then P else Q := by rw [if_neg (by rw [decide_eq_false h]; exact Bool.false_ne_true)]; exact k
theorem ite_tt {P Q : Prop} (k : P) : if true = true then P else Q := by rw [if_pos rfl]; exact k
theorem ite_ff {P Q : Prop} (k : Q) : if false = true then P else Q := by rw [if_neg Bool.false_ne_true]; exact k

/-! ## statements -/
theorem X_nil {K : Flow → Loc → Led → Prop} (h : K .next loc led) : EXS C A env [] loc led K := fun s S => wpAny_execs_nil ⟨_, _, h, S⟩
noncomputable def seqK (K : Flow → Loc → Led → Prop) (P : Loc → Led → Prop) : Flow → Loc → Led → Prop
  | .next, l, d => P l d
  | .brk, l, d => K .brk l d
  | .cont, l, d => K .cont l d
  | .ret v, l, d => K (.ret v) l d
theorem seqK_next {K : Flow → Loc → Led → Prop} {P : Loc → Led → Prop} (h : P loc led) : seqK K P .next loc led := h
theorem seqK_brk {K : Flow → Loc → Led → Prop} {P : Loc → Led → Prop} (h : K .brk loc led) : seqK K P .brk loc led := h
theorem seqK_cont {K : Flow → Loc → Led → Prop} {P : Loc → Led → Prop} (h : K .cont loc led) : seqK K P .cont loc led := h
theorem seqK_ret {K : Flow → Loc → Led → Prop} {P : Loc → Led → Prop} {v : Value} (h : K (.ret v) loc led) : seqK K P (.ret v) loc led := h
theorem X_cons {st : Stmt} {rest : List Stmt} {K : Flow → Loc → Led → Prop}
    (h : EX C A env st loc led (seqK K (fun l d => EXS C A env rest l d K))) : EXS C A env (st :: rest) loc led K := fun s S =>
  wpAny_execs_cons (wpAny_mono (h s S) (fun f s₁ ⟨l, d, k, S₁⟩ => by
    cases f with
    | next => exact k s₁ S₁
    | brk => exact ⟨l, d, k, S₁⟩
    | cont => exact ⟨l, d, k, S₁⟩
    | ret v => exact ⟨l, d, k, S₁⟩) fun _ _ e => e)
theorem X_Return {e : Expr} {pos : Pos} {K : Flow → Loc → Led → Prop} (h : EV C A env e loc led (fun v l d => K (.ret v) l d)) : EX C A env (.Return (some e) pos) loc led K := fun s S =>
  wpAny_Return_some (wpAny_mono (h s S) (fun _ _ x => x) fun _ _ e => e)
theorem X_Return0 {pos : Pos} {K : Flow → Loc → Led → Prop} (h : K (.ret .none) loc led) : EX C A env (.Return none pos) loc led K := fun s S => wpAny_Return_none ⟨_, _, h, S⟩
theorem X_Continue {pos : Pos} {K : Flow → Loc → Led → Prop} (h : K .cont loc led) : EX C A env (.Continue pos) loc led K := fun s S => by
  show wpAny _ _ (do standAt pos; pure Flow.cont : Sem Flow) _ _ s
  exact wpAny_bind (wpAny_standAt (wpAny_pure ⟨_, _, h, S⟩))
theorem X_If {t : Expr} {b o : List Stmt} {pos : Pos} {K : Flow → Loc → Led → Prop}
    (h : IT C A env t loc led (fun c l d => if c = true then EXS C A env b l d K else EXS C A env o l d K)) : EX C A env (.If t b o pos) loc led K := fun s S =>
  wpAny_If (wpAny_mono (h s S) (fun c s₁ ⟨_, _, k, S₁⟩ => by
    cases c with
    | true => simp only [id, if_true] at k ⊢; exact k s₁ S₁
    | false => simp only [id, Bool.false_eq_true, if_false] at k ⊢; exact k s₁ S₁) fun _ _ e => e)

/-- storing a name -/
noncomputable def SN (C : Cx) (A : Around) (env : Env) (x : Str) (v : Value) (loc : Loc) (led : Led) (K : Loc → Led → Prop) : Prop :=
  ∀ v', er v' = v → Tri (fun _ : Unit => ()) C A env (storeName env x v') loc led (fun _ => K)

theorem SN_local {x : Str} {v : Value} {loc' : Loc} {K : Loc → Led → Prop} (hs : LSet x (some v) loc loc') (h : K loc' led) : SN C A env x v loc led K := fun v' hv s S => by
  obtain ⟨m, F, hm⟩ := S.fr
  obtain ⟨p, hp, hpx⟩ := List.mem_map.mp hs.mem_key
  have hk : env.kindOf x = some .local := hpx ▸ (S.kinds p hp).1
  have hf := S.fn
  refine wpAny_storeName_local hk F.ns (fun h' hn hsb => ⟨loc', led, h, ?_⟩) (by rw [hf]; rfl)
  refine S.setLoc hs (s' := { s with heap := h', toks := s.toks + 1 }) hsb hn ?_ ?_ rfl rfl
  · show (if x = x then some v' else m x).map er = some v
    rw [if_pos rfl]; show some (er v') = _; rw [hv]
  · intro m2 hm2 y hy
    show (if y = x then some v' else m y) = m2 y
    rw [if_neg hy]
    obtain ⟨_, _, _, e1, e2, _, e3⟩ := F.ns
    obtain ⟨_, _, _, f1, f2, _, f3⟩ := hm2
    rw [e1] at f1; cases f1
    rw [e2] at f2; cases f2
    rw [← e3, ← f3]

theorem SN_cell {x : Str} {c : Addr} {v : Value} {v₀ : Option Value} {led' : Led} {K : Loc → Led → Prop} (E : EnvOk C env gl cl) (hm : (x, c) ∈ cl) (hk : env.kindOf x = some .cell)
    (hu : LUpd c (OCell (some v)) (OCell v₀) led led') (h : K loc led') : SN C A env x v loc led K := fun v' hv s S => by
  obtain ⟨o, ho, u, hou, _⟩ := S.get hu.mem
  obtain ⟨_, _, hl⟩ := E.cl _ hm
  refine wpAny_storeName_cell S.fn hk hl ⟨o, ho, hou⟩ fun h' hc hsb => ⟨loc, led', h, ?_⟩
  obtain ⟨o', ho', hd'⟩ := hc
  exact S.upd hu (s' := { s with heap := h' }) hsb ho' ⟨_, hd', by simp [hv]⟩ rfl rfl (.inr fun vs e => by rw [hd'] at e; cases e)

theorem X_Assign {x : Str} {pos' pos : Pos} {value : Expr} {K : Flow → Loc → Led → Prop}
    (h : EV C A env value loc led (fun v l d => SN C A env x v l d (fun l d => K .next l d)))
    (hs : swapsWith value (some (.Name x pos')) pos.line env = pure false := by with_unfolding_all rfl) : EX C A env (.Assign [.Name x pos'] value pos) loc led K := fun s S =>
  wpAny_Assign_Name (wpAny_mono (h s S) (fun v s₁ ⟨_, _, k, S₁⟩ => wpAny_mono (k v rfl s₁ S₁) (fun _ _ x => x) fun _ _ e => e) fun _ _ e => e) hs

theorem X_AugAssign {x : Str} {pos' pos : Pos} {op : Operator} {value : Expr} {old : Value} {K : Flow → Loc → Led → Prop} (hm : (x, some old) ∈ loc)
    (h : EV C A env value loc led (fun v l d => Op2 C A env (inplaceOp op) old v l d (fun r l d => SN C A env x r l d (fun l d => K .next l d)))) :
    EX C A env (.AugAssign (.Name x pos') op value pos) loc led K := fun s S => by
  obtain ⟨m, F, hm'⟩ := S.fr
  have q : (m x).map er = some old := hm' _ hm
  cases hx : m x with
  | none => rw [hx] at q; cases q
  | some u =>
    rw [hx] at q
    have q' : er u = old := Option.some.inj q
    refine wpAny_AugAssign_Name (wpAny_loadName_local S.fn (S.kinds _ hm).1 F.ns hx ?_)
    refine wpAny_mono (h s S) (fun v s₁ ⟨_, _, k, S₁⟩ => wpAny_mono (k u v q' rfl s₁ S₁) (fun r s₂ ⟨_, _, k₂, S₂⟩ => wpAny_mono (k₂ r rfl s₂ S₂) (fun _ _ x => x) fun _ _ e => e) fun _ _ e => e) fun _ _ e => e

/-! ## displays: tuples, lists -/
noncomputable def OTup (vs : List Value) : Obj → Prop := fun o => ∃ items n, o = { cls := .type "tuple", dict := none, data := .seq items n, slots := #[] } ∧ erL items.toList = vs
noncomputable def OList (vs : List Value) : Obj → Prop := fun o => ∃ items n, o = { cls := .type "list", dict := none, data := .seq items n, slots := #[] } ∧ erL items.toList = vs

noncomputable abbrev ARGS (C : Cx) (A : Around) (env : Env) (pos : Pos) (es : List Expr) := Tri erL C A env (spliced (backTo pos (starEach es env)))

theorem A_nil {pos : Pos} {K : List Value → Loc → Led → Prop} (h : K [] loc led) : ARGS C A env pos [] loc led K := fun s S => spliced_nil ⟨_, _, h, S⟩
theorem A_cons {e : Expr} {rest : List Expr} {pos : Pos} {K : List Value → Loc → Led → Prop}
    (h : EV C A env e loc led (fun v l d => ARGS C A env pos rest l d (fun vs l d => K (v :: vs) l d)))
    (he : starEach (e :: rest) env = (false, eval e env) :: starEach rest env := by with_unfolding_all rfl) : ARGS C A env pos (e :: rest) loc led K := fun s S =>
  spliced_more (wpAny_mono (h s S) (fun v s₁ ⟨_, _, k, S₁⟩ => wpAny_mono (k s₁ S₁) (fun vs s₂ ⟨l, d, k₂, S₂⟩ => ⟨l, d, k₂, S₂⟩) fun _ _ e => e) fun _ _ e => e) he

theorem R_Tuple {es : List Expr} {k : Nat} {pos : Pos} {K : Value → Loc → Led → Prop}
    (h : ARGS C A env pos es loc led (fun vs l d => vs.length ≤ sizeLine ∧ ∀ a, K (.ref a) l (.obj a (OTup vs) :: d))) : EV C A env (.Tuple es k pos) loc led K := fun s S =>
  Tuple_ (wpAny_mono (h s S) (fun vs s₁ ⟨l, d, ⟨hz, k⟩, S₁⟩ => by
    refine wpAny_newObj_type ⟨l, _, k _, S₁.push (o := { cls := .type "tuple", data := .seq vs.toArray }) ⟨_, _, rfl, by simp⟩ rfl rfl⟩ ?_
    show vs.toArray.size ≤ sizeLine; simpa [erL] using hz) fun _ _ e => e)
theorem R_List {es : List Expr} {pos : Pos} {K : Value → Loc → Led → Prop}
    (h : ARGS C A env pos es loc led (fun vs l d => vs.length ≤ sizeLine ∧ ∀ a, K (.ref a) l (.obj a (OList vs) :: d))) : EV C A env (.List es pos) loc led K := fun s S =>
  List_ (wpAny_mono (h s S) (fun vs s₁ ⟨l, d, ⟨hz, k⟩, S₁⟩ => by
    refine wpAny_newObj_type ⟨l, _, k _, S₁.push (o := { cls := .type "list", data := .seq vs.toArray }) ⟨_, _, rfl, by simp⟩ rfl rfl⟩ ?_
    show vs.toArray.size ≤ sizeLine; simpa [erL] using hz) fun _ _ e => e)

/-! ## unpacking a tuple -/
/-- assigning the values in turn to names -/
noncomputable def AIO (C : Cx) (A : Around) (env : Env) (ts : List (Value → Sem Unit)) (vs : List Value) (loc : Loc) (led : Led) (K : Loc → Led → Prop) : Prop :=
  ∀ vs', erL vs' = vs → Tri (fun _ : Unit => ()) C A env (assignInOrder ts vs') loc led (fun _ => K)
theorem AIO_nil {vs : List Value} {K : Loc → Led → Prop} (h : K loc led) : AIO C A env [] vs loc led K := fun vs' _ s S => by
  cases vs' <;> exact wpAny_pure ⟨_, _, h, S⟩
theorem AIO_cons {t : Value → Sem Unit} {ts : List (Value → Sem Unit)} {v : Value} {vs : List Value} {K : Loc → Led → Prop}
    (h : ∀ v', er v' = v → Tri (fun _ : Unit => ()) C A env (t v') loc led (fun _ l d => AIO C A env ts vs l d K)) : AIO C A env (t :: ts) (v :: vs) loc led K := fun vs' hv s S => by
  cases vs' with
  | nil => simp at hv
  | cons v' vs' =>
    simp only [List.map_cons, List.cons.injEq] at hv
    show wpAny _ _ (do holding vs' (t v'); assignInOrder ts vs') _ _ s
    exact wpAny_bind (wpAny_holding (wpAny_mono (h v' hv.1 s S) (fun _ s₁ ⟨_, _, k, S₁⟩ => k vs' hv.2 s₁ S₁) fun _ _ e => e))
theorem AIO_name {x : Str} {pos : Pos} {ts : List (Value → Sem Unit)} {v : Value} {vs : List Value} {K : Loc → Led → Prop}
    (h : SN C A env x v loc led (fun l d => AIO C A env ts vs l d K)) : AIO C A env (assign (.Name x pos) env :: ts) (v :: vs) loc led K :=
  AIO_cons fun v' hv s S => assign_Name (h v' hv s S)
theorem AIO_bind {x : Str} {ts : List (Value → Sem Unit)} {v : Value} {vs : List Value} {K : Loc → Led → Prop}
    (h : SN C A env x v loc led (fun l d => AIO C A env ts vs l d K)) : AIO C A env (bindName env x :: ts) (v :: vs) loc led K :=
  AIO_cons fun v' hv s S => bindName_ (h v' hv s S)

noncomputable def AIOE (C : Cx) (A : Around) (env : Env) (es : List Expr) (vs : List Value) (loc : Loc) (led : Led) (K : Loc → Led → Prop) : Prop := AIO C A env ((assignEach es env).map (·.2)) vs loc led K
theorem AIOE_nil {vs : List Value} {K : Loc → Led → Prop} (h : K loc led) : AIOE C A env [] vs loc led K := AIO_nil h
theorem AIOE_name {x : Str} {pos : Pos} {es : List Expr} {v : Value} {vs : List Value} {K : Loc → Led → Prop}
    (h : SN C A env x v loc led (fun l d => AIOE C A env es vs l d K)) : AIOE C A env (.Name x pos :: es) (v :: vs) loc led K := AIO_name (pos := pos) h

theorem OTup.isTup {h : Heap} {a : Addr} {o : Obj} {vs : List Value} (ho : h.get? a = some o) (hp : OTup vs o) : ∃ items : Array Value, IsTup h a items ∧ erL items.toList = vs := by
  obtain ⟨items, n, rfl, h3⟩ := hp
  exact ⟨items, ⟨_, ho, rfl, n, rfl⟩, h3⟩
theorem OList.isList {h : Heap} {a : Addr} {o : Obj} {vs : List Value} (ho : h.get? a = some o) (hp : OList vs o) : ∃ items : Array Value, h.IsList a items ∧ erL items.toList = vs := by
  obtain ⟨items, n, rfl, h3⟩ := hp
  exact ⟨items, ⟨_, ho, rfl, n, rfl⟩, h3⟩
theorem OList.dict {o : Obj} {vs : List Value} (hp : OList vs o) : o.dict = none := by
  obtain ⟨items, n, rfl, h3⟩ := hp; rfl

theorem X_AssignTup {elts : List Expr} {k : Nat} {tpos pos : Pos} {value : Expr} {K : Flow → Loc → Led → Prop} (hA : A.handled = none)
    (h : EV C A env value loc led (fun v l d => ∃ t vs, v = .ref t ∧ Ent.obj t (OTup vs) ∈ d ∧ elts.length = vs.length ∧ AIOE C A env elts vs l d (fun l d => K .next l d)))
    (hs : swapsWithSole [.Tuple elts k tpos] value pos.line env = pure false := by with_unfolding_all rfl)
    (hw : swappedStores [.Tuple elts k tpos] value env = pure none := by with_unfolding_all rfl)
    (hl : (assignEach elts env).length = elts.length := by with_unfolding_all rfl)
    (hstar : (assignEach elts env).findIdx? (·.1) = none := by with_unfolding_all rfl) :
    EX C A env (.Assign [.Tuple elts k tpos] value pos) loc led K := fun s S => by
  refine Assign_Tuple (wpAny_mono (h s S) (fun v s₁ ⟨l, d, ⟨t, vs, hv, hm, hn, k⟩, S₁⟩ => ?_) fun _ _ e => e) hs hw
  rw [er_is_ref hv]
  obtain ⟨o, ho, hp⟩ := S₁.get hm
  obtain ⟨items, hi, he⟩ := hp.isTup ho
  refine assign_Tuple_tuple hA hi (by rw [hl, hn, ← he]; simp) hstar fun h' hx => ?_
  exact wpAny_mono (k items.toList he _ (S₁.ext (s' := { s₁ with heap := h' }) (keeps_extBut hx) rfl rfl)) (fun _ _ x => x) fun _ _ e => e

theorem X_AssignTup_swapped {elts : List Expr} {k : Nat} {tpos pos : Pos} {value : Expr} {K : Flow → Loc → Led → Prop} {names : List Str} (hA : A.handled = none)
    (hw : swappedStores [.Tuple elts k tpos] value env = pure (some names))
    (h : EV C A env value loc led (fun v l d => ∃ t vs, v = .ref t ∧ Ent.obj t (OTup vs) ∈ d ∧ names.length = vs.length ∧ AIO C A env (names.reverse.map fun n => bindName env n) vs.reverse l d (fun l d => K .next l d)))
    (hs : swapsWithSole [.Tuple elts k tpos] value pos.line env = pure false := by with_unfolding_all rfl) :
    EX C A env (.Assign [.Tuple elts k tpos] value pos) loc led K := fun s S => by
  refine Assign_Tuple_swapped (wpAny_mono (h s S) (fun v s₁ ⟨l, d, ⟨t, vs, hv, hm, hn, k⟩, S₁⟩ => ?_) fun _ _ e => e) hs hw
  rw [er_is_ref hv]
  obtain ⟨o, ho, hp⟩ := S₁.get hm
  obtain ⟨items, hi, he⟩ := hp.isTup ho
  rw [hn, show vs.length = items.size by rw [← he]; simp]
  refine unpackItems_tuple hA hi fun h' hx => ?_
  exact wpAny_mono (k items.toList.reverse (by simp [erL, ← he]) _ (S₁.ext (s' := { s₁ with heap := h' }) (keeps_extBut hx) rfl rfl)) (fun _ _ x => x) fun _ _ e => e

theorem X_AssignTup_swapped2 {elts : List Expr} {k : Nat} {tpos pos : Pos} {value : Expr} {K : Flow → Loc → Led → Prop} {x y : Str} (hA : A.handled = none)
    (hw : swappedStores [.Tuple elts k tpos] value env = pure (some [x, y]))
    (h : EV C A env value loc led (fun v l d => ∃ t u w, v = .ref t ∧ Ent.obj t (OTup [u, w]) ∈ d ∧ SN C A env y w l d (fun l d => SN C A env x u l d (fun l d => K .next l d))))
    (hs : swapsWithSole [.Tuple elts k tpos] value pos.line env = pure false := by with_unfolding_all rfl) :
    EX C A env (.Assign [.Tuple elts k tpos] value pos) loc led K :=
  X_AssignTup_swapped hA hw (h.mono fun v l d ⟨t, u, w, h1, h2, h3⟩ => ⟨t, [u, w], h1, h2, rfl, AIO_bind fun v' hv => (h3 v' hv).mono fun _ l d h4 => AIO_bind fun v' hv => (h4 v' hv).mono fun _ l d h5 => AIO_nil h5⟩) hs
end
end
section
set_option maxRecDepth 100000
set_option linter.unusedVariables false
/-! ## parts of the ledger -/
noncomputable def Pick (e : Ent) (d d' : Led) : Prop := d.Perm (e :: d')
theorem Pick.hit {e : Ent} {d : Led} : Pick e (e :: d) d := List.Perm.refl _
theorem Pick.miss {e x : Ent} {d d' : Led} (h : Pick e d d') : Pick e (x :: d) (x :: d') :=
  (List.Perm.cons x h).trans (List.Perm.swap e x d')
noncomputable def Sub (d d' : Led) : Prop := ∃ r, (d ++ r).Perm d'
theorem Sub.refl {d : Led} : Sub d d := ⟨[], by simp⟩
theorem Sub.nil {d : Led} : Sub [] d := ⟨d, by simp⟩
theorem Sub.skip {d d' : Led} {e : Ent} (h : Sub d d') : Sub d (e :: d') := by
  obtain ⟨r, h⟩ := h
  exact ⟨e :: r, (List.perm_middle).trans (List.Perm.cons e h)⟩
theorem Sub.pick {d d' d'' : Led} {e : Ent} (hp : Pick e d' d'') (h : Sub d d'') : Sub (e :: d) d' := by
  obtain ⟨r, h⟩ := h
  exact ⟨r, (List.Perm.cons e h).trans (List.Perm.symm hp)⟩
theorem Sub.cons {d d' : Led} {e : Ent} (h : Sub d d') : Sub (e :: d) (e :: d') := Sub.pick Pick.hit h
theorem Sub.mem {d d' : Led} (h : Sub d d') : ∀ e ∈ d, e ∈ d' := fun e he => by
  obtain ⟨r, h⟩ := h
  exact h.subset (List.mem_append_left _ he)
theorem Sub.nodup {d d' : Led} (h : Sub d d') (hn : (keys d').Nodup) : (keys d).Nodup := by
  obtain ⟨r, h⟩ := h
  have := (h.filterMap Ent.key).nodup_iff.mpr hn
  rw [List.filterMap_append] at this
  exact (List.nodup_append.mp this).1
theorem Sub.trans {a b c : Led} (h : Sub a b) (h' : Sub b c) : Sub a c := by
  obtain ⟨r, h⟩ := h; obtain ⟨r', h'⟩ := h'
  exact ⟨r ++ r', by rw [← List.append_assoc]; exact (List.Perm.append_right r' h).trans h'⟩

section
variable {C : Cx} {A : Around} {env : Env} {loc : Loc} {led : Led} {gl : List (Str × Value)} {cl : List (Str × Addr)}

theorem St.drop {s : Shared} {led' : Led} (S : St C env loc led s) (h : Sub led' led) : St C env loc led' s := S.sub h.mem (h.nodup S.nd)

/-! ## calls -/
noncomputable def CallT (C : Cx) (A : Around) (env : Env) (f : Value) (args : List Value) (loc : Loc) (led : Led) (K : Value → Loc → Led → Prop) : Prop :=
  ∀ args', erL args' = args → Tri er C A env (call f args') loc led K
noncomputable def APP (C : Cx) (A : Around) (env : Env) (pos : Pos) (f : Value) (args : List Expr) (loc : Loc) (led : Led) (K : Value → Loc → Led → Prop) : Prop :=
  ∀ f', er f' = f → Tri er C A env (callWith pos f' [] (backTo pos (starEach args env)) []) loc led K

theorem R_Call {func : Expr} {args : List Expr} {pos : Pos} {K : Value → Loc → Led → Prop}
    (h : EV C A env func loc led (fun f l d => APP C A env pos f args l d K))
    (he : eval (.Call func args [] pos) env = (do callWith pos (← eval func env) [] (backTo pos (starEach args env)) (backToKw pos (keywordEach [] env))) := by with_unfolding_all rfl) :
    EV C A env (.Call func args [] pos) loc led K := fun s S =>
  Call_ (wpAny_mono (h s S) (fun f s₁ ⟨_, _, k, S₁⟩ => k f rfl s₁ S₁) fun _ _ e => e) he

theorem args_split {e : Expr} {rest : List Expr} {pos : Pos} (he : starEach (e :: rest) env = (false, eval e env) :: starEach rest env) :
    backTo pos (starEach (e :: rest) env) = (false, eval e env) :: backTo pos (starEach rest env) := by rw [he]; rfl

theorem APP_builtin {pos : Pos} {id : String} {e : Expr} {rest : List Expr} {K : Value → Loc → Led → Prop}
    (h : ARGS C A env pos (e :: rest) loc led (fun vs l d => CallT C A env (.builtin id) vs l d K))
    (he : starEach (e :: rest) env = (false, eval e env) :: starEach rest env := by with_unfolding_all rfl)
    (hp : (backTo pos (starEach rest env)).any (·.1) = false := by with_unfolding_all rfl) : APP C A env pos (.builtin id) (e :: rest) loc led K := fun f hf s S => by
  rw [er_is_builtin hf]
  have h' := h s S
  rw [args_split he] at h' ⊢
  exact callWith_builtin (by show (false || _) = false; rw [hp]; rfl) (evalArgs_plain (wpAny_mono h' (fun vs s₁ ⟨_, _, k, S₁⟩ => k vs rfl s₁ S₁) fun _ _ e => e))
theorem APP_type {pos : Pos} {id : String} {e : Expr} {rest : List Expr} {K : Value → Loc → Led → Prop}
    (h : ARGS C A env pos (e :: rest) loc led (fun vs l d => CallT C A env (.type id) vs l d K))
    (he : starEach (e :: rest) env = (false, eval e env) :: starEach rest env := by with_unfolding_all rfl)
    (hp : (backTo pos (starEach rest env)).any (·.1) = false := by with_unfolding_all rfl) : APP C A env pos (.type id) (e :: rest) loc led K := fun f hf s S => by
  rw [er_is_type hf]
  have h' := h s S
  rw [args_split he] at h' ⊢
  exact PySem.callWith_type (by show (false || _) = false; rw [hp]; rfl) (evalArgs_plain (wpAny_mono h' (fun vs s₁ ⟨_, _, k, S₁⟩ => k vs rfl s₁ S₁) fun _ _ e => e))
theorem APP_type0 {pos : Pos} {id : String} {K : Value → Loc → Led → Prop}
    (h : CallT C A env (.type id) [] loc led K) : APP C A env pos (.type id) [] loc led K := fun f hf s S => by
  rw [er_is_type hf]
  exact callWith_type0 (h [] rfl s S)

noncomputable def IsFn (o : Obj) : Prop := ∃ fd, o.data = .func fd
theorem APP_fn {pos : Pos} {a : Addr} {e : Expr} {rest : List Expr} {K : Value → Loc → Led → Prop} (hof : ∃ o, C.h₀.get? a = some o ∧ IsFn o)
    (h : ARGS C A env pos (e :: rest) loc led (fun vs l d => CallT C A env (.ref a) vs l d K))
    (he : starEach (e :: rest) env = (false, eval e env) :: starEach rest env := by with_unfolding_all rfl) : APP C A env pos (.ref a) (e :: rest) loc led K := fun f hfr s S => by
  rw [er_is_ref hfr]
  obtain ⟨o, ho, fd, hd⟩ := hof
  have h' := h s S
  rw [args_split he] at h' ⊢
  exact callWith_function (evalArgs_plain (wpAny_mono h' (fun vs s₁ ⟨_, _, k, S₁⟩ => ⟨⟨S₁.keep _ _ ho, hd⟩, k vs rfl s₁ S₁⟩) fun _ _ e => e))
theorem APP_clo {pos : Pos} {a : Addr} {e : Expr} {rest : List Expr} {K : Value → Loc → Led → Prop}
    (h : ARGS C A env pos (e :: rest) loc led (fun vs l d => (∃ P, Ent.obj a P ∈ d ∧ ∀ o, P o → IsFn o) ∧ CallT C A env (.ref a) vs l d K))
    (he : starEach (e :: rest) env = (false, eval e env) :: starEach rest env := by with_unfolding_all rfl) : APP C A env pos (.ref a) (e :: rest) loc led K := fun f hfr s S => by
  rw [er_is_ref hfr]
  have h' := h s S
  rw [args_split he] at h' ⊢
  have hw : ∀ (vs : List Value) (s₁ : Shared), (∃ loc' led', ((∃ P, Ent.obj a P ∈ led' ∧ ∀ o, P o → IsFn o) ∧ CallT C A env (.ref a) (erL vs) loc' led' K) ∧ St C env loc' led' s₁) →
      ∃ o fd, (s₁.heap.get? a = some o ∧ o.data = .func fd) ∧ wpAny C.M A (call (.ref a) vs) (fun v s' => ∃ loc' led', K (er v) loc' led' ∧ St C env loc' led' s') (fun _ _ => False) s₁ := by
    rintro vs s₁ ⟨_, _, ⟨⟨P, hm, hP⟩, k⟩, S₁⟩
    obtain ⟨o, ho, hp⟩ := S₁.get hm
    obtain ⟨fd, hd⟩ := hP o hp
    exact ⟨o, fd, ⟨ho, hd⟩, k vs rfl s₁ S₁⟩
  unfold callWith
  refine wpAny_bind (wpAny_holding (evalArgs_plain (wpAny_mono h' (fun vs s₁ h₁ => wpAny_bind (wpAny_standAt ?_)) fun _ _ e => e)))
  obtain ⟨o, fd, ⟨ho, hd⟩, k⟩ := hw vs s₁ h₁
  have tail : ∀ {t : Sem Value}, wpAny C.M A t (fun v s' => ∃ loc' led', K (er v) loc' led' ∧ St C env loc' led' s') (fun _ _ => False) s₁ →
      wpAny C.M A (t >>= fun r => holding [r] point >>= fun _ => pure r) (fun v s' => ∃ loc' led', K (er v) loc' led' ∧ St C env loc' led' s') (fun _ _ => False) s₁ :=
    fun ht => wpAny_bind (wpAny_mono ht (fun r s₂ hr => wpAny_bind (wpAny_holding (wpAny_point (wpAny_pure hr)))) fun _ _ x => x)
  refine wpAny_bind (m := keeperOf (.ref a)) ?_
  unfold keeperOf
  refine wpAny_bind (wpAny_load ho ?_)
  rw [hd]
  refine wpAny_pure ?_
  cases hs : (((false, eval e env) :: backTo pos (starEach rest env)).any (·.1) || ([] : List (Option Str × Sem Value)).any (·.1.isNone)) with
  | true => exact tail (wpAny_keep k)
  | false =>
    dsimp only
    split
    · exact tail k
    · exact tail (wpAny_keep k)

/-! ## the entry into a def -/
noncomputable def OLoc (loc : Loc) : Obj → Prop := fun o => ∃ (es : Array DictEntry) (ep : Nat) (m : Str → Option Value), o.data = .dict es ep ∧ StrKeys es ∧ (∀ name : Str, nsFind es name = m name) ∧ ∀ p ∈ loc, Option.map er (m p.1) = p.2

theorem St.enter {s s' : Shared} {env' : Env} {loc' : Loc} {m' : Str → Option Value} (S : St C env loc led s) (hk : ∀ b o, s.heap.get? b = some o → s'.heap.get? b = some o)
    (hL : env'.locals = s.heap.objs.size) (hn : s'.heap.Ns env'.locals m') (hm : ∀ p ∈ loc', (m' p.1).map er = p.2) (hf : env'.scope.kind = .function) (hnd : (loc'.map (·.1)).Nodup)
    (hki : ∀ p ∈ loc', env'.kindOf p.1 = some .local ∧ (p.1 == ("__debug__" : Str)) = false) (hg : s'.gens = s.gens) (ho : s'.os = s.os) :
    St C env' loc' (.obj env.locals (OLoc loc) :: led) s' := by
  obtain ⟨m, F, hm0⟩ := S.fr
  have hlt := S.lt
  have hsz : C.h₀.objs.size ≤ env'.locals := hL ▸ Nat.le_trans S.above (Nat.le_of_lt hlt)
  refine ⟨S.ok, ⟨m', ⟨hn, fun b o e => hk _ _ (F.keep b o e), hsz⟩, hm⟩, hf, hnd, hki, fun e he => ?_, ?_, ho.trans S.os, hg ▸ S.bare, fun q hq => (S.tabs q hq).keeps hk⟩
  · rcases List.mem_cons.mp he with rfl | he
    · obtain ⟨o, es, ep, e1, e2, e3, e4⟩ := F.ns
      exact ⟨o, hk _ _ e1, ⟨es, ep, m, e2, e3, e4, hm0⟩, S.above, by rw [hL]; exact Nat.ne_of_lt hlt, .inr fun vs e => by rw [e2] at e; cases e⟩
    · have := S.all e he
      cases e with
      | obj a P =>
        obtain ⟨o, h1, h2, h3, h4, h5⟩ := this
        exact ⟨o, hk _ _ h1, h2, h3, by rw [hL]; exact Nat.ne_of_lt (Heap.lt_size h1), h5⟩
      | gen g P => obtain ⟨st, h1, h2⟩ := this; exact ⟨st, hg ▸ h1, h2⟩
      | code v q => exact CodeRecC.keeps this hk
  · rw [keys_obj, List.nodup_cons]
    refine ⟨fun q => ?_, S.nd⟩
    obtain ⟨x, hx, e⟩ := List.mem_filterMap.mp q
    have := S.all x hx
    cases x with
    | obj a P =>
      obtain ⟨o, h1, h2, h3, h4, _⟩ := this
      simp only [Ent.key, Option.some.injEq, Prod.mk.injEq, true_and] at e
      exact h4 e
    | gen g P => simp [Ent.key] at e
    | code v q => simp [Ent.key] at e

theorem St.leave {s s' : Shared} {env' : Env} {loc' : Loc} {led' d : Led} (S : St C env loc led s) (S' : St C env' loc' led' s') (h : Sub (.obj env.locals (OLoc loc) :: d) led') : St C env loc d s' := by
  have S₂ := S'.drop h
  obtain ⟨o, h1, ⟨es, ep, m, e1, e2, e3, e4⟩, h3, h4⟩ := S₂.all _ List.mem_cons_self
  obtain ⟨m', F', _⟩ := S'.fr
  have nd := S₂.nd
  rw [keys_obj, List.nodup_cons] at nd
  refine ⟨S.ok, ⟨m, ⟨⟨o, es, ep, h1, e1, e2, e3⟩, F'.keep, S.above⟩, e4⟩, S.fn, S.lnd, S.kinds, fun e he => ?_, nd.2, S'.os, S'.bare, S'.tabs⟩
  have := S₂.all e (List.mem_cons_of_mem _ he)
  cases e with
  | obj a P =>
    obtain ⟨o, q1, q2, q3, q4, q5⟩ := this
    exact ⟨o, q1, q2, q3, fun q => nd.1 (keys_mem he (by rw [q]; rfl)), q5⟩
  | gen g P => exact this
  | code v q => exact this

noncomputable def fenv (fd : FuncData) (L f : Addr) : Env :=
  { scope := fd.scope, locals := L, globals := fd.globals, cells := fd.closure, qual := fd.qualname ++ ".<locals>.", func := some f, code := fd.code, frame := some L, builtins := fd.builtins }

noncomputable def retOf : Flow → Value
  | .ret v => v
  | _ => .none
theorem er_retOf (f : Flow) : er (retOf f) = retOf (erF f) := by cases f <;> rfl

theorem lookup_rev_mem {binds : List (Str × Value)} {x : Str} {v : Value} (hn : (binds.map (·.1)).Nodup) (h : (x, v) ∈ binds) : binds.reverse.lookup x = some v := by
  have hn' : (binds.reverse.map (·.1)).Nodup := by rw [List.map_reverse]; exact (List.reverse_perm _).nodup_iff.mpr hn
  have hm : (x, v) ∈ binds.reverse := List.mem_reverse.mpr h
  generalize binds.reverse = l at hn' hm
  induction l with
  | nil => cases hm
  | cons p l ih =>
    rw [List.map_cons, List.nodup_cons] at hn'
    rcases List.mem_cons.mp hm with rfl | hm
    · simp
    · rw [List.lookup_cons]
      have : (x == p.1) = false := by
        cases hb : x == p.1 with
        | false => rfl
        | true => exact absurd (List.mem_map.mpr ⟨_, hm, eq_of_beq hb⟩) hn'.1
      rw [this]; exact ih hn'.2 hm
theorem lookup_rev_none {binds : List (Str × Value)} {x : Str} (h : x ∉ binds.map (·.1)) : binds.reverse.lookup x = none := by
  have h' : x ∉ binds.reverse.map (·.1) := by rw [List.map_reverse]; simpa using h
  generalize binds.reverse = l at h'
  induction l with
  | nil => rfl
  | cons p l ih =>
    rw [List.map_cons, List.mem_cons, not_or] at h'
    rw [List.lookup_cons, beq_eq_false_iff_ne.mpr h'.1]; exact ih h'.2

structure FnOk (C : Cx) (env : Env) (loc : Loc) (led : Led) (f : Addr) (fd : FuncData) (body : List Stmt) : Prop where
  get : ∀ s, St C env loc led s → ∃ o, s.heap.get? f = some o ∧ o.data = .func fd
  code : ∀ s, St C env loc led s → s.heap.CodeRec fd.code fd.qualname
  co : fd.scope.isCoroutine = false
  gen : fd.scope.isGenerator = false
  kind : fd.scope.kind = .function
  body : fd.body = .stmts body

theorem C_plain {f : Addr} {fd : FuncData} {body : List Stmt} {args : List Value} {K : Value → Loc → Led → Prop} {loc' : Loc} {pn : List Str}
    (hd : A.depth < 1000) (F : FnOk C env loc led f fd body) (hcell : (fd.scope.names.all fun x => x.2 != .cell) = true)
    (hbind : ∀ args', erL args' = args → ∀ s, St C env loc led s → BindsTo s fd ⟨args', []⟩ (pn.zip args'))
    (hlen : pn.length = args.length) (hpn : pn.Nodup)
    (hloc : ∀ p ∈ loc', (p ∈ pn.zip (args.map some)) ∨ (p.1 ∉ pn ∧ p.2 = none)) (hloc2 : ∀ x ∈ pn, fd.scope.names.lookup x = some .local)
    (hnd : (loc'.map (·.1)).Nodup) (hki : ∀ p ∈ loc', fd.scope.names.lookup p.1 = some .local ∧ (p.1 == ("__debug__" : Str)) = false)
    (h : ∀ L, EXS C (A.deeper (fenv fd L f)) (fenv fd L f) body loc' (.obj env.locals (OLoc loc) :: led) (fun fl l d => ∃ d', Sub (.obj env.locals (OLoc loc) :: d') d ∧ K (retOf fl) loc d')) :
    CallT C A env (.ref f) args loc led K := fun args' ha s S => by
  obtain ⟨o, ho, hdata⟩ := F.get s S
  refine wpAny_call (codeAny_call_function hd ho hdata F.co F.gen F.body (F.code s S) ?_)
  refine hbind args' ha s S _ _ _ _ ?_
  have hzip : (pn.zip args').map (·.1) = pn := by
    rw [List.map_fst_zip]; rw [hlen, ← ha]; simp
  refine wpAny_newFunctionEnv ?_ ?_ (fun h₁ hns hsb => ⟨(S.ok.nolimit.keeps S.keep).fresh _ hsb, ?_⟩) F.kind
  · intro x hx; exact of_decide_eq_true (by have := List.all_eq_true.mp hcell x hx; simpa using this)
  · intro x hx; exact hloc2 _ (hzip ▸ List.mem_map_of_mem hx)
  refine codeAny_func ?_
  have key : St C (fenv fd s.heap.objs.size f) loc' (.obj env.locals (OLoc loc) :: led) { s with heap := h₁, toks := s.toks + (pn.zip args').length } := by
    refine S.enter (fun b o e => hsb.extBut b o (Nat.ne_of_lt (Heap.lt_size e)) (Heap.get?_push_of_some _ e)) rfl hns (fun p hp => ?_) F.kind hnd hki rfl rfl
    rcases hloc p hp with hp' | ⟨hp1, hp2⟩
    · have : ∃ v, (p.1, v) ∈ pn.zip args' ∧ some (er v) = p.2 := by
        rw [← ha, show (erL args').map some = args'.map (fun v => some (er v)) by simp [erL], List.zip_map_right] at hp'
        obtain ⟨q, hq, e⟩ := List.mem_map.mp hp'
        rw [← e]; exact ⟨q.2, hq, rfl⟩
      obtain ⟨v, hv, e⟩ := this
      rw [lookup_rev_mem (by rw [hzip]; exact hpn) hv]; exact e
    · rw [lookup_rev_none (by rw [hzip]; exact hp1), hp2]; rfl
  refine wpAny_mono (h s.heap.objs.size _ key) (fun fl s' ⟨l, d, ⟨d', hs, k⟩, S'⟩ => ?_) fun _ _ x => x.elim
  refine ⟨loc, d', ?_, S.leave S' hs⟩
  cases fl <;> exact k

/-- the same, its looks by computation -/
theorem C_def {f : Addr} {fd : FuncData} {body : List Stmt} {args : List Value} {K : Value → Loc → Led → Prop} {loc' : Loc} (pn rest : List Str)
    (hd : A.depth < 1000) (F : FnOk C env loc led f fd body)
    (hbind : ∀ args', erL args' = args → ∀ s, St C env loc led s → BindsTo s fd ⟨args', []⟩ (pn.zip args'))
    (hlen : pn.length = args.length) (hloc : loc' = pn.zip (args.map some) ++ rest.map (fun x => (x, none)))
    (hck : (fd.scope.names.all (fun x => x.2 != .cell) && decide ((pn ++ rest).Nodup) && (pn ++ rest).all (fun x => fd.scope.names.lookup x == some .local && !(x == ("__debug__" : Str)))) = true)
    (h : ∀ L, EXS C (A.deeper (fenv fd L f)) (fenv fd L f) body loc' (.obj env.locals (OLoc loc) :: led) (fun fl l d => ∃ d', Sub (.obj env.locals (OLoc loc) :: d') d ∧ K (retOf fl) loc d')) :
    CallT C A env (.ref f) args loc led K := by
  simp only [Bool.and_eq_true, decide_eq_true_eq] at hck
  obtain ⟨⟨hc, hn⟩, ha⟩ := hck
  have ha' : ∀ x ∈ pn ++ rest, fd.scope.names.lookup x = some .local ∧ (x == ("__debug__" : Str)) = false := fun x hx => by
    have := List.all_eq_true.mp ha x hx
    simp only [Bool.and_eq_true, beq_iff_eq, Bool.not_eq_true'] at this
    exact ⟨this.1, this.2⟩
  have hfst : loc'.map (·.1) = pn ++ rest := by
    rw [hloc, List.map_append, List.map_fst_zip (by rw [hlen]; simp)]
    simp [Function.comp_def]
  refine C_plain hd F hc hbind hlen (List.nodup_append.mp hn).1 (fun p hp => ?_) (fun x hx => (ha' x (List.mem_append_left _ hx)).1) (by rw [hfst]; exact hn) (fun p hp => ha' p.1 (by rw [← hfst]; exact List.mem_map_of_mem hp)) h
  rw [hloc] at hp
  rcases List.mem_append.mp hp with hp | hp
  · exact .inl hp
  · obtain ⟨x, hx, rfl⟩ := List.mem_map.mp hp
    exact .inr ⟨fun q => (List.nodup_append.mp hn).2.2 _ q _ hx rfl, rfl⟩

theorem len0 {α : Type} {l : List α} (h : l.length = 0) : l = [] := List.eq_nil_of_length_eq_zero h
theorem lenS {α : Type} {l : List α} {n : Nat} (h : l.length = n + 1) : ∃ a t, l = a :: t ∧ t.length = n := by
  cases l with
  | nil => cases h
  | cons a t => exact ⟨a, t, rfl, Nat.succ.inj h⟩
theorem erL_len {vs l : List Value} (h : erL vs = l) : vs.length = l.length := by rw [← h]; unfold erL; rw [List.length_map]
theorem erL1 {vs : List Value} {a : Value} (h : erL vs = [a]) : ∃ x, vs = [x] := by
  obtain ⟨x, t, e, h1⟩ := lenS (erL_len h)
  exact ⟨x, by rw [e, len0 h1]⟩
theorem erL2 {vs : List Value} {a b : Value} (h : erL vs = [a, b]) : ∃ x y, vs = [x, y] := by
  obtain ⟨x, t, e, h1⟩ := lenS (erL_len h)
  obtain ⟨y, t2, e2, h2⟩ := lenS h1
  exact ⟨x, y, by rw [e, e2, len0 h2]⟩
theorem erL3 {vs : List Value} {a b c : Value} (h : erL vs = [a, b, c]) : ∃ x y z, vs = [x, y, z] := by
  obtain ⟨x, t, e, h1⟩ := lenS (erL_len h)
  obtain ⟨y, t2, e2, h2⟩ := lenS h1
  obtain ⟨z, t3, e3, h3⟩ := lenS h2
  exact ⟨x, y, z, by rw [e, e2, e3, len0 h3]⟩
theorem erL6 {vs : List Value} {a b c d e f : Value} (h : erL vs = [a, b, c, d, e, f]) : ∃ u v w x y z, vs = [u, v, w, x, y, z] := by
  obtain ⟨u, t, e, h1⟩ := lenS (erL_len h)
  obtain ⟨v, t2, e2, h2⟩ := lenS h1
  obtain ⟨w, t3, e3, h3⟩ := lenS h2
  obtain ⟨x, t4, e4, h4⟩ := lenS h3
  obtain ⟨y, t5, e5, h5⟩ := lenS h4
  obtain ⟨z, t6, e6, h6⟩ := lenS h5
  exact ⟨u, v, w, x, y, z, by rw [e, e2, e3, e4, e5, e6, len0 h6]⟩

theorem Fit.lt {A : Around} {n : Nat} (h : Fit A (n + 1)) : A.depth < 1000 := by have := h.dep; omega
theorem Fit.deeper {A : Around} {n : Nat} {env : Env} (h : Fit A (n + 1)) : Fit (A.deeper env) n :=
  ⟨by have := h.dep; show A.depth + 1 + n ≤ 1000; omega, by have := h.un; show A.units + 3 + 20 * n ≤ 9900; omega, h.hd⟩
end
end
section
set_option maxRecDepth 100000
noncomputable def stAt (i : Nat) : Stmt := PySem.Challenge.pw_ph0152_01.main.body.getD i (.Pass default)
noncomputable def view : Program := { PySem.Challenge.pw_ph0152_01 with main := { PySem.Challenge.pw_ph0152_01.main with body := [2, 3, 4, 5, 6, 7, 8, 9, 10, 12, 13, 14, 16, 17, 18, 19].map stAt } }
noncomputable def en (P : Params) (n : Str) (t : Tok) (v : Value) : DictEntry := ⟨PyData.keyHash P n, .str n t, v⟩
noncomputable def cdObj (n : Str) (t : Tok) (line argc flags : Int) (v8 v11 v13 v14 v15 : Value) (i : Int) (t' : Tok) : Obj :=
  ⟨.type "code", none, .fields #[.str n t, .str n (t + 1), .str "/claim/cut.py" (t + 2), .int line 0, .int argc 0, .int 0 0, .int 0 0, .int flags 0, v8, .bool true, .int 181 0, v11, .none, v13, v14, v15, .int i 0, .int line 0, .str "/claim/cut.py" t'], #[]⟩
noncomputable def fnObj (st : Stmt) (c : Addr) (dV pm : Value) : Obj := match st with
  | .FunctionDef n ps body _ _ _ sc _ _ _ => ⟨.type "function", none, .func ⟨n, n, ps, .stmts body, sc, 3, [], dV, .none, .none, pm, none, .ref c, .none, 0⟩, #[]⟩
  | _ => ⟨.none, none, .plain, #[]⟩
noncomputable def hpK (P : Params) : Frag := [
  (3, ⟨.type "dict", none, .dict #[en P "__name__" 165 (.str "law_ph0152_01" 328), en P "__doc__" 166 (.none), en P "__package__" 167 (.none), en P "__loader__" 168 (.builtin "__main__.__loader__#opaque"), en P "__spec__" 169 (.none), en P "__annotations__" 170 (.ref 6), en P "__builtins__" 171 (.ref 4), en P "__file__" 173 (.str "/claim/cut.py" 172), en P "__cached__" 174 (.none), en P "compute_powers" 208 (.ref 22), en P "_str_to_int_inner" 219 (.ref 29), en P "int_from_string" 226 (.ref 36), en P "_DIV_LIMIT" 228 (.int 4000 227), en P "_div2n1n" 245 (.ref 43), en P "_div3n2n" 259 (.ref 50), en P "_int2digits" 270 (.ref 57), en P "_digits2int" 281 (.ref 64), en P "_divmod_pos" 296 (.ref 71), en P "int_divmod" 306 (.ref 78), en P "_strcoll" 316 (.ref 85), en P "CHAR_MAX" 318 (.int 127 317), en P "_grouping_intervals" 327 (.ref 92), en P "_law_cell" 338 (.ref 99), en P "_law_groups" 349 (.ref 106), en P "_law_divided" 363 (.ref 113), en P "law" 369 (.ref 118)] 26, #[]⟩),
  (15, ⟨.type "tuple", none, .seq #[.bool false], #[]⟩),
  (21, cdObj "compute_powers" 189 2 4 3 (.ref 16) (.ref 17) (.ref 18) (.ref 19) (.ref 20) 206 207),
  (22, fnObj (stAt 1) 21 (.ref 15) (.str "cpy313._pylong" 187)),
  (28, cdObj "_str_to_int_inner" 209 43 1 3 (.ref 23) (.ref 24) (.ref 25) (.ref 26) (.ref 27) 217 218),
  (29, fnObj (stAt 2) 28 (.none) (.str "cpy313._pylong" 187)),
  (35, cdObj "int_from_string" 220 53 1 3 (.ref 30) (.ref 31) (.ref 32) (.ref 33) (.ref 34) 224 225),
  (36, fnObj (stAt 3) 35 (.none) (.str "cpy313._pylong" 187)),
  (42, cdObj "_div2n1n" 229 57 3 3 (.ref 37) (.ref 38) (.ref 39) (.ref 40) (.ref 41) 243 244),
  (43, fnObj (stAt 5) 42 (.none) (.str "cpy313._pylong" 187)),
  (49, cdObj "_div3n2n" 246 73 6 3 (.ref 44) (.ref 45) (.ref 46) (.ref 47) (.ref 48) 257 258),
  (50, fnObj (stAt 6) 49 (.none) (.str "cpy313._pylong" 187)),
  (56, cdObj "_int2digits" 260 83 2 3 (.ref 51) (.ref 52) (.ref 53) (.ref 54) (.ref 55) 268 269),
  (57, fnObj (stAt 7) 56 (.none) (.str "cpy313._pylong" 187)),
  (63, cdObj "_digits2int" 271 99 2 3 (.ref 58) (.ref 59) (.ref 60) (.ref 61) (.ref 62) 279 280),
  (64, fnObj (stAt 8) 63 (.none) (.str "cpy313._pylong" 187)),
  (70, cdObj "_divmod_pos" 282 108 2 3 (.ref 65) (.ref 66) (.ref 67) (.ref 68) (.ref 69) 294 295),
  (71, fnObj (stAt 9) 70 (.none) (.str "cpy313._pylong" 187)),
  (77, cdObj "int_divmod" 297 119 2 3 (.ref 72) (.ref 73) (.ref 74) (.ref 75) (.ref 76) 304 305),
  (78, fnObj (stAt 10) 77 (.none) (.str "cpy313._pylong" 187)),
  (84, cdObj "_strcoll" 309 131 2 3 (.ref 79) (.ref 80) (.ref 81) (.ref 82) (.ref 83) 314 315),
  (85, fnObj (stAt 12) 84 (.none) (.str "cpy313.locale" 307)),
  (91, cdObj "_grouping_intervals" 319 134 1 35 (.ref 86) (.ref 87) (.ref 88) (.ref 89) (.ref 90) 325 326),
  (92, fnObj (stAt 14) 91 (.none) (.str "cpy313.locale" 307)),
  (98, cdObj "_law_cell" 330 147 3 3 (.ref 93) (.ref 94) (.ref 95) (.ref 96) (.ref 97) 336 337),
  (99, fnObj (stAt 16) 98 (.none) (.str "law_ph0152_01" 328)),
  (105, cdObj "_law_groups" 339 151 2 3 (.ref 100) (.ref 101) (.ref 102) (.ref 103) (.ref 104) 347 348),
  (106, fnObj (stAt 17) 105 (.none) (.str "law_ph0152_01" 328)),
  (112, cdObj "_law_divided" 350 161 2 3 (.ref 107) (.ref 108) (.ref 109) (.ref 110) (.ref 111) 361 362),
  (113, fnObj (stAt 18) 112 (.none) (.str "law_ph0152_01" 328)),
  (117, cdObj "law" 364 171 1 3 (.ref 114) (.ref 115) (.none) (.none) (.ref 116) 367 368),
  (118, fnObj (stAt 19) 117 (.none) (.str "law_ph0152_01" 328))]
noncomputable def hpA : List Addr := [3, 15, 21, 22, 28, 29, 35, 36, 42, 43, 49, 50, 56, 57, 63, 64, 70, 71, 77, 78, 84, 85, 91, 92, 98, 99, 105, 106, 112, 113, 117, 118]
noncomputable def lawTabs : List Addr := [59, 52, 24]
noncomputable abbrev lawHook : Hook := kmHook hpK hpA (fun _ => by kernel_rfl) lawTabs
noncomputable abbrev lawX (s : Shared) : Bool := xlAt view [] s && recOk (RowW.records PySem.Challenge.rw_ph0152_01.row.toRowW) s
theorem LeftO.of_boot {p q : Program} {loose : List Str} {Xt : Shared → Bool} {α : Type} {Yf : Shared → α} {Ya : World → α} {N : Nat} (e : opening p = plainProg p.main.scope.names) (hN : Nat.ble 600 N = true) (f : ∀ s, fenceModules? p s = some s)
    (h : ∀ (w : World) (os : OsState), (topFrom treeTable p w N ⟨boot_heap w.params, Array.mk [], boot_drawn, boot_toks, os⟩).map (fun s => (openSeen q loose (importedModules p.main.body) Xt true s, Yf s)) = some (openGood q loose, Ya w)) : LeftO p q loose Xt Yf Ya N := fun w => by
  obtain ⟨⟨hp, gs, d, k, os⟩, e1, e'⟩ := Option.map_eq_some_iff.mp (boot_open e hN f w)
  obtain ⟨rfl, rfl, rfl, rfl⟩ : hp = boot_heap w.params ∧ gs = Array.mk [] ∧ d = boot_drawn ∧ k = boot_toks := by simpa using e'
  unfold openEnds
  rw [e1]
  exact h w os
set_option maxHeartbeats 4000000 in
theorem law_run : ∀ (w : World) (os : OsState), (topFrom treeTable PySem.Challenge.rw_ph0152_01.row.prog w 1220 ⟨boot_heap w.params, Array.mk [], boot_drawn, boot_toks, os⟩).map (fun s => (openSeen view ["compute_powers"] (importedModules PySem.Challenge.rw_ph0152_01.row.prog.main.body) lawX true s, lawHook.obs s)) = some (openGood view ["compute_powers"], lawHook.val w) := by
  intro w os
  kernel_rfl
theorem law_left : LeftO PySem.Challenge.rw_ph0152_01.row.prog view ["compute_powers"] lawX lawHook.obs lawHook.val 1220 :=
  LeftO.of_boot (by kernel_rfl) (by decide) (by intro s; kernel_rfl) law_run
theorem law_look : PySem.Challenge.rw_ph0152_01.wellSaid = true := by kernel_rfl
set_option maxHeartbeats 4000000 in
theorem hd (walk : ∀ (d : DefRec) kwd, d.name = "law" → WalkO view ["compute_powers"] (XL view []) lawHook.says PySem.Challenge.rw_ph0152_01.row.toRowW d kwd fun f vs => PySem.call f vs) : PySem.Challenge.rw_ph0152_01.Holds :=
  holds_law law_look fun said => holds_open (q := view) (loose := ["compute_powers"]) (Xt := lawX) (XP := XL view []) (Yf := lawHook.obs) (Ya := lawHook.val) (YP := lawHook.says) (N := 1220) law_left lawHook.of lawHook.keeps
    (fun s e => xl_of s (Bool.and_eq_true_iff.mp e).1) XL.keeps (by rfl) (by rfl) (by rfl) (fun s e => recFacts_of (Bool.and_eq_true_iff.mp e).2) (by rfl) said (by decide +kernel) ⟨rfl, rfl, rfl, rfl, rfl, by decide +kernel⟩
    ⟨[.list [.int 3, .int 1]], by decide +kernel, by decide +kernel⟩ (walk _ _ rfl)
end
section
set_option maxRecDepth 100000
set_option linter.unusedVariables false
noncomputable def tabList : List TabR := [⟨28, 24, ⟨46, 4, 50, 74⟩, "_str_to_int_inner.<locals>.inner"⟩, ⟨56, 52, ⟨86, 4, 95, 28⟩, "_int2digits.<locals>.inner"⟩, ⟨63, 59, ⟨101, 4, 106, 55⟩, "_digits2int.<locals>.inner"⟩]
structure CxP (C : Cx) : Prop extends Cx.Ok C where
  tb : C.tabs = tabList
  k : (hpK C.w.params).In C.h₀
  bi : ∀ x : Str, x ≠ "__name__" → C.mb x = bootBuiltins x

theorem mg_none {K : Frag} {h : Heap} {mg : Str → Option Value} {n : Str} (X : K.In h) (G : h.Ns mainGlobals mg) (e : nsIn K mainGlobals n = some none) : mg n = none := by
  obtain ⟨o, es, ep, ho, hd, _, hf⟩ := G
  unfold nsIn at e
  split at e
  · rename_i c d es' n' sl q
    have := X _ _ q
    rw [ho] at this
    cases this
    cases hd
    split at e
    · cases e
    · rename_i he
      rw [← hf]
      unfold nsFind findBy
      rw [← Array.find?_toList, he]
      rfl
  · cases e

noncomputable def isTop (P : Params) (p : Str × Value) : Bool := match nsIn (hpK P) mainGlobals p.1 with
  | some (some v) => er v == p.2 && !(p.1 == ("__debug__" : Str))
  | some none => decide (p.1 ≠ "__name__") && (bootBuiltins p.1 == some p.2) && er p.2 == p.2 && !(p.1 == ("__debug__" : Str))
  | none => false

theorem CxP.top {C : Cx} (H : CxP C) {p : Str × Value} (h : isTop C.w.params p = true) : (p.1 == ("__debug__" : Str)) = false ∧ ∃ v, er v = p.2 ∧ (C.mg p.1 = some v ∨ (C.mg p.1 = none ∧ C.mb p.1 = some v)) := by
  unfold isTop at h
  split at h
  · rename_i v hv
    simp only [Bool.and_eq_true, beq_iff_eq, Bool.not_eq_true'] at h
    exact ⟨h.2, v, h.1, .inl (mg_of H.k H.g hv)⟩
  · rename_i hv
    simp only [Bool.and_eq_true, beq_iff_eq, Bool.not_eq_true', decide_eq_true_eq] at h
    exact ⟨h.2, p.2, h.1.2, .inr ⟨mg_none H.k H.g hv, (H.bi _ h.1.1.1).trans h.1.1.2⟩⟩
  · cases h

noncomputable def topNames : List (Str × Value) := [
  ("compute_powers", .ref 22), ("_str_to_int_inner", .ref 29), ("int_from_string", .ref 36), ("_DIV_LIMIT", .int 4000 0), ("_div2n1n", .ref 43), ("_div3n2n", .ref 50), ("_int2digits", .ref 57),
  ("_digits2int", .ref 64), ("_divmod_pos", .ref 71), ("int_divmod", .ref 78), ("_strcoll", .ref 85), ("CHAR_MAX", .int 127 0), ("_grouping_intervals", .ref 92), ("_law_cell", .ref 99), ("_law_groups", .ref 106), ("_law_divided", .ref 113)]
noncomputable def bltNames : List (Str × Value) := [("set", .type "set"), ("iter", .builtin "iter"), ("sorted", .builtin "sorted"), ("next", .builtin "next"), ("len", .builtin "len"), ("int", .type "int"), ("divmod", .builtin "divmod"),
  ("reversed", .type "reversed"), ("max", .builtin "max"), ("range", .type "range"), ("isinstance", .builtin "isinstance"), ("bool", .type "bool"), ("sum", .builtin "sum"), ("print", .builtin "print"),
  ("ZeroDivisionError", .type "ZeroDivisionError"), ("ValueError", .type "ValueError")]
set_option maxHeartbeats 4000000 in
theorem top_all (P : Params) : topNames.all (isTop P) = true := by kernel_rfl
set_option maxHeartbeats 4000000 in
theorem blt_all (P : Params) : bltNames.all (isTop P) = true := by kernel_rfl

/-- the env of a call -/
theorem EnvOk.of {C : Cx} (H : CxP C) {env : Env} {gl : List (Str × Value)} {cl : List (Str × Addr)} (hf : env.scope.kind = .function) (hg : env.globals = mainGlobals) (hb : env.builtins = builtinsNs)
    (h1 : gl.all (fun p => env.kindOf p.1 == some .globalImplicit && (topNames.contains p || bltNames.contains p)) = true)
    (h3 : cl.all (fun p => (env.kindOf p.1 == some .cell || (env.kindOf p.1 == some .free && !(p.1 == ("__classdict__" : Str)))) && !(p.1 == ("__debug__" : Str))) = true)
    (h4 : cl.map (fun p => env.cells.lookup p.1) = cl.map (fun p => some p.2)) : EnvOk C env gl cl := by
  refine ⟨hf, hg, hb, fun p hp => ?_, fun p hp => ?_⟩
  · have h := List.all_eq_true.mp h1 p hp
    simp only [Bool.and_eq_true, beq_iff_eq, Bool.or_eq_true, List.contains_iff_mem] at h
    have : isTop C.w.params p = true := by
      rcases h.2 with h | h
      · exact List.all_eq_true.mp (top_all _) p h
      · exact List.all_eq_true.mp (blt_all _) p h
    obtain ⟨q1, q2⟩ := H.top this
    exact ⟨h.1, q1, q2⟩
  · have h := List.all_eq_true.mp h3 p hp
    simp only [Bool.and_eq_true, beq_iff_eq, Bool.or_eq_true, Bool.not_eq_true'] at h
    exact ⟨h.1, h.2, List.map_inj_left.mp h4 p hp⟩

theorem with_env {C : Cx} {A : Around} {env : Env} {loc : Loc} {led : Led} {body : List Stmt} {K : Flow → Loc → Led → Prop} {n : Nat} (H : CxP C) (fit : Fit A n) (gl : List (Str × Value)) (cl : List (Str × Addr)) (hf : env.scope.kind = .function) (hg : env.globals = mainGlobals) (hb : env.builtins = builtinsNs)
    (h1 : gl.all (fun p => env.kindOf p.1 == some .globalImplicit && (topNames.contains p || bltNames.contains p)) = true)
    (h3 : cl.all (fun p => (env.kindOf p.1 == some .cell || (env.kindOf p.1 == some .free && !(p.1 == ("__classdict__" : Str)))) && !(p.1 == ("__debug__" : Str))) = true)
    (h4 : cl.map (fun p => env.cells.lookup p.1) = cl.map (fun p => some p.2))
    (k : EnvOk C env gl cl → Fit A n → EXS C A env body loc led K) : EXS C A env body loc led K := k (EnvOk.of H hf hg hb h1 h3 h4) fit

theorem FnOk.of {C : Cx} (H : CxP C) {env : Env} {loc : Loc} {led : Led} {f c : Addr} {o oc : Obj} {fd : FuncData} {body : List Stmt} {vs : Array Value} {t : Tok} {q : Str}
    (h1 : (hpK C.w.params).lookup f = some o) (h2 : o.data = .func fd) (h3 : fd.body = .stmts body) (h4 : (hpK C.w.params).lookup c = some oc) (h5 : fd.code = .ref c) (h6 : oc.data = .fields vs)
    (h7 : vs[1]? = some (.str q t)) (h7' : q = fd.qualname) (h8 : fd.scope.isCoroutine = false) (h9 : fd.scope.isGenerator = false) (h10 : fd.scope.kind = .function) : FnOk C env loc led f fd body :=
  ⟨fun s S => ⟨o, S.keep _ _ (H.k _ _ h1), h2⟩, fun s S => ⟨c, oc, vs, t, h5, S.keep _ _ (H.k _ _ h4), h6, h7' ▸ h7⟩, h8, h9, h10, h3⟩
theorem CxP.isfn {C : Cx} (H : CxP C) {f : Addr} (h : fnIn (hpK C.w.params) f = true) : ∃ o, C.h₀.get? f = some o ∧ IsFn o := by
  unfold fnIn at h
  split at h
  · rename_i hq; exact ⟨_, H.k _ _ hq, _, rfl⟩
  · cases h
theorem CxP.fn {C : Cx} (H : CxP C) {f : Addr} {o : Obj} (h1 : (hpK C.w.params).lookup f = some o) : C.h₀.get? f = some o := H.k _ _ h1
end
section
open PySem.Builtin.Int (intBits)
set_option maxRecDepth 100000
set_option linter.unusedVariables false
section
variable {C : Cx} {A : Around} {env : Env} {loc : Loc} {led : Led} {gl : List (Str × Value)} {cl : List (Str × Addr)}

/-! ## methods -/
noncomputable def TyOk (C : Cx) (env : Env) (v : Value) (T : String) (d : Led) : Prop :=
  ∀ v' s l, er v' = v → St C env l d s → s.TypeIs v' T ∧ ∀ a, v' = .ref a → ∃ ob, s.heap.get? a = some ob ∧ ob.dict = none
noncomputable def MAPP (C : Cx) (A : Around) (env : Env) (pos : Pos) (id : String) (v : Value) (args : List Expr) (loc : Loc) (led : Led) (K : Value → Loc → Led → Prop) : Prop :=
  ∀ v', er v' = v → Tri er C A env (callWith pos (.builtin id) [v'] (backTo pos (starEach args env)) []) loc led K

theorem TyOk_int {i : Int} : TyOk C env (.int i 0) "int" led := fun v' s l hv S => by
  obtain ⟨t, rfl⟩ := er_is_int hv
  exact ⟨typeIs_int s i t, fun a e => by cases e⟩
theorem TyOk_str {x : Str} : TyOk C env (.str x 0) "str" led := fun v' s l hv S => by
  obtain ⟨t, rfl⟩ := er_is_str hv
  exact ⟨typeIs_str s x t, fun a e => by cases e⟩
theorem TyOk_list {a : Addr} {vs : List Value} (h : Ent.obj a (OList vs) ∈ led) : TyOk C env (.ref a) "list" led := fun v' s l hv S => by
  rw [er_is_ref hv]
  obtain ⟨o, ho, hp⟩ := S.get h
  obtain ⟨items, hi, _⟩ := hp.isList ho
  exact ⟨hi.typeIs, fun b e => by cases e; exact ⟨o, ho, hp.dict⟩⟩

theorem R_Meth {o : Expr} {name : Str} {apos pos : Pos} {args : List Expr} {T id : String} {K : Value → Loc → Led → Prop}
    (pa : PlainAttrs T) (slot : Slot T name id) (hty : typeOf (.builtin id) = pure (.type "method_descriptor"))
    (h : EV C A env o loc led (fun v l d => TyOk C env v T d ∧ MAPP C A env pos id v args l d K))
    (hbase : attributeBase o name env (eval o env) = eval o env)
    (hfew : ((backTo pos (starEach args env)).all (fun x => !x.1) && (backToKw pos (keywordEach [] env)).all (fun x => x.1.isSome)
      && decide (args.length + ([] : List Keyword).length + (if ([] : List Keyword).isEmpty then 0 else 1) < 30)) = true)
    (hline : (apos.endLine == pos.line) = true) : EV C A env (.Call (.Attribute o name apos) args [] pos) loc led K := fun s S =>
  wpAny_Call_method hbase hfew hline pa slot hty (wpAny_mono (h s S) (fun v s₁ ⟨l, d, ⟨k1, k2⟩, S₁⟩ => ⟨(k1 v s₁ l rfl S₁).1, (k1 v s₁ l rfl S₁).2, k2 v rfl s₁ S₁⟩) fun _ _ e => e)

theorem MAPP_nil {pos : Pos} {id : String} {v : Value} {K : Value → Loc → Led → Prop} (h : CallT C A env (.builtin id) [v] loc led K) : MAPP C A env pos id v [] loc led K := fun v' hv s S =>
  callWith_builtin rfl (PySem.evalArgs_none (h [v'] (by simp [hv]) s S))
theorem MAPP_cons {pos : Pos} {id : String} {v : Value} {e : Expr} {rest : List Expr} {K : Value → Loc → Led → Prop}
    (h : ARGS C A env pos (e :: rest) loc led (fun vs l d => CallT C A env (.builtin id) (v :: vs) l d K))
    (he : starEach (e :: rest) env = (false, eval e env) :: starEach rest env := by with_unfolding_all rfl)
    (hp : (backTo pos (starEach rest env)).any (·.1) = false := by with_unfolding_all rfl) : MAPP C A env pos id v (e :: rest) loc led K := fun v' hv s S => by
  have h' := h s S
  rw [args_split he] at h' ⊢
  exact callWith_builtin (by show (false || _) = false; rw [hp]; rfl) (evalArgs_plain (wpAny_mono h' (fun vs s₁ ⟨_, _, k, S₁⟩ => k (v' :: vs) (by simp [hv]) s₁ S₁) fun _ _ e => e))

theorem R_bit_length {o : Expr} {apos pos : Pos} {K : Value → Loc → Led → Prop}
    (h : EV C A env o loc led (fun v l d => ∃ i, v = .int i 0 ∧ K (.int (intBits i) 0) l d))
    (hbase : attributeBase o "bit_length" env (eval o env) = eval o env := by with_unfolding_all rfl)
    (hline : (apos.endLine == pos.line) = true := by with_unfolding_all rfl) : EV C A env (.Call (.Attribute o "bit_length" apos) [] [] pos) loc led K := by
  refine R_Meth F.plainAttrs_int PyProof.Rows.slot_int_bit_length PyProof.Rows.type_int_bit_length (h.mono fun v l d ⟨i, hv, k⟩ => ?_) hbase rfl hline
  subst hv
  refine ⟨TyOk_int, MAPP_nil fun args' ha s S => ?_⟩
  obtain ⟨x, rfl⟩ := erL1 ha
  simp only [List.map_cons, List.map_nil, List.cons.injEq, and_true] at ha
  obtain ⟨t, rfl⟩ := er_is_int ha
  exact call_int_bit_length ⟨_, _, k, S.toks⟩

/-! ## divmod -/
theorem B_divmod {a b : Int} {K : Value → Loc → Led → Prop} (hb : b ≠ 0) (hp : Builtin.divisionGoesByPylong a b = false)
    (h : ∀ t, K (.ref t) loc (.obj t (OTup [.int (a.fdiv b) 0, .int (a.fmod b) 0]) :: led)) : CallT C A env (.builtin "divmod") [.int a 0, .int b 0] loc led K := fun args' ha s S => by
  obtain ⟨x, y, rfl⟩ := erL2 ha
  simp only [List.map_cons, List.map_nil, List.cons.injEq, and_true] at ha
  obtain ⟨t, rfl⟩ := er_is_int ha.1
  obtain ⟨u, rfl⟩ := er_is_int ha.2
  refine divmod_int hb ⟨loc, _, h _, ?_⟩ (.inl hp)
  exact ((S.toks (t := s.toks + 1 + 1)).push (o := { cls := .type "tuple", data := .seq #[.int (a.fdiv b) s.toks, .int (a.fmod b) (s.toks + 1)] }) ⟨_, _, rfl, rfl⟩ rfl rfl)

/-! ## while -/
theorem X_While {test : Expr} {body orelse : List Stmt} {pos : Pos} {K : Flow → Loc → Led → Prop} (I : Nat → Loc → Led → Prop)
    (turn : ∀ n l d, I n l d → IT C A env test l d (fun b l d => if b = true then EXS C A env body l d (fun f l d => match f with
      | .next | .cont => ∃ m, m < n ∧ I m l d
      | .brk => K .next l d
      | .ret v => K (.ret v) l d) else EXS C A env orelse l d K)) (n : Nat) (h : I n loc led) : EX C A env (.While test body orelse pos) loc led K := fun s S => by
  refine wpAny_While (codeAny_whileLoop (fun n s => ∃ l d, I n l d ∧ St C env l d s) (fun n s ⟨l, d, hI, S⟩ => ?_) n ⟨loc, led, h, S⟩)
  refine wpAny_mono (turn n l d hI s S) (fun b s₁ ⟨l₁, d₁, k, S₁⟩ => ?_) fun _ _ e => e.elim
  cases b with
  | true =>
    simp only [id, if_true] at k ⊢
    refine wpAny_mono (k s₁ S₁) (fun f s₂ ⟨l₂, d₂, k₂, S₂⟩ => ?_) fun _ _ e => e.elim
    cases f with
    | next => obtain ⟨m, hm, hI⟩ := k₂; exact ⟨m, hm, l₂, d₂, hI, S₂⟩
    | cont => obtain ⟨m, hm, hI⟩ := k₂; exact ⟨m, hm, l₂, d₂, hI, S₂⟩
    | brk => exact ⟨l₂, d₂, k₂, S₂⟩
    | ret v => exact ⟨l₂, d₂, k₂, S₂⟩
  | false =>
    simp only [id, Bool.false_eq_true, if_false] at k ⊢
    exact wpAny_mono (k s₁ S₁) (fun f s₂ ⟨l₂, d₂, k₂, S₂⟩ => ⟨l₂, d₂, k₂, S₂⟩) fun _ _ e => e.elim
end
end
section
open PySem.Builtin.Int (intBits)
set_option maxRecDepth 100000
set_option linter.unusedVariables false
section
variable {C : Cx} {A : Around} {env : Env} {loc : Loc} {led : Led} {gl : List (Str × Value)} {cl : List (Str × Addr)}

theorem CodeRecC.ne_tab {h : Heap} {v : Value} {q : Str} {P c' : Addr} {ps : Array Value} (x : CodeRecC h v q) (t : h.TableAt c' P ps) : ∀ c, v = .ref c → c ≠ P := by
  rintro c hv rfl
  obtain ⟨c₂, o, vs, tt, e1, e2, e3, _⟩ := x
  cases hv.symm.trans e1
  rw [t.2] at e2; cases e2; cases e3

theorem CodeRecC.extBut {h h' : Heap} {v : Value} {q : Str} {P c' : Addr} {ps : Array Value} (x : CodeRecC h v q) (t : h.TableAt c' P ps) (hx : Heap.ExtBut P h h') : CodeRecC h' v q := by
  have hne := x.ne_tab t
  obtain ⟨c₂, o, vs, tt, e1, e2, r⟩ := x
  exact ⟨c₂, o, vs, tt, e1, hx _ _ (hne _ e1) e2, r⟩

/-- a code table grows, and what is new is laid -/
theorem St.grow {s s' : Shared} (S : St C env loc led s) {q : TabR} (hq : q ∈ C.tabs) (hx : Heap.ExtBut q.P s.heap s'.heap) (hT : TabInv s'.heap q) (hg : s'.gens = s.gens) (ho : s'.os = s.os) : St C env loc led s' := by
  obtain ⟨m, F, hm⟩ := S.fr
  obtain ⟨_, _, tq, _⟩ := S.tabs q hq
  have hP := (S.ok.tabs q hq).1
  have hL : env.locals ≠ q.P := Nat.ne_of_gt (Nat.lt_of_lt_of_le hP F.above)
  refine ⟨S.ok, ⟨m, ⟨F.ns.extBut hx hL, fun b o e => hx b o (fun w => by rw [w, S.ok.tabsNone q hq] at e; cases e) (F.keep b o e), F.above⟩, hm⟩, S.fn, S.lnd, S.kinds, fun e he => ?_, S.nd, ho.trans S.os, hg ▸ S.bare, fun q' hq' => ?_⟩
  · have := S.all e he
    cases e with
    | obj a P =>
      obtain ⟨o, h1, h2, h3, h4⟩ := this
      exact ⟨o, hx _ _ (Nat.ne_of_gt (Nat.lt_of_lt_of_le hP h3)) h1, h2, h3, h4⟩
    | gen g P => obtain ⟨st, h1, h2⟩ := this; exact ⟨st, hg ▸ h1, h2⟩
    | code v c => exact CodeRecC.extBut this tq hx
  · rcases S.ok.tabsApart q hq q' hq' with ⟨h1 | h1, h2⟩
    · subst h1; exact hT
    · obtain ⟨ps, x1, x2, x3⟩ := S.tabs q' hq'
      refine ⟨ps, ?_, x2.extBut hx h2 h1, fun v hv => (x3 v hv).extBut tq hx⟩
      obtain ⟨o, vs, file, tf, flags, tg, inF, text, tt, op, a, r1, r2, r3, r4, r5, r6, b, r⟩ := x1
      exact ⟨o, vs, file, tf, flags, tg, inF, text, tt, op, hx _ _ h2 a, r1, r2, r3, r4, r5, r6, hx _ _ h1 b, r⟩

theorem codeAmong_pos {pos : Pos} {c : Value} {l : List Value} (h : TriplesOk l) (hn : codeAmong pos l = none) : codeAmong pos (l ++ [rawInt pos.line, rawInt pos.col, c]) = some c := codeAmong_snoc l h hn

theorem T_code {q : TabR} {fl : Nat} {name : Str} {p : Arguments} {scope : Scope} {body : FuncBody} (hq : q ∈ C.tabs) (hc : env.code = .ref q.c) {K : Value → Loc → Led → Prop}
    (h : ∀ c, K (.ref c) loc (.code (.ref c) q.qual :: led)) : Tri id C A env (functionCode env q.pos fl name q.qual p scope body) loc led K := fun s S => by
  obtain ⟨ps, x1, x2, x3⟩ := S.tabs q hq
  cases hf : codeAmong q.pos ps.toList with
  | some v =>
    refine wpAny_functionCode_hit hc x1 hf ?_
    have hv := x3 v hf
    obtain ⟨c, _, _, _, e1, _⟩ := id hv
    subst e1
    exact ⟨loc, _, h c, S.more hv fun k hk => by cases hk⟩
  | none =>
    refine wpAny_functionCodeX hc x1 x2 hf fun c' h' tk hx hge hlt hcode hrec htab hnew => ?_
    obtain ⟨P', _, hc', ht'⟩ := hnew
    have hcc : CodeRecC h' (.ref c') q.qual := by
      obtain ⟨c₂, o, vs, t, e1, e2, e3, e4⟩ := hrec
      obtain ⟨⟨o', vs', f1, f2, f3, _⟩, _⟩ := ht'
      cases e1
      rw [e2] at f1; cases f1
      exact ⟨_, o, vs, t, rfl, e2, f2, e3, e4⟩
    have htr : TriplesOk ps.toList := by
      obtain ⟨_, _, _, _, _, _, _, _, _, _, _, _, _, _, _, _, _, _, _, htr, _⟩ := x1; exact htr
    have hinv : TabInv h' q := ⟨_, hcode, htab, fun v hv => by
      rw [Array.toList_append, codeAmong_pos htr hf] at hv
      cases hv; exact hcc⟩
    refine ⟨loc, _, h c', ?_⟩
    exact (S.grow (s' := { s with heap := h', toks := tk }) hq hx hinv rfl rfl).more hcc fun k hk => by cases hk

noncomputable def OFun (fd : FuncData) : Obj → Prop := fun o => o.data = .func fd

theorem St.builtinsAt {s : Shared} (S : St C env loc led s) : ∃ bm o, C.mg "__builtins__" = some (.ref bm) ∧ bm ≠ builtinsNs ∧ s.heap.get? bm = some o ∧ o.cls = .type "module" ∧ o.dict = some builtinsNs ∧ o.data = .plain := by
  obtain ⟨bm, ob, b1, b2, b3, b4, b5, b6⟩ := S.ok.bmain
  exact ⟨bm, ob, b1, b2, S.keep _ _ b3, b4, b5, b6⟩

theorem T_makeFunction {q : TabR} {fl : Nat} {name : Str} {p : Arguments} {scope : Scope} {body : List Stmt} {clos : List (Str × Addr)} (hq : q ∈ C.tabs) (hc : env.code = .ref q.c) (hge : env.globals = mainGlobals)
    (hcl : closureFor scope env = pure clos) {K : Value → Loc → Led → Prop}
    (h : ∀ f c doc pm ct, K (.ref f) loc (.obj f (OFun (fnX name q.qual p body scope clos .none .none doc pm none (.ref c) ct)) :: .code (.ref c) q.qual :: led)) :
    Tri er C A env (makeFunction name q.qual p (.stmts body) scope env [] [] [] q.pos fl) loc led K := fun s S => by
  rw [makeFunction_eq]
  simp only [List.zip_nil_right, List.filterMap_nil, List.isEmpty_nil, if_true, pure_bind]
  unfold makeTail
  rw [hcl, hge]
  refine wpAny_bind (wpAny_pure ?_)
  have fin : ∀ (ct : Value) (s₁ : Shared) (t : Sem Value), St C env loc led s₁ → t = (do
      let code ← functionCode env q.pos fl name q.qual p scope (.stmts body)
      let b ← builtinsFor mainGlobals env.builtins
      let pm ← nsGet mainGlobals "__name__"
      let doc ← (match docOf body with | some s => mkText s | none => pure .none)
      newObj (.type "function") (Data.func { (fnX name q.qual p body scope clos .none .none doc (pm.getD .none) none code ct) with builtins := b })) →
      wpAny C.M A t (fun v s' => ∃ loc' led', K (er v) loc' led' ∧ St C env loc' led' s') (fun _ _ => False) s₁ := by
    rintro ct s₁ t S₁ rfl
    refine wpAny_bind (wpAny_mono (T_code (A := A) (fl := fl) (name := name) (p := p) (scope := scope) (body := .stmts body) hq hc (K := fun v l d => ∃ c, v = .ref c ∧ l = loc ∧ d = .code (.ref c) q.qual :: led) (fun c => ⟨c, rfl, rfl, rfl⟩) s₁ S₁) (fun v s₂ ⟨l, d, ⟨c, hv, hl, hd⟩, S₂⟩ => ?_) fun _ _ e => e)
    subst hl hd
    have hv' : v = .ref c := hv
    subst hv'
    obtain ⟨bm, ob, b1, b2, b3, b4, b5, b6⟩ := S₂.builtinsAt
    have hg : s₂.heap.Ns mainGlobals C.mg := S₂.ok.g.keeps S₂.keep
    refine wpAny_bind (wpAny_builtinsFor hg b1 b2 b3 b4 b5 b6 ?_)
    refine wpAny_bind (wpAny_nsGet hg ?_)
    cases docOf body with
    | none =>
      refine wpAny_bind (wpAny_pure (wpAny_newObj_type ?_ (by size_fits)))
      exact ⟨_, _, h _ c .none _ ct, S₂.push (P := OFun _) (show Obj.data _ = Data.func _ from rfl) rfl rfl⟩
    | some x =>
      refine wpAny_bind (wpAny_mkText (wpAny_newObj_type ?_ (by size_fits)))
      exact ⟨_, _, h _ c _ _ ct, (S₂.toks (t := s₂.toks + 1)).push (P := OFun _) (show Obj.data _ = Data.func _ from rfl) rfl rfl⟩
  have key : ∀ b : Bool, clos.isEmpty = b → (b = true ∨ b = false) := fun b _ => by cases b <;> simp
  cases hclos : clos.isEmpty with
  | true =>
    simp only [if_true]
    exact wpAny_bind (wpAny_pure (fin _ _ _ S rfl))
  | false =>
    simp only [Bool.false_eq_true, if_false]
    exact wpAny_bind (wpAny_newTextTuple (fin _ _ _ (S.ext (s' := { s with heap := s.heap.push _ }) (fun b o e => Heap.get?_push_of_some _ e) rfl rfl) rfl))

theorem X_Def {q : TabR} {name : Str} {p : Arguments} {scope : Scope} {body : List Stmt} {clos : List (Str × Addr)} {pos : Pos} {K : Flow → Loc → Led → Prop} (hq : q ∈ C.tabs) (hpos : q.pos = pos) (hqual : q.qual = qualnameIn env name name)
    (hc : env.code = .ref q.c) (hge : env.globals = mainGlobals)
    (hcl : closureFor scope env = pure clos) (hd0 : p.defaults = []) (hk0 : p.kw_defaults = []) (ha : annTrees p none env = [])
    (h : ∀ f c doc pm ct, SN C A env name (.ref f) loc (.obj f (OFun (fnX name q.qual p body scope clos .none .none doc pm none (.ref c) ct)) :: .code (.ref c) q.qual :: led) (fun l d => K .next l d)) :
    EX C A env (.FunctionDef name p body [] none [] scope none name pos) loc led K := fun s S => by
  refine nestDef_K hd0 hk0 ha ?_
  rw [← hqual, ← hpos]
  exact wpAny_mono (T_makeFunction (A := A) (fl := q.pos.line) (name := name) (p := p) (scope := scope) (body := body) hq hc hge hcl (K := fun v l d => SN C A env name v l d (fun l d => K .next l d)) h s S)
    (fun v s₁ ⟨l, d, k, S₁⟩ => wpAny_mono (k v rfl s₁ S₁) (fun _ s₂ x => x) fun _ _ e => e) fun _ _ e => e

theorem FnOk.clo {f : Addr} {fd : FuncData} {body : List Stmt} (h1 : Ent.obj f (OFun fd) ∈ led) (h2 : Ent.code fd.code fd.qualname ∈ led) (h3 : fd.body = .stmts body) (h8 : fd.scope.isCoroutine = false) (h9 : fd.scope.isGenerator = false) (h10 : fd.scope.kind = .function) :
    FnOk C env loc led f fd body :=
  ⟨fun s S => S.get h1, fun s S => (show CodeRecC s.heap _ _ from S.all _ h2).rec', h8, h9, h10, h3⟩
end
end
section
open PySem.Builtin.Int (intBits)
set_option maxRecDepth 100000
set_option linter.unusedVariables false
section
variable {C : Cx} {A : Around} {env : Env} {loc : Loc} {led : Led} {gl : List (Str × Value)} {cl : List (Str × Addr)}

theorem bindL_not {kd : Str → Option NameKind} {x : Str} : ∀ {binds : List (Str × Value)} {m : Str → Option Value}, x ∉ binds.map (·.1) → bindL kd binds m x = m x
  | [], _, _ => rfl
  | (n, v) :: r, m, h => by
    rw [List.map_cons, List.mem_cons, not_or] at h
    unfold bindL
    rw [bindL_not h.2]
    split
    · exact if_neg h.1
    · rfl
theorem bindL_mem {kd : Str → Option NameKind} {x : Str} {v : Value} (hk : kd x = some .local) : ∀ {binds : List (Str × Value)} {m : Str → Option Value}, (binds.map (·.1)).Nodup → (x, v) ∈ binds → bindL kd binds m x = some v
  | (n, u) :: r, m, hn, h => by
    rw [List.map_cons, List.nodup_cons] at hn
    unfold bindL
    rcases List.mem_cons.mp h with e | h
    · cases e
      rw [bindL_not hn.1, if_pos hk, if_pos rfl]
    · exact bindL_mem hk hn.2 h
theorem bindC_not {kd : Str → Option NameKind} {x : Str} : ∀ {binds : List (Str × Value)} {m : Str → Option Value}, x ∉ binds.map (·.1) → bindC kd binds m x = m x
  | [], _, _ => rfl
  | (n, v) :: r, m, h => by
    rw [List.map_cons, List.mem_cons, not_or] at h
    unfold bindC
    rw [bindC_not h.2]
    split
    · rfl
    · exact if_neg h.1
theorem bindC_mem {kd : Str → Option NameKind} {x : Str} {v : Value} (hk : kd x ≠ some .local) : ∀ {binds : List (Str × Value)} {m : Str → Option Value}, (binds.map (·.1)).Nodup → (x, v) ∈ binds → bindC kd binds m x = some v
  | (n, u) :: r, m, hn, h => by
    rw [List.map_cons, List.nodup_cons] at hn
    unfold bindC
    rcases List.mem_cons.mp h with e | h
    · cases e
      rw [bindC_not hn.1, if_neg hk, if_pos rfl]
    · exact bindC_mem hk hn.2 h

theorem zip_fst_snd {α β : Type} : ∀ l : List (α × β), l = (l.map (·.1)).zip (l.map (·.2))
  | [] => rfl
  | (a, b) :: r => by rw [List.map_cons, List.map_cons, List.zip_cons_cons, ← zip_fst_snd r]

noncomputable def cenv (fd : FuncData) (L f : Addr) (cells : List (Str × Addr)) : Env :=
  { scope := fd.scope, locals := L, globals := fd.globals, cells := cells, qual := fd.qualname ++ ".<locals>.", func := some f, code := fd.code, frame := some L, builtins := fd.builtins }

/-- the entries of new cells -/
noncomputable def cellEnts : List (Str × Option Value) → List Addr → Led
  | p :: r, c :: cs => .obj c (OCell p.2) :: cellEnts r cs
  | _, _ => []
theorem cellEnts_keys : ∀ {cv : List (Str × Option Value)} {cs : List Addr}, cv.length = cs.length → keys (cellEnts cv cs) = cs.map fun c => (0, c)
  | [], [], _ => rfl
  | p :: r, c :: cs, h => by
    show (0, c) :: keys (cellEnts r cs) = _
    rw [cellEnts_keys (by simpa using h)]; rfl

theorem St.cellsIn {s : Shared} (S : St C env loc led s) (cv : List (Str × Option Value)) : ∀ (cs : List Addr), cs.Nodup →
    (∀ x ∈ cv.zip cs, ∃ u, s.heap.IsCell x.2 u ∧ u.map er = x.1.2) → (∀ c ∈ cs, C.h₀.objs.size ≤ c ∧ c ≠ env.locals ∧ ∀ e ∈ led, e.key ≠ some (0, c)) → cv.length = cs.length → St C env loc (cellEnts cv cs ++ led) s := by
  induction cv with
  | nil => intro cs _ _ _ _; exact S
  | cons p r ih =>
    intro cs hn h1 h2 hl
    cases cs with
    | nil => simp at hl
    | cons c cs =>
      rw [List.nodup_cons] at hn
      have ih' := ih cs hn.2 (fun x hx => h1 x (List.mem_cons_of_mem _ hx)) (fun c hc => h2 c (List.mem_cons_of_mem _ hc)) (by simpa using hl)
      refine St.more (e := .obj c (OCell p.2)) ih' ?_ ?_
      · obtain ⟨u, ⟨o, ho, hd⟩, hu⟩ := h1 (p, c) List.mem_cons_self
        obtain ⟨q1, q2, _⟩ := h2 c List.mem_cons_self
        exact ⟨o, ho, ⟨u, hd, hu⟩, q1, q2, .inr fun vs e => by rw [hd] at e; cases e⟩
      · intro k hk x hx q
        cases hk
        rcases List.mem_append.mp hx with hx | hx
        · have : (0, c) ∈ keys (cellEnts r cs) := keys_mem hx q
          rw [cellEnts_keys (by simpa using hl)] at this
          obtain ⟨c', hc', e⟩ := List.mem_map.mp this
          cases e; exact hn.1 hc'
        · exact (h2 c List.mem_cons_self).2.2 x hx q

theorem C_cells {f : Addr} {fd : FuncData} {body : List Stmt} {args : List Value} {K : Value → Loc → Led → Prop} {loc' : Loc} {cv : List (Str × Option Value)} (pn : List Str)
    (hd : A.depth < 1000) (F : FnOk C env loc led f fd body) (hclo : fd.closure = [])
    (hbind : ∀ args', erL args' = args → bindArgs fd ⟨args', []⟩ = pure (pn.zip args'))
    (hlen : pn.length = args.length) (hcv : (cellsFrom 0 fd.scope.names []).map (·.1) = cv.map (·.1))
    (hloc : ∀ p ∈ loc', (p ∈ pn.zip (args.map some)) ∨ (p.1 ∉ pn ∧ p.2 = none)) (hcvs : ∀ p ∈ cv, (p ∈ pn.zip (args.map some)) ∨ (p.1 ∉ pn ∧ p.2 = none))
    (hck : (decide (pn.Nodup) && decide ((loc'.map (·.1)).Nodup) && decide ((cv.map (·.1)).Nodup) && pn.all (fun x => fd.scope.names.lookup x == some .local || fd.scope.names.lookup x == some .cell) && (loc'.map (·.1)).all (fun x => fd.scope.names.lookup x == some .local && !(x == ("__debug__" : Str))) && (cv.map (·.1)).all (fun x => fd.scope.names.lookup x == some .cell)) = true)
    (h : ∀ L (cs : List Addr), cs.length = cv.length → EXS C (A.deeper (cenv fd L f ((cv.map (·.1)).zip cs))) (cenv fd L f ((cv.map (·.1)).zip cs)) body loc' (cellEnts cv cs ++ .obj env.locals (OLoc loc) :: led)
      (fun fl l d => ∃ d', Sub (.obj env.locals (OLoc loc) :: d') d ∧ K (retOf fl) loc d')) :
    CallT C A env (.ref f) args loc led K := fun args' ha s S => by
  simp only [Bool.and_eq_true, decide_eq_true_eq] at hck
  obtain ⟨⟨⟨⟨⟨k1, k2⟩, k3⟩, k4⟩, k5⟩, k6⟩ := hck
  have k4' : ∀ x ∈ pn, fd.scope.names.lookup x = some .local ∨ fd.scope.names.lookup x = some .cell := fun x hx => by
    have := List.all_eq_true.mp k4 x hx; simpa using this
  have k5' : ∀ p ∈ loc', fd.scope.names.lookup p.1 = some .local ∧ (p.1 == ("__debug__" : Str)) = false := fun p hp => by
    have := List.all_eq_true.mp k5 p.1 (List.mem_map_of_mem hp)
    simp only [Bool.and_eq_true, beq_iff_eq, Bool.not_eq_true'] at this; exact this
  have k6' : ∀ p ∈ cv, fd.scope.names.lookup p.1 = some .cell := fun p hp => by
    have := List.all_eq_true.mp k6 p.1 (List.mem_map_of_mem hp); simpa using this
  obtain ⟨o, ho, hdata⟩ := F.get s S
  have hzip : (pn.zip args').map (·.1) = pn := by rw [List.map_fst_zip]; rw [hlen, ← ha]; simp
  have hzn : ((pn.zip args').map (·.1)).Nodup := by rw [hzip]; exact k1
  generalize hL : s.heap.objs.size = L
  have hcf : cellsFrom (L + 1) fd.scope.names [] = (cv.map (·.1)).zip ((cellsFrom (L + 1) fd.scope.names []).map (·.2)) := by
    rw [← hcv, cellsFrom_names fd.scope.names 0 (L + 1) [] [] rfl]; exact zip_fst_snd _
  generalize hcs : (cellsFrom (L + 1) fd.scope.names []).map (·.2) = cs at hcf
  have hlen2 : cs.length = cv.length := by
    rw [← hcs, List.length_map]
    have := congrArg List.length (cellsFrom_names fd.scope.names 0 (L + 1) [] [] rfl)
    have e2 := congrArg List.length hcv
    simp only [List.length_map] at this e2
    lia
  have henv : callEnvC fd L f = cenv fd L f ((cv.map (·.1)).zip cs) := by unfold callEnvC newEnv cenv; rw [hcf]
  refine wpAny_call (codeAny_call_cells hd ho hdata (S.ok.nolimit.keeps S.keep) (F.code s S) F.body (hbind args' ha) hclo ?_ (fun s₁ X => ?_) F.co F.gen F.kind)
  · intro x hx
    have hx1 : x.1 ∈ pn := hzip ▸ List.mem_map_of_mem hx
    rcases k4' _ hx1 with h | h
    · exact .inl h
    · refine .inr ⟨h, ?_⟩
      rw [hL]
      exact cellsFrom_some _ _ _ (.inl h)
  · rw [hL, henv] at X ⊢
    obtain ⟨h₁, tk, rfl, hkeep⟩ := X.done
    have key0 : St C (cenv fd L f ((cv.map (·.1)).zip cs)) loc' (.obj env.locals (OLoc loc) :: led) { s with heap := h₁, toks := tk } := by
      refine S.enter hkeep (by rw [hL]; rfl) X.toInCall.ns (fun p hp => ?_) F.kind k2 k5' rfl rfl
      rcases hloc p hp with hp' | ⟨hp1, hp2⟩
      · have : ∃ v, (p.1, v) ∈ pn.zip args' ∧ some (er v) = p.2 := by
          rw [← ha, show (erL args').map some = args'.map (fun v => some (er v)) by simp [erL], List.zip_map_right] at hp'
          obtain ⟨q, hq, e⟩ := List.mem_map.mp hp'
          rw [← e]; exact ⟨q.2, hq, rfl⟩
        obtain ⟨v, hv, e⟩ := this
        rw [bindL_mem (k5' p hp).1 hzn hv]; exact e
      · rw [bindL_not (by rw [hzip]; exact hp1), hp2]; rfl
    have hcell : ∀ x ∈ cv.zip cs, ∃ u, h₁.IsCell x.2 u ∧ u.map er = x.1.2 := by
      intro x hx
      have hmem : (x.1.1, x.2) ∈ (cv.map (·.1)).zip cs := by
        rw [List.zip_map_left]; exact List.mem_map.mpr ⟨x, hx, rfl⟩
      have hlk : ((cv.map (·.1)).zip cs).lookup x.1.1 = some x.2 := by
        refine lookup_of_mem_nodup ?_ hmem
        rw [List.map_fst_zip (by simp [hlen2])]; exact k3
      have hp : x.1 ∈ cv := (List.of_mem_zip hx).1
      have hkl : fd.scope.names.lookup x.1.1 ≠ some .local := by rw [k6' _ hp]; decide
      refine ⟨_, X.cell _ _ hlk, ?_⟩
      rcases hcvs _ hp with hp' | ⟨hp1, hp2⟩
      · have : ∃ v, (x.1.1, v) ∈ pn.zip args' ∧ some (er v) = x.1.2 := by
          rw [← ha, show (erL args').map some = args'.map (fun v => some (er v)) by simp [erL], List.zip_map_right] at hp'
          obtain ⟨q, hq, e⟩ := List.mem_map.mp hp'
          rw [← e]; exact ⟨q.2, hq, rfl⟩
        obtain ⟨v, hv, e⟩ := this
        rw [bindC_mem hkl hzn hv]; exact e
      · rw [bindC_not (by rw [hzip]; exact hp1), hp2]; rfl
    have hap : cs.Nodup := by
      have := X.apart
      have e : ((cv.map (·.1)).zip cs).map (·.2) = cs := by rw [List.map_snd_zip]; simp [hlen2]
      rw [← e]
      exact List.pairwise_map.mpr this
    have habove : ∀ c ∈ cs, L < c := by
      intro c hc
      have e : ((cv.map (·.1)).zip cs).map (·.2) = cs := by rw [List.map_snd_zip]; simp [hlen2]
      rw [← e] at hc
      obtain ⟨q, hq, rfl⟩ := List.mem_map.mp hc
      exact X.above q.1 q.2 hq
    have key : St C (cenv fd L f ((cv.map (·.1)).zip cs)) loc' (cellEnts cv cs ++ .obj env.locals (OLoc loc) :: led) { s with heap := h₁, toks := tk } := by
      refine key0.cellsIn cv cs hap hcell (fun c hc => ⟨?_, Nat.ne_of_gt (habove c hc), ?_⟩) hlen2.symm
      · exact Nat.le_trans (hL ▸ S.base_le) (Nat.le_of_lt (habove c hc))
      · intro e he q
        have hLc := habove c hc
        rcases List.mem_cons.mp he with rfl | he
        · cases q
          exact absurd (Nat.lt_trans (hL ▸ S.lt) hLc) (Nat.lt_irrefl _)
        · have := S.all e he
          cases e with
          | obj a P =>
            cases q
            obtain ⟨oo, q1, _⟩ := this
            exact absurd (Nat.lt_trans (hL ▸ Heap.lt_size q1) hLc) (Nat.lt_irrefl _)
          | gen g P => simp [Ent.key] at q
          | code v w => simp [Ent.key] at q
    refine wpAny_mono (h L cs hlen2 _ key) (fun fl s' ⟨l, d, ⟨d', hs, k⟩, S'⟩ => ?_) fun _ _ x => x.elim
    refine ⟨loc, d', ?_, S.leave S' hs⟩
    cases fl <;> exact k
end
end
section
open PySem.Builtin.Int (intBits)
set_option maxRecDepth 100000
set_option linter.unusedVariables false
section
variable {C : Cx} {A : Around} {env : Env} {loc : Loc} {led : Led} {gl : List (Str × Value)} {cl : List (Str × Addr)}

theorem Pick.mem {e : Ent} {d d' : Led} (h : Pick e d d') : e ∈ d := h.symm.subset List.mem_cons_self
theorem Pick.sub {e : Ent} {d d' : Led} (h : Pick e d d') : Sub d' d := Sub.trans (Sub.skip Sub.refl) ⟨[], by simpa using h.symm⟩

/-- an object that is given up may have turned -/
theorem St.loses {s s' : Shared} {led' : Led} {a : Addr} {P : Obj → Prop} (S : St C env loc led s) (hp : Pick (.obj a P) led led') (hx : Heap.ExtBut a s.heap s'.heap) (hg : s'.gens = s.gens) (ho : s'.os = s.os) : St C env loc led' s' := by
  obtain ⟨m, F, hm⟩ := S.fr
  obtain ⟨oo, hoo, _, hb, hL, hoc⟩ := S.all _ hp.mem
  have hnd : (keys (.obj a P :: led')).Nodup := (hp.filterMap Ent.key).nodup_iff.mp S.nd
  rw [keys_obj, List.nodup_cons] at hnd
  refine ⟨S.ok, ⟨m, ⟨F.ns.extBut hx (Ne.symm hL), fun b o e => hx b o (Nat.ne_of_lt (Nat.lt_of_lt_of_le (Heap.lt_size e) hb)) (F.keep b o e), F.above⟩, hm⟩, S.fn, S.lnd, S.kinds, fun e he => ?_, hnd.2, ho.trans S.os, hg ▸ S.bare, fun q hq => ?_⟩
  · have hx' := S.all e (hp.sub.mem e he)
    cases e with
    | obj b Q =>
      obtain ⟨o, h1, h2, h3, h4⟩ := hx'
      exact ⟨o, hx _ _ (fun q => hnd.1 (keys_mem he (by rw [q]; rfl))) h1, h2, h3, h4⟩
    | gen g Q => obtain ⟨st, h1, h2⟩ := hx'; exact ⟨st, hg ▸ h1, h2⟩
    | code v q =>
      obtain ⟨c, o', vs, t, e1, e2, e3, e4, e5⟩ := (show CodeRecC s.heap v q from hx')
      refine ⟨c, o', vs, t, e1, hx _ _ (fun w => ?_) e2, e3, e4, e5⟩
      rw [w, hoo] at e2; cases e2
      rcases hoc with hc | hc
      · exact hc e3
      · exact hc vs e4
  · obtain ⟨q1, q2⟩ := S.ok.tabs q hq
    have h1 : q.P ≠ a := Nat.ne_of_lt (Nat.lt_of_lt_of_le q1 hb)
    have h2 : q.c ≠ a := Nat.ne_of_lt (Nat.lt_of_lt_of_le q2 hb)
    obtain ⟨ps, x1, x2, x3⟩ := S.tabs q hq
    refine ⟨ps, ?_, x2.extBut hx h2 h1, fun v hv => ?_⟩
    · obtain ⟨o, vs, file, tf, flags, tg, inF, text, tt, op, a, r1, r2, r3, r4, r5, r6, b, r⟩ := x1
      exact ⟨o, vs, file, tf, flags, tg, inF, text, tt, op, hx _ _ h2 a, r1, r2, r3, r4, r5, r6, hx _ _ h1 b, r⟩
    · obtain ⟨c, o', vs, t, e1, e2, e3, e4, e5⟩ := x3 v hv
      refine ⟨c, o', vs, t, e1, hx _ _ (fun w => ?_) e2, e3, e4, e5⟩
      rw [w, hoo] at e2; cases e2
      rcases hoc with hc | hc
      · exact hc e3
      · exact hc vs e4

/-! ## iterators -/
noncomputable def OListIter (t : Addr) (k : Nat) : Obj → Prop := fun o => o.cls = .type "list_iterator" ∧ o.data = .fields #[.ref t, .int k 0]
noncomputable def ORevIter (t : Addr) (k : Int) : Obj → Prop := fun o => o.cls = .type "list_reverseiterator" ∧ o.data = .fields #[.ref t, rawInt k]
noncomputable def ORangeIter (x left step : Int) : Obj → Prop := fun o => o = { cls := .type "range_iterator", dict := none, data := .fields #[rawInt x, rawInt left, rawInt step], slots := #[] }
noncomputable def ORange (a b c : Int) : Obj → Prop := fun o => ∃ t u v, o = { cls := .type "range", dict := none, data := .fields #[.int a t, .int b u, .int c v], slots := #[] }

noncomputable abbrev NX (C : Cx) (A : Around) (env : Env) (it : Addr) := Tri (Option.map er) C A env (pyNext (.ref it))

theorem erL_get {items : Array Value} {vs : List Value} {k : Nat} {v : Value} (h : erL items.toList = vs) (hv : vs[k]? = some v) : ∃ x, items[k]? = some x ∧ er x = v := by
  rw [← h, erL, List.getElem?_map, Array.getElem?_toList] at hv
  cases hx : items[k]? with
  | none => rw [hx] at hv; cases hv
  | some x => rw [hx] at hv; exact ⟨x, rfl, Option.some.inj hv⟩
theorem erL_none {items : Array Value} {vs : List Value} {k : Nat} (h : erL items.toList = vs) (hv : vs[k]? = none) : items[k]? = none := by
  rw [← h, erL, List.getElem?_map, Array.getElem?_toList] at hv
  cases hx : items[k]? with
  | none => rfl
  | some x => rw [hx] at hv; cases hv

theorem N_list_item {it t : Addr} {k : Nat} {vs : List Value} {v : Value} {led' : Led} {K : Option Value → Loc → Led → Prop} (hu : LUpd it (OListIter t (k + 1)) (OListIter t k) led led') (ht : Ent.obj t (OList vs) ∈ led) (hv : vs[k]? = some v)
    (h : K (some v) loc led') : NX C A env it loc led K := fun s S => by
  obtain ⟨o, ho, hp⟩ := S.get hu.mem
  obtain ⟨ol, hol, hpl⟩ := S.get ht
  obtain ⟨items, hi, he⟩ := hpl.isList hol
  obtain ⟨x, hx, hxv⟩ := erL_get he hv
  refine wpAny_pyNext_list_item ⟨o, ho, hp.1, hp.2⟩ hi hx fun h' hit hsb => ⟨loc, led', by rw [Option.map_some, hxv]; exact h, ?_⟩
  obtain ⟨o', ho', hc', hd'⟩ := hit
  exact S.upd hu (s' := { s with heap := h' }) hsb ho' ⟨hc', hd'⟩ rfl rfl (.inl (by rw [hc']; simp))
theorem N_list_end {it t : Addr} {k : Nat} {vs : List Value} {led' : Led} {K : Option Value → Loc → Led → Prop} (hh : A.handled = none) (hu : Pick (.obj it (OListIter t k)) led led') (ht : Ent.obj t (OList vs) ∈ led) (hv : vs[k]? = none)
    (h : K none loc led') : NX C A env it loc led K := fun s S => by
  obtain ⟨o, ho, hp⟩ := S.get hu.mem
  obtain ⟨ol, hol, hpl⟩ := S.get ht
  obtain ⟨items, hi, he⟩ := hpl.isList hol
  exact wpAny_pyNext_list_end hh ⟨o, ho, hp.1, hp.2⟩ hi (erL_none he hv) fun h' hx => ⟨loc, led', h, S.loses hu (s' := { s with heap := h' }) hx rfl rfl⟩

theorem N_rev_item {it t : Addr} {k : Nat} {vs : List Value} {v : Value} {led' : Led} {K : Option Value → Loc → Led → Prop} (hu : LUpd it (ORevIter t ((k : Int) - 1)) (ORevIter t k) led led') (ht : Ent.obj t (OList vs) ∈ led) (hv : vs[k]? = some v)
    (h : K (some v) loc led') : NX C A env it loc led K := fun s S => by
  obtain ⟨o, ho, hp⟩ := S.get hu.mem
  obtain ⟨ol, hol, hpl⟩ := S.get ht
  obtain ⟨items, hi, he⟩ := hpl.isList hol
  obtain ⟨x, hx, hxv⟩ := erL_get he hv
  refine wpAny_pyNext_rev_item ⟨o, ho, hp.1, hp.2⟩ hi hx fun h' hit hsb => ⟨loc, led', by rw [Option.map_some, hxv]; exact h, ?_⟩
  obtain ⟨o', ho', hc', hd'⟩ := hit
  exact S.upd hu (s' := { s with heap := h' }) hsb ho' ⟨hc', hd'⟩ rfl rfl (.inl (by rw [hc']; simp))
theorem N_rev_end {it t : Addr} {led' : Led} {K : Option Value → Loc → Led → Prop} (hh : A.handled = none) (hu : Pick (.obj it (ORevIter t (-1))) led led')
    (h : K none loc led') : NX C A env it loc led K := fun s S => by
  obtain ⟨o, ho, hp⟩ := S.get hu.mem
  exact wpAny_pyNext_rev_end hh ⟨o, ho, hp.1, hp.2⟩ fun h' hx => ⟨loc, led', h, S.loses hu (s' := { s with heap := h' }) hx rfl rfl⟩

theorem N_range_item {it : Addr} {x left step : Int} {led' : Led} {K : Option Value → Loc → Led → Prop} (hu : LUpd it (ORangeIter (x + step) (left - 1) step) (ORangeIter x left step) led led') (hl : 0 < left)
    (h : K (some (.int x 0)) loc led') : NX C A env it loc led K := fun s S => by
  obtain ⟨o, ho, hp⟩ := S.get hu.mem
  refine wpAny_pyNext_range_item (hp ▸ ho) hl fun h' hit hsb => ⟨loc, led', h, ?_⟩
  exact S.upd hu (s' := { s with heap := h', toks := s.toks + 1 }) hsb hit rfl rfl rfl (.inl (by simp))
theorem N_range_end {it : Addr} {x left step : Int} {led' : Led} {K : Option Value → Loc → Led → Prop} (hh : A.handled = none) (hu : Pick (.obj it (ORangeIter x left step)) led led') (hl : left ≤ 0)
    (h : K none loc led') : NX C A env it loc led K := fun s S => by
  obtain ⟨o, ho, hp⟩ := S.get hu.mem
  exact wpAny_pyNext_range_end hh (hp ▸ ho) hl fun h' hx => ⟨loc, led', h, S.loses hu (s' := { s with heap := h' }) hx rfl rfl⟩

/-! ## for -/
noncomputable def ASG (C : Cx) (A : Around) (env : Env) (target : Expr) (v : Value) (loc : Loc) (led : Led) (K : Loc → Led → Prop) : Prop :=
  ∀ v', er v' = v → Tri (fun _ : Unit => ()) C A env (assign target env v') loc led (fun _ => K)
theorem ASG_name {x : Str} {pos : Pos} {v : Value} {K : Loc → Led → Prop} (h : SN C A env x v loc led K) : ASG C A env (.Name x pos) v loc led K := fun v' hv s S => PyProof.Rows.assign_Name (h v' hv s S)

noncomputable def turnK (C : Cx) (A : Around) (env : Env) (target : Expr) (body orelse : List Stmt) (K : Flow → Loc → Led → Prop) (Kb : Flow → Loc → Led → Prop) : Option Value → Loc → Led → Prop
  | none, l, d => EXS C A env orelse l d K
  | some v, l, d => ASG C A env target v l d (fun l d => EXS C A env body l d Kb)

theorem X_ForG {target iter : Expr} {body orelse : List Stmt} {pos : Pos} {K : Flow → Loc → Led → Prop} (I : Addr → Nat → Loc → Led → Prop)
    (h : EV C A env iter loc led (fun x l d => ∀ x', er x' = x → Tri er C A env (pyIter x') l d (fun it l d => ∃ a n, it = .ref a ∧ I a n l d)))
    (turn : ∀ a n l d, I a n l d → NX C A env a l d (turnK C A env target body orelse K (fun f l d => match f with
      | .next | .cont => ∃ m, m < n ∧ I a m l d
      | .brk => K .next l d
      | .ret v => K (.ret v) l d)))
    (hs : ∀ x, foldedSetIterable iter env x = pure x := by intro _; with_unfolding_all rfl)
    (ht : ∀ it v, letOwnedTupleGo target it v = pure () := by intro _ _; with_unfolding_all rfl) : EX C A env (.For target iter body orelse pos) loc led K := fun s S => by
  refine wpAny_For (wpAny_mono (h s S) (fun x s₁ ⟨l, d, k, S₁⟩ => wpAny_mono (k x rfl s₁ S₁) (fun it s₂ ⟨l₂, d₂, ⟨a, n, ha, hI⟩, S₂⟩ => ?_) fun _ _ e => e.elim) fun _ _ e => e.elim) hs
  rw [er_is_ref ha]
  refine codeAny_forLoop (fun n s => ∃ l d, I a n l d ∧ St C env l d s) (fun n s ⟨l, d, hI, S⟩ => ?_) n ⟨_, _, hI, S₂⟩ (ht _)
  refine wpAny_mono (turn a n l d hI s S) (fun o s₁ ⟨l₁, d₁, k, S₁⟩ => ?_) fun _ _ e => e.elim
  cases o with
  | none => exact wpAny_mono (k s₁ S₁) (fun f s₂ ⟨l₂, d₂, k₂, S₂⟩ => ⟨l₂, d₂, k₂, S₂⟩) fun _ _ e => e.elim
  | some v =>
    refine wpAny_mono (k v rfl s₁ S₁) (fun _ s₂ ⟨l₂, d₂, k₂, S₂⟩ => wpAny_mono (k₂ s₂ S₂) (fun f s₃ ⟨l₃, d₃, k₃, S₃⟩ => ?_) fun _ _ e => e.elim) fun _ _ e => e.elim
    cases f with
    | next => obtain ⟨m, hm, hI⟩ := k₃; exact ⟨m, hm, l₃, d₃, hI, S₃⟩
    | cont => obtain ⟨m, hm, hI⟩ := k₃; exact ⟨m, hm, l₃, d₃, hI, S₃⟩
    | brk => exact ⟨l₃, d₃, k₃, S₃⟩
    | ret v => exact ⟨l₃, d₃, k₃, S₃⟩

/-- behind a turn: the iterator stands where it was laid -/
noncomputable def forK (it : Addr) (P : Obj → Prop) (I : Loc → Led → Prop) (K : Flow → Loc → Led → Prop) : Flow → Loc → Led → Prop
  | .next, l, d => ∃ d', Sub (.obj it P :: d') d ∧ I l d'
  | .cont, l, d => ∃ d', Sub (.obj it P :: d') d ∧ I l d'
  | .brk, l, d => K .next l d
  | .ret v, l, d => K (.ret v) l d
theorem forK_next {it : Addr} {P : Obj → Prop} {I : Loc → Led → Prop} {K : Flow → Loc → Led → Prop} (h : ∃ d', Sub (.obj it P :: d') led ∧ I loc d') : forK it P I K .next loc led := h
theorem forK_ret {it : Addr} {P : Obj → Prop} {I : Loc → Led → Prop} {K : Flow → Loc → Led → Prop} {v : Value} (h : K (.ret v) loc led) : forK it P I K (.ret v) loc led := h

theorem Tri.dropTo {α β : Type} {ab : α → β} {t : Sem α} {K : β → Loc → Led → Prop} {led' : Led} (h : Sub led' led) (k : Tri ab C A env t loc led' K) : Tri ab C A env t loc led K :=
  fun s S => k s (S.drop h)

/-- the loop proper: an iterator that stands, a state for each turn -/
theorem for_core {target : Expr} {body orelse : List Stmt} {K : Flow → Loc → Led → Prop} {it : Addr} {n : Nat} {P : Nat → Obj → Prop} {I : Nat → Loc → Led → Prop} {R : Result → Shared → Prop}
    (step : ∀ k l d, k < n → I k l d → NX C A env it l (.obj it (P k) :: d) (turnK C A env target body orelse K (forK it (P (k + 1)) (I (k + 1)) K)))
    (fin : ∀ l d, I n l d → NX C A env it l (.obj it (P n) :: d) (turnK C A env target body orelse K (fun _ _ _ => False)))
    (ht : ∀ v, letOwnedTupleGo target (.ref it) v = pure ()) {l : Loc} {d : Led} {s : Shared} (hI : I 0 l d) (S : St C env l (.obj it (P 0) :: d) s)
    (hR : ∀ f l d s, K (erF f) l d → St C env l d s → R (.ok f) s) : codeAny C.M A (.forLoop target (.ref it) body orelse env) R s := by
  refine codeAny_forLoop (fun m s => ∃ k l d, m = n - k ∧ k ≤ n ∧ I k l d ∧ St C env l (.obj it (P k) :: d) s) ?_ n ⟨0, l, d, rfl, Nat.zero_le _, hI, S⟩ ht
  clear hI S
  rintro m s ⟨k, l, d, rfl, hk, hI, S⟩
  obtain ⟨Kb, hN, hKb⟩ : ∃ Kb, NX C A env it l (.obj it (P k) :: d) (turnK C A env target body orelse K Kb) ∧ ∀ f l d, Kb f l d → k < n ∧ forK it (P (k + 1)) (I (k + 1)) K f l d := by
    rcases Nat.lt_or_eq_of_le hk with h | rfl
    · exact ⟨_, step k l d h hI, fun _ _ _ q => ⟨h, q⟩⟩
    · exact ⟨_, fin l d hI, fun _ _ _ q => q.elim⟩
  refine wpAny_mono (hN s S) (fun o s₁ q => ?_) fun _ _ e => e.elim
  clear hN S
  obtain ⟨l₁, d₁, k₁, S₁⟩ := q
  cases o with
  | none =>
    refine wpAny_mono (k₁ s₁ S₁) (fun f s₂ q => ?_) fun _ _ e => e.elim
    obtain ⟨l₂, d₂, k₂, S₂⟩ := q
    exact hR _ _ _ _ k₂ S₂
  | some v =>
    refine wpAny_mono (k₁ v rfl s₁ S₁) (fun _ s₂ q => ?_) fun _ _ e => e.elim
    obtain ⟨l₂, d₂, k₂, S₂⟩ := q
    refine wpAny_mono (k₂ s₂ S₂) (fun f s₃ q => ?_) fun _ _ e => e.elim
    obtain ⟨l₃, d₃, k₃, S₃⟩ := q
    obtain ⟨hlt, k₃⟩ := hKb _ _ _ k₃
    have again : ∀ d₄, Sub (.obj it (P (k + 1)) :: d₄) d₃ → I (k + 1) l₃ d₄ → ∃ m, m < n - k ∧ ∃ k l d, m = n - k ∧ k ≤ n ∧ I k l d ∧ St C env l (.obj it (P k) :: d) s₃ := fun d₄ hs hI => ⟨n - (k + 1), by omega, k + 1, l₃, d₄, rfl, hlt, hI, S₃.drop hs⟩
    cases f with
    | next => obtain ⟨d₄, hs, hI⟩ := k₃; exact again d₄ hs hI
    | cont => obtain ⟨d₄, hs, hI⟩ := k₃; exact again d₄ hs hI
    | brk => exact hR .next _ _ _ k₃ S₃
    | ret v => exact hR (.ret v) _ _ _ k₃ S₃

/-- a loop over a list that stands -/
inductive LoopList (C : Cx) (A : Around) (env : Env) (x : Str) (body orelse : List Stmt) (K : Flow → Loc → Led → Prop) (v : Value) (l : Loc) (d : Led) : Prop
  | mk (t : Addr) (vs : List Value) (I : Nat → Loc → Led → Prop) (hv : v = .ref t) (h0 : I 0 l d) (h1 : ∀ k l d, I k l d → Ent.obj t (OList vs) ∈ d)
      (h2 : ∀ k l d it v, vs[k]? = some v → I k l d → SN C A env x v l (.obj it (OListIter t (k + 1)) :: d) (fun l d => EXS C A env body l d (forK it (OListIter t (k + 1)) (I (k + 1)) K)))
      (h3 : ∀ l d, I vs.length l d → EXS C A env orelse l d K)
theorem X_ForList {x : Str} {px pos : Pos} {iter : Expr} {body orelse : List Stmt} {K : Flow → Loc → Led → Prop} (hA : A.handled = none)
    (h : EV C A env iter loc led (fun v l d => LoopList C A env x body orelse K v l d))
    (hs : ∀ x, foldedSetIterable iter env x = pure x := by intro _; with_unfolding_all rfl) : EX C A env (.For (.Name x px) iter body orelse pos) loc led K := fun s S => by
  refine wpAny_For (wpAny_mono (h s S) (fun v s₁ q => ?_) fun _ _ e => e.elim) hs
  clear h S
  obtain ⟨l, d, q, S₁⟩ := q
  obtain ⟨t, vs, I, hv, h0, h1, h2, h3⟩ := q
  rw [er_is_ref hv]
  obtain ⟨o, ho, hp⟩ := S₁.get (h1 _ _ _ h0)
  obtain ⟨items, hi, he⟩ := hp.isList ho
  exact wpAny_pyIter_list hi (for_core (P := fun k => OListIter t k) (n := vs.length) (I := I)
    (fun k l d hk hI => N_list_item LUpd.hit (List.mem_cons_of_mem _ (h1 _ _ _ hI)) (List.getElem?_eq_getElem hk) (ASG_name (h2 k l d _ _ (List.getElem?_eq_getElem hk) hI)))
    (fun l d hI => N_list_end hA Pick.hit (List.mem_cons_of_mem _ (h1 _ _ _ hI)) (by simp) (h3 _ _ hI)) (by intro _; with_unfolding_all rfl) h0
    (S₁.push (P := OListIter t 0) (o := { cls := .type "list_iterator", data := .fields #[.ref t, rawInt 0] }) ⟨rfl, rfl⟩ rfl rfl (.inl (by simp))) (fun f l d s k S => ⟨l, d, k, S⟩))

/-- a loop over a list backwards: the iterator by reversed() -/
inductive LoopRev (C : Cx) (A : Around) (env : Env) (x : Str) (body orelse : List Stmt) (K : Flow → Loc → Led → Prop) (v : Value) (l : Loc) (d : Led) : Prop
  | mk (a t : Addr) (vs : List Value) (I : Nat → Loc → Led → Prop) (d' : Led) (hv : v = .ref a) (hsub : Sub (.obj a (ORevIter t ((vs.length : Int) - 1)) :: d') d) (h0 : I vs.length l d') (h1 : ∀ k l d, I k l d → Ent.obj t (OList vs) ∈ d)
      (h2 : ∀ k l d it v, vs[k]? = some v → I (k + 1) l d → SN C A env x v l (.obj it (ORevIter t ((k : Int) - 1)) :: d) (fun l d => EXS C A env body l d (forK it (ORevIter t ((k : Int) - 1)) (I k) K)))
      (h3 : ∀ l d, I 0 l d → EXS C A env orelse l d K)
theorem X_ForRev {x : Str} {px pos : Pos} {iter : Expr} {body orelse : List Stmt} {K : Flow → Loc → Led → Prop} (hA : A.handled = none)
    (h : EV C A env iter loc led (fun v l d => LoopRev C A env x body orelse K v l d))
    (hs : ∀ x, foldedSetIterable iter env x = pure x := by intro _; with_unfolding_all rfl) : EX C A env (.For (.Name x px) iter body orelse pos) loc led K := fun s S => by
  refine wpAny_For (wpAny_mono (h s S) (fun v s₁ q => ?_) fun _ _ e => e.elim) hs
  clear h S
  obtain ⟨l, d, q, S₁⟩ := q
  obtain ⟨a, t, vs, I, d', hv, hsub, h0, h1, h2, h3⟩ := q
  rw [er_is_ref hv]
  have S₂ := S₁.drop hsub
  obtain ⟨o, ho, hp⟩ := S₂.get List.mem_cons_self
  refine wpAny_pyIter_revIter ⟨o, ho, hp.1, hp.2⟩ (for_core (P := fun k => ORevIter t (((vs.length - k : Nat) : Int) - 1)) (n := vs.length) (I := fun k => I (vs.length - k)) (fun k l d hk hI => ?_)
    (fun l d hI => ?_) (by intro _; with_unfolding_all rfl) (by exact h0) (by exact S₂) (fun f l d s k S => ⟨l, d, k, S⟩))
  · have e : vs.length - k = (vs.length - (k + 1)) + 1 := by omega
    have hlt : vs.length - (k + 1) < vs.length := by omega
    rw [e] at hI ⊢
    generalize vs.length - (k + 1) = j at *
    rw [show (((j + 1 : Nat) : Int) - 1) = (j : Int) by omega]
    exact N_rev_item LUpd.hit (List.mem_cons_of_mem _ (h1 _ _ _ hI)) (List.getElem?_eq_getElem hlt) (ASG_name (h2 j l d _ _ (List.getElem?_eq_getElem hlt) hI))
  · rw [Nat.sub_self] at hI ⊢
    exact N_rev_end hA Pick.hit (h3 _ _ hI)

/-- a loop over range(n) -/
inductive LoopRange (C : Cx) (A : Around) (env : Env) (x : Str) (body orelse : List Stmt) (K : Flow → Loc → Led → Prop) (v : Value) (l : Loc) (d : Led) : Prop
  | mk (r : Addr) (n : Nat) (I : Nat → Loc → Led → Prop) (d' : Led) (hv : v = .ref r) (hn : n < 2 ^ 62) (hsub : Sub (.obj r (ORange 0 n 1) :: d') d) (h0 : I 0 l d')
      (h2 : ∀ k l d it, k < n → I k l d → SN C A env x (.int k 0) l (.obj it (ORangeIter ((k + 1 : Nat) : Int) ((n : Int) - ((k + 1 : Nat) : Int)) 1) :: d) (fun l d => EXS C A env body l d (forK it (ORangeIter ((k + 1 : Nat) : Int) ((n : Int) - ((k + 1 : Nat) : Int)) 1) (I (k + 1)) K)))
      (h3 : ∀ l d, I n l d → EXS C A env orelse l d K)
theorem X_ForRange {x : Str} {px pos : Pos} {iter : Expr} {body orelse : List Stmt} {K : Flow → Loc → Led → Prop} (hA : A.handled = none)
    (h : EV C A env iter loc led (fun v l d => LoopRange C A env x body orelse K v l d))
    (hs : ∀ x, foldedSetIterable iter env x = pure x := by intro _; with_unfolding_all rfl) : EX C A env (.For (.Name x px) iter body orelse pos) loc led K := fun s S => by
  refine wpAny_For (wpAny_mono (h s S) (fun v s₁ q => ?_) fun _ _ e => e.elim) hs
  clear h S
  obtain ⟨l, d, q, S₁⟩ := q
  obtain ⟨r, n, I, d', hv, hn, hsub, h0, h2, h3⟩ := q
  rw [er_is_ref hv]
  have S₂ := S₁.drop hsub
  obtain ⟨o, ho, t, u, w, rfl⟩ := S₂.get List.mem_cons_self
  have hsz : Builtin.Range.rangeSize 0 (n : Int) 1 = (n : Int) := by
    unfold Builtin.Range.rangeSize; simp; try omega
  have hsm : Builtin.Range.small 0 (n : Int) 1 = true := by
    unfold Builtin.Range.small Builtin.Range.rangeFitsLong
    rw [hsz]
    simp; omega
  refine wpAny_pyIter_range ho hsm (for_core (P := fun k => ORangeIter (k : Int) ((n : Int) - (k : Int)) 1) (n := n) (I := I) (fun k l d hk hI => ?_)
    (fun l d hI => N_range_end hA Pick.hit (by omega) (h3 _ _ hI)) (by intro _; with_unfolding_all rfl) h0
    ((S₂.push (P := ORangeIter ((0 : Nat) : Int) ((n : Int) - ((0 : Nat) : Int)) 1) (o := { cls := .type "range_iterator", data := .fields #[rawInt 0, rawInt (Builtin.Range.rangeSize 0 (n : Int) 1), rawInt 1] }) (by
      show _ = _
      rw [hsz]; simp) rfl rfl (.inl (by simp))).drop (Sub.pick Pick.hit (Sub.skip Sub.refl))) (fun f l d s k S => ⟨l, d, k, S⟩))
  have e1 : ((k : Int) + 1) = ((k + 1 : Nat) : Int) := by omega
  have e2 : ((n : Int) - (k : Int) - 1) = ((n : Int) - ((k + 1 : Nat) : Int)) := by omega
  exact N_range_item (by rw [e1, e2]; exact LUpd.hit) (by omega) (ASG_name (h2 k l d _ hk hI))
end
end
section
open PySem.Builtin.Int (intBits)
set_option maxRecDepth 100000
set_option linter.unusedVariables false
section
variable {C : Cx} {A : Around} {env : Env} {loc : Loc} {led : Led} {gl : List (Str × Value)} {cl : List (Str × Addr)}

theorem in_nil {P : Str × Option Value → Prop} : ∀ p ∈ ([] : Loc), P p := fun p h => by cases h
theorem in_hit {l : Loc} {p : Str × Option Value} {pn : List Str} {vs : List (Option Value)} (h : p ∈ pn.zip vs) (t : ∀ p ∈ l, (p ∈ pn.zip vs) ∨ (p.1 ∉ pn ∧ p.2 = none)) : ∀ q ∈ p :: l, (q ∈ pn.zip vs) ∨ (q.1 ∉ pn ∧ q.2 = none) := fun q hq => by
  rcases List.mem_cons.mp hq with rfl | hq
  · exact .inl h
  · exact t q hq
theorem in_miss {l : Loc} {x : Str} {pn : List Str} {vs : List (Option Value)} (h : x ∉ pn) (t : ∀ p ∈ l, (p ∈ pn.zip vs) ∨ (p.1 ∉ pn ∧ p.2 = none)) : ∀ q ∈ (x, none) :: l, (q ∈ pn.zip vs) ∨ (q.1 ∉ pn ∧ q.2 = none) := fun q hq => by
  rcases List.mem_cons.mp hq with rfl | hq
  · exact .inr ⟨h, rfl⟩
  · exact t q hq
theorem zip_hit {x : Str} {v : Value} {pn : List Str} {vs : List Value} : (x, some v) ∈ (x :: pn).zip ((v :: vs).map some) := List.mem_cons_self
theorem zip_tail {x y : Str} {v : Option Value} {u : Value} {pn : List Str} {vs : List Value} (h : (x, v) ∈ pn.zip (vs.map some)) : (x, v) ∈ (y :: pn).zip ((u :: vs).map some) := List.mem_cons_of_mem _ h
theorem isFn_OFun {fd : FuncData} : ∀ o, OFun fd o → IsFn o := fun o h => ⟨fd, h⟩
theorem emod_le' {x y : Int} (h0 : 0 ≤ x) (hy : 0 < y) : x % y ≤ x := by
  have e := Int.emod_add_mul_ediv x y
  have : 0 ≤ y * (x / y) := Int.mul_nonneg (Int.le_of_lt hy) (Int.ediv_nonneg h0 (Int.le_of_lt hy))
  lia
noncomputable def topFns : List Nat := [22, 29, 36, 43, 50, 57, 64, 71, 78, 85, 92, 99, 106, 113]
theorem topFns_ok (P : Params) : topFns.all (fnIn (hpK P)) = true := by kernel_rfl
theorem CxP.isfn' {C : Cx} (H : CxP C) {f : Addr} (h : topFns.any (fun x => Nat.beq x f) = true) : ∃ o, C.h₀.get? f = some o ∧ IsFn o := by
  refine CxP.isfn H ?_
  obtain ⟨x, hx, e⟩ := List.any_eq_true.mp h
  rw [← Nat.eq_of_beq_eq_true e]
  exact List.all_eq_true.mp (topFns_ok _) x hx
theorem sizeLine_lt : (sizeLine : Int) < 2 ^ 63 := by decide

/-! ## rules whose side goals come behind the match -/
/- inductive, not ∃: an ∃'s predicate bears the whole state once more, a binder deeper -/
inductive LocE (x : Str) (loc : Loc) (led : Led) (K : Value → Loc → Led → Prop) : Prop
  | mk (v : Value) (hm : (x, some v) ∈ loc) (h : K v loc led)
theorem R_localE {x : Str} {pos : Pos} {K : Value → Loc → Led → Prop} (h : LocE x loc led K) : EV C A env (.Name x pos) loc led K := h.rec fun _ a b => R_local a b
inductive GlobE (C : Cx) (env : Env) (x : Str) (loc : Loc) (led : Led) (K : Value → Loc → Led → Prop) : Prop
  | mk (gl : List (Str × Value)) (cl : List (Str × Addr)) (v : Value) (E : EnvOk C env gl cl) (hm : (x, v) ∈ gl) (h : K v loc led)
theorem R_globE {x : Str} {pos : Pos} {K : Value → Loc → Led → Prop} (h : GlobE C env x loc led K) : EV C A env (.Name x pos) loc led K := h.rec fun _ _ _ a b c => R_glob a b c
inductive CellE (C : Cx) (env : Env) (x : Str) (loc : Loc) (led : Led) (K : Value → Loc → Led → Prop) : Prop
  | mk (gl : List (Str × Value)) (cl : List (Str × Addr)) (c : Addr) (v : Value) (E : EnvOk C env gl cl) (hm : (x, c) ∈ cl) (hv : Ent.obj c (OCell (some v)) ∈ led) (h : K v loc led)
theorem R_cellE {x : Str} {pos : Pos} {K : Value → Loc → Led → Prop} (h : CellE C env x loc led K) : EV C A env (.Name x pos) loc led K := h.rec fun _ _ _ _ a b c d => R_cell a b c d
inductive SetE (x : Str) (v : Value) (loc : Loc) (led : Led) (K : Loc → Led → Prop) : Prop
  | mk (loc' : Loc) (hs : LSet x (some v) loc loc') (h : K loc' led)
theorem SN_localE {x : Str} {v : Value} {K : Loc → Led → Prop} (h : SetE x v loc led K) : SN C A env x v loc led K := h.rec fun _ a b => SN_local a b
inductive SetCellE (C : Cx) (env : Env) (x : Str) (v : Value) (loc : Loc) (led : Led) (K : Loc → Led → Prop) : Prop
  | mk (gl : List (Str × Value)) (cl : List (Str × Addr)) (c : Addr) (v₀ : Option Value) (led' : Led) (E : EnvOk C env gl cl) (hm : (x, c) ∈ cl) (hk : env.kindOf x = some .cell) (hu : LUpd c (OCell (some v)) (OCell v₀) led led') (h : K loc led')
theorem SN_cellE {x : Str} {v : Value} {K : Loc → Led → Prop} (h : SetCellE C env x v loc led K) : SN C A env x v loc led K := h.rec fun _ _ _ _ _ a b c d e => SN_cell a b c d e
inductive AugE (C : Cx) (A : Around) (env : Env) (x : Str) (op : Operator) (value : Expr) (loc : Loc) (led : Led) (K : Flow → Loc → Led → Prop) : Prop
  | mk (old : Value) (hm : (x, some old) ∈ loc) (h : EV C A env value loc led (fun v l d => Op2 C A env (inplaceOp op) old v l d (fun r l d => SN C A env x r l d (fun l d => K .next l d))))
theorem X_AugAssignE {x : Str} {pos' pos : Pos} {op : Operator} {value : Expr} {K : Flow → Loc → Led → Prop} (h : AugE C A env x op value loc led K) :
    EX C A env (.AugAssign (.Name x pos') op value pos) loc led K := h.rec fun _ a b => X_AugAssign a b
theorem R_it_plainE {e : Expr} {K : Bool → Loc → Led → Prop} (h : isTrue e env (eval e env) = (do let v ← eval e env; standAt e.pos; holding [v] (truthy v)) ∧ EV C A env e loc led (fun v l d => TB C A env truthy v l d K)) : IT C A env e loc led K := R_it_plain h.2 h.1
inductive TupE (C : Cx) (A : Around) (env : Env) (elts : List Expr) (v : Value) (l : Loc) (d : Led) (K : Flow → Loc → Led → Prop) : Prop
  | mk (t : Addr) (vs : List Value) (hv : v = .ref t) (hm : Ent.obj t (OTup vs) ∈ d) (hl : elts.length = vs.length) (h : AIOE C A env elts vs l d (fun l d => K .next l d))
theorem X_AssignTupE {elts : List Expr} {k : Nat} {tpos pos : Pos} {value : Expr} {K : Flow → Loc → Led → Prop}
    (h : A.handled = none ∧ swapsWithSole [.Tuple elts k tpos] value pos.line env = pure false ∧ swappedStores [.Tuple elts k tpos] value env = pure none ∧ (assignEach elts env).length = elts.length ∧ (assignEach elts env).findIdx? (·.1) = none ∧
      EV C A env value loc led (fun v l d => TupE C A env elts v l d K)) :
    EX C A env (.Assign [.Tuple elts k tpos] value pos) loc led K := let ⟨a, b, c, d, e, f⟩ := h; X_AssignTup a (f.mono fun _ _ _ q => q.rec fun t vs a b c d => ⟨t, vs, a, b, c, d⟩) b c d e
theorem X_AssignTup_swapped2E {elts : List Expr} {k : Nat} {tpos pos : Pos} {value : Expr} {K : Flow → Loc → Led → Prop}
    (h : A.handled = none ∧ swapsWithSole [.Tuple elts k tpos] value pos.line env = pure false ∧ ∃ x y, swappedStores [.Tuple elts k tpos] value env = pure (some [x, y]) ∧
      EV C A env value loc led (fun v l d => ∃ t u w, v = .ref t ∧ Ent.obj t (OTup [u, w]) ∈ d ∧ SN C A env y w l d (fun l d => SN C A env x u l d (fun l d => K .next l d)))) :
    EX C A env (.Assign [.Tuple elts k tpos] value pos) loc led K := let ⟨a, b, _, _, c, d⟩ := h; X_AssignTup_swapped2 a c d b
theorem APP_fnE {pos : Pos} {a : Addr} {e : Expr} {rest : List Expr} {K : Value → Loc → Led → Prop}
    (h : (∃ o, C.h₀.get? a = some o ∧ IsFn o) ∧ starEach (e :: rest) env = (false, eval e env) :: starEach rest env ∧ ARGS C A env pos (e :: rest) loc led (fun vs l d => CallT C A env (.ref a) vs l d K)) : APP C A env pos (.ref a) (e :: rest) loc led K :=
  APP_fn h.1 h.2.2 h.2.1
theorem APP_cloE {pos : Pos} {a : Addr} {e : Expr} {rest : List Expr} {K : Value → Loc → Led → Prop}
    (h : starEach (e :: rest) env = (false, eval e env) :: starEach rest env ∧ ARGS C A env pos (e :: rest) loc led (fun vs l d => (∃ P, Ent.obj a P ∈ d ∧ ∀ o, P o → IsFn o) ∧ CallT C A env (.ref a) vs l d K)) : APP C A env pos (.ref a) (e :: rest) loc led K :=
  APP_clo h.2 h.1

/-! ## exact lists -/
theorem St.list {s : Shared} (S : St C env loc led s) {a : Addr} {vs : List Value} (h : Ent.obj a (OList vs) ∈ led) :
    ∃ (items : Array Value) (n : Nat), s.heap.get? a = some { cls := .type "list", dict := none, data := .seq items n, slots := #[] } ∧ erL items.toList = vs ∧ items.size = vs.length := by
  obtain ⟨o, ho, items, n, rfl, h3⟩ := S.get h
  exact ⟨items, n, ho, h3, by rw [← h3]; simp⟩
theorem St.tup {s : Shared} (S : St C env loc led s) {a : Addr} {vs : List Value} (h : Ent.obj a (OTup vs) ∈ led) :
    ∃ (items : Array Value) (n : Nat), s.heap.get? a = some { cls := .type "tuple", dict := none, data := .seq items n, slots := #[] } ∧ erL items.toList = vs ∧ items.size = vs.length := by
  obtain ⟨o, ho, items, n, rfl, h3⟩ := S.get h
  exact ⟨items, n, ho, h3, by rw [← h3]; simp⟩
theorem isl {h : Heap} {a : Addr} {items : Array Value} {n : Nat} (g : h.get? a = some { cls := .type "list", dict := none, data := .seq items n, slots := #[] }) : h.IsList a items := ⟨_, g, rfl, n, rfl⟩
theorem ist {h : Heap} {a : Addr} {items : Array Value} {n : Nat} (g : h.get? a = some { cls := .type "tuple", dict := none, data := .seq items n, slots := #[] }) : IsTup h a items := ⟨_, g, rfl, n, rfl⟩
theorem nocode_seq {o : Obj} {items : Array Value} {n : Nat} (h : o.data = .seq items n) : NoCode o := .inr fun vs e => by rw [h] at e; cases e

/-- a list of the ledger is changed in place -/
theorem St.list_upd {s : Shared} (S : St C env loc led s) {a : Addr} {vs vs' : List Value} {led' : Led} (hu : LUpd a (OList vs') (OList vs) led led') {items : Array Value} {n : Nat}
    (g : s.heap.get? a = some { cls := .type "list", dict := none, data := .seq items n, slots := #[] }) (f : Array Value → Array Value) (hf : erL (f items).toList = vs') {t : Nat} :
    St C env loc led' { s with heap := s.heap.update a (Obj.mapSeq f), toks := t } := by
  exact S.upd hu (s' := { s with heap := s.heap.update a (Obj.mapSeq f), toks := t }) (Heap.SameBut.update ..) (Heap.get?_update_self _ g rfl) ⟨_, _, rfl, hf⟩ rfl rfl (.inr fun vs e => by cases e)

/-! ## len -/
theorem B_len_list {a : Addr} {vs : List Value} {K : Value → Loc → Led → Prop} (hm : Ent.obj a (OList vs) ∈ led) (hn : vs.length ≤ sizeLine) (h : K (.int vs.length 0) loc led) :
    CallT C A env (.builtin "len") [.ref a] loc led K := fun args' ha s S => by
  obtain ⟨x, rfl⟩ := erL1 ha
  simp only [List.map_cons, List.map_nil, List.cons.injEq, and_true] at ha
  rw [er_is_ref ha]
  obtain ⟨items, n, g, e, hs⟩ := S.list hm
  exact call_len_list (isl g) (by rw [hs]; exact Int.lt_of_le_of_lt (Int.ofNat_le.mpr hn) sizeLine_lt) ⟨_, _, by rw [← hs] at h; exact h, S.toks⟩

theorem T_list {a : Addr} {vs : List Value} {K : Bool → Loc → Led → Prop} (hm : Ent.obj a (OList vs) ∈ led) (hn : vs.length ≤ sizeLine) (h : K (!vs.isEmpty) loc led) : TB C A env truthy (.ref a) loc led K := fun v hv s S => by
  rw [er_is_ref hv]
  obtain ⟨items, n, g, e, hs⟩ := S.list hm
  have q : (!items.isEmpty) = !vs.isEmpty := by
    rw [← e, List.isEmpty_map, Array.isEmpty_toList]
  exact wpAny_truthy_list (isl g) (by rw [hs]; exact Int.lt_of_le_of_lt (Int.ofNat_le.mpr hn) sizeLine_lt) ⟨_, _, by rw [← q] at h; exact h, S.toks⟩

/-! ## subscripts -/
noncomputable def SUB (C : Cx) (A : Around) (env : Env) (value slice : Expr) (o i : Value) (loc : Loc) (led : Led) (K : Value → Loc → Led → Prop) : Prop :=
  ∀ o' i', er o' = o → er i' = i → Tri er C A env (subscriptTail value slice o' i') loc led K
theorem R_Sub {value slice : Expr} {pos : Pos} {K : Value → Loc → Led → Prop}
    (h : EV C A env value loc led (fun o l d => EV C A env slice l d (fun i l d => SUB C A env value slice o i l d K))) : EV C A env (.Subscript value slice pos) loc led K := fun s S =>
  Subscript_ (wpAny_mono (h s S) (fun o s₁ ⟨_, _, k, S₁⟩ => wpAny_mono (k s₁ S₁) (fun i s₂ ⟨_, _, k₂, S₂⟩ => k₂ o i rfl rfl s₂ S₂) fun _ _ e => e) fun _ _ e => e)

theorem SUB_list {value slice : Expr} {a : Addr} {vs : List Value} {i : Int} {v : Value} {K : Value → Loc → Led → Prop} (j : Nat) (hm : Ent.obj a (OList vs) ∈ led) (hv : vs[j]? = some v)
    (hi : i = j ∨ i = (j : Int) - vs.length) (hn : vs.length ≤ sizeLine) (h : K v loc led)
    (hs : ∀ a k u, subscripted slice false (.ref a) (.int k u) = operate [.ref a, .int k u] (getItem (.ref a) (.int k u)) := by intro _ _ _; with_unfolding_all rfl)
    (ht : ∀ a r, letTemporaryGo value (.ref a) r = pure () := by intro _ _; with_unfolding_all rfl) : SUB C A env value slice (.ref a) (.int i 0) loc led K := fun o' i' ho hi' s S => by
  rw [er_is_ref ho]
  obtain ⟨t, rfl⟩ := er_is_int hi'
  obtain ⟨items, n, g, e, hsz⟩ := S.list hm
  obtain ⟨x, hx, hxv⟩ := erL_get e hv
  have hj : j < vs.length := (List.getElem?_eq_some_iff.mp hv).1
  have hz := Int.lt_of_le_of_lt (Int.ofNat_le.mpr hn) sizeLine_lt
  refine subscriptTail_builtin (isl g).typeIs slot_list_getitem.lookup ?_ (hs _ _ _) (ht _)
  rcases hi with rfl | rfl
  · exact wpAny_getItem_list (isl g) (by lia) (by lia) (by simpa using hx) ⟨_, _, by rw [hxv]; exact h, S⟩
  · exact wpAny_getItem_list_neg (isl g) (by lia) (by lia) (by lia) (by rw [hsz, show ((j : Int) - vs.length + vs.length).toNat = j by lia]; exact hx) ⟨_, _, by rw [hxv]; exact h, S⟩

/-! ## storing an item -/
noncomputable def SETI (C : Cx) (A : Around) (env : Env) (o i v : Value) (loc : Loc) (led : Led) (K : Loc → Led → Prop) : Prop :=
  ∀ o' i' v', er o' = o → er i' = i → er v' = v → Tri (fun _ : Unit => ()) C A env (setItem o' i' v') loc led (fun _ => K)
theorem X_AssignSub {o i value : Expr} {pos' pos : Pos} {K : Flow → Loc → Led → Prop}
    (h : EV C A env value loc led (fun v l d => EV C A env o l d (fun ov l d => EV C A env i l d (fun iv l d => SETI C A env ov iv v l d (fun l d => K .next l d)))))
    (hs : swapsWith value (some (.Subscript o i pos')) pos.line env = pure false := by with_unfolding_all rfl) : EX C A env (.Assign [.Subscript o i pos'] value pos) loc led K := fun s S =>
  wpAny_Assign_Subscript (wpAny_mono (h s S) (fun v s₁ ⟨_, _, k, S₁⟩ => wpAny_mono (k s₁ S₁) (fun ov s₂ ⟨_, _, k₂, S₂⟩ => wpAny_mono (k₂ s₂ S₂) (fun iv s₃ ⟨_, _, k₃, S₃⟩ =>
    wpAny_mono (k₃ ov iv v rfl rfl rfl s₃ S₃) (fun _ _ x => x) fun _ _ e => e) fun _ _ e => e) fun _ _ e => e) fun _ _ e => e) hs

theorem setItem_list {M' : Program} {w : World} {E : Value → Shared → Prop} {s : Shared} {l : Addr} {items : Array Value} {n : Nat} {k : Int} {t : Tok} {v : Value} {Q : Unit → Shared → Prop}
    (ho : s.heap.get? l = some { cls := .type "list", dict := none, data := .seq items n, slots := #[] }) (h0 : 0 ≤ k) (hfit : k < 2 ^ 63) (hn : k < items.size)
    (h : Q () { s with heap := s.heap.update l (Obj.mapSeq (·.setIfInBounds k.toNat v)) }) : wpAny (model M' w) A (setItem (.ref l) (.int k t) v) Q E s := by
  have hl := isl ho
  unfold setItem
  try with_reducible refine wpAny_holding ?_
  first | refine wpAny_bind (wpAny_pure ?_) | skip
  refine wpAny_bind (wpAny_sequenceKey hl.typeIs (by decide) ?_)
  refine wpAny_bind (wpAny_callSpecial?_slot (name := Str.ofString "__setitem__") hl.typeIs slot_list_setitem
    (wpAny_call_entry slot_list_setitem hl.typeIs entry_list_setitem ?_ (args_list_setitem _ _ _)))
  show wpAny _ _ (Builtin.List.listSubscript? (.int k t) >>= _) _ _ s
  refine wpAny_bind (wpAny_listSubscript_int (fitsIndex_of h0 hfit) ?_)
  clear hfit
  obtain ⟨j, rfl⟩ := Int.eq_ofNat_of_zero_le h0
  have hj : j < items.size := by lia
  have hx' : items[j]? = some items[j] := Array.getElem?_eq_getElem hj
  show wpAny _ _ ((seqItemAt l j >>= fun r => pure (r.map (j, ·))) >>= _) _ _ s
  refine wpAny_bind (wpAny_bind (wpAny_seqItemAt ho rfl (wpAny_pure ?_)))
  rw [hx']
  show wpAny _ _ (setSeqItemAt l j v >>= _) _ _ s
  refine wpAny_bind (wpAny_setSeqItemAt ho rfl ?_)
  first
    | exact wpAny_bind (wpAny_pure (wpAny_pure ⟨.none, rfl, wpAny_pure h⟩))
    | exact wpAny_pure ⟨.none, rfl, wpAny_pure h⟩

theorem SETI_list {a : Addr} {vs : List Value} {i : Int} {v : Value} {led' : Led} {K : Loc → Led → Prop} (j : Nat) (hu : LUpd a (OList (vs.set j v)) (OList vs) led led') (hi : i = j) (hj : j < vs.length)
    (hn : vs.length ≤ sizeLine) (h : K loc led') : SETI C A env (.ref a) (.int i 0) v loc led K := fun o' i' v' ho hi' hv s S => by
  rw [er_is_ref ho]
  obtain ⟨t, rfl⟩ := er_is_int hi'
  obtain ⟨items, n, g, e, hsz⟩ := S.list hu.mem
  have hz := Int.lt_of_le_of_lt (Int.ofNat_le.mpr hn) sizeLine_lt
  subst hi
  refine setItem_list g (by lia) (by lia) (by lia) ⟨_, _, h, ?_⟩
  exact S.list_upd hu g (·.setIfInBounds j v') (by rw [Array.toList_setIfInBounds, ← e, ← hv]; simp [List.map_set]) (t := s.toks)

/-! ## an expression statement -/
theorem X_Expr {e : Expr} {pos : Pos} {K : Flow → Loc → Led → Prop} (h : EV C A env e loc led (fun _ l d => K .next l d))
    (hi : interactive env = false := by with_unfolding_all rfl) (hs : swapsWith e none pos.line env = pure false := by with_unfolding_all rfl) : EX C A env (.Expr e pos) loc led K := fun s S =>
  wpAny_Expr_any (wpAny_mono (h s S) (fun _ _ ⟨l, d, k, S₁⟩ => ⟨l, d, k, S₁⟩) fun _ _ e => e) hi hs

/-! ## methods of lists -/
theorem B_append {a : Addr} {vs : List Value} {v : Value} {led' : Led} {K : Value → Loc → Led → Prop} (hu : LUpd a (OList (vs ++ [v])) (OList vs) led led') (hn : vs.length ≤ sizeLine) (h : K .none loc led') :
    CallT C A env (.builtin "list.append") [.ref a, v] loc led K := fun args' ha s S => by
  obtain ⟨x, y, rfl⟩ := erL2 ha
  simp only [List.map_cons, List.map_nil, List.cons.injEq, and_true] at ha
  rw [er_is_ref ha.1]
  obtain ⟨items, n, g, e, hsz⟩ := S.list hu.mem
  refine call_meets slot_list_append (isl g).typeIs entry_list_append (args_list_append _ _) (AutoListH.list_append_list_val_0 a items n y (by rw [hsz]; exact hn)) ⟨g, _, _, h, ?_⟩
  exact S.list_upd hu g (·.push y) (by rw [Array.toList_push, ← e, ← ha.2]; simp)
theorem B_reverse {a : Addr} {vs : List Value} {led' : Led} {K : Value → Loc → Led → Prop} (hu : LUpd a (OList vs.reverse) (OList vs) led led') (hn : vs.length ≤ sizeLine) (h : K .none loc led') :
    CallT C A env (.builtin "list.reverse") [.ref a] loc led K := fun args' ha s S => by
  obtain ⟨x, rfl⟩ := erL1 ha
  simp only [List.map_cons, List.map_nil, List.cons.injEq, and_true] at ha
  rw [er_is_ref ha]
  obtain ⟨items, n, g, e, hsz⟩ := S.list hu.mem
  refine call_meets F.slot_list_reverse (isl g).typeIs F.entry_list_reverse (F.args_list_reverse_1 _) (AutoListH.list_reverse_list_0 a items n (by rw [hsz]; exact hn)) ⟨g, _, _, h, ?_⟩
  exact S.list_upd hu g (·.reverse) (by rw [Array.toList_reverse, ← e]; simp)

theorem R_append {o e : Expr} {apos pos : Pos} {K : Value → Loc → Led → Prop}
    (h : EV C A env o loc led (fun v l d => ∃ a vs, v = .ref a ∧ Ent.obj a (OList vs) ∈ d ∧ ARGS C A env pos [e] l d (fun ws l d => CallT C A env (.builtin "list.append") (.ref a :: ws) l d K)))
    (hbase : attributeBase o "append" env (eval o env) = eval o env := by with_unfolding_all rfl)
    (he : starEach [e] env = (false, eval e env) :: starEach [] env := by with_unfolding_all rfl)
    (hline : (apos.endLine == pos.line) = true := by with_unfolding_all rfl) : EV C A env (.Call (.Attribute o "append" apos) [e] [] pos) loc led K :=
  R_Meth F.plainAttrs_list slot_list_append F.type_list_append (h.mono fun v l d ⟨a, vs, hv, hm, k⟩ => by subst hv; exact ⟨TyOk_list hm, MAPP_cons k he⟩) hbase (by rw [he]; rfl) hline
theorem R_reverse {o : Expr} {apos pos : Pos} {K : Value → Loc → Led → Prop}
    (h : EV C A env o loc led (fun v l d => ∃ a vs, v = .ref a ∧ Ent.obj a (OList vs) ∈ d ∧ CallT C A env (.builtin "list.reverse") [.ref a] l d K))
    (hbase : attributeBase o "reverse" env (eval o env) = eval o env := by with_unfolding_all rfl)
    (hline : (apos.endLine == pos.line) = true := by with_unfolding_all rfl) : EV C A env (.Call (.Attribute o "reverse" apos) [] [] pos) loc led K :=
  R_Meth F.plainAttrs_list F.slot_list_reverse F.type_list_reverse (h.mono fun v l d ⟨a, vs, hv, hm, k⟩ => by subst hv; exact ⟨TyOk_list hm, MAPP_nil k⟩) hbase rfl hline

/-! ## list * int -/
theorem foldl_rep (xs : Array Value) : ∀ (k : Nat) (acc : Array Value), (List.foldl (fun x1 x2 => x1 ++ x2) acc (List.replicate k xs)).toList = acc.toList ++ (List.replicate k xs.toList).flatten
  | 0, acc => by simp
  | k + 1, acc => by rw [List.replicate_succ, List.foldl_cons, foldl_rep xs k]; simp [List.replicate_succ]
theorem O_mul_list {a : Addr} {vs : List Value} {x : Int} {K : Value → Loc → Led → Prop} (hm : Ent.obj a (OList vs) ∈ led) (hlo : 0 ≤ x) (hhi : x < 2 ^ 63) (hsz : vs.length * x.toNat ≤ 2 ^ 24) (hne : vs ≠ [])
    (h : ∀ b, K (.ref b) loc (.obj b (OList (List.replicate x.toNat vs).flatten) :: led)) : Op2 C A env (binaryOp .Mult) (.ref a) (.int x 0) loc led K := fun p q hp hq s S => by
  rw [er_is_ref hp]
  obtain ⟨u, rfl⟩ := er_is_int hq
  obtain ⟨items, n, g, e, hz⟩ := S.list hm
  have hz' : items.isEmpty = false := by
    rw [← Array.isEmpty_toList]; cases q : items.toList with
    | nil => rw [q] at e; exact absurd e.symm hne
    | cons _ _ => rfl
  refine wpAny_binaryOp_repeat_ref (T := "list") (U := "int") (by decide) ⟨_, g, rfl⟩ (fun s' => typeIs_int s' x u) noFill_list_mul F.fills_int_mul F.slot_int_rmul repeat_list F.slot_int_index.lookup
    (call_meets F.slot_int_rmul (typeIs_int s x u) F.entry_int_rmul (F.args_int_rmul_2 _ _) (int___rmul___int_list x u a items n)
      ⟨g, rfl, ⟨_, g, rfl⟩, call_meets F.slot_list_mul ⟨_, g, rfl⟩ F.entry_list_mul (F.args_list_mul_2 _ _)
        (AutoListH.list___mul___list_int_3 a items n x u (by simp [Builtin.List.listFitsIndex]; lia) (by rw [hz]; lia) (by rw [hz]; simp [Builtin.List.listTooLong, sizeLine]; lia))
        ⟨g, loc, _, h _, ?_⟩⟩)
  refine S.push ⟨_, _, rfl, ?_⟩ rfl rfl
  rw [hz', foldl_rep, ← e]
  simp [List.map_flatten]
end
end
local macro_rules | `(tactic| tb_rel) => `(tactic| with_reducible (first | exact List.mem_cons_self | (refine List.mem_cons_of_mem _ ?_; tb_rel) | assumption))
local macro_rules | `(tactic| wtm_at $s:str) => do
  let m ← `(tactic| wtm_at $s)
  let ab (a b : Lean.Name) := `(tactic| with_reducible (first | exact $(Lean.mkIdent a) | (apply $(Lean.mkIdent b); $m:tactic)))
  match s.getString with
  | "lwset" => ab ``LSet.hit ``LSet.miss
  | "lwupd" => ab ``LUpd.hit ``LUpd.miss
  | "lwpick" => ab ``Pick.hit ``Pick.miss
  | "lwsub" => `(tactic| with_reducible (first | exact Sub.refl | exact Sub.nil | (refine Sub.pick (by wtm_at "lwpick") ?_; $m:tactic) | (refine Sub.skip ?_; $m:tactic)))
  | "lwzip" => `(tactic| first | exact zip_hit | (refine zip_tail ?_; $m:tactic))
  | "lwin" => `(tactic| first | exact in_nil | (refine in_hit (by wtm_at "lwzip") ?_; $m:tactic) | (refine in_miss (of_decide_eq_true (by kernel_rfl)) ?_; $m:tactic))
  | _ => Lean.Macro.throwUnsupported
local macro_rules | `(tactic| tb_start) => do
  let cs : Array Lean.Term := #[← `(Fit.hd (by assumption)), ← `(by with_unfolding_all rfl), ← `(?_), ← `(_), ← `(by tb_rel), ← `(by wtm_at "lwset"), ← `(by with_reducible assumption), ← `(by wtm_at "lwupd"), ← `(CxP.isfn' (by assumption) (by with_unfolding_all rfl)), ← `(⟨OFun _, by tb_rel, isFn_OFun⟩), ← `(rfl), ← `(Nat.le_of_ble_eq_true (by with_unfolding_all rfl)), ← `(fun t => ?_)]
  let alts ← ([(``X_cons, []), (``X_nil, []), (``X_Assign, []), (``X_If, []), (``X_Return, []), (``X_AssignSub, []), (``X_Expr, []), (``X_Return0, []), (``R_Sub, []), (``R_append, []), (``R_reverse, []), (``X_AssignTupE, [0, 1, 1, 1, 1, 2]), (``X_AssignTup_swapped2E, [0, 1, 3, 3, 1, 2]), (``X_Continue, []), (``X_AugAssignE, [3, 4, 2]), (``SN_localE, [3, 5, 2]), (``SN_cellE, [3, 3, 3, 3, 3, 6, 4, 1, 7, 2]), (``R_localE, [3, 4, 2]), (``R_globE, [3, 3, 3, 6, 4, 2]), (``R_cellE, [3, 3, 3, 3, 6, 4, 4, 2]), (``R_int, []), (``R_str, []), (``R_BinOp, []), (``R_UnaryOp, []), (``R_Compare1, []), (``R_IfExp, []), (``R_bit_length, []), (``R_Call, []), (``R_Tuple, []), (``R_List, []), (``R_it_Compare1, []), (``R_it_Not, []), (``R_it_or_nil, []), (``R_it_or, []), (``R_it_plainE, [1, 2]), (``T_bool, []), (``T_int, []), (``A_nil, []), (``A_cons, []), (``APP_builtin, []), (``APP_type0, []), (``APP_type, []), (``APP_fnE, [8, 1, 2]), (``APP_cloE, [1, 2]), (.anonymous, [9, 2]), (``O_add, []), (``O_sub, []), (``O_iadd, []), (``O_isub, []), (``O_neg, []), (``O_invert, []), (``O_eq, []), (``O_ne, []), (``O_lt, []), (``O_le, []), (``O_gt, []), (``AIO_name, []), (``AIOE_name, []), (``AIOE_nil, []), (``AIO_nil, []), (.anonymous, [3, 3, 10, 4, 10, 2]), (.anonymous, [3, 10, 2]), (.anonymous, [3, 3, 10, 4, 2]), (.anonymous, [3, 3, 3, 10, 4, 2]), (.anonymous, [11, 12]), (``seqK_next, []), (``seqK_ret, []), (``seqK_cont, []), (``seqK_brk, []), (``ite_tt, []), (``ite_ff, [])] : List (Lean.Name × List Nat)).toArray.mapM fun (n, l) => do
    if l.isEmpty then `(Lean.Parser.Tactic.tacticSeq| with_reducible refine $(Lean.mkIdent n) ?_)
    else
      let xs := l.toArray.map fun i => cs.getD i ⟨.missing⟩
      if n.isAnonymous then `(Lean.Parser.Tactic.tacticSeq| with_reducible refine ⟨$xs,*⟩)
      else `(Lean.Parser.Tactic.tacticSeq| (with_reducible refine $(Lean.mkIdent n) ?_; refine ⟨$xs,*⟩))
  let b ← `(tactic| first $[| $alts:tacticSeq]*)
  `(tactic| first | $b:tactic | (with_reducible refine ite_dt ?_ ?_; (· first | assumption | omega)) | (with_reducible refine ite_df ?_ ?_; (· first | assumption | omega)))
section
open PySem.Builtin.Int (intBits)
set_option maxRecDepth 100000
set_option linter.unusedVariables false
/-- a def that hands back a new tuple -/
noncomputable def Qr (C : Cx) (f : Addr) (args : List Value) (n : Nat) (vs : List Value) : Prop :=
  ∀ A env loc led (K : Value → Loc → Led → Prop), Fit A n → (∀ t, K (.ref t) loc (.obj t (OTup vs) :: led)) → CallT C A env (.ref f) args loc led K
theorem Qr.mono {C : Cx} {f : Addr} {args : List Value} {n m : Nat} {vs : List Value} (h : Qr C f args n vs) (hm : n ≤ m) : Qr C f args m vs := fun A env loc led K fit hK => h A env loc led K (fit.mono hm) hK

theorem int_divmod_pos {C : Cx} (H : CxP C) {a b : Int} {n : Nat} {vs : List Value} (ha : 0 ≤ a) (hb : 0 < b) (hp : Qr C 71 [.int a 0, .int b 0] n vs) :
    Qr C 78 [.int a 0, .int b 0] (n + 1) vs := by
  intro A env loc led K fit hK
  refine C_def (loc' := [("a", some (.int a 0)), ("b", some (.int b 0)), ("q", none), ("r", none)]) ["a", "b"] ["q", "r"] fit.lt (FnOk.of H (f := 78) (c := 77) rfl rfl rfl rfl rfl rfl rfl rfl rfl rfl rfl) (fun args' ha s S => ?_) rfl rfl (by kernel_rfl) (fun L => ?_)
  · obtain ⟨x, y, rfl⟩ := erL2 ha
    exact BindsTo.of_eq (by rfl)
  · refine with_env H fit.deeper [("int_divmod", .ref 78), ("_divmod_pos", .ref 71)] [] rfl rfl rfl (by kernel_rfl) (by kernel_rfl) rfl (fun hE fit' => ?_)
    repeat tb_start
    exact hp _ _ _ _ _ fit' (fun t => ⟨_, by wtm_at "lwsub", hK t⟩)
theorem int_divmod_nega {C : Cx} (H : CxP C) {a b q r : Int} {n : Nat} (ha : a < 0) (hb : 0 < b) (hp : Qr C 78 [.int (Builtin.bitNot a) 0, .int b 0] n [.int q 0, .int r 0]) :
    Qr C 78 [.int a 0, .int b 0] (n + 1) [.int (Builtin.bitNot q) 0, .int (b + Builtin.bitNot r) 0] := by
  intro A env loc led K fit hK
  refine C_def (loc' := [("a", some (.int a 0)), ("b", some (.int b 0)), ("q", none), ("r", none)]) ["a", "b"] ["q", "r"] fit.lt (FnOk.of H (f := 78) (c := 77) rfl rfl rfl rfl rfl rfl rfl rfl rfl rfl rfl) (fun args' ha s S => ?_) rfl rfl (by kernel_rfl) (fun L => ?_)
  · obtain ⟨x, y, rfl⟩ := erL2 ha
    exact BindsTo.of_eq (by rfl)
  · refine with_env H fit.deeper [("int_divmod", .ref 78), ("_divmod_pos", .ref 71)] [] rfl rfl rfl (by kernel_rfl) (by kernel_rfl) rfl (fun hE fit' => ?_)
    repeat tb_start
    refine hp _ _ _ _ _ fit' (fun t => ?_)
    repeat tb_start
    exact ⟨_, by wtm_at "lwsub", hK _⟩
theorem int_divmod_negb {C : Cx} (H : CxP C) {a b q r : Int} {n : Nat} (hb : b < 0) (hp : Qr C 78 [.int (-a) 0, .int (-b) 0] n [.int q 0, .int r 0]) :
    Qr C 78 [.int a 0, .int b 0] (n + 1) [.int q 0, .int (-r) 0] := by
  intro A env loc led K fit hK
  refine C_def (loc' := [("a", some (.int a 0)), ("b", some (.int b 0)), ("q", none), ("r", none)]) ["a", "b"] ["q", "r"] fit.lt (FnOk.of H (f := 78) (c := 77) rfl rfl rfl rfl rfl rfl rfl rfl rfl rfl rfl) (fun args' ha s S => ?_) rfl rfl (by kernel_rfl) (fun L => ?_)
  · obtain ⟨x, y, rfl⟩ := erL2 ha
    exact BindsTo.of_eq (by rfl)
  · refine with_env H fit.deeper [("int_divmod", .ref 78), ("_divmod_pos", .ref 71)] [] rfl rfl rfl (by kernel_rfl) (by kernel_rfl) rfl (fun hE fit' => ?_)
    repeat tb_start
    refine hp _ _ _ _ _ fit' (fun t => ?_)
    repeat tb_start
    exact ⟨_, by wtm_at "lwsub", hK _⟩

theorem fdiv_fmod_nega {a b : Int} (hb : 0 < b) : Builtin.bitNot (Builtin.bitNot a / b) = a.fdiv b ∧ b + Builtin.bitNot (Builtin.bitNot a % b) = a.fmod b := by
  have e1 : a.fdiv b = a / b := Int.fdiv_eq_ediv_of_nonneg a (Int.le_of_lt hb)
  have e2 : a.fmod b = a % b := Int.fmod_eq_emod_of_nonneg a (Int.le_of_lt hb)
  rw [e1, e2]
  have h1 := Int.emod_add_mul_ediv a b
  have h2 := Int.emod_nonneg a (Int.ne_of_gt hb)
  have h3 := Int.emod_lt_of_pos a hb
  have e : Builtin.bitNot a = (b - 1 - a % b) + b * (-(a / b) - 1) := by
    show -a - 1 = _
    rw [Int.mul_sub, Int.mul_neg]; lia
  have q : Builtin.bitNot a / b = -(a / b) - 1 ∧ Builtin.bitNot a % b = b - 1 - a % b := by
    rw [e]
    constructor
    · rw [Int.add_mul_ediv_left _ _ (Int.ne_of_gt hb), Int.ediv_eq_zero_of_lt (by lia) (by lia)]; lia
    · rw [Int.add_mul_emod_self_left, Int.emod_eq_of_lt (by lia) (by lia)]
  rw [q.1, q.2]
  show -(-(a / b) - 1) - 1 = _ ∧ b + (-(b - 1 - a % b) - 1) = _
  lia

theorem int_divmod_ok {C : Cx} (H : CxP C) {n : Nat} (DP : ∀ a b : Int, 0 ≤ a → 0 < b → intBits a ≤ 30000 → intBits b ≤ 8000 → Qr C 71 [.int a 0, .int b 0] n [.int (a / b) 0, .int (a % b) 0])
    {a b : Int} (hb : b ≠ 0) (ha : intBits a ≤ 30000) (hb' : intBits b ≤ 8000) : Qr C 78 [.int a 0, .int b 0] (n + 3) [.int (a.fdiv b) 0, .int (a.fmod b) 0] := by
  have pos : ∀ a b : Int, 0 < b → intBits a ≤ 30000 → intBits b ≤ 8000 → Qr C 78 [.int a 0, .int b 0] (n + 2) [.int (a.fdiv b) 0, .int (a.fmod b) 0] := by
    intro a b hb ha hb'
    by_cases h0 : 0 ≤ a
    · rw [Int.fdiv_eq_ediv_of_nonneg a (Int.le_of_lt hb), Int.fmod_eq_emod_of_nonneg a (Int.le_of_lt hb)]
      exact (int_divmod_pos H h0 hb (DP a b h0 hb ha hb')).mono (by lia)
    · have h1 : 0 ≤ Builtin.bitNot a := by show 0 ≤ -a - 1; lia
      have h2 : intBits (Builtin.bitNot a) ≤ 30000 := intBits_le_of_natAbs (by show (-a - 1).natAbs ≤ a.natAbs; lia) ha
      have := int_divmod_nega H (by lia) hb (int_divmod_pos H h1 hb (DP _ b h1 hb h2 hb'))
      rw [(fdiv_fmod_nega hb).1, (fdiv_fmod_nega hb).2] at this
      exact this
  by_cases h : 0 < b
  · exact (pos a b h ha hb').mono (by lia)
  · have := int_divmod_negb H (by lia) (pos (-a) (-b) (by lia) (intBits_neg_le ha) (intBits_neg_le hb'))
    rw [show (-a).fdiv (-b) = a.fdiv b from Int.neg_fdiv_neg .., show -((-a).fmod (-b)) = a.fmod b from by rw [Int.fmod_def, Int.fmod_def, Int.neg_fdiv_neg, Int.neg_mul]; lia] at this
    exact this
end
section
open PySem.Builtin.Int (intBits)
set_option maxRecDepth 100000
set_option linter.unusedVariables false
theorem ar7_1 {z0 : Int} {z1 : Int} (h0 : ((0 : Int) < z1)) (h1 : (z0 < (0 : Int))) : ((Int.toNat (-(z0 + z1))) < (Int.toNat (-z0))) := by first | omega | lia
theorem ar7_2 {z0 : Int} {z1 : Int} (h0 : (z0 < (0 : Int))) : ((z0 + z1) < z1) := by first | omega | lia
theorem ar7_3 {z0 : Int} {z1 : Int} {z2 : Int} {z3 : Int} {z4 : Int} {z5 : Int} {z6 : Int} {z7 : Int} (h0 : (((z0 * z1) + z2) = ((z3 * z1) + (((z4 * z5) + z6) - (z3 * z7))))) : ((((z0 * z1) - ((1 : Int) * z1)) + (z2 + z1)) = ((z3 * z1) + (((z4 * z5) + z6) - (z3 * z7)))) := by first | omega | lia
theorem ar7_4 {z0 : Int} (h0 : (¬ (z0 < (0 : Int)))) : ((0 : Int) ≤ z0) := by first | omega | lia
theorem ar7_5 {z0 : Int} {z1 : Int} {z2 : Int} {z3 : Int} {z4 : Int} {z5 : Int} {z6 : Int} {z7 : Int} (h0 : (((z0 * z1) + z2) = (((((1 : Int) * z3) - (1 : Int)) * z1) + (((((z4 - (z5 * z3)) + z5) * z3) + z6) - ((((1 : Int) * z3) - (1 : Int)) * z7))))) : ((((z0 * z1) - ((1 : Int) * z1)) + (z2 + z1)) = (((((1 : Int) * z3) - (1 : Int)) * z1) + (((((z4 - (z5 * z3)) + z5) * z3) + z6) - ((((1 : Int) * z3) - (1 : Int)) * z7)))) := by first | omega | lia
/-! ### bits -/
theorem two_pos (k : Nat) : (0 : Int) < 2 ^ k := Int.pow_pos (by decide)
theorem bitAnd_apart (q : Int) : ∀ (h : Nat) (r : Int), 0 ≤ r → r < 2 ^ h → Builtin.bitAnd (q * 2 ^ h) r = 0
  | 0, r, h0, h1 => by
    have : r = 0 := by simp at h1; omega
    subst this
    rw [bitAnd_comm]
    have := bitAnd_range (q * 2 ^ 0) (y := 0) (by omega)
    rw [bitAnd_comm] at this; omega
  | h + 1, r, h0, h1 => by
    rw [kbt_halves]
    have e : q * 2 ^ (h + 1) = 2 * (q * 2 ^ h) := by rw [Int.pow_succ]; rw [← Int.mul_assoc]; omega
    have e1 : q * 2 ^ (h + 1) / 2 = q * 2 ^ h := by rw [e]; omega
    have e2 : ¬ (q * 2 ^ (h + 1) % 2 = 1 ∧ r % 2 = 1) := by rw [e]; omega
    rw [e1, if_neg e2, bitAnd_apart q h (r / 2) (by omega) (by rw [Int.pow_succ] at h1; omega)]; rfl
theorem bitAnd_over (q : Int) : ∀ (h : Nat) (r : Int), 0 ≤ r → r < 2 ^ h → Builtin.bitAnd (q * 2 ^ h + r) (q * 2 ^ h) = q * 2 ^ h
  | 0, r, h0, h1 => by
    have : r = 0 := by simp at h1; omega
    subst this
    rw [Int.add_zero]
    have := bitXor_and (q * 2 ^ 0) (q * 2 ^ 0)
    rw [bitXor_self] at this; omega
  | h + 1, r, h0, h1 => by
    rw [kbt_halves]
    have e : q * 2 ^ (h + 1) = 2 * (q * 2 ^ h) := by rw [Int.pow_succ]; rw [← Int.mul_assoc]; omega
    have e1 : q * 2 ^ (h + 1) / 2 = q * 2 ^ h := by rw [e]; omega
    have e3 : (q * 2 ^ (h + 1) + r) / 2 = q * 2 ^ h + r / 2 := by rw [e]; omega
    have e2 : ¬ ((q * 2 ^ (h + 1) + r) % 2 = 1 ∧ q * 2 ^ (h + 1) % 2 = 1) := by rw [e]; omega
    rw [e1, e3, if_neg e2, bitAnd_over q h (r / 2) (by omega) (by rw [Int.pow_succ] at h1; omega), e]; omega
theorem bitOr_is (x y : Int) : Builtin.bitOr x y = x + y - Builtin.bitAnd x y := by
  have h := bitXor_and x y
  have : Builtin.bitXor x y = Builtin.bitOr x y - Builtin.bitAnd x y := rfl
  omega
theorem bitOr_apart {q r : Int} {h : Nat} (h0 : 0 ≤ r) (h1 : r < 2 ^ h) : Builtin.bitOr (q * 2 ^ h) r = q * 2 ^ h + r := by rw [bitOr_is, bitAnd_apart q h r h0 h1]; omega
theorem bitXor_low (x : Int) (h : Nat) : Builtin.bitXor x (x / 2 ^ h * 2 ^ h) = x % 2 ^ h := by
  have e := Int.emod_add_mul_ediv x (2 ^ h)
  have l1 := Int.emod_nonneg x (Int.ne_of_gt (two_pos h))
  have l2 := Int.emod_lt_of_pos x (two_pos h)
  have := bitAnd_over (x / 2 ^ h) h (x % 2 ^ h) l1 l2
  rw [show x / 2 ^ h * 2 ^ h + x % 2 ^ h = x by rw [Int.mul_comm]; omega] at this
  have c : x / 2 ^ h * 2 ^ h = 2 ^ h * (x / 2 ^ h) := Int.mul_comm ..
  rw [bitXor_and, this, c]; omega

theorem div2n1n_base {C : Cx} (H : CxP C) {a b n : Int} (hn : (intBits a : Int) - n ≤ 4000) (hb : b ≠ 0) (hp : Builtin.divisionGoesByPylong a b = false) :
    Qr C 43 [.int a 0, .int b 0, .int n 0] 1 [.int (a.fdiv b) 0, .int (a.fmod b) 0] := by
  intro A env loc led K fit hK
  refine C_def (loc' := [("a", some (.int a 0)), ("b", some (.int b 0)), ("n", some (.int n 0)), ("pad", none), ("half_n", none), ("mask", none), ("b1", none), ("b2", none), ("q1", none), ("r", none), ("q2", none)]) ["a", "b", "n"] ["pad", "half_n", "mask", "b1", "b2", "q1", "r", "q2"] fit.lt (FnOk.of H (f := 43) (c := 42) rfl rfl rfl rfl rfl rfl rfl rfl rfl rfl rfl) (fun args' ha s S => ?_) rfl rfl (by kernel_rfl) (fun L => ?_)
  · obtain ⟨x, y, z, rfl⟩ := erL3 ha
    exact BindsTo.of_eq (by rfl)
  · refine with_env H fit.deeper [("_DIV_LIMIT", .int 4000 0), ("divmod", .builtin "divmod"), ("_div3n2n", .ref 50)] [] rfl rfl rfl (by kernel_rfl) (by kernel_rfl) rfl (fun hE fit' => ?_)
    repeat tb_start
    refine B_divmod hb hp (fun t => ?_)
    repeat tb_start
    exact ⟨_, by wtm_at "lwsub", hK _⟩

set_option maxHeartbeats 2000000 in
theorem div2n1n_even {C : Cx} (H : CxP C) {a b q1 q2 r1 r2 : Int} {n h k : Nat} (hn : ¬ (intBits a : Int) - n ≤ 4000) (hh : n = 2 * h) (hs : intBits q1 + h ≤ 2 ^ 27) (hz : h < 2 ^ 20) (hq2 : 0 ≤ q2) (hq2' : q2 < 2 ^ h)
    (D1 : Qr C 50 [.int (a / 2 ^ n) 0, .int (a / 2 ^ h % 2 ^ h) 0, .int b 0, .int (b / 2 ^ h) 0, .int (b % 2 ^ h) 0, .int h 0] k [.int q1 0, .int r1 0])
    (D2 : Qr C 50 [.int r1 0, .int (a % 2 ^ h) 0, .int b 0, .int (b / 2 ^ h) 0, .int (b % 2 ^ h) 0, .int h 0] k [.int q2 0, .int r2 0]) :
    Qr C 43 [.int a 0, .int b 0, .int n 0] (k + 1) [.int (q1 * 2 ^ h + q2) 0, .int r2 0] := by
  intro A env loc led K fit hK
  refine C_def (loc' := [("a", some (.int a 0)), ("b", some (.int b 0)), ("n", some (.int n 0)), ("pad", none), ("half_n", none), ("mask", none), ("b1", none), ("b2", none), ("q1", none), ("r", none), ("q2", none)]) ["a", "b", "n"] ["pad", "half_n", "mask", "b1", "b2", "q1", "r", "q2"] fit.lt (FnOk.of H (f := 43) (c := 42) rfl rfl rfl rfl rfl rfl rfl rfl rfl rfl rfl) (fun args' ha s S => ?_) rfl rfl (by kernel_rfl) (fun L => ?_)
  · obtain ⟨x, y, z, rfl⟩ := erL3 ha
    exact BindsTo.of_eq (by rfl)
  · refine with_env H fit.deeper [("_DIV_LIMIT", .int 4000 0), ("divmod", .builtin "divmod"), ("_div3n2n", .ref 50)] [] rfl rfl rfl (by kernel_rfl) (by kernel_rfl) rfl (fun hE fit' => ?_)
    repeat tb_start
    refine O_and' (c := 0) (by rw [bitAnd_m1]; omega) ?_
    repeat tb_start
    refine O_rshift' (k := 1) rfl ?_
    rw [show (n : Int) / 2 ^ 1 = (h : Int) by omega]
    repeat tb_start
    refine O_lshift' (k := h) rfl (by rw [show intBits 1 = 1 from by decide]; omega) ?_
    repeat tb_start
    refine O_rshift' (k := h) rfl ?_
    repeat tb_start
    refine O_and' (c := b % 2 ^ h) (by rw [Int.one_mul, kbt_mask]) ?_
    repeat tb_start
    refine O_rshift' (k := n) rfl ?_
    repeat tb_start
    refine O_rshift' (k := h) rfl ?_
    repeat tb_start
    refine O_and' (c := a / 2 ^ h % 2 ^ h) (by rw [Int.one_mul, kbt_mask]) ?_
    repeat tb_start
    refine D1 _ _ _ _ _ fit' (fun t => ?_)
    repeat tb_start
    refine O_and' (c := a % 2 ^ h) (by rw [Int.one_mul, kbt_mask]) ?_
    repeat tb_start
    refine D2 _ _ _ _ _ fit' (fun t => ?_)
    repeat tb_start
    refine O_lshift' (k := h) rfl hs ?_
    repeat tb_start
    refine O_or' (bitOr_apart hq2 hq2') ?_
    repeat tb_start
    exact ⟨_, by wtm_at "lwsub", hK _⟩

set_option maxHeartbeats 2000000 in
theorem div2n1n_odd {C : Cx} (H : CxP C) {a b q1 q2 r1 r2 : Int} {n h k : Nat} (hn : ¬ (intBits a : Int) - n ≤ 4000) (hh : n + 1 = 2 * h) (hs : intBits q1 + h ≤ 2 ^ 27) (hz : h < 2 ^ 20) (hq2 : 0 ≤ q2) (hq2' : q2 < 2 ^ h)
    (ha : intBits a ≤ 2 ^ 20) (hb : intBits b ≤ 2 ^ 20)
    (D1 : Qr C 50 [.int (a * 2 ^ 1 / 2 ^ (2 * h)) 0, .int (a * 2 ^ 1 / 2 ^ h % 2 ^ h) 0, .int (b * 2 ^ 1) 0, .int (b * 2 ^ 1 / 2 ^ h) 0, .int (b * 2 ^ 1 % 2 ^ h) 0, .int h 0] k [.int q1 0, .int r1 0])
    (D2 : Qr C 50 [.int r1 0, .int (a * 2 ^ 1 % 2 ^ h) 0, .int (b * 2 ^ 1) 0, .int (b * 2 ^ 1 / 2 ^ h) 0, .int (b * 2 ^ 1 % 2 ^ h) 0, .int h 0] k [.int q2 0, .int r2 0]) :
    Qr C 43 [.int a 0, .int b 0, .int n 0] (k + 1) [.int (q1 * 2 ^ h + q2) 0, .int (r2 / 2 ^ 1) 0] := by
  intro A env loc led K fit hK
  refine C_def (loc' := [("a", some (.int a 0)), ("b", some (.int b 0)), ("n", some (.int n 0)), ("pad", none), ("half_n", none), ("mask", none), ("b1", none), ("b2", none), ("q1", none), ("r", none), ("q2", none)]) ["a", "b", "n"] ["pad", "half_n", "mask", "b1", "b2", "q1", "r", "q2"] fit.lt (FnOk.of H (f := 43) (c := 42) rfl rfl rfl rfl rfl rfl rfl rfl rfl rfl rfl) (fun args' ha s S => ?_) rfl rfl (by kernel_rfl) (fun L => ?_)
  · obtain ⟨x, y, z, rfl⟩ := erL3 ha
    exact BindsTo.of_eq (by rfl)
  · refine with_env H fit.deeper [("_DIV_LIMIT", .int 4000 0), ("divmod", .builtin "divmod"), ("_div3n2n", .ref 50)] [] rfl rfl rfl (by kernel_rfl) (by kernel_rfl) rfl (fun hE fit' => ?_)
    repeat tb_start
    refine O_and' (c := 1) (by rw [bitAnd_m1]; omega) ?_
    repeat tb_start
    refine O_ilshift' (k := 1) rfl (by omega) ?_
    repeat tb_start
    refine O_ilshift' (k := 1) rfl (by omega) ?_
    repeat tb_start
    refine O_rshift' (k := 1) rfl ?_
    rw [show ((n : Int) + 1) / 2 ^ 1 = (h : Int) by omega]
    repeat tb_start
    refine O_lshift' (k := h) rfl (by rw [show intBits 1 = 1 from by decide]; omega) ?_
    repeat tb_start
    refine O_rshift' (k := h) rfl ?_
    repeat tb_start
    refine O_and' (c := b * 2 ^ 1 % 2 ^ h) (by rw [Int.one_mul, kbt_mask]) ?_
    repeat tb_start
    refine O_rshift' (k := 2 * h) (by omega) ?_
    repeat tb_start
    refine O_rshift' (k := h) rfl ?_
    repeat tb_start
    refine O_and' (c := a * 2 ^ 1 / 2 ^ h % 2 ^ h) (by rw [Int.one_mul, kbt_mask]) ?_
    repeat tb_start
    refine D1 _ _ _ _ _ fit' (fun t => ?_)
    repeat tb_start
    refine O_and' (c := a * 2 ^ 1 % 2 ^ h) (by rw [Int.one_mul, kbt_mask]) ?_
    repeat tb_start
    refine D2 _ _ _ _ _ fit' (fun t => ?_)
    repeat tb_start
    refine O_irshift' (k := 1) rfl ?_
    repeat tb_start
    refine O_lshift' (k := h) rfl hs ?_
    repeat tb_start
    refine O_or' (bitOr_apart hq2 hq2') ?_
    repeat tb_start
    exact ⟨_, by wtm_at "lwsub", hK _⟩

theorem div_home {b q r q' r' : Int} (hb : 0 < b) (h : q' * b + r' = q * b + r) (h0 : 0 ≤ r') (h1 : r' < b) : q + r / b = q' ∧ r % b = r' := by
  have e : r = r' + b * (q' - q) := by rw [Int.mul_sub, Int.mul_comm b q', Int.mul_comm b q]; omega
  rw [e, Int.add_mul_ediv_left _ _ (Int.ne_of_gt hb), Int.add_mul_emod_self_left, Int.ediv_eq_zero_of_lt h0 h1, Int.emod_eq_of_lt h0 h1]
  omega

set_option maxHeartbeats 2000000 in
theorem div3n2n_else {C : Cx} (H : CxP C) {a12 a3 b b1 b2 q r : Int} {n k : Nat} (hne : a12 / 2 ^ n ≠ b1) (h0 : 0 ≤ a3) (h1 : a3 < 2 ^ n) (hb : 0 < b) (hr : intBits r + n ≤ 2 ^ 27) (hm : IntMulOk q b2)
    (hlt : r * 2 ^ n + a3 - q * b2 < b)
    (D : Qr C 43 [.int a12 0, .int b1 0, .int n 0] k [.int q 0, .int r 0]) :
    Qr C 50 [.int a12 0, .int a3 0, .int b 0, .int b1 0, .int b2 0, .int n 0] (k + 1) [.int (q + (r * 2 ^ n + a3 - q * b2) / b) 0, .int ((r * 2 ^ n + a3 - q * b2) % b) 0] := by
  intro A env loc led K fit hK
  refine C_def (loc' := [("a12", some (.int a12 0)), ("a3", some (.int a3 0)), ("b", some (.int b 0)), ("b1", some (.int b1 0)), ("b2", some (.int b2 0)), ("n", some (.int n 0)), ("q", none), ("r", none)]) ["a12", "a3", "b", "b1", "b2", "n"] ["q", "r"] fit.lt (FnOk.of H (f := 50) (c := 49) rfl rfl rfl rfl rfl rfl rfl rfl rfl rfl rfl) (fun args' ha s S => ?_) rfl rfl (by kernel_rfl) (fun L => ?_)
  · obtain ⟨u, v, w, x, y, z, rfl⟩ := erL6 ha
    exact BindsTo.of_eq (by rfl)
  · refine with_env H fit.deeper [("_div2n1n", .ref 43)] [] rfl rfl rfl (by kernel_rfl) (by kernel_rfl) rfl (fun hE fit' => ?_)
    repeat tb_start
    refine O_rshift' (k := n) rfl ?_
    repeat tb_start
    refine D _ _ _ _ _ fit' (fun t => ?_)
    repeat tb_start
    refine O_lshift' (k := n) rfl hr ?_
    repeat tb_start
    refine O_or' (bitOr_apart h0 h1) ?_
    repeat tb_start
    refine O_mul hm ?_
    repeat tb_start
    refine X_While (fun m l d => ∃ q' r', l = ([("a12", some (.int a12 0)), ("a3", some (.int a3 0)), ("b", some (.int b 0)), ("b1", some (.int b1 0)), ("b2", some (.int b2 0)), ("n", some (.int n 0)), ("q", some (.int q' 0)), ("r", some (.int r' 0))] : Loc) ∧
      d = .obj t (OTup [.int q 0, .int r 0]) :: .obj env.locals (OLoc loc) :: led ∧ q' * b + r' = q * b + (r * 2 ^ n + a3 - q * b2) ∧ r' < b ∧ m = (-r').toNat) (fun m l d hI => ?_) _ ⟨q, (r * 2 ^ n + a3 - q * b2), rfl, rfl, rfl, hlt, rfl⟩
    obtain ⟨q', r', rfl, rfl, he, hl, rfl⟩ := hI
    repeat tb_start
    refine dec_ite (fun hneg => ?_) (fun hneg => ?_)
    · repeat tb_start
      refine ⟨(-(r' + b)).toNat, by exact ar7_1 hb hneg, q' - 1, r' + b, rfl, rfl, ?_, by exact ar7_2 hneg, rfl⟩
      rw [Int.sub_mul]; exact ar7_3 he
    · repeat tb_start
      obtain ⟨e1, e2⟩ := div_home hb he (by exact ar7_4 hneg) hl
      rw [e1, e2] at hK
      exact ⟨_, by wtm_at "lwsub", hK _⟩

set_option maxHeartbeats 2000000 in
theorem div3n2n_eq {C : Cx} (H : CxP C) {a12 a3 b b1 b2 : Int} {n k : Nat} (hne : a12 / 2 ^ n = b1) (h0 : 0 ≤ a3) (h1 : a3 < 2 ^ n) (hb : 0 < b) (hn : n < 2 ^ 20) (hb1 : intBits b1 + n ≤ 2 ^ 27) (hr : intBits (a12 - b1 * 2 ^ n + b1) + n ≤ 2 ^ 27)
    (hm : IntMulOk (1 * 2 ^ n - 1) b2)
    (hlt : (a12 - b1 * 2 ^ n + b1) * 2 ^ n + a3 - (1 * 2 ^ n - 1) * b2 < b) :
    Qr C 50 [.int a12 0, .int a3 0, .int b 0, .int b1 0, .int b2 0, .int n 0] (k + 1) [.int ((1 * 2 ^ n - 1) + ((a12 - b1 * 2 ^ n + b1) * 2 ^ n + a3 - (1 * 2 ^ n - 1) * b2) / b) 0, .int (((a12 - b1 * 2 ^ n + b1) * 2 ^ n + a3 - (1 * 2 ^ n - 1) * b2) % b) 0] := by
  intro A env loc led K fit hK
  refine C_def (loc' := [("a12", some (.int a12 0)), ("a3", some (.int a3 0)), ("b", some (.int b 0)), ("b1", some (.int b1 0)), ("b2", some (.int b2 0)), ("n", some (.int n 0)), ("q", none), ("r", none)]) ["a12", "a3", "b", "b1", "b2", "n"] ["q", "r"] fit.lt (FnOk.of H (f := 50) (c := 49) rfl rfl rfl rfl rfl rfl rfl rfl rfl rfl rfl) (fun args' ha s S => ?_) rfl rfl (by kernel_rfl) (fun L => ?_)
  · obtain ⟨u, v, w, x, y, z, rfl⟩ := erL6 ha
    exact BindsTo.of_eq (by rfl)
  · refine with_env H fit.deeper [("_div2n1n", .ref 43)] [] rfl rfl rfl (by kernel_rfl) (by kernel_rfl) rfl (fun hE fit' => ?_)
    repeat tb_start
    refine O_rshift' (k := n) rfl ?_
    repeat tb_start
    refine O_lshift' (k := n) rfl (by rw [show intBits 1 = 1 from by decide]; omega) ?_
    repeat tb_start
    refine O_lshift' (k := n) rfl hb1 ?_
    repeat tb_start
    refine O_lshift' (k := n) rfl hr ?_
    repeat tb_start
    refine O_or' (bitOr_apart h0 h1) ?_
    repeat tb_start
    refine O_mul hm ?_
    repeat tb_start
    rename_i t
    refine X_While (fun m l d => ∃ q' r', l = ([("a12", some (.int a12 0)), ("a3", some (.int a3 0)), ("b", some (.int b 0)), ("b1", some (.int b1 0)), ("b2", some (.int b2 0)), ("n", some (.int n 0)), ("q", some (.int q' 0)), ("r", some (.int r' 0))] : Loc) ∧
      d = .obj t (OTup [.int (1 * 2 ^ n - 1) 0, .int (a12 - b1 * 2 ^ n + b1) 0]) :: .obj env.locals (OLoc loc) :: led ∧ q' * b + r' = (1 * 2 ^ n - 1) * b + ((a12 - b1 * 2 ^ n + b1) * 2 ^ n + a3 - (1 * 2 ^ n - 1) * b2) ∧ r' < b ∧ m = (-r').toNat) (fun m l d hI => ?_) _ ⟨(1 * 2 ^ n - 1), ((a12 - b1 * 2 ^ n + b1) * 2 ^ n + a3 - (1 * 2 ^ n - 1) * b2), rfl, rfl, rfl, hlt, rfl⟩
    obtain ⟨q', r', rfl, rfl, he, hl, rfl⟩ := hI
    repeat tb_start
    refine dec_ite (fun hneg => ?_) (fun hneg => ?_)
    · repeat tb_start
      refine ⟨(-(r' + b)).toNat, by exact ar7_1 hb hneg, q' - 1, r' + b, rfl, rfl, ?_, by exact ar7_2 hneg, rfl⟩
      rw [Int.sub_mul]; exact ar7_5 he
    · repeat tb_start
      obtain ⟨e1, e2⟩ := div_home hb he (by exact ar7_4 hneg) hl
      rw [e1, e2] at hK
      exact ⟨_, by wtm_at "lwsub", hK _⟩
end
section
open PySem.Builtin.Int (intBits)
set_option maxRecDepth 100000
set_option linter.unusedVariables false
theorem bits_lt {x : Int} {m : Nat} (h0 : 0 ≤ x) (h : x < 2 ^ m) : intBits x ≤ m := by
  refine intBits_le_iff.mpr ?_
  have := kbt_cast m
  lia
theorem lt_bits {x : Int} {m : Nat} (h : intBits x ≤ m) : x < 2 ^ m := by
  have h' := intBits_le_iff.mp h
  have := kbt_cast m
  lia
theorem pylong_no {a b : Int} (h : intBits b ≤ 9000) : Builtin.divisionGoesByPylong a b = false := by
  refine PyProof.noPylong_of_log2 ?_
  unfold intBits at h
  by_cases h0 : b = 0
  · subst h0; decide
  · rw [if_neg (by simpa using h0)] at h; lia
theorem mulok {a b : Int} (ha : intBits a ≤ 2 ^ 26) (hb : intBits b ≤ 2 ^ 26) : IntMulOk a b := by
  unfold IntMulOk Builtin.Int.intTooBig bitsLine
  have : ¬ ((intBits a : Int) + intBits b > ((2 ^ 27 : Nat) : Int)) := by lia
  simp only [this, decide_false, Bool.and_false, Bool.false_eq_true, not_false_eq_true]
theorem pow_le {m n : Nat} (h : m ≤ n) : (2 : Int) ^ m ≤ 2 ^ n := by
  rw [← kbt_cast, ← kbt_cast]
  have := Nat.pow_le_pow_right (n := 2) (by decide) h
  lia
theorem mul_lt_mul {a b c : Int} (h : a < b) (hc : 0 < c) : a * c < b * c := Int.mul_lt_mul_of_pos_right h hc

noncomputable def D2 (C : Cx) (n k : Nat) : Prop := ∀ a b : Int, 0 ≤ a → 2 ^ (n - 1) ≤ b → b < 2 ^ n → a < b * 2 ^ n → Qr C 43 [.int a 0, .int b 0, .int n 0] k [.int (a / b) 0, .int (a % b) 0]
noncomputable def D3 (C : Cx) (h k : Nat) : Prop := ∀ a12 a3 b1 b2 : Int, 0 ≤ a12 → 0 ≤ a3 → a3 < 2 ^ h → 2 ^ (h - 1) ≤ b1 → b1 < 2 ^ h → 0 ≤ b2 → b2 < 2 ^ h → a12 * 2 ^ h + a3 < (b1 * 2 ^ h + b2) * 2 ^ h →
  Qr C 50 [.int a12 0, .int a3 0, .int (b1 * 2 ^ h + b2) 0, .int b1 0, .int b2 0, .int h 0] k [.int ((a12 * 2 ^ h + a3) / (b1 * 2 ^ h + b2)) 0, .int ((a12 * 2 ^ h + a3) % (b1 * 2 ^ h + b2)) 0]

theorem D2_base {C : Cx} (H : CxP C) {a b : Int} {n : Nat} (h0 : 0 ≤ a) (hb : 0 < b) (hbn : b < 2 ^ n) (hn : n ≤ 9000) (ha : (intBits a : Int) - n ≤ 4000) :
    Qr C 43 [.int a 0, .int b 0, .int n 0] 1 [.int (a / b) 0, .int (a % b) 0] := by
  have := div2n1n_base H ha (Int.ne_of_gt hb) (pylong_no (a := a) (Nat.le_trans (bits_lt (Int.le_of_lt hb) hbn) hn))
  rwa [Int.fdiv_eq_ediv_of_nonneg a (Int.le_of_lt hb), Int.fmod_eq_emod_of_nonneg a (Int.le_of_lt hb)] at this

theorem D2_small {C : Cx} (H : CxP C) {n : Nat} (hn : n ≤ 4000) : D2 C n 1 := fun a b h0 h1 h2 h3 => by
  have hb : 0 < b := Int.lt_of_lt_of_le (two_pos _) h1
  refine D2_base H h0 hb h2 (by lia) ?_
  have : a < 2 ^ (n + n) := by
    rw [Int.pow_add]
    exact Int.lt_trans h3 (mul_lt_mul h2 (two_pos n))
  have := bits_lt h0 this
  lia

theorem D3_of {C : Cx} (H : CxP C) {h k : Nat} (hh : 1 ≤ h) (hz : h ≤ 8000) (D : D2 C h k) : D3 C h (k + 1) := fun a12 a3 b1 b2 h0 h1 h2 h3 h4 h5 h6 h7 => by
  have hP := two_pos h
  have hb1 : 0 < b1 := Int.lt_of_lt_of_le (two_pos _) h3
  have hbb : 0 < b1 * 2 ^ h := Int.mul_pos hb1 hP
  have hb : 0 < b1 * 2 ^ h + b2 := by lia
  have e12 := Int.emod_add_mul_ediv a12 (2 ^ h)
  have l1 := Int.emod_nonneg a12 (Int.ne_of_gt hP)
  have l2 := Int.emod_lt_of_pos a12 hP
  have k1 : a12 < b1 * 2 ^ h + b2 := by
    refine Int.lt_of_mul_lt_mul_right (a := 2 ^ h) ?_ (Int.le_of_lt hP)
    lia
  have k2 : a12 / 2 ^ h < b1 + 1 := by
    refine Int.ediv_lt_of_lt_mul hP ?_
    rw [Int.add_mul]; lia
  have hsz : intBits a12 ≤ h + h + 1 := by
    refine bits_lt h0 (Int.lt_trans k1 ?_)
    rw [Int.pow_succ, Int.pow_add]
    have := mul_lt_mul h4 hP
    have : (2 : Int) ^ h ≤ 2 ^ h * 2 ^ h := by
      have := Int.mul_le_mul_of_nonneg_right (show (1 : Int) ≤ 2 ^ h by lia) (Int.le_of_lt hP)
      lia
    lia
  have hb1z : intBits b1 ≤ h := bits_lt (Int.le_of_lt hb1) h4
  have hb2z : intBits b2 ≤ h := bits_lt h5 h6
  by_cases hq : a12 / 2 ^ h = b1
  · have k3 : b1 * 2 ^ h ≤ a12 := by rw [← hq]; rw [Int.mul_comm]; lia
    have hr0 : 0 ≤ a12 - b1 * 2 ^ h + b1 := by lia
    have hrl : a12 - b1 * 2 ^ h + b1 < 2 ^ (h + 1) := by rw [Int.pow_succ]; rw [← hq] at *; rw [Int.mul_comm]; lia
    have hrz := bits_lt hr0 hrl
    have e : (a12 - b1 * 2 ^ h + b1) * 2 ^ h + a3 - (1 * 2 ^ h - 1) * b2 = a12 * 2 ^ h + a3 - (1 * 2 ^ h - 1) * (b1 * 2 ^ h + b2) := by
      rw [Int.mul_add (1 * 2 ^ h - 1), Int.sub_mul, Int.sub_mul, Int.add_mul, Int.sub_mul, Int.one_mul, Int.one_mul, Int.one_mul, Int.mul_comm (2 ^ h) (b1 * 2 ^ h)]
      generalize b1 * 2 ^ h * 2 ^ h = u; generalize a12 * 2 ^ h = v; generalize 2 ^ h * b2 = w; generalize b1 * 2 ^ h = z
      lia
    have hlt : (a12 - b1 * 2 ^ h + b1) * 2 ^ h + a3 - (1 * 2 ^ h - 1) * b2 < b1 * 2 ^ h + b2 := by
      rw [e, Int.one_mul, Int.sub_mul, Int.one_mul, Int.mul_comm (2 ^ h)]; lia
    have hm1 : intBits (1 * 2 ^ h - 1) ≤ h := bits_lt (by lia) (by lia)
    have hw := div3n2n_eq (k := k) H hq h1 h2 hb (by lia) (by lia) (by lia) (mulok (by lia) (by lia)) hlt
    rw [e] at hw
    have d1 : (1 * 2 ^ h - 1) + (a12 * 2 ^ h + a3 - (1 * 2 ^ h - 1) * (b1 * 2 ^ h + b2)) / (b1 * 2 ^ h + b2) = (a12 * 2 ^ h + a3) / (b1 * 2 ^ h + b2) := by
      rw [show a12 * 2 ^ h + a3 - (1 * 2 ^ h - 1) * (b1 * 2 ^ h + b2) = a12 * 2 ^ h + a3 + (b1 * 2 ^ h + b2) * (-(1 * 2 ^ h - 1)) by rw [Int.mul_neg, Int.mul_comm (b1 * 2 ^ h + b2)]; rfl,
        Int.add_mul_ediv_left _ _ (Int.ne_of_gt hb)]; lia
    have d2 : (a12 * 2 ^ h + a3 - (1 * 2 ^ h - 1) * (b1 * 2 ^ h + b2)) % (b1 * 2 ^ h + b2) = (a12 * 2 ^ h + a3) % (b1 * 2 ^ h + b2) := by
      rw [show a12 * 2 ^ h + a3 - (1 * 2 ^ h - 1) * (b1 * 2 ^ h + b2) = a12 * 2 ^ h + a3 + (b1 * 2 ^ h + b2) * (-(1 * 2 ^ h - 1)) by rw [Int.mul_neg, Int.mul_comm (b1 * 2 ^ h + b2)]; rfl,
        Int.add_mul_emod_self_left]
    rw [d1, d2] at hw
    exact hw
  · have k4 : a12 < b1 * 2 ^ h := by
      have : a12 / 2 ^ h ≤ b1 - 1 := by lia
      have := Int.mul_le_mul_of_nonneg_right this (Int.le_of_lt hP)
      rw [Int.sub_mul, Int.mul_comm (a12 / 2 ^ h)] at this
      lia
    have D' := D a12 b1 h0 h3 h4 k4
    have q0 : 0 ≤ a12 / b1 := Int.ediv_nonneg h0 (Int.le_of_lt hb1)
    have r0 := Int.emod_nonneg a12 (Int.ne_of_gt hb1)
    have r1 := Int.emod_lt_of_pos a12 hb1
    have e := Int.emod_add_mul_ediv a12 b1
    have q1 : a12 / b1 ≤ a12 := Int.ediv_le_self _ h0
    have e2 : a12 % b1 * 2 ^ h + a3 - a12 / b1 * b2 = a12 * 2 ^ h + a3 - a12 / b1 * (b1 * 2 ^ h + b2) := by
      rw [Int.mul_add, ← Int.mul_assoc]
      have : a12 * 2 ^ h = a12 % b1 * 2 ^ h + a12 / b1 * b1 * 2 ^ h := by
        rw [← Int.add_mul, Int.mul_comm (a12 / b1), e]
      lia
    have hlt : a12 % b1 * 2 ^ h + a3 - a12 / b1 * b2 < b1 * 2 ^ h + b2 := by
      have : 0 ≤ a12 / b1 * b2 := Int.mul_nonneg q0 h5
      have h' : a12 % b1 ≤ b1 - 1 := by lia
      have := Int.mul_le_mul_of_nonneg_right h' (Int.le_of_lt hP)
      rw [Int.sub_mul] at this
      lia
    have hrz : intBits (a12 % b1) ≤ h := bits_lt r0 (by lia)
    have hqz : intBits (a12 / b1) ≤ h + h + 1 := intBits_le_of_natAbs (by lia) hsz
    have hw := div3n2n_else H hq h1 h2 hb (by lia) (mulok (by lia) (by lia)) hlt D'
    rw [e2] at hw
    have d1 : a12 / b1 + (a12 * 2 ^ h + a3 - a12 / b1 * (b1 * 2 ^ h + b2)) / (b1 * 2 ^ h + b2) = (a12 * 2 ^ h + a3) / (b1 * 2 ^ h + b2) := by
      rw [show a12 * 2 ^ h + a3 - a12 / b1 * (b1 * 2 ^ h + b2) = a12 * 2 ^ h + a3 + (b1 * 2 ^ h + b2) * (-(a12 / b1)) by rw [Int.mul_neg, Int.mul_comm (b1 * 2 ^ h + b2)]; rfl,
        Int.add_mul_ediv_left _ _ (Int.ne_of_gt hb)]; lia
    have d2 : (a12 * 2 ^ h + a3 - a12 / b1 * (b1 * 2 ^ h + b2)) % (b1 * 2 ^ h + b2) = (a12 * 2 ^ h + a3) % (b1 * 2 ^ h + b2) := by
      rw [show a12 * 2 ^ h + a3 - a12 / b1 * (b1 * 2 ^ h + b2) = a12 * 2 ^ h + a3 + (b1 * 2 ^ h + b2) * (-(a12 / b1)) by rw [Int.mul_neg, Int.mul_comm (b1 * 2 ^ h + b2)]; rfl,
        Int.add_mul_emod_self_left]
    rw [d1, d2] at hw
    exact hw
end
section
open PySem.Builtin.Int (intBits)
set_option maxRecDepth 100000
set_option linter.unusedVariables false
/-- what the two calls make of an even size -/
theorem rec_core {C : Cx} {a b : Int} {h k : Nat} (hh : 1 ≤ h) (D : D3 C h k) (h0 : 0 ≤ a) (h1 : 2 ^ (2 * h - 1) ≤ b) (h2 : b < 2 ^ (2 * h)) (h3 : a < b * 2 ^ (2 * h)) :
    ∃ q1 r1 q2 r2 : Int, Qr C 50 [.int (a / 2 ^ (2 * h)) 0, .int (a / 2 ^ h % 2 ^ h) 0, .int b 0, .int (b / 2 ^ h) 0, .int (b % 2 ^ h) 0, .int h 0] k [.int q1 0, .int r1 0] ∧
      Qr C 50 [.int r1 0, .int (a % 2 ^ h) 0, .int b 0, .int (b / 2 ^ h) 0, .int (b % 2 ^ h) 0, .int h 0] k [.int q2 0, .int r2 0] ∧
      0 ≤ q2 ∧ q2 < 2 ^ h ∧ intBits q1 ≤ h ∧ q1 * 2 ^ h + q2 = a / b ∧ r2 = a % b := by
  have hP := two_pos h
  have hb : 0 < b := Int.lt_of_lt_of_le (two_pos _) h1
  have eP : (2 : Int) ^ (2 * h) = 2 ^ h * 2 ^ h := by rw [show 2 * h = h + h by lia, Int.pow_add]
  have eb := Int.emod_add_mul_ediv b (2 ^ h)
  have eb' : b / 2 ^ h * 2 ^ h + b % 2 ^ h = b := by rw [Int.mul_comm]; lia
  have b20 := Int.emod_nonneg b (Int.ne_of_gt hP)
  have b21 := Int.emod_lt_of_pos b hP
  have b11 : b / 2 ^ h < 2 ^ h := Int.ediv_lt_of_lt_mul hP (by rw [← eP]; exact h2)
  have b10 : 2 ^ (h - 1) ≤ b / 2 ^ h := by
    rw [Int.le_ediv_iff_mul_le hP, ← Int.pow_add, show h - 1 + h = 2 * h - 1 by lia]; exact h1
  have ea := Int.emod_add_mul_ediv a (2 ^ h)
  have a30 := Int.emod_nonneg a (Int.ne_of_gt hP)
  have a31 := Int.emod_lt_of_pos a hP
  have A0 : 0 ≤ a / 2 ^ h := Int.ediv_nonneg h0 (Int.le_of_lt hP)
  have Alt : a / 2 ^ h < b * 2 ^ h := Int.ediv_lt_of_lt_mul hP (by rw [Int.mul_assoc, ← eP]; exact h3)
  have eA := Int.emod_add_mul_ediv (a / 2 ^ h) (2 ^ h)
  have m0 := Int.emod_nonneg (a / 2 ^ h) (Int.ne_of_gt hP)
  have m1 := Int.emod_lt_of_pos (a / 2 ^ h) hP
  have eT : a / 2 ^ (2 * h) = a / 2 ^ h / 2 ^ h := by rw [eP, Int.ediv_ediv_of_nonneg (Int.le_of_lt hP)]
  have T0 : 0 ≤ a / 2 ^ (2 * h) := Int.ediv_nonneg h0 (Int.le_of_lt (two_pos _))
  have eA' : a / 2 ^ (2 * h) * 2 ^ h + a / 2 ^ h % 2 ^ h = a / 2 ^ h := by rw [eT, Int.mul_comm]; lia
  have D1 := D (a / 2 ^ (2 * h)) (a / 2 ^ h % 2 ^ h) (b / 2 ^ h) (b % 2 ^ h) T0 m0 m1 b10 b11 b20 b21 (by rw [eA', eb']; exact Alt)
  rw [eA', eb'] at D1
  have r10 := Int.emod_nonneg (a / 2 ^ h) (Int.ne_of_gt hb)
  have r11 := Int.emod_lt_of_pos (a / 2 ^ h) hb
  have er := Int.emod_add_mul_ediv (a / 2 ^ h) b
  have lt2 : a / 2 ^ h % b * 2 ^ h + a % 2 ^ h < b * 2 ^ h := by
    have h' : a / 2 ^ h % b ≤ b - 1 := by lia
    have := Int.mul_le_mul_of_nonneg_right h' (Int.le_of_lt hP)
    rw [Int.sub_mul] at this; lia
  have D2' := D (a / 2 ^ h % b) (a % 2 ^ h) (b / 2 ^ h) (b % 2 ^ h) r10 a30 a31 b10 b11 b20 b21 (by rw [eb']; exact lt2)
  rw [eb'] at D2'
  have n2 : 0 ≤ a / 2 ^ h % b * 2 ^ h + a % 2 ^ h := by have := Int.mul_nonneg r10 (Int.le_of_lt hP); lia
  have key : a = a / 2 ^ h % b * 2 ^ h + a % 2 ^ h + b * (a / 2 ^ h / b * 2 ^ h) := by
    have : a / 2 ^ h * 2 ^ h = a / 2 ^ h % b * 2 ^ h + b * (a / 2 ^ h / b * 2 ^ h) := by
      rw [← Int.mul_assoc, ← Int.add_mul, er]
    rw [Int.mul_comm (2 ^ h)] at ea; lia
  refine ⟨_, _, _, _, D1, D2', Int.ediv_nonneg n2 (Int.le_of_lt hb), Int.ediv_lt_of_lt_mul hb (by rw [Int.mul_comm (2 ^ h) b]; exact lt2), ?_, ?_, ?_⟩
  · exact bits_lt (Int.ediv_nonneg A0 (Int.le_of_lt hb)) (Int.ediv_lt_of_lt_mul hb (by rw [Int.mul_comm (2 ^ h) b]; exact Alt))
  · conv => rhs; rw [key]
    rw [Int.add_mul_ediv_left _ _ (Int.ne_of_gt hb)]; lia
  · conv => rhs; rw [key]
    rw [Int.add_mul_emod_self_left]

theorem emod_two {a b : Int} : a * 2 % (b * 2) = a % b * 2 := by
  rw [Int.mul_comm a 2, Int.mul_comm b 2, Int.mul_emod_mul_of_pos _ _ (by decide), Int.mul_comm]

theorem D2_all {C : Cx} (H : CxP C) {n : Nat} (hn1 : 1 ≤ n) (hn : n ≤ 8000) : D2 C n 3 := fun a b h0 h1 h2 h3 => by
  have hb : 0 < b := Int.lt_of_lt_of_le (two_pos _) h1
  by_cases hs : (intBits a : Int) - n ≤ 4000
  · exact (D2_base H h0 hb h2 (by lia) hs).mono (by lia)
  · have ha2 : a < 2 ^ (n + n) := by
      rw [Int.pow_add]
      exact Int.lt_trans h3 (mul_lt_mul h2 (two_pos n))
    have haz := bits_lt h0 ha2
    have hbz := bits_lt (Int.le_of_lt hb) h2
    rcases Nat.mod_two_eq_zero_or_one n with hp | hp
    · obtain ⟨h, rfl⟩ : ∃ h, n = 2 * h := ⟨n / 2, by lia⟩
      obtain ⟨q1, r1, q2, r2, c1, c2, c3, c4, c5, c6, c7⟩ := rec_core (by lia) (D3_of H (by lia) (by lia) (D2_small H (n := h) (by lia))) h0 h1 h2 h3
      have := div2n1n_even H hs rfl (by lia) (by lia) c3 c4 c1 c2
      rw [c6, c7] at this
      exact this
    · obtain ⟨h, hh⟩ : ∃ h, n + 1 = 2 * h := ⟨(n + 1) / 2, by lia⟩
      have e1 : (2 : Int) ^ (2 * h) = 2 ^ n * 2 := by rw [← hh, Int.pow_succ]
      have e2 : (2 : Int) ^ (2 * h - 1) = 2 ^ n := by rw [show 2 * h - 1 = n by lia]
      have e3 : (2 : Int) ^ n = 2 ^ (n - 1) * 2 := by rw [← Int.pow_succ, show (n - 1).succ = n by lia]
      have e4 : (2 : Int) ^ 1 = 2 := rfl
      obtain ⟨q1, r1, q2, r2, c1, c2, c3, c4, c5, c6, c7⟩ := rec_core (a := a * 2 ^ 1) (b := b * 2 ^ 1) (by lia) (D3_of H (by lia) (by lia) (D2_small H (n := h) (by lia))) (by lia)
        (by rw [e2, e4]; lia) (by rw [e1, e4]; lia) (by
          rw [e1, e4]
          have : b * 2 * (2 ^ n * 2) = 4 * (b * 2 ^ n) := by
            rw [Int.mul_assoc, Int.mul_comm (2 ^ n) 2, ← Int.mul_assoc, ← Int.mul_assoc]
            rw [show b * 2 * 2 = 4 * b by lia, Int.mul_assoc]
          rw [this]
          have := Int.mul_pos hb (two_pos n)
          lia)
      have := div2n1n_odd H hs hh (by lia) (by lia) c3 c4 (by lia) (by lia) c1 c2
      rw [c6, c7, e4, Int.mul_ediv_mul_of_pos_left _ _ (by decide), emod_two, Int.mul_ediv_cancel _ (by decide)] at this
      exact this
end
local macro_rules | `(tactic| tb_start) => `(tactic| first | (with_reducible refine ite_dt ?_ ?_; (· first | assumption | lia)) | (with_reducible refine ite_df ?_ ?_; (· first | assumption | lia)))
section
open PySem.Builtin.Int (intBits)
set_option maxRecDepth 100000
set_option linter.unusedVariables false
theorem Tri.pick {α β : Type} {ab : α → β} {C : Cx} {A : Around} {env : Env} {loc : Loc} {led led' : Led} {e : Ent} {t : Sem α} {K : β → Loc → Led → Prop} (h : Pick e led led') (k : Tri ab C A env t loc (e :: led') K) : Tri ab C A env t loc led K :=
  Tri.dropTo (Sub.pick h Sub.refl) k

theorem CallT.pick {C : Cx} {A : Around} {env : Env} {loc : Loc} {led led' : Led} {e : Ent} {f : Value} {args : List Value} {K : Value → Loc → Led → Prop} (h : Pick e led led') (k : CallT C A env f args loc (e :: led') K) : CallT C A env f args loc led K :=
  fun args' ha => (k args' ha).pick h

theorem tab2 {C : Cx} (H : CxP C) : (⟨56, 52, ⟨86, 4, 95, 28⟩, "_int2digits.<locals>.inner"⟩ : TabR) ∈ C.tabs := by rw [H.tb]; exact List.mem_cons_of_mem _ List.mem_cons_self
theorem tab3 {C : Cx} (H : CxP C) : (⟨63, 59, ⟨101, 4, 106, 55⟩, "_digits2int.<locals>.inner"⟩ : TabR) ∈ C.tabs := by rw [H.tb]; exact List.mem_cons_of_mem _ (List.mem_cons_of_mem _ List.mem_cons_self)
theorem tab1 {C : Cx} (H : CxP C) : (⟨28, 24, ⟨46, 4, 50, 74⟩, "_str_to_int_inner.<locals>.inner"⟩ : TabR) ∈ C.tabs := by rw [H.tb]; exact List.mem_cons_self

theorem bits_small {n : Nat} (h : n ≤ 8000) : intBits (n : Int) ≤ 9000 := by
  refine Nat.le_trans (intBits_le_of_natAbs (y := 8191) (by lia) (m := 13) (by decide)) (by decide)
noncomputable def Lr (C : Cx) (f : Addr) (args : List Value) (n : Nat) (vs : List Value) : Prop :=
  ∀ A env loc led (K : Value → Loc → Led → Prop), Fit A n → (∀ t, K (.ref t) loc (.obj t (OList vs) :: led)) → CallT C A env (.ref f) args loc led K

theorem len_le {n m : Nat} (hn : 0 < n) (h : n * m ≤ 38000) : m ≤ 38000 := Nat.le_trans (Nat.le_mul_of_pos_left m hn) h
theorem len_line {n m : Nat} (hn : 0 < n) (h : n * m ≤ 38000) : m ≤ sizeLine := Nat.le_trans (len_le hn h) (by decide)
theorem flat_one {v : Value} {m : Nat} : (List.replicate m [v]).flatten = List.replicate m v := by simp
/-! ## figures to the base 2^n -/
noncomputable def digs (n : Nat) (x : Int) (k : Nat) : List Value := (List.range k).map fun j => .int (x / 2 ^ (n * j) % 2 ^ n) 0
theorem digs_length {n : Nat} {x : Int} {k : Nat} : (digs n x k).length = k := by simp [digs]
theorem digs_one {n : Nat} {x : Int} (h0 : 0 ≤ x) (h1 : x < 2 ^ n) : digs n x 1 = [.int x 0] := by
  simp [digs, Int.emod_eq_of_lt h0 h1]
theorem digs_split {n : Nat} {x : Int} {i k : Nat} : digs n x (i + k) = digs n (x % 2 ^ (n * i)) i ++ digs n (x / 2 ^ (n * i)) k := by
  unfold digs
  rw [List.range_add, List.map_append, List.map_map]
  congr 1
  · refine List.map_congr_left fun j hj => ?_
    have hj' : j < i := List.mem_range.mp hj
    obtain ⟨q, hq⟩ : ∃ q, n * i = n * j + (n + q) := ⟨n * i - n * j - n, by
      have := Nat.mul_le_mul_left n (show j + 1 ≤ i by lia)
      rw [Nat.mul_add] at this; lia⟩
    have e := Int.emod_add_mul_ediv x (2 ^ (n * i))
    congr 1
    conv => lhs; rw [← e]
    rw [hq, Int.pow_add, Int.pow_add, Int.mul_assoc, Int.mul_assoc, Int.add_mul_ediv_left _ _ (Int.ne_of_gt (two_pos _)), Int.add_mul_emod_self_left]
  · refine List.map_congr_left fun j hj => ?_
    show Value.int _ 0 = Value.int _ 0
    congr 2
    rw [Nat.mul_add, Int.pow_add, Int.ediv_ediv_of_nonneg (Int.le_of_lt (two_pos _))]

theorem small_bits {x : Int} (h : x.natAbs ≤ 65535) : intBits x ≤ 16 := intBits_le_of_natAbs (y := 65535) h (by decide)

theorem seg_one {vs : List Value} {L : Nat} {v : Value} (h : L < vs.length) : vs.set L v = vs.take L ++ [v] ++ vs.drop (L + 1) := by
  rw [List.set_eq_take_append_cons_drop, if_pos h, List.append_assoc]; rfl
theorem seg_two {vs d1 d2 : List Value} {L M R : Nat} (hL : L ≤ M) (hM : M ≤ R) (hR : R ≤ vs.length) (h1 : d1.length = M - L) :
    (vs.take L ++ d1 ++ vs.drop M).take M ++ d2 ++ (vs.take L ++ d1 ++ vs.drop M).drop R = vs.take L ++ (d1 ++ d2) ++ vs.drop R := by
  have e : (vs.take L ++ d1).length = M := by rw [List.length_append, List.length_take, h1]; lia
  rw [List.take_append_of_le_length (by lia), List.take_of_length_le (by lia), List.drop_append, e, List.drop_eq_nil_of_le (by lia), List.drop_drop, show M + (R - M) = R by lia]
  simp [List.append_assoc]

set_option maxHeartbeats 4000000 in
theorem i2d {C : Cx} (H : CxP C) {a : Int} {n : Nat} (hn : 0 < n) (ha : 0 ≤ a) (hb : intBits a ≤ 30000) (hn' : n ≤ 8000) : Lr C 57 [.int a 0, .int n 0] 20 (digs n a ((intBits a + n - 1) / n)) := by
  intro A env loc led K fit hK
  refine C_cells (loc' := [("a", some (.int a 0))]) (cv := [("inner", none), ("a_digits", none), ("n", some (.int n 0))]) ["a", "n"] fit.lt (FnOk.of H (f := 57) (c := 56) rfl rfl rfl rfl rfl rfl rfl rfl rfl rfl rfl) rfl (fun args' ha => ?_) rfl (by kernel_rfl) (by wtm_at "lwin") (by wtm_at "lwin") (by kernel_rfl) (fun L cs hcs => ?_)
  · obtain ⟨x, y, rfl⟩ := erL2 ha
    rfl
  · obtain ⟨c1, c2, c3, rfl⟩ : ∃ c1 c2 c3, cs = [c1, c2, c3] := by
      match cs, hcs with | [a, b, c], _ => exact ⟨a, b, c, rfl⟩
    refine with_env H fit.deeper [("len", .builtin "len")] [("inner", c1), ("a_digits", c2), ("n", c3)] rfl rfl rfl (by kernel_rfl) (by kernel_rfl) rfl (fun hE fit' => ?_)
    simp only [cellEnts, List.cons_append, List.nil_append]
    repeat tb_start
    have em : ((intBits a : Int) + n - 1).fdiv n = ((intBits a + n - 1) / n : Nat) := by
      rw [Int.fdiv_eq_ediv_of_nonneg _ (by lia), Int.natCast_ediv, show ((intBits a + n - 1 : Nat) : Int) = (intBits a : Int) + n - 1 by lia]
    have hnm : n * ((intBits a + n - 1) / n) ≤ 38000 := by
      have := Nat.mul_div_le (intBits a + n - 1) n
      lia
    have hab : intBits a ≤ n * ((intBits a + n - 1) / n) := by
      have := Nat.div_add_mod (intBits a + n - 1) n
      have := Nat.mod_lt (intBits a + n - 1) hn
      lia
    have hm : (intBits a + n - 1) / n ≤ 30000 := by
      have := Nat.div_le_div_right (c := n) (show intBits a + n - 1 ≤ n * 30000 by
        have := Nat.mul_le_mul_right 29999 hn
        have : n * 30000 = n * 29999 + n := by lia
        lia)
      rw [Nat.mul_div_cancel_left _ hn] at this; exact this
    have hm0 : a = 0 → (intBits a + n - 1) / n = 0 := fun e => by
      rw [e]; exact Nat.div_eq_of_lt (by have : intBits 0 = 0 := rfl; lia)
    generalize (intBits a + n - 1) / n = m at em hm hnm hab hK hm0
    refine O_floordiv (by lia) (pylong_no (bits_small hn')) ?_
    rw [em]
    refine O_mul_list (by tb_rel) (by lia) (by lia) (by simp; lia) (by simp) (fun b => ?_)
    rw [Int.toNat_natCast, flat_one]
    repeat tb_start
    refine X_Def (q := ⟨56, 52, ⟨86, 4, 95, 28⟩, "_int2digits.<locals>.inner"⟩) (clos := [("n", c3), ("inner", c1), ("a_digits", c2)]) (tab2 H) rfl rfl rfl rfl rfl rfl rfl rfl (fun f c doc pm ct => ?_)
    generalize hfd : fnX _ _ _ _ _ _ _ _ _ _ _ _ _ = fd
    have inner : ∀ (k : Nat) (x : Int) (L R : Nat) (vs : List Value) (A : Around) (env : Env) (loc : Loc) (led rest : Led) (K : Value → Loc → Led → Prop), Fit A (k + 2) → L < R → R - L ≤ 2 ^ k → R ≤ vs.length → n * vs.length ≤ 38000 →
        0 ≤ x → x < 2 ^ (n * (R - L)) → intBits x ≤ 30000 → Pick (.obj b (OList vs)) led rest → Ent.obj f (OFun fd) ∈ rest → Ent.code (.ref c) "_int2digits.<locals>.inner" ∈ rest → Ent.obj c1 (OCell (some (.ref f))) ∈ rest → Ent.obj c2 (OCell (some (.ref b))) ∈ rest →
        Ent.obj c3 (OCell (some (.int n 0))) ∈ rest → K .none loc (.obj b (OList (vs.take L ++ digs n x (R - L) ++ vs.drop R)) :: rest) → CallT C A env (.ref f) [.int x 0, .int L 0, .int R 0] loc led K := by
      have base : ∀ (k : Nat) (x : Int) (L : Nat) (vs : List Value) (A : Around) (env : Env) (loc : Loc) (led rest : Led) (K : Value → Loc → Led → Prop), Fit A (k + 2) → L < vs.length → n * vs.length ≤ 38000 →
        Pick (.obj b (OList vs)) led rest → Ent.obj f (OFun fd) ∈ rest → Ent.code (.ref c) "_int2digits.<locals>.inner" ∈ rest → Ent.obj c1 (OCell (some (.ref f))) ∈ rest → Ent.obj c2 (OCell (some (.ref b))) ∈ rest →
        Ent.obj c3 (OCell (some (.int n 0))) ∈ rest → K .none loc (.obj b (OList (vs.set L (.int x 0))) :: rest) → CallT C A env (.ref f) [.int x 0, .int L 0, .int (L + 1 : Nat) 0] loc led K := by
        subst hfd
        intro k x L vs A env loc led rest K fit hL hlen hp h1 h2 h3 h4 h5 hK
        refine CallT.pick hp ?_
        refine C_def (loc' := [("x", some (.int x 0)), ("L", some (.int L 0)), ("R", some (.int (L + 1 : Nat) 0)), ("mid", none), ("shift", none), ("upper", none), ("lower", none)]) ["x", "L", "R"] ["mid", "shift", "upper", "lower"] fit.lt
          (FnOk.clo (by tb_rel) (by tb_rel) rfl rfl rfl rfl) (fun args' ha s S => ?_) rfl rfl (by kernel_rfl) (fun L' => ?_)
        · obtain ⟨x, y, z, rfl⟩ := erL3 ha
          exact BindsTo.of_eq (by rfl)
        · refine with_env H fit.deeper [] [("inner", c1), ("a_digits", c2), ("n", c3)] rfl rfl rfl (by kernel_rfl) (by kernel_rfl) rfl (fun hE fit' => ?_)
          repeat tb_start
          refine SETI_list L (by wtm_at "lwupd") rfl hL (len_line hn hlen) ?_
          repeat tb_start
          exact ⟨_, by wtm_at "lwsub", hK⟩
      intro k
      induction k with
      | zero =>
        intro x L R vs A env loc led rest K fit hL hk hR hlen h0 h1 hx hp m1 m2 m3 m4 m5 hK
        have hLR : R = L + 1 := by have : (2 : Nat) ^ 0 = 1 := rfl; lia
        subst hLR
        rw [show L + 1 - L = 1 by lia] at hK h1
        rw [Nat.mul_one] at h1
        refine base 0 x L vs A env loc led rest K fit (by lia) hlen hp m1 m2 m3 m4 m5 ?_
        rw [seg_one (by lia), ← digs_one h0 h1]; exact hK
      | succ k ih =>
        subst hfd
        intro x L R vs A env loc led rest K fit hL hk hR hlen h0 h1 hx hp m1 m2 m3 m4 m5 hK
        by_cases hLR : R = L + 1
        · subst hLR
          rw [show L + 1 - L = 1 by lia] at hK h1
          rw [Nat.mul_one] at h1
          refine base (k + 1) x L vs A env loc led rest K fit (by lia) hlen hp m1 m2 m3 m4 m5 ?_
          rw [seg_one (by lia), ← digs_one h0 h1]; exact hK
        · refine CallT.pick hp ?_
          refine C_def (loc' := [("x", some (.int x 0)), ("L", some (.int L 0)), ("R", some (.int R 0)), ("mid", none), ("shift", none), ("upper", none), ("lower", none)]) ["x", "L", "R"] ["mid", "shift", "upper", "lower"] fit.lt
            (FnOk.clo (by tb_rel) (by tb_rel) rfl rfl rfl rfl) (fun args' ha s S => ?_) rfl rfl (by kernel_rfl) (fun L' => ?_)
          · obtain ⟨x, y, z, rfl⟩ := erL3 ha
            exact BindsTo.of_eq (by rfl)
          · refine with_env H fit.deeper [] [("inner", c1), ("a_digits", c2), ("n", c3)] rfl rfl rfl (by kernel_rfl) (by kernel_rfl) rfl (fun hE fit' => ?_)
            repeat tb_start
            refine O_rshift' (k := 1) rfl ?_
            rw [show ((L : Int) + R) / 2 ^ 1 = ((L + R) / 2 : Nat) by lia]
            obtain ⟨i, j, hi, hj, ei, ej⟩ : ∃ i j : Nat, 0 < i ∧ 0 < j ∧ (L + R) / 2 = L + i ∧ R = L + i + j := ⟨(L + R) / 2 - L, R - (L + R) / 2, by lia, by lia, by lia, by lia⟩
            have hik : i ≤ 2 ^ k ∧ j ≤ 2 ^ k := by rw [Nat.pow_succ] at hk; lia
            rw [ei]
            clear ei hLR
            subst ej
            have hni : n * i ≤ 38000 := Nat.le_trans (Nat.mul_le_mul_left n (by lia)) hlen
            repeat tb_start
            have e1 : (((L + i : Nat) : Int) - L) * n = (n * i : Nat) := by
              rw [show ((L + i : Nat) : Int) - L = i by lia, Int.mul_comm]; rfl
            refine O_mul' (mulok (Nat.le_trans (small_bits (by have := len_le hn hlen; lia)) (by decide)) (Nat.le_trans (small_bits (by lia)) (by decide))) e1 ?_
            repeat tb_start
            refine O_rshift' (k := n * i) rfl ?_
            repeat tb_start
            have hxu : x / 2 ^ (n * i) ≤ x := Int.ediv_le_self _ h0
            have hu0 : 0 ≤ x / 2 ^ (n * i) := Int.ediv_nonneg h0 (Int.le_of_lt (two_pos _))
            have hub : intBits (x / 2 ^ (n * i)) ≤ 30000 := intBits_le_of_natAbs (by lia) hx
            have hl0 := Int.emod_nonneg x (Int.ne_of_gt (two_pos (n * i)))
            have hl1 := Int.emod_lt_of_pos x (two_pos (n * i))
            have hlb : intBits (x % 2 ^ (n * i)) ≤ 30000 := intBits_le_of_natAbs (by have := emod_le' h0 (two_pos (n * i)); lia) hx
            refine O_lshift' (k := n * i) rfl (by lia) ?_
            repeat tb_start
            refine O_xor' (bitXor_low x _) ?_
            repeat tb_start
            refine ih _ L (L + i) vs _ _ _ _ _ _ fit' (by lia) (by lia) (by lia) hlen hl0 (by rw [show L + i - L = i by lia]; exact hl1) hlb (by wtm_at "lwpick") (by tb_rel) (by tb_rel) (by tb_rel) (by tb_rel) (by tb_rel) ?_
            repeat tb_start
            have hq : x / 2 ^ (n * i) < 2 ^ (n * j) := by
              refine Int.ediv_lt_of_lt_mul (two_pos _) ?_
              rw [← Int.pow_add, ← Nat.mul_add]
              rw [show L + i + j - L = j + i by lia] at h1
              exact h1
            have hlen2 : (vs.take L ++ digs n (x % 2 ^ (n * i)) (L + i - L) ++ vs.drop (L + i)).length = vs.length := by
              rw [List.length_append, List.length_append, List.length_take, List.length_drop, digs_length]; lia
            refine ih _ (L + i) (L + i + j) _ _ _ _ _ _ _ fit' (by lia) (by lia) (by rw [hlen2]; lia) (by rw [hlen2]; exact hlen) hu0 (by rw [show L + i + j - (L + i) = j by lia]; exact hq) hub (by wtm_at "lwpick") (by tb_rel) (by tb_rel) (by tb_rel) (by tb_rel) (by tb_rel) ?_
            repeat tb_start
            rw [seg_two (by lia) (by lia) hR digs_length, show L + i - L = i by lia, show L + i + j - (L + i) = j by lia, ← digs_split]
            rw [show L + i + j - L = i + j by lia] at hK
            exact ⟨_, by wtm_at "lwsub", hK⟩
    repeat tb_start
    refine dec_ite (fun ha0 => ?_) (fun ha0 => ?_)
    · repeat tb_start
      refine B_len_list (by tb_rel) (by rw [List.length_replicate]; exact len_line hn hnm) ?_
      rw [List.length_replicate]
      repeat tb_start
      have hm1 : 0 < m := by
        rcases Nat.eq_zero_or_pos m with e | e
        · subst e
          have := lt_bits (m := 0) (x := a) (by lia)
          simp at this; lia
        · exact e
      refine inner 16 a 0 m (List.replicate m (.int 0 0)) _ _ _ _ _ _ (fit'.mono (by decide)) hm1 (by lia) (by simp) (by simp; exact hnm) ha (Int.lt_of_lt_of_le (lt_bits (Nat.le_refl _)) (pow_le hab)) hb (by wtm_at "lwpick") (by tb_rel) (by tb_rel) (by tb_rel) (by tb_rel) (by tb_rel) ?_
      rw [List.take_zero, List.nil_append, List.drop_of_length_le (by simp), List.append_nil, Nat.sub_zero]
      repeat tb_start
      exact ⟨_, by wtm_at "lwsub", hK _⟩
    · repeat tb_start
      rw [hm0 (Decidable.of_not_not ha0)] at hK ⊢
      rw [show digs n a 0 = List.replicate 0 (.int 0 0) from rfl] at hK
      exact ⟨_, by wtm_at "lwsub", hK _⟩
end
section
open PySem.Builtin.Int (intBits)
set_option maxRecDepth 100000
set_option linter.unusedVariables false
/-! ## the value of figures -/
noncomputable def dval (n : Nat) : List Int → Int
  | [] => 0
  | d :: r => d + 2 ^ n * dval n r
theorem dval_append {n : Nat} : ∀ {l1 l2 : List Int}, dval n (l1 ++ l2) = dval n l1 + dval n l2 * 2 ^ (n * l1.length)
  | [], l2 => by simp [dval]
  | d :: r, l2 => by
    rw [List.cons_append, dval, dval_append, dval, List.length_cons, Nat.mul_add, Nat.mul_one, Nat.add_comm (n * r.length), Int.pow_add, Int.mul_add, ← Int.mul_assoc (dval n l2), ← Int.mul_assoc (2 ^ n), Int.mul_comm (2 ^ n) (dval n l2), Int.add_assoc]
theorem dval_bound {n : Nat} : ∀ {l : List Int}, (∀ d ∈ l, 0 ≤ d ∧ d < 2 ^ n) → 0 ≤ dval n l ∧ dval n l < 2 ^ (n * l.length)
  | [], _ => by simp [dval]
  | d :: r, h => by
    obtain ⟨i0, i1⟩ := dval_bound (l := r) fun x hx => h x (List.mem_cons_of_mem _ hx)
    obtain ⟨d0, d1⟩ := h d List.mem_cons_self
    have hp := two_pos n
    rw [List.length_cons, Nat.mul_add, Nat.mul_one, Nat.add_comm (n * r.length), Int.pow_add, dval]
    have m0 : 0 ≤ 2 ^ n * dval n r := Int.mul_nonneg (Int.le_of_lt hp) i0
    have m1 : 2 ^ n * dval n r ≤ 2 ^ n * (2 ^ (n * r.length) - 1) := Int.mul_le_mul_of_nonneg_left (by lia) (Int.le_of_lt hp)
    rw [Int.mul_sub, Int.mul_one] at m1
    lia

noncomputable def seg (l : List Int) (L k : Nat) : List Int := (l.drop L).take k
theorem seg_length {l : List Int} {L k : Nat} (h : L + k ≤ l.length) : (seg l L k).length = k := by simp [seg]; lia
theorem seg_split {l : List Int} {L i j : Nat} : seg l L (i + j) = seg l L i ++ seg l (L + i) j := by
  unfold seg; rw [List.take_add, List.drop_drop]
theorem seg_mem {l : List Int} {L k : Nat} {d : Int} (h : d ∈ seg l L k) : d ∈ l := List.mem_of_mem_drop (List.mem_of_mem_take h)
theorem seg_one' {l : List Int} {L : Nat} (h : L < l.length) : seg l L 1 = [l[L]] := by
  unfold seg; rw [List.drop_eq_getElem_cons h]; rfl
theorem dval_one {n : Nat} {d : Int} : dval n [d] = d := by simp [dval]

noncomputable def iv (l : List Int) : List Value := l.map fun d => .int d 0
theorem iv_length {l : List Int} : (iv l).length = l.length := List.length_map ..

set_option maxHeartbeats 4000000 in
theorem d2i {C : Cx} (H : CxP C) {ds : List Int} {n : Nat} (hn : 0 < n) (hlen : n * ds.length ≤ 38000) (hds : ∀ d ∈ ds, 0 ≤ d ∧ d < 2 ^ n) {A : Around} {env : Env} {loc : Loc} {led : Led} {K : Value → Loc → Led → Prop} {dl : Addr} (fit : Fit A 20) (hdl : Ent.obj dl (OList (iv ds)) ∈ led)
    (hK : K (.int (dval n ds) 0) loc led) : CallT C A env (.ref 64) [.ref dl, .int n 0] loc led K := by
  refine C_cells (loc' := []) (cv := [("inner", none), ("n", some (.int n 0)), ("digits", some (.ref dl))]) ["digits", "n"] fit.lt (FnOk.of H (f := 64) (c := 63) rfl rfl rfl rfl rfl rfl rfl rfl rfl rfl rfl) rfl (fun args' ha => ?_) rfl (by kernel_rfl) (by wtm_at "lwin") (by wtm_at "lwin") (by kernel_rfl) (fun L cs hcs => ?_)
  · obtain ⟨x, y, rfl⟩ := erL2 ha
    rfl
  · obtain ⟨c1, c2, c3, rfl⟩ : ∃ c1 c2 c3, cs = [c1, c2, c3] := by
      match cs, hcs with | [a, b, c], _ => exact ⟨a, b, c, rfl⟩
    refine with_env H fit.deeper [("len", .builtin "len")] [("inner", c1), ("n", c2), ("digits", c3)] rfl rfl rfl (by kernel_rfl) (by kernel_rfl) rfl (fun hE fit' => ?_)
    simp only [cellEnts, List.cons_append, List.nil_append]
    repeat tb_start
    refine X_Def (q := ⟨63, 59, ⟨101, 4, 106, 55⟩, "_digits2int.<locals>.inner"⟩) (clos := [("n", c2), ("inner", c1), ("digits", c3)]) (tab3 H) rfl rfl rfl rfl rfl rfl rfl rfl (fun f c doc pm ct => ?_)
    generalize hfd : fnX _ _ _ _ _ _ _ _ _ _ _ _ _ = fd
    have inner : ∀ (k : Nat) (L R : Nat) (A : Around) (env : Env) (loc : Loc) (led : Led) (K : Value → Loc → Led → Prop), Fit A (k + 2) → L < R → R - L ≤ 2 ^ k → R ≤ ds.length →
        Ent.obj dl (OList (iv ds)) ∈ led → Ent.obj f (OFun fd) ∈ led → Ent.code (.ref c) "_digits2int.<locals>.inner" ∈ led → Ent.obj c1 (OCell (some (.ref f))) ∈ led → Ent.obj c2 (OCell (some (.int n 0))) ∈ led →
        Ent.obj c3 (OCell (some (.ref dl))) ∈ led → K (.int (dval n (seg ds L (R - L))) 0) loc led → CallT C A env (.ref f) [.int L 0, .int R 0] loc led K := by
      have base : ∀ (k : Nat) (L : Nat) (A : Around) (env : Env) (loc : Loc) (led : Led) (K : Value → Loc → Led → Prop), Fit A (k + 2) → L < ds.length →
        Ent.obj dl (OList (iv ds)) ∈ led → Ent.obj f (OFun fd) ∈ led → Ent.code (.ref c) "_digits2int.<locals>.inner" ∈ led → Ent.obj c1 (OCell (some (.ref f))) ∈ led → Ent.obj c2 (OCell (some (.int n 0))) ∈ led →
        Ent.obj c3 (OCell (some (.ref dl))) ∈ led → K (.int (dval n (seg ds L 1)) 0) loc led → CallT C A env (.ref f) [.int L 0, .int (L + 1 : Nat) 0] loc led K := by
        subst hfd
        intro k L A env loc led K fit hL m0 m1 m2 m3 m4 m5 hK
        refine C_def (loc' := [("L", some (.int L 0)), ("R", some (.int (L + 1 : Nat) 0)), ("mid", none), ("shift", none)]) ["L", "R"] ["mid", "shift"] fit.lt
          (FnOk.clo (by tb_rel) (by tb_rel) rfl rfl rfl rfl) (fun args' ha s S => ?_) rfl rfl (by kernel_rfl) (fun L' => ?_)
        · obtain ⟨x, y, rfl⟩ := erL2 ha
          exact BindsTo.of_eq (by rfl)
        · refine with_env H fit.deeper [] [("inner", c1), ("n", c2), ("digits", c3)] rfl rfl rfl (by kernel_rfl) (by kernel_rfl) rfl (fun hE fit' => ?_)
          repeat tb_start
          rw [seg_one' hL, dval_one] at hK
          refine SUB_list (v := .int ds[L] 0) L (by tb_rel) (by simp [iv, hL]) (.inl rfl) (by rw [iv_length]; exact len_line hn hlen) ?_
          repeat tb_start
          exact ⟨_, by wtm_at "lwsub", hK⟩
      intro k
      induction k with
      | zero =>
        intro L R A env loc led K fit hL hk hR m0 m1 m2 m3 m4 m5 hK
        have hLR : R = L + 1 := by have : (2 : Nat) ^ 0 = 1 := rfl; lia
        subst hLR
        rw [show L + 1 - L = 1 by lia] at hK
        exact base 0 L A env loc led K fit (by lia) m0 m1 m2 m3 m4 m5 hK
      | succ k ih =>
        subst hfd
        intro L R A env loc led K fit hL hk hR m0 m1 m2 m3 m4 m5 hK
        by_cases hLR : R = L + 1
        · subst hLR
          rw [show L + 1 - L = 1 by lia] at hK
          exact base (k + 1) L A env loc led K fit (by lia) m0 m1 m2 m3 m4 m5 hK
        · refine C_def (loc' := [("L", some (.int L 0)), ("R", some (.int R 0)), ("mid", none), ("shift", none)]) ["L", "R"] ["mid", "shift"] fit.lt
            (FnOk.clo (by tb_rel) (by tb_rel) rfl rfl rfl rfl) (fun args' ha s S => ?_) rfl rfl (by kernel_rfl) (fun L' => ?_)
          · obtain ⟨x, y, rfl⟩ := erL2 ha
            exact BindsTo.of_eq (by rfl)
          · refine with_env H fit.deeper [] [("inner", c1), ("n", c2), ("digits", c3)] rfl rfl rfl (by kernel_rfl) (by kernel_rfl) rfl (fun hE fit' => ?_)
            repeat tb_start
            refine O_rshift' (k := 1) rfl ?_
            rw [show ((L : Int) + R) / 2 ^ 1 = ((L + R) / 2 : Nat) by lia]
            obtain ⟨i, j, hi, hj, ei, ej⟩ : ∃ i j : Nat, 0 < i ∧ 0 < j ∧ (L + R) / 2 = L + i ∧ R = L + i + j := ⟨(L + R) / 2 - L, R - (L + R) / 2, by lia, by lia, by lia, by lia⟩
            have hik : i ≤ 2 ^ k ∧ j ≤ 2 ^ k := by rw [Nat.pow_succ] at hk; lia
            rw [ei]
            clear ei hLR
            subst ej
            have hni : n * i ≤ 38000 := Nat.le_trans (Nat.mul_le_mul_left n (by lia)) hlen
            have hnj : n * j ≤ 38000 := Nat.le_trans (Nat.mul_le_mul_left n (by lia)) hlen
            repeat tb_start
            have e1 : (((L + i : Nat) : Int) - L) * n = (n * i : Nat) := by
              rw [show ((L + i : Nat) : Int) - L = i by lia, Int.mul_comm]; rfl
            refine O_mul' (mulok (Nat.le_trans (small_bits (by have := len_le hn hlen; lia)) (by decide)) (Nat.le_trans (small_bits (by have := len_le (m := n) (n := 1) (by decide) (by have := Nat.le_mul_of_pos_right n hi; lia); lia)) (by decide))) e1 ?_
            repeat tb_start
            refine ih (L + i) (L + i + j) _ _ _ _ _ fit' (by lia) (by lia) hR (by tb_rel) (by tb_rel) (by tb_rel) (by tb_rel) (by tb_rel) (by tb_rel) ?_
            rw [show L + i + j - (L + i) = j by lia]
            repeat tb_start
            have hb := dval_bound (n := n) (l := seg ds (L + i) j) fun d hd => hds d (seg_mem hd)
            rw [seg_length (by lia)] at hb
            refine O_lshift' (k := n * i) rfl (by have := bits_lt hb.1 hb.2; lia) ?_
            repeat tb_start
            refine ih L (L + i) _ _ _ _ _ fit' (by lia) (by lia) (by lia) (by tb_rel) (by tb_rel) (by tb_rel) (by tb_rel) (by tb_rel) (by tb_rel) ?_
            rw [show L + i - L = i by lia]
            repeat tb_start
            rw [show L + i + j - L = i + j by lia, seg_split, dval_append, seg_length (by lia), Int.add_comm] at hK
            exact ⟨_, by wtm_at "lwsub", hK⟩
    repeat tb_start
    refine T_list (by tb_rel) (by rw [iv_length]; exact len_line hn hlen) ?_
    cases hd0 : ds with
    | nil =>
      subst hd0
      show if false = true then _ else _
      repeat tb_start
      exact ⟨_, by wtm_at "lwsub", hK⟩
    | cons d r =>
      rw [← hd0]
      rw [show (!(iv ds).isEmpty) = true by rw [hd0]; rfl]
      have hpos : 0 < ds.length := by rw [hd0]; simp
      clear hd0
      repeat tb_start
      refine B_len_list (by tb_rel) (by rw [iv_length]; exact len_line hn hlen) ?_
      rw [iv_length]
      repeat tb_start
      refine inner 16 0 ds.length _ _ _ _ _ (fit'.mono (by decide)) hpos (by have := len_le hn hlen; lia) (Nat.le_refl _) (by tb_rel) (by tb_rel) (by tb_rel) (by tb_rel) (by tb_rel) (by tb_rel) ?_
      rw [show seg ds 0 (ds.length - 0) = ds by simp [seg]]
      repeat tb_start
      exact ⟨_, by wtm_at "lwsub", hK⟩
end
section
open PySem.Builtin.Int (intBits)
set_option maxRecDepth 100000
set_option linter.unusedVariables false
theorem B_reversed {C : Cx} {A : Around} {env : Env} {loc : Loc} {led : Led} {a : Addr} {vs : List Value} {K : Value → Loc → Led → Prop} (hm : Ent.obj a (OList vs) ∈ led) (h : ∀ t, K (.ref t) loc (.obj t (ORevIter a ((vs.length : Int) - 1)) :: led)) :
    CallT C A env (.type "reversed") [.ref a] loc led K := fun args' ha s S => by
  obtain ⟨x, rfl⟩ := erL1 ha
  simp only [List.map_cons, List.map_nil, List.cons.injEq, and_true] at ha
  rw [er_is_ref ha]
  obtain ⟨items, n, g, e, hs⟩ := S.list hm
  refine call_reversed_list (isl g) ⟨loc, _, h _, ?_⟩
  refine S.push (P := ORevIter a ((vs.length : Int) - 1)) ?_ rfl rfl (.inl (by show (_ : Value) ≠ _; simp [revObj]))
  rw [hs]; exact ⟨rfl, rfl⟩

/-- digits from k on -/
theorem rest_step {a : Int} {n k : Nat} (b : Int) (hb : 0 < b) (h0 : 0 ≤ a) (hbn : b < 2 ^ n) :
    let u := a / 2 ^ (n * (k + 1)); let v := a / 2 ^ (n * k); let x := u % b * 2 ^ n + v % 2 ^ n
    v / b = x / b + 2 ^ n * (u / b) ∧ v % b = x % b ∧ 0 ≤ x ∧ x < b * 2 ^ n := by
  intro u v x
  have hu : u = v / 2 ^ n := by
    show a / 2 ^ (n * (k + 1)) = a / 2 ^ (n * k) / 2 ^ n
    rw [Int.ediv_ediv_of_nonneg (Int.le_of_lt (two_pos _)), ← Int.pow_add, Nat.mul_add, Nat.mul_one]
  have hp := two_pos n
  have ev := Int.emod_add_mul_ediv v (2 ^ n)
  have eu := Int.emod_add_mul_ediv u b
  have d0 := Int.emod_nonneg v (Int.ne_of_gt hp)
  have d1 := Int.emod_lt_of_pos v hp
  have r0 := Int.emod_nonneg u (Int.ne_of_gt hb)
  have r1 := Int.emod_lt_of_pos u hb
  rw [← hu] at ev
  have e : v = x + b * (2 ^ n * (u / b)) := by
    show v = u % b * 2 ^ n + v % 2 ^ n + b * (2 ^ n * (u / b))
    have : 2 ^ n * u = u % b * 2 ^ n + b * (2 ^ n * (u / b)) := by
      rw [show b * (2 ^ n * (u / b)) = 2 ^ n * (b * (u / b)) by rw [← Int.mul_assoc, ← Int.mul_assoc, Int.mul_comm b], Int.mul_comm (u % b), ← Int.mul_add, eu]
    lia
  refine ⟨?_, ?_, ?_, ?_⟩
  · conv => lhs; rw [e]
    rw [Int.add_mul_ediv_left _ _ (Int.ne_of_gt hb)]
  · conv => lhs; rw [e]
    rw [Int.add_mul_emod_self_left]
  · exact Int.add_nonneg (Int.mul_nonneg r0 (Int.le_of_lt hp)) d0
  · show u % b * 2 ^ n + v % 2 ^ n < b * 2 ^ n
    have := Int.mul_le_mul_of_nonneg_right (show u % b + 1 ≤ b by lia) (Int.le_of_lt hp)
    rw [Int.add_mul, Int.one_mul] at this
    lia

theorem iv_snoc {l : List Int} {x : Int} : iv (l ++ [x]) = iv l ++ [.int x 0] := List.map_append ..
theorem iv_reverse {l : List Int} : (iv l).reverse = iv l.reverse := (List.map_reverse ..).symm
theorem digs_get {n k m : Nat} {a : Int} {v : Value} (h : (digs n a m)[k]? = some v) : k < m ∧ v = .int (a / 2 ^ (n * k) % 2 ^ n) 0 := by
  unfold digs at h
  rw [List.getElem?_map] at h
  by_cases hk : k < m
  · rw [List.getElem?_range hk] at h; exact ⟨hk, (Option.some.inj h).symm⟩
  · rw [List.getElem?_eq_none (by simpa using Nat.not_lt.mp hk)] at h; cases h
set_option maxHeartbeats 4000000 in
theorem divmod_pos {C : Cx} (H : CxP C) {a b : Int} (ha : 0 ≤ a) (hb : 0 < b) (hab : intBits a ≤ 30000) (hbb : intBits b ≤ 8000) : Qr C 71 [.int a 0, .int b 0] 25 [.int (a / b) 0, .int (a % b) 0] := by
  intro A env loc led K fit hK
  refine C_def (loc' := [("a", some (.int a 0)), ("b", some (.int b 0)), ("n", none), ("a_digits", none), ("r", none), ("q_digits", none), ("a_digit", none), ("q_digit", none), ("q", none)]) ["a", "b"] ["n", "a_digits", "r", "q_digits", "a_digit", "q_digit", "q"] fit.lt
    (FnOk.of H (f := 71) (c := 70) rfl rfl rfl rfl rfl rfl rfl rfl rfl rfl rfl) (fun args' ha s S => ?_) rfl rfl (by kernel_rfl) (fun L => ?_)
  · obtain ⟨x, y, rfl⟩ := erL2 ha
    exact BindsTo.of_eq (by rfl)
  · refine with_env H fit.deeper [("_int2digits", .ref 57), ("_digits2int", .ref 64), ("_div2n1n", .ref 43), ("reversed", .type "reversed")] [] rfl rfl rfl (by kernel_rfl) (by kernel_rfl) rfl (fun hE fit' => ?_)
    repeat tb_start
    have hbn := lt_bits (Nat.le_refl (intBits b))
    have hn1 : 1 ≤ intBits b := by
      rcases Nat.eq_zero_or_pos (intBits b) with e | e
      · rw [e] at hbn; simp at hbn; lia
      · exact e
    have hbl : 2 ^ (intBits b - 1) ≤ b := by
      refine Int.not_lt.mp fun q => ?_
      have := bits_lt (Int.le_of_lt hb) q
      lia
    have hnm : intBits b * ((intBits a + intBits b - 1) / intBits b) ≤ 38000 := by
      have := Nat.mul_div_le (intBits a + intBits b - 1) (intBits b)
      lia
    have ham : a < 2 ^ (intBits b * ((intBits a + intBits b - 1) / intBits b)) := by
      refine Int.lt_of_lt_of_le (lt_bits (Nat.le_refl (intBits a))) (pow_le ?_)
      have := Nat.div_add_mod (intBits a + intBits b - 1) (intBits b)
      have := Nat.mod_lt (intBits a + intBits b - 1) hn1
      lia
    have hcall := i2d H (n := intBits b) hn1 ha hab hbb
    generalize (intBits a + intBits b - 1) / intBits b = m at hnm ham hcall
    generalize intBits b = n at hnm ham hcall hbl hn1 hbn hbb ⊢
    have hml := len_le hn1 hnm
    refine hcall _ _ _ _ _ (fit'.mono (by decide)) (fun t => ?_)
    repeat tb_start
    rename_i qa
    refine X_ForRev fit'.hd ?_
    repeat tb_start
    refine B_reversed (by tb_rel) (fun ri => ?_)
    refine ⟨ri, t, digs n a m, fun k l d => ∃ x1 x2, ∃ ql : List Int, l = ([("a", some (.int a 0)), ("b", some (.int b 0)), ("n", some (.int n 0)), ("a_digits", some (.ref t)), ("r", some (.int (a / 2 ^ (n * k) % b) 0)), ("q_digits", some (.ref qa)), ("a_digit", x1), ("q_digit", x2), ("q", none)] : Loc) ∧
      d = .obj qa (OList (iv ql)) :: .obj t (OList (digs n a m)) :: .obj env.locals (OLoc loc) :: led ∧ k ≤ m ∧ ql.length = m - k ∧ (∀ q ∈ ql, 0 ≤ q ∧ q < 2 ^ n) ∧ dval n ql.reverse = a / 2 ^ (n * k) / b, _, rfl, Sub.refl, ?_, ?_, ?_, ?_⟩
    · refine ⟨none, none, [], ?_, rfl, Nat.le_of_eq digs_length, by rw [digs_length]; simp, by simp, ?_⟩
      · rw [digs_length, Int.ediv_eq_zero_of_lt ha ham, Int.zero_emod]
      · rw [digs_length, Int.ediv_eq_zero_of_lt ha ham, Int.zero_ediv]; rfl
    · rintro k l d ⟨x1, x2, ql, rfl, rfl, _⟩
      tb_rel
    · rintro k l d it v hv ⟨x1, x2, ql, rfl, rfl, hk, hql, hq, hval⟩
      obtain ⟨hkm, rfl⟩ := digs_get hv
      obtain ⟨s1, s2, s3, s4⟩ := rest_step (k := k) b hb ha hbn
      repeat tb_start
      have hr0 := Int.emod_nonneg (a / 2 ^ (n * (k + 1))) (Int.ne_of_gt hb)
      have hr1 := Int.emod_lt_of_pos (a / 2 ^ (n * (k + 1))) hb
      refine O_lshift' (k := n) rfl (by have := bits_lt hr0 (Int.lt_trans hr1 hbn); lia) ?_
      have D := D2_all H hn1 hbb _ _ s3 hbl hbn s4
      rw [← s2] at D
      have q0 : 0 ≤ (a / 2 ^ (n * (k + 1)) % b * 2 ^ n + a / 2 ^ (n * k) % 2 ^ n) / b := Int.ediv_nonneg s3 (Int.le_of_lt hb)
      have q1 : (a / 2 ^ (n * (k + 1)) % b * 2 ^ n + a / 2 ^ (n * k) % 2 ^ n) / b < 2 ^ n := Int.ediv_lt_of_lt_mul hb (by rw [Int.mul_comm (2 ^ n)]; exact s4)
      generalize (a / 2 ^ (n * (k + 1)) % b * 2 ^ n + a / 2 ^ (n * k) % 2 ^ n) / b = q at s1 D q0 q1
      repeat tb_start
      refine D _ _ _ _ _ (fit'.mono (by decide)) (fun tt => ?_)
      repeat tb_start
      refine B_append (vs := iv ql) (by wtm_at "lwupd") (by rw [iv_length, hql]; exact Nat.le_trans (by lia) (show 38000 ≤ sizeLine by decide)) ?_
      rw [← iv_snoc]
      repeat tb_start
      refine forK_next ⟨_, by wtm_at "lwsub", _, _, ql ++ [q], rfl, rfl, by lia, by rw [List.length_append, hql, List.length_singleton]; lia, ?_, ?_⟩
      · intro y hy
        rcases List.mem_append.mp hy with hy | hy
        · exact hq y hy
        · rw [List.mem_singleton.mp hy]; exact ⟨q0, q1⟩
      · rw [List.reverse_append, List.reverse_singleton, List.singleton_append, dval, hval, s1]
    · rintro l d ⟨x1, x2, ql, rfl, rfl, hk, hql, hq, hval⟩
      repeat tb_start
      refine B_reverse (vs := iv ql) (by wtm_at "lwupd") (by rw [iv_length, hql]; exact Nat.le_trans (by lia) (show 38000 ≤ sizeLine by decide)) ?_
      rw [iv_reverse]
      repeat tb_start
      refine d2i H hn1 (by rw [List.length_reverse, hql]; exact hnm) (fun y hy => hq y (List.mem_reverse.mp hy)) (fit'.mono (by decide)) (by tb_rel) ?_
      rw [hval, Nat.mul_zero, Int.pow_zero, Int.ediv_one]
      repeat tb_start
      exact ⟨_, by wtm_at "lwsub", hK _⟩
end
section
open PySem.Builtin.Int (intBits)
set_option maxRecDepth 100000
set_option linter.unusedVariables false
theorem divmod_all {C : Cx} (H : CxP C) {a b : Int} (hb : b ≠ 0) (ha : intBits a ≤ 30000) (hb' : intBits b ≤ 8000) : Qr C 78 [.int a 0, .int b 0] 28 [.int (a.fdiv b) 0, .int (a.fmod b) 0] :=
  int_divmod_ok H (fun a b h1 h2 h3 h4 => divmod_pos H h1 h2 h3 h4) hb ha hb'

/-! ## strings -/
section
variable {C : Cx} {A : Around} {env : Env} {loc : Loc} {led : Led}
theorem O_gt_str {a b : Str} {K : Value → Loc → Led → Prop} (h : K (.bool (b.cps.toList < a.cps.toList)) loc led) : Op2 C A env (compareOp .Gt) (.str a 0) (.str b 0) loc led K := fun a' b' ha hb s S => by
  obtain ⟨t, rfl⟩ := er_is_str ha; obtain ⟨u, rfl⟩ := er_is_str hb
  exact PySem.P.gt_str ⟨_, _, h, S⟩
theorem O_lt_str {a b : Str} {K : Value → Loc → Led → Prop} (h : K (.bool (a.cps.toList < b.cps.toList)) loc led) : Op2 C A env (compareOp .Lt) (.str a 0) (.str b 0) loc led K := fun a' b' ha hb s S => by
  obtain ⟨t, rfl⟩ := er_is_str ha; obtain ⟨u, rfl⟩ := er_is_str hb
  exact lt_str ⟨_, _, h, S⟩
theorem O_sub_bool {p q : Bool} {K : Value → Loc → Led → Prop} (h : K (.int (b2i p - b2i q) 0) loc led) : Op2 C A env (binaryOp .Sub) (.bool p) (.bool q) loc led K := fun a' b' ha hb s S => by
  rw [er_is_bool ha, er_is_bool hb]
  exact sub_bool ⟨_, _, h, S.toks⟩
end
/-- what _strcoll says -/
noncomputable def cmpS (a b : List Nat) : Int := b2i (b < a) - b2i (a < b)

set_option maxHeartbeats 1000000 in
theorem strcoll {C : Cx} (H : CxP C) {a b : Str} {A : Around} {env : Env} {loc : Loc} {led : Led} {K : Value → Loc → Led → Prop} (fit : Fit A 2)
    (hK : K (.int (cmpS a.cps.toList b.cps.toList) 0) loc led) : CallT C A env (.ref 85) [.str a 0, .str b 0] loc led K := by
  refine C_def (loc' := [("a", some (.str a 0)), ("b", some (.str b 0))]) ["a", "b"] [] fit.lt
    (FnOk.of H (f := 85) (c := 84) rfl rfl rfl rfl rfl rfl rfl rfl rfl rfl rfl) (fun args' ha s S => ?_) rfl rfl (by kernel_rfl) (fun L => ?_)
  · obtain ⟨x, y, rfl⟩ := erL2 ha
    exact BindsTo.of_eq (by rfl)
  · refine with_env H fit.deeper [] [] rfl rfl rfl (by kernel_rfl) (by kernel_rfl) rfl (fun hE fit' => ?_)
    repeat tb_start
    refine O_gt_str ?_
    repeat tb_start
    refine O_lt_str ?_
    repeat tb_start
    refine O_sub_bool ?_
    repeat tb_start
    exact ⟨_, by wtm_at "lwsub", hK⟩
end
section
open PySem.Builtin.Int (intBits)
set_option maxRecDepth 100000
set_option linter.unusedVariables false
/-! ## sets of ints, with who leads their order -/
theorem put_led (t : SetTable) (j : Nat) : (t.put j).1.led = t.led := rfl
theorem orStandIn_led (t : SetTable) (n : Nat) : (t.orStandIn n).led = t.led := by unfold SetTable.orStandIn; split <;> rfl
theorem drop_led (t : SetTable) (i : Nat) : (t.drop i).led = t.led := by unfold SetTable.drop; split <;> rfl
theorem layNew_led (t : SetTable) (es : Array (Int × Value)) (h : Int) (x : Value) : (layNew t es h x).2.1.led = t.led := by
  unfold layNew
  split
  · exact (orStandIn_led _ _).trans (put_led t _)
  · rfl
theorem laid_led {mask finger moves : Nat} {led plain : Bool} {hs : Array Int} {t : SetTable} {o : Array Nat} (h : SetTable.laid mask finger moves led plain hs = some (t, o)) : t.led = led := by
  unfold SetTable.laid at h
  cases q : SetTable.layClean mask hs with
  | none => rw [q] at h; cases h
  | some w => rw [q] at h; cases h; rfl
theorem relayAll_led (t : SetTable) (es : Array (Int × Value)) (w : Nat) : (relayAll t es w).2.1.led = t.led := by
  unfold relayAll
  cases q : t.relaid (es.map (·.1)) w with
  | none => rfl
  | some r =>
    obtain ⟨t', o⟩ := r
    have := laid_led q
    dsimp only
    split
    · exact this
    · rfl

noncomputable def setObj (es : Array (Int × Value)) (ep : Nat) (t : SetTable) : Obj := { cls := .type "set", dict := none, data := .set es ep t, slots := #[] }
noncomputable def OSet (C : Cx) (xs : List Int) : Obj → Prop := fun o => ∃ es ep t, o = setObj es ep t ∧ ElemsOf (intKind C.prog C.w) es.toList ∧ (es.toList.map fun e => er e.2).Perm (iv xs) ∧ t.fits es.size = true ∧ t.led = !(C.w.params.followText "set-order")

section
variable {prog : Program} {w : World} {A : Around} {E : Value → Shared → Prop} {s : Shared}
theorem setsByText_ {Q : Bool → Shared → Prop} (h : Q (w.params.followText "set-order") s) : wpAny (model prog w) A setsByText Q E s := by
  unfold setsByText
  exact wpAny_bind (wpAny_askSetting (wpAny_pure h))

theorem newSet_ {Q : Value → Shared → Prop} (h : Q (.ref s.heap.objs.size) { s with heap := s.heap.push (setObj #[] 0 (.fresh 0 0 (!(w.params.followText "set-order")))) }) : wpAny (model prog w) A (newSet (.type "set")) Q E s := by
  unfold newSet
  refine wpAny_bind (setsByText_ ?_)
  dsimp only
  simp only [newObj]
  exact wpAny_bind (wpAny_alloc (wpAny_pure h))

theorem update_set {a : Addr} {es es' : Array (Int × Value)} {ep : Nat} {t t' : SetTable} (ho : s.heap.get? a = some (setObj es ep t)) : (s.heap.update a (Obj.putSet es' t')).get? a = some (setObj es' (ep + 1) t') := by
  have := Heap.get?_update_self (Obj.putSet es' t') ho (by rw [putSet_of es' t' rfl]; rfl)
  rw [putSet_of es' t' rfl] at this; exact this

theorem addTail {g : Bool → Sem Unit} (hg : ∀ (b : Bool) (s₁ : Shared) (Q' : Unit → Shared → Prop), Q' () s₁ → wpAny (model prog w) A (g b) Q' E s₁)
    {a : Addr} {es : Array (Int × Value)} {ep : Nat} {t : SetTable} (ho : s.heap.get? a = some (setObj es ep t))
    {es1 : Array (Int × Value)} {t2 : SetTable} (hb1 : es1.size < scanBound) (hf2 : t2.fits es1.size = true) {wasDummy : Bool} {R : Option Bool → Shared → Prop}
    (h : ∀ h' es' ep' t', Heap.SameBut a s.heap h' → h'.get? a = some (setObj es' ep' t') → es'.toList.Perm es1.toList → t'.fits es'.size = true → t'.led = t2.led → R (some true) { s with heap := h' }) :
    wpAny (model prog w) A (do
        storeSet a es1 t2
        if (!wasDummy && t2.tooFull) = true then do
            g (relayAll t2 es1 (SetTable.grown es1.size)).2.2
            storeSet a (relayAll t2 es1 (SetTable.grown es1.size)).1 (relayAll t2 es1 (SetTable.grown es1.size)).2.1
            pure (some true)
          else pure (some true)) R E s := by
  refine wpAny_bind (wpAny_storeSet_of ho rfl ?_ (fits_of_scanBound hb1))
  have ho1 := update_set (es' := es1) (t' := t2) ho
  have hsb1 := Heap.SameBut.update s.heap a (Obj.putSet es1 t2)
  split
  · have hp := relayAll_perm t2 es1 (SetTable.grown es1.size)
    have hfr := relayAll_fits t2 es1 (SetTable.grown es1.size)
    have hl := relayAll_led t2 es1 (SetTable.grown es1.size)
    generalize hRl : relayAll t2 es1 (SetTable.grown es1.size) = Rl at hp hfr hl ⊢
    obtain ⟨es2, t3, gave2⟩ := Rl
    dsimp only at hp hfr hl ⊢
    have hsz : es2.size = es1.size := by rw [← Array.length_toList, hp.length_eq, Array.length_toList]
    refine wpAny_bind (hg _ _ _ ?_)
    refine wpAny_bind (wpAny_storeSet_of ho1 rfl ?_ (fits_of_scanBound (by rw [hsz]; exact hb1)))
    exact wpAny_pure (h _ _ _ _ (hsb1.trans (Heap.SameBut.update _ a _)) (update_set (s := { s with heap := s.heap.update a (Obj.putSet es1 t2) }) ho1) hp hfr hl)
  · exact wpAny_pure (h _ _ _ _ hsb1 ho1 (List.Perm.refl _) hf2 rfl)

theorem elems_find {es : List (Int × Value)} {xs : List Int} {x : Int} (hp : (es.map fun e => er e.2).Perm (iv xs)) (hx : x ∉ xs) : es.findIdx? (fun e => (intKind prog w).is x e.2) = none := by
  refine List.findIdx?_eq_none_iff.mpr fun e he => ?_
  cases q : (intKind prog w).is x e.2 with
  | false => rfl
  | true =>
    exfalso
    obtain ⟨t, ht⟩ := Value.isInt_shape q
    have hm : er e.2 ∈ iv xs := hp.mem_iff.mp (List.mem_map.mpr ⟨e, he, rfl⟩)
    rw [ht] at hm
    obtain ⟨y, hy, e'⟩ := List.mem_map.mp hm
    cases e'; exact hx hy

theorem setAdd_ {a : Addr} {es : Array (Int × Value)} {ep : Nat} {t : SetTable} {xs : List Int} {x : Int} {u : Tok} {Q : Bool → Shared → Prop} (ho : s.heap.get? a = some (setObj es ep t))
    (hel : ElemsOf (intKind prog w) es.toList) (hp : (es.toList.map fun e => er e.2).Perm (iv xs)) (hf : t.fits es.size = true) (hx : x ∉ xs) (hroom : xs.length + 1 < scanBound)
    (h : ∀ h' es' ep' t', Heap.SameBut a s.heap h' → h'.get? a = some (setObj es' ep' t') → ElemsOf (intKind prog w) es'.toList → (es'.toList.map fun e => er e.2).Perm (iv (x :: xs)) → t'.fits es'.size = true → t'.led = t.led → Q true { s with heap := h', toks := s.toks + 1 }) :
    wpAny (model prog w) A (setAdd a (.int x u)) Q E s := by
  have hn : es.size = xs.length := by
    have := hp.length_eq
    rw [List.length_map, Array.length_toList, iv_length] at this; exact this
  have hkey : (intKind prog w).is x (.int x u) = true := intKind_is _ _ _ _
  have hsc : (Value.int x u).scannable = true := rfl
  unfold setAdd
  refine wpAny_holding (wpAny_bind ((intKind prog w).pyHash hkey ?_))
  unfold setAddHashed setAddHashedIn
  refine wpAny_holding (wpAny_bind (wpAny_setState_of ho rfl hf ?_))
  dsimp only
  rw [byScan_of hsc (by rw [hn]; lia) hel]
  simp only [↓reduceIte]
  unfold setAddByScan
  refine wpAny_bind ?_
  refine wpAny_bind (wpAny_rule ?_)
  refine wpAny_bind (wpAny_setScan_of hkey ho rfl hf hel ?_)
  rw [elems_find hp hx]
  dsimp only
  have hgw : ∀ (b : Bool) {s₁ : Shared} {Q' : Unit → Shared → Prop}, Q' () s₁ → wpAny (model prog w) A (match b with | true => rule "set.scan.the-table-gave-way" | false => pure ()) Q' E s₁ :=
    fun b s₁ Q' hq => by cases b <;> first | exact wpAny_pure hq | exact wpAny_rule hq
  have hperm := layNew_perm t es ((intKind prog w).hash x) (.int x u)
  have hfits := layNew_fits t es ((intKind prog w).hash x) (.int x u)
  have hled := layNew_led t es ((intKind prog w).hash x) (.int x u)
  generalize hL : layNew t es ((intKind prog w).hash x) (.int x u) = L at hperm hfits hled ⊢
  obtain ⟨es1, t1, wasDummy, gave⟩ := L
  dsimp only at hperm hfits hled ⊢
  rw [Array.toList_push] at hperm
  have hel1 : ElemsOf (intKind prog w) es1.toList := (hel.push hkey hsc).perm hperm
  have hsz1 : es1.size = xs.length + 1 := by rw [← Array.length_toList, hperm.length_eq, List.length_append, Array.length_toList, hn]; rfl
  have hp1 : (es1.toList.map fun e => er e.2).Perm (iv (x :: xs)) := by
    refine (hperm.map _).trans ?_
    rw [List.map_append]
    exact (List.perm_append_comm).trans (List.Perm.cons _ hp)
  refine wpAny_bind (hgw _ ?_)
  have hend : ∀ h' es' ep' t', Heap.SameBut a s.heap h' → h'.get? a = some (setObj es' ep' t') → es'.toList.Perm es1.toList → t'.fits es'.size = true → t'.led = t1.led → Q true { s with heap := h', toks := s.toks + 1 } := by
    intro h' es' ep' t' hsb hg hpp hff hll
    exact h h' es' ep' t' hsb hg (hel1.perm hpp) ((hpp.map _).trans hp1) hff (hll.trans hled)
  split
  · have hz : es1.size < scanBound := by rw [hsz1]; exact hroom
    refine wpAny_bind ?_
    rw [hashByValue_scannable 8 hsc]
    refine wpAny_pure ?_
    refine addTail (s := { s with toks := s.toks + 1 }) ?_ ho hz ?_ ?_
    · intro b s₁ Q' hq; cases b <;> first | exact wpAny_pure hq | exact wpAny_rule hq
    · split
      · exact hfits
      · exact SetTable.fits_plain_off hfits
    · intro h' es' ep' t' hsb hg hpp hff hll; dsimp only
      refine wpAny_pure (hend h' es' ep' t' hsb hg hpp hff ?_)
      rw [hll]; split <;> rfl
  · refine wpAny_bind (wpAny_pure ?_)
    simp only [↓reduceIte]
    have hz : es1.size < scanBound := by rw [hsz1]; exact hroom
    refine addTail (s := { s with toks := s.toks + 1 }) ?_ ho hz hfits ?_
    · intro b s₁ Q' hq; cases b <;> first | exact wpAny_pure hq | exact wpAny_rule hq
    · intro h' es' ep' t' hsb hg hpp hff hll; dsimp only; exact wpAny_pure (hend h' es' ep' t' hsb hg hpp hff hll)
end
end
section
open PySem.Builtin.Int (intBits)
set_option maxRecDepth 100000
set_option linter.unusedVariables false
theorem OSet.size {C : Cx} {es : Array (Int × Value)} {xs : List Int} (hp : (es.toList.map fun e => er e.2).Perm (iv xs)) : es.size = xs.length := by
  have := hp.length_eq
  rw [List.length_map, Array.length_toList, iv_length] at this; exact this
theorem mem_iff {prog : Program} {w : World} {es : List (Int × Value)} {xs : List Int} (hel : ElemsOf (intKind prog w) es) (hp : (es.map fun e => er e.2).Perm (iv xs)) (k : Int) : xs.contains k = true ↔ ∃ e ∈ es, (intKind prog w).is k e.2 = true := by
  constructor
  · intro h
    have hk : k ∈ xs := List.contains_iff_mem.mp h
    have : Value.int k 0 ∈ es.map fun e => er e.2 := hp.mem_iff.mpr (List.mem_map.mpr ⟨k, hk, rfl⟩)
    obtain ⟨e, he, e'⟩ := List.mem_map.mp this
    obtain ⟨t, ht⟩ := er_is_int e'
    exact ⟨e, he, by rw [ht]; exact intKind_is _ _ _ _⟩
  · rintro ⟨e, he, hk⟩
    obtain ⟨t, ht⟩ := Value.isInt_shape hk
    have : er e.2 ∈ iv xs := hp.mem_iff.mp (List.mem_map.mpr ⟨e, he, rfl⟩)
    rw [ht] at this
    obtain ⟨y, hy, e'⟩ := List.mem_map.mp this
    cases e'
    exact List.contains_iff_mem.mpr hy

section
variable {C : Cx} {A : Around} {env : Env} {loc : Loc} {led : Led}
theorem St.set {s : Shared} (S : St C env loc led s) {a : Addr} {xs : List Int} (h : Ent.obj a (OSet C xs) ∈ led) : ∃ es ep t, s.heap.get? a = some (setObj es ep t) ∧ ElemsOf (intKind C.prog C.w) es.toList ∧ (es.toList.map fun e => er e.2).Perm (iv xs) ∧ t.fits es.size = true ∧ t.led = !(C.w.params.followText "set-order") := by
  obtain ⟨o, ho, es, ep, t, rfl, h1, h2, h3, h4⟩ := S.get h
  exact ⟨es, ep, t, ho, h1, h2, h3, h4⟩
theorem setOf {h : Heap} {prog : Program} {w : World} {a : Addr} {es : Array (Int × Value)} {ep : Nat} {t : SetTable} {xs : List Int} (ho : h.get? a = some (setObj es ep t)) (hel : ElemsOf (intKind prog w) es.toList) (hp : (es.toList.map fun e => er e.2).Perm (iv xs))
    (hf : t.fits es.size = true) (hn : xs.length < scanBound) : h.SetOf (intKind prog w) a (fun k => xs.contains k) xs.length :=
  ⟨_, es, ep, t, ho, ⟨rfl, rfl, rfl⟩, rfl, hel, fun k => mem_iff hel hp k, by rw [OSet.size (C := C₀) hp]; exact hn, hf, OSet.size (C := C₀) hp⟩
where C₀ : Cx := ⟨prog, w, h, default, fun _ => none, fun _ => none, []⟩

theorem B_set_add {a : Addr} {xs : List Int} {x : Int} {led' : Led} {K : Value → Loc → Led → Prop} (hu : LUpd a (OSet C (x :: xs)) (OSet C xs) led led') (hx : x ∉ xs) (hn : xs.length + 1 < scanBound) (h : K .none loc led') :
    CallT C A env (.builtin "set.add") [.ref a, .int x 0] loc led K := fun args' ha s S => by
  obtain ⟨y, z, rfl⟩ := erL2 ha
  simp only [List.map_cons, List.map_nil, List.cons.injEq, and_true] at ha
  rw [er_is_ref ha.1]
  obtain ⟨u, rfl⟩ := er_is_int ha.2
  obtain ⟨es, ep, t, ho, hel, hp, hf, hl⟩ := S.set hu.mem
  have hT : s.TypeIs (.ref a) "set" := ⟨_, ho, rfl⟩
  refine wpAny_call_entry F.slot_set_add hT F.entry_set_add ?_ (F.args_set_add_2 _ _)
  unfold Builtin.«set.add» Builtin.Frozenset.oneOther
  simp only [List.isEmpty_nil, bind_assoc]
  unfold Builtin.Frozenset.addrOf
  refine wpAny_bind (wpAny_pure ?_)
  try dsimp only
  refine wpAny_bind (wpAny_pure ?_)
  try dsimp only
  refine wpAny_bind ?_
  refine setAdd_ ho hel hp hf hx hn fun h' es' ep' t' hsb hg hel' hp' hf' hl' => ?_
  show wpAny _ _ (ret Value.none) _ _ _
  refine wpAny_pure ⟨_, rfl, loc, led', h, ?_⟩
  exact S.upd hu (s' := { s with heap := h', toks := s.toks + 1 }) hsb hg ⟨_, _, _, rfl, hel', hp', hf', hl'.trans hl⟩ rfl rfl (.inr fun vs e => by cases e)

theorem O_in_set {a : Addr} {xs : List Int} {x : Int} {K : Value → Loc → Led → Prop} (hm : Ent.obj a (OSet C xs) ∈ led) (hn : xs.length < scanBound) (h : K (.bool (xs.contains x)) loc led) :
    Op2 C A env (compareOp .In) (.int x 0) (.ref a) loc led K := fun p q hp hq s S => by
  rw [er_is_ref hq]
  obtain ⟨u, rfl⟩ := er_is_int hp
  obtain ⟨es, ep, t, ho, hel, hpp, hf, hl⟩ := S.set hm
  exact wpAny_inSet_of (knd := intKind C.prog C.w) (intKind_is _ _ _ _) rfl (setOf ho hel hpp hf hn) ⟨_, _, h, S.toks⟩

theorem noBool_set : typeLookup (.type "set") "__bool__" = pure none := by rw [typeLookup_type, builtinLookup_eq_fast]; kernel_rfl
theorem T_set {a : Addr} {xs : List Int} {K : Bool → Loc → Led → Prop} (hm : Ent.obj a (OSet C xs) ∈ led) (hn : xs.length < scanBound) (h : K (!xs.isEmpty) loc led) : TB C A env truthy (.ref a) loc led K := fun v hv s S => by
  rw [er_is_ref hv]
  obtain ⟨es, ep, t, ho, hel, hp, hf, hl⟩ := S.set hm
  have hs : es.size = xs.length := OSet.size (C := C) hp
  have hT : s.TypeIs (.ref a) "set" := ⟨_, ho, rfl⟩
  have hne : ((es.size : Int) != 0) = !xs.isEmpty := by rw [hs]; cases xs <;> simp <;> lia
  have hb : scanBound = 4096 := rfl
  have key : wpAny (model C.prog C.w) A (runValue (.builtin "len" ⟨[.ref a], []⟩)) (fun r s' => r = .int es.size (s.toks + 1) ∧ s' = { s with toks := s.toks + 1 + 1 }) (fun _ _ => False) s := by
    refine wpAny_runValue (codeAny_builtin entry_len ?_)
    rw [Around.under_plainId plain_len _]
    exact wpAny_mono (wpAny_len_body_set (Q := fun r s' => r = .int es.size (s.toks + 1) ∧ s' = { s with toks := s.toks + 1 + 1 }) ho ⟨rfl, rfl, rfl⟩ rfl hf (by lia) ⟨rfl, rfl⟩)
      (fun fin s' h' => by obtain ⟨r, rfl, hq⟩ := h'; exact hq) fun _ _ e => e
  have fin : ∃ loc' led', K (id ((es.size : Int) != 0)) loc' led' ∧ St C env loc' led' { s with toks := s.toks + 1 + 1 } := ⟨loc, led, by rw [hne]; exact h, S.toks⟩
  unfold truthy
  first
    | refine wpAny_bind (wpAny_callSpecial?_none (name := Str.ofString "__bool__") hT noBool_set ?_)
    | refine wpAny_bind (wpAny_pure (wpAny_bind (wpAny_callSpecial?_none (name := Str.ofString "__bool__") hT noBool_set ?_)))
  first
    | refine wpAny_bind (wpAny_specialOf (name := Str.ofString "__len__") hT F.slot_set_len.lookup ?_)
    | refine wpAny_bind (wpAny_pure (wpAny_bind (wpAny_specialOf (name := Str.ofString "__len__") hT F.slot_set_len.lookup ?_)))
  first
    | exact wpAny_bind (wpAny_mono key (fun r s' h' => by obtain ⟨rfl, rfl⟩ := h'; exact wpAny_pure fin) fun _ _ e => e)
    | exact wpAny_bind (wpAny_pure (wpAny_bind (wpAny_mono key (fun r s' h' => by obtain ⟨rfl, rfl⟩ := h'; exact wpAny_pure fin) fun _ _ e => e)))
end
end
section
open PySem.Builtin.Int (intBits)
set_option maxRecDepth 100000
set_option linter.unusedVariables false
theorem choose_ {M : Model} {A : Around} {E : Value → Shared → Prop} {s : Shared} {src : Source} {n : Nat} {Q : Nat → Shared → Prop} (hn : n ≠ 0) (h : ∀ i d, i < n → Q i { s with drawn := d }) : wpAny M A (choose src n) Q E s :=
  fun Γ p hΓ => ⟨hn, h _ _ (Nat.mod_lt _ (Nat.pos_of_ne_zero hn))⟩

theorem eraseAt_list {α : Type} (xs : Array α) (p : Nat) : (SetTable.eraseAt xs p).toList = xs.toList.take p ++ xs.toList.drop (p + 1) := by
  unfold SetTable.eraseAt
  rw [Array.toList_append, Array.toList_extract, Array.toList_extract]
  simp [List.extract]
  rw [List.take_of_length_le (by simp)]
theorem eraseAt_perm {α : Type} {xs : Array α} {p : Nat} {x : α} (h : xs[p]? = some x) : xs.toList.Perm (x :: (SetTable.eraseAt xs p).toList) := by
  rw [eraseAt_list]
  rw [← Array.getElem?_toList] at h
  obtain ⟨hp, e⟩ := List.getElem?_eq_some_iff.mp h
  have : xs.toList = xs.toList.take p ++ x :: xs.toList.drop (p + 1) := by
    rw [← e, ← List.drop_eq_getElem_cons hp, List.take_append_drop]
  conv => lhs; rw [this]
  exact List.perm_middle
theorem eraseAt_size {α : Type} {xs : Array α} {p : Nat} (h : p < xs.size) : (SetTable.eraseAt xs p).size + 1 = xs.size := by
  have := (eraseAt_perm (xs := xs) (p := p) (x := xs[p]) (Array.getElem?_eq_getElem h)).length_eq
  simp at this; lia
theorem insertAt_size {α : Type} (xs : Array α) (p : Nat) (x : α) : (SetTable.insertAt xs p x).size = xs.size + 1 := by
  have := (SetTable.insertAt_perm xs p x).length_eq
  simpa using this
theorem popped_fits {t : SetTable} {n i : Nat} (hf : t.fits n = true) (hi : i < n) : (t.popped i).fits (n - 1) = true := by
  simp only [SetTable.fits, Bool.and_eq_true, beq_iff_eq, decide_eq_true_eq] at hf ⊢
  obtain ⟨h1, h2⟩ := hf
  have hi' : i < t.place.size := by lia
  have e : t.place[i]? = some t.place[i] := Array.getElem?_eq_getElem hi'
  unfold SetTable.popped SetTable.drop
  rw [e]
  dsimp only
  have e1 := eraseAt_size hi'
  have e2 := insertAt_size t.dummies (SetTable.below t.dummies t.place[i]) t.place[i]
  unfold SetTable.fill at h2 ⊢
  dsimp only
  lia
theorem popPlace_lt {t : SetTable} {n : Nat} (hf : t.fits n = true) (hn : 0 < n) : ∃ i, t.popPlace = some i ∧ i < n := by
  simp only [SetTable.fits, Bool.and_eq_true, beq_iff_eq, decide_eq_true_eq] at hf
  unfold SetTable.popPlace
  rw [if_neg (by rw [Array.isEmpty_iff_size_eq_zero]; lia)]
  refine ⟨_, rfl, ?_⟩
  split <;> lia

section
variable {C : Cx} {A : Around} {env : Env} {loc : Loc} {led : Led}
theorem B_set_pop {a : Addr} {xs : List Int} {K : Value → Loc → Led → Prop} (hm : Ent.obj a (OSet C xs) ∈ led) (hne : xs ≠ []) (hn : xs.length < scanBound)
    (h : ∀ x ∈ xs, ∃ led', LUpd a (OSet C (xs.erase x)) (OSet C xs) led led' ∧ K (.int x 0) loc led') :
    CallT C A env (.builtin "set.pop") [.ref a] loc led K := fun args' ha s S => by
  obtain ⟨y, rfl⟩ := erL1 ha
  simp only [List.map_cons, List.map_nil, List.cons.injEq, and_true] at ha
  rw [er_is_ref ha]
  obtain ⟨es, ep, t, ho, hel, hp, hf, hl⟩ := S.set hm
  have hs : es.size = xs.length := OSet.size (C := C) hp
  have hpos : 0 < es.size := by rw [hs]; exact List.length_pos_iff.mpr hne
  have hT : s.TypeIs (.ref a) "set" := ⟨_, ho, rfl⟩
  have fin : ∀ i d, i < es.size → wpAny C.M A.in1 (do
      let some (_, x) := es[i]? | unsupported "internal:set.pop"
      storeSet a (SetTable.eraseAt es i) (t.popped i)
      return some x : Sem (Option Value)) (fun o s' => ∃ v, o = some v ∧ ∃ loc' led', K (er v) loc' led' ∧ St C env loc' led' s') (fun _ _ => False) { s with drawn := d } := by
    intro i d hi
    have he : es[i]? = some es[i] := Array.getElem?_eq_getElem hi
    generalize es[i] = e at he
    obtain ⟨hh, v⟩ := e
    rw [he]
    dsimp only
    have hmem : er v ∈ iv xs := hp.mem_iff.mp (List.mem_map.mpr ⟨(hh, v), List.mem_of_getElem? (by rw [Array.getElem?_toList]; exact he), rfl⟩)
    obtain ⟨x, hx, ex⟩ := List.mem_map.mp hmem
    obtain ⟨led', hu, k⟩ := h x hx
    have hpe := eraseAt_perm he
    have hz := eraseAt_size hi
    refine wpAny_bind (wpAny_storeSet_of (s := { s with drawn := d }) ho rfl (wpAny_pure ⟨v, rfl, loc, led', by rw [← ex]; exact k, ?_⟩) (by have := fits_of_scanBound hn; lia))
    refine S.upd hu (s' := { s with heap := s.heap.update a _, drawn := d }) (Heap.SameBut.update ..) (update_set ho) ⟨_, _, _, rfl, fun y hy => hel y (hpe.mem_iff.mpr (List.mem_cons_of_mem _ hy)), ?_, ?_, ?_⟩ rfl rfl (.inr fun vs e => by cases e)
    · have p1 : (Value.int x 0 :: (SetTable.eraseAt es i).toList.map fun e => er e.2).Perm (Value.int x 0 :: iv (xs.erase x)) := by
        have q1 := (hpe.map fun e => er e.2).symm.trans hp
        rw [List.map_cons, ← ex] at q1
        exact q1.trans ((List.perm_cons_erase hx).map _)
      exact p1.cons_inv
    · rw [show (SetTable.eraseAt es i).size = es.size - 1 by lia]; exact popped_fits hf hi
    · exact (drop_led t i).trans hl
  refine wpAny_call_entry F.slot_set_pop hT F.entry_set_pop ?_ (F.args_set_pop_1 _)
  unfold Builtin.«set.pop» Builtin.Frozenset.noArgs
  simp only [List.isEmpty_nil]
  unfold Builtin.Frozenset.addrOf
  refine wpAny_bind (wpAny_pure ?_)
  refine wpAny_bind (m := setPop a) ?_
  unfold setPop
  refine wpAny_bind (wpAny_setState_of ho rfl hf ?_)
  obtain ⟨bf, hbf, hbl⟩ := popPlace_lt hf hpos
  dsimp only
  rw [hbf]
  dsimp only
  refine wpAny_bind (setsByText_ ?_)
  split
  · exact wpAny_bind (choose_ (by lia) fun i d hi => wpAny_mono (fin i d hi) (fun o s' ⟨v, hv, q⟩ => by subst hv; exact wpAny_pure ⟨_, rfl, q⟩) fun _ _ e => e)
  · rename_i hcond
    have hled : t.led = true := by
      rw [hl]
      cases q : C.w.params.followText "set-order" with
      | false => rfl
      | true => rw [q] at hcond; exact absurd rfl hcond
    refine wpAny_bind ?_
    show wpAny _ _ (if (!t.led && decide (es.size > 1)) = true then unsupported "set:maker-not-led" else pure ()) _ _ _
    rw [hled, if_neg (by simp)]
    exact wpAny_pure (wpAny_bind (wpAny_pure (wpAny_mono (fin bf s.drawn hbl) (fun o s' ⟨v, hv, q⟩ => by subst hv; exact wpAny_pure ⟨_, rfl, q⟩) fun _ _ e => e)))
end
end
section
open PySem.Builtin.Int (intBits)
set_option maxRecDepth 100000
set_option linter.unusedVariables false
section
variable {prog : Program} {w : World} {A : Around} {E : Value → Shared → Prop} {s : Shared}
theorem code_set_new' {Q₁ : Value → Shared → Prop}
    (h : Q₁ (.ref s.heap.objs.size) { s with heap := s.heap.push { cls := .type "set", dict := none, data := .set #[] 0 (.fresh 0 0 (!(w.params.followText "set-order"))) } }) :
    codeAny (model prog w) A (.call (.builtin "set.__new__") ⟨[.type "set"], []⟩) (wants Q₁ E) s := by
  refine codeAny_of_tree ?_
  show wpAny _ A.in1 (do checkBuiltinCall "set.__new__" ⟨[.type "set"], []⟩; again (.builtin "set.__new__" ⟨[.type "set"], []⟩)) _ _ s
  refine wpAny_bind (wpAny_of_eq F.newCall_set_0 (wpAny_pure ⟨plainId_quiet F.plain_set_new _, codeAny_builtin F.entry_set_new ?_⟩))
  rw [Around.under_plainId F.plain_set_new _]
  unfold Builtin.«set.__new__» Builtin.Frozenset.newClass
  have hsub := sub_set_self
  obtain ⟨hp, g, d, tk, os⟩ := s
  dsimp only
  wp_walk
  refine wpAny_askSetting (wpAny_pure ?_)
  dsimp only
  simp only [newObj]
  refine wpAny_bind (wpAny_alloc (wpAny_pure ?_))
  exact wpAny_pure h

set_option maxHeartbeats 1000000 in
theorem call_set_0' {Q : Value → Shared → Prop}
    (h : Q (.ref s.heap.objs.size) { s with heap := s.heap.push (setObj #[] 0 (.fresh 0 0 (!(w.params.followText "set-order")))) }) :
    wpAny (model prog w) A (call (.type "set") []) Q E s := by
  obtain ⟨c, tl, hmro⟩ := F.called_set.mro
  have hmade := F.called_set.made
  have hsub := F.called_set.sub
  refine wpAny_call (codeAny_of_tree ?_)
  show wpAny _ _ (callAny (.type "set") _) _ _ _
  refine wpAny_pure ⟨Code.quiet_builtin _ (by decide +kernel), codeAny_builtin F.entry_type_call ?_⟩
  rw [Around.under_plain (weight_type_call_type "set" [] []) rfl]
  have h1 := F.called_set.notType
  have h2 := F.called_set.canCreate
  have hct := F.typeCall_set_0
  repeat (any_goals (first | assumption | wp_step))
  refine codeAny_mono (code_set_new' (E := E) (Q₁ := fun obj s₁ => obj = .ref s.heap.objs.size ∧ s₁ = { s with heap := s.heap.push { cls := .type "set", dict := none, data := .set #[] 0 (.fresh 0 0 (!(w.params.followText "set-order"))) } }) ⟨rfl, rfl⟩) fun r s₁ hr => ?_
  cases r with
  | error e => exact hr
  | ok fl =>
    cases fl with
    | ret obj =>
      obtain ⟨rfl, rfl⟩ := hr
      have hS : (s.heap.push { cls := .type "set", dict := none, data := .set #[] 0 (.fresh 0 0 (!(w.params.followText "set-order"))) }).get? s.heap.objs.size = some { cls := .type "set", dict := none, data := .set #[] 0 (.fresh 0 0 (!(w.params.followText "set-order"))) } := Heap.get?_push_size _ rfl
      have hT : Shared.TypeIs { s with heap := s.heap.push { cls := .type "set", dict := none, data := .set #[] 0 (.fresh 0 0 (!(w.params.followText "set-order"))) } } (.ref s.heap.objs.size) "set" := ⟨_, hS, rfl⟩
      have hli := F.called_set.init.lookup
      have hbi := F.called_set.init.bind (.ref s.heap.objs.size)
      repeat (any_goals (first | assumption | wp_step))

      refine codeAny_mono (codeAny_call_builtin (R := wants (fun r s₂ => r = .none ∧ Q (.ref s.heap.objs.size) s₂) E) F.called_set.init.plain F.entry_set_init (check_set_init hT ?_)) fun r₂ s₂ hr₂ => ?_
      · unfold Builtin.«set.__init__» noKeywords
        wp_walk
        exact ⟨rfl, h⟩
      · cases r₂ with
        | error e => exact hr₂
        | ok fl₂ =>
          cases fl₂ with
          | ret r =>
            obtain ⟨rfl, hq⟩ := hr₂
            repeat (any_goals (first | assumption | wp_step))
          | _ => exact hr₂.elim
    | _ => exact hr.elim
end
theorem elems_nil {prog : Program} {w : World} : ElemsOf (intKind prog w) ([] : List (Int × Value)) := fun e he => by cases he
theorem OSet.new {C : Cx} : OSet C [] (setObj #[] 0 (.fresh 0 0 (!(C.w.params.followText "set-order")))) := ⟨_, _, _, rfl, elems_nil, List.Perm.refl _, rfl, rfl⟩
section
variable {C : Cx} {A : Around} {env : Env} {loc : Loc} {led : Led}
theorem B_set0 {K : Value → Loc → Led → Prop} (h : ∀ t, K (.ref t) loc (.obj t (OSet C []) :: led)) : CallT C A env (.type "set") [] loc led K := fun args' ha s S => by
  have : args' = [] := by simpa using ha
  subst this
  exact call_set_0' ⟨loc, _, h _, S.push (P := OSet C []) OSet.new rfl rfl (.inr fun vs e => by cases e)⟩

end
end
section
open PySem.Builtin.Int (intBits)
set_option maxRecDepth 100000
set_option linter.unusedVariables false
section
variable {C : Cx} {A : Around} {env : Env} {loc : Loc} {led : Led}
theorem inMain_ {prog : Program} {w : World} {E : Value → Shared → Prop} {s : Shared} {c : Addr} {o : Obj} {vs : Array Value} {Q : Bool → Shared → Prop} (hc : env.code = .ref c) (ho : s.heap.get? c = some o) (hd : o.data = .fields vs) (h : ∀ b, Q b s) : wpAny (model prog w) A (inMainModule env) Q E s := by
  unfold inMainModule
  try dsimp only
  rw [hc]
  split
  · exact wpAny_pure (h _)
  · refine wpAny_bind (wpAny_fieldsOf ho hd ?_)
    split
    · exact wpAny_bind (wpAny_askSetting (wpAny_pure (h _)))
    · exact wpAny_pure (h _)
/-! ## {x} -/
theorem R_Set1 {e : Expr} {k : Nat} {pos : Pos} {K : Value → Loc → Led → Prop} (hcode : ∃ c o vs, env.code = .ref c ∧ C.h₀.get? c = some o ∧ o.data = .fields vs) (hroad : (displayRoad k [e] == .constants) = false) (hroad2 : (displayRoad k [e] == .unsure) = false)
    (he : starEach [e] env = [(false, eval e env)])
    (h : ∀ t, EV C A env e loc (.obj t (OSet C []) :: led) (fun v l d => ∃ x d', v = .int x 0 ∧ LUpd t (OSet C [x]) (OSet C []) d d' ∧ K (.ref t) l d')) : EV C A env (.Set [e] k pos) loc led K := fun s S => by
  rw [arm_eval_Set]
  refine wpAny_bind (wpAny_standAt ?_)
  obtain ⟨c, o, vs, hc, ho, hd⟩ := hcode
  refine wpAny_bind (inMain_ hc (S.keep _ _ ho) hd fun b => ?_)
  rw [he]
  unfold setDisplay
  try dsimp only
  rw [if_neg (by rw [hroad]; exact Bool.false_ne_true)]
  refine wpAny_bind (newSet_ ?_)
  dsimp only
  have S1 := S.push (P := OSet C []) OSet.new rfl (h' := s.heap.push (setObj #[] 0 (.fresh 0 0 (!(C.w.params.followText "set-order"))))) rfl (.inr fun vs e => by cases e)
  generalize s.heap.objs.size = t at S1
  refine wpAny_bind (wpAny_holding ?_)
  have key := h t _ S1
  simp only [List.map_cons, List.map_nil, List.findIdx?_cons, List.findIdx?_nil, List.length_cons, List.length_nil, Option.getD_none, Bool.false_eq_true, if_false, Option.map_none]
  rw [show (if 0 + 1 > 30 then 0 else 0 + 1) = 1 from rfl]
  simp only [List.take_succ_cons, List.take_nil, List.drop_succ_cons, List.drop_nil, List.map_cons, List.map_nil, hroad2, Bool.false_eq_true, if_false, List.forIn_nil]
  unfold evalAll
  refine wpAny_bind (wpAny_bind (wpAny_bind (wpAny_mono key (fun v s₂ ⟨l, d, ⟨x, d', hv, hu, k⟩, S₂⟩ => wpAny_bind (wpAny_standAt (wpAny_pure ?_))) fun _ _ e => e)))
  refine wpAny_bind (wpAny_holding (show wpAny _ _ (pure [] : Sem (List Value)) _ _ _ from wpAny_pure (wpAny_pure ?_)))
  refine wpAny_bind (wpAny_holding ?_)
  simp only [List.forIn_cons, List.forIn_nil]
  obtain ⟨u, rfl⟩ := er_is_int hv
  obtain ⟨es, ep, tt, hot, hel, hp, hf, hl⟩ := S₂.set hu.mem
  refine wpAny_bind (wpAny_bind (wpAny_bind (setAdd_ hot hel hp hf (by simp) (by decide) fun h' es' ep' t' hsb hg hel' hp' hf' hl' => wpAny_pure (wpAny_pure ?_))))
  have fin : St C env l d' { s₂ with heap := h', toks := s₂.toks + 1 } := S₂.upd hu (s' := { s₂ with heap := h', toks := s₂.toks + 1 }) hsb hg ⟨_, _, _, rfl, hel', hp', hf', hl'.trans hl⟩ rfl rfl (.inr fun vs e => by cases e)
  first
    | exact wpAny_pure (wpAny_pure ⟨l, d', k, fin⟩)
    | exact wpAny_pure (wpAny_pure (wpAny_pure ⟨l, d', k, fin⟩))
    | exact wpAny_pure (wpAny_pure (wpAny_pure (wpAny_pure ⟨l, d', k, fin⟩)))
end
end
section
open PySem.Builtin.Int (intBits)
set_option maxRecDepth 100000
set_option linter.unusedVariables false
theorem entry_set_iter : entryFor table "set.__iter__" = some Builtin.«frozenset.__iter__» :=
  entryFor_alias (id' := "frozenset.__iter__") (by kernel_rfl) rfl (by decide +kernel) (by kernel_rfl)
theorem owner_si : Manifest.owners.lookup (String.ofList ['r', 'o', 't', 'a', 'r', 'e', 't', 'i', '_', 't', 'e', 's'].reverse) = some Manifest.sig_set_iterator := by kernel_rfl
theorem slot_si_next : Slot "set_iterator" "__next__" "set_iterator.__next__" :=
  .of (owner := "set_iterator") (n := "__next__") (by rw [typeLookup_type, builtinLookup_eq_fast]; kernel_rfl) (by decide +kernel) (by decide +kernel) (by decide +kernel)
    (by first | exact .inl (by decide +kernel) | exact .inr (by decide +kernel)) (by rw [isSubtype_type]; kernel_rfl)
theorem entry_si_next : entryFor table "set_iterator.__next__" = some Builtin.«set_iterator.__next__» := entryFor_of_tree (by kernel_rfl)
theorem args_si_next (a : Value) : argsOk "set_iterator.__next__" ⟨[a], []⟩ := by
  unfold argsOk; rw [signature?_of (id := "set_iterator.__next__") (n := ['_', '_', 't', 'x', 'e', 'n', '_', '_']) (o := ['r', 'o', 't', 'a', 'r', 'e', 't', 'i', '_', 't', 'e', 's']) (by kernel_rfl) owner_si]; kernel_rfl

section
variable {prog : Program} {w : World} {A : Around} {E : Value → Shared → Prop} {s : Shared} {a : Addr} {hh : Int} {v : Value} {ep j : Nat} {t : SetTable}
noncomputable def one (hh : Int) (v : Value) : Array (Int × Value) := #[(hh, v)]

theorem setIter1 {Q : Value → Shared → Prop} (ho : s.heap.get? a = some (setObj #[(hh, v)] ep t)) (hf : t.fits 1 = true)
    (h : Q (.ref s.heap.objs.size) { s with heap := s.heap.push { cls := .type "set_iterator", data := .fields #[rawInt 0, rawInt 0, .ref a, rawInt 1, rawInt ep] } }) : wpAny (model prog w) A (pyIter (.ref a)) Q E s := by
  have hT : s.TypeIs (.ref a) "set" := ⟨_, ho, rfl⟩
  refine wpAny_pyIter_slot hT F.slot_set_iter (wpAny_call_entry F.slot_set_iter hT entry_set_iter ?_ (F.args_set_iter_1 _))
  unfold Builtin.«frozenset.__iter__» Builtin.Frozenset.slot0 slotArgs
  simp only [List.isEmpty_nil, Bool.not_true, Bool.false_eq_true, ↓reduceIte, bind_assoc, List.length_nil, bne_self_eq_false]
  unfold Builtin.Frozenset.addrOf Builtin.Frozenset.sizeOf
  refine wpAny_bind (wpAny_pure ?_)
  try dsimp only
  refine wpAny_bind (wpAny_pure ?_)
  refine wpAny_bind (wpAny_bind (wpAny_setEntries_of ho rfl hf (wpAny_pure ?_)))
  unfold setDrawn
  refine wpAny_bind (wpAny_bind (wpAny_setState_of ho rfl hf ?_))
  try dsimp only
  refine wpAny_bind (setsByText_ (wpAny_pure ?_))
  split
  · rename_i hc
    exact absurd (show (!t.plain && decide ((1 : Nat) > 1)) = true from (Bool.and_eq_true_iff.mp hc).2) (by simp)
  · refine wpAny_bind (wpAny_pure ?_)
    refine wpAny_bind (wpAny_setEpoch_of ho rfl hf ?_)
    exact wpAny_bind (wpAny_newObj_type (wpAny_pure ⟨_, rfl, "set_iterator", _, ⟨_, Heap.get?_push_size _ rfl, rfl⟩, slot_si_next.lookup, h⟩))

theorem pick1 {x : Int × Value} (next : Nat → Nat) : pickOrder next #[x] = #[x] := by
  show pickOrder.go next 1 0 [x] #[] = _
  unfold pickOrder.go
  have e : next 0 % [x].length = 0 := Nat.mod_one _
  rw [e]
  rfl
theorem setWalk1 {Q : Array (Int × Value) → Shared → Prop} (ho : s.heap.get? a = some (setObj #[(hh, v)] ep t)) (hf : t.fits 1 = true) (hl : t.led = !(w.params.followText "set-order")) (h : Q #[(hh, v)] s) : wpAny (model prog w) A (setWalk a) Q E s := by
  unfold setWalk
  refine wpAny_bind (wpAny_setState_of ho rfl hf ?_)
  try dsimp only
  refine wpAny_bind (setsByText_ ?_)
  split
  · refine wpAny_bind (wpAny_askSetting (wpAny_pure ?_))
    rw [pick1]; exact h
  · rename_i hB
    have hled : t.led = true := by
      rw [hl]
      cases q : w.params.followText "set-order" with
      | false => rfl
      | true => rw [q] at hB; exact absurd rfl hB
    split
    · rename_i hc
      exact absurd (show (!t.plain && decide ((1 : Nat) > 1)) = true from hc) (by simp)
    · refine wpAny_bind ?_
      show wpAny _ _ (if (!t.led && decide ((1 : Nat) > 1)) = true then unsupported "set:maker-not-led" else pure ()) _ _ _
      rw [hled, if_neg (by simp)]
      exact wpAny_pure (wpAny_pure h)

theorem below1_zero (j : Nat) : SetTable.below #[j] 0 = 0 := by
  show SetTable.below.go #[j] 0 1 0 1 = 0
  unfold SetTable.below.go
  simp [SetTable.below.go]
theorem below1_high {j k : Nat} (h : j < k) : SetTable.below #[j] k = 1 := by
  show SetTable.below.go #[j] k 1 0 1 = 1
  unfold SetTable.below.go
  simp [SetTable.below.go, h]
theorem place1 (hf : t.fits 1 = true) : ∃ j, t.place = #[j] := by
  simp only [SetTable.fits, Bool.and_eq_true, beq_iff_eq, decide_eq_true_eq] at hf
  have h1 := hf.1
  generalize t.place = p at h1
  obtain ⟨l⟩ := p
  match l, h1 with
  | [x], _ => exact ⟨x, rfl⟩

theorem setNext_a {Q : Option (Value × Nat) → Shared → Prop} (ho : s.heap.get? a = some (setObj #[(hh, v)] ep t)) (hf : t.fits 1 = true) (hl : t.led = !(w.params.followText "set-order"))
    (h : ∀ k, (w.params.followText "set-order" = false → ∀ j, t.place = #[j] → j < k) → Q (some (v, k)) s) : wpAny (model prog w) A (setNext a 0 0 ep) Q E s := by
  unfold setNext
  refine wpAny_bind (wpAny_setState_of ho rfl hf ?_)
  try dsimp only
  refine wpAny_bind (setsByText_ ?_)
  split
  · rename_i hB
    rw [if_neg (by simp)]
    refine wpAny_bind (setWalk1 ho hf hl ?_)
    exact wpAny_pure (h 0 fun q => by rw [hB] at q; cases q)
  · rename_i hB
    have hled : t.led = true := by
      rw [hl]
      cases q : w.params.followText "set-order" with
      | false => rfl
      | true => rw [q] at hB; exact absurd rfl hB
    split
    · rename_i hc
      exact absurd (show (!t.plain && decide ((1 : Nat) > 1)) = true from hc) (by simp)
    · refine wpAny_bind ?_
      show wpAny _ _ (if (!t.led && !false) = true then unsupported "set:maker-not-led" else pure ()) _ _ _
      rw [hled, if_neg (by simp)]
      obtain ⟨j, hj⟩ := place1 hf
      refine wpAny_pure ?_
      rw [hj, below1_zero]
      refine wpAny_pure (h (j + 1) fun _ j' e => ?_)
      rw [hj] at e; cases e; lia

theorem setNext_b {Q : Option (Value × Nat) → Shared → Prop} {k : Nat} (ho : s.heap.get? a = some (setObj #[(hh, v)] ep t)) (hf : t.fits 1 = true) (hl : t.led = !(w.params.followText "set-order"))
    (hk : w.params.followText "set-order" = false → ∀ j, t.place = #[j] → j < k) (h : Q none s) : wpAny (model prog w) A (setNext a k 1 ep) Q E s := by
  unfold setNext
  refine wpAny_bind (wpAny_setState_of ho rfl hf ?_)
  try dsimp only
  refine wpAny_bind (setsByText_ ?_)
  split
  · rename_i hB
    rw [if_neg (by simp)]
    refine wpAny_bind (setWalk1 ho hf hl ?_)
    exact wpAny_pure h
  · rename_i hB
    have hB' : w.params.followText "set-order" = false := by
      cases q : w.params.followText "set-order" with
      | false => rfl
      | true => rw [q] at hB; exact absurd rfl hB
    have hled : t.led = true := by rw [hl, hB']; rfl
    split
    · rename_i hc
      exact absurd (show (!t.plain && decide ((1 : Nat) > 1)) = true from hc) (by simp)
    · refine wpAny_bind ?_
      show wpAny _ _ (if (!t.led && !false) = true then unsupported "set:maker-not-led" else pure ()) _ _ _
      rw [hled, if_neg (by simp)]
      obtain ⟨j, hj⟩ := place1 hf
      refine wpAny_pure ?_
      rw [hj, below1_high (hk hB' j hj)]
      exact wpAny_pure h

theorem setNext1 {Q : Option Value → Shared → Prop} {it : Addr} (ho : s.heap.get? a = some (setObj #[(hh, v)] ep t)) (hf : t.fits 1 = true) (hl : t.led = !(w.params.followText "set-order"))
    (hi : s.heap.get? it = some { cls := .type "set_iterator", data := .fields #[rawInt 0, rawInt 0, .ref a, rawInt 1, rawInt ep] })
    (h : ∀ h' (k : Nat), (w.params.followText "set-order" = false → ∀ j, t.place = #[j] → j < k) → Heap.SameBut it s.heap h' → h'.get? it = some { cls := .type "set_iterator", data := .fields #[rawInt k, rawInt 1, .ref a, rawInt 1, rawInt ep] } → Q (some v) { s with heap := h' }) : wpAny (model prog w) A (pyNext (.ref it)) Q E s := by
  have hT : s.TypeIs (.ref it) "set_iterator" := ⟨_, hi, rfl⟩
  unfold pyNext
  refine wpAny_bind (wpAny_attempt (wpAny_callSpecial?_slot (name := Str.ofString "__next__") hT slot_si_next
    (wpAny_call_entry slot_si_next hT entry_si_next ?_ (args_si_next _))))
  unfold Builtin.«set_iterator.__next__»
  refine wpAny_bind (wpAny_of_eq (a := (Value.ref it, [])) rfl ?_)
  try dsimp only
  refine wpAny_bind (wpAny_fieldsOf hi rfl ?_)
  show wpAny _ _ (do
    if ((← setEntries a).size : Int) != 1 then
      rule "set_iterator.__next__.size-changed"
      setField (.ref it) 3 (rawInt (-1))
      raiseError "RuntimeError" "Set changed size during iteration"
    match ← setNext a (0 : Int).toNat (0 : Int).toNat (ep : Int).toNat with
      | some (x, next) =>
        setField (.ref it) 0 (rawInt next)
        setField (.ref it) 1 (rawInt (0 + 1))
        ret x
      | none => setField (.ref it) 2 .none; raiseNew (← newExc (.type "StopIteration") [])) _ _ _
  refine wpAny_bind (wpAny_setEntries_of ho rfl hf ?_)
  try dsimp only
  rw [if_neg (by simp)]
  refine wpAny_bind (setNext_a ho hf hl fun k hk => ?_)
  try dsimp only
  refine wpAny_bind (wpAny_setField hi rfl (by simp) ?_)
  have hi2 := Heap.get?_update_self (Obj.mapFields (·.setIfInBounds 0 (rawInt k))) hi rfl
  refine wpAny_bind (wpAny_setField (s := { s with heap := s.heap.update it (Obj.mapFields (·.setIfInBounds 0 (rawInt k))) }) hi2 rfl (by simp) ?_)
  have hi3 := Heap.get?_update_self (Obj.mapFields (·.setIfInBounds 1 (rawInt 1))) hi2 rfl
  have fin := h _ k hk ((Heap.SameBut.update s.heap it (Obj.mapFields (·.setIfInBounds 0 (rawInt k)))).trans (Heap.SameBut.update _ it (Obj.mapFields (·.setIfInBounds 1 (rawInt 1))))) hi3
  first
  | exact wpAny_pure ⟨v, rfl, wpAny_pure fin⟩
  | exact wpAny_bind (wpAny_pure (wpAny_pure ⟨v, rfl, wpAny_pure fin⟩))

theorem setEnd1 {Q : Option Value → Shared → Prop} {it : Addr} {k : Nat} (hh' : A.handled = none) (ho : s.heap.get? a = some (setObj #[(hh, v)] ep t)) (hf : t.fits 1 = true) (hl : t.led = !(w.params.followText "set-order"))
    (hk : w.params.followText "set-order" = false → ∀ j, t.place = #[j] → j < k)
    (hi : s.heap.get? it = some { cls := .type "set_iterator", data := .fields #[rawInt k, rawInt 1, .ref a, rawInt 1, rawInt ep] })
    (h : ∀ h', Heap.ExtBut it s.heap h' → Q none { s with heap := h' }) : wpAny (model prog w) A (pyNext (.ref it)) Q E s := by
  have hT : s.TypeIs (.ref it) "set_iterator" := ⟨_, hi, rfl⟩
  unfold pyNext
  refine wpAny_bind (wpAny_attempt (wpAny_callSpecial?_slot (name := Str.ofString "__next__") hT slot_si_next
    (wpAny_call_entry slot_si_next hT entry_si_next ?_ (args_si_next _))))
  unfold Builtin.«set_iterator.__next__»
  refine wpAny_bind (wpAny_of_eq (a := (Value.ref it, [])) rfl ?_)
  try dsimp only
  refine wpAny_bind (wpAny_fieldsOf hi rfl ?_)
  show wpAny _ _ (do
    if ((← setEntries a).size : Int) != 1 then
      rule "set_iterator.__next__.size-changed"
      setField (.ref it) 3 (rawInt (-1))
      raiseError "RuntimeError" "Set changed size during iteration"
    match ← setNext a k (1 : Int).toNat (ep : Int).toNat with
      | some (x, next) =>
        setField (.ref it) 0 (rawInt next)
        setField (.ref it) 1 (rawInt (1 + 1))
        ret x
      | none => setField (.ref it) 2 .none; raiseNew (← newExc (.type "StopIteration") [])) _ _ _
  refine wpAny_bind (wpAny_setEntries_of ho rfl hf ?_)
  try dsimp only
  rw [if_neg (by simp)]
  refine wpAny_bind (setNext_b ho hf hl hk ?_)
  try dsimp only
  refine wpAny_bind (wpAny_setField hi rfl (by simp) ?_)
  first
  | show wpAny _ _ (newExc (.type "StopIteration") [] >>= _) _ _ _
  | (refine wpAny_bind ?_; show wpAny _ _ (newExc (.type "StopIteration") [] >>= _) _ _ _)
  refine wpAny_bind ?_
  simp only [newExc, newTuple]
  refine wpAny_bind (wpAny_newObj_type ?_ (by size_fits))
  refine wpAny_bind (m := firstArgMember _ _) (wpAny_of_eq (a := Value.none) (by first | rfl | (simp only [firstArgMember]; rfl)) ?_)
  refine wpAny_newObj_type ?_ (by size_fits)
  simp only [raiseNew]
  refine wpAny_bind (wpAny_handled ?_)
  first | rw [show A.in1.handled = none from hh'] | rw [hh']
  refine wpAny_bind (wpAny_pure (wpAny_throw ?_))
  refine wpAny_bind (wpAny_isInstance (T := "StopIteration") (b := true) ⟨_, Heap.get?_push_size _ rfl, rfl⟩ isSubtype_stop ?_)
  have x0 : Heap.ExtBut it s.heap (s.heap.update it (Obj.mapFields (·.setIfInBounds 2 Value.none))) := fun b o hb e => ((Heap.SameBut.update s.heap it _).2 b hb).trans e
  exact wpAny_pure (h _ ((x0.push _).push _))
end
end
section
open PySem.Builtin.Int (intBits)
set_option maxRecDepth 100000
set_option linter.unusedVariables false
section
variable {prog : Program} {w : World} {A : Around} {E : Value → Shared → Prop} {s : Shared} {a : Addr} {hh : Int} {v : Value} {ep j : Nat} {t : SetTable}
theorem collect_set1 {Q : List Value → Shared → Prop} (hh' : A.handled = none) (ho : s.heap.get? a = some (setObj #[(hh, v)] ep t)) (hf : t.fits 1 = true) (hl : t.led = !(w.params.followText "set-order"))
    (h : ∀ h', (∀ b o, s.heap.get? b = some o → h'.get? b = some o) → Q [v] { s with heap := h' }) : wpAny (model prog w) A (collect (.ref a)) Q E s := by
  unfold collect
  refine wpAny_bind (wpAny_runValue (codeAny_builtin F.entry_proto_collect ?_))
  rw [Around.under_plainId F.plain_proto_collect _]
  show wpAny _ A.in1 (newList [] >>= fun l => again (.builtin "list.__iadd__" ⟨[l, .ref a], []⟩)) _ _ s
  refine wpAny_bind (wpAny_newObj_type ?_)
  refine wpAny_pure ⟨plainId_quiet F.plain_list_iadd _, codeAny_builtin F.entry_list_iadd ?_⟩
  rw [Around.under_plainId F.plain_list_iadd _]
  show wpAny _ A.in1 (Builtin.List.listExtendWith (.ref s.heap.objs.size) (.ref a) (.ref s.heap.objs.size)) _ _ _
  have hlt : a < s.heap.objs.size := Heap.lt_size ho
  have ho1 : (s.heap.push { cls := .type "list", data := .seq ([] : List Value).toArray }).get? a = some (setObj #[(hh, v)] ep t) := Heap.get?_push_of_some _ ho
  have hS1 : (s.heap.push { cls := .type "list", data := .seq ([] : List Value).toArray }).get? s.heap.objs.size = some { cls := .type "list", data := .seq ([] : List Value).toArray } := Heap.get?_push_size _ rfl
  have keep1 : ∀ b o, s.heap.get? b = some o → (s.heap.push { cls := .type "list", data := .seq ([] : List Value).toArray }).get? b = some o := fun b o e => Heap.get?_push_of_some _ e
  have hbl : ∀ b o, s.heap.get? b = some o → b ≠ s.heap.objs.size := fun b o e => Nat.ne_of_lt (Heap.lt_size e)
  unfold Builtin.List.listExtendWith
  refine wpAny_bind (wpAny_typeOf (T := "set") ⟨_, ho1, rfl⟩ ?_)
  have h1 : Builtin.List.listSameRef (.ref s.heap.objs.size) (.ref a) = false := by simp [Builtin.List.listSameRef, Nat.ne_of_gt hlt]
  have h2 : (Value.type "set" == Value.type "list") = false := by decide
  have h3 : (Value.type "set" == Value.type "tuple") = false := by decide
  simp only [h1, h2, h3, Bool.or_false, Bool.false_eq_true, if_false]
  generalize s.heap.push { cls := .type "list", data := .seq ([] : List Value).toArray } = H1 at ho1 hS1 keep1
  generalize s.heap.objs.size = L at hS1 hbl h1 hlt
  refine wpAny_bind (setIter1 (s := { s with heap := H1 }) ho1 hf ?_)
  refine wpAny_bind (wpAny_holding ?_)
  unfold Builtin.List.listLengthHint
  have hit : (H1.push { cls := .type "set_iterator", data := .fields #[rawInt 0, rawInt 0, .ref a, rawInt 1, rawInt ep] }).get? H1.objs.size = some { cls := .type "set_iterator", data := .fields #[rawInt 0, rawInt 0, .ref a, rawInt 1, rawInt ep] } := Heap.get?_push_size _ rfl
  have ho2 : (H1.push { cls := .type "set_iterator", data := .fields #[rawInt 0, rawInt 0, .ref a, rawInt 1, rawInt ep] }).get? a = some (setObj #[(hh, v)] ep t) := Heap.get?_push_of_some _ ho1
  have hS2 : (H1.push { cls := .type "set_iterator", data := .fields #[rawInt 0, rawInt 0, .ref a, rawInt 1, rawInt ep] }).get? L = some { cls := .type "list", data := .seq ([] : List Value).toArray } := Heap.get?_push_of_some _ hS1
  have keep2 : ∀ b o, s.heap.get? b = some o → (H1.push { cls := .type "set_iterator", data := .fields #[rawInt 0, rawInt 0, .ref a, rawInt 1, rawInt ep] }).get? b = some o := fun b o e => Heap.get?_push_of_some _ (keep1 b o e)
  have hbi : ∀ b o, s.heap.get? b = some o → b ≠ H1.objs.size := fun b o e => Nat.ne_of_lt (Heap.lt_size (keep1 b o e))
  have hLI : L ≠ H1.objs.size := Nat.ne_of_lt (Heap.lt_size hS1)
  have haI : a ≠ H1.objs.size := Nat.ne_of_lt (Heap.lt_size ho1)
  show wpAny _ _ _ _ _ { s with heap := H1.push { cls := .type "set_iterator", data := .fields #[rawInt 0, rawInt 0, .ref a, rawInt 1, rawInt ep] } }
  generalize H1.push { cls := .type "set_iterator", data := .fields #[rawInt 0, rawInt 0, .ref a, rawInt 1, rawInt ep] } = H2 at hit ho2 hS2 keep2
  generalize H1.objs.size = I at hit hbi hLI haI
  have hT : Shared.TypeIs { s with heap := H2 } (.ref a) "set" := ⟨_, ho2, rfl⟩
  refine wpAny_bind (wpAny_specialOf hT F.slot_set_len.lookup ?_)
  have hsp : splitId "set.__len__" = some ("set", "__len__") := by kernel_rfl
  try dsimp only
  rw [hsp]
  try dsimp only
  refine wpAny_bind (wpAny_isInstance hT sub_set_self ?_)
  simp only [Bool.not_true, Bool.false_eq_true, if_false]
  have loop : ∀ (H3 : Heap) (A : Around) (n : Nat), A.handled = none → H3.get? I = some { cls := .type "set_iterator", data := .fields #[rawInt 0, rawInt 0, .ref a, rawInt 1, rawInt ep] } → H3.get? a = some (setObj #[(hh, v)] ep t) →
      H3.get? L = some { cls := .type "list", dict := none, data := .seq #[] n, slots := #[] } → (∀ b o, s.heap.get? b = some o → H3.get? b = some o) →
      codeAny (model prog w) A (.builtin "list.extend.loop" ⟨[.ref L, .ref I, .ref L], []⟩) (fun r s' => ∃ h' c, r = .ok (.ret (.ref L)) ∧ s' = { s with heap := h' } ∧ (∀ b o, s.heap.get? b = some o → h'.get? b = some o) ∧
        h'.get? L = some { cls := .type "list", dict := none, data := .seq #[v] c, slots := #[] }) { s with heap := H3 } := by
    intro H3 A n hA hi3 ho3 hS3 keep3
    refine codeAny_builtin F.entry_extend_loop ?_
    rw [Around.under_plainId F.plain_extend_loop _]
    show wpAny _ A.in1 (pyNext (.ref I) >>= _) _ _ _
    refine wpAny_bind (setNext1 (s := { s with heap := H3 }) ho3 hf hl hi3 fun h4 k hk hsb hi4 => ?_)
    have hS4 := (hsb.2 L hLI).trans hS3
    have ho4 := (hsb.2 a haI).trans ho3
    have keep4 : ∀ b o, s.heap.get? b = some o → h4.get? b = some o := fun b o e => (hsb.2 b (hbi b o e)).trans (keep3 b o e)
    show wpAny _ A.in1 (updateSeq L (·.push v) >>= _) _ _ _
    refine wpAny_bind (wpAny_updateSeq hS4 rfl ?_)
    have hS5 := Heap.get?_update_self (Obj.mapSeq (·.push v)) hS4 rfl
    have oth : ∀ b o, b ≠ L → h4.get? b = some o → (h4.update L (Obj.mapSeq (·.push v))).get? b = some o := fun b o hb e => (Heap.get?_update_other _ _ (Ne.symm hb)).trans e
    refine wpAny_pure ⟨plainId_quiet F.plain_extend_loop _, codeAny_builtin F.entry_extend_loop ?_⟩
    rw [Around.under_plainId F.plain_extend_loop _]
    show wpAny _ A.in1 (pyNext (.ref I) >>= _) _ _ _
    refine wpAny_bind (setEnd1 (s := { s with heap := h4.update L (Obj.mapSeq (·.push v)) }) hA (oth _ _ (Nat.ne_of_lt hlt) ho4) hf hl hk (oth _ _ (Ne.symm hLI) hi4) fun h6 hx => ?_)
    refine wpAny_pure ⟨h6, _, rfl, rfl, fun b o e => hx b o (hbi b o e) (oth b o (hbl b o e) (keep4 b o e)), hx L _ hLI hS5⟩
  rw [if_pos]
  rotate_left
  · kernel_rfl
  refine wpAny_bind (wpAny_typeOf hT ?_)
  refine wpAny_pure ?_
  rw [if_pos]
  rotate_left
  · kernel_rfl
  refine wpAny_bind (wpAny_rule ?_)
  refine wpAny_bind ?_
  show wpAny _ A.in1 (updateSeq L (·.push .none) >>= fun _ => updateSeq L (·.pop)) _ _ _
  refine wpAny_bind (wpAny_updateSeq hS2 rfl ?_)
  have hS3 := Heap.get?_update_self (Obj.mapSeq (·.push Value.none)) hS2 rfl
  refine wpAny_updateSeq hS3 rfl ?_
  have hS4 := Heap.get?_update_self (Obj.mapSeq (·.pop)) hS3 rfl
  have oth : ∀ b o, b ≠ L → H2.get? b = some o → ((H2.update L (Obj.mapSeq (·.push Value.none))).update L (Obj.mapSeq (·.pop))).get? b = some o :=
    fun b o hb e => (Heap.get?_update_other _ _ (Ne.symm hb)).trans ((Heap.get?_update_other _ _ (Ne.symm hb)).trans e)
  refine wpAny_pure ⟨plainId_quiet F.plain_extend_loop _, codeAny_mono (loop _ _ _ (by exact hh') (oth _ _ (Ne.symm hLI) hit) (oth _ _ (Nat.ne_of_lt hlt) ho2) hS4 fun b o e => oth b o (hbl b o e) (keep2 b o e)) ?_⟩
  rintro r s₁ ⟨h', c, rfl, rfl, hk, hg⟩
  dsimp only
  refine wpAny_bind (wpAny_load hg ?_)
  exact wpAny_pure (h h' hk)
end
end
section
open PySem.Builtin.Int (intBits)
set_option maxRecDepth 100000
set_option linter.unusedVariables false
section
variable {C : Cx} {A : Around} {env : Env} {loc : Loc} {led : Led}
theorem St.list_upd' {s : Shared} (S : St C env loc led s) {a : Addr} {vs vs' : List Value} {led' : Led} (hu : LUpd a (OList vs') (OList vs) led led') (f : Array Value → Array Value) (hf : ∀ items : Array Value, erL items.toList = vs → erL (f items).toList = vs') :
    St C env loc led' { s with heap := s.heap.update a (Obj.mapSeq f) } := by
  obtain ⟨items, n, g, e, _⟩ := S.list hu.mem
  exact S.list_upd hu g f (hf items e) (t := s.toks)

theorem B_sorted1 {a : Addr} {x : Int} {K : Value → Loc → Led → Prop} (hh : A.handled = none) (hm : Ent.obj a (OSet C [x]) ∈ led) (h : ∀ t, K (.ref t) loc (.obj t (OList [.int x 0]) :: led)) :
    CallT C A env (.builtin "sorted") [.ref a] loc led K := fun args' ha s S => by
  obtain ⟨y, rfl⟩ := erL1 ha
  simp only [List.map_cons, List.map_nil, List.cons.injEq, and_true] at ha
  rw [er_is_ref ha]
  obtain ⟨es, ep, t, ho, hel, hp, hf, hl⟩ := S.set hm
  have hs : es.size = 1 := OSet.size (C := C) hp
  obtain ⟨hv, v, u, rfl, rfl⟩ : ∃ hv v u, es = #[(hv, v)] ∧ v = .int x u := by
    obtain ⟨l⟩ := es
    obtain ⟨⟨hv, v⟩, t', e', h1⟩ := lenS (show l.length = 0 + 1 from hs)
    obtain rfl := len0 h1
    subst e'
    · have e : er v ∈ iv [x] := hp.mem_iff.mp (by simp)
      simp only [iv, List.map_cons, List.map_nil, List.mem_singleton] at e
      obtain ⟨u, hu⟩ := er_is_int e
      exact ⟨hv, v, u, rfl, hu⟩
  refine Calls.call_function_entry kind_sorted plain_sorted entry_sorted (args_sorted1 _) ?_
  unfold Builtin.«sorted»
  refine wpAny_bind (m := checkCount "sorted" 1 1 _) (wpAny_pure ?_)
  refine wpAny_bind (collect_set1 hh ho hf hl fun h' hk => ?_)
  have S1 : St C env loc led { s with heap := h' } := S.ext (s' := { s with heap := h' }) hk rfl rfl
  refine wpAny_bind (wpAny_newList ?_)
  have S2 := S1.push (P := OList [.int x 0]) (o := seqObj "list" #[.int x u] 0) ⟨_, _, rfl, rfl⟩ rfl rfl
  have hoL : (h'.push (seqObj "list" ([.int x u] : List Value).toArray 0)).get? h'.objs.size = some (seqObj "list" ([.int x u] : List Value).toArray 0) := Heap.get?_push_size _ rfl
  have hI : IntsAre [.int x u] [x] := .cons x u .nil
  refine wpAny_bind (wpAny_holding (wpAny_call_entry slot_list_sort ⟨_, hoL, rfl⟩ entry_list_sort (list_sort_tree hoL hI (by simp) fun out ns' a1 a2 a3 => ⟨_, rfl, ?_⟩) (args_list_sort _)))
  refine wpAny_pure ⟨_, rfl, loc, _, h h'.objs.size, ?_⟩
  have hout : erL out.toList = [.int x 0] := by
    have e := List.perm_singleton.mp a2
    subst e
    generalize out.toList = l at a1
    cases a1 with
    | cons n t r => cases r; rfl
  have S3 := S2.list_upd' (vs' := []) LUpd.hit (fun _ => #[]) (fun _ _ => rfl)
  have S4 := S3.ext (s' := { s with heap := Heap.push (Heap.push _ (seqObj "tuple" ([.int x u] : List Value).toArray 0)) (seqObj "list" #[] 0) }) (fun b o e => Heap.get?_push_of_some _ (Heap.get?_push_of_some _ e)) rfl rfl
  exact S4.list_upd' (vs' := [.int x 0]) LUpd.hit (fun _ => out) (fun _ _ => hout)
end
end
section
open PySem.Builtin.Int (intBits)
set_option maxRecDepth 100000
set_option linter.unusedVariables false
section
variable {C : Cx} {A : Around} {env : Env} {loc : Loc} {led : Led}
theorem B_iter_list {a : Addr} {vs : List Value} {K : Value → Loc → Led → Prop} (hm : Ent.obj a (OList vs) ∈ led) (h : ∀ t, K (.ref t) loc (.obj t (OListIter a 0) :: led)) : CallT C A env (.builtin "iter") [.ref a] loc led K := fun args' ha s S => by
  obtain ⟨y, rfl⟩ := erL1 ha
  simp only [List.map_cons, List.map_nil, List.cons.injEq, and_true] at ha
  rw [er_is_ref ha]
  obtain ⟨items, n, g, e, hs⟩ := S.list hm
  refine call_function_entry (by decide +kernel) (by decide +kernel) kdk_entry_iter (kdk_args_iter _) ?_
  unfold Builtin.«iter»
  refine wpAny_bind (m := someArgs "iter" 1 2 _) (wpAny_of_eq (a := [Value.ref a]) (by first | rfl | kernel_rfl!) ?_)
  show wpAny _ _ (pyIter (.ref a) >>= _) _ _ _
  refine wpAny_bind (wpAny_pyIter_list (isl g) ?_)
  exact wpAny_pure ⟨_, rfl, loc, _, h _, S.push (P := OListIter a 0) ⟨rfl, rfl⟩ rfl rfl (.inl (by simp))⟩
theorem B_next_list {it a : Addr} {k : Nat} {vs : List Value} {v : Value} {led' : Led} {K : Value → Loc → Led → Prop} (hu : LUpd it (OListIter a (k + 1)) (OListIter a k) led led') (ht : Ent.obj a (OList vs) ∈ led) (hv : vs[k]? = some v)
    (h : K v loc led') : CallT C A env (.builtin "next") [.ref it] loc led K := fun args' ha s S => by
  obtain ⟨y, rfl⟩ := erL1 ha
  simp only [List.map_cons, List.map_nil, List.cons.injEq, and_true] at ha
  rw [er_is_ref ha]
  obtain ⟨o, ho, hp⟩ := S.get hu.mem
  obtain ⟨items, n, g, e, hs⟩ := S.list ht
  obtain ⟨x, hx, hxv⟩ := erL_get e hv
  have hit : s.heap.IsListIter it a k := ⟨o, ho, hp.1, hp.2⟩
  refine call_function_entry (by decide +kernel) (by decide +kernel) kdk_entry_next (kdk_args_next _) ?_
  unfold Builtin.«next»
  refine wpAny_bind (m := someArgs "next" 1 2 _) (wpAny_of_eq (a := [Value.ref it]) (by first | rfl | kernel_rfl!) ?_)
  dsimp only
  refine wpAny_bind (wpAny_specialOf (name := Str.ofString "__next__") hit.typeIs slot_listiter_next.lookup ?_)
  refine wpAny_ite_split (fun hab => absurd hab (by decide)) (fun _ => ?_)
  refine wpAny_bind (wpAny_callSpecial?_slot (name := Str.ofString "__next__") hit.typeIs slot_listiter_next
    (wpAny_call_entry slot_listiter_next hit.typeIs entry_listiter_next ?_ (args_listiter_next _)))
  show wpAny _ _ (field (.ref it) 0 >>= _) _ _ s
  refine wpAny_bind (wpAny_field ho hp.2 (x := .ref a) rfl ?_)
  show wpAny _ _ (if (Value.ref a == Value.none) = true then _ else _) _ _ s
  rw [if_neg (show ¬ ((Value.ref a == Value.none) = true) from Bool.false_ne_true)]
  show wpAny _ _ (field (.ref it) 1 >>= _) _ _ s
  refine wpAny_bind (wpAny_field ho hp.2 (x := .int k 0) rfl ?_)
  show wpAny _ _ (seqItems? (.ref a) >>= _) _ _ s
  refine wpAny_bind (wpAny_seqItems g rfl ?_)
  simp only [Int.toNat_natCast, hx]
  refine wpAny_bind (wpAny_setField ho hp.2 (by simp) (wpAny_pure ⟨x, rfl, wpAny_pure ⟨_, rfl, loc, led', by rw [hxv]; exact h, ?_⟩⟩))
  refine S.upd hu (s' := { s with heap := s.heap.update it _ }) (Heap.SameBut.update ..) (Heap.get?_update_self _ ho (Obj.isFreed_of_fields (Obj.data_mapFields hp.2 _))) ⟨(Obj.cls_mapFields ..).trans hp.1, by rw [Obj.data_mapFields hp.2]; simp [rawInt]⟩ rfl rfl (.inl (by rw [(Obj.cls_mapFields ..).trans hp.1]; simp))
end
end
section
open PySem.Builtin.Int (intBits)
set_option maxRecDepth 100000
set_option linter.unusedVariables false
section
variable {C : Cx} {A : Around} {env : Env} {loc : Loc} {led : Led}
/-- a loop over a list's iterator that stands at its end -/
theorem X_ForDone {x : Str} {px pos : Pos} {iter : Expr} {body orelse : List Stmt} {K : Flow → Loc → Led → Prop} (hA : A.handled = none)
    (h : EV C A env iter loc led (fun v l d => ∃ it t vs d', v = .ref it ∧ Pick (.obj it (OListIter t (List.length vs))) d d' ∧ Ent.obj t (OList vs) ∈ d ∧ EXS C A env orelse l d' K))
    (hs : ∀ x, foldedSetIterable iter env x = pure x := by intro _; with_unfolding_all rfl) : EX C A env (.For (.Name x px) iter body orelse pos) loc led K := by
  refine X_ForG (fun a n l d => ∃ t vs d', Pick (.obj a (OListIter t (List.length vs))) d d' ∧ Ent.obj t (OList vs) ∈ d ∧ EXS C A env orelse l d' K)
    (h.mono fun v l d ⟨it, t, vs, d', hv, hp, hm, k⟩ x' hx' s S => ?_) (fun a n l d ⟨t, vs, d', hp, hm, k⟩ => N_list_end hA hp hm (by simp) k) hs
  rw [er_is_ref (hx'.trans hv)]
  obtain ⟨o, ho, hpp⟩ := S.get hp.mem
  exact wpAny_pyIter_listiter ⟨o, ho, hpp.1, hpp.2⟩ ⟨l, d, ⟨it, 0, rfl, t, vs, d', hp, hm, k⟩, S⟩
end
end
section
open PySem.Builtin.Int (intBits)
set_option maxRecDepth 100000
set_option linter.unusedVariables false
/-- a dict with int keys, at most n -/
noncomputable def ODict (n : Nat) (f : Int → Option Value) : Obj → Prop := fun o => o.cls = .type "dict" ∧ ∃ es ep, o.data = .dict es ep ∧ IntKeys es ∧ (∀ k, (findBy Value.isInt es k).map er = f k) ∧ es.size ≤ n
section
variable {C : Cx} {A : Around} {env : Env} {loc : Loc} {led : Led}
theorem R_Dict0 {pos : Pos} {K : Value → Loc → Led → Prop} (h : ∀ t, K (.ref t) loc (.obj t (ODict 0 fun _ => none) :: led)) : EV C A env (.Dict [] [] pos) loc led K := fun s S =>
  wpAny_Dict_empty ⟨loc, _, h _, S.push (P := ODict 0 fun _ => none) ⟨rfl, #[], _, rfl, fun e he => by simp at he, fun k => rfl, Nat.le_refl _⟩ rfl rfl⟩
theorem SUB_dict {value slice : Expr} {a : Addr} {n : Nat} {f : Int → Option Value} {i : Int} {v : Value} {K : Value → Loc → Led → Prop} (hm : Ent.obj a (ODict n f) ∈ led) (hv : f i = some v) (h : K v loc led)
    (hs : ∀ a k u, subscripted slice false (.ref a) (.int k u) = operate [.ref a, .int k u] (getItem (.ref a) (.int k u)) := by intro _ _ _; with_unfolding_all rfl)
    (ht : ∀ a r, letTemporaryGo value (.ref a) r = pure () := by intro _ _; with_unfolding_all rfl) : SUB C A env value slice (.ref a) (.int i 0) loc led K := fun o' i' ho hi' s S => by
  rw [er_is_ref ho]
  obtain ⟨t, rfl⟩ := er_is_int hi'
  obtain ⟨o, hg, hc, es, ep, hd, hk, hf, hn⟩ := S.get hm
  have hmap : s.heap.IntMap a (fun k => findBy Value.isInt es k) := ⟨o, es, ep, hg, hc, hd, hk, fun _ => rfl⟩
  have e := hf i
  rw [hv] at e
  cases q : findBy Value.isInt es i with
  | none => rw [q] at e; cases e
  | some x =>
    rw [q] at e
    refine subscriptTail_builtin hmap.typeIs slot_dict_getitem.lookup ?_ (hs _ _ _) (ht _)
    exact wpAny_getItem_intMap hmap q ⟨_, _, by rw [show er x = v from Option.some.inj e]; exact h, S.toks⟩
theorem SETI_dict {a : Addr} {n : Nat} {f : Int → Option Value} {i : Int} {v : Value} {led' : Led} {K : Loc → Led → Prop} (hu : LUpd a (ODict (n + 1) (fun x => if x = i then some v else f x)) (ODict n f) led led') (hn : n ≤ sizeLine) (h : K loc led') : SETI C A env (.ref a) (.int i 0) v loc led K := fun o' i' v' ho hi' hv s S => by
  rw [er_is_ref ho]
  obtain ⟨t, rfl⟩ := er_is_int hi'
  obtain ⟨o, hg, hc, es, ep, hd, hk, hf, hle⟩ := S.get hu.mem
  have hmap : s.heap.IntMap a (fun k => findBy Value.isInt es k) := ⟨o, es, ep, hg, hc, hd, hk, fun _ => rfl⟩
  refine wpAny_setItem_intMap_le hmap (fun o' es' ep' g' d' => by rw [hg] at g'; cases g'; rw [hd] at d'; cases d'; exact hle) hn fun h' hm' hz hsb => ⟨loc, led', h, ?_⟩
  obtain ⟨o2, es2, ep2, g2, c2, d2, k2, f2⟩ := hm'
  refine S.upd hu (s' := { s with heap := h', toks := s.toks + 1 }) hsb g2 ⟨c2, es2, ep2, d2, k2, fun k => ?_, hz _ _ _ g2 d2⟩ rfl rfl (.inl (by rw [c2]; simp))
  rw [f2]
  dsimp only
  by_cases q : k = i
  · rw [if_pos q, if_pos q, ← hv]; rfl
  · rw [if_neg q, if_neg q]; exact hf k
end
end
section
set_option maxRecDepth 100000
set_option linter.unusedVariables false
section
variable {C : Cx} {A : Around} {env : Env} {loc : Loc} {led : Led}
theorem C_plainD {f : Addr} {fd : FuncData} {body : List Stmt} {args : List Value} {K : Value → Loc → Led → Prop} {loc' : Loc} {pn : List Str} (dv : List Value) (hdv : erL dv = dv)
    (hd : A.depth < 1000) (F : FnOk C env loc led f fd body) (hcell : (fd.scope.names.all fun x => x.2 != .cell) = true)
    (hbind : ∀ args', erL args' = args → ∀ s, St C env loc led s → BindsTo s fd ⟨args', []⟩ (pn.zip (args' ++ dv)))
    (hlen : pn.length = (args ++ dv).length) (hpn : pn.Nodup)
    (hloc : ∀ p ∈ loc', (p ∈ pn.zip ((args ++ dv).map some)) ∨ (p.1 ∉ pn ∧ p.2 = none)) (hloc2 : ∀ x ∈ pn, fd.scope.names.lookup x = some .local)
    (hnd : (loc'.map (·.1)).Nodup) (hki : ∀ p ∈ loc', fd.scope.names.lookup p.1 = some .local ∧ (p.1 == ("__debug__" : Str)) = false)
    (h : ∀ L, EXS C (A.deeper (fenv fd L f)) (fenv fd L f) body loc' (.obj env.locals (OLoc loc) :: led) (fun fl l d => ∃ d', Sub (.obj env.locals (OLoc loc) :: d') d ∧ K (retOf fl) loc d')) :
    CallT C A env (.ref f) args loc led K := fun args' ha s S => by
  obtain ⟨o, ho, hdata⟩ := F.get s S
  have ha2 : erL (args' ++ dv) = args ++ dv := by rw [← ha, erL, List.map_append, ← erL, ← erL, hdv]
  refine wpAny_call (codeAny_call_function hd ho hdata F.co F.gen F.body (F.code s S) ?_)
  refine hbind args' ha s S _ _ _ _ ?_
  have hzip : (pn.zip (args' ++ dv)).map (·.1) = pn := by
    have e := congrArg List.length ha2
    rw [erL, List.length_map] at e
    exact List.map_fst_zip (by rw [hlen, ← e]; exact Nat.le_refl _)
  refine wpAny_newFunctionEnv ?_ ?_ (fun h₁ hns hsb => ⟨(S.ok.nolimit.keeps S.keep).fresh _ hsb, ?_⟩) F.kind
  · intro x hx; exact of_decide_eq_true (by have := List.all_eq_true.mp hcell x hx; simpa using this)
  · intro x hx; exact hloc2 _ (hzip ▸ List.mem_map_of_mem hx)
  refine codeAny_func ?_
  have key : St C (fenv fd s.heap.objs.size f) loc' (.obj env.locals (OLoc loc) :: led) { s with heap := h₁, toks := s.toks + (pn.zip (args' ++ dv)).length } := by
    refine S.enter (fun b o e => hsb.extBut b o (Nat.ne_of_lt (Heap.lt_size e)) (Heap.get?_push_of_some _ e)) rfl hns (fun p hp => ?_) F.kind hnd hki rfl rfl
    rcases hloc p hp with hp' | ⟨hp1, hp2⟩
    · have : ∃ v, (p.1, v) ∈ pn.zip (args' ++ dv) ∧ some (er v) = p.2 := by
        rw [← ha2, show (erL (args' ++ dv)).map some = (args' ++ dv).map (fun v => some (er v)) by rw [erL, List.map_map]; rfl, List.zip_map_right] at hp'
        obtain ⟨q, hq, e⟩ := List.mem_map.mp hp'
        rw [← e]; exact ⟨q.2, hq, rfl⟩
      obtain ⟨v, hv, e⟩ := this
      rw [lookup_rev_mem (by rw [hzip]; exact hpn) hv]; exact e
    · rw [lookup_rev_none (by rw [hzip]; exact hp1), hp2]; rfl
  refine wpAny_mono (h s.heap.objs.size _ key) (fun fl s' ⟨l, d, ⟨d', hs, k⟩, S'⟩ => ?_) fun _ _ x => x.elim
  refine ⟨loc, d', ?_, S.leave S' hs⟩
  cases fl <;> exact k

end
end
section
open PySem.Builtin.Int (intBits)
set_option maxRecDepth 100000
set_option linter.unusedVariables false
section
variable {C : Cx} {A : Around} {env : Env} {loc : Loc} {led : Led}
theorem TyOk_set {a : Addr} {xs : List Int} (h : Ent.obj a (OSet C xs) ∈ led) : TyOk C env (.ref a) "set" led := fun v' s l hv S => by
  rw [er_is_ref hv]
  obtain ⟨es, ep, t, ho, _⟩ := S.set h
  exact ⟨⟨_, ho, rfl⟩, fun b e => by cases e; exact ⟨_, ho, rfl⟩⟩
theorem R_setadd {o e : Expr} {apos pos : Pos} {K : Value → Loc → Led → Prop}
    (h : EV C A env o loc led (fun v l d => ∃ a xs, v = .ref a ∧ Ent.obj a (OSet C xs) ∈ d ∧ ARGS C A env pos [e] l d (fun ws l d => CallT C A env (.builtin "set.add") (.ref a :: ws) l d K)))
    (hbase : attributeBase o "add" env (eval o env) = eval o env := by with_unfolding_all rfl)
    (he : starEach [e] env = (false, eval e env) :: starEach [] env := by with_unfolding_all rfl)
    (hline : (apos.endLine == pos.line) = true := by with_unfolding_all rfl) : EV C A env (.Call (.Attribute o "add" apos) [e] [] pos) loc led K :=
  R_Meth F.plainAttrs_set F.slot_set_add F.type_set_add (h.mono fun v l d ⟨a, vs, hv, hm, k⟩ => by subst hv; exact ⟨TyOk_set hm, MAPP_cons k he⟩) hbase (by rw [he]; rfl) hline
theorem R_setpop {o : Expr} {apos pos : Pos} {K : Value → Loc → Led → Prop}
    (h : EV C A env o loc led (fun v l d => ∃ a xs, v = .ref a ∧ Ent.obj a (OSet C xs) ∈ d ∧ CallT C A env (.builtin "set.pop") [.ref a] l d K))
    (hbase : attributeBase o "pop" env (eval o env) = eval o env := by with_unfolding_all rfl)
    (hline : (apos.endLine == pos.line) = true := by with_unfolding_all rfl) : EV C A env (.Call (.Attribute o "pop" apos) [] [] pos) loc led K :=
  R_Meth F.plainAttrs_set F.slot_set_pop F.type_set_pop (h.mono fun v l d ⟨a, vs, hv, hm, k⟩ => by subst hv; exact ⟨TyOk_set hm, MAPP_nil k⟩) hbase rfl hline
end

section
variable {C : Cx} {A : Around} {env : Env} {loc : Loc} {led : Led}
theorem C_defD {f : Addr} {fd : FuncData} {body : List Stmt} {args : List Value} {K : Value → Loc → Led → Prop} {loc' : Loc} (pn rest : List Str) (dv : List Value) (hdv : erL dv = dv)
    (hd : A.depth < 1000) (F : FnOk C env loc led f fd body)
    (hbind : ∀ args', erL args' = args → ∀ s, St C env loc led s → BindsTo s fd ⟨args', []⟩ (pn.zip (args' ++ dv)))
    (hlen : pn.length = (args ++ dv).length) (hloc : loc' = pn.zip ((args ++ dv).map some) ++ rest.map (fun x => (x, none)))
    (hck : (fd.scope.names.all (fun x => x.2 != .cell) && decide ((pn ++ rest).Nodup) && (pn ++ rest).all (fun x => fd.scope.names.lookup x == some .local && !(x == ("__debug__" : Str)))) = true)
    (h : ∀ L, EXS C (A.deeper (fenv fd L f)) (fenv fd L f) body loc' (.obj env.locals (OLoc loc) :: led) (fun fl l d => ∃ d', Sub (.obj env.locals (OLoc loc) :: d') d ∧ K (retOf fl) loc d')) :
    CallT C A env (.ref f) args loc led K := by
  simp only [Bool.and_eq_true, decide_eq_true_eq] at hck
  obtain ⟨⟨hc, hn⟩, ha⟩ := hck
  have ha' : ∀ x ∈ pn ++ rest, fd.scope.names.lookup x = some .local ∧ (x == ("__debug__" : Str)) = false := fun x hx => by
    have := List.all_eq_true.mp ha x hx
    simp only [Bool.and_eq_true, beq_iff_eq, Bool.not_eq_true'] at this
    exact ⟨this.1, this.2⟩
  have hfst : loc'.map (·.1) = pn ++ rest := by
    rw [hloc, List.map_append, List.map_fst_zip (by rw [hlen]; simp)]
    simp [Function.comp_def]
  refine C_plainD dv hdv hd F hc hbind hlen (List.nodup_append.mp hn).1 (fun p hp => ?_) (fun x hx => (ha' x (List.mem_append_left _ hx)).1) (by rw [hfst]; exact hn) (fun p hp => ha' p.1 (by rw [← hfst]; exact List.mem_map_of_mem hp)) h
  rw [hloc] at hp
  rcases List.mem_append.mp hp with hp | hp
  · exact .inl hp
  · obtain ⟨x, hx, rfl⟩ := List.mem_map.mp hp
    exact .inr ⟨fun q => (List.nodup_append.mp hn).2.2 _ q _ hx rfl, rfl⟩
end
end
local macro_rules | `(tactic| tb_start) => `(tactic| with_reducible first | refine R_setpop ?_ | refine R_setadd ?_)
section
open PySem.Builtin.Int (intBits)
set_option maxRecDepth 100000
set_option linter.unusedVariables false
/-- the table of powers: nothing, or the half alone -/
noncomputable def powD (w : Nat) (k : Int) : Option Value := if 2048 < w ∧ k = (w / 2 : Nat) then some (.int (5 ^ (w / 2)) 0) else none

set_option maxHeartbeats 4000000 in
theorem cpow {C : Cx} (H : CxP C) {w : Nat} (hw : w ≤ 4096) {A : Around} {env : Env} {loc : Loc} {led : Led} {K : Value → Loc → Led → Prop} (fit : Fit A 4)
    (hK : ∀ t n, K (.ref t) loc (.obj t (ODict n (powD w)) :: led)) : CallT C A env (.ref 22) [.int w 0, .int 5 0, .int 2048 0] loc led K := by
  refine C_defD (loc' := [("w", some (.int w 0)), ("base", some (.int 5 0)), ("more_than", some (.int 2048 0)), ("show", some (.bool false)), ("seen", none), ("need", none), ("ws", none), ("lo", none), ("d", none), ("it", none), ("first", none), ("this", none), ("hi", none), ("sq", none)])
    ["w", "base", "more_than", "show"] ["seen", "need", "ws", "lo", "d", "it", "first", "this", "hi", "sq"] [.bool false] rfl fit.lt
    (FnOk.of H (f := 22) (c := 21) rfl rfl rfl rfl rfl rfl rfl rfl rfl rfl rfl) (fun args' ha s S => ?_) rfl rfl (by kernel_rfl) (fun L => ?_)
  · obtain ⟨x, y, z, rfl⟩ := erL3 ha
    exact BindsTo.of_defaults rfl (S.keep _ _ (H.k 15 _ rfl)) rfl rfl rfl
  · refine with_env H fit.deeper [("set", .type "set"), ("iter", .builtin "iter"), ("sorted", .builtin "sorted"), ("next", .builtin "next")] [] rfl rfl rfl (by kernel_rfl) (by kernel_rfl) rfl (fun hE fit' => ?_)
    repeat tb_start
    refine B_set0 (fun seen => ?_)
    repeat tb_start
    refine B_set0 (fun need => ?_)
    repeat tb_start
    refine R_Set1 (e := .Name "w" _) ⟨21, _, _, rfl, H.k _ _ rfl, rfl⟩ rfl rfl rfl (fun ws => ?_)
    repeat tb_start
    refine ⟨_, _, rfl, by wtm_at "lwupd", ?_⟩
    repeat tb_start
    refine X_While (fun n l d => ∃ (wv : Int) (lov : Option Value) (xs sl nl : List Int),
      l = ([("w", some (.int wv 0)), ("base", some (.int 5 0)), ("more_than", some (.int 2048 0)), ("show", some (.bool false)), ("seen", some (.ref seen)), ("need", some (.ref need)), ("ws", some (.ref ws)), ("lo", lov), ("d", none), ("it", none), ("first", none), ("this", none), ("hi", none), ("sq", none)] : Loc) ∧
      d = .obj ws (OSet C xs) :: .obj need (OSet C nl) :: .obj seen (OSet C sl) :: .obj env.locals (OLoc loc) :: led ∧
      ((n = 3 ∧ xs = [(w : Int)] ∧ sl = [] ∧ nl = []) ∨ (n = xs.length ∧ xs.length ≤ 2 ∧ (∀ x ∈ xs, x ≤ 2048) ∧ sl.length ≤ 1 ∧ nl = if 2048 < w then [((w / 2 : Nat) : Int)] else []))) ?_ 3 ⟨_, _, [(w : Int)], [], [], rfl, rfl, .inl ⟨rfl, rfl, rfl, rfl⟩⟩
    rintro n l d ⟨wv, lov, xs, sl, nl, rfl, rfl, hI⟩
    have hsz : xs.length < 4096 ∧ sl.length < 4096 := by
      rcases hI with ⟨_, rfl, rfl, _⟩ | ⟨_, h1, _, h2, _⟩
      · simp
      · lia
    repeat tb_start
    refine T_set (by tb_rel) hsz.1 ?_
    cases hx : xs with
    | nil =>
      subst hx
      have hnl : nl = if 2048 < w then [((w / 2 : Nat) : Int)] else [] := by
        rcases hI with ⟨_, h, _⟩ | ⟨_, _, _, _, h⟩
        · cases h
        · exact h
      refine ite_ff ?_
      repeat tb_start
      refine R_Dict0 (fun dd => ?_)
      repeat tb_start
      by_cases hbig : 2048 < w
      · rw [if_pos hbig] at hnl
        subst hnl
        refine T_set (by tb_rel) (by show (1 : Nat) < 4096; decide) ?_
        show if false = true then _ else _
        repeat tb_start
        refine B_sorted1 fit'.hd (by tb_rel) (fun sl' => ?_)
        repeat tb_start
        refine B_iter_list (by tb_rel) (fun itt => ?_)
        repeat tb_start
        refine B_next_list (by wtm_at "lwupd") (by tb_rel) rfl ?_
        repeat tb_start
        refine O_pow (by lia) (by have : intBits 5 = 3 := rfl; rw [this]; lia) ?_
        rw [Int.toNat_natCast]
        repeat tb_start
        refine SETI_dict (by wtm_at "lwupd") (by decide) ?_
        repeat tb_start
        refine X_ForDone fit'.hd ?_
        repeat tb_start
        refine ⟨itt, sl', [.int ((w / 2 : Nat) : Int) 0], _, rfl, Pick.hit, by tb_rel, ?_⟩
        repeat tb_start
        have : powD w = fun x => if x = ((w / 2 : Nat) : Int) then some (.int (5 ^ (w / 2)) 0) else none := by
          funext k; unfold powD; simp [hbig]
        rw [this] at hK
        exact ⟨_, by wtm_at "lwsub", hK dd (0 + 1)⟩
      · rw [if_neg hbig] at hnl
        subst hnl
        refine T_set (by tb_rel) (by decide) ?_
        show if true = true then _ else _
        repeat tb_start
        have : powD w = fun _ => none := by funext k; unfold powD; rw [if_neg (fun q => hbig q.1)]
        rw [this] at hK
        exact ⟨_, by wtm_at "lwsub", hK dd 0⟩
    | cons x₀ r =>
      refine ite_tt ?_
      rw [← hx]
      have hne : xs ≠ [] := by rw [hx]; simp
      clear hx x₀ r
      repeat tb_start
      refine B_set_pop (by tb_rel) hne hsz.1 (fun x hxm => ⟨_, by wtm_at "lwupd", ?_⟩)
      repeat tb_start
      refine O_in_set (by tb_rel) hsz.2 ?_
      repeat tb_start
      have fin : (x ≤ 2048 ∨ sl.contains x = true) → ∃ m, m < n ∧ ∃ (wv : Int) (lov' : Option Value) (xs' sl' nl' : List Int),
          ([("w", some (.int x 0)), ("base", some (.int 5 0)), ("more_than", some (.int 2048 0)), ("show", some (.bool false)), ("seen", some (.ref seen)), ("need", some (.ref need)), ("ws", some (.ref ws)), ("lo", lov), ("d", none), ("it", none), ("first", none), ("this", none), ("hi", none), ("sq", none)] : Loc) = ([("w", some (.int wv 0)), ("base", some (.int 5 0)), ("more_than", some (.int 2048 0)), ("show", some (.bool false)), ("seen", some (.ref seen)), ("need", some (.ref need)), ("ws", some (.ref ws)), ("lo", lov'), ("d", none), ("it", none), ("first", none), ("this", none), ("hi", none), ("sq", none)] : Loc) ∧
          (.obj ws (OSet C (xs.erase x)) :: .obj need (OSet C nl) :: .obj seen (OSet C sl) :: .obj env.locals (OLoc loc) :: led : Led) = .obj ws (OSet C xs') :: .obj need (OSet C nl') :: .obj seen (OSet C sl') :: .obj env.locals (OLoc loc) :: led ∧
          ((m = 3 ∧ xs' = [(w : Int)] ∧ sl' = [] ∧ nl' = []) ∨ (m = xs'.length ∧ xs'.length ≤ 2 ∧ (∀ x ∈ xs', x ≤ 2048) ∧ sl'.length ≤ 1 ∧ nl' = if 2048 < w then [((w / 2 : Nat) : Int)] else [])) := by
        intro hlow
        have he := List.length_erase_of_mem hxm
        have hpos : 0 < xs.length := List.length_pos_iff.mpr hne
        rcases hI with ⟨rfl, rfl, rfl, rfl⟩ | ⟨rfl, h1, h2, h3, h4⟩
        · have hxw : x = w := by simpa using hxm
          subst hxw
          refine ⟨0, by lia, _, _, _, _, _, rfl, rfl, .inr ⟨by simp, by simp, by simp, by simp, ?_⟩⟩
          rw [if_neg]; rcases hlow with h | h
          · lia
          · simp at h
        · exact ⟨(xs.erase x).length, by lia, _, _, _, _, _, rfl, rfl, .inr ⟨rfl, by lia, fun y hy => h2 y (List.mem_of_mem_erase hy), h3, h4⟩⟩
      refine bool_ite (fun hin => ?_) (fun hin => ?_)
      · repeat tb_start
        exact fin (.inr hin)
      · repeat tb_start
        refine dec_ite (fun hle => ?_) (fun hle => ?_)
        · repeat tb_start
          exact fin (.inl hle)
        · have hxw : x = w ∧ xs = [(w : Int)] ∧ n = 3 ∧ sl = [] ∧ nl = [] := by
            rcases hI with ⟨h1, rfl, h2, h3⟩ | ⟨rfl, h1, h2, h3, h4⟩
            · exact ⟨by simpa using hxm, rfl, h1, h2, h3⟩
            · exact absurd (h2 x hxm) hle
          obtain ⟨rfl, rfl, rfl, rfl, rfl⟩ := hxw
          rw [show ([(w : Int)]).erase (w : Int) = [] by simp]
          repeat tb_start
          refine B_set_add (by wtm_at "lwupd") (by simp) (by decide) ?_
          repeat tb_start
          refine O_rshift' (k := 1) rfl ?_
          rw [show (w : Int) / 2 ^ 1 = (w / 2 : Nat) by lia]
          repeat tb_start
          refine B_set_add (by wtm_at "lwupd") (by simp) (by decide) ?_
          repeat tb_start
          refine B_set_add (by wtm_at "lwupd") (by simp) (by decide) ?_
          repeat tb_start
          refine O_and' (bitAnd_m1 _) ?_
          repeat tb_start
          have hlow : ((w / 2 : Nat) : Int) ≤ 2048 := by lia
          refine dec_ite (fun hodd => ?_) (fun hodd => ?_)
          · repeat tb_start
            refine B_set_add (by wtm_at "lwupd") (by simp; lia) (by show (2 : Nat) < 4096; decide) ?_
            repeat tb_start
            refine ⟨2, by decide, _, _, _, _, _, rfl, rfl, .inr ⟨rfl, by simp, ?_, by simp, by rw [if_pos (by lia)]⟩⟩
            intro y hy
            simp only [List.mem_cons, List.not_mem_nil, or_false] at hy
            lia
          · repeat tb_start
            refine ⟨1, by decide, _, _, _, _, _, rfl, rfl, .inr ⟨rfl, by simp, ?_, by simp, by rw [if_pos (by lia)]⟩⟩
            intro y hy
            simp only [List.mem_cons, List.not_mem_nil, or_false] at hy
            lia
end
section
open PySem.NumText
open PySem.Builtin.Int (intBits)
set_option maxRecDepth 100000
set_option linter.unusedVariables false
section
variable {M : Model} {A : Around} {E : Value → Shared → Prop} {s : Shared}
theorem maxDigits_ {Q : Nat → Shared → Prop} (hn : s.heap.NoDigits) (h : Q 4300 s) : wpAny M A Builtin.intMaxStrDigits Q E s := by
  obtain ⟨mc, hm, e⟩ := hn
  unfold Builtin.intMaxStrDigits
  refine wpAny_bind (wpAny_nsGet hm ?_)
  rw [e]
  exact wpAny_pure h

theorem wp_textL {Q : Value → Shared → Prop} {v : Value} {text : List Nat} {n : Int} (hd : s.heap.NoDigits)
    (hs : ¬ (text.takeWhile (· != 0)).length ≤ 640) (hr : (int_private% "readNumeral") 4300 10 (text.takeWhile (· != 0)) = (int_private% "Numeral.value") n)
    (ha : ((text.takeWhile (· != 0)).length == text.length) = true) (h : Q (.int n s.toks) { s with toks := s.toks + 1 }) :
    wpAny M A ((int_private% "intFromText") v text 10) Q E s := by
  wp_step
  rw [if_neg hs]
  refine wpAny_bind (maxDigits_ hd ?_)
  dsimp only
  rw [hr]
  dsimp only
  rw [if_pos ha]
  first | exact wpAny_mkInt h | exact wpAny_bind (wpAny_fresh (wpAny_pure h)) | exact wpAny_bind (wpAny_mkInt (wpAny_pure h))
end
structure Hid' (p : Prop) : Prop where
  out : p
set_option maxHeartbeats 4000000 in
theorem gives_textL {x : PySem.Str} {u : Tok} {n : Int} (hl : ¬ (numSeenOf x).length ≤ 640) (hr : (int_private% "readNumeral") 4300 10 (numSeenOf x) = (int_private% "Numeral.value") n)
    (ha : ((numSeenOf x).length == (numTextOf x).length) = true) : Meets (Builtin.«int.__new__» ⟨[.type "int", .str x u], []⟩) (fun A R s => s.heap.NoDigits ∧ R (.ok (.ret (.int n s.toks))) { s with toks := s.toks + 1 }) := by
  intro prog w A R s ⟨hd, h⟩
  obtain ⟨hp, g, d, tk, os⟩ := s
  have f1 := F.conv_sub_int
  have f2 := F.madeHere_int
  have f3 := KIN.str_int
  have f4 := KIN.str_idx
  have f5 := KIN.str_trunc
  have f6 : typeOf (.str x u) = pure (.type "str") := rfl
  have hk := Hid'.mk (And.intro hl (And.intro hr ha))
  have hd' := Hid'.mk hd
  clear hl hr ha hd
  repeat (any_goals (first
    | assumption
    | ((with_reducible show wpAny _ _ ((int_private% "intFromText") _ _ _) _ _ _); refine wp_textL hd'.out hk.out.1 hk.out.2.1 hk.out.2.2 ?_)
    | wp_step))
section
variable {C : Cx} {A : Around} {env : Env} {loc : Loc} {led : Led}
theorem St.nodigits {s : Shared} (S : St C env loc led s) : s.heap.NoDigits := S.ok.nodigits.keeps S.keep
theorem B_int_str {x : PySem.Str} {K : Value → Loc → Led → Prop} (h1 : AllDigits x.cps.toList) (h2 : x.cps.toList ≠ []) (h3 : x.length ≤ 4300) (h : K (.int ((digitsVal x.cps.toList : Nat) : Int) 0) loc led) :
    CallT C A env (.type "int") [.str x 0] loc led K := fun args' ha s S => by
  obtain ⟨y, rfl⟩ := erL1 ha
  simp only [List.map_cons, List.map_nil, List.cons.injEq, and_true] at ha
  obtain ⟨u, rfl⟩ := er_is_str ha
  have hv := intText_digits h1 h2 h3
  have e := (numText_signs fun c hc => Or.inr (h1 c hc)).2
  have e9 : x.cps.toList.length = x.length := Array.length_toList
  by_cases hl : x.length ≤ 640
  · exact KIN.call_text hv hl ⟨_, _, h, S.toks⟩
  · rcases read4300 x (Nat.le_trans h3 (by decide)) with ⟨m, e1, e2, e3⟩ | ⟨e1, _⟩
    · rw [hv] at e1
      cases e1
      exact call_int_1 (gives_textL (by rw [e, e9]; exact hl) e3 e2) ⟨S.nodigits, rfl, _, _, h, S.toks⟩
    · rw [hv] at e1; cases e1
end
end
section
open PySem.Builtin PySem.Builtin.Str
open PySem.Builtin.Int (intBits)
set_option maxRecDepth 100000
set_option linter.unusedVariables false
/-- the text of signs -/
noncomputable def tx (l : List Nat) : PySem.Str := ⟨l.toArray⟩
@[simp] theorem tx_cps (l : List Nat) : (tx l).cps.toList = l := rfl
@[simp] theorem tx_length (l : List Nat) : (tx l).length = l.length := by show l.toArray.size = _; simp
theorem tx_eta (x : PySem.Str) : x = tx x.cps.toList := by obtain ⟨a⟩ := x; rfl
noncomputable def IsLo (v : Value) (a : Nat) : Prop := v = .int a 0 ∨ (v = .none ∧ a = 0)
noncomputable def IsHi (v : Value) (b n : Nat) : Prop := v = .int b 0 ∨ (v = .none ∧ b = n)
theorem IsLo.int {a : Nat} : IsLo (.int a 0) a := .inl rfl
theorem IsLo.none' : IsLo .none 0 := .inr ⟨rfl, rfl⟩
theorem IsHi.int {a n : Nat} : IsHi (.int a 0) a n := .inl rfl
theorem IsHi.none' {n : Nat} : IsHi .none n n := .inr ⟨rfl, rfl⟩
theorem ssi_lo (u : Option Int) (n : Nat) : strSliceIndices none u 1 n = strSliceIndices (some ((0 : Nat) : Int)) u 1 n := by
  simp [strSliceIndices]
  rw [show max (0 : Int) (min 0 (n : Int)) = 0 by omega]
theorem ssi_hi (l : Option Int) (n : Nat) : strSliceIndices l none 1 n = strSliceIndices l (some (n : Int)) 1 n := by
  simp [strSliceIndices]
  try (congr 1; omega)
theorem lo_part {v' : Value} {a : Nat} (h : IsLo (er v') a) : ∃ l : Option (Int × Tok), v' = partValue l ∧ ∀ u n, strSliceIndices (l.map (·.1)) u 1 n = strSliceIndices (some (a : Int)) u 1 n := by
  rcases h with h | ⟨h, rfl⟩
  · obtain ⟨t, rfl⟩ := er_is_int h
    exact ⟨some (a, t), rfl, fun _ _ => rfl⟩
  · rw [er_is_none h]
    exact ⟨none, rfl, fun u n => ssi_lo u n⟩
theorem hi_part {v' : Value} {b n : Nat} (h : IsHi (er v') b n) : ∃ l : Option (Int × Tok), v' = partValue l ∧ ∀ lo, strSliceIndices lo (l.map (·.1)) 1 n = strSliceIndices lo (some (b : Int)) 1 n := by
  rcases h with h | ⟨h, rfl⟩
  · obtain ⟨t, rfl⟩ := er_is_int h
    exact ⟨some (b, t), rfl, fun _ => rfl⟩
  · rw [er_is_none h]
    exact ⟨none, rfl, fun lo => ssi_hi lo b⟩
theorem lo_is {v' : Value} {a : Nat} (h : IsLo (er v') a) : ∃ l, IsPart v' l ∧ (l = some (a : Int) ∨ (l = none ∧ a = 0)) := by
  rcases h with h | ⟨h, rfl⟩
  · obtain ⟨t, rfl⟩ := er_is_int h
    exact ⟨_, .int _ _, .inl rfl⟩
  · rw [er_is_none h]; exact ⟨_, .none, .inr ⟨rfl, rfl⟩⟩
theorem hi_is {v' : Value} {b n : Nat} (h : IsHi (er v') b n) : ∃ l, IsPart v' l ∧ (l = some (b : Int) ∨ (l = none ∧ b = n)) := by
  rcases h with h | ⟨h, rfl⟩
  · obtain ⟨t, rfl⟩ := er_is_int h
    exact ⟨_, .int _ _, .inl rfl⟩
  · rw [er_is_none h]; exact ⟨_, .none, .inr ⟨rfl, rfl⟩⟩

section
variable {C : Cx} {A : Around} {env : Env} {loc : Loc} {led : Led}
noncomputable abbrev PART (C : Cx) (A : Around) (env : Env) (e : Option Expr) := Tri er C A env (evalPart e env)
theorem PART_none {K : Value → Loc → Led → Prop} (h : K .none loc led) : PART C A env none loc led K := fun s S => wpAny_evalPart_none ⟨_, _, h, S⟩
theorem PART_some {e : Expr} {K : Value → Loc → Led → Prop} (h : EV C A env e loc led K) : PART C A env (some e) loc led K := fun s S => wpAny_evalPart_some (h s S)

theorem Subscript_SliceT {s : Shared} {value : Expr} {lower upper : Option Expr} {p pos : Pos} {Q : Value → Shared → Prop} {E : Value → Shared → Prop}
    (h : wpAny C.M A (eval value env) (fun o s₁ => wpAny C.M A (eval (.Slice lower upper none p) env) (fun i s₂ => ItemOn C.M A E o i Q s₂) E s₁) E s) :
    wpAny C.M A (eval (.Subscript value (.Slice lower upper none p) pos) env) Q E s := by
  rw [eval_Subscript]
  refine wpAny_bind (wpAny_mono h (fun o s₁ h₁ => wpAny_bind (wpAny_holding (wpAny_mono h₁ (fun i s₂ h₂ => wpAny_bind (wpAny_standAt ?_)) fun _ _ x => x)))
    fun _ _ x => x)
  obtain ⟨T, id, hl, hT, hg⟩ := h₂
  refine wpAny_bind ?_
  rw [getitemInPython_of_ne hT.not_modules]
  refine wpAny_bind (wpAny_specialOf hT hl ?_)
  have fin : wpAny C.M A (operate [i, o] (getItem o i)) (fun r s₃ => wpAny C.M A (letTemporaryGo value o r >>= fun _ => pure r) Q E s₃) E s₂ :=
    wpAny_operating (wpAny_mono hg (fun r s₃ h₃ => wpAny_bind (wpAny_letTemporaryGo (wpAny_pure h₃))) fun _ _ x => x)
  first
    | exact wpAny_pure (wpAny_bind fin)
    | exact wpAny_bind (wpAny_pure (wpAny_bind fin))
    | exact wpAny_bind fin
noncomputable def SLC (env : Env) (o vl vu : Value) (l : Loc) (d : Led) (K : Value → Loc → Led → Prop) : Prop :=
  (∃ cs a b, o = .str (tx cs) 0 ∧ IsLo vl a ∧ IsHi vu b cs.length ∧ a ≤ b ∧ b ≤ cs.length ∧ cs.length ≤ sizeLine ∧ K (.str (tx ((cs.drop a).take (b - a))) 0) l d) ∨
  (∃ t vs a b, o = .ref t ∧ Ent.obj t (OList vs) ∈ d ∧ IsLo vl a ∧ IsHi vu b vs.length ∧ a ≤ b ∧ b ≤ vs.length ∧ vs.length ≤ sizeLine ∧ ∀ r, K (.ref r) l (.obj r (OList ((vs.drop a).take (b - a))) :: d))
theorem SLC_str {cs : List Nat} {vl vu : Value} {K : Value → Loc → Led → Prop} (a b : Nat) (h1 : IsLo vl a) (h2 : IsHi vu b cs.length) (h3 : a ≤ b ∧ b ≤ cs.length ∧ cs.length ≤ sizeLine) (h : K (.str (tx ((cs.drop a).take (b - a))) 0) loc led) :
    SLC env (.str (tx cs) 0) vl vu loc led K := .inl ⟨cs, a, b, rfl, h1, h2, h3.1, h3.2.1, h3.2.2, h⟩
theorem SLC_list {t : Addr} {vs : List Value} {vl vu : Value} {K : Value → Loc → Led → Prop} (a b : Nat) (hm : Ent.obj t (OList vs) ∈ led) (h1 : IsLo vl a) (h2 : IsHi vu b vs.length) (h3 : a ≤ b ∧ b ≤ vs.length ∧ vs.length ≤ sizeLine) (h : ∀ r, K (.ref r) loc (.obj r (OList ((vs.drop a).take (b - a))) :: led)) :
    SLC env (.ref t) vl vu loc led K := .inr ⟨t, vs, a, b, rfl, hm, h1, h2, h3.1, h3.2.1, h3.2.2, h⟩

theorem R_Slice {value : Expr} {lower upper : Option Expr} {p pos : Pos} {K : Value → Loc → Led → Prop}
    (h : EV C A env value loc led (fun o l d => PART C A env lower l d (fun vl l d => PART C A env upper l d (fun vu l d => SLC env o vl vu l d K)))) :
    EV C A env (.Subscript value (.Slice lower upper none p) pos) loc led K := fun s S => by
  refine Subscript_SliceT (wpAny_mono (h s S) (fun o s₁ ⟨_, _, k, S₁⟩ => wpAny_Slice (wpAny_mono (k s₁ S₁) (fun vl s₂ ⟨_, _, k₂, S₂⟩ => wpAny_mono (k₂ s₂ S₂) (fun vu s₃ ⟨l₃, d₃, k₃, S₃⟩ => wpAny_evalPart_none ?_) fun _ _ e => e) fun _ _ e => e)) fun _ _ e => e)
  rcases k₃ with ⟨cs, a, b, ho, hl, hh, hab, hb, hn, kk⟩ | ⟨t, vs, a, b, ho, hm, hl, hh, hab, hb, hn, kk⟩
  · obtain ⟨t, rfl⟩ := er_is_str ho
    obtain ⟨lo, rfl, e1⟩ := lo_part hl
    obtain ⟨hi, rfl, e2⟩ := hi_part hh
    refine ⟨"str", _, F.slot_str_getitem.lookup, typeIs_str _ _ _, wpAny_getItem_str_slice (l := lo) (u := hi) (st := none) ⟨_, Heap.get?_push_size _ rfl, rfl, rfl⟩ rfl ?_⟩
    have e : slicePicked (tx cs) lo hi none = strSliceIndices (some (a : Int)) (some (b : Int)) 1 (tx cs).length := by
      unfold slicePicked
      rw [Option.map_none, Option.getD_none, e1, show (tx cs).length = cs.length from tx_length _, e2]
    unfold sliceMade
    have hpl := StrLaws.sliced_plain (tx cs) hab (by rw [tx_length]; exact hb)
    refine post_val_or_str ?_
    rw [e, hpl, tx_cps]
    have hlen : (strSliceIndices (some (a : Int)) (some (b : Int)) 1 (tx cs).length).length = b - a := by
      rw [StrLaws.strSliceIndices_plain hab (by rw [tx_length]; exact hb)]; simp
    rw [hlen, tx_length]
    have key : (if (Option.getD (Option.map (fun x : Int × Tok => x.1) none) 1 == 1 && b - a == cs.length) = true then tx cs else tx ((cs.drop a).take (b - a))) = tx ((cs.drop a).take (b - a)) := by
      split
      · rename_i hc
        have hc' : b - a = cs.length := by simpa using hc
        have : a = 0 := by omega
        subst this
        rw [hc', List.drop_zero, List.take_length]
      · rfl
    have hz : (tx ((cs.drop a).take (b - a))).length ≤ sizeLine := by rw [tx_length]; simp; omega
    refine ⟨?_, fun t' k' => ?_⟩
    · rw [show (⟨((cs.drop a).take (b - a)).toArray⟩ : PySem.Str) = tx ((cs.drop a).take (b - a)) from rfl, key]; exact hz
    · rw [show (⟨((cs.drop a).take (b - a)).toArray⟩ : PySem.Str) = tx ((cs.drop a).take (b - a)) from rfl, key]
      exact ⟨l₃, d₃, kk, S₃.ext (s' := { s₃ with heap := s₃.heap.push _, toks := k' }) (fun b o e => Heap.get?_push_of_some _ e) rfl rfl⟩
  · rw [er_is_ref ho]
    obtain ⟨items, n, g, e, hs⟩ := S₃.list hm
    obtain ⟨lo, p1, q1⟩ := lo_is hl
    obtain ⟨hi, p2, q2⟩ := hi_is hh
    have hL := (isl g).push { cls := .type "slice", data := .fields #[vl, vu, .none] }
    refine ⟨"list", _, list_getitem_lookup, hL.typeIs, wpAny_getItem_list_slice hL (Heap.IsSliceOf.new ..) p1 p2 .none (by simp) ⟨l₃, _, kk _, ?_⟩ (by rw [hs]; exact hn)⟩
    have ep : slicePick items lo hi none = ((items.toList.drop a).take (b - a)).toArray := by
      rcases q1 with rfl | ⟨rfl, rfl⟩ <;> rcases q2 with rfl | ⟨rfl, rfl⟩
      · exact slicePick_run items a b (by rw [hs]; exact hb) hab
      · rw [slicePick_from']
        congr 1
        rw [List.take_of_length_le (by simp [hs])]
      · rw [slicePick_upto', List.drop_zero, Nat.sub_zero]
      · rw [slicePick_all, List.drop_zero, Nat.sub_zero, List.take_of_length_le (by simp [hs])]
    rw [ep]
    have S₄ := S₃.ext (s' := { s₃ with heap := s₃.heap.push { cls := .type "slice", data := .fields #[vl, vu, .none] } }) (fun b o e => Heap.get?_push_of_some _ e) rfl rfl
    exact S₄.push (P := OList ((vs.drop a).take (b - a))) (o := { cls := .type "list", data := .seq ((items.toList.drop a).take (b - a)).toArray }) ⟨_, _, rfl, by rw [← e]; simp [erL, List.map_drop, List.map_take]⟩ rfl rfl

theorem R_SliceRev {value st : Expr} {p pos : Pos} {K : Value → Loc → Led → Prop}
    (h : EV C A env value loc led (fun o l d => EV C A env st l d (fun vs' l d => ∃ t vs, o = .ref t ∧ vs' = .int (-1) 0 ∧ Ent.obj t (OList vs) ∈ d ∧ vs.length ≤ sizeLine ∧ ∀ r, K (.ref r) l (.obj r (OList vs.reverse) :: d))))
    (ht : ∀ o r, letTemporaryGo value o r = pure () := by intro _ _; with_unfolding_all rfl) :
    EV C A env (.Subscript value (.Slice none none (some st) p) pos) loc led K := fun s S => by
  refine wpAny_Subscript_Slice_step (T := "list") list_getitem_lookup (wpAny_mono (h s S) (fun o s₁ ⟨_, _, k, S₁⟩ => wpAny_Slice (wpAny_evalPart_none (wpAny_evalPart_none (wpAny_evalPart_some (wpAny_mono (k s₁ S₁) (fun vu s₃ ⟨l₃, d₃, k₃, S₃⟩ => ?_) fun _ _ e => e))))) fun _ _ e => e) ht
  obtain ⟨t, vs, ho, hst, hm, hn, kk⟩ := k₃
  rw [er_is_ref ho]
  obtain ⟨u, rfl⟩ := er_is_int hst
  obtain ⟨items, n, g, e, hs⟩ := S₃.list hm
  have hl := (isl g).push { cls := .type "slice", data := .fields #[.none, .none, .int (-1) u] }
  refine ⟨hl.typeIs, wpAny_getItem_list_slice hl (Heap.IsSliceOf.new ..) .none .none (.int _ _) (by decide) ⟨l₃, _, kk _, ?_⟩ (by rw [hs]; exact hn)⟩
  rw [krv_pick]
  have S₄ := S₃.ext (s' := { s₃ with heap := s₃.heap.push { cls := .type "slice", data := .fields #[.none, .none, .int (-1) u] } }) (fun b o e => Heap.get?_push_of_some _ e) rfl rfl
  exact S₄.push (P := OList vs.reverse) (o := { cls := .type "list", data := .seq items.toList.reverse.toArray }) ⟨_, _, rfl, by rw [← e]; simp [erL]⟩ rfl rfl
end
end
section
open PySem.Builtin PySem.Builtin.Str
open PySem.Builtin.Int (intBits)
set_option maxRecDepth 100000
set_option linter.unusedVariables false
theorem digit_nospace : ∀ c : Nat, c < 58 → 48 ≤ c → Unicode.isSpace c = false := by decide +kernel
theorem occ_no {l : List Nat} (h : 95 ∉ l) : occurrences (tx l) ⟨#[95]⟩ 0 (tx l).length ((tx l).length + 1) = [] := by
  rcases StrLaws.occ_head (tx l) ⟨#[95]⟩ ((tx l).length + 1) (by lia) with ⟨e, _⟩ | ⟨i, r, e, ha, _⟩
  · exact e
  · have := (StrLaws.found_iff (tx l) ⟨#[95]⟩).mpr ⟨i, ha.1, ha.2⟩
    rw [StrLaws.found_one] at this
    exact absurd (of_decide_eq_true this) h
theorem hi_strip {body blanks : List Nat} (hb : ∀ c ∈ blanks, Unicode.isSpace c = true) (hl : ∃ r c, body = r ++ [c] ∧ Unicode.isSpace c = false) : stripHi Unicode.isSpace true (tx (body ++ blanks)) 0 = body.length := by
  obtain ⟨r, c, rfl, hc⟩ := hl
  simp only [stripHi, if_true, tx_cps, tx_length, List.drop_zero]
  rw [List.reverse_append, List.takeWhile_append_of_pos (fun a ha => hb a (List.mem_reverse.mp ha)), List.reverse_append, List.reverse_singleton, List.singleton_append, List.takeWhile_cons, hc]
  simp
  lia
theorem strip_made {body blanks : List Nat} (hb : ∀ c ∈ blanks, Unicode.isSpace c = true) (hl : ∃ r c, body = r ++ [c] ∧ Unicode.isSpace c = false) (t : Tok) :
    (if stripSame Unicode.isSpace false true (tx (body ++ blanks)) then Made.val (.str (tx (body ++ blanks)) t) else .str (PySem.stripped Unicode.isSpace false true (tx (body ++ blanks)))) =
      if blanks = [] then Made.val (.str (tx body) t) else .str (tx body) := by
  have e := hi_strip hb hl
  have e0 : stripLo Unicode.isSpace false (tx (body ++ blanks)) = 0 := rfl
  unfold stripSame PySem.stripped
  rw [e0, e, tx_length]
  by_cases q : blanks = []
  · subst q; simp
  · rw [if_neg q, if_neg]
    · congr 1
      unfold strSub
      show (⟨(tx (body ++ blanks)).cps.extract 0 body.length⟩ : PySem.Str) = tx body
      unfold tx
      congr 1
      simp
    · have : 0 < blanks.length := List.length_pos_iff.mpr q
      simp; lia

section
variable {C : Cx} {A : Around} {env : Env} {loc : Loc} {led : Led}
theorem R_strip {o : Expr} {ap1 p1 ap2 p2 q1 q2 : Pos} {k1 k2 : Nat} {K : Value → Loc → Led → Prop}
    (h : EV C A env o loc led (fun v l d => ∃ body blanks, v = .str (tx (body ++ blanks)) 0 ∧ (∀ c ∈ blanks, Unicode.isSpace c = true) ∧ (∃ r c, body = r ++ [c] ∧ Unicode.isSpace c = false) ∧ (blanks = [] → 95 ∉ body) ∧
      (body ++ blanks).length ≤ 10000 ∧ K (.str (tx (body.filter (· != 95))) 0) l d))
    (hb1 : attributeBase o "rstrip" env (eval o env) = eval o env := by with_unfolding_all rfl)
    (hb2 : attributeBase (.Call (.Attribute o "rstrip" ap1) [] [] p1) "replace" env (eval (.Call (.Attribute o "rstrip" ap1) [] [] p1) env) = eval (.Call (.Attribute o "rstrip" ap1) [] [] p1) env := by with_unfolding_all rfl)
    (hl1 : (ap1.endLine == p1.line) = true := by with_unfolding_all rfl) (hl2 : (ap2.endLine == p2.line) = true := by with_unfolding_all rfl) :
    EV C A env (.Call (.Attribute (.Call (.Attribute o "rstrip" ap1) [] [] p1) "replace" ap2) [.Constant (.str "_") k1 q1, .Constant (.str "") k2 q2] [] p2) loc led K := fun s S => by
  have he : starEach [Expr.Constant (.str "_") k1 q1, Expr.Constant (.str "") k2 q2] env = (false, eval (Expr.Constant (.str "_") k1 q1) env) :: starEach [Expr.Constant (.str "") k2 q2] env := rfl
  have he2 : starEach [Expr.Constant (.str "") k2 q2] env = (false, eval (Expr.Constant (.str "") k2 q2) env) :: starEach [] env := rfl
  have tail : ∀ (y : PySem.Str) (t : Tok) (s₂ : Shared) (loc' : Loc) (led' : Led), St C env loc' led' s₂ → ∀ body : List Nat, y = tx body → (s₂.toks ≠ 0 ∨ 95 ∉ body) → body.length ≤ 10000 → K (.str (tx (body.filter (· != 95))) 0) loc' led' →
      wpAny C.M A (callWith p2 (.builtin "str.replace") [.str y t] (backTo p2 (starEach [Expr.Constant (.str "_") k1 q1, Expr.Constant (.str "") k2 q2] env)) []) (fun v s' => ∃ loc' led', K (er v) loc' led' ∧ St C env loc' led' s') (fun _ _ => False) s₂ := by
    intro y t s₂ loc' led' S₂ body hy htk hlen k
    subst hy
    rw [args_split he, args_split he2]
    refine callWith_builtin rfl (evalArgs_plain ?_)
    refine spliced_cons (Constant_str ?_)
    refine spliced_cons (Constant_str (spliced_nil ?_))
    have hstr : (Txt.replace (tx body) ⟨#[95]⟩ ⟨#[]⟩) = tx (body.filter (· != 95)) := by
      rw [tx_eta (Txt.replace (tx body) ⟨#[95]⟩ ⟨#[]⟩), replace_strikes, tx_cps]
    by_cases hno : 95 ∈ body
    · have htk' : s₂.toks ≠ 0 := by rcases htk with h | h; exact h; exact absurd hno h
      refine SC.replace (u := s₂.toks) (v := s₂.toks + 1) (y := ⟨#[95]⟩) (z := ⟨#[]⟩) htk' (Nat.succ_ne_zero _) (Nat.ne_of_lt (Nat.lt_succ_self _)) rfl (by rw [tx_length]; show _ + _ * 0 ≤ _; lia) (fun t' k' => ?_)
      rw [hstr]
      exact ⟨loc', led', k, S₂.toks⟩
    · refine call_gives F.slot_str_replace (typeIs_str _ _ _) F.entry_str_replace (F.args_str_replace_3 _ _ _) (gives_str_replace (tx body) ⟨#[95]⟩ ⟨#[]⟩ t _ _ fun hc => ?_) ?_
      · rw [occ_no hno] at hc; cases hc
      · rw [occ_no hno]
        have hf : body.filter (· != 95) = body := filter_free 95 body hno
        rw [hf] at k
        exact ⟨loc', led', k, S₂.toks⟩
  refine wpAny_Call_method hb2 (by rw [args_split he, args_split he2]; rfl) hl2 F.plainAttrs_str F.slot_str_replace F.type_str_replace ?_
  refine wpAny_Call_method hb1 rfl hl1 F.plainAttrs_str F.slot_str_rstrip F.type_str_rstrip (wpAny_mono (h s S) (fun v s₁ ⟨l, d, ⟨body, blanks, hv, hb, hl, hno, hlen, k⟩, S₁⟩ => ?_) fun _ _ e => e)
  obtain ⟨t, rfl⟩ := er_is_str hv
  refine ⟨typeIs_str _ _ _, fun a e => (by cases e), callWith_builtin rfl (PySem.evalArgs_none ?_)⟩
  rw [List.length_append] at hlen
  refine call_gives F.slot_str_rstrip (typeIs_str _ _ _) F.entry_str_rstrip (F.args_str_rstrip_1 _) (gives_str_rstrip _ t) ?_
  rw [strip_made hb hl]
  by_cases q : blanks = []
  · rw [if_pos q]
    exact ⟨typeIs_str _ _ _, fun a e => (by cases e), tail _ _ _ _ _ S₁ body rfl (.inr (hno q)) (by lia) k⟩
  · rw [if_neg q]
    exact ⟨by rw [tx_length]; exact Nat.le_trans (show body.length ≤ 10000 by lia) (by decide), typeIs_str _ _ _, fun a e => (by cases e), tail _ _ _ _ _ S₁.toks body rfl (.inl (Nat.succ_ne_zero _)) (by lia) k⟩
end
end
local macro_rules | `(tactic| tb_start) => `(tactic| with_reducible first | refine R_Slice ?_ | refine PART_none ?_ | refine PART_some ?_ | refine R_strip ?_)
section
open PySem.Builtin PySem.Builtin.Str PySem.NumText
open PySem.Builtin.Int (intBits)
set_option maxRecDepth 100000
set_option linter.unusedVariables false
section
variable {C : Cx} {A : Around} {env : Env} {loc : Loc} {led : Led}
theorem B_len_str {cs : List Nat} {K : Value → Loc → Led → Prop} (hn : cs.length ≤ sizeLine) (h : K (.int cs.length 0) loc led) : CallT C A env (.builtin "len") [.str (tx cs) 0] loc led K := fun args' ha s S => by
  obtain ⟨y, rfl⟩ := erL1 ha
  simp only [List.map_cons, List.map_nil, List.cons.injEq, and_true] at ha
  obtain ⟨u, rfl⟩ := er_is_str ha
  have e : (tx cs).length = cs.length := tx_length _
  exact PySem.P.len_str (by rw [e]; have := Int.lt_of_le_of_lt (Int.ofNat_le.mpr hn) sizeLine_lt; lia) ⟨_, _, by rw [e]; exact h, S.toks⟩
end

/-- the number of the figures -/
noncomputable def dv (cs : List Nat) : Int := ((digitsVal cs : Nat) : Int)

theorem dv_snoc {cs : List Nat} {c : Nat} : dv (cs ++ [c]) = dv cs * 10 + ((c - 48 : Nat) : Int) := by unfold dv; rw [digitsVal_snoc]; lia
theorem dv_append : ∀ {b a : List Nat}, dv (a ++ b) = dv a * 10 ^ b.length + dv b
  | [], a => by simp [dv, digitsVal]
  | c :: b, a => by
    have e1 : a ++ c :: b = (a ++ [c]) ++ b := by simp
    have e2 : c :: b = [] ++ [c] ++ b := by simp
    rw [e1, dv_append (b := b), dv_snoc]
    conv => rhs; rw [e2, dv_append (b := b), dv_snoc]
    have e3 : dv [] = 0 := rfl
    rw [e3, List.length_append, List.length_append, List.length_nil, List.length_singleton, show 0 + 1 + b.length = b.length + 1 by lia, Int.pow_succ, Int.add_mul, Int.mul_assoc, Int.mul_comm (10 ^ b.length) 10, Int.zero_mul, Int.zero_add]
    lia
theorem dv_nonneg {cs : List Nat} : 0 ≤ dv cs := Int.natCast_nonneg _
theorem dv_lt : ∀ {cs : List Nat}, AllDigits cs → dv cs < 10 ^ cs.length
  | [], _ => by decide
  | c :: b, h => by
    have hc := h.head
    have ih := dv_lt h.tail
    have e2 : c :: b = [] ++ [c] ++ b := by simp
    rw [e2, dv_append, dv_snoc]
    have e3 : dv [] = 0 := rfl
    rw [e3, List.length_append, List.length_append, List.length_nil, List.length_singleton, show 0 + 1 + b.length = b.length + 1 by lia, Int.pow_succ, Int.zero_mul, Int.zero_add]
    have hp : (0 : Int) < 10 ^ b.length := Int.pow_pos (by decide)
    have := Int.mul_le_mul_of_nonneg_right (show ((c - 48 : Nat) : Int) ≤ 9 by lia) (Int.le_of_lt hp)
    lia
theorem ten_le (n : Nat) : (10 : Int) ^ n ≤ 2 ^ (4 * n) := by
  induction n with
  | zero => decide
  | succ n ih =>
    rw [Int.pow_succ, Nat.mul_succ, Int.pow_add]
    have e : (2 : Int) ^ 4 = 16 := by decide
    have := two_pos (4 * n)
    lia
theorem dv_bits {cs : List Nat} (h : AllDigits cs) : intBits (dv cs) ≤ 4 * cs.length := bits_lt dv_nonneg (Int.lt_of_lt_of_le (dv_lt h) (ten_le _))
theorem five_lt (n : Nat) : (5 : Int) ^ n ≤ 2 ^ (3 * n) := by
  induction n with
  | zero => decide
  | succ n ih =>
    rw [Int.pow_succ, Nat.mul_succ, Int.pow_add]
    have e : (2 : Int) ^ 3 = 8 := by decide
    have := two_pos (3 * n)
    lia
theorem five_bits (n : Nat) : intBits ((5 : Int) ^ n) ≤ 3 * n + 1 := bits_lt (Int.le_of_lt (Int.pow_pos (by decide))) (Int.lt_of_le_of_lt (five_lt n) (by rw [Int.pow_succ]; have := two_pos (3 * n); lia))
theorem five_two (k : Nat) : (5 : Int) ^ k * 2 ^ k = 10 ^ k := by rw [← Int.mul_pow]; rfl
theorem intBits_mul {a b : Int} {m n : Nat} (ha : 0 ≤ a) (hb : 0 ≤ b) (h1 : a < 2 ^ m) (h2 : b ≤ 2 ^ n) : intBits (a * b) ≤ m + n := by
  refine bits_lt (Int.mul_nonneg ha hb) ?_
  rw [Int.pow_add]
  have e1 := Int.mul_le_mul_of_nonneg_left h2 ha
  have e2 := Int.mul_lt_mul_of_pos_right h1 (two_pos n)
  lia

set_option maxHeartbeats 4000000 in
theorem s2i {C : Cx} (H : CxP C) {cs : List Nat} (hd : AllDigits cs) (h1 : cs ≠ []) (hlen : cs.length ≤ 4096) {A : Around} {env : Env} {loc : Loc} {led : Led} {K : Value → Loc → Led → Prop} (fit : Fit A 8)
    (hK : K (.int (dv cs) 0) loc led) : CallT C A env (.ref 29) [.str (tx cs) 0] loc led K := by
  refine C_cells (loc' := []) (cv := [("w5pow", none), ("inner", none), ("DIGLIM", none), ("s", some (.str (tx cs) 0))]) ["s"] fit.lt (FnOk.of H (f := 29) (c := 28) rfl rfl rfl rfl rfl rfl rfl rfl rfl rfl rfl) rfl (fun args' ha => ?_) rfl (by kernel_rfl) (by wtm_at "lwin") (by wtm_at "lwin") (by kernel_rfl) (fun L cs' hcs => ?_)
  · obtain ⟨x, rfl⟩ := erL1 ha
    rfl
  · obtain ⟨c1, c2, c3, c4, rfl⟩ : ∃ c1 c2 c3 c4, cs' = [c1, c2, c3, c4] := by
      match cs', hcs with | [a, b, c, d], _ => exact ⟨a, b, c, d, rfl⟩
    refine with_env H fit.deeper [("len", .builtin "len"), ("compute_powers", .ref 22)] [("w5pow", c1), ("inner", c2), ("DIGLIM", c3), ("s", c4)] rfl rfl rfl (by kernel_rfl) (by kernel_rfl) rfl (fun hE fit' => ?_)
    simp only [cellEnts, List.cons_append, List.nil_append]
    repeat tb_start
    refine X_Def (q := ⟨28, 24, ⟨46, 4, 50, 74⟩, "_str_to_int_inner.<locals>.inner"⟩) (clos := [("w5pow", c1), ("s", c4), ("inner", c2), ("DIGLIM", c3)]) (tab1 H) rfl rfl rfl rfl rfl rfl rfl rfl (fun f c doc pm ct => ?_)
    generalize hfd : fnX _ _ _ _ _ _ _ _ _ _ _ _ _ = fd
    have base : ∀ (a b : Nat) (A : Around) (env : Env) (loc : Loc) (led : Led) (K : Value → Loc → Led → Prop), Fit A 2 → a < b → b ≤ cs.length → b - a ≤ 2048 →
        Ent.obj f (OFun fd) ∈ led → Ent.code (.ref c) "_str_to_int_inner.<locals>.inner" ∈ led → Ent.obj c3 (OCell (some (.int 2048 0))) ∈ led → Ent.obj c4 (OCell (some (.str (tx cs) 0))) ∈ led →
        K (.int (dv ((cs.drop a).take (b - a))) 0) loc led → CallT C A env (.ref f) [.int a 0, .int b 0] loc led K := by
      subst hfd
      intro a b A env loc led K fit hab hb hn m1 m2 m3 m4 hK
      refine C_def (loc' := [("a", some (.int a 0)), ("b", some (.int b 0)), ("mid", none)]) ["a", "b"] ["mid"] fit.lt
        (FnOk.clo (by tb_rel) (by tb_rel) rfl rfl rfl rfl) (fun args' ha s S => ?_) rfl rfl (by kernel_rfl) (fun L' => ?_)
      · obtain ⟨x, y, rfl⟩ := erL2 ha
        exact BindsTo.of_eq (by rfl)
      · refine with_env H fit.deeper [("int", .type "int")] [("w5pow", c1), ("s", c4), ("inner", c2), ("DIGLIM", c3)] rfl rfl rfl (by kernel_rfl) (by kernel_rfl) rfl (fun hE fit' => ?_)
        repeat tb_start
        refine SLC_str a b .int .int ⟨Nat.le_of_lt hab, hb, Nat.le_trans hlen (by decide)⟩ ?_
        repeat tb_start
        have hsub : ∀ x ∈ (cs.drop a).take (b - a), x ∈ cs := fun x hx => List.mem_of_mem_drop (List.mem_of_mem_take hx)
        refine B_int_str (fun x hx => hd x (hsub x hx)) ?_ (by rw [tx_length, List.length_take]; lia) ?_
        · rw [tx_cps]
          intro e
          have := congrArg List.length e
          rw [List.length_take, List.length_drop] at this
          simp at this; lia
        repeat tb_start
        exact ⟨_, by wtm_at "lwsub", hK⟩
    repeat tb_start
    refine B_len_str (Nat.le_trans hlen (by decide)) ?_
    repeat tb_start
    refine cpow H (by exact hlen) (fit'.mono (by decide)) (fun dd n => ?_)
    repeat tb_start
    refine B_len_str (Nat.le_trans hlen (by decide)) ?_
    repeat tb_start
    have hpos : 0 < cs.length := List.length_pos_iff.mpr h1
    by_cases hsm : cs.length ≤ 2048
    · refine base 0 cs.length _ _ _ _ _ (fit'.mono (by decide)) hpos (Nat.le_refl _) (by lia) (by tb_rel) (by tb_rel) (by tb_rel) (by tb_rel) ?_
      rw [List.drop_zero, Nat.sub_zero, List.take_length]
      repeat tb_start
      exact ⟨_, by wtm_at "lwsub", hK⟩
    · have big : ∀ (A : Around) (env : Env) (loc : Loc) (led : Led) (K : Value → Loc → Led → Prop), Fit A 4 → 
          Ent.obj f (OFun fd) ∈ led → Ent.code (.ref c) "_str_to_int_inner.<locals>.inner" ∈ led → Ent.obj c1 (OCell (some (.ref dd))) ∈ led → Ent.obj c2 (OCell (some (.ref f))) ∈ led → Ent.obj c3 (OCell (some (.int 2048 0))) ∈ led → Ent.obj c4 (OCell (some (.str (tx cs) 0))) ∈ led →
          Ent.obj dd (ODict n (powD cs.length)) ∈ led → K (.int (dv cs) 0) loc led → CallT C A env (.ref f) [.int 0 0, .int cs.length 0] loc led K := by
        subst hfd
        intro A env loc led K fit m1 m2 m3 m4 m5 m6 m7 hK
        refine C_def (loc' := [("a", some (.int 0 0)), ("b", some (.int cs.length 0)), ("mid", none)]) ["a", "b"] ["mid"] fit.lt
          (FnOk.clo (by tb_rel) (by tb_rel) rfl rfl rfl rfl) (fun args' ha s S => ?_) rfl rfl (by kernel_rfl) (fun L' => ?_)
        · obtain ⟨x, y, rfl⟩ := erL2 ha
          exact BindsTo.of_eq (by rfl)
        · refine with_env H fit.deeper [("int", .type "int")] [("w5pow", c1), ("s", c4), ("inner", c2), ("DIGLIM", c3)] rfl rfl rfl (by kernel_rfl) (by kernel_rfl) rfl (fun hE fit' => ?_)
          repeat tb_start
          refine O_rshift' (k := 1) rfl ?_
          obtain ⟨i, j, hij, hi, hj, hi2, hj2, ei, ej⟩ : ∃ i j : Nat, cs.length = i + j ∧ 0 < i ∧ 0 < j ∧ i ≤ 2048 ∧ j ≤ 2048 ∧ ((0 : Int) + (cs.length : Int) + 1) / 2 ^ 1 = (i : Nat) ∧ cs.length / 2 = j :=
            ⟨(cs.length + 1) / 2, cs.length / 2, by lia, by lia, by lia, by lia, by lia, by lia, rfl⟩
          rw [ei]
          repeat tb_start
          refine base i cs.length _ _ _ _ _ (fit'.mono (by decide)) (by lia) (Nat.le_refl _) (by lia) (by tb_rel) (by tb_rel) (by tb_rel) (by tb_rel) ?_
          repeat tb_start
          refine base 0 i _ _ _ _ _ (fit'.mono (by decide)) hi (by lia) (by lia) (by tb_rel) (by tb_rel) (by tb_rel) (by tb_rel) ?_
          repeat tb_start
          have ed : ((cs.length : Int) - (i : Int)) = (j : Nat) := by lia
          refine SUB_dict (v := .int (5 ^ j) 0) (by tb_rel) (by rw [ed]; unfold powD; rw [ej]; simp; lia) ?_
          have hdA : AllDigits (cs.take i) := fun x hx => hd x (List.mem_of_mem_take hx)
          have hv : dv cs = dv ((cs.drop i).take (cs.length - i)) + dv ((cs.drop 0).take (i - 0)) * 5 ^ j * 2 ^ j := by
            rw [List.take_of_length_le (by simp), List.drop_zero, Nat.sub_zero, Int.mul_assoc, five_two]
            conv => lhs; rw [← List.take_append_drop i cs]
            rw [dv_append, List.length_drop, show cs.length - i = j by lia]
            lia
          have hb1 : intBits (dv ((cs.drop 0).take (i - 0))) ≤ 8192 := by
            rw [List.drop_zero, Nat.sub_zero]
            have := dv_bits hdA
            rw [List.length_take] at this
            lia
          have hn1 : 0 ≤ dv ((cs.drop 0).take (i - 0)) := dv_nonneg
          generalize dv ((cs.drop 0).take (i - 0)) = D at hv hb1 hn1
          repeat tb_start
          have hb2 := five_bits j
          refine O_mul (mulok (Nat.le_trans hb1 (by decide)) (Nat.le_trans hb2 (Nat.le_trans (show 3 * j + 1 ≤ 10000 by lia) (by decide)))) ?_
          repeat tb_start
          refine O_lshift' (k := j) ed ?_ ?_
          · have := intBits_mul hn1 (Int.le_of_lt (Int.pow_pos (by decide : (0 : Int) < 5))) (lt_bits hb1) (five_lt j)
            lia
          repeat tb_start
          rw [← hv]
          exact ⟨_, by wtm_at "lwsub", hK⟩
      refine big _ _ _ _ _ (fit'.mono (by decide)) (by tb_rel) (by tb_rel) (by tb_rel) (by tb_rel) (by tb_rel) (by tb_rel) (by tb_rel) ?_
      repeat tb_start
      exact ⟨_, by wtm_at "lwsub", hK⟩
end
section
open PySem.Builtin PySem.Builtin.Str PySem.NumText
open PySem.Builtin.Int (intBits)
set_option maxRecDepth 100000
set_option linter.unusedVariables false
/-- figures with _ between, and blanks behind -/
noncomputable def Told (l cs : List Nat) : Prop := ∃ body blanks, l = body ++ blanks ∧ (∀ c ∈ blanks, Unicode.isSpace c = true) ∧ (∃ r c, body = r ++ [c] ∧ Unicode.isSpace c = false) ∧ (blanks = [] → 95 ∉ body) ∧ body.filter (· != 95) = cs ∧
  l.length ≤ 10000 ∧ AllDigits cs ∧ cs ≠ [] ∧ cs.length ≤ 4096
set_option maxHeartbeats 4000000 in
theorem ifs {C : Cx} (H : CxP C) {l cs : List Nat} (ht : Told l cs) {A : Around} {env : Env} {loc : Loc} {led : Led} {K : Value → Loc → Led → Prop} (fit : Fit A 9)
    (hK : K (.int (dv cs) 0) loc led) : CallT C A env (.ref 36) [.str (tx l) 0] loc led K := by
  refine C_def (loc' := [("s", some (.str (tx l) 0))]) ["s"] [] fit.lt
    (FnOk.of H (f := 36) (c := 35) rfl rfl rfl rfl rfl rfl rfl rfl rfl rfl rfl) (fun args' ha s S => ?_) rfl rfl (by kernel_rfl) (fun L => ?_)
  · obtain ⟨x, rfl⟩ := erL1 ha
    exact BindsTo.of_eq (by rfl)
  · refine with_env H fit.deeper [("_str_to_int_inner", .ref 29)] [] rfl rfl rfl (by kernel_rfl) (by kernel_rfl) rfl (fun hE fit' => ?_)
    obtain ⟨body, blanks, rfl, h1, h2, h3, h4, h5, h6, h7, h8⟩ := ht
    repeat tb_start
    refine ⟨h2, h3, h5, ?_⟩
    rw [h4]
    repeat tb_start
    refine s2i H h6 h7 h8 fit' ?_
    repeat tb_start
    exact ⟨_, by wtm_at "lwsub", hK⟩
end
section
open PySem.Builtin PySem.Builtin.Str PySem.NumText
open PySem.Builtin.Int (intBits)
set_option maxRecDepth 100000
set_option linter.unusedVariables false
theorem intsAre : ∀ {vs : List Value} {ns : List Int}, erL vs = iv ns → IntsAre vs ns
  | [], [], _ => .nil
  | [], _ :: _, h => by simp [iv] at h
  | _ :: _, [], h => by simp [iv] at h
  | v :: vs, n :: ns, h => by
    simp only [erL, iv, List.map_cons, List.cons.injEq] at h
    obtain ⟨t, rfl⟩ := er_is_int h.1
    exact .cons n t (intsAre h.2)
section
variable {C : Cx} {A : Around} {env : Env} {loc : Loc} {led : Led}
theorem O_in_list {a : Addr} {ns : List Int} {k : Int} {K : Value → Loc → Led → Prop} (hm : Ent.obj a (OList (iv ns)) ∈ led) (h : K (.bool (ns.any (· == k))) loc led) :
    Op2 C A env (compareOp .In) (.int k 0) (.ref a) loc led K := fun p q hp hq s S => by
  rw [er_is_ref hq]
  obtain ⟨u, rfl⟩ := er_is_int hp
  obtain ⟨items, n, g, e, hs⟩ := S.list hm
  exact in_list_ints (vs := items.toList) (isl g) (intsAre e) ⟨_, _, h, S⟩

theorem B_index {a : Addr} {ns : List Int} {k : Int} {K : Value → Loc → Led → Prop} (j : Nat) (hm : Ent.obj a (OList (iv ns)) ∈ led) (hj : ns[j]? = some k) (hno : ∀ i, i < j → ns[i]? ≠ some k) (hn : ns.length ≤ sizeLine)
    (h : K (.int j 0) loc led) : CallT C A env (.builtin "list.index") [.ref a, .int k 0] loc led K := fun args' ha s S => by
  obtain ⟨x, y, rfl⟩ := erL2 ha
  simp only [List.map_cons, List.map_nil, List.cons.injEq, and_true] at ha
  rw [er_is_ref ha.1]
  obtain ⟨u, rfl⟩ := er_is_int ha.2
  obtain ⟨items, n, g, e, hs⟩ := S.list hm
  have hI := intsAre e
  have hsz : items.size = ns.length := by rw [hs, iv_length]
  have hjl : j < ns.length := (List.getElem?_eq_some_iff.mp hj).1
  have hval : ∀ i (hi : i < items.size), ∃ t x, items[i] = .int x t ∧ ns[i]? = some x := by
    intro i hi
    have h1 : (iv ns)[i]? = some (er items[i]) := by rw [← e]; simp [erL, hi]
    have h2 : i < ns.length := by lia
    simp only [iv, List.getElem?_map, List.getElem?_eq_getElem h2, Option.map_some, Option.some.injEq] at h1
    obtain ⟨t, ht⟩ := er_is_int h1.symm
    exact ⟨t, _, ht, by rw [List.getElem?_eq_getElem h2]⟩
  have hz := Int.lt_of_le_of_lt (Int.ofNat_le.mpr hn) sizeLine_lt
  refine call_meets F.slot_list_index (isl g).typeIs F.entry_list_index (F.args_list_index_2 _ _) (MeetsSeq.list_index a items n (.int k u) (isInt k) (fun y hy => eq_isInt k u hI y (by simpa using hy)) j (by lia) ?_ ?_ ?_) ⟨g, _, _, h, S.toks⟩
  · have : (j : Int) < ns.length := by lia
    have e63 : (sizeLine : Int) = 2 ^ 24 := by decide
    lia
  · obtain ⟨t, x, h1, h2⟩ := hval j (by lia)
    rw [hj] at h2
    rw [h1]; show (x == k) = true
    rw [← Option.some.inj h2]; exact beq_self_eq_true k
  · intro m hm hmj
    obtain ⟨t, x, h1, h2⟩ := hval m hm
    rw [h1]; show (x == k) = false
    have := hno m hmj
    rw [h2] at this
    exact beq_eq_false_iff_ne.mpr fun q => this (by rw [q])
theorem R_index {o e : Expr} {apos pos : Pos} {K : Value → Loc → Led → Prop}
    (h : EV C A env o loc led (fun v l d => ∃ a vs, v = .ref a ∧ Ent.obj a (OList vs) ∈ d ∧ ARGS C A env pos [e] l d (fun ws l d => CallT C A env (.builtin "list.index") (.ref a :: ws) l d K)))
    (hbase : attributeBase o "index" env (eval o env) = eval o env := by with_unfolding_all rfl)
    (he : starEach [e] env = (false, eval e env) :: starEach [] env := by with_unfolding_all rfl)
    (hline : (apos.endLine == pos.line) = true := by with_unfolding_all rfl) : EV C A env (.Call (.Attribute o "index" apos) [e] [] pos) loc led K :=
  R_Meth F.plainAttrs_list F.slot_list_index F.type_list_index (h.mono fun v l d ⟨a, vs, hv, hm, k⟩ => by subst hv; exact ⟨TyOk_list hm, MAPP_cons k he⟩) hbase (by rw [he]; rfl) hline

theorem B_max2 {a b : Int} {K : Value → Loc → Led → Prop} (hh : A.handled = none) (h : K (.int (if b > a then b else a) 0) loc led) : CallT C A env (.builtin "max") [.int a 0, .int b 0] loc led K := fun args' ha s S => by
  obtain ⟨x, y, rfl⟩ := erL2 ha
  simp only [List.map_cons, List.map_nil, List.cons.injEq, and_true] at ha
  obtain ⟨t, rfl⟩ := er_is_int ha.1
  obtain ⟨u, rfl⟩ := er_is_int ha.2
  refine max_two_ints hh fun h' tk hk => ⟨loc, led, ?_, S.ext (s' := { s with heap := h', toks := tk }) hk rfl rfl⟩
  split at h <;> rename_i hc <;> simp only [hc, if_true, if_false] <;> exact h

theorem B_sum {a : Addr} {ns : List Int} {K : Value → Loc → Led → Prop} (hh : A.handled = none) (hm : Ent.obj a (OList (iv ns)) ∈ led) (h : K (.int ns.sum 0) loc led) : CallT C A env (.builtin "sum") [.ref a] loc led K := fun args' ha s S => by
  obtain ⟨x, rfl⟩ := erL1 ha
  simp only [List.map_cons, List.map_nil, List.cons.injEq, and_true] at ha
  rw [er_is_ref ha]
  obtain ⟨items, n, g, e, hs⟩ := S.list hm
  have hi := intsAre e
  obtain ⟨xs, hx⟩ := hi.allInts.items
  have hl' : s.heap.IsList a (intItems xs) := hx ▸ isl g
  refine sum_intListG hh hl' fun h' tk t' hk => ?_
  have e1 : ns = xs.toList.map (·.1) := by
    rw [← nums_intItems, ← hx]
    exact (show numsOf items.toList.toArray.toList = ns from hi.numsOf).symm
  have e2 : preSum (numAt xs) xs.size = ns.sum := by
    rw [preSum_eq, List.take_of_length_le (by simp), e1]
  rw [e2]
  exact ⟨loc, led, h, S.ext (s' := { s with heap := h', toks := tk }) hk rfl rfl⟩

theorem B_range1 {n : Int} {K : Value → Loc → Led → Prop} (h : ∀ r, K (.ref r) loc (.obj r (ORange 0 n 1) :: led)) : CallT C A env (.type "range") [.int n 0] loc led K := fun args' ha s S => by
  obtain ⟨x, rfl⟩ := erL1 ha
  simp only [List.map_cons, List.map_nil, List.cons.injEq, and_true] at ha
  obtain ⟨t, rfl⟩ := er_is_int ha
  exact call_range_1 ⟨loc, _, h _, (S.toks (t := s.toks + 1 + 1)).push (P := ORange 0 n 1) (o := { cls := .type "range", data := .fields #[.int 0 s.toks, .int n t, .int 1 (s.toks + 1)] }) ⟨_, _, _, rfl⟩ rfl rfl⟩
theorem B_range2 {a b : Int} {K : Value → Loc → Led → Prop} (h : ∀ r, K (.ref r) loc (.obj r (ORange a b 1) :: led)) : CallT C A env (.type "range") [.int a 0, .int b 0] loc led K := fun args' ha s S => by
  obtain ⟨x, y, rfl⟩ := erL2 ha
  simp only [List.map_cons, List.map_nil, List.cons.injEq, and_true] at ha
  obtain ⟨t, rfl⟩ := er_is_int ha.1
  obtain ⟨u, rfl⟩ := er_is_int ha.2
  exact call_range_2 ⟨loc, _, h _, (S.toks (t := s.toks + 1)).push (P := ORange a b 1) (o := { cls := .type "range", data := .fields #[.int a t, .int b u, .int 1 s.toks] }) ⟨_, _, _, rfl⟩ rfl rfl⟩

/-! ## strings -/
theorem O_add_str {a b : List Nat} {K : Value → Loc → Led → Prop} (hn : a.length + b.length ≤ sizeLine) (h : K (.str (tx (a ++ b)) 0) loc led) : Op2 C A env (binaryOp .Add) (.str (tx a) 0) (.str (tx b) 0) loc led K := fun p q hp hq s S => by
  obtain ⟨t, rfl⟩ := er_is_str hp
  obtain ⟨u, rfl⟩ := er_is_str hq
  refine PyProof.Rows.add_str (fun t' tk => ⟨loc, led, ?_, S.toks⟩) (by rw [tx_length, tx_length]; exact hn)
  have e : tx a ++ tx b = tx (a ++ b) := by show (⟨(a.toArray ++ b.toArray)⟩ : PySem.Str) = ⟨(a ++ b).toArray⟩; congr 1; simp
  rw [e]; exact h
theorem foldl_repN (xs : Array Nat) : ∀ (k : Nat) (acc : Array Nat), (List.foldl (fun x1 x2 => x1 ++ x2) acc (List.replicate k xs)).toList = acc.toList ++ (List.replicate k xs.toList).flatten
  | 0, acc => by simp
  | k + 1, acc => by rw [List.replicate_succ, List.foldl_cons, foldl_repN xs k]; simp [List.replicate_succ]
theorem O_mul_str {a : List Nat} {n : Nat} {K : Value → Loc → Led → Prop} (h1 : 1 ≤ n) (hn : a.length * n ≤ 1000000) (hne : a ≠ []) (h : K (.str (tx (List.replicate n a).flatten) 0) loc led) : Op2 C A env (binaryOp .Mult) (.str (tx a) 0) (.int n 0) loc led K := fun p q hp hq s S => by
  obtain ⟨t, rfl⟩ := er_is_str hp
  obtain ⟨u, rfl⟩ := er_is_int hq
  have hl : 0 < a.length := List.length_pos_iff.mpr hne
  have hna : n ≤ 1000000 := Nat.le_trans (Nat.le_mul_of_pos_left n hl) hn
  have hal : a.length ≤ 1000000 := Nat.le_trans (Nat.le_mul_of_pos_right _ h1) hn
  have hs : sizeLine = 2 ^ 24 := by decide
  have hlt : ¬ ((n : Int) < 1) := by lia
  have e : (tx a).length = a.length := tx_length a
  refine PySem.P.mul_str ?_ (fun _ _ => ?_) (fun _ _ => ?_) ?_
  · have q1 : ¬ ((n : Int) < -(2 ^ 63 : Int)) := by lia
    have q2 : ¬ ((n : Int) ≥ 2 ^ 63) := by lia
    rw [decide_eq_false q1, decide_eq_false q2]; rfl
  · rw [e]
    have : (a.length : Int) ≤ (2 ^ 63 - 1) / (n : Int) := by
      refine (Int.le_ediv_iff_mul_le (by lia)).mpr ?_
      have : ((a.length * n : Nat) : Int) ≤ 1000000 := by lia
      rw [Int.natCast_mul] at this
      lia
    lia
  · rw [e, Int.toNat_natCast]
    unfold tooLong
    exact decide_eq_false (by lia)
  · rw [if_neg hlt]
    have hr : (⟨(List.replicate n (tx a).cps).foldl (· ++ ·) #[]⟩ : PySem.Str) = tx (List.replicate n a).flatten := by
      rw [tx_eta (⟨(List.replicate n (tx a).cps).foldl (· ++ ·) #[]⟩ : PySem.Str)]
      congr 1
      show ((List.replicate n (tx a).cps).foldl (· ++ ·) #[]).toList = _
      rw [foldl_repN]; rfl
    have hz : (tx (List.replicate n a).flatten).length ≤ sizeLine := by
      rw [tx_length]; simp; rw [Nat.mul_comm]; lia
    rw [Int.toNat_natCast, hr]
    split
    · rename_i hc
      have : n = 1 := by
        rw [Bool.or_eq_true, beq_iff_eq, beq_iff_eq, e] at hc
        lia
      subst this
      refine ⟨loc, led, ?_, S⟩
      simpa using h
    · exact ⟨hz, loc, led, h, S.toks⟩

theorem SUB_str {value slice : Expr} {cs : List Nat} {i : Int} {c : Nat} {K : Value → Loc → Led → Prop} (j : Nat) (hi : i = j) (hc : cs[j]? = some c) (hn : cs.length ≤ sizeLine) (h : K (.str (tx [c]) 0) loc led)
    (hs : ∀ a t k u, subscripted slice false (.str a t) (.int k u) = operate [.str a t, .int k u] (getItem (.str a t) (.int k u)) := by intro _ _ _ _; with_unfolding_all rfl)
    (ht : ∀ a t r, letTemporaryGo value (.str a t) r = pure () := by intro _ _ _; with_unfolding_all rfl) : SUB C A env value slice (.str (tx cs) 0) (.int i 0) loc led K := fun o' i' ho hi' s S => by
  obtain ⟨t, rfl⟩ := er_is_str ho
  obtain ⟨u, rfl⟩ := er_is_int hi'
  subst hi
  have hj : j < cs.length := (List.getElem?_eq_some_iff.mp hc).1
  have hz := Int.lt_of_le_of_lt (Int.ofNat_le.mpr hn) sizeLine_lt
  refine subscriptTail_builtin (typeIs_str s _ t) F.slot_str_getitem.lookup ?_ (hs _ _ _ _) (ht _ _)
  refine PySem.P.getItem_str (c := c) ?_ ?_ ⟨loc, led, h, S.toks⟩
  · have q1 : ¬ ((j : Int) < -(2 ^ 63 : Int)) := by lia
    have q2 : ¬ ((j : Int) ≥ 2 ^ 63) := by lia
    rw [decide_eq_false q1, decide_eq_false q2]; rfl
  · have e : seqIndex? (j : Int) (tx cs).length = some j := by
      rw [tx_length]
      unfold seqIndex?
      simp; lia
    rw [e]
    show (tx cs).cps[j]? = some c
    rw [← Array.getElem?_toList, tx_cps]; exact hc

/-! ## join -/
noncomputable def sv (ls : List (List Nat)) : List Value := ls.map fun l => .str (tx l) 0
theorem strsAre : ∀ {vs : List Value} {ls : List (List Nat)}, erL vs = sv ls → StrsAre vs (ls.map tx)
  | [], [], _ => .nil
  | [], _ :: _, h => by simp [sv] at h
  | _ :: _, [], h => by simp [sv] at h
  | v :: vs, n :: ns, h => by
    simp only [erL, sv, List.map_cons, List.cons.injEq] at h
    obtain ⟨t, rfl⟩ := er_is_str h.1
    exact .cons _ t (strsAre h.2)
noncomputable def joinL (sep : List Nat) : List (List Nat) → List Nat
  | [] => []
  | [x] => x
  | x :: rest => x ++ sep ++ joinL sep rest
theorem join_tx (sep : List Nat) : ∀ ls : List (List Nat), Str.join (tx sep) (ls.map tx) = tx (joinL sep ls)
  | [] => rfl
  | [x] => rfl
  | x :: y :: r => by
    show tx x ++ tx sep ++ Str.join (tx sep) ((y :: r).map tx) = _
    rw [join_tx sep (y :: r)]
    show (⟨x.toArray ++ sep.toArray ++ (joinL sep (y :: r)).toArray⟩ : PySem.Str) = ⟨(x ++ sep ++ joinL sep (y :: r)).toArray⟩
    congr 1; simp
theorem B_join {a : Addr} {sep : List Nat} {ls : List (List Nat)} {K : Value → Loc → Led → Prop} (hm : Ent.obj a (OList (sv ls)) ∈ led) (hok : (ls.map List.length).sum + ls.length * sep.length ≤ 16777216)
    (h : K (.str (tx (joinL sep ls)) 0) loc led) : CallT C A env (.builtin "str.join") [.str (tx sep) 0, .ref a] loc led K := fun args' ha s S => by
  obtain ⟨x, y, rfl⟩ := erL2 ha
  simp only [List.map_cons, List.map_nil, List.cons.injEq, and_true] at ha
  obtain ⟨t, rfl⟩ := er_is_str ha.1
  rw [er_is_ref ha.2]
  obtain ⟨items, n, g, e, hs⟩ := S.list hm
  refine PyProof.Rows.join_list (isl g) (strsAre e) ?_ (fun t' k => ⟨loc, led, ?_, S.toks⟩)
  · rw [List.map_map, List.length_map, tx_length]
    rw [show ((fun x : PySem.Str => x.length) ∘ tx) = List.length from funext fun l => tx_length l]
    exact hok
  · show K (.str (Builtin.Str.glued (tx sep) (ls.map tx)) 0) loc led
    rw [StrLaws.glued_eq_join, join_tx]; exact h
theorem R_join {o e : Expr} {apos pos : Pos} {K : Value → Loc → Led → Prop}
    (h : EV C A env o loc led (fun v l d => ∃ x, v = .str x 0 ∧ ARGS C A env pos [e] l d (fun ws l d => CallT C A env (.builtin "str.join") (.str x 0 :: ws) l d K)))
    (hbase : attributeBase o "join" env (eval o env) = eval o env := by with_unfolding_all rfl)
    (he : starEach [e] env = (false, eval e env) :: starEach [] env := by with_unfolding_all rfl)
    (hline : (apos.endLine == pos.line) = true := by with_unfolding_all rfl) : EV C A env (.Call (.Attribute o "join" apos) [e] [] pos) loc led K :=
  R_Meth F.plainAttrs_str F.slot_str_join F.type_str_join (h.mono fun v l d ⟨x, hv, k⟩ => by subst hv; exact ⟨TyOk_str, MAPP_cons k he⟩) hbase (by rw [he]; rfl) hline
end
end
local macro_rules | `(tactic| tb_start) => `(tactic| with_reducible first | refine R_index ?_ | refine R_join ?_)
section
open PySem.Builtin PySem.Builtin.Str PySem.NumText
open PySem.Builtin.Int (intBits)
set_option maxRecDepth 100000
set_option linter.unusedVariables false
/-! ## rests and figures -/
/-- the k-th rest -/
noncomputable def rt (m r : Int) : Nat → Int
  | 0 => r
  | k + 1 => 10 * rt m r k % m
noncomputable def rts (m r : Int) (n : Nat) : List Int := (List.range n).map (rt m r)
noncomputable def fg (m r : Int) (k : Nat) : Int := 10 * rt m r k / m
noncomputable def fgs (m r : Int) (n : Nat) : List Int := (List.range n).map (fg m r)
theorem rts_succ {m r : Int} {n : Nat} : rts m r (n + 1) = rts m r n ++ [rt m r n] := by unfold rts; rw [List.range_succ, List.map_append]; rfl
theorem fgs_succ {m r : Int} {n : Nat} : fgs m r (n + 1) = fgs m r n ++ [fg m r n] := by unfold fgs; rw [List.range_succ, List.map_append]; rfl
theorem rts_len {m r : Int} {n : Nat} : (rts m r n).length = n := by simp [rts]
theorem rts_get {m r : Int} {n i : Nat} (h : i < n) : (rts m r n)[i]? = some (rt m r i) := by unfold rts; rw [List.getElem?_map, List.getElem?_range h]; rfl
theorem fgs_get {m r : Int} {n i : Nat} (h : i < n) : (fgs m r n)[i]? = some (fg m r i) := by unfold fgs; rw [List.getElem?_map, List.getElem?_range h]; rfl
theorem fgs_len {m r : Int} {n : Nat} : (fgs m r n).length = n := by simp [fgs]
theorem rt_range {m r : Int} (h0 : 0 ≤ r) (h1 : r < m) : ∀ k, 0 ≤ rt m r k ∧ rt m r k < m
  | 0 => ⟨h0, h1⟩
  | k + 1 => ⟨Int.emod_nonneg _ (by lia), Int.emod_lt_of_pos _ (by lia)⟩
theorem nodup_len : ∀ (n : Nat) (l : List Int), l.Nodup → (∀ x ∈ l, 0 ≤ x ∧ x < n) → l.length ≤ n
  | 0, l, _, h => by
    cases l with
    | nil => simp
    | cons x r => have := h x List.mem_cons_self; lia
  | n + 1, l, hn, h => by
    have ih := nodup_len n (l.erase n) (hn.erase _) fun x hx => by
      have := h x (List.mem_of_mem_erase hx)
      have hne : x ≠ n := fun e => by rw [e] at hx; exact hn.not_mem_erase hx
      lia
    by_cases hm : (n : Int) ∈ l
    · have := List.length_erase_of_mem hm
      have : 0 < l.length := List.length_pos_of_mem hm
      lia
    · rw [List.erase_of_not_mem hm] at ih; lia
/-- the division's end -/
structure Dv (m r : Int) (n st : Nat) : Prop where
  pos : st < n
  nd : (rts m r n).Nodup
  back : rt m r n = rt m r st
  le : (n : Int) ≤ m

set_option maxHeartbeats 4000000 in
theorem ldiv {C : Cx} (H : CxP C) {u : Int} {m : Nat} (hm : 0 < m) (hm2 : m ≤ 1000) (hu : u.natAbs ≤ 1000) {A : Around} {env : Env} {loc : Loc} {led : Led} {K : Value → Loc → Led → Prop} (fit : Fit A 40)
    (hK : ∀ n st t a b, Dv m (u % m) n st → K (.ref t) loc (.obj t (OTup [.int (u / m) 0, .ref a, .ref b, .int st 0]) :: .obj a (OList (iv (rts m (u % m) n))) :: .obj b (OList (iv (fgs m (u % m) n))) :: led)) :
    CallT C A env (.ref 113) [.int u 0, .int m 0] loc led K := by
  refine C_def (loc' := [("upper", some (.int u 0)), ("lower", some (.int m 0)), ("whole", none), ("rest", none), ("rests", none), ("figures", none), ("turn", none), ("figure", none)]) ["upper", "lower"] ["whole", "rest", "rests", "figures", "turn", "figure"] fit.lt
    (FnOk.of H (f := 113) (c := 112) rfl rfl rfl rfl rfl rfl rfl rfl rfl rfl rfl) (fun args' ha s S => ?_) rfl rfl (by kernel_rfl) (fun L => ?_)
  · obtain ⟨x, y, rfl⟩ := erL2 ha
    exact BindsTo.of_eq (by rfl)
  · refine with_env H fit.deeper [("int_divmod", .ref 78), ("range", .type "range")] [] rfl rfl rfl (by kernel_rfl) (by kernel_rfl) rfl (fun hE fit' => ?_)
    repeat tb_start
    have hmI : (0 : Int) < m := by lia
    have hbm : intBits (m : Int) ≤ 8000 := Nat.le_trans (small_bits (by lia)) (by decide)
    refine divmod_all H (by lia) (Nat.le_trans (small_bits (by lia)) (by decide)) hbm _ _ _ _ _ (fit'.mono (by decide)) (fun t => ?_)
    rw [Int.fdiv_eq_ediv_of_nonneg _ (Int.le_of_lt hmI), Int.fmod_eq_emod_of_nonneg _ (Int.le_of_lt hmI)]
    have h0 := Int.emod_nonneg u (show (m : Int) ≠ 0 by lia)
    have h1 := Int.emod_lt_of_pos u hmI
    generalize u % m = r at h0 h1 hK ⊢
    generalize u / m = q at hK ⊢
    repeat tb_start
    rename_i a b _
    refine X_ForRange fit'.hd ?_
    repeat tb_start
    refine B_range1 (fun rr => ?_)
    refine ⟨rr, m, fun k l d => ∃ x1 x2 x3, l = ([("upper", some (.int u 0)), ("lower", some (.int m 0)), ("whole", some (.int q 0)), ("rest", some x1), ("rests", some (.ref a)), ("figures", some (.ref b)), ("turn", x2), ("figure", x3)] : Loc) ∧
      d = .obj b (OList (iv (fgs m r k))) :: .obj a (OList (iv (rts m r (k + 1)))) :: .obj env.locals (OLoc loc) :: led ∧ (rts m r (k + 1)).Nodup, .obj b (OList []) :: .obj a (OList [.int r 0]) :: .obj env.locals (OLoc loc) :: led, rfl, by lia, Sub.cons (by wtm_at "lwsub"), ⟨_, _, _, rfl, rfl, by simp [rts]⟩, ?_, ?_⟩
    · rintro k l d it hk ⟨x1, x2, x3, rfl, rfl, hnd⟩
      have hr := rt_range h0 h1
      have hrk := hr k
      have hgk : (iv (rts m r (k + 1)))[k]? = some (.int (rt m r k) 0) := by
        unfold iv rts; simp
      repeat tb_start
      refine SUB_list k (by tb_rel) hgk (.inr (by rw [iv_length, rts_len]; lia)) (by rw [iv_length, rts_len]; exact Nat.le_trans (show k + 1 ≤ 2000 by lia) (by decide)) ?_
      repeat tb_start
      refine O_mul (mulok (by decide) (Nat.le_trans (small_bits (by lia)) (by decide))) ?_
      repeat tb_start
      refine divmod_all H (by lia) (Nat.le_trans (small_bits (by lia)) (by decide)) hbm _ _ _ _ _ (fit'.mono (by decide)) (fun t => ?_)
      rw [Int.fdiv_eq_ediv_of_nonneg _ (Int.le_of_lt hmI), Int.fmod_eq_emod_of_nonneg _ (Int.le_of_lt hmI), show 10 * rt m r k / m = fg m r k from rfl, show 10 * rt m r k % m = rt m r (k + 1) from rfl]
      repeat tb_start
      refine B_append (vs := iv (fgs m r k)) (by wtm_at "lwupd") (by rw [iv_length, fgs_len]; exact Nat.le_trans (show k ≤ 2000 by lia) (by decide)) ?_
      rw [← iv_snoc, ← fgs_succ]
      repeat tb_start
      refine O_in_list (by tb_rel) ?_
      repeat tb_start
      refine bool_ite (fun hin => ?_) (fun hin => ?_)
      · obtain ⟨st, hst, hst2⟩ : ∃ st, st < k + 1 ∧ rt m r st = rt m r (k + 1) := by
          obtain ⟨x, hx, e⟩ := List.any_eq_true.mp hin
          obtain ⟨j, hj, e2⟩ := List.mem_map.mp hx
          exact ⟨j, List.mem_range.mp hj, by rw [e2]; exact eq_of_beq e⟩
        repeat tb_start
        refine B_index st (by tb_rel) (by rw [rts_get hst, hst2]) ?_ (by rw [rts_len]; exact Nat.le_trans (show k + 1 ≤ 2000 by lia) (by decide)) ?_
        · intro i hi e
          have hil : i < (rts m r (k + 1)).length := by rw [rts_len]; lia
          have := (List.getElem?_inj (j := st) hil hnd).mp (e.trans (by rw [rts_get hst, hst2]))
          lia
        repeat tb_start
        refine forK_ret ?_
        repeat tb_start
        exact ⟨_, by wtm_at "lwsub", hK (k + 1) st _ a b ⟨hst, hnd, hst2.symm, by lia⟩⟩
      · repeat tb_start
        refine B_append (vs := iv (rts m r (k + 1))) (by wtm_at "lwupd") (by rw [iv_length, rts_len]; exact Nat.le_trans (show k + 1 ≤ 2000 by lia) (by decide)) ?_
        rw [← iv_snoc, ← rts_succ]
        repeat tb_start
        refine forK_next ⟨_, by wtm_at "lwsub", _, _, _, rfl, rfl, ?_⟩
        rw [rts_succ]
        refine List.nodup_append.mpr ⟨hnd, by simp, fun x hx y hy e => ?_⟩
        rw [List.mem_singleton.mp hy] at e
        have : (rts m r (k + 1)).any (· == rt m r (k + 1)) = true := List.any_eq_true.mpr ⟨x, hx, by rw [e]; exact beq_self_eq_true _⟩
        rw [this] at hin; cases hin
    · rintro l d ⟨x1, x2, x3, rfl, rfl, hnd⟩
      have := nodup_len m _ hnd fun x hx => by
        obtain ⟨j, hj, e⟩ := List.mem_map.mp hx
        rw [← e]; exact rt_range h0 h1 j
      rw [rts_len] at this
      lia
end
section
open Sem (wp)
set_option maxRecDepth 100000
set_option linter.unusedVariables false
/-! ## pieces of a generator's body -/
section
variable {prog : Program} {w : World} {A : Around} {R : GenEnd} {Y : Protocol} {n : Nat} {s₀ : Shared} {c : Code} {fs : List Frame} {s : Shared} {env : Env}
  {K : Flow → Sem Fin} {H : Value → Sem Fin} {gd : Bool → Bool} {lv : List Value → List Value}

theorem sg_wrap {α : Type} {m : Sem α} {K : α → Sem Fin} {H : Value → Sem Fin} {gd lv}
    (h : wpAny (model prog w) (A.over c fs) m (fun a s' => Seg (model prog w) A R Y n s₀ c (K a) fs s') (fun _ _ => False) s) : Seg (model prog w) A R Y n s₀ c (m.wrap K H gd lv) fs s :=
  seg_wrap (wpAny_mono h (fun _ _ x => x) fun _ _ x => x.elim)

theorem sg_If {test : Expr} {b o : List Stmt} {pos : Pos}
    (h : wpAny (model prog w) (A.over c fs) (isTrue test env (eval test env)) (fun t s' => if t = true then Seg (model prog w) A R Y n s₀ c ((execs b env).wrap K H gd lv) fs s' else Seg (model prog w) A R Y n s₀ c ((execs o env).wrap K H gd lv) fs s') (fun _ _ => False) s) :
    Seg (model prog w) A R Y n s₀ c ((exec (.If test b o pos) env).wrap K H gd lv) fs s := by
  rw [exec_If]
  show Seg (model prog w) A R Y n s₀ c (.at pos fun _ => ((isTrue test env (eval test env)) >>= fun t => if t = true then execs b env else execs o env).wrap K H gd lv) fs s
  refine seg_at ?_
  rw [Sem.bind_eq_wrap', Sem.wrap_wrap]
  refine sg_wrap (wpAny_mono h (fun t s' ht => ?_) fun _ _ x => x)
  cases t with
  | true => simp only [if_true] at ht ⊢; exact ht
  | false => simp only [Bool.false_eq_true, if_false] at ht ⊢; exact ht

noncomputable def runK (env : Env) (K : Flow → Sem Fin) (H : Value → Sem Fin) (gd : Bool → Bool) (lv : List Value → List Value) : Result → Sem Fin := fun r => ((match r with | .ok f => (.pure f : Sem Flow) | .error e => .raise e).onRaise fun (x : Value) => do
        if (← field x 1) == Value.none then unsupported "frame.own-activation:exception-without-traceback"
        setFlight x env.frame).wrap K H gd lv

theorem sg_For {target iter : Expr} {body orelse : List Stmt} {pos : Pos}
    (h : wpAny (model prog w) (A.over c fs) (eval iter env) (fun x s₁ => wpAny (model prog w) (A.over c fs) (pyIter x) (fun it s₂ => ∀ p, Seg (model prog w) A R Y n s₀ (.forLoop target it body orelse env) ((model prog w).den (.forLoop target it body orelse env))
      (.ret (runK env K H gd lv) none (gd false) (lv []) c p [] :: fs) s₂) (fun _ _ => False) s₁) (fun _ _ => False) s)
    (hs : ∀ x, foldedSetIterable iter env x = pure x) : Seg (model prog w) A R Y n s₀ c ((exec (.For target iter body orelse pos) env).wrap K H gd lv) fs s := by
  rw [exec_For]
  show Seg (model prog w) A R Y n s₀ c (.at pos fun _ => (eval iter env >>= fun x => foldedSetIterable iter env x >>= fun x => standAt iter.pos >>= fun _ => holding [x] (pyIter x) >>= fun it => runOwn (.forLoop target it body orelse env) env).wrap K H gd lv) fs s
  refine seg_at ?_
  rw [Sem.bind_eq_wrap', Sem.wrap_wrap]
  refine sg_wrap (wpAny_mono h (fun x s₁ h₁ => ?_) fun _ _ x => x)
  rw [hs]
  show Seg (model prog w) A R Y n s₀ c (.at iter.pos fun _ => (holding [x] (pyIter x) >>= fun it => runOwn (.forLoop target it body orelse env) env).wrap K H gd lv) fs s₁
  refine seg_at ?_
  rw [Sem.bind_eq_wrap', Sem.wrap_wrap]
  exact sg_wrap (wpAny_holding (wpAny_mono h₁ (fun it s₂ h₂ => seg_call h₂) fun _ _ x => x))

noncomputable def fbody (target : Expr) (it : Value) (body orelse : List Stmt) (env : Env) : Flow → Sem Fin := fun f => match f with
  | .next | .cont => .pure (.again (.forLoop target it body orelse env))
  | .brk => .pure (.done .next)
  | .ret v => .pure (.done (.ret v))
noncomputable def fH (env : Env) : Value → Sem Fin := fun e => (do noteFrame e env; theTreesLotGoes e : Sem Unit).wrap (fun _ => .raise e) .raise id id

theorem sg_forLoop {target : Expr} {it : Value} {body orelse : List Stmt}
    (h : wpAny (model prog w) (A.over (.forLoop target it body orelse env) fs) (pyNext it) (fun o s' => match o with
      | none => Seg (model prog w) A R Y n s₀ (.block orelse env) ((model prog w).den (.block orelse env)) fs s'
      | some v => wpAny (model prog w) (A.over (.forLoop target it body orelse env) fs) (assign target env v) (fun _ s'' => Seg (model prog w) A R Y n s₀ (.forLoop target it body orelse env) ((execs body env).wrap (fbody target it body orelse env) (fH env) id id) fs s'') (fun _ _ => False) s') (fun _ _ => False) s)
    (ht : ∀ v, letOwnedTupleGo target it v = pure ()) (hq : (Code.block orelse env).quiet = true) :
    Seg (model prog w) A R Y n s₀ (.forLoop target it body orelse env) ((model prog w).den (.forLoop target it body orelse env)) fs s := by
  show Seg _ A R Y n s₀ _ ((forTurn target it body orelse env).onRaise (fun x => do noteFrame x env; theTreesLotGoes x)) fs s
  simp only [forTurn]
  rw [Sem.onRaise_eq_wrap]
  have eH : (fun e => (do noteFrame e env; theTreesLotGoes e : Sem Unit).bind fun _ => (.raise e : Sem Fin)) = fH env := funext fun e => Sem.bind_eq_wrap _ _
  show Seg _ A R Y n s₀ _ (.at target.pos fun _ => (((pyNext it).onRaise (fun _ => standAt { target.pos with line := 0 })) >>= fun o => match o with
    | none => again (.block orelse env)
    | some v => letOwnedTupleGo target it v >>= fun _ => assign target env v >>= fun _ => execs body env >>= fun f => match f with
      | .next | .cont => again (.forLoop target it body orelse env)
      | .brk => pure (.done .next)
      | .ret v => pure (.done (.ret v))).wrap .pure (fun e => (do noteFrame e env; theTreesLotGoes e : Sem Unit).bind fun _ => .raise e) id id) fs s
  rw [eH]
  refine seg_at ?_
  rw [Sem.bind_eq_wrap', Sem.onRaise_eq_wrap, Sem.wrap_wrap, Sem.wrap_wrap]
  refine sg_wrap (wpAny_mono h (fun o s₁ h₁ => ?_) fun _ _ x => x)
  cases o with
  | none => exact seg_again hq h₁
  | some v =>
    show Seg _ A R Y n s₀ _ (Sem.wrap .pure (fH env) id id (letOwnedTupleGo target it v >>= fun _ => assign target env v >>= fun _ => execs body env >>= fun f => match f with
      | .next | .cont => again (.forLoop target it body orelse env)
      | .brk => pure (.done .next)
      | .ret v => pure (.done (.ret v)))) fs s₁
    rw [ht v]
    show Seg _ A R Y n s₀ _ (Sem.wrap .pure (fH env) id id (assign target env v >>= fun _ => execs body env >>= fun f => match f with
      | .next | .cont => again (.forLoop target it body orelse env)
      | .brk => pure (.done .next)
      | .ret v => pure (.done (.ret v)))) fs s₁
    rw [Sem.bind_eq_wrap', Sem.wrap_wrap]
    refine sg_wrap (wpAny_mono h₁ (fun _ s₂ h₂ => ?_) fun _ _ x => x)
    show Seg _ A R Y n s₀ _ (Sem.wrap .pure (fH env) id id (execs body env >>= fun f => match f with
      | .next | .cont => again (.forLoop target it body orelse env)
      | .brk => pure (.done .next)
      | .ret v => pure (.done (.ret v)))) fs s₂
    rw [Sem.bind_eq_wrap', Sem.wrap_wrap]
    exact Eq.mpr (congrArg (fun t => Seg (model prog w) A R Y n s₀ (.forLoop target it body orelse env) t fs s₂) (Sem.wrap_congr (execs body env) (K' := fbody target it body orelse env) (H' := fH env) id id (fun f => by cases f <;> rfl) (fun e => rfl))) h₂

/-- a loop's end, of a body that runs through -/
theorem sg_block_nil (h : Seg (model prog w) A R Y n s₀ (.block [] env) (leafOf (.ok .next)) fs s) : Seg (model prog w) A R Y n s₀ (.block [] env) ((model prog w).den (.block [] env)) fs s := h
end
end
section
open Sem (wp)
set_option maxRecDepth 100000
set_option linter.unusedVariables false
section
variable {prog : Program} {w : World} {A : Around} {E : Value → Shared → Prop} {s : Shared}
/-- the next item of a def's generator -/
theorem nextGen {a : Addr} {g n : Nat} {gs : GenState} {P : Nat → Shared → Shared → Prop} {Y : Protocol} {Q : Option Value → Shared → Prop} (hh : A.handled = none) (hl : s.heap.NoLimit) (hroom : A.depth < recursionLimit)
    (hg : s.heap.IsGen a g) (hgs : s.gens[g]? = some gs)
    (hgo : gs.Goes (model prog w) A.in1 (fun n s₀ r s₁ => r = .ok (.ret .none) ∧ P n s₀ s₁) Y n (.send .none) (s.setGen g .running))
    (hY : ∀ v s₁ gs', gs'.bare = true → Y (n - 1) (s.setGen g .running) v s₁ (fun r' s'' => match n with
        | 0 => False
        | m + 1 => gs'.Goes (model prog w) A.in1 (fun n s₀ r s₁ => r = .ok (.ret .none) ∧ P n s₀ s₁) Y m r' s'') → Q (some v) (s₁.setGen g gs'))
    (hP : ∀ s₁, P n (s.setGen g .running) s₁ → ∀ h', (∀ b o, s₁.heap.get? b = some o → h'.get? b = some o) → Q none { s₁.setGen g .finished with heap := h' }) :
    wpAny (model prog w) A (pyNext (.ref a)) Q E s := by
  unfold pyNext
  refine wpAny_bind (wpAny_attempt (wpAny_callSpecial?_slot (name := Str.ofString "__next__") hg.typeIs slot_gen_next
    (wpAny_call_entry slot_gen_next hg.typeIs entry_gen_next ?_ (args_gen_next _))))
  show wpAny _ A.in1 (Builtin.Generator.genWake (.ref a) (.send .none)) _ _ s
  unfold Builtin.Generator.genWake
  refine wpAny_bind (wpAny_holding (wpAny_genNumber hg (wpAny_bind (wpAny_genState hgs ?_))))
  have room := fun (Q' : Unit → Shared → Prop) (E' : Value → Shared → Prop) (hq : Q' () s) => wpAny_roomToWake (M := model prog w) (A := A.in1) (E := E') hl hroom hq
  cases gs with
  | running => exact hgo.elim
  | finished => exact hgo.elim
  | _ =>
    refine wpAny_bind (room _ _ ?_)
    show wpAny _ A.in1 (.resume g (.send .none) [] _) _ _ s
    refine wpAny_resumeQ hgs hgo (fun x s₁ hx => ?_) (fun v s₁ gs' hb hv => wpAny_pure ⟨v, rfl, wpAny_pure (hY v s₁ gs' hb hv)⟩)
    obtain ⟨rfl, hp⟩ := hx
    show wpAny _ A.in1 (newExc (.type "StopIteration") [] >>= _) _ _ _
    refine wpAny_bind ?_
    simp only [newExc, newTuple]
    refine wpAny_bind (wpAny_newObj_type ?_ (by size_fits))
    refine wpAny_bind (m := firstArgMember _ _) (wpAny_of_eq (a := Value.none) (by first | rfl | (simp only [firstArgMember]; rfl)) ?_)
    refine wpAny_newObj_type ?_ (by size_fits)
    simp only [raiseNew]
    refine wpAny_bind (wpAny_bind (wpAny_handled ?_))
    rw [show A.in1.handled = none from hh]
    refine wpAny_throw ?_
    refine wpAny_bind (wpAny_isInstance (T := "StopIteration") (b := true) ⟨_, Heap.get?_push_size _ rfl, rfl⟩ isSubtype_stop ?_)
    exact wpAny_pure (hP s₁ hp _ fun b o hb => Heap.get?_push_of_some _ (Heap.get?_push_of_some _ hb))
end

section
variable {C : Cx} {env : Env} {loc : Loc} {led : Led}
/-- some addresses are given up, all else stands -/
theorem St.moves {s s' : Shared} {led' : Led} (S : St C env loc led s) (lost : Addr → Prop) (hsub : Sub led' led)
    (hl : ∀ a, lost a → (∃ P, Ent.obj a P ∈ led) ∧ (0, a) ∉ keys led') (hk : ∀ b o, ¬ lost b → s.heap.get? b = some o → s'.heap.get? b = some o)
    (hg : ∀ g P, Ent.gen g P ∈ led' → s'.gens[g]? = s.gens[g]?) (hb : AllBare s'.gens) (ho : s'.os = s.os) : St C env loc led' s' := by
  obtain ⟨m, F, hm⟩ := S.fr
  have lostAt : ∀ a, lost a → C.h₀.objs.size ≤ a ∧ a ≠ env.locals ∧ ∃ o, s.heap.get? a = some o ∧ NoCode o := fun a ha => by
    obtain ⟨⟨P, hm⟩, _⟩ := hl a ha
    obtain ⟨o, h1, _, h3, h4, h5⟩ := S.all _ hm
    exact ⟨h3, h4, o, h1, h5⟩
  have hL : ¬ lost env.locals := fun q => (lostAt _ q).2.1 rfl
  have hlow : ∀ b, b < C.h₀.objs.size → ¬ lost b := fun b hb q => by have := (lostAt _ q).1; lia
  have hcode : ∀ v q, CodeRecC s.heap v q → CodeRecC s'.heap v q := by
    rintro v q ⟨c, o', vs, t, e1, e2, e3, e4, e5⟩
    refine ⟨c, o', vs, t, e1, hk _ _ (fun w => ?_) e2, e3, e4, e5⟩
    obtain ⟨_, _, o, h1, h2⟩ := lostAt _ w
    rw [h1] at e2; cases e2
    rcases h2 with h2 | h2
    · exact h2 e3
    · exact h2 vs e4
  refine ⟨S.ok, ⟨m, ⟨F.ns.at' fun o e => hk _ _ hL e, fun b o e => hk b o (hlow _ (Heap.lt_size e)) (F.keep b o e), F.above⟩, hm⟩, S.fn, S.lnd, S.kinds, fun e he => ?_, hsub.nodup S.nd, ho.trans S.os, hb, fun q hq => ?_⟩
  · have := S.all e (hsub.mem e he)
    cases e with
    | obj a P =>
      obtain ⟨o, h1, h2⟩ := this
      exact ⟨o, hk _ _ (fun q => (hl a q).2 (keys_mem he rfl)) h1, h2⟩
    | gen g P => obtain ⟨st, h1, h2⟩ := this; exact ⟨st, (hg g P he).trans h1, h2⟩
    | code v q => exact hcode v q this
  · obtain ⟨q1, q2⟩ := S.ok.tabs q hq
    obtain ⟨ps, x1, x2, x3⟩ := S.tabs q hq
    have k1 : ∀ o, s.heap.get? q.P = some o → s'.heap.get? q.P = some o := fun o e => hk _ _ (hlow _ q1) e
    have k2 : ∀ o, s.heap.get? q.c = some o → s'.heap.get? q.c = some o := fun o e => hk _ _ (hlow _ q2) e
    refine ⟨ps, ?_, ?_, fun v hv => hcode v _ (x3 v hv)⟩
    · obtain ⟨o, vs, file, tf, flags, tg, inF, text, tt, op, a, r1, r2, r3, r4, r5, r6, b, r⟩ := x1
      exact ⟨o, vs, file, tf, flags, tg, inF, text, tt, op, k2 _ a, r1, r2, r3, r4, r5, r6, k1 _ b, r⟩
    · obtain ⟨⟨o, vs, y1, y2⟩, y3⟩ := x2
      exact ⟨⟨o, vs, k2 _ y1, y2⟩, k1 _ y3⟩
end
end
section
open Sem (wp)
set_option maxRecDepth 100000
set_option linter.unusedVariables false
/-! ## what _grouping_intervals tells -/
inductive Sg where
  | at (k : Nat) (last : Int)
  | inf (l : Int)
noncomputable def Sg.step (vs : List Int) : Sg → Option (Int × Sg)
  | .at k last => match vs[k]? with
    | none => none
    | some x => if x = 127 then none else if x = 0 then some (last, .inf last) else some (x, .at (k + 1) x)
  | .inf l => some (l, .inf l)
noncomputable def stg (vs : List Int) : Nat → Sg
  | 0 => .at 0 0
  | i + 1 => match (stg vs i).step vs with | some (_, σ) => σ | none => stg vs i
noncomputable def gitem (vs : List Int) (j : Nat) : Option Int := ((stg vs j).step vs).map (·.1)

noncomputable def Mv (Lg it : Addr) (s s' : Shared) : Prop := (∀ b o, b ≠ Lg → b ≠ it → s.heap.get? b = some o → s'.heap.get? b = some o) ∧ s'.gens = s.gens ∧ s'.os = s.os
theorem Mv.refl {Lg it : Addr} {s : Shared} : Mv Lg it s s := ⟨fun _ _ _ _ e => e, rfl, rfl⟩
theorem Mv.step {Lg it : Addr} {s s' s'' : Shared} (h : Mv Lg it s s') (hk : ∀ b o, b ≠ Lg → b ≠ it → s'.heap.get? b = some o → s''.heap.get? b = some o) (hg : s''.gens = s'.gens) (ho : s''.os = s'.os) : Mv Lg it s s'' :=
  ⟨fun b o h1 h2 e => hk b o h1 h2 (h.1 b o h1 h2 e), hg.trans h.2.1, ho.trans h.2.2⟩

/-- what stands in the generator's frame and round it -/
structure GB (C : Cx) (Lg t : Addr) (vs : List Int) (m : Str → Option Value) (s : Shared) : Prop where
  keep : ∀ b o, C.h₀.get? b = some o → s.heap.get? b = some o
  list : ∃ items : Array Value, s.heap.IsList t items ∧ erL items.toList = iv vs
  ns : s.heap.Ns Lg m

structure GA (C : Cx) (Lg it t : Addr) : Prop where
  ok : C.Ok
  lt : Lg ≠ it
  ltt : Lg ≠ t
  itt : it ≠ t
  l0 : C.h₀.objs.size ≤ Lg
  i0 : C.h₀.objs.size ≤ it

theorem GB.butL {C : Cx} {Lg it t : Addr} {vs : List Int} {m m' : Str → Option Value} {s s' : Shared} (g : GB C Lg t vs m s) (a : GA C Lg it t) (hn : s'.heap.Ns Lg m') (hsb : Heap.SameBut Lg s.heap s'.heap) : GB C Lg t vs m' s' := by
  obtain ⟨items, h1, h2⟩ := g.list
  exact ⟨fun b o e => (hsb.2 b (Nat.ne_of_lt (Nat.lt_of_lt_of_le (Heap.lt_size e) a.l0))).trans (g.keep b o e), ⟨items, h1.at fun o e => (hsb.2 t (Ne.symm a.ltt)).trans e, h2⟩, hn⟩
theorem GB.butI {C : Cx} {Lg it t : Addr} {vs : List Int} {m : Str → Option Value} {s s' : Shared} (g : GB C Lg t vs m s) (a : GA C Lg it t) (hx : Heap.ExtBut it s.heap s'.heap) : GB C Lg t vs m s' := by
  obtain ⟨items, h1, h2⟩ := g.list
  exact ⟨fun b o e => hx b o (Nat.ne_of_lt (Nat.lt_of_lt_of_le (Heap.lt_size e) a.i0)) (g.keep b o e), ⟨items, h1.at fun o e => hx t o (Ne.symm a.itt) e, h2⟩, g.ns.extBut hx a.lt⟩
theorem GB.toks {C : Cx} {Lg t : Addr} {vs : List Int} {m : Str → Option Value} {s : Shared} {k : Nat} (g : GB C Lg t vs m s) : GB C Lg t vs m { s with toks := k } := ⟨g.keep, g.list, g.ns⟩

noncomputable def GoodS (C : Cx) (Lg it t : Addr) (vs : List Int) (σ : Sg) (s : Shared) : Prop := ∃ m, GB C Lg t vs m s ∧ match σ with
  | .at k last => (m "interval").map er = some (.int last 0) ∧ s.heap.IsListIter it t k
  | .inf l => (m "last_interval").map er = some (.int l 0) ∧ ∃ o, s.heap.get? it = some o ∧ NoCode o

noncomputable def Yp (C : Cx) (Lg it t : Addr) (vs : List Int) (N : Nat) : Protocol := fun n s₀ v s' kap => ∃ i x, i + n + 1 = N ∧ gitem vs i = some x ∧ er v = .int x 0 ∧ Mv Lg it s₀ s' ∧ GoodS C Lg it t vs (stg vs (i + 1)) s' ∧
  (n ≠ 0 → ∀ s'', GoodS C Lg it t vs (stg vs (i + 1)) s'' → kap (.send .none) s'')
noncomputable def Pp (Lg it : Addr) (vs : List Int) (N : Nat) : Nat → Shared → Shared → Prop := fun n s₀ s₁ => ∃ i, i + n = N ∧ gitem vs i = none ∧ Mv Lg it s₀ s₁
noncomputable abbrev Rp (Lg it : Addr) (vs : List Int) (N : Nat) : GenEnd := fun n s₀ r s₁ => r = .ok (.ret .none) ∧ Pp Lg it vs N n s₀ s₁

structure GE (C : Cx) (env : Env) (Lg : Addr) : Prop where
  E : EnvOk C env [("CHAR_MAX", .int 127 0)] []
  loc : env.locals = Lg
  k1 : env.kindOf "interval" = some .local
  k2 : env.kindOf "last_interval" = some .local
  k3 : env.kindOf "grouping" = some .local
  co : env.scope.isCoroutine = false
  inter : interactive env = false

section
variable {C : Cx} {A : Around} {env : Env} {Lg it t : Addr} {vs : List Int} {s : Shared} {E : Value → Shared → Prop}
theorem g_local {x : Str} {pos : Pos} {m : Str → Option Value} {v : Value} {Q : Value → Shared → Prop} (hf : env.scope.kind = .function) (hk : env.kindOf x = some .local) (hd : (x == ("__debug__" : Str)) = false) (hn : s.heap.Ns env.locals m) (hx : m x = some v) (h : Q v s) :
    wpAny C.M A (eval (.Name x pos) env) Q E s := wpAny_Name (wpAny_loadName_local hf hk hn hx h) hd
theorem map_er {v : Option Value} {u : Value} (h : v.map er = some u) : ∃ w, v = some w ∧ er w = u := by
  cases v with
  | none => cases h
  | some w => exact ⟨w, rfl, Option.some.inj h⟩

theorem g_glob {m : Str → Option Value} {pos : Pos} {Q : Value → Shared → Prop} (G : GE C env Lg) (ok : C.Ok) (g : GB C Lg t vs m s) (h : ∀ u, Q (.int 127 u) s) : wpAny C.M A (eval (.Name "CHAR_MAX" pos) env) Q E s := by
  obtain ⟨h1, h2, u, h3, h4⟩ := G.E.gl _ List.mem_cons_self
  have hg : s.heap.Ns env.globals C.mg := by rw [G.E.globals]; exact ok.g.keeps g.keep
  have hb : s.heap.Ns env.builtins C.mb := by rw [G.E.builtins]; exact ok.b.keeps g.keep
  obtain ⟨tk, rfl⟩ := er_is_int h3
  rcases h4 with h4 | ⟨h4, h5⟩
  · exact Name_function_global G.E.fn h1 (loadGlobal_global hg h4 (h _)) h2
  · exact Name_function_global G.E.fn h1 (loadGlobal_builtin hg h4 hb h5 (h _)) h2
theorem g_eq127 {m : Str → Option Value} {x : Int} {p1 p2 p3 : Pos} {Q : Bool → Shared → Prop} (G : GE C env Lg) (ok : C.Ok) (g : GB C Lg t vs m s) (hx : (m "interval").map er = some (.int x 0)) (h : Q (decide (x = 127)) s) :
    wpAny C.M A (isTrue (.Compare (.Name "interval" p1) [.Eq] [.Name "CHAR_MAX" p2] p3) env (eval (.Compare (.Name "interval" p1) [.Eq] [.Name "CHAR_MAX" p2] p3) env)) Q E s := by
  obtain ⟨w, e1, e2⟩ := map_er hx
  obtain ⟨tk, rfl⟩ := er_is_int e2
  exact wpAny_isTrue_Compare1 (g_local G.E.fn G.k1 (by decide) (by rw [G.loc]; exact g.ns) e1 (g_glob G ok g fun u => PyProof.Rows.eq_int (wpAny_truthy_bool h))) (by with_unfolding_all rfl)
theorem g_eq0 {m : Str → Option Value} {x : Int} {p1 p2 p3 : Pos} {k : Nat} {Q : Bool → Shared → Prop} (G : GE C env Lg) (g : GB C Lg t vs m s) (hx : (m "interval").map er = some (.int x 0)) (h : ∀ k, Q (decide (x = 0)) { s with toks := k }) :
    wpAny C.M A (isTrue (.Compare (.Name "interval" p1) [.Eq] [.Constant (.int 0) k p2] p3) env (eval (.Compare (.Name "interval" p1) [.Eq] [.Constant (.int 0) k p2] p3) env)) Q E s := by
  obtain ⟨w, e1, e2⟩ := map_er hx
  obtain ⟨tk, rfl⟩ := er_is_int e2
  exact wpAny_isTrue_Compare1 (g_local G.E.fn G.k1 (by decide) (by rw [G.loc]; exact g.ns) e1 (wpAny_Constant_int (PyProof.Rows.eq_int (wpAny_truthy_bool (h _))))) (by with_unfolding_all rfl)
theorem g_isNone {m : Str → Option Value} {x : Int} {p1 p2 p3 : Pos} {k : Nat} {Q : Bool → Shared → Prop} (G : GE C env Lg) (g : GB C Lg t vs m s) (hx : (m "last_interval").map er = some (.int x 0)) (h : Q false s) :
    wpAny C.M A (isTrue (.Compare (.Name "last_interval" p1) [.Is] [.Constant .none k p2] p3) env (eval (.Compare (.Name "last_interval" p1) [.Is] [.Constant .none k p2] p3) env)) Q E s := by
  obtain ⟨w, e1, e2⟩ := map_er hx
  obtain ⟨tk, rfl⟩ := er_is_int e2
  exact wpAny_isTrue_Compare1 (g_local G.E.fn G.k2 (by decide) (by rw [G.loc]; exact g.ns) e1 (wpAny_pure (is_int_none (wpAny_truthy_bool h)))) (by with_unfolding_all rfl)
theorem g_store {x : Str} {v : Value} {m : Str → Option Value} {Q : Unit → Shared → Prop} (hf : env.scope.kind = .function) (hk : env.kindOf x = some .local) (hl : env.locals = Lg) (a : GA C Lg it t) (g : GB C Lg t vs m s)
    (h : ∀ h' k, Heap.SameBut Lg s.heap h' → GB C Lg t vs (fun y => if y = x then some v else m y) { s with heap := h', toks := k } → Q () { s with heap := h', toks := k }) : wpAny C.M A (storeName env x v) Q E s := by
  subst hl
  exact wpAny_storeName_local hk g.ns (fun h' hn hsb => h h' _ hsb (g.butL (s' := { s with heap := h', toks := s.toks + 1 }) a hn hsb)) (by rw [hf]; rfl)

/-! ### the endless loop -/
variable {N : Nat} {fs : List Frame} {p1 p2 p3 p4 : Pos} {k1 : Nat}
theorem gen_W (G : GE C env Lg) (a : GA C Lg it t) (hsp : splitAtGen fs = none) (hgu : fs.any Frame.guarded = false) : ∀ n i s₀ s m l, i + n = N → n ≠ 0 → (stg vs i).step vs = some (l, .inf l) → Mv Lg it s₀ s → GB C Lg t vs m s → (m "last_interval").map er = some (.int l 0) → (∃ o, s.heap.get? it = some o ∧ NoCode o) →
    Seg C.M A (Rp Lg it vs N) (Yp C Lg it t vs N) n s₀ (.whileLoop (.Constant (.bool true) k1 p1) [.Expr (.Yield (some (.Name "last_interval" p2)) p3) p4] [] env) (C.M.den (.whileLoop (.Constant (.bool true) k1 p1) [.Expr (.Yield (some (.Name "last_interval" p2)) p3) p4] [] env)) fs s := by
  intro n
  induction n with
  | zero => intro i s₀ s m l _ h; exact absurd rfl h
  | succ n ih =>
    intro i s₀ s m l hi _ hst hmv g hl ho
    obtain ⟨w, e1, e2⟩ := map_er hl
    refine seg_whileLoop (isTrue_plain (wpAny_pure (wpAny_truthy_bool ?_)) (by with_unfolding_all rfl))
    rw [if_pos rfl]
    refine seg_execs_cons ?_
    refine seg_Expr_Yield hsp rfl hgu (g_local G.E.fn G.k2 (by decide) (by rw [G.loc]; exact g.ns) e1 fun kap hkap => ?_) G.co G.inter
    have hnext : stg vs (i + 1) = .inf l := by rw [stg, hst]
    refine ⟨i, l, by omega, by unfold gitem; rw [hst]; rfl, e2, hmv, ?_, fun hn s'' hgood => hkap _ _ ?_⟩
    · rw [hnext]; exact ⟨m, g, hl, ho⟩
    · rw [hnext] at hgood
      obtain ⟨m', g', hl', ho'⟩ := hgood
      show Seg C.M A _ _ n s'' _ ((execs [] env).wrap _ _ _ _) fs s''
      refine seg_execs_nil ?_
      exact seg_again rfl (ih (i + 1) s'' s'' m' l (by omega) hn (by rw [hnext]; rfl) Mv.refl g' hl' ho')
end
end
section
open Sem (wp)
set_option maxRecDepth 100000
set_option linter.unusedVariables false
section
variable {C : Cx} {A : Around} {env : Env} {Lg it t : Addr} {vs : List Int} {E : Value → Shared → Prop} {N : Nat} {fs : List Frame}
  {p1 p2 p3 p4 q1 q2 q3 q4 q5 q6 q7 q8 q9 q10 q11 q12 q13 q14 q15 q16 q17 q18 q19 q20 q21 : Pos} {k1 k2 k3 : Nat} {raise : List Stmt}

theorem step_none {k : Nat} {last : Int} (h : vs[k]? = none) : Sg.step vs (.at k last) = none := by simp [Sg.step, h]
theorem step_max {k : Nat} {last : Int} (h : vs[k]? = some 127) : Sg.step vs (.at k last) = none := by simp [Sg.step, h]
theorem step_zero {k : Nat} {last : Int} (h : vs[k]? = some 0) : Sg.step vs (.at k last) = some (last, .inf last) := by simp [Sg.step, h]
theorem step_more {k : Nat} {last x : Int} (h : vs[k]? = some x) (h1 : x ≠ 127) (h2 : x ≠ 0) : Sg.step vs (.at k last) = some (x, .at (k + 1) x) := by simp [Sg.step, h, h1, h2]

theorem gen_L (G : GE C env Lg) (a : GA C Lg it t) (hsp : splitAtGen fs = none) (hgu : fs.any Frame.guarded = false) (hsp1 : ∀ k h g l c p, splitAtGen (.ret k h g l c p [] :: fs) = none) (hgu1 : ∀ k h l c p, (Frame.ret k h false l c p [] :: fs).any Frame.guarded = false)
    (hh : ∀ c, (A.over c fs).handled = none) (h0 : vs[0]? ≠ some 0)
    (fin1 : ∀ n s₀ s c, Rp Lg it vs N n s₀ (.ok (.ret .none)) s → Seg C.M A (Rp Lg it vs N) (Yp C Lg it t vs N) n s₀ c (leafOf (.ok .next)) fs s)
    (fin2 : ∀ n s₀ s c, Rp Lg it vs N n s₀ (.ok (.ret .none)) s → Seg C.M A (Rp Lg it vs N) (Yp C Lg it t vs N) n s₀ c (leafOf (.ok (.ret .none))) fs s)
    {body : List Stmt} (hbody : body = [.If (.Compare (.Name "interval" q1) [.Eq] [.Name "CHAR_MAX" q2] q3) [.Return none q4] [] q5,
      .If (.Compare (.Name "interval" q6) [.Eq] [.Constant (.int 0) k2 q7] q8) [.If (.Compare (.Name "last_interval" q9) [.Is] [.Constant .none k3 q10] q11) raise [] q12, .While (.Constant (.bool true) k1 p1) [.Expr (.Yield (some (.Name "last_interval" p2)) p3) p4] [] q13] [] q14,
      .Expr (.Yield (some (.Name "interval" q15)) q16) q17,
      .Assign [.Name "last_interval" q18] (.Name "interval" q19) q20]) :
    ∀ n i s₀ s m k last, i + n = N → stg vs i = .at k last → Mv Lg it s₀ s → GB C Lg t vs m s → s.heap.IsListIter it t k → (k ≠ 0 → (m "last_interval").map er = some (.int last 0)) → (n = 0 → (stg vs i).step vs = none) →
      Seg C.M A (Rp Lg it vs N) (Yp C Lg it t vs N) n s₀ (.forLoop (.Name "interval" q21) (.ref it) body [] env) (C.M.den (.forLoop (.Name "interval" q21) (.ref it) body [] env)) fs s := by
  intro n
  induction n using Nat.strongRecOn with
  | _ n ih =>
    intro i s₀ s m k last hi hst hmv g hit hlast hn0
    obtain ⟨items, hl, he⟩ := g.list
    cases hv : vs[k]? with
    | none =>
      refine sg_forLoop (wpAny_pyNext_list_end (hh _) hit hl (erL_none he (by unfold iv; rw [List.getElem?_map, hv]; rfl)) fun h' hx => sg_block_nil (fin1 _ _ _ _ ⟨rfl, i, hi, ?_, ?_⟩)) (by intro _; with_unfolding_all rfl) rfl
      · unfold gitem; rw [hst, step_none hv]; rfl
      · exact hmv.step (fun b o h1 h2 e => hx b o h2 e) rfl rfl
    | some x =>
      obtain ⟨v, hxv, hev⟩ := erL_get he (show (iv vs)[k]? = some (.int x 0) by unfold iv; rw [List.getElem?_map, hv]; rfl)
      have hk0 : k = 0 → x ≠ 0 := fun hk hx0 => by subst hk; subst hx0; exact h0 hv
      refine sg_forLoop (wpAny_pyNext_list_item hit hl hxv fun h1 hit1 hsb1 => ?_) (by intro _; with_unfolding_all rfl) rfl
      have g1 : GB C Lg t vs m { s with heap := h1 } := g.butI (s' := { s with heap := h1 }) a hsb1.extBut
      refine PyProof.Rows.assign_Name (g_store G.E.fn G.k1 G.loc a g1 fun h2 k2' hsb2 g2 => ?_)
      have hmv2 : Mv Lg it s₀ { s with heap := h2, toks := k2' } := hmv.step (fun b o e1 e2 e => (hsb2.2 b e1).trans ((hsb1.2 b e2).trans e)) rfl rfl
      have hit2 : h2.IsListIter it t (k + 1) := hit1.at fun o e => (hsb2.2 it (Ne.symm a.lt)).trans e
      have hint : ((fun y => if y = ("interval" : Str) then some v else m y) "interval").map er = some (.int x 0) := by simp [hev]
      have hlast2 : k ≠ 0 → ((fun y => if y = ("interval" : Str) then some v else m y) "last_interval").map er = some (.int last 0) := fun hk => by
        show (if ("last_interval" : Str) = "interval" then some v else m "last_interval").map er = _
        rw [if_neg (by decide)]; exact hlast hk
      generalize (fun y => if y = ("interval" : Str) then some v else m y) = m2 at g2 hint hlast2
      rw [hbody]
      refine seg_execs_cons (sg_If (g_eq127 G a.ok g2 hint ?_))
      by_cases h127 : x = 127
      · rw [decide_eq_true h127, if_pos rfl]
        refine seg_execs_cons (sg_wrap (wpAny_Return_none ?_))
        exact fin2 _ _ _ _ ⟨rfl, i, hi, by unfold gitem; rw [hst, step_max (by rw [hv, h127])]; rfl, hmv2⟩
      · rw [decide_eq_false h127, if_neg Bool.false_ne_true]
        refine seg_execs_nil ?_
        refine seg_execs_cons (sg_If (g_eq0 G g2 hint fun k3' => ?_))
        have hmv3 : Mv Lg it s₀ { s with heap := h2, toks := k3' } := hmv2
        by_cases hz : x = 0
        · rw [decide_eq_true hz, if_pos rfl]
          have hk : k ≠ 0 := fun hk => hk0 hk hz
          refine seg_execs_cons (sg_If (g_isNone G (g2.toks (k := k3')) (hlast2 hk) ?_))
          rw [if_neg Bool.false_ne_true]
          refine seg_execs_nil ?_
          refine seg_execs_cons (seg_While fun p => ?_)
          have hs0 : (stg vs i).step vs = some (last, .inf last) := by rw [hst, step_zero (by rw [hv, hz])]
          exact gen_W G a (hsp1 _ _ _ _ _ _) (hgu1 _ _ _ _ _) n i s₀ _ m2 last hi (fun h => by rw [hn0 h] at hs0; cases hs0) hs0 hmv3 (g2.toks (k := k3')) (hlast2 hk) (let ⟨o, e1, e2, _⟩ := hit2; ⟨o, e1, .inl (by rw [e2]; simp)⟩)
        · rw [decide_eq_false hz, if_neg Bool.false_ne_true]
          refine seg_execs_nil ?_
          obtain ⟨w, e1, e2⟩ := map_er hint
          have hnext : stg vs (i + 1) = .at (k + 1) x := by rw [stg, hst, step_more hv h127 hz]
          have hstep : (stg vs i).step vs = some (x, .at (k + 1) x) := by rw [hst, step_more hv h127 hz]
          obtain ⟨n, rfl⟩ : ∃ n', n = n' + 1 := ⟨n - 1, by have : n ≠ 0 := fun h => (by rw [hn0 h] at hstep; cases hstep); omega⟩
          refine seg_execs_cons (seg_Expr_Yield hsp rfl hgu (g_local G.E.fn G.k1 (by decide) (by rw [G.loc]; exact (g2.toks (k := k3')).ns) e1 fun kap hkap => ?_) G.co G.inter)
          refine ⟨i, x, by omega, by unfold gitem; rw [hstep]; rfl, e2, hmv3, ?_, fun hn s'' hgood => hkap _ _ ?_⟩
          · rw [hnext]; exact ⟨m2, g2.toks, hint, hit2⟩
          · rw [hnext] at hgood
            obtain ⟨m', g', hint', hit'⟩ := hgood
            obtain ⟨w', e1', e2'⟩ := map_er hint'
            show Seg C.M A _ _ n s'' _ ((execs [Stmt.Assign [.Name "last_interval" q18] (.Name "interval" q19) q20] env).wrap _ _ _ _) fs s''
            refine seg_execs_cons (sg_wrap (wpAny_Assign_Name (g_local G.E.fn G.k1 (by decide) (by rw [G.loc]; exact g'.ns) e1' (g_store G.E.fn G.k2 G.loc a g' fun h4 k4 hsb4 g4 => ?_)) (by with_unfolding_all rfl)))
            refine seg_execs_nil ?_
            refine seg_again rfl ?_
            have := ih n (Nat.lt_succ_self n) (i + 1) s'' { s'' with heap := h4, toks := k4 } _ (k + 1) x (by omega) hnext (Mv.refl.step (fun b o e1 e2 e => (hsb4.2 b e1).trans e) rfl rfl) g4 (hit'.at fun o e => (hsb4.2 it (Ne.symm a.lt)).trans e) (fun _ => by simp [e2']) (fun h => absurd h hn)
            rw [hbody] at this
            exact this
end
end
section
open Sem (wp)
set_option maxRecDepth 100000
set_option linter.unusedVariables false
noncomputable def OGen (g : Nat) : Obj → Prop := fun o => ∃ nm qn, o.cls = .type "generator" ∧ o.data = .fields #[.int g 0, nm, qn] ∧ o.slots = #[]
section
variable {C : Cx} {A : Around} {env : Env} {loc : Loc} {led rest : Led} {s s₁ : Shared} {ga g Lg it : Nat}
theorem setGen_get {s : Shared} {g g' : Nat} {x : GenState} (h : g' ≠ g) : (s.setGen g x).gens[g']? = s.gens[g']? := by
  unfold Shared.setGen
  simp [Ne.symm h]
theorem setGen_at {s : Shared} {g : Nat} {x : GenState} (h : g < s.gens.size) : (s.setGen g x).gens[g]? = some x := by
  unfold Shared.setGen
  simp [h]
theorem setGen_bare {s : Shared} {g : Nat} {x : GenState} (h : AllBare s.gens) (hx : x.bare = true) : AllBare (s.setGen g x).gens := by
  intro y hy
  obtain ⟨i, hi, rfl⟩ := Array.mem_iff_getElem.mp hy
  have e : (s.setGen g x).gens[i]? = some (s.setGen g x).gens[i] := Array.getElem?_eq_getElem hi
  by_cases q : i = g
  · subst q
    rw [setGen_at (by simpa [Shared.setGen] using hi)] at e
    rw [← Option.some.inj e]; exact hx
  · rw [setGen_get q] at e
    obtain ⟨h1, h2⟩ := Array.getElem?_eq_some_iff.mp e
    rw [← h2]; exact h _ (Array.getElem_mem h1)
theorem setGen_gens_eq {s s₁ : Shared} {g : Nat} {x y : GenState} (h : s₁.gens = (s.setGen g x).gens) : (s₁.setGen g y).gens = (s.setGen g y).gens := by
  unfold Shared.setGen at h ⊢
  rw [h]; simp

/-- what the generator's run leaves for the caller -/
theorem gen_rest (S : St C env loc led s) (hsub : Sub rest led) (hLg : ∃ P, Ent.obj Lg P ∈ led) (hit : (∃ P, Ent.obj it P ∈ led) ∨ it = s.heap.objs.size)
    (n2 : (1, g) ∉ keys rest) (n3 : (0, Lg) ∉ keys rest) (n4 : (0, it) ∉ keys rest) (mv : Mv Lg it (s.setGen g .running) s₁) {gs' : GenState} (hb : gs'.bare = true) {h' : Heap} (hk' : ∀ b o, s₁.heap.get? b = some o → h'.get? b = some o) :
    St C env loc rest { s₁.setGen g gs' with heap := h' } := by
  refine S.moves (fun a => a = Lg ∨ (a = it ∧ ∃ P, Ent.obj it P ∈ led)) hsub ?_ ?_ ?_ ?_ ?_
  · rintro a (rfl | ⟨rfl, h⟩)
    · exact ⟨hLg, n3⟩
    · exact ⟨h, n4⟩
  · intro b o hn e
    refine hk' b o (mv.1 b o (fun h => hn (.inl h)) (fun h => ?_) e)
    rcases hit with hP | hf
    · exact hn (.inr ⟨h, hP⟩)
    · have := Heap.lt_size e
      rw [show b = s.heap.objs.size from h.trans hf] at this
      exact Nat.lt_irrefl _ this
  · intro g' P hm
    show (s₁.setGen g gs').gens[g']? = _
    rw [setGen_gens_eq mv.2.1]
    exact setGen_get fun q => n2 (keys_mem hm (by rw [q]; rfl))
  · show AllBare (s₁.setGen g gs').gens
    rw [setGen_gens_eq mv.2.1]
    exact setGen_bare S.bare hb
  · exact mv.2.2

theorem gen_back (S : St C env loc led s) (hsub : Sub rest led) (hga : ∃ P, Ent.obj ga P ∈ led) (oga : ∃ o, s.heap.get? ga = some o ∧ OGen g o) (hLg : ∃ P, Ent.obj Lg P ∈ led) (hit : (∃ P, Ent.obj it P ∈ led) ∨ it = s.heap.objs.size)
    (hg : g < s.gens.size) (n1 : (0, ga) ∉ keys rest) (n2 : (1, g) ∉ keys rest) (n3 : (0, Lg) ∉ keys rest) (n4 : (0, it) ∉ keys rest) (d1 : ga ≠ Lg) (d2 : ga ≠ it) (d3 : Lg ≠ it)
    (mv : Mv Lg it (s.setGen g .running) s₁) {gs' : GenState} (hb : gs'.bare = true) {PL PI : Obj → Prop} {PG : GenState → Prop} (hPL : ∃ o, s₁.heap.get? Lg = some o ∧ PL o ∧ NoCode o) (hPI : ∃ o, s₁.heap.get? it = some o ∧ PI o ∧ NoCode o) (hPG : PG gs') :
    St C env loc (.obj ga (OGen g) :: .gen g PG :: .obj Lg PL :: .obj it PI :: rest) (s₁.setGen g gs') := by
  have S0 : St C env loc rest (s₁.setGen g gs') := gen_rest (h' := s₁.heap) S hsub hLg hit n2 n3 n4 mv hb fun _ _ e => e
  have key : ∀ {k : Nat × Nat} {l : Led}, k ∉ keys l → ∀ x ∈ l, x.key ≠ some k := fun h x hx q => h (keys_mem hx q)
  have itb : C.h₀.objs.size ≤ it ∧ it ≠ env.locals := by
    rcases hit with ⟨P, hP⟩ | h
    · obtain ⟨_, _, _, h3, h4, _⟩ := S.all _ hP
      exact ⟨h3, h4⟩
    · exact ⟨h ▸ S.base_le, h ▸ Nat.ne_of_gt S.lt⟩
  obtain ⟨PLg, hPLg⟩ := hLg
  obtain ⟨_, _, _, Lb1, Lb2, _⟩ := S.all _ hPLg
  obtain ⟨Pga, hPga⟩ := hga
  obtain ⟨og, hog, hogg⟩ := oga
  obtain ⟨og', hog', _, Gb1, Gb2, Gb3⟩ := S.all _ hPga
  rw [hog] at hog'
  cases hog'
  obtain ⟨oi, hoi, hpi, hci⟩ := hPI
  obtain ⟨oL, hoL, hpL, hcL⟩ := hPL
  have S1 : St C env loc (.obj it PI :: rest) (s₁.setGen g gs') := S0.more (e := .obj it PI) ⟨oi, hoi, hpi, itb.1, itb.2, hci⟩ fun k hk => by cases hk; exact key n4
  have S2 : St C env loc (.obj Lg PL :: .obj it PI :: rest) (s₁.setGen g gs') := S1.more (e := .obj Lg PL) ⟨oL, hoL, hpL, Lb1, Lb2, hcL⟩ fun k hk => by
    cases hk
    refine key ?_
    rw [keys_obj, List.mem_cons, not_or]
    exact ⟨fun q => d3 (by simpa using q), n3⟩
  have S3 : St C env loc (.gen g PG :: .obj Lg PL :: .obj it PI :: rest) (s₁.setGen g gs') := S2.more (e := .gen g PG) ⟨gs', by rw [setGen_gens_eq mv.2.1]; exact setGen_at hg, hPG⟩ fun k hk => by
    cases hk
    refine key ?_
    rw [keys_obj, keys_obj, List.mem_cons, List.mem_cons, not_or, not_or]
    exact ⟨fun q => by simp at q, fun q => by simp at q, n2⟩
  refine S3.more (e := .obj ga (OGen g)) ⟨og, mv.1 ga og d1 d2 hog, hogg, Gb1, Gb2, Gb3⟩ fun k hk => ?_
  cases hk
  refine key ?_
  rw [show keys (.gen g PG :: .obj Lg PL :: .obj it PI :: rest) = (1, g) :: (0, Lg) :: (0, it) :: keys rest from rfl]
  simp only [List.mem_cons, not_or]
  exact ⟨fun q => by simp at q, fun q => d1 (by simpa using q), fun q => d2 (by simpa using q), n1⟩
end
end
section
open Sem (wp)
set_option maxRecDepth 100000
set_option linter.unusedVariables false
noncomputable def OI (σ : Sg) (t : Addr) : Obj → Prop := match σ with | .at k _ => OListIter t k | .inf _ => fun _ => True
noncomputable def OG (σ : Sg) : Obj → Prop := fun o => ∃ (es : Array DictEntry) (ep : Nat) (m : Str → Option Value), o.data = .dict es ep ∧ StrKeys es ∧ (∀ name : Str, nsFind es name = m name) ∧ match σ with
  | .at _ last => (m "interval").map er = some (.int last 0)
  | .inf l => (m "last_interval").map er = some (.int l 0)
noncomputable abbrev NN : Nat := 10000
/-- the generator's stage, in the ledger -/
noncomputable def GAt (C : Cx) (A : Around) (vs : List Int) (t ga : Addr) (fd : FuncData) (body : List Stmt) (j : Nat) (d : Led) : Prop :=
  (j = 0 ∧ ∃ g Lg, d = [.obj ga (OGen g), .gen g (fun gs => gs = .fresh (.func body (fenv fd Lg 92))), .obj Lg (OLoc [("grouping", some (.ref t)), ("last_interval", none), ("interval", none)])]) ∨
  (0 < j ∧ ∃ g Lg it, d = [.obj ga (OGen g), .gen g (fun gs => gs.bare = true ∧ ∀ n, j + n = NN → n ≠ 0 → ∀ s'', GoodS C Lg it t vs (stg vs j) s'' → gs.Goes C.M A.in1 (Rp Lg it vs NN) (Yp C Lg it t vs NN) n (.send .none) s''),
    .obj Lg (OG (stg vs j)), .obj it (OI (stg vs j) t)])

structure GenC (C : Cx) (A : Around) (env : Env) (vs : List Int) (t ga : Addr) (G : Nat → Led → Prop) : Prop where
  iter : ∀ j d rest loc s, G j d → St C env loc (d ++ rest) s → ∃ g, s.heap.IsGen ga g
  next : ∀ j d rest loc (K : Option Value → Loc → Led → Prop), j < NN → G j d → Ent.obj t (OList (iv vs)) ∈ rest → (∀ x, gitem vs j = some x → ∀ d', G (j + 1) d' → K (some (.int x 0)) loc (d' ++ rest)) → (gitem vs j = none → K none loc rest) → NX C A env ga loc (d ++ rest) K

theorem good_OG {C : Cx} {Lg it t : Addr} {vs : List Int} {σ : Sg} {s : Shared} (h : GoodS C Lg it t vs σ s) : (∃ o, s.heap.get? Lg = some o ∧ OG σ o ∧ NoCode o) ∧ (∃ o, s.heap.get? it = some o ∧ OI σ t o ∧ NoCode o) := by
  obtain ⟨m, g, hm⟩ := h
  obtain ⟨o, es, ep, e1, e2, e3, e4⟩ := g.ns
  cases σ with
  | «at» k last =>
    obtain ⟨oi, f1, f2, f3⟩ := hm.2
    exact ⟨⟨o, e1, ⟨es, ep, m, e2, e3, e4, hm.1⟩, .inr fun vs e => by rw [e2] at e; cases e⟩, oi, f1, ⟨f2, f3⟩, .inl (by rw [f2]; simp)⟩
  | inf l =>
    obtain ⟨oi, f1, f2⟩ := hm.2
    exact ⟨⟨o, e1, ⟨es, ep, m, e2, e3, e4, hm.1⟩, .inr fun vs e => by rw [e2] at e; cases e⟩, oi, f1, trivial, f2⟩
theorem OG_good {C : Cx} {Lg it t : Addr} {vs : List Int} {σ : Sg} {s : Shared} (keep : ∀ b o, C.h₀.get? b = some o → s.heap.get? b = some o) (hl : ∃ items : Array Value, s.heap.IsList t items ∧ erL items.toList = iv vs)
    (h1 : ∃ o, s.heap.get? Lg = some o ∧ OG σ o) (h2 : ∃ o, s.heap.get? it = some o ∧ OI σ t o ∧ NoCode o) : GoodS C Lg it t vs σ s := by
  obtain ⟨o, e1, es, ep, m, e2, e3, e4, e5⟩ := h1
  obtain ⟨oi, f1, f2, f3⟩ := h2
  refine ⟨m, ⟨keep, hl, ⟨o, es, ep, e1, e2, e3, e4⟩⟩, ?_⟩
  cases σ with
  | «at» k last => exact ⟨e5, oi, f1, f2.1, f2.2⟩
  | inf l => exact ⟨e5, oi, f1, f3⟩

section
variable {C : Cx} {A : Around} {env : Env} {vs : List Int} {t ga : Addr}
  {p1 p2 p3 p4 q1 q2 q3 q4 q5 q6 q7 q8 q9 q10 q11 q12 q13 q14 q15 q16 q17 q18 q19 q20 q21 r1 r2 r3 r4 r5 : Pos} {k1 k2 k3 k4 : Nat} {raise : List Stmt} {fd : FuncData} {body inner : List Stmt}
theorem gen_next (hA : Fit A 3) (hGE : ∀ L, GE C (fenv fd L 92) L) (h0 : vs[0]? ≠ some 0)
    (hbody : body = [.Assign [.Name "last_interval" r1] (.Constant .none k4 r2) r3, .For (.Name "interval" q21) (.Name "grouping" r4) inner [] r5])
    (hinner : inner = [.If (.Compare (.Name "interval" q1) [.Eq] [.Name "CHAR_MAX" q2] q3) [.Return none q4] [] q5,
      .If (.Compare (.Name "interval" q6) [.Eq] [.Constant (.int 0) k2 q7] q8) [.If (.Compare (.Name "last_interval" q9) [.Is] [.Constant .none k3 q10] q11) raise [] q12, .While (.Constant (.bool true) k1 p1) [.Expr (.Yield (some (.Name "last_interval" p2)) p3) p4] [] q13] [] q14,
      .Expr (.Yield (some (.Name "interval" q15)) q16) q17,
      .Assign [.Name "last_interval" q18] (.Name "interval" q19) q20]) :
    GenC C A env vs t ga (GAt C A vs t ga fd body) where
  iter := by
    rintro j d rest loc s (⟨_, g, Lg, rfl⟩ | ⟨_, g, Lg, it, rfl⟩) S
    · obtain ⟨o, e1, nm, qn, e2⟩ := S.get (a := ga) (P := OGen g) List.mem_cons_self
      exact ⟨g, o, nm, qn, e1, e2⟩
    · obtain ⟨o, e1, nm, qn, e2⟩ := S.get (a := ga) (P := OGen g) List.mem_cons_self
      exact ⟨g, o, nm, qn, e1, e2⟩
  next := by
    have hh := hA.hd
    have hroom : A.depth < recursionLimit := by have := hA.dep; show A.depth < 1000; lia
    rintro j d rest loc K hj (⟨rfl, g, Lg, rfl⟩ | ⟨hj0, g, Lg, it, rfl⟩) ht hK1 hK2 s S
    · obtain ⟨og, hog, hogg⟩ := S.get (a := ga) (P := OGen g) List.mem_cons_self
      obtain ⟨gs, hgs, rfl⟩ := S.all (.gen g _) (List.mem_cons_of_mem _ List.mem_cons_self)
      obtain ⟨oL, hoL, es, ep, m, e1, e2, e3, e4⟩ := S.get (a := Lg) (P := OLoc [("grouping", some (.ref t)), ("last_interval", none), ("interval", none)]) (List.mem_cons_of_mem _ (List.mem_cons_of_mem _ List.mem_cons_self))
      obtain ⟨_, _, _, hL0, hLL, _⟩ := S.all (.obj Lg _) (List.mem_cons_of_mem _ (List.mem_cons_of_mem _ List.mem_cons_self))
      obtain ⟨items, nn, gl, el, _⟩ := S.list (List.mem_append_right _ ht)
      have hnd : ((0, ga) :: (1, g) :: (0, Lg) :: keys rest).Nodup := S.nd
      have hfr := S.fresh_ne
      simp only [List.nodup_cons, List.mem_cons, not_or, Prod.mk.injEq, true_and] at hnd
      obtain ⟨⟨_, d1, n1⟩, ⟨_, n2⟩, n3, _⟩ := hnd
      obtain ⟨nm, qn, hcls, hdat, hsl⟩ := id hogg
      have hsub : ∀ {a b c : Ent}, Sub rest (a :: b :: c :: rest) := Sub.skip (Sub.skip (Sub.skip Sub.refl))
      have hg : g < s.gens.size := (Array.getElem?_eq_some_iff.mp hgs).1
      have n4 : (0, s.heap.objs.size) ∉ keys rest := fun q => by
        obtain ⟨x, hx, e⟩ := List.mem_filterMap.mp q
        exact hfr x (List.mem_append_right _ hx) e
      have d2 : ga ≠ s.heap.objs.size := Nat.ne_of_lt (Heap.lt_size hog)
      have d3 : Lg ≠ s.heap.objs.size := Nat.ne_of_lt (Heap.lt_size hoL)
      have d4 : Lg ≠ t := fun q => n3 (q ▸ keys_mem ht rfl)
      have ga' : GA C Lg s.heap.objs.size t := ⟨S.ok, d3, d4, Nat.ne_of_gt (Heap.lt_size gl), hL0, S.base_le⟩
      have hns : s.heap.Ns Lg m := ⟨oL, es, ep, hoL, e1, e2, e3⟩
      have gb : GB C Lg t vs m (s.setGen g .running) := ⟨S.keep, ⟨items, isl gl, el⟩, hns⟩
      have hGEL := hGE Lg
      refine nextGen hh (S.ok.nolimit.keeps S.keep) hroom (n := NN) (P := Pp Lg s.heap.objs.size vs NN) (Y := Yp C Lg s.heap.objs.size t vs NN) ⟨og, nm, qn, hog, hcls, hdat, hsl⟩ hgs ⟨rfl, ?_⟩ (fun v s₁ gs' hb hv => ?_) (fun s₁ hp h' hk => ?_)
      · refine seg_func ?_
        rw [hbody]
        refine seg_execs_cons (sg_wrap (wpAny_Assign_Name (wpAny_pure (g_store hGEL.E.fn hGEL.k2 hGEL.loc ga' gb fun h2 k2' hsb2 g2 => ?_)) (by with_unfolding_all rfl)))
        refine seg_execs_cons ?_
        have hgr : (m ("grouping" : Str)).map er = some (.ref t) := e4 _ List.mem_cons_self
        obtain ⟨w, f1, f2⟩ := map_er hgr
        have f2' := er_is_ref f2
        subst f2'
        obtain ⟨items2, hl2, he2⟩ := g2.list
        have hsz : h2.objs.size = s.heap.objs.size := hsb2.1
        refine sg_For (g_local (m := fun y => if y = ("last_interval" : Str) then some Value.none else m y) hGEL.E.fn hGEL.k3 (by decide) (by rw [hGEL.loc]; exact g2.ns) (show (if ("grouping" : Str) = "last_interval" then some Value.none else m "grouping") = some (.ref t) by rw [if_neg (by decide)]; exact f1)
          (wpAny_pyIter_list hl2 fun p => ?_)) (by intro _; with_unfolding_all rfl)
        have hx : ∀ b o, h2.get? b = some o → (h2.push { cls := .type "list_iterator", data := .fields #[.ref t, rawInt 0] }).get? b = some o := fun b o e => Heap.get?_push_of_some _ e
        have gx : GB C Lg t vs (fun y => if y = ("last_interval" : Str) then some Value.none else m y) { s with heap := h2.push { cls := .type "list_iterator", data := .fields #[.ref t, rawInt 0] }, gens := (s.setGen g .running).gens, toks := k2' } :=
          ⟨fun b o e => hx b o (g2.keep b o e), ⟨items2, hl2.at fun o e => hx _ o e, he2⟩, g2.ns.keeps hx⟩
        have mv : Mv Lg s.heap.objs.size (s.setGen g .running) { s with heap := h2.push { cls := .type "list_iterator", data := .fields #[.ref t, rawInt 0] }, gens := (s.setGen g .running).gens, toks := k2' } :=
          ⟨fun b o h1 h3 e => hx b o ((hsb2.2 b h1).trans e), rfl, rfl⟩
        have hitx : (h2.push { cls := .type "list_iterator", data := .fields #[.ref t, rawInt 0] }).IsListIter s.heap.objs.size t 0 := by
          rw [← hsz]; exact ⟨_, Heap.get?_push_size _ rfl, rfl, rfl⟩
        rw [show (Value.ref (Heap.objs h2).size) = .ref s.heap.objs.size by rw [hsz]]
        refine gen_L hGEL ga' (fs := _) rfl rfl (fun _ _ _ _ _ _ => rfl) (fun _ _ _ _ _ => rfl) (fun c => ?_) h0 (fun n s₀ s c hR => ?_) (fun n s₀ s c hR => ?_) hinner NN 0 _ _ _ 0 0 (by lia) rfl mv gx hitx (fun h => absurd rfl h) (fun h => absurd h (by decide))
        · exact hh
        · exact seg_leaf _ (seg_end _ hR)
        · exact seg_leaf _ (seg_end _ hR)
      · obtain ⟨i, x, hi, hx, hev, mv, good, hkap⟩ := hv
        have hij : i = 0 := by lia
        subst hij
        obtain ⟨w1, w2⟩ := good_OG good
        refine ⟨loc, _, ?_, gen_back S hsub ⟨_, List.mem_cons_self⟩ ⟨og, hog, hogg⟩ ⟨_, List.mem_cons_of_mem _ (List.mem_cons_of_mem _ List.mem_cons_self)⟩ (.inr rfl)
          hg n1 n2 n3 n4 d1 d2 d3 mv hb w1 w2 (PG := fun gs => gs.bare = true ∧ ∀ n, 0 + 1 + n = NN → n ≠ 0 → ∀ s'', GoodS C Lg s.heap.objs.size t vs (stg vs (0 + 1)) s'' → gs.Goes C.M A.in1 (Rp Lg s.heap.objs.size vs NN) (Yp C Lg s.heap.objs.size t vs NN) n (.send .none) s'') ⟨hb, fun n hn hn0 s'' hgood => ?_⟩⟩
        · rw [Option.map_some, hev]
          exact hK1 x hx _ (.inr ⟨Nat.succ_pos _, g, Lg, _, rfl⟩)
        · have hn' : 0 + 1 + n = 10000 := hn
          have hnm : n = 9999 := by lia
          subst hnm
          exact hkap hn0 s'' hgood
      · obtain ⟨i, hi, hnone, mv⟩ := hp
        have hij : i = 0 := by lia
        subst hij
        exact ⟨loc, rest, hK2 hnone, gen_rest S hsub ⟨_, List.mem_cons_of_mem _ (List.mem_cons_of_mem _ List.mem_cons_self)⟩ (.inr rfl) n2 n3 n4 mv (gs' := .finished) rfl hk⟩
    · obtain ⟨og, hog, hogg⟩ := S.get (a := ga) (P := OGen g) List.mem_cons_self
      obtain ⟨gs, hgs, hbare, hgoes⟩ := S.all (.gen g _) (List.mem_cons_of_mem _ List.mem_cons_self)
      obtain ⟨oL, hoL, hPL⟩ := S.get (a := Lg) (P := OG (stg vs j)) (List.mem_cons_of_mem _ (List.mem_cons_of_mem _ List.mem_cons_self))
      obtain ⟨oI, hoI, hPI, hI0, hIL, hIc⟩ := S.all (.obj it (OI (stg vs j) t)) (List.mem_cons_of_mem _ (List.mem_cons_of_mem _ (List.mem_cons_of_mem _ List.mem_cons_self)))
      obtain ⟨items, nn, gl, el, _⟩ := S.list (List.mem_append_right _ ht)
      have hnd : ((0, ga) :: (1, g) :: (0, Lg) :: (0, it) :: keys rest).Nodup := S.nd
      simp only [List.nodup_cons, List.mem_cons, not_or, Prod.mk.injEq, true_and] at hnd
      obtain ⟨⟨_, d1, d2, n1⟩, ⟨_, _, n2⟩, ⟨d3, n3⟩, n4, _⟩ := hnd
      obtain ⟨nm, qn, hcls, hdat, hsl⟩ := id hogg
      have hgd : GoodS C Lg it t vs (stg vs j) (s.setGen g .running) := OG_good S.keep ⟨items, isl gl, el⟩ ⟨oL, hoL, hPL⟩ ⟨oI, hoI, hPI, hIc⟩
      have hg : g < s.gens.size := (Array.getElem?_eq_some_iff.mp hgs).1
      have hsub : ∀ {a b c d : Ent}, Sub rest (a :: b :: c :: d :: rest) := Sub.skip (Sub.skip (Sub.skip (Sub.skip Sub.refl)))
      refine nextGen hh (S.ok.nolimit.keeps S.keep) hroom (n := NN - j) (P := Pp Lg it vs NN) (Y := Yp C Lg it t vs NN) ⟨og, nm, qn, hog, hcls, hdat, hsl⟩ hgs (hgoes (NN - j) (by lia) (by lia) _ hgd) (fun v s₁ gs' hb hv => ?_) (fun s₁ hp h' hk => ?_)
      · obtain ⟨i, x, hi, hx, hev, mv, good, hkap⟩ := hv
        have hij : i = j := by lia
        subst hij
        obtain ⟨m, hm⟩ : ∃ m, NN - i = m + 1 := ⟨NN - i - 1, by lia⟩
        rw [hm] at hkap
        obtain ⟨w1, w2⟩ := good_OG good
        refine ⟨loc, _, ?_, gen_back S hsub ⟨_, List.mem_cons_self⟩ ⟨og, hog, hogg⟩ ⟨_, List.mem_cons_of_mem _ (List.mem_cons_of_mem _ List.mem_cons_self)⟩ (.inl ⟨_, List.mem_cons_of_mem _ (List.mem_cons_of_mem _ (List.mem_cons_of_mem _ List.mem_cons_self))⟩)
          hg n1 n2 n3 n4 d1 d2 d3 mv hb w1 w2 (PG := fun gs => gs.bare = true ∧ ∀ n, i + 1 + n = NN → n ≠ 0 → ∀ s'', GoodS C Lg it t vs (stg vs (i + 1)) s'' → gs.Goes C.M A.in1 (Rp Lg it vs NN) (Yp C Lg it t vs NN) n (.send .none) s'') ⟨hb, fun n hn hn0 s'' hgood => ?_⟩⟩
        · rw [Option.map_some, hev]
          exact hK1 x hx _ (.inr ⟨Nat.succ_pos _, g, Lg, it, rfl⟩)
        · have hnm : n = m := by lia
          subst hnm
          exact hkap hn0 s'' hgood
      · obtain ⟨i, hi, hnone, mv⟩ := hp
        have hij : i = j := by lia
        subst hij
        exact ⟨loc, rest, hK2 hnone, gen_rest S hsub ⟨_, List.mem_cons_of_mem _ (List.mem_cons_of_mem _ List.mem_cons_self)⟩ (.inl ⟨_, List.mem_cons_of_mem _ (List.mem_cons_of_mem _ (List.mem_cons_of_mem _ List.mem_cons_self))⟩) n2 n3 n4 mv (gs' := .finished) rfl hk⟩
end
end
section
open Sem (wp)
set_option maxRecDepth 100000
set_option linter.unusedVariables false
section
variable {C : Cx} {A : Around} {env : Env} {loc : Loc} {led : Led}
theorem gen_make {fd : FuncData} {body : List Stmt} {t : Addr} {vs : List Int} {K : Value → Loc → Led → Prop} (hd : A.depth < 1000) (ho : ∃ o, C.h₀.get? 92 = some o ∧ o.data = .func fd) (hcode : ∀ s : Shared, (∀ b o, C.h₀.get? b = some o → s.heap.get? b = some o) → s.heap.CodeRec fd.code fd.qualname)
    (hco : fd.scope.isCoroutine = false) (hgen : fd.scope.isGenerator = true) (hkind : fd.scope.kind = .function) (hb : fd.body = .stmts body)
    (hcell : (fd.scope.names.all fun x => x.2 != .cell) = true) (hlk : fd.scope.names.lookup ("grouping" : Str) = some .local) (hclo : fd.closure = [])
    (hbind : ∀ v, bindArgs fd ⟨[v], []⟩ = pure [(("grouping" : Str), v)])
    (hK : ∀ ga d, GAt C A vs t ga fd body 0 d → K (.ref ga) loc (d ++ led)) : CallT C A env (.ref 92) [.ref t] loc led K := fun args' ha s S => by
  obtain ⟨x, rfl⟩ := erL1 ha
  simp only [List.map_cons, List.map_nil, List.cons.injEq, and_true] at ha
  rw [er_is_ref ha]
  obtain ⟨o, hoo, hdd⟩ := ho
  refine wpAny_call (codeAny_call_generator hd (S.keep _ _ hoo) hdd hco hgen hb (hcode s S.keep) ?_)
  rw [hbind]
  refine wpAny_pure ?_
  refine wpAny_newFunctionEnv (fun x hx => of_decide_eq_true (by have := List.all_eq_true.mp hcell x hx; simpa using this)) (fun x hx => by rw [List.mem_singleton.mp hx]; exact hlk) (fun h₁ hns hsb => ⟨(S.ok.nolimit.keeps S.keep).fresh _ hsb, ?_⟩) hkind
  have k1 : ∀ b o, s.heap.get? b = some o → h₁.get? b = some o := fun b o e => hsb.extBut b o (Nat.ne_of_lt (Heap.lt_size e)) (Heap.get?_push_of_some _ e)
  have hsz : h₁.objs.size = s.heap.objs.size + 1 := by rw [hsb.1, Heap.size_push]
  have k2 : ∀ b o, s.heap.get? b = some o → (h₁.push { cls := .type "generator", data := .fields #[.int s.gens.size 0, .str fd.name (s.toks + 1), .str fd.qualname (s.toks + 1 + 1)] }).get? b = some o := fun b o e => Heap.get?_push_of_some _ (k1 b o e)
  have henv : newEnv fd.scope s.heap.objs.size fd.globals fd.closure (fd.qualname ++ ".<locals>.") (some 92) fd.code none fd.builtins = fenv fd s.heap.objs.size 92 := rfl
  refine ⟨loc, _, hK h₁.objs.size _ (.inl ⟨rfl, s.gens.size, s.heap.objs.size, rfl⟩), ?_⟩
  rw [henv]
  obtain ⟨m, F, hm⟩ := S.fr
  have S0 : St C env loc led { s with gens := s.gens.push (.fresh (.func body (fenv fd s.heap.objs.size 92))), toks := s.toks + 1 + 1 + 1, heap := h₁.push { cls := .type "generator", data := .fields #[.int s.gens.size 0, .str fd.name (s.toks + 1), .str fd.qualname (s.toks + 1 + 1)] } } := by
    refine S.moves (fun _ => False) Sub.refl (fun a h => h.elim) (fun b o _ e => k2 b o e) (fun g P hm => ?_) (AllBare.push S.bare rfl) rfl
    obtain ⟨st, h1, _⟩ := S.all _ hm
    show (s.gens.push _)[g]? = s.gens[g]?
    rw [h1]
    have hlt := (Array.getElem?_eq_some_iff.mp h1).1
    rw [Array.getElem?_push_lt hlt, ← h1, Array.getElem?_eq_getElem hlt]
  have hfr := S.fresh_ne
  have hoL : ∃ o, h₁.get? s.heap.objs.size = some o ∧ OLoc [("grouping", some (.ref t)), ("last_interval", none), ("interval", none)] o ∧ NoCode o := by
    obtain ⟨o, es, ep, e1, e2, e3, e4⟩ := hns
    refine ⟨o, e1, ⟨es, ep, _, e2, e3, e4, fun p hp => ?_⟩, .inr fun vs e => by rw [e2] at e; cases e⟩
    simp only [List.mem_cons, List.not_mem_nil, or_false] at hp
    rcases hp with rfl | rfl | rfl <;> rfl
  obtain ⟨oL, e1, e2, e3⟩ := hoL
  have S1 := S0.more (e := .obj s.heap.objs.size (OLoc [("grouping", some (.ref t)), ("last_interval", none), ("interval", none)])) ⟨oL, Heap.get?_push_of_some _ e1, e2, S.base_le, Nat.ne_of_gt S.lt, e3⟩ fun k hk => by cases hk; exact hfr
  have S2 := S1.more (e := .gen s.gens.size (fun gs => gs = .fresh (.func body (fenv fd s.heap.objs.size 92)))) ⟨_, Array.getElem?_push_size .., rfl⟩ fun k hk => by
    cases hk
    intro x hx q
    rcases List.mem_cons.mp hx with rfl | hx
    · cases q
    · have := S.all x hx
      cases x with
      | obj a P => cases q
      | gen g P =>
        cases q
        obtain ⟨st, h1, _⟩ := this
        exact Nat.lt_irrefl _ (Array.getElem?_eq_some_iff.mp h1).1
      | code v q' => cases q
  refine S2.more (e := .obj h₁.objs.size (OGen s.gens.size)) ⟨_, Heap.get?_push_size _ rfl, ⟨_, _, rfl, rfl, rfl⟩, ?_, ?_, .inl (by simp)⟩ fun k hk => ?_
  · rw [hsz]; exact Nat.le_succ_of_le S.base_le
  · rw [hsz]; exact Nat.ne_of_gt (Nat.lt_succ_of_lt S.lt)
  · cases hk
    intro x hx q
    rcases List.mem_cons.mp hx with rfl | hx
    · cases q
    · rcases List.mem_cons.mp hx with rfl | hx
      · simp only [Ent.key, Option.some.injEq, Prod.mk.injEq, true_and] at q
        rw [hsz] at q
        exact absurd q (Nat.ne_of_lt (Nat.lt_succ_self _))
      · have := S.all x hx
        cases x with
        | obj a P =>
          simp only [Ent.key, Option.some.injEq, Prod.mk.injEq, true_and] at q
          obtain ⟨o', h1, _⟩ := this
          have := Heap.lt_size h1
          rw [q, hsz] at this
          exact absurd this (Nat.not_lt.mpr (Nat.le_succ _))
        | gen g P => cases q
        | code v q' => cases q
end

set_option maxHeartbeats 4000000 in
theorem gen_call {C : Cx} (H : CxP C) {A : Around} {env : Env} {loc : Loc} {led : Led} {t : Addr} {vs : List Int} {K : Value → Loc → Led → Prop} (fit : Fit A 3) (h0 : vs[0]? ≠ some 0)
    (hK : ∀ ga G d, GenC C A env vs t ga G → G 0 d → K (.ref ga) loc (d ++ led)) : CallT C A env (.ref 92) [.ref t] loc led K := by
  refine gen_make (vs := vs) (by have := fit.dep; lia) ⟨_, H.k 92 _ rfl, rfl⟩ (fun s hk => ⟨91, _, _, _, rfl, hk _ _ (H.k 91 _ rfl), rfl, rfl⟩) rfl rfl rfl rfl (by kernel_rfl) rfl rfl (fun v => rfl) (fun ga d hd => hK ga _ d (gen_next fit (fun L => ?_) h0 rfl rfl) hd)
  exact ⟨EnvOk.of H rfl rfl rfl (by kernel_rfl) (by kernel_rfl) rfl, rfl, rfl, rfl, rfl, rfl, rfl⟩
end
section
open PySem.Builtin PySem.Builtin.Str PySem.NumText
open PySem.Builtin.Int (intBits)
set_option maxRecDepth 100000
set_option linter.unusedVariables false
/-- the groups from the right -/
noncomputable def lgr (vs : List Int) (cs : List Nat) : Nat → Nat → Nat → List (List Nat)
  | 0, _, _ => []
  | f + 1, j, n => match gitem vs j with
    | none => if n = 0 then [] else [cs.take n]
    | some x => if n = 0 then [] else ((cs.drop (n - x.toNat)).take (n - (n - x.toNat))) :: lgr vs cs f (j + 1) (n - x.toNat)
theorem lgr_fuel {vs : List Int} {cs : List Nat} (hpos : ∀ j x, gitem vs j = some x → 1 ≤ x ∧ x ≤ 100000) : ∀ (f g j n : Nat), n < f → n < g → lgr vs cs f j n = lgr vs cs g j n
  | 0, g, j, n, h, _ => absurd h (Nat.not_lt_zero _)
  | f + 1, 0, j, n, _, h => absurd h (Nat.not_lt_zero _)
  | f + 1, g + 1, j, n, h1, h2 => by
    unfold lgr
    cases hy : gitem vs j with
    | none => rfl
    | some y =>
      simp only
      by_cases hn : n = 0
      · rw [if_pos hn, if_pos hn]
      · rw [if_neg hn, if_neg hn, lgr_fuel hpos f g (j + 1) (n - y.toNat) (by have := hpos j y hy; lia) (by have := hpos j y hy; lia)]
theorem sv_snoc {l : List (List Nat)} {x : List Nat} : sv (l ++ [x]) = sv l ++ [.str (tx x) 0] := List.map_append ..
theorem sv_length {l : List (List Nat)} : (sv l).length = l.length := List.length_map ..

section
variable {C : Cx} {A : Around} {env : Env} {loc : Loc} {led : Led}
theorem sub_swap {a b c : Led} : Sub (a ++ (b ++ c)) (b ++ (a ++ c)) := ⟨[], by
  rw [List.append_nil, ← List.append_assoc, ← List.append_assoc]
  exact List.Perm.append_right c List.perm_append_comm⟩
theorem sub_app {d a b : Led} (h : Sub a b) : Sub (d ++ a) (d ++ b) := by
  obtain ⟨r, h⟩ := h
  exact ⟨r, by rw [List.append_assoc]; exact List.Perm.append_left d h⟩
/-- a loop over a generator of _grouping_intervals -/
theorem X_ForGen {x : Str} {px pos : Pos} {iter : Expr} {body orelse : List Stmt} {K : Flow → Loc → Led → Prop} (vs : List Int) (t : Addr) (tl : Led) (I : Nat → Nat → Loc → Led → Prop)
    (h : EV C A env iter loc led (fun v l d => ∃ ga G dg pre n, v = .ref ga ∧ GenC C A env vs t ga G ∧ G 0 dg ∧ Sub (pre ++ (dg ++ tl)) d ∧ I 0 n l pre))
    (ht : Ent.obj t (OList (iv vs)) ∈ tl) (hN : ∀ j n l pre, I j n l pre → j < NN)
    (item : ∀ j n l pre y Z, I j n l pre → gitem vs j = some y → Sub tl Z → SN C A env x (.int y 0) l (pre ++ Z) (fun l d => EXS C A env body l d (fun f l d => match f with
      | .next | .cont => ∃ m pre', m < n ∧ Sub (pre' ++ Z) d ∧ I (j + 1) m l pre'
      | .brk => K .next l d
      | .ret v => K (.ret v) l d)))
    (fin : ∀ j n l pre, I j n l pre → gitem vs j = none → EXS C A env orelse l (pre ++ tl) K)
    (hs : ∀ x, foldedSetIterable iter env x = pure x := by intro _; with_unfolding_all rfl) : EX C A env (.For (.Name x px) iter body orelse pos) loc led K := by
  refine X_ForG (fun a n l d => ∃ G dg j pre, GenC C A env vs t a G ∧ G j dg ∧ Sub (pre ++ (dg ++ tl)) d ∧ I j n l pre) (h.mono fun v l d ⟨ga, G, dg, pre, n, hv, hG, hd, hsub, hI⟩ x' hx' s S => ?_) (fun a n l d ⟨G, dg, j, pre, hG, hd, hsub, hI⟩ => ?_) hs
  · rw [er_is_ref (hx'.trans hv)]
    have S' := S.drop (Sub.trans (sub_swap (a := dg) (b := pre) (c := tl)) hsub)
    obtain ⟨g, hg⟩ := hG.iter 0 dg _ l s hd S'
    exact wpAny_pyIter_gen hg ⟨l, d, ⟨ga, n, rfl, G, dg, 0, pre, hG, hd, hsub, hI⟩, S⟩
  · refine Tri.dropTo (Sub.trans (sub_swap (a := dg) (b := pre) (c := tl)) hsub) ?_
    refine hG.next j dg _ l _ (hN _ _ _ _ hI) hd (List.mem_append_right _ ht) (fun y hy d' hd' => ?_) (fun hnone => fin j n l pre hI hnone)
    have hi := item j n l pre y (d' ++ tl) hI hy ⟨d', List.perm_append_comm⟩
    refine ASG_name fun v' hv' => Tri.dropTo (sub_swap (a := pre) (b := d') (c := tl)) ((hi v' hv').mono fun _ l₁ d₁ h₁ => h₁.mono fun f l₂ d₂ h₂ => ?_)
    cases f with
    | next => obtain ⟨m, pre', hm, hs', hI'⟩ := h₂; exact ⟨m, hm, G, d', j + 1, pre', hG, hd', hs', hI'⟩
    | cont => obtain ⟨m, pre', hm, hs', hI'⟩ := h₂; exact ⟨m, hm, G, d', j + 1, pre', hG, hd', hs', hI'⟩
    | brk => exact h₂
    | ret v => exact h₂
end

set_option maxHeartbeats 4000000 in
theorem lgroups {C : Cx} (H : CxP C) {cs : List Nat} {vs : List Int} {rw : Addr} (hcs : cs.length ≤ 5000) (h0 : vs[0]? ≠ some 0) (hpos : ∀ j x, gitem vs j = some x → 1 ≤ x ∧ x ≤ 100000) {A : Around} {env : Env} {loc : Loc} {led : Led} {K : Value → Loc → Led → Prop} (fit : Fit A 8)
    (hrow : Ent.obj rw (OList (iv vs)) ∈ led) (hK : ∀ g, K (.ref g) loc (.obj g (OList (sv (lgr vs cs (cs.length + 1) 0 cs.length))) :: led)) : CallT C A env (.ref 106) [.str (tx cs) 0, .ref rw] loc led K := by
  refine C_def (loc' := [("text", some (.str (tx cs) 0)), ("row", some (.ref rw)), ("groups", none), ("at", none), ("size", none)]) ["text", "row"] ["groups", "at", "size"] fit.lt
    (FnOk.of H (f := 106) (c := 105) rfl rfl rfl rfl rfl rfl rfl rfl rfl rfl rfl) (fun args' ha s S => ?_) rfl rfl (by kernel_rfl) (fun L => ?_)
  · obtain ⟨x, y, rfl⟩ := erL2 ha
    exact BindsTo.of_eq (by rfl)
  · refine with_env H fit.deeper [("len", .builtin "len"), ("_grouping_intervals", .ref 92), ("max", .builtin "max")] [] rfl rfl rfl (by kernel_rfl) (by kernel_rfl) rfl (fun hE fit' => ?_)
    have hz : cs.length ≤ sizeLine := Nat.le_trans hcs (by decide)
    repeat tb_start
    refine B_len_str hz ?_
    repeat tb_start
    rename_i gr _
    refine X_ForGen vs rw led (fun j n l pre => ∃ (atv : Int) (x1 : Option Value) (gl : List (List Nat)),
      l = ([("text", some (.str (tx cs) 0)), ("row", some (.ref rw)), ("groups", some (.ref gr)), ("at", some (.int atv 0)), ("size", x1)] : Loc) ∧ pre = [.obj gr (OList (sv gl)), .obj env.locals (OLoc loc)] ∧
      atv.toNat = n ∧ j + n ≤ cs.length ∧ gl.length ≤ j ∧ gl ++ lgr vs cs (n + 1) j n = lgr vs cs (cs.length + 1) 0 cs.length) ?_ hrow (fun j n l pre ⟨_, _, _, _, _, _, h, _⟩ => by have : NN = 10000 := rfl; lia) ?_ ?_
    · repeat tb_start
      refine gen_call H (fit'.mono (by decide)) h0 (fun ga G d hG hd => ?_)
      repeat tb_start
      refine ⟨ga, G, d, [.obj gr (OList []), .obj env.locals (OLoc loc)], cs.length, rfl, hG, hd, ?_, ?_⟩
      · exact Sub.trans (sub_swap (a := [.obj gr (OList []), .obj env.locals (OLoc loc)]) (b := d) (c := led)) (sub_app (by simp only [List.cons_append, List.nil_append]; wtm_at "lwsub"))
      · exact ⟨_, _, [], rfl, rfl, Int.toNat_natCast _, by lia, by simp, rfl⟩
    · rintro j n l pre y Z ⟨atv, x1, gl, rfl, rfl, hat, hj, hgl, hsum⟩ hy hZ
      simp only [List.cons_append, List.nil_append]
      have hY := hpos j y hy
      repeat tb_start
      refine dec_ite (fun hle => ?_) (fun hle => ?_)
      · repeat tb_start
        have hn : n = 0 := by lia
        subst hn
        rw [show lgr vs cs (0 + 1) j 0 = [] by unfold lgr; rw [hy]; rfl, List.append_nil] at hsum
        rw [← hsum] at hK
        exact ⟨_, Sub.pick (Pick.miss Pick.hit) (Sub.pick Pick.hit hZ), hK gr⟩
      · repeat tb_start
        refine B_max2 fit'.hd ?_
        have hn1 : 0 < n := by lia
        have hav : atv = (n : Int) := by lia
        have hmx : (if atv - y > 0 then atv - y else 0) = ((n - y.toNat : Nat) : Int) := by split <;> lia
        rw [hmx]
        repeat tb_start
        rw [hav]
        refine SLC_str (n - y.toNat) n .int .int ⟨by lia, by lia, hz⟩ ?_
        repeat tb_start
        refine B_append (vs := sv gl) (by wtm_at "lwupd") (by rw [sv_length]; lia) ?_
        rw [← sv_snoc]
        repeat tb_start
        rw [show lgr vs cs (n + 1) j n = ((cs.drop (n - y.toNat)).take (n - (n - y.toNat))) :: lgr vs cs n (j + 1) (n - y.toNat) by rw [lgr, hy]; simp only; rw [if_neg (by lia)]] at hsum
        refine ⟨n - y.toNat, _, by lia, ?_, _, _, gl ++ [(cs.drop (n - y.toNat)).take (n - (n - y.toNat))], rfl, rfl, by lia, by lia, by rw [List.length_append, List.length_singleton]; lia, ?_⟩
        · simp only [List.cons_append, List.nil_append]
          wtm_at "lwsub"
        · rw [List.append_assoc, List.singleton_append, ← hsum, lgr_fuel hpos (n - y.toNat + 1) n (j + 1) (n - y.toNat) (by lia) (by lia)]
    · rintro j n l pre ⟨atv, x1, gl, rfl, rfl, hat, hj, hgl, hsum⟩ hnone
      simp only [List.cons_append, List.nil_append]
      repeat tb_start
      refine dec_ite (fun hgt => ?_) (fun hgt => ?_)
      · repeat tb_start
        have hav : atv = (n : Int) := by lia
        rw [hav]
        refine SLC_str 0 n .none' .int ⟨by lia, by lia, hz⟩ ?_
        repeat tb_start
        refine B_append (vs := sv gl) (by wtm_at "lwupd") (by rw [sv_length]; lia) ?_
        rw [← sv_snoc]
        repeat tb_start
        rw [show lgr vs cs (n + 1) j n = [cs.take n] by rw [lgr, hnone]; simp only; rw [if_neg (by lia)]] at hsum
        rw [List.drop_zero, Nat.sub_zero, hsum]
        exact ⟨_, by wtm_at "lwsub", hK gr⟩
      · repeat tb_start
        have hn : n = 0 := by lia
        subst hn
        rw [show lgr vs cs (0 + 1) j 0 = [] by unfold lgr; rw [hnone]; rfl, List.append_nil] at hsum
        rw [hsum]
        exact ⟨_, by wtm_at "lwsub", hK gr⟩
end
section
open PySem.Builtin.Int (intBits)
set_option maxRecDepth 100000
set_option linter.unusedVariables false
/-- a source of items, by its iterator's object -/
structure Src (C : Cx) (A : Around) (d0 : Led) (P : Nat → Obj → Prop) (n : Nat) (w : Nat → Value) : Prop where
  item : ∀ env loc led led' it k (K : Option Value → Loc → Led → Prop), (∀ e ∈ d0, e ∈ led) → k < n → LUpd it (P (k + 1)) (P k) led led' → K (some (w k)) loc led' → NX C A env it loc led K
  fin : ∀ env loc led led' it (K : Option Value → Loc → Led → Prop), (∀ e ∈ d0, e ∈ led) → Pick (.obj it (P n)) led led' → K none loc led' → NX C A env it loc led K
  self : ∀ env loc led it k s (Q : Value → Shared → Prop) (E : Value → Shared → Prop), Ent.obj it (P k) ∈ led → St C env loc led s → Q (.ref it) s → wpAny C.M A (pyIter (.ref it)) Q E s

theorem Src.list {C : Cx} {A : Around} {d0 : Led} {t : Addr} {vs : List Value} (hA : A.handled = none) (ht : Ent.obj t (OList vs) ∈ d0) : Src C A d0 (fun k => OListIter t k) vs.length (fun k => vs.getD k .none) where
  item := fun env loc led led' it k K h0 hk hu hK => N_list_item hu (h0 _ ht) (by rw [List.getElem?_eq_getElem hk, List.getD_eq_getElem?_getD, List.getElem?_eq_getElem hk]; rfl) hK
  fin := fun env loc led led' it K h0 hp hK => N_list_end hA hp (h0 _ ht) (List.getElem?_eq_none (Nat.le_refl _)) hK
  self := fun env loc led it k s Q E hm S hQ => by
    obtain ⟨o, ho, hp⟩ := S.get hm
    exact wpAny_pyIter_listiter ⟨o, ho, hp.1, hp.2⟩ hQ
theorem Src.range {C : Cx} {A : Around} {d0 : Led} {a : Int} {n : Nat} (hA : A.handled = none) : Src C A d0 (fun k => ORangeIter (a + k) ((n : Int) - k) 1) n (fun k => .int (a + k) 0) where
  item := fun env loc led led' it k K h0 hk hu hK => by
    refine N_range_item (x := a + (k : Int)) (left := (n : Int) - (k : Int)) (step := 1) (led' := led') ?_ (by omega) hK
    rw [show (a + (k : Int) + 1) = a + ((k + 1 : Nat) : Int) by omega, show ((n : Int) - k - 1) = (n : Int) - ((k + 1 : Nat) : Int) by omega]
    exact hu
  fin := fun env loc led led' it K h0 hp hK => N_range_end hA hp (by omega) hK
  self := fun env loc led it k s Q E hm S hQ => by
    obtain ⟨o, ho, hp⟩ := S.get hm
    exact wpAny_pyIter_rangeiter (show IsRangeIter s.heap it _ _ _ from hp ▸ ho) hQ

section
variable {C : Cx} {A : Around} {env : Env} {loc : Loc} {led : Led}
theorem St.back {s s' : Shared} {env' : Env} {loc' : Loc} {led' d : Led} (S : St C env loc led s) (S' : St C env' loc' led' s') (h : Sub (.obj env.locals (OLoc loc) :: d) led') : St C env loc (.obj env'.locals (OLoc loc') :: d) s' := by
  have S₀ := S.leave S' h
  obtain ⟨m, F, hm⟩ := S'.fr
  obtain ⟨o, es, ep, e1, e2, e3, e4⟩ := F.ns
  have hne : env'.locals ≠ env.locals := by
    obtain ⟨_, _, _, _, h4, _⟩ := S'.all _ (h.mem _ List.mem_cons_self)
    exact Ne.symm h4
  refine S₀.more (e := .obj env'.locals (OLoc loc')) ⟨o, e1, ⟨es, ep, m, e2, e3, e4, hm⟩, F.above, hne, .inr fun vs e => by rw [e2] at e; cases e⟩ fun k hk => ?_
  cases hk
  intro x hx q
  have := S'.all x (h.mem x (List.mem_cons_of_mem _ hx))
  cases x with
  | obj a P =>
    obtain ⟨_, _, _, _, h4, _⟩ := this
    simp only [Ent.key, Option.some.injEq, Prod.mk.injEq, true_and] at q
    exact h4 q
  | gen g P => cases q
  | code v q' => cases q
theorem St.gone {s : Shared} {a : Addr} {P : Obj → Prop} {d : Led} (S : St C env loc (.obj a P :: d) s) {h' : Heap} (hs : Heap.SameBut a s.heap h') : St C env loc d { s with heap := h' } :=
  S.loses Pick.hit (s' := { s with heap := h' }) hs.extBut rfl rfl

/-- what one turn's tests and element give -/
noncomputable def TURN (C : Cx) (A : Around) (env : Env) (x : Str) (ifs : List Expr) (elt : Expr) (w : Value) (g : Option Value) (dd : Led) : Prop :=
  match ifs with
  | [] => EV C A env elt [(x, some w)] dd (fun y lc d' => g = some y ∧ (∃ u, lc = [(x, u)]) ∧ Sub dd d')
  | [c] => IT C A env c [(x, some w)] dd (fun b lc d' => if b = true then EV C A env elt lc d' (fun y lc d' => g = some y ∧ (∃ u, lc = [(x, u)]) ∧ Sub dd d') else g = none ∧ (∃ u, lc = [(x, u)]) ∧ Sub dd d')
  | _ => False

noncomputable def gather (g : Nat → Option Value) (k : Nat) : List Value := (List.range k).filterMap g
theorem gather_succ {g : Nat → Option Value} {k : Nat} : gather g (k + 1) = gather g k ++ (g k).toList := by
  unfold gather
  rw [List.range_succ, List.filterMap_append]
  cases h : g k <;> simp [h]
theorem gather_len {g : Nat → Option Value} {k : Nat} : (gather g k).length ≤ k := by
  unfold gather
  exact Nat.le_trans (List.length_filterMap_le _ _) (by simp)

theorem comp_loop {elt iter : Expr} {x : Str} {px : Pos} {ifs : List Expr} {scope : Scope} {cl : List (Str × Addr)} {pos : Pos} {E : Value → Shared → Prop} {s₂ : Shared} {l : Loc} {d0 : Led} {it : Addr} {P : Nat → Obj → Prop} {n : Nat} {w : Nat → Value} {g : Nat → Option Value}
    {RR : Value → Addr → Result → Shared → Prop}
    (hcell : ∀ y ∈ scope.names, y.2 ≠ .cell) (hkind : scope.kind = .function) (hx : scope.names.lookup x = some .local) (hxd : (x == ("__debug__" : Str)) = false)
    (src : Src C A d0 P n w) (hn : n ≤ sizeLine) (S₂ : St C env l (.obj it (P 0) :: d0) s₂)
    (turn : ∀ Lc acc k ys, k < n → TURN C A (compEnvC scope cl Lc env) x ifs elt (w k) (g k) (.obj acc (OList ys) :: .obj it (P (k + 1)) :: .obj env.locals (OLoc l) :: d0))
    (hR : ∀ acc Lc u s', St C env l (.obj Lc (OLoc [(x, u)]) :: .obj acc (OList (gather g n)) :: d0) s' → RR (.ref acc) Lc (.ok .next) s') :
    wpAny C.M A (newList []) (fun acc s₃ => wpAny C.M A (newFunctionEnv scope env.globals cl [] env.qual none .none (some env)) (fun cenv s₄ =>
      codeAny C.M A (.compStart (.ListComp elt [⟨.Name x px, iter, ifs, 0⟩] scope pos) 0 (.ref it) acc { cenv with scope := relabel scope env }) (RR acc cenv.locals) s₄) E s₃) E s₂ := by
  refine wpAny_newObj_type ?_
  have S₃ := S₂.push (P := OList []) (o := { cls := .type "list", data := .seq ([] : List Value).toArray }) ⟨_, _, rfl, rfl⟩ rfl (h' := s₂.heap.push { cls := .type "list", data := .seq ([] : List Value).toArray }) rfl
  generalize s₂.heap.objs.size = acc at S₃
  refine wpAny_newFunctionEnv hcell (fun y hy => by simp at hy) (fun h₁ hns hsb => ?_) hkind
  dsimp only at hns hsb ⊢
  generalize hH : s₂.heap.push { cls := .type "list", data := .seq ([] : List Value).toArray } = H at hns hsb S₃ ⊢
  have S₄ : St C (compEnvC scope cl H.objs.size env) [(x, none)] (.obj env.locals (OLoc l) :: .obj acc (OList []) :: .obj it (P 0) :: d0) { s₂ with heap := h₁, toks := s₂.toks + ([] : List (Str × Value)).length } := by
    refine S₃.enter (s' := { s₂ with heap := h₁, toks := s₂.toks + ([] : List (Str × Value)).length }) (fun b o e => hsb.extBut b o (Nat.ne_of_lt (Heap.lt_size e)) (Heap.get?_push_of_some _ e)) rfl hns (fun p hp => ?_) ?_ (by simp) (fun p hp => ?_) rfl rfl
    · rw [List.mem_singleton.mp hp]; rfl
    · simp [compEnvC, relabel, hkind]
    · rw [List.mem_singleton.mp hp]; exact ⟨lookup_relabel_local hx, hxd⟩
  generalize H.objs.size = Lc at S₄
  have S₅ : St C (compEnvC scope cl Lc env) [(x, none)] (.obj acc (OList []) :: .obj it (P 0) :: .obj env.locals (OLoc l) :: d0) { s₂ with heap := h₁, toks := s₂.toks + ([] : List (Str × Value)).length } :=
    S₄.drop (Sub.pick (Pick.miss Pick.hit) (Sub.pick (Pick.miss Pick.hit) Sub.refl))
  generalize ({ s₂ with heap := h₁, toks := s₂.toks + ([] : List (Str × Value)).length } : Shared) = s₅ at S₅
  have loop : codeAny C.M A (.compLoop (.ListComp elt [⟨.Name x px, iter, ifs, 0⟩] scope pos) 0 (.ref it) (.ref acc) (compEnvC scope cl Lc env)) (RR (.ref acc) Lc) s₅ := by
    refine codeAny_compLoop_tests (fun m s => ∃ k u, m = n - k ∧ k ≤ n ∧ St C (compEnvC scope cl Lc env) [(x, u)] (.obj acc (OList (gather g k)) :: .obj it (P k) :: .obj env.locals (OLoc l) :: d0) s) ?_ n ⟨0, none, rfl, Nat.zero_le _, S₅⟩
    rintro m s ⟨k, u, rfl, hk, S⟩
    have h0 : ∀ e ∈ d0, e ∈ ((.obj acc (OList (gather g k)) :: .obj it (P k) :: .obj env.locals (OLoc l) :: d0 : Led)) := fun e he => List.mem_cons_of_mem _ (List.mem_cons_of_mem _ (List.mem_cons_of_mem _ he))
    by_cases hlt : k < n
    · refine wpAny_mono (src.item _ _ _ _ it k (fun o l' d' => o = some (w k) ∧ l' = [(x, u)] ∧ d' = (.obj acc (OList (gather g k)) :: .obj it (P (k + 1)) :: .obj env.locals (OLoc l) :: d0 : Led)) h0 hlt (LUpd.miss LUpd.hit) ⟨rfl, rfl, rfl⟩ s S) (fun o s₁ ⟨l₁, d₁, ⟨ho, hl, hd⟩, S₁⟩ => ?_) fun _ _ e => e.elim
      subst hl hd
      cases o with
      | none => cases ho
      | some v =>
        have hv : er v = w k := Option.some.inj ho
        have hsn : SN C A (compEnvC scope cl Lc env) x (w k) [(x, u)] (.obj acc (OList (gather g k)) :: .obj it (P (k + 1)) :: .obj env.locals (OLoc l) :: d0) (fun l' d' => l' = [(x, some (w k))] ∧ d' = (.obj acc (OList (gather g k)) :: .obj it (P (k + 1)) :: .obj env.locals (OLoc l) :: d0 : Led)) :=
          SN_local LSet.hit ⟨rfl, rfl⟩
        refine PyProof.Rows.assign_Name (wpAny_mono (hsn v hv s₁ S₁) (fun _ s₂ ⟨l₂, d₂, ⟨hl₂, hd₂⟩, S₂⟩ => ?_) fun _ _ e => e.elim)
        subst hl₂ hd₂
        have ht := turn Lc acc k (gather g k) hlt
        have again : ∀ y lc d' s₃, g k = some (er y) → (∃ u, lc = [(x, u)]) → Sub (.obj acc (OList (gather g k)) :: .obj it (P (k + 1)) :: .obj env.locals (OLoc l) :: d0) d' → St C (compEnvC scope cl Lc env) lc d' s₃ →
            wpAny C.M A (call (.builtin "list.append") [.ref acc, y]) (fun _ s₅ => ∃ m, m < n - k ∧ ∃ k' u, m = n - k' ∧ k' ≤ n ∧ St C (compEnvC scope cl Lc env) [(x, u)] (.obj acc (OList (gather g k')) :: .obj it (P k') :: .obj env.locals (OLoc l) :: d0) s₅) (fun _ _ => False) s₃ := by
          rintro y lc d' s₃ hg ⟨u', rfl⟩ hsub S₃
          have hap := B_append (C := C) (A := A) (env := compEnvC scope cl Lc env) (loc := [(x, u')]) (v := er y) (K := fun _ l' d'' => l' = [(x, u')] ∧ d'' = (.obj acc (OList (gather g k ++ [er y])) :: .obj it (P (k + 1)) :: .obj env.locals (OLoc l) :: d0 : Led)) (LUpd.hit (P := OList (gather g k))) (Nat.le_trans gather_len (by omega)) ⟨rfl, rfl⟩
          refine wpAny_mono (hap [.ref acc, y] rfl s₃ (S₃.drop hsub)) (fun _ s₅ ⟨l₅, d₅, ⟨hl₅, hd₅⟩, S₅⟩ => ?_) fun _ _ e => e.elim
          subst hl₅ hd₅
          refine ⟨n - (k + 1), by omega, k + 1, u', rfl, hlt, ?_⟩
          rw [gather_succ, hg]; exact S₅
        match ifs, ht with
        | [], ht =>
          refine wpAny_tests_nil ?_
          rw [if_pos rfl]
          exact wpAny_mono (ht s₂ S₂) (fun y s₃ ⟨lc, d', ⟨h1, h2, h3⟩, S₃⟩ => wpAny_mono (again y lc d' s₃ h1 h2 h3 S₃) (fun _ _ e => e) fun _ _ e => e.elim) fun _ _ e => e.elim
        | [c], ht =>
          refine wpAny_tests_one (wpAny_mono (ht s₂ S₂) (fun b s₃ ⟨lc, d', h, S₃⟩ => ?_) fun _ _ e => e.elim)
          cases b with
          | true =>
            simp only [id, if_true] at h ⊢
            exact wpAny_mono (h s₃ S₃) (fun y s₄ ⟨lc, d', ⟨h1, h2, h3⟩, S₄⟩ => wpAny_mono (again y lc d' s₄ h1 h2 h3 S₄) (fun _ _ e => e) fun _ _ e => e.elim) fun _ _ e => e.elim
          | false =>
            simp only [id, Bool.false_eq_true, if_false] at h ⊢
            obtain ⟨h1, ⟨u', rfl⟩, h3⟩ := h
            refine ⟨n - (k + 1), by omega, k + 1, u', rfl, hlt, ?_⟩
            rw [gather_succ, h1, Option.toList_none, List.append_nil]
            exact S₃.drop h3
        | _ :: _ :: _, ht => exact ht.elim
    · have e : k = n := by omega
      subst e
      refine wpAny_mono (src.fin _ _ _ _ it (fun o l' d' => o = none ∧ l' = [(x, u)] ∧ d' = (.obj acc (OList (gather g k)) :: .obj env.locals (OLoc l) :: d0 : Led)) h0 (Pick.miss Pick.hit) ⟨rfl, rfl, rfl⟩ s S) (fun o s₁ ⟨l₁, d₁, ⟨ho, hl, hd⟩, S₁⟩ => ?_) fun _ _ e => e.elim
      subst hl hd
      cases o with
      | some v => cases ho
      | none => exact hR acc Lc u s₁ (S₂.back S₁ (Sub.pick (Pick.miss Pick.hit) Sub.refl))
  exact codeAny_compStart_list loop (src.self _ _ _ it 0 s₅ _ _ (List.mem_cons_of_mem _ List.mem_cons_self) S₅ loop)
end
end
section
open PySem.Builtin.Int (intBits)
set_option maxRecDepth 100000
set_option linter.unusedVariables false
section
variable {C : Cx} {A : Around} {env : Env} {loc : Loc} {led : Led}
noncomputable def CB (C : Cx) (A : Around) (env : Env) (scope : Scope) (cl : List (Str × Addr)) (x : Str) (ifs : List Expr) (elt : Expr) (l : Loc) (d0 : Led) (P : Addr → Nat → Obj → Prop) (n : Nat) (w : Nat → Value) (g : Nat → Option Value) : Prop :=
  ∀ Lc acc it k ys, k < n → TURN C A (compEnvC scope cl Lc env) x ifs elt (w k) (g k) (.obj acc (OList ys) :: .obj it (P it (k + 1)) :: .obj env.locals (OLoc l) :: d0)

inductive COMPS (C : Cx) (A : Around) (env : Env) (scope : Scope) (cl : List (Str × Addr)) (x : Str) (ifs : List Expr) (elt : Expr) (v : Value) (l : Loc) (d : Led) (Kf : List Value → Led → Prop) : Prop
  | list (t : Addr) (vs : List Value) (g : Nat → Option Value) (hv : v = .ref t) (hm : Ent.obj t (OList vs) ∈ d) (hn : vs.length ≤ sizeLine) (hb : CB C A env scope cl x ifs elt l d (fun _ k => OListIter t k) vs.length (fun k => vs.getD k .none) g) (hK : Kf (gather g vs.length) d)
  | range (r : Addr) (a : Int) (n : Nat) (g : Nat → Option Value) (hv : v = .ref r) (hm : Ent.obj r (ORange a (a + n) 1) ∈ d) (ha : 0 ≤ a ∧ a ≤ 1000000) (hn : n ≤ 1000000) (hb : CB C A env scope cl x ifs elt l d (fun _ k => ORangeIter (a + k) ((n : Int) - k) 1) n (fun k => .int (a + k) 0) g) (hK : Kf (gather g n) d)

theorem comp_src {elt iter : Expr} {x : Str} {px : Pos} {ifs : List Expr} {scope : Scope} {cl : List (Str × Addr)} {pos : Pos} {E : Value → Shared → Prop} {s : Shared} {l : Loc} {d : Led} {v x' : Value} {Kf : List Value → Led → Prop} {RR : Value → Addr → Result → Shared → Prop} (hA : A.handled = none)
    (hcell : ∀ y ∈ scope.names, y.2 ≠ .cell) (hkind : scope.kind = .function) (hx : scope.names.lookup x = some .local) (hxd : (x == ("__debug__" : Str)) = false)
    (h : COMPS C A env scope cl x ifs elt v l d Kf) (hx' : er x' = v) (S : St C env l d s)
    (hR : ∀ ys d', Kf ys d' → ∀ acc Lc u s', St C env l (.obj Lc (OLoc [(x, u)]) :: .obj acc (OList ys) :: d') s' → RR (.ref acc) Lc (.ok .next) s') :
    wpAny C.M A (pyIter x') (fun it s₂ => wpAny C.M A (newList []) (fun acc s₃ => wpAny C.M A (newFunctionEnv scope env.globals cl [] env.qual none .none (some env)) (fun cenv s₄ =>
      codeAny C.M A (.compStart (.ListComp elt [⟨.Name x px, iter, ifs, 0⟩] scope pos) 0 it acc { cenv with scope := relabel scope env }) (RR acc cenv.locals) s₄) E s₃) E s₂) E s := by
  cases h with
  | list t vs g hv hm hn hb hK =>
    rw [er_is_ref (hx'.trans hv)]
    obtain ⟨items, nn, gi, e, hs⟩ := S.list hm
    refine wpAny_pyIter_list (isl gi) ?_
    have S₂ := S.push (P := OListIter t 0) (o := { cls := .type "list_iterator", data := .fields #[.ref t, rawInt 0] }) ⟨rfl, rfl⟩ rfl rfl (.inl (by simp))
    exact comp_loop hcell hkind hx hxd (P := fun k => OListIter t k) (n := vs.length) (w := fun k => vs.getD k .none) (g := g) (Src.list hA hm) hn S₂ (fun Lc acc k ys hk => hb Lc acc _ k ys hk) (fun acc Lc u s' S' => hR _ _ hK acc Lc u s' S')
  | range r a n g hv hm ha hn hb hK =>
    rw [er_is_ref (hx'.trans hv)]
    obtain ⟨o, ho, t, u, w, rfl⟩ := S.get hm
    have hsz : Builtin.Range.rangeSize a (a + n) 1 = (n : Int) := by rw [rangeSize_one]; split <;> lia
    have hsm : Builtin.Range.small a (a + n) 1 = true := small_one (by lia) (by lia) (by lia) (by lia)
    refine wpAny_pyIter_range ho hsm ?_
    have S₂ := S.push (P := ORangeIter (a + ((0 : Nat) : Int)) ((n : Int) - ((0 : Nat) : Int)) 1) (o := { cls := .type "range_iterator", data := .fields #[rawInt a, rawInt (Builtin.Range.rangeSize a (a + n) 1), rawInt 1] }) (by
      show _ = _
      rw [hsz]; simp) rfl rfl (.inl (by simp))
    exact comp_loop hcell hkind hx hxd (P := fun k => ORangeIter (a + k) ((n : Int) - k) 1) (n := n) (w := fun k => .int (a + k) 0) (g := g) (Src.range hA) (Nat.le_trans hn (by decide)) S₂ (fun Lc acc k ys hk => hb Lc acc _ k ys hk) (fun acc Lc u s' S' => hR _ _ hK acc Lc u s' S')

noncomputable def compCk (scope : Scope) (x : Str) : Bool := scope.names.all (fun y => y.2 != .cell) && (scope.kind == .function) && scope.names.all (fun y => y.2 != .local || scope.names.lookup y.1 == some .local) && (scope.names.lookup x == some .local) && !(x == ("__debug__" : Str))
theorem compCk_spec {scope : Scope} {x : Str} (h : compCk scope x = true) : (∀ y ∈ scope.names, y.2 ≠ .cell) ∧ scope.kind = .function ∧ (∀ y ∈ scope.names, y.2 = .local → scope.names.lookup y.1 = some .local) ∧ scope.names.lookup x = some .local ∧ (x == ("__debug__" : Str)) = false := by
  unfold compCk at h
  simp only [Bool.and_eq_true, beq_iff_eq, Bool.not_eq_true'] at h
  obtain ⟨⟨⟨⟨h1, h2⟩, h3⟩, h4⟩, h5⟩ := h
  refine ⟨fun y hy => ?_, h2, fun y hy hl => ?_, h4, h5⟩
  · have := List.all_eq_true.mp h1 y hy
    simpa using this
  · have := List.all_eq_true.mp h3 y hy
    simpa [hl] using this

inductive CompE (C : Cx) (A : Around) (env : Env) (scope : Scope) (x : Str) (ifs : List Expr) (elt iter : Expr) (loc : Loc) (led : Led) (Kf : Loc → List Value → Led → Prop) : Prop
  | mk (hA : A.handled = none) (hck : compCk scope x = true) (hs : ∀ x, foldedSetIterable iter env x = pure x) (cl : List (Str × Addr)) (hcl : closureFor scope env = pure cl)
      (h : EV C A env iter loc led (fun v l d => COMPS C A env scope cl x ifs elt v l d (Kf l)))
inductive AssignCompE (C : Cx) (A : Around) (env : Env) (scope : Scope) (x : Str) (ifs : List Expr) (elt iter : Expr) (y : Str) (py : Pos) (spos : Pos) (e : Expr) (loc : Loc) (led : Led) (Kf : Loc → List Value → Led → Prop) : Prop
  | mk (hsw : swapsWith e (some (.Name y py)) spos.line env = pure true) (hA : A.handled = none) (hck : compCk scope x = true) (hs : ∀ x, foldedSetIterable iter env x = pure x) (cl : List (Str × Addr)) (hcl : closureFor scope env = pure cl)
      (h : EV C A env iter loc led (fun v l d => COMPS C A env scope cl x ifs elt v l d (Kf l)))
theorem R_Comp {elt iter : Expr} {x : Str} {px : Pos} {ifs : List Expr} {scope : Scope} {pos : Pos} {K : Value → Loc → Led → Prop}
    (h : CompE C A env scope x ifs elt iter loc led (fun l ys d' => ∀ a, K (.ref a) l (.obj a (OList ys) :: d'))) :
    EV C A env (.ListComp elt [⟨.Name x px, iter, ifs, 0⟩] scope pos) loc led K := fun s S => by
  obtain ⟨hA, hck, hs, cl, hcl, h⟩ := h
  obtain ⟨c1, c2, c3, c4, c5⟩ := compCk_spec hck
  rw [eval_ListComp]
  refine wpAny_comprehension_free (use := none) rfl hs hcl c2 c3 (wpAny_mono (h s S) (fun xv s₁ ⟨l, d, k, S₁⟩ => ?_) fun _ _ e => e)
  refine comp_src (RR := fun acc Lc => compPost C.M A (fun _ _ => False) none _ acc Lc) hA c1 c2 c4 c5 k rfl S₁ (fun ys d' hK acc Lc u s' S' => ?_)
  obtain ⟨o, ho, es, ep, m, e1, e2, e3, e4⟩ := S'.get (a := Lc) List.mem_cons_self
  exact ⟨m, ⟨o, es, ep, ho, e1, e2, e3⟩, fun h' hsb => ⟨l, _, hK acc, S'.gone hsb⟩⟩

theorem X_AssignComp {elt iter : Expr} {x y : Str} {px py : Pos} {ifs : List Expr} {scope : Scope} {pos spos : Pos} {K : Flow → Loc → Led → Prop}
    (h : AssignCompE C A env scope x ifs elt iter y py spos (.ListComp elt [⟨.Name x px, iter, ifs, 0⟩] scope pos) loc led (fun l ys d' => ∀ a e, SN C A env y (.ref a) l (e :: .obj a (OList ys) :: d') (fun l d => ∃ d', Sub (e :: d') d ∧ K .next l d'))) :
    EX C A env (.Assign [.Name y py] (.ListComp elt [⟨.Name x px, iter, ifs, 0⟩] scope pos) spos) loc led K := fun s S => by
  obtain ⟨hsw, hA, hck, hs, cl, hcl, h⟩ := h
  obtain ⟨c1, c2, c3, c4, c5⟩ := compCk_spec hck
  rw [exec_Assign_Name_used _ _ _ _ hsw]
  refine wpAny_bind (wpAny_standAt (wpAny_bind ?_))
  show wpAny _ A (do let _ ← comprehension (.ListComp elt [⟨.Name x px, iter, ifs, 0⟩] scope pos) scope env _ (newList []) false (eval iter env) (some (assign (.Name y py) env))) _ _ s
  refine wpAny_bind (wpAny_mono (wpAny_comprehension_free (use := some (assign (.Name y py) env)) (Q := fun _ s' => ∃ l d, K .next l d ∧ St C env l d s') rfl hs hcl c2 c3
    (wpAny_mono (h s S) (fun xv s₁ ⟨l, d, k, S₁⟩ => ?_) fun _ _ e => e)) (fun _ s' hq => wpAny_pure (wpAny_pure hq)) fun _ _ e => e)
  refine comp_src (RR := fun acc Lc => compPost C.M A (fun _ _ => False) (some (assign (.Name y py) env)) _ acc Lc) hA c1 c2 c4 c5 k rfl S₁ (fun ys d' hK acc Lc u s' S' => ?_)
  show wpAny C.M A (assign (.Name y py) env (.ref acc)) _ _ s'
  refine PyProof.Rows.assign_Name (wpAny_mono (hK acc _ _ rfl s' S') (fun _ s₂ ⟨l₂, d₂, ⟨d₃, hsub, k₂⟩, S₂⟩ => ?_) fun _ _ e => e)
  have S₃ := S₂.drop hsub
  obtain ⟨o, ho, es, ep, m, e1, e2, e3, e4⟩ := S₃.get (a := Lc) List.mem_cons_self
  exact ⟨m, ⟨o, es, ep, ho, e1, e2, e3⟩, fun h' hsb => ⟨l₂, d₃, k₂, S₃.gone hsb⟩⟩
end
end
section
open PySem.Spec
open PySem.Builtin.Int (intBits)
set_option maxRecDepth 100000
set_option linter.unusedVariables false
theorem canLayS : ∀ ns : List PySem.Str, (∀ x ∈ ns, PyData.strOk x = true) → PyData.canLayAll0 (ns.map PyData.str) = true
  | [], _ => rfl
  | x :: r, h => by simp [PyData.canLayAll0, PyData.canLay0, canLayS r (fun y hy => h y (List.mem_cons_of_mem _ hy)), h x List.mem_cons_self]
theorem depthS : ∀ ns : List PySem.Str, PyData.depthAll (ns.map PyData.str) = 0
  | [] => rfl
  | _ :: r => by simp [PyData.depthAll, PyData.depth, depthS r]
theorem shapedS (ns : List PySem.Str) (h : ∀ x ∈ ns, PyData.strOk x = true) : SeqAt.shaped (.list (ns.map PyData.str)) = true := by
  simp [SeqAt.shaped, PyData.canLay0, PyData.depth, canLayS ns h, depthS]
theorem okS {xs : List (List Nat)} (h : ∀ l ∈ xs, ∀ c ∈ l, c < 1000) : ∀ x ∈ xs.map tx, PyData.strOk x = true := by
  intro x hx
  obtain ⟨l, hl, rfl⟩ := List.mem_map.mp hx
  unfold PyData.strOk
  rw [← Array.all_toList, tx_cps, List.all_eq_true]
  intro c hc
  have := h l hl c hc
  exact decide_eq_true (by lia)
theorem sameS : ∀ ns : List PySem.Str, PySem.Spec.sameAll (ns.map PyData.str) (ns.map PyData.str) = true
  | [] => by simp [PySem.Spec.sameAll]
  | a :: r => by simp [PySem.Spec.sameAll, PySem.Spec.same, sameS r]
theorem sameS' (ns : List PySem.Str) : PySem.Spec.same (.list (ns.map PyData.str)) (.list (ns.map PyData.str)) = true := by
  simp only [PySem.Spec.same]; exact sameS ns
theorem carriedS : ∀ {vs : List Value} {ns : List PySem.Str}, StrsAre vs ns → CarriedAll vs (ns.map PyData.str)
  | _, _, .nil => .nil
  | _, _, .cons _ t r => .cons (.str _ t) (carriedS r)
theorem shapedT (ns : List Int) : SeqAt.shaped (.tuple (ns.map PyData.int)) = true := by
  simp [SeqAt.shaped, PyData.canLay0, PyData.depth, ke_canLayAll0, ke_depthAll]
theorem sameT (ns ms : List Int) : PySem.Spec.same (.tuple (ns.map PyData.int)) (.tuple (ms.map PyData.int)) = decide (ns = ms) := by
  simp only [PySem.Spec.same]; exact ke_sameAll ns ms
theorem Fit.eqRoom {A : Around} {n : Nat} (h : Fit A n) (hn : 4 ≤ n) : A.units + 64 < cLine := by have := h.un; show A.units + 64 < 9900; lia
section
variable {C : Cx} {A : Around} {env : Env} {loc : Loc} {led : Led}
theorem O_ne_ints {a b : Addr} {xs ys : List Int} {K : Value → Loc → Led → Prop} (hf : Fit A 4) (ha : Ent.obj a (OList (iv xs)) ∈ led) (hb : Ent.obj b (OList (iv ys)) ∈ led) (h : K (.bool (!decide (xs = ys))) loc led) :
    Op2 C A env (compareOp .NotEq) (.ref a) (.ref b) loc led K := fun p q hp hq s S => by
  rw [er_is_ref hp, er_is_ref hq]
  obtain ⟨i1, n1, g1, e1, _⟩ := S.list ha
  obtain ⟨i2, n2, g2, e2, _⟩ := S.list hb
  exact ke_ne_ints (xs := i1.toList) (ys := i2.toList) (isl g1) (isl g2) (intsAre e1) (intsAre e2) (hf.eqRoom (Nat.le_refl _)) ⟨_, _, h, S⟩
theorem O_ne_strs {a b : Addr} {xs : List (List Nat)} {K : Value → Loc → Led → Prop} (hf : Fit A 4) (hok : ∀ l ∈ xs, ∀ c ∈ l, c < 1000) (ha : Ent.obj a (OList (sv xs)) ∈ led) (hb : Ent.obj b (OList (sv xs)) ∈ led) (h : K (.bool false) loc led) :
    Op2 C A env (compareOp .NotEq) (.ref a) (.ref b) loc led K := fun p q hp hq s S => by
  rw [er_is_ref hp, er_is_ref hq]
  obtain ⟨i1, n1, g1, e1, _⟩ := S.list ha
  obtain ⟨i2, n2, g2, e2, _⟩ := S.list hb
  exact ne_dataH_same (reads_newData (ys := i1.toList) (isl g1) (carriedS (strsAre e1))) (reads_newData (ys := i2.toList) (isl g2) (carriedS (strsAre e2))) (shapedS _ (okS hok)) (shapedS _ (okS hok)) (hf.eqRoom (Nat.le_refl _))
    (SeqAt.noMix_of_shape (.list .str) rfl _ _ (list_map_has fun _ => rfl) (list_map_has fun _ => rfl)) (by rw [sameS']; exact ⟨_, _, h, S⟩)
theorem O_ne_tups {a b : Addr} {xs ys : List Int} {K : Value → Loc → Led → Prop} (hf : Fit A 4) (ha : Ent.obj a (OTup (iv xs)) ∈ led) (hb : Ent.obj b (OTup (iv ys)) ∈ led) (h : K (.bool (!decide (xs = ys))) loc led) :
    Op2 C A env (compareOp .NotEq) (.ref a) (.ref b) loc led K := fun p q hp hq s S => by
  rw [er_is_ref hp, er_is_ref hq]
  obtain ⟨i1, n1, g1, e1, _⟩ := S.tup ha
  obtain ⟨i2, n2, g2, e2, _⟩ := S.tup hb
  exact ne_dataH_same (reads_tuple_ints (vr := i1.toList) (ist g1) (intsAre e1)) (reads_tuple_ints (vr := i2.toList) (ist g2) (intsAre e2)) (shapedT _) (shapedT _) (hf.eqRoom (Nat.le_refl _))
    (SeqAt.noMix_of_shape (.tuples .int) rfl _ _ (tuples_map_has fun _ => rfl) (tuples_map_has fun _ => rfl)) (by rw [sameT]; exact ⟨_, _, h, S⟩)
theorem O_eq_tups {a b : Addr} {xs ys : List Int} {K : Value → Loc → Led → Prop} (hf : Fit A 4) (ha : Ent.obj a (OTup (iv xs)) ∈ led) (hb : Ent.obj b (OTup (iv ys)) ∈ led) (h : K (.bool (decide (xs = ys))) loc led) :
    Op2 C A env (compareOp .Eq) (.ref a) (.ref b) loc led K := fun p q hp hq s S => by
  rw [er_is_ref hp, er_is_ref hq]
  obtain ⟨i1, n1, g1, e1, _⟩ := S.tup ha
  obtain ⟨i2, n2, g2, e2, _⟩ := S.tup hb
  exact eq_dataH_same (reads_tuple_ints (vr := i1.toList) (ist g1) (intsAre e1)) (reads_tuple_ints (vr := i2.toList) (ist g2) (intsAre e2)) (shapedT _) (shapedT _) (hf.eqRoom (Nat.le_refl _))
    (SeqAt.noMix_of_shape (.tuples .int) rfl _ _ (tuples_map_has fun _ => rfl) (tuples_map_has fun _ => rfl)) (by rw [sameT]; exact ⟨_, _, h, S⟩)
theorem B_isinst_bool {n : Int} {K : Value → Loc → Led → Prop} (h : K (.bool false) loc led) : CallT C A env (.builtin "isinstance") [.int n 0, .type "bool"] loc led K := fun args' ha s S => by
  obtain ⟨x, y, rfl⟩ := erL2 ha
  simp only [List.map_cons, List.map_nil, List.cons.injEq, and_true] at ha
  obtain ⟨t, rfl⟩ := er_is_int ha.1
  rw [er_is_type ha.2]
  exact PySem.IsiPair.int_bool ⟨_, _, h, S.toks⟩
theorem SUB_tup {value slice : Expr} {a : Addr} {vs : List Value} {i : Int} {v : Value} {K : Value → Loc → Led → Prop} (j : Nat) (hi : i = j) (hm : Ent.obj a (OTup vs) ∈ led) (hv : vs[j]? = some v) (hn : vs.length ≤ 100) (h : K v loc led)
    (hs : ∀ a k u, subscripted slice false (.ref a) (.int k u) = operate [.ref a, .int k u] (getItem (.ref a) (.int k u)) := by intro _ _ _; with_unfolding_all rfl)
    (ht : ∀ a r, letTemporaryGo value (.ref a) r = pure () := by intro _ _; with_unfolding_all rfl) : SUB C A env value slice (.ref a) (.int i 0) loc led K := fun o' i' ho hi' s S => by
  rw [er_is_ref ho]
  obtain ⟨t, rfl⟩ := er_is_int hi'
  subst hi
  obtain ⟨items, n, g, e, hs'⟩ := S.tup hm
  obtain ⟨x, hx, hxv⟩ := erL_get e hv
  have hj : j < vs.length := (List.getElem?_eq_some_iff.mp hv).1
  exact item_tuple (j := j) (ist g) (by lia) (by lia) (by unfold seqIndex?; rw [hs']; simp; lia) hx ⟨_, _, by rw [hxv]; exact h, S⟩ (hs _ _ _) (ht _)
end
end
section
open PySem.Builtin.Int (intBits)
set_option maxRecDepth 100000
set_option linter.unusedVariables false
section
variable {C : Cx} {A : Around} {env : Env} {loc : Loc} {led : Led}
/-- a loop over a list of tuples, taken apart -/
inductive LoopTups (C : Cx) (A : Around) (env : Env) (elts : List Expr) (body orelse : List Stmt) (K : Flow → Loc → Led → Prop) (v : Value) (l : Loc) (d : Led) : Prop
  | mk (t : Addr) (vs : List Value) (I : Nat → Loc → Led → Prop) (hv : v = .ref t) (h0 : I 0 l d) (h1 : ∀ k l d, I k l d → Ent.obj t (OList vs) ∈ d)
      (h2 : ∀ k l d it v, vs[k]? = some v → I k l d → ∃ tu ws, v = .ref tu ∧ Ent.obj tu (OTup ws) ∈ d ∧ ws.length = elts.length ∧ AIOE C A env elts ws l (.obj it (OListIter t (k + 1)) :: d) (fun l d => EXS C A env body l d (forK it (OListIter t (k + 1)) (I (k + 1)) K)))
      (h3 : ∀ l d, I vs.length l d → EXS C A env orelse l d K)
theorem tups_core {elts : List Expr} {kk : Nat} {px : Pos} {body orelse : List Stmt} {K : Flow → Loc → Led → Prop} {R : Result → Shared → Prop} {it t : Addr} {vs : List Value} {I : Nat → Loc → Led → Prop} {l : Loc} {d : Led} {s : Shared}
    (hA : A.handled = none) (hstar : (assignEach elts env).findIdx? (·.1) = none) (hlen : (assignEach elts env).length = elts.length) (h1 : ∀ k l d, I k l d → Ent.obj t (OList vs) ∈ d)
    (h2 : ∀ k l d it v, vs[k]? = some v → I k l d → ∃ tu ws, v = .ref tu ∧ Ent.obj tu (OTup ws) ∈ d ∧ ws.length = elts.length ∧ AIOE C A env elts ws l (.obj it (OListIter t (k + 1)) :: d) (fun l d => EXS C A env body l d (forK it (OListIter t (k + 1)) (I (k + 1)) K)))
    (h3 : ∀ l d, I vs.length l d → EXS C A env orelse l d K) (h0 : I 0 l d) (S₂ : St C env l (.obj it (OListIter t 0) :: d) s) (hR : ∀ f l d s, K (erF f) l d → St C env l d s → R (.ok f) s) :
    codeAny C.M A (.forLoop (.Tuple elts kk px) (.ref it) body orelse env) R s := by
  refine codeAny_forLoop_any (fun n s => ∃ k l d, n = vs.length - k ∧ k ≤ vs.length ∧ I k l d ∧ St C env l (.obj it (OListIter t k) :: d) s) ?_ vs.length ⟨0, l, d, rfl, Nat.zero_le _, h0, S₂⟩
  clear h0 S₂
  rintro n s ⟨k, l, d, rfl, hk, hI, S⟩
  have hm1 := List.mem_cons_of_mem (Ent.obj it (OListIter t k)) (h1 _ _ _ hI)
  by_cases hlt : k < vs.length
  · obtain ⟨tu, ws, hvt, hmt, hwl, k₂⟩ := h2 k _ _ it _ (List.getElem?_eq_getElem hlt) hI
    refine wpAny_mono (N_list_item (K := fun o l' d' => o = some (.ref tu) ∧ l' = l ∧ d' = (.obj it (OListIter t (k + 1)) :: d : Led)) LUpd.hit hm1 (List.getElem?_eq_getElem hlt) ⟨by rw [hvt], rfl, rfl⟩ s S) (fun o s₁ q => ?_) fun _ _ e => e.elim
    obtain ⟨l₁, d₁, ⟨ho, rfl, rfl⟩, S₁⟩ := q
    cases o with
    | none => cases ho
    | some v =>
      rw [er_is_ref (Option.some.inj ho)]
      obtain ⟨oi, hoi, hpi⟩ := S₁.get (a := it) List.mem_cons_self
      refine wpAny_letOwnedTupleGo_listiter ⟨oi, hoi, hpi.1, hpi.2⟩ ?_
      obtain ⟨ti, tn, tg, te, ts⟩ := S₁.tup (List.mem_cons_of_mem _ hmt)
      refine assign_Tuple_tuple hA (ist tg) (by rw [hlen, ← hwl, ts]) hstar fun h' hx => ?_
      refine wpAny_mono (k₂ ti.toList te _ (S₁.ext (s' := { s₁ with heap := h' }) (keeps_extBut hx) rfl rfl)) (fun _ s₂ q => ?_) fun _ _ e => e.elim
      clear k₂ S₁ hx S
      obtain ⟨l₂, d₂, k₃, S₂⟩ := q
      refine wpAny_mono (k₃ s₂ S₂) (fun f s₃ q => ?_) fun _ _ e => e.elim
      obtain ⟨l₃, d₃, k₄, S₃⟩ := q
      have again : ∀ d₄, Sub (.obj it (OListIter t (k + 1)) :: d₄) d₃ → I (k + 1) l₃ d₄ → ∃ m, m < vs.length - k ∧ ∃ k l d, m = vs.length - k ∧ k ≤ vs.length ∧ I k l d ∧ St C env l (.obj it (OListIter t k) :: d) s₃ := fun d₄ hs hI => ⟨vs.length - (k + 1), by omega, k + 1, l₃, d₄, rfl, hlt, hI, S₃.drop hs⟩
      cases f with
      | next => obtain ⟨d₄, hs₄, hI₄⟩ := k₄; exact again d₄ hs₄ hI₄
      | cont => obtain ⟨d₄, hs₄, hI₄⟩ := k₄; exact again d₄ hs₄ hI₄
      | brk => exact hR .next _ _ _ k₄ S₃
      | ret v => exact hR (.ret v) _ _ _ k₄ S₃
  · have e : k = vs.length := by omega
    subst e
    refine wpAny_mono (N_list_end (K := fun o l' d' => o = none ∧ l' = l ∧ d' = d) hA Pick.hit hm1 (by simp) ⟨rfl, rfl, rfl⟩ s S) (fun o s₁ q => ?_) fun _ _ e => e.elim
    obtain ⟨l₁, d₁, ⟨ho, rfl, rfl⟩, S₁⟩ := q
    cases o with
    | some v => cases ho
    | none =>
      refine wpAny_mono (h3 _ _ hI s₁ S₁) (fun f s₂ q => ?_) fun _ _ e => e.elim
      obtain ⟨l₂, d₂, k₂, S₂⟩ := q
      exact hR _ _ _ _ k₂ S₂
theorem X_ForTups {elts : List Expr} {kk : Nat} {px pos : Pos} {iter : Expr} {body orelse : List Stmt} {K : Flow → Loc → Led → Prop}
    (h : A.handled = none ∧ (assignEach elts env).findIdx? (·.1) = none ∧ (assignEach elts env).length = elts.length ∧ (∀ x, foldedSetIterable iter env x = pure x) ∧ EV C A env iter loc led (fun v l d => LoopTups C A env elts body orelse K v l d)) :
    EX C A env (.For (.Tuple elts kk px) iter body orelse pos) loc led K := fun s S => by
  obtain ⟨hA, hstar, hlen, hs, h⟩ := h
  refine wpAny_For (wpAny_mono (h s S) (fun x s₁ q => ?_) fun _ _ e => e.elim) hs
  clear h S hs
  obtain ⟨l, d, q, S₁⟩ := q
  obtain ⟨t, vs, I, hv, h0, h1, h2, h3⟩ := q
  rw [er_is_ref hv]
  obtain ⟨items, nn, g, e, hsz⟩ := S₁.list (h1 _ _ _ h0)
  have S₂ := S₁.push (P := OListIter t 0) (o := { cls := .type "list_iterator", data := .fields #[.ref t, rawInt 0] }) ⟨rfl, rfl⟩ rfl rfl (.inl (by simp))
  exact wpAny_pyIter_list (isl g) (tups_core hA hstar hlen h1 h2 h3 h0 S₂ (fun f l d s k S => ⟨l, d, k, S⟩))

/-! ## a list taken apart -/
theorem draw_list {it t : Addr} {vs : List Value} : ∀ (n k : Nat) (led d : Led) (K : List Value → Loc → Led → Prop), Pick (.obj it (OListIter t k)) led d → Ent.obj t (OList vs) ∈ d → k + n ≤ vs.length →
    K ((vs.drop k).take n) loc (.obj it (OListIter t (k + n)) :: d) → Tri erL C A env (draw (.ref it) n) loc led K
  | 0, k, led, d, K, hp, hm, hk, hK => fun s S => by
    show wpAny _ _ (pure []) _ _ s
    exact wpAny_pure ⟨loc, _, by simpa using hK, S.drop ⟨[], by simpa using hp.symm⟩⟩
  | n + 1, k, led, d, K, hp, hm, hk, hK => fun s S => by
    show wpAny _ _ (pyNext (.ref it) >>= _) _ _ s
    have hlt : k < vs.length := by omega
    have S' : St C env loc (.obj it (OListIter t k) :: d) s := S.drop ⟨[], by simpa using hp.symm⟩
    refine wpAny_bind (wpAny_mono (N_list_item (K := fun o l' d' => o = some vs[k] ∧ l' = loc ∧ d' = (.obj it (OListIter t (k + 1)) :: d : Led)) LUpd.hit (List.mem_cons_of_mem _ hm) (List.getElem?_eq_getElem hlt) ⟨rfl, rfl, rfl⟩ s S') (fun o s₁ ⟨l₁, d₁, ⟨ho, hl, hd⟩, S₁⟩ => ?_) fun _ _ e => e)
    rw [hl, hd] at S₁
    cases o with
    | none => cases ho
    | some v =>
      have hv : er v = vs[k] := Option.some.inj ho
      refine wpAny_bind (wpAny_holding (wpAny_mono (draw_list n (k + 1) _ d (fun ys l' d' => ys = (vs.drop (k + 1)).take n ∧ l' = loc ∧ d' = (.obj it (OListIter t (k + 1 + n)) :: d : Led)) Pick.hit hm (by omega) ⟨rfl, rfl, rfl⟩ s₁ S₁) (fun ys s₂ ⟨l₂, d₂, ⟨hy, hl₂, hd₂⟩, S₂⟩ => wpAny_pure ?_) fun _ _ e => e))
      rw [hl₂, hd₂] at S₂
      refine ⟨_, _, ?_, S₂⟩
      rw [show k + (n + 1) = k + 1 + n by omega, List.drop_eq_getElem_cons hlt, List.take_succ_cons] at hK
      show K (erL (v :: ys)) _ _
      rw [erL, List.map_cons, hv, ← erL, hy]; exact hK

theorem X_AssignTupL {elts : List Expr} {k : Nat} {tpos pos : Pos} {value : Expr} {K : Flow → Loc → Led → Prop}
    (h : A.handled = none ∧ swapsWithSole [.Tuple elts k tpos] value pos.line env = pure false ∧ swappedStores [.Tuple elts k tpos] value env = pure none ∧ (assignEach elts env).length = elts.length ∧ (assignEach elts env).findIdx? (·.1) = none ∧
      EV C A env value loc led (fun v l d => ∃ t vs, v = .ref t ∧ Ent.obj t (OList vs) ∈ d ∧ elts.length = vs.length ∧ AIOE C A env elts vs l d (fun l d => K .next l d))) :
    EX C A env (.Assign [.Tuple elts k tpos] value pos) loc led K := fun s S => by
  obtain ⟨hA, hs, hw, hl, hstar, h⟩ := h
  refine Assign_Tuple (wpAny_mono (h s S) (fun v s₁ ⟨l, d, ⟨t, vs, hv, hm, hn, k⟩, S₁⟩ => ?_) fun _ _ e => e) hs hw
  rw [er_is_ref hv]
  obtain ⟨items, nn, g, e, hsz⟩ := S₁.list hm
  rw [assign_Tuple]
  refine wpAny_bind (wpAny_standAt ?_)
  unfold unpack
  rw [hl, hn, hstar]
  refine wpAny_bind (wpAny_holding ?_)
  unfold unpackItems
  refine wpAny_bind ?_
  unfold notIterableAtAll
  refine wpAny_bind (wpAny_specialOf (isl g).typeIs F.slot_list_iter.lookup ?_)
  refine wpAny_pure ?_
  simp only [Bool.false_eq_true, if_false]
  refine wpAny_bind (wpAny_holding (wpAny_pyIter_list (isl g) ?_))
  have S₂ := S₁.push (P := OListIter t 0) (o := { cls := .type "list_iterator", data := .fields #[.ref t, rawInt 0] }) ⟨rfl, rfl⟩ rfl rfl (.inl (by simp))
  generalize s₁.heap.objs.size = it at S₂ ⊢
  refine wpAny_bind (wpAny_holding (wpAny_mono (draw_list vs.length 0 _ d (fun ys l' d' => ys = vs ∧ l' = l ∧ d' = (.obj it (OListIter t vs.length) :: d : Led)) Pick.hit hm (by omega) ⟨by simp, rfl, by rw [Nat.zero_add]⟩ _ S₂) (fun ys s₃ ⟨l₃, d₃, ⟨hy, hl₃, hd₃⟩, S₃⟩ => ?_) fun _ _ e => e))
  subst hl₃ hd₃
  have hyl : ys.length = vs.length := by rw [← hy]; simp
  rw [if_neg (by omega)]
  refine wpAny_bind (wpAny_holding (wpAny_mono (N_list_end (K := fun o l' d' => o = none ∧ l' = l₃ ∧ d' = d) hA Pick.hit (List.mem_cons_of_mem _ hm) (List.getElem?_eq_none (Nat.le_refl _)) ⟨rfl, rfl, rfl⟩ s₃ S₃) (fun o s₄ ⟨l₄, d₄, ⟨ho, hl₄, hd₄⟩, S₄⟩ => ?_) fun _ _ e => e))
  subst hl₄ hd₄
  cases o with
  | some v => cases ho
  | none =>
    simp only [Option.isSome_none, Bool.false_eq_true, if_false]
    refine wpAny_pure ?_
    exact wpAny_mono (k ys hy s₄ S₄) (fun _ _ x => x) fun _ _ e => e

/-! ## a and b -/
theorem R_And2 {a b : Expr} {pos : Pos} {K : Value → Loc → Led → Prop} (h : EV C A env a loc led (fun v l d => TB C A env truthy v l d (fun c l d => if c = true then EV C A env b l d K else K v l d))) : EV C A env (.BoolOp .And [a, b] pos) loc led K := fun s S => by
  show wpAny _ _ (do
    let v ← eval a env
    standAt pos
    let t ← holding [v] (truthy v)
    match BoolOp.And, t with
    | .And, false | .Or, true => pure v
    | _, _ => eval b env) _ _ s
  refine wpAny_bind (wpAny_mono (h s S) (fun v s₁ ⟨l, d, k, S₁⟩ => wpAny_bind (wpAny_standAt (wpAny_bind (wpAny_holding (wpAny_mono (k v rfl s₁ S₁) (fun c s₂ ⟨l₂, d₂, k₂, S₂⟩ => ?_) fun _ _ e => e))))) fun _ _ e => e)
  cases c with
  | true => simp only [id, if_true] at k₂; exact k₂ s₂ S₂
  | false => simp only [id, Bool.false_eq_true, if_false] at k₂; exact wpAny_pure ⟨l₂, d₂, k₂, S₂⟩
end
end
section
open PySem.NumText
set_option linter.unusedVariables false
noncomputable def rho (m r : Int) (st i : Nat) : Int := rt m r (st + i)
noncomputable def phi (m r : Int) (st i : Nat) : Int := fg m r (st + i)
noncomputable def dig (m r : Int) (st i : Nat) : Nat := 48 + (phi m r st i).toNat
noncomputable def dgs (m r : Int) (st a k : Nat) : List Nat := (List.range k).map fun i => dig m r st (a + i)
noncomputable def ringL (m r : Int) (st p : Nat) : List Int := (List.range p).map (rho m r st)

section
variable {m r : Int} {st a k : Nat}
theorem dgs_len : (dgs m r st a k).length = k := by simp [dgs]
theorem dgs_get {i : Nat} (h : i < k) : (dgs m r st a k)[i]? = some (dig m r st (a + i)) := by unfold dgs; rw [List.getElem?_map, List.getElem?_range h]; rfl
theorem dgs_none {i : Nat} (h : k ≤ i) : (dgs m r st a k)[i]? = none := List.getElem?_eq_none (by rw [dgs_len]; exact h)
theorem dgs_drop {i : Nat} : (dgs m r st a k).drop i = dgs m r st (a + i) (k - i) := by
  refine List.ext_getElem? fun j => ?_
  rw [List.getElem?_drop]
  by_cases h : i + j < k
  · rw [dgs_get h, dgs_get (by lia), Nat.add_assoc]
  · rw [dgs_none (by lia), dgs_none (by lia)]
theorem dgs_take {i : Nat} (h : i ≤ k) : (dgs m r st a k).take i = dgs m r st a i := by
  refine List.ext_getElem? fun j => ?_
  rw [List.getElem?_take]
  by_cases h' : j < i
  · rw [if_pos h', dgs_get (by lia), dgs_get h']
  · rw [if_neg h', dgs_none (by lia)]
theorem dgs_append {l : Nat} : dgs m r st a k ++ dgs m r st (a + k) l = dgs m r st a (k + l) := by
  unfold dgs
  rw [List.range_add, List.map_append, List.map_map]
  congr 1
  refine List.map_congr_left fun j _ => ?_
  simp [Nat.add_assoc]
theorem dgs_succ : dgs m r st a (k + 1) = dig m r st a :: dgs m r st (a + 1) k := by
  have h : dgs m r st a (1 + k) = dgs m r st a 1 ++ dgs m r st (a + 1) k := dgs_append.symm
  rw [Nat.add_comm, h]; simp [dgs]
theorem dgs_snoc : dgs m r st a (k + 1) = dgs m r st a k ++ [dig m r st (a + k)] := by
  unfold dgs; rw [List.range_succ, List.map_append]; rfl
end

section
variable {m r : Int} {n st : Nat} (h0 : 0 ≤ r) (h1 : r < m) (D : Dv m r n st)
include h0 h1
theorem rho_range (i : Nat) : 0 ≤ rho m r st i ∧ rho m r st i < m := rt_range h0 h1 _
theorem phi_range (i : Nat) : 0 ≤ phi m r st i ∧ phi m r st i ≤ 9 := by
  have hr := rho_range h0 h1 (st := st) i
  have hm : 0 < m := by lia
  constructor
  · exact Int.ediv_nonneg (by show 0 ≤ 10 * rho m r st i; lia) (Int.le_of_lt hm)
  · have : phi m r st i < 10 := Int.ediv_lt_of_lt_mul hm (by show 10 * rho m r st i < 10 * m; lia)
    lia
theorem rho_succ (i : Nat) : 10 * rho m r st i = m * phi m r st i + rho m r st (i + 1) := by
  show 10 * rt m r (st + i) = m * (10 * rt m r (st + i) / m) + 10 * rt m r (st + i) % m
  exact (Int.mul_ediv_add_emod _ _).symm
theorem dig_range (i : Nat) : 48 ≤ dig m r st i ∧ dig m r st i ≤ 57 := by
  have := phi_range h0 h1 (st := st) i
  unfold dig; lia
theorem dig_val (i : Nat) : ((dig m r st i - 48 : Nat) : Int) = phi m r st i := by
  have := phi_range h0 h1 (st := st) i
  unfold dig; lia
theorem dgs_digits (a k : Nat) : AllDigits (dgs m r st a k) := by
  intro c hc
  obtain ⟨i, _, rfl⟩ := List.mem_map.mp hc
  exact dig_range h0 h1 _
theorem dv_dgs (a k : Nat) : m * dv (dgs m r st a k) + rho m r st (a + k) = 10 ^ k * rho m r st a := by
  induction k with
  | zero =>
    have e : dv (dgs m r st a 0) = 0 := rfl
    rw [e, Int.mul_zero, Int.pow_zero, Nat.add_zero]; lia
  | succ k ih =>
    rw [dgs_snoc, dv_snoc, dig_val h0 h1, Int.pow_succ]
    have := rho_succ h0 h1 (st := st) (a + k)
    have e : m * (dv (dgs m r st a k) * 10 + phi m r st (a + k)) = 10 * (m * dv (dgs m r st a k)) + m * phi m r st (a + k) := by
      rw [Int.mul_add, ← Int.mul_assoc, Int.mul_comm (m * _) 10]
    rw [e, show (10 : Int) ^ k * 10 * rho m r st a = 10 * (10 ^ k * rho m r st a) by rw [Int.mul_comm (10 ^ k) 10, Int.mul_assoc], ← ih]
    show _ + rho m r st (a + k + 1) = _
    lia
theorem dv_div (a k : Nat) : dv (dgs m r st a k) = 10 ^ k * rho m r st a / m := by
  have e := dv_dgs h0 h1 (st := st) a k
  have hr := rho_range h0 h1 (st := st) (a + k)
  rw [← e, Int.mul_add_ediv_left _ _ (by lia), Int.ediv_eq_zero_of_lt hr.1 hr.2]; lia
include D
theorem rho_per (i : Nat) : rho m r st (i + (n - st)) = rho m r st i := by
  have hp := D.pos
  induction i with
  | zero => show rt m r (st + (0 + (n - st))) = rt m r (st + 0); rw [show st + (0 + (n - st)) = n by lia]; exact D.back
  | succ i ih =>
    show rt m r (st + (i + 1 + (n - st))) = rt m r (st + (i + 1))
    rw [show st + (i + 1 + (n - st)) = (st + (i + (n - st))) + 1 by lia, show st + (i + 1) = (st + i) + 1 by lia]
    show 10 * rho m r st (i + (n - st)) % m = 10 * rho m r st i % m
    rw [ih]
theorem rho_per' (i k : Nat) : rho m r st (i + (n - st) * k) = rho m r st i := by
  induction k with
  | zero => rw [Nat.mul_zero, Nat.add_zero]
  | succ k ih => rw [Nat.mul_succ, ← Nat.add_assoc, rho_per h0 h1 D, ih]
theorem rho_mod (i : Nat) : rho m r st (i % (n - st)) = rho m r st i := by
  conv => rhs; rw [← Nat.mod_add_div i (n - st)]
  exact (rho_per' h0 h1 D _ _).symm
theorem phi_per (i : Nat) : phi m r st (i + (n - st)) = phi m r st i := by
  show 10 * rho m r st (i + (n - st)) / m = 10 * rho m r st i / m
  rw [rho_per h0 h1 D]
theorem dgs_per (a k : Nat) : dgs m r st (a + (n - st)) k = dgs m r st a k := by
  unfold dgs
  refine List.map_congr_left fun i _ => ?_
  unfold dig
  rw [show a + (n - st) + i = a + i + (n - st) by lia, phi_per h0 h1 D]
theorem dgs_rep : ∀ k : Nat, (List.replicate k (dgs m r st 0 (n - st))).flatten = dgs m r st 0 ((n - st) * k)
  | 0 => rfl
  | k + 1 => by
    rw [List.replicate_succ, List.flatten_cons, dgs_rep k, Nat.mul_succ, Nat.add_comm ((n - st) * k), ← dgs_append, dgs_per h0 h1 D 0]
theorem rho_inj {i j : Nat} (hi : i < n - st) (hj : j < n - st) (h : rho m r st i = rho m r st j) : i = j := by
  have e1 := rts_get (m := m) (r := r) (n := n) (i := st + i) (by lia)
  have e2 := rts_get (m := m) (r := r) (n := n) (i := st + j) (by lia)
  have := (List.getElem?_inj (i := st + i) (j := st + j) (by rw [rts_len]; lia) D.nd).mp (by rw [e1, e2]; exact congrArg some h)
  lia
end

theorem dgs_cut {m r : Int} {st a k i j : Nat} (h : j ≤ k) : ((dgs m r st a k).drop i).take (j - i) = dgs m r st (a + i) (j - i) := by
  rw [dgs_drop, dgs_take (by lia)]
/-! ## the order of texts -/
theorem lt_irr : ∀ l : List Nat, ¬ l < l := fun l => List.lt_irrefl l
theorem cmpS_self (l : List Nat) : cmpS l l = 0 := by unfold cmpS; simp [lt_irr]
theorem cmpS_lt {a b : List Nat} (h : a < b) : cmpS a b = -1 ∧ cmpS b a = 1 := by
  have h' : ¬ b < a := List.lt_asymm h
  unfold cmpS
  simp [h, h', b2i]
theorem pre_lt : ∀ {a : List Nat} {x : Nat} {b : List Nat}, a < a ++ x :: b
  | [], _, _ => by simp
  | c :: a, x, b => by
    rw [List.cons_append]
    exact List.cons_lt_cons_iff.mpr (.inr ⟨rfl, pre_lt⟩)
theorem dgs_lt {m r : Int} {st i a b : Nat} (h : a < b) : dgs m r st i a < dgs m r st i b := by
  obtain ⟨c, rfl⟩ : ∃ c, b = a + (c + 1) := ⟨b - a - 1, by lia⟩
  rw [← dgs_append, dgs_succ]
  exact pre_lt
section
variable {m r : Int} {st : Nat} (h0 : 0 ≤ r) (h1 : r < m)
include h0 h1
theorem lexlt : ∀ (f i j a b : Nat), f ≤ a → f ≤ b → rho m r st i < rho m r st j → m ≤ 10 ^ f * (rho m r st j - rho m r st i) → dgs m r st i a < dgs m r st j b
  | 0, i, j, a, b, _, _, hlt, hm => by
    have hi := rho_range h0 h1 (st := st) i
    have hj := rho_range h0 h1 (st := st) j
    rw [Int.pow_zero, Int.one_mul] at hm
    lia
  | f + 1, i, j, a + 1, b + 1, ha, hb, hlt, hm => by
    have ei := rho_succ h0 h1 (st := st) i
    have ej := rho_succ h0 h1 (st := st) j
    have ri := rho_range h0 h1 (st := st) (i + 1)
    have rj := rho_range h0 h1 (st := st) (j + 1)
    have pi := phi_range h0 h1 (st := st) i
    have pj := phi_range h0 h1 (st := st) j
    rw [dgs_succ, dgs_succ]
    refine List.cons_lt_cons_iff.mpr ?_
    rcases Int.lt_trichotomy (phi m r st i) (phi m r st j) with h | h | h
    · exact .inl (by unfold dig; lia)
    · refine .inr ⟨by unfold dig; rw [h], lexlt f (i + 1) (j + 1) a b (by lia) (by lia) ?_ ?_⟩
      · rw [h] at ei; lia
      · rw [h] at ei
        rw [show rho m r st (j + 1) - rho m r st (i + 1) = 10 * (rho m r st j - rho m r st i) by lia, ← Int.mul_assoc, ← Int.pow_succ]
        exact hm
    · have : m * (phi m r st j + 1) ≤ m * phi m r st i := Int.mul_le_mul_of_nonneg_left (by lia) (by lia)
      rw [Int.mul_add] at this
      lia
theorem said_due {n p i j : Nat} (D : Dv m r n st) (hp : p = n - st) (hm : m ≤ 101) (hi : i < p) (hj : j < p) :
    cmpS (dgs m r st i (2 * p - i)) (dgs m r st j (2 * p - j)) = if i = j then 0 else if rho m r st j < rho m r st i then 1 else -1 := by
  by_cases h : i = j
  · subst h; rw [if_pos rfl, cmpS_self]
  · rw [if_neg h]
    have hne : rho m r st i ≠ rho m r st j := fun q => h (rho_inj h0 h1 D (hp ▸ hi) (hp ▸ hj) q)
    have key : ∀ x y : Int, x < y → m ≤ 10 ^ 3 * (y - x) := fun x y hxy => by
      have e : (10 : Int) ^ 3 = 1000 := by decide
      rw [e]; lia
    by_cases hlt : rho m r st j < rho m r st i
    · rw [if_pos hlt]
      exact (cmpS_lt (lexlt h0 h1 3 j i _ _ (by lia) (by lia) hlt (key _ _ hlt))).2
    · rw [if_neg hlt]
      have hgt : rho m r st i < rho m r st j := by lia
      exact (cmpS_lt (lexlt h0 h1 3 i j _ _ (by lia) (by lia) hgt (key _ _ hgt))).1
end
end
section
open PySem.NumText
set_option linter.unusedVariables false
theorem lgr_cons {vs : List Int} {cs : List Nat} {f j n : Nat} {x : Int} (h : gitem vs j = some x) (hn : n ≠ 0) : lgr vs cs (f + 1) j n = ((cs.drop (n - x.toNat)).take (n - (n - x.toNat))) :: lgr vs cs f (j + 1) (n - x.toNat) := by
  rw [lgr, h]; simp [hn]
theorem lgr_last {vs : List Int} {cs : List Nat} {f j n : Nat} (h : gitem vs j = none) (hn : n ≠ 0) : lgr vs cs (f + 1) j n = [cs.take n] := by
  rw [lgr, h]; simp [hn]
theorem lgr_nil {vs : List Int} {cs : List Nat} {f j : Nat} : lgr vs cs (f + 1) j 0 = [] := by
  rw [lgr]; split <;> simp
structure RowOk (vs : List Int) (cs : List Nat) (out : List (List Nat)) : Prop where
  h0 : vs[0]? ≠ some 0
  hpos : ∀ j x, gitem vs j = some x → 1 ≤ x ∧ x ≤ 100000
  out : lgr vs cs (cs.length + 1) 0 cs.length = out
theorem stg_inf {vs : List Int} {i : Nat} {l : Int} (h : stg vs i = .inf l) : ∀ j, stg vs (i + j) = .inf l
  | 0 => h
  | j + 1 => by show (match (stg vs (i + j)).step vs with | some (_, σ) => σ | none => stg vs (i + j)) = _; rw [stg_inf h j]; rfl
theorem gitem_inf {vs : List Int} {i j : Nat} {l : Int} (h : stg vs i = .inf l) (hj : i ≤ j) : gitem vs j = some l := by
  have := stg_inf h (j - i)
  rw [show i + (j - i) = j by lia] at this
  unfold gitem; rw [this]; rfl
theorem stg_at {vs : List Int} {i k : Nat} {l x : Int} (h : stg vs i = .at k l) (hx : vs[k]? = some x) (h1 : x ≠ 127) (h2 : x ≠ 0) : gitem vs i = some x ∧ stg vs (i + 1) = .at (k + 1) x := by
  have e : (stg vs i).step vs = some (x, .at (k + 1) x) := by rw [h]; simp [Sg.step, hx, h1, h2]
  refine ⟨by unfold gitem; rw [e]; rfl, ?_⟩
  show (match (stg vs i).step vs with | some (_, σ) => σ | none => stg vs i) = _
  rw [e]
theorem stg_zero {vs : List Int} {i k : Nat} {l : Int} (h : stg vs i = .at k l) (hx : vs[k]? = some 0) : gitem vs i = some l ∧ stg vs (i + 1) = .inf l := by
  have e : (stg vs i).step vs = some (l, .inf l) := by rw [h]; simp [Sg.step, hx]
  refine ⟨by unfold gitem; rw [e]; rfl, ?_⟩
  show (match (stg vs i).step vs with | some (_, σ) => σ | none => stg vs i) = _
  rw [e]
theorem stg_end {vs : List Int} {i k : Nat} {l : Int} (h : stg vs i = .at k l) (hx : vs[k]? = none ∨ vs[k]? = some 127) : ∀ j, i ≤ j → gitem vs j = none := by
  have e : (Sg.at k l).step vs = none := by rcases hx with hx | hx <;> simp [Sg.step, hx]
  have hs : ∀ d, stg vs (i + d) = .at k l := fun d => by
    induction d with
    | zero => exact h
    | succ d ih =>
      show (match (stg vs (i + d)).step vs with | some (_, σ) => σ | none => stg vs (i + d)) = _
      rw [ih, e]
  intro j hj
  have := hs (j - i)
  rw [show i + (j - i) = j by lia] at this
  unfold gitem; rw [this, e]; rfl
theorem lgr_chunks {vs : List Int} {cs : List Nat} {s : Nat} (hs : 1 ≤ s) : ∀ (k f j : Nat), (∀ i, i < k → gitem vs (j + i) = some (s : Int)) → k < f → lgr vs cs f j (s * k) = ((List.range k).map fun i => (cs.drop (s * i)).take s).reverse
  | 0, f + 1, j, _, _ => by rw [Nat.mul_zero, lgr_nil]; rfl
  | k + 1, f + 1, j, h, hf => by
    have h0 : gitem vs j = some (s : Int) := h 0 (by lia)
    have e : s * (k + 1) - s = s * k := by rw [Nat.mul_succ]; lia
    rw [lgr_cons h0 (by rw [Nat.mul_succ]; lia), Int.toNat_natCast, e, lgr_chunks hs k f (j + 1) (fun i hi => by rw [show j + 1 + i = j + (i + 1) by lia]; exact h (i + 1) (by lia)) (by lia),
      show s * (k + 1) - s * k = s by rw [Nat.mul_succ]; lia, List.range_succ, List.map_append, List.reverse_append]
    rfl
section
variable {m r : Int} {st b s k : Nat}
noncomputable def grps (m r : Int) (st b s k : Nat) : List (List Nat) := (List.range k).map fun i => dgs m r st (b + s * i) s
theorem rowOk_of {vs : List Int} (hs : 1 ≤ s) (h0 : vs[0]? ≠ some 0) (hpos : ∀ j x, gitem vs j = some x → 1 ≤ x ∧ x ≤ 100000) (h : ∀ i, i < k → gitem vs i = some (s : Int)) : RowOk vs (dgs m r st b (s * k)) (grps m r st b s k).reverse := by
  refine ⟨h0, hpos, ?_⟩
  rw [dgs_len, lgr_chunks hs k (s * k + 1) 0 (fun i hi => by rw [Nat.zero_add]; exact h i hi) (by have := Nat.le_mul_of_pos_left k (show 0 < s by lia); lia)]
  congr 1
  refine List.map_congr_left fun i hi => ?_
  have hi := List.mem_range.mp hi
  have : s * (i + 1) ≤ s * k := Nat.mul_le_mul_left s (by lia)
  rw [Nat.mul_succ] at this
  rw [dgs_drop, dgs_take (by lia)]
theorem row1 (hs : 1 ≤ s) (hs2 : s ≤ 101) : RowOk [(s : Int), 0] (dgs m r st b (s * k)) (grps m r st b s k).reverse := by
  have a0 : stg [(s : Int), 0] 0 = .at 0 0 := rfl
  have a1 := stg_at a0 (x := (s : Int)) rfl (by lia) (by lia)
  have a2 := stg_zero a1.2 rfl
  have hall : ∀ i, gitem [(s : Int), 0] i = some (s : Int) := fun i => by
    match i with
    | 0 => exact a1.1
    | 1 => exact a2.1
    | i + 2 => exact gitem_inf a2.2 (by lia)
  refine rowOk_of hs (by simp; lia) (fun j x h => ?_) fun i _ => hall i
  rw [hall j] at h; cases h; lia
theorem row2 (hs : 1 ≤ s) (hs2 : s ≤ 101) : RowOk [(s : Int), s, 0, 9] (dgs m r st b (s * k)) (grps m r st b s k).reverse := by
  have a0 : stg [(s : Int), s, 0, 9] 0 = .at 0 0 := rfl
  have a1 := stg_at a0 (x := (s : Int)) rfl (by lia) (by lia)
  have a2 := stg_at a1.2 (x := (s : Int)) rfl (by lia) (by lia)
  have a3 := stg_zero a2.2 rfl
  have hall : ∀ i, gitem [(s : Int), s, 0, 9] i = some (s : Int) := fun i => by
    match i with
    | 0 => exact a1.1
    | 1 => exact a2.1
    | 2 => exact a3.1
    | i + 3 => exact gitem_inf a3.2 (by lia)
  refine rowOk_of hs (by simp; lia) (fun j x h => ?_) fun i _ => hall i
  rw [hall j] at h; cases h; lia
theorem row3 (hs : 1 ≤ s) (hs2 : s ≤ 101) : RowOk (List.replicate k (s : Int)) (dgs m r st b (s * k)) (grps m r st b s k).reverse := by
  have hat : ∀ i, i ≤ k → ∃ l, stg (List.replicate k (s : Int)) i = .at i l := fun i => by
    induction i with
    | zero => exact fun _ => ⟨0, rfl⟩
    | succ i ih =>
      intro hi
      obtain ⟨l, h⟩ := ih (by lia)
      exact ⟨_, (stg_at h (x := (s : Int)) (by rw [List.getElem?_replicate, if_pos (by lia)]) (by lia) (by lia)).2⟩
  have hlt : ∀ i, i < k → gitem (List.replicate k (s : Int)) i = some (s : Int) := fun i hi => by
    obtain ⟨l, h⟩ := hat i (by lia)
    exact (stg_at h (x := (s : Int)) (by rw [List.getElem?_replicate, if_pos (by lia)]) (by lia) (by lia)).1
  have hge : ∀ j, k ≤ j → gitem (List.replicate k (s : Int)) j = none := by
    obtain ⟨l, h⟩ := hat k (Nat.le_refl _)
    exact stg_end h (.inl (by rw [List.getElem?_replicate, if_neg (by lia)]))
  refine rowOk_of hs (by rw [List.getElem?_replicate]; split <;> simp; lia) (fun j x h => ?_) hlt
  by_cases hj : j < k
  · rw [hlt j hj] at h; cases h; lia
  · rw [hge j (by lia)] at h; cases h
end
section
variable {m r : Int} {st w e : Nat}
theorem wrow1 (hw : 1300 ≤ w) (hw2 : w ≤ 1400) (he : e < w) {vs : List Int} (hvs : vs = [(w : Int)] ∨ vs = [(w : Int), 127, 1]) : RowOk vs (dgs m r st 0 (2 * w + 1 + e)) [dgs m r st (w + 1 + e) w, dgs m r st 0 (w + 1 + e)] := by
  have a0 : stg vs 0 = .at 0 0 := rfl
  have e0 : vs[0]? = some (w : Int) := by rcases hvs with rfl | rfl <;> rfl
  have a1 := stg_at a0 e0 (by lia) (by lia)
  have a2 := stg_end a1.2 (by rcases hvs with rfl | rfl; exact .inl rfl; exact .inr rfl)
  refine ⟨by rw [e0]; simp; lia, fun j x h => ?_, ?_⟩
  · match j with
    | 0 => rw [a1.1] at h; cases h; lia
    | j + 1 => rw [a2 (j + 1) (by lia)] at h; cases h
  · rw [dgs_len, show 2 * w + 1 + e + 1 = (2 * w + e) + 1 + 1 by lia, lgr_cons a1.1 (by lia), Int.toNat_natCast, lgr_last (a2 1 (by lia)) (by lia), dgs_drop, dgs_take (by lia), dgs_take (by lia)]
    congr 1
    · congr 1 <;> lia
    · congr 2; lia
theorem wrow3 (hw : 1300 ≤ w) (hw2 : w ≤ 1400) (he : e < w) : RowOk [(1 : Int), (w : Int), 0] (dgs m r st 0 (2 * w + 1 + e)) ([dgs m r st (2 * w + e) 1, dgs m r st (w + e) w, dgs m r st e w] ++ if e = 0 then [] else [dgs m r st 0 e]) := by
  have a0 : stg [(1 : Int), (w : Int), 0] 0 = .at 0 0 := rfl
  have a1 := stg_at a0 (x := 1) rfl (by lia) (by lia)
  have a2 := stg_at a1.2 (x := (w : Int)) rfl (by lia) (by lia)
  have a3 := stg_zero a2.2 rfl
  have a4 : ∀ j, 3 ≤ j → gitem [(1 : Int), (w : Int), 0] j = some (w : Int) := fun j hj => gitem_inf a3.2 hj
  refine ⟨by simp, fun j x h => ?_, ?_⟩
  · match j with
    | 0 => rw [a1.1] at h; cases h; lia
    | 1 => rw [a2.1] at h; cases h; lia
    | 2 => rw [a3.1] at h; cases h; lia
    | j + 3 => rw [a4 _ (by lia)] at h; cases h; lia
  · rw [dgs_len, show 2 * w + 1 + e + 1 = (2 * w + e - 4 + 1 + 1) + 1 + 1 + 1 + 1 by lia, lgr_cons a1.1 (by lia), show (1 : Int).toNat = 1 from rfl, lgr_cons a2.1 (by lia), Int.toNat_natCast, lgr_cons a3.1 (by lia), Int.toNat_natCast,
      dgs_drop, dgs_take (by lia), dgs_drop, dgs_take (by lia), dgs_drop, dgs_take (by lia)]
    rw [show 2 * w + 1 + e - 1 - w - w = e by lia]
    by_cases h : e = 0
    · subst h
      rw [lgr_nil, if_pos rfl]
      simp only [List.append_nil]
      congr 1
      · congr 1 <;> lia
      · congr 1
        · congr 1 <;> lia
        · congr 2 <;> lia
    · rw [if_neg h, lgr_cons (a4 3 (by lia)) h, Int.toNat_natCast, show e - w = 0 by lia, lgr_nil, dgs_drop, dgs_take (by lia)]
      simp only [List.cons_append, List.nil_append, Nat.sub_zero, Nat.add_zero]
      congr 1
      · congr 1 <;> lia
      · congr 1
        · congr 1 <;> lia
        · congr 2 <;> lia
theorem wrow4 (hw : 1300 ≤ w) (hw2 : w ≤ 1400) (he : e < w) : RowOk [(w : Int), 0] (dgs m r st 0 (2 * w + 1 + e)) [dgs m r st (w + 1 + e) w, dgs m r st (1 + e) w, dgs m r st 0 (1 + e)] := by
  have a0 : stg [(w : Int), 0] 0 = .at 0 0 := rfl
  have a1 := stg_at a0 (x := (w : Int)) rfl (by lia) (by lia)
  have a2 := stg_zero a1.2 rfl
  have hall : ∀ i, gitem [(w : Int), 0] i = some (w : Int) := fun i => by
    match i with
    | 0 => exact a1.1
    | 1 => exact a2.1
    | i + 2 => exact gitem_inf a2.2 (by lia)
  refine ⟨by simp; lia, fun j x h => ?_, ?_⟩
  · rw [hall j] at h; cases h; lia
  · rw [dgs_len, show 2 * w + 1 + e + 1 = (2 * w + e - 2 + 1) + 1 + 1 + 1 by lia, lgr_cons (hall _) (by lia), Int.toNat_natCast, lgr_cons (hall _) (by lia), Int.toNat_natCast, lgr_cons (hall _) (by lia), Int.toNat_natCast, 
      dgs_drop, dgs_take (by lia), dgs_drop, dgs_take (by lia), dgs_drop, dgs_take (by lia)]
    rw [show 2 * w + 1 + e - w - w - w = 0 by lia, lgr_nil]
    congr 1
    · congr 1 <;> lia
    · congr 1
      · congr 1 <;> lia
      · congr 2 <;> lia
end
end
section
open PySem.NumText
set_option linter.unusedVariables false
theorem map_sum_succ {f : Nat → Int} {k : Nat} : ((List.range (k + 1)).map f).sum = ((List.range k).map f).sum + f k := by
  rw [List.range_succ, List.map_append, List.sum_append]; simp
section
variable {m r : Int} {st b s : Nat} (h0 : 0 ≤ r) (h1 : r < m)
include h0 h1
theorem midy_sum : ∀ k : Nat, m * ((List.range k).map fun i => dv (dgs m r st (b + s * i) s)).sum + ((List.range k).map fun i => rho m r st (b + s * i)).sum + rho m r st (b + s * k) - rho m r st b = 10 ^ s * ((List.range k).map fun i => rho m r st (b + s * i)).sum
  | 0 => by simp
  | k + 1 => by
    have ih := midy_sum k
    have e := dv_dgs h0 h1 (st := st) (b + s * k) s
    rw [map_sum_succ, map_sum_succ, Int.mul_add, Int.mul_add, ← ih, ← e, Nat.mul_succ, ← Nat.add_assoc]
    lia
theorem midy {n p k : Nat} (D : Dv m r n st) (hp : p = n - st) (hk : p = s * k) : m * ((List.range k).map fun i => dv (dgs m r st (b + s * i) s)).sum = (10 ^ s - 1) * ((List.range k).map fun i => rho m r st (b + s * i)).sum := by
  have e := midy_sum h0 h1 (st := st) (b := b) (s := s) k
  have q : rho m r st (b + s * k) = rho m r st b := by rw [← hk, hp]; exact rho_per h0 h1 D b
  rw [Int.sub_mul, Int.one_mul, ← e, q]; lia
end
theorem told_eq {m N V H : Int} (hm : 0 < m) (hN : 0 < N) (e : m * V = N * H) : V / N = H / m ∧ V % N = N * (H % m) / m := by
  have hq := Int.mul_ediv_add_emod H m
  have t0 := Int.emod_nonneg H (show m ≠ 0 by lia)
  have t1 := Int.emod_lt_of_pos H hm
  generalize H / m = q at *
  generalize H % m = t at *
  have hW : m * (V - N * q) = N * t := by
    rw [Int.mul_sub, e, ← hq, Int.mul_add, show m * (N * q) = N * (m * q) by rw [← Int.mul_assoc, Int.mul_comm m N, Int.mul_assoc]]; lia
  generalize hWd : V - N * q = W at hW
  have hNt : N * t / m = W := by rw [← hW]; exact Int.mul_ediv_cancel_left _ (by lia)
  have w0 : 0 ≤ W := by rw [← hNt]; exact Int.ediv_nonneg (Int.mul_nonneg (by lia) t0) (by lia)
  have w1 : W < N := by
    rw [← hNt]
    refine Int.ediv_lt_of_lt_mul hm ?_
    exact Int.mul_lt_mul_of_pos_left t1 hN
  have hV : V = W + N * q := by lia
  rw [hNt, hV, Int.add_mul_ediv_left _ _ (by lia), Int.add_mul_emod_self_left, Int.ediv_eq_zero_of_lt w0 w1, Int.emod_eq_of_lt w0 w1]
  exact ⟨by lia, rfl⟩
theorem whole_text {m r : Int} {st b n p : Nat} (h0 : 0 ≤ r) (h1 : r < m) (D : Dv m r n st) (hp : p = n - st) : rho m r st b * (10 ^ p - 1) / m = dv (dgs m r st b p) := by
  have e := dv_dgs h0 h1 (st := st) b p
  have q : rho m r st (b + p) = rho m r st b := by rw [hp]; exact rho_per h0 h1 D b
  rw [q] at e
  have : rho m r st b * (10 ^ p - 1) = m * dv (dgs m r st b p) := by rw [Int.mul_sub, Int.mul_one, Int.mul_comm]; lia
  rw [this]; exact Int.mul_ediv_cancel_left _ (by lia)
theorem due_eq {B low mid high : Int} (hB : 1 < B) : (low + B * (mid + B * high)) / (B - 1) = B * high + high + mid + (low + mid + high) / (B - 1) ∧ (low + B * (mid + B * high)) % (B - 1) = (low + mid + high) % (B - 1) := by
  have e : low + B * (mid + B * high) = (low + mid + high) + (B - 1) * (B * high + high + mid) := by
    simp only [Int.mul_add, Int.sub_mul, Int.one_mul]; lia
  rw [e, Int.add_mul_ediv_left _ _ (by lia), Int.add_mul_emod_self_left]
  exact ⟨by lia, rfl⟩
theorem fdiv_nn {a b : Int} (hb : 0 < b) : (-a).fdiv (-b) = a / b ∧ (-a).fmod (-b) = -(a % b) := by
  refine ⟨by rw [Int.neg_fdiv_neg, Int.fdiv_eq_ediv_of_nonneg _ (by lia)], ?_⟩
  rw [Int.fmod_def, Int.neg_fdiv_neg, Int.fdiv_eq_ediv_of_nonneg _ (by lia), Int.emod_def, Int.neg_mul]; lia
/-! ## told texts -/
theorem filter_digits : ∀ {l : List Nat}, AllDigits l → l.filter (· != 95) = l := fun {l} h => List.filter_eq_self.mpr fun c hc => by
  have := h c hc
  simp; lia
theorem filter_join : ∀ (ls : List (List Nat)), (∀ l ∈ ls, AllDigits l) → (joinL [95] ls).filter (· != 95) = ls.flatten
  | [], _ => rfl
  | [x], h => by simp [joinL, filter_digits (h x (by simp))]
  | x :: y :: rest, h => by
    show (x ++ [95] ++ joinL [95] (y :: rest)).filter (· != 95) = _
    rw [List.filter_append, List.filter_append, filter_digits (h x (by simp)), filter_join (y :: rest) (fun l hl => h l (by simp at hl ⊢; right; exact hl))]
    simp
theorem drop_last {l : List Nat} (h : l ≠ []) : l = l.dropLast ++ [l.getLast h] := (List.dropLast_concat_getLast h).symm
theorem join_last : ∀ (ls : List (List Nat)), ls ≠ [] → (∀ l ∈ ls, AllDigits l ∧ l ≠ []) → ∃ r c, joinL [95] ls = r ++ [c] ∧ 48 ≤ c ∧ c ≤ 57
  | [x], _, h => by
    have hx := h x (by simp)
    refine ⟨x.dropLast, x.getLast hx.2, drop_last hx.2, ?_⟩
    exact hx.1 _ (List.getLast_mem hx.2)
  | x :: y :: rest, _, h => by
    obtain ⟨r, c, e, h1⟩ := join_last (y :: rest) (by simp) (fun l hl => h l (by simp at hl ⊢; right; exact hl))
    refine ⟨x ++ [95] ++ r, c, ?_, h1⟩
    show x ++ [95] ++ joinL [95] (y :: rest) = _
    rw [e]; simp
theorem join_len : ∀ (ls : List (List Nat)), (joinL [95] ls).length ≤ ls.flatten.length + ls.length
  | [] => by simp [joinL]
  | [x] => by simp [joinL]
  | x :: y :: rest => by
    show (x ++ [95] ++ joinL [95] (y :: rest)).length ≤ _
    have := join_len (y :: rest)
    simp at this ⊢; lia
theorem dig_space {c : Nat} (h : 48 ≤ c ∧ c ≤ 57) : Unicode.isSpace c = false := by
  have : ∀ c < 58, 48 ≤ c → Unicode.isSpace c = false := by decide +kernel
  exact this c (by lia) h.1
theorem told_join {ls : List (List Nat)} {blanks cs : List Nat} (hls : ls ≠ []) (hd : ∀ l ∈ ls, AllDigits l ∧ l ≠ []) (hb : blanks ≠ []) (hbl : ∀ c ∈ blanks, Unicode.isSpace c = true) (hcs : ls.flatten = cs) (hlen : cs.length ≤ 4096) (hl2 : ls.length ≤ 4096) (hl3 : blanks.length ≤ 10) : Told (joinL [95] ls ++ blanks) cs := by
  obtain ⟨r, c, e, hc⟩ := join_last ls hls hd
  have hj := join_len ls
  rw [hcs] at hj
  refine ⟨joinL [95] ls, blanks, rfl, hbl, ⟨r, c, e, dig_space hc⟩, fun q => absurd q hb, ?_, ?_, ?_, ?_, hlen⟩
  · rw [filter_join ls fun l hl => (hd l hl).1, hcs]
  · simp; lia
  · rw [← hcs]; intro c hc
    obtain ⟨l, hl, hcl⟩ := List.mem_flatten.mp hc
    exact (hd l hl).1 c hcl
  · rw [← hcs]
    match ls, hls with
    | l :: rest, _ =>
      have := (hd l (by simp)).2
      cases l with
      | nil => exact absurd rfl this
      | cons => simp
theorem told_dgs {m r : Int} {st a k : Nat} (h0 : 0 ≤ r) (h1 : r < m) (hk : 1 ≤ k) (hk2 : k ≤ 4096) : Told (dgs m r st a k) (dgs m r st a k) := by
  have hd := dgs_digits h0 h1 (st := st) a k
  have hne : dgs m r st a k ≠ [] := fun q => by have := dgs_len (m := m) (r := r) (st := st) (a := a) (k := k); rw [q] at this; simp at this; lia
  refine ⟨dgs m r st a k, [], by simp, by simp, ?_, ?_, filter_digits hd, by rw [dgs_len]; lia, hd, hne, by rw [dgs_len]; lia⟩
  · exact ⟨_, _, drop_last hne, dig_space (hd _ (List.getLast_mem hne))⟩
  · intro _ h; have := hd _ h; lia
theorem dgs_ne {m r : Int} {st a k : Nat} (hk : 1 ≤ k) : dgs m r st a k ≠ [] := fun q => by have := dgs_len (m := m) (r := r) (st := st) (a := a) (k := k); rw [q] at this; simp at this; lia
theorem grps_flat {m r : Int} {st b s : Nat} : ∀ k, (grps m r st b s k).flatten = dgs m r st b (s * k)
  | 0 => rfl
  | k + 1 => by
    unfold grps
    rw [List.range_succ, List.map_append, List.flatten_append]
    show (grps m r st b s k).flatten ++ _ = _
    rw [grps_flat k, Nat.mul_succ, ← dgs_append]
    simp
theorem grps_mem {m r : Int} {st b s k : Nat} (h0 : 0 ≤ r) (h1 : r < m) (hs : 1 ≤ s) : ∀ l ∈ grps m r st b s k, AllDigits l ∧ l ≠ [] := fun l hl => by
  obtain ⟨i, _, rfl⟩ := List.mem_map.mp hl
  exact ⟨dgs_digits h0 h1 _ _, dgs_ne hs⟩
theorem grps_len {m r : Int} {st b s k : Nat} : (grps m r st b s k).length = k := by simp [grps]
theorem grps_ok {m r : Int} {st b s k : Nat} (h0 : 0 ≤ r) (h1 : r < m) : ∀ l ∈ grps m r st b s k, ∀ c ∈ l, c < 1000 := fun l hl c hc => by
  obtain ⟨i, _, rfl⟩ := List.mem_map.mp hl
  have := dgs_digits h0 h1 _ _ c hc
  lia
theorem sv_rev {ls : List (List Nat)} : (sv ls).reverse = sv ls.reverse := by unfold sv; rw [List.map_reverse]
theorem grps_getD {m r : Int} {st b s k o : Nat} (h : k < o) : (sv (grps m r st b s o)).getD k .none = .str (tx (dgs m r st (b + s * k) s)) 0 := by
  rw [List.getD_eq_getElem?_getD]; unfold sv grps
  rw [List.getElem?_map, List.getElem?_map, List.getElem?_range h]; rfl
theorem rep_iv {o : Nat} {x : Int} : (List.replicate o [Value.int x 0]).flatten = iv (List.replicate o x) := by
  induction o with
  | zero => rfl
  | succ o ih => rw [List.replicate_succ, List.flatten_cons, ih]; rfl
section
variable {C : Cx} {A : Around} {env : Env} {loc : Loc} {led : Led}
theorem X_drop {s : Stmt} {led' : Led} {K : Flow → Loc → Led → Prop} (h : Sub led' led) (k : EX C A env s loc led' K) : EX C A env s loc led K := Tri.dropTo h k
theorem lgroupsT (H : CxP C) {vs : List Int} {cs : List Nat} {out : List (List Nat)} {rw : Addr} {K : Value → Loc → Led → Prop} (R : RowOk vs cs out) (hcs : cs.length ≤ 5000) (fit : Fit A 8) (hrow : Ent.obj rw (OList (iv vs)) ∈ led) (hK : ∀ g, K (.ref g) loc (.obj g (OList (sv out)) :: led)) : CallT C A env (.ref 106) [.str (tx cs) 0, .ref rw] loc led K :=
  lgroups H hcs R.h0 R.hpos fit hrow (by rw [R.out]; exact hK)
theorem divmodT (H : CxP C) {a b q r : Int} {K : Value → Loc → Led → Prop} (hb : 0 < b) (ha : Builtin.Int.intBits a ≤ 30000) (hb' : Builtin.Int.intBits b ≤ 8000) (hq : a / b = q) (hr : a % b = r) (fit : Fit A 28)
    (hK : ∀ t, K (.ref t) loc (.obj t (OTup [.int q 0, .int r 0]) :: led)) : CallT C A env (.ref 78) [.int a 0, .int b 0] loc led K :=
  divmod_all H (by lia) ha hb' _ _ _ _ _ fit (by rw [Int.fdiv_eq_ediv_of_nonneg _ (Int.le_of_lt hb), Int.fmod_eq_emod_of_nonneg _ (Int.le_of_lt hb), hq, hr]; exact hK)
theorem divmodN (H : CxP C) {a b q r x y : Int} {K : Value → Loc → Led → Prop} (hx : x = -a) (hy : y = -b) (hb : 0 < b) (ha : Builtin.Int.intBits x ≤ 30000) (hb' : Builtin.Int.intBits y ≤ 8000) (hq : a / b = q) (hr : a % b = r) (fit : Fit A 28)
    (hK : ∀ t, K (.ref t) loc (.obj t (OTup [.int q 0, .int (-r) 0]) :: led)) : CallT C A env (.ref 78) [.int x 0, .int y 0] loc led K := by
  subst hx hy
  exact divmod_all H (by lia) ha hb' _ _ _ _ _ fit (by rw [(fdiv_nn hb).1, (fdiv_nn hb).2, hq, hr]; exact hK)
theorem O_ne_tup2 {t1 t2 : Addr} {a b c d : Int} {K : Value → Loc → Led → Prop} (hf : Fit A 4) (h1 : Ent.obj t1 (OTup [.int a 0, .int b 0]) ∈ led) (h2 : Ent.obj t2 (OTup [.int c 0, .int d 0]) ∈ led) (e1 : a = c) (e2 : b = d) (h : K (.bool false) loc led) :
    Op2 C A env (compareOp .NotEq) (.ref t1) (.ref t2) loc led K := O_ne_tups (xs := [a, b]) (ys := [c, d]) hf h1 h2 (by rw [e1, e2]; simpa using h)
theorem O_eq_tup2 {t1 t2 : Addr} {a b c d : Int} {K : Value → Loc → Led → Prop} (hf : Fit A 4) (h1 : Ent.obj t1 (OTup [.int a 0, .int b 0]) ∈ led) (h2 : Ent.obj t2 (OTup [.int c 0, .int d 0]) ∈ led) (e1 : a = c) (e2 : b = d) (h : K (.bool true) loc led) :
    Op2 C A env (compareOp .Eq) (.ref t1) (.ref t2) loc led K := O_eq_tups (xs := [a, b]) (ys := [c, d]) hf h1 h2 (by rw [e1, e2]; simpa using h)
end
end
section
open PySem.NumText
open PySem.Builtin.Int (intBits)
set_option linter.unusedVariables false
theorem ten_bits (k : Nat) : intBits ((10 : Int) ^ k) ≤ 4 * k + 1 := bits_lt (Int.le_of_lt (Int.pow_pos (by decide))) (Int.lt_of_le_of_lt (ten_le k) (by rw [Int.pow_succ]; have := two_pos (4 * k); lia))
theorem lt10_bits {x : Int} {k : Nat} (h0 : 0 ≤ x) (h : x ≤ 10 ^ k) : intBits x ≤ 4 * k + 1 := bits_lt h0 (Int.lt_of_le_of_lt (Int.le_trans h (ten_le k)) (by rw [Int.pow_succ]; have := two_pos (4 * k); lia))
theorem sum_range {f : Nat → Int} {c : Int} (h : ∀ i, 0 ≤ f i ∧ f i ≤ c) : ∀ k : Nat, 0 ≤ ((List.range k).map f).sum ∧ ((List.range k).map f).sum ≤ k * c
  | 0 => by simp
  | k + 1 => by
    have := sum_range h k
    have := h k
    rw [map_sum_succ, Int.natCast_succ, Int.add_mul]; lia
theorem midy_bits {m N V H : Int} {k s : Nat} (hm : 0 < m) (hN : N = 10 ^ s - 1) (hN0 : 0 < N) (e : m * V = N * H) (hH : 0 ≤ H ∧ H ≤ k * m) (hk : k ≤ 101) : intBits V ≤ 4 * (s + 3) + 1 := by
  have hV0 : 0 ≤ V := by
    have : 0 ≤ m * V := by rw [e]; exact Int.mul_nonneg (by lia) hH.1
    exact Int.nonneg_of_mul_nonneg_right this hm
  refine lt10_bits hV0 ?_
  have h1 : N * H ≤ N * (k * m) := Int.mul_le_mul_of_nonneg_left hH.2 (by lia)
  rw [← e, show N * ((k : Int) * m) = m * (N * k) by rw [← Int.mul_assoc, Int.mul_comm]] at h1
  have h2 := Int.le_of_mul_le_mul_left h1 hm
  have h3 : N * (k : Int) ≤ N * 1000 := Int.mul_le_mul_of_nonneg_left (by lia) (by lia)
  have h4 : (10 : Int) ^ (s + 3) = 10 ^ s * 1000 := by rw [Int.pow_add]; rfl
  rw [h4]
  have : N * 1000 = 10 ^ s * 1000 - 1000 := by rw [hN]; lia
  lia
theorem dgs_bits {m r : Int} {st a k : Nat} (h0 : 0 ≤ r) (h1 : r < m) : intBits (dv (dgs m r st a k)) ≤ 4 * k + 1 ∧ 0 ≤ dv (dgs m r st a k) := by
  have h := rho_range h0 h1 (st := st) a
  have hp : (0 : Int) ≤ 10 ^ k := Int.le_of_lt (Int.pow_pos (by decide))
  have e : 0 ≤ dv (dgs m r st a k) := by unfold dv; lia
  refine ⟨lt10_bits e ?_, e⟩
  rw [dv_div h0 h1]
  refine Int.le_of_lt_add_one (Int.ediv_lt_of_lt_mul (by lia) ?_)
  have : (10 : Int) ^ k * rho m r st a ≤ 10 ^ k * m := Int.mul_le_mul_of_nonneg_left (by lia) hp
  rw [Int.add_mul]; lia
noncomputable def pick (f : Int → Option Value) (l : List Int) (k : Nat) : Option Value := (l[k]?).bind f
theorem gather_pick {α : Type} {f : α → Option Value} {l : List α} : ∀ k, gather (fun k => (l[k]?).bind f) k = (l.take k).filterMap f
  | 0 => by simp [gather]
  | k + 1 => by
    rw [gather_succ, gather_pick k, List.take_add_one, List.filterMap_append]
    congr 1
    cases h : l[k]? <;> simp
    rename_i a
    cases hf : f a <;> simp [List.filterMap, hf]
theorem gather_lens {ls : List (List Nat)} : gather (fun k => (ls[k]?).bind fun l => some (.int l.length 0)) ls.length = iv (ls.map fun l => (l.length : Int)) := by
  rw [gather_pick, List.take_length]; unfold iv; rw [List.map_map, ← List.filterMap_eq_map]; rfl
theorem gather_pos {ds : List Int} : gather (fun k => (ds[k]?).bind fun x => if 0 < x then some (.int x 0) else none) ds.length = iv (ds.filter fun x => decide (0 < x)) := by
  rw [gather_pick, List.take_length]
  induction ds with
  | nil => rfl
  | cons x r ih =>
    by_cases h : 0 < x
    · rw [List.filterMap_cons, List.filter_cons, if_pos h, if_pos (decide_eq_true h)]; simp only [ih]; rfl
    · rw [List.filterMap_cons, List.filter_cons, if_neg h, if_neg (by simpa using h)]; simp only [ih]
theorem gather_dv {ls : List (List Nat)} : gather (fun k => (ls[k]?).bind fun l => some (.int (dv l) 0)) ls.length = iv (ls.map dv) := by
  rw [gather_pick, List.take_length]; unfold iv; rw [List.map_map, ← List.filterMap_eq_map]; rfl
theorem dgs_cat {m r : Int} {st a k l c n : Nat} (h : a + k = c) (hn : k + l = n) : dgs m r st a k ++ dgs m r st c l = dgs m r st a n := by subst h hn; exact dgs_append
theorem mid_eq {m r : Int} {st w e : Nat} : dv (dgs m r st (1 + e) w) + 10 ^ w * dv (dgs m r st 0 (1 + e)) = dv (dgs m r st 0 (1 + e + w)) := by
  have h : dgs m r st 0 (1 + e + w) = dgs m r st 0 (1 + e) ++ dgs m r st (1 + e) w := (dgs_cat (by lia) rfl).symm
  rw [h, dv_append, dgs_len, Int.mul_comm, Int.add_comm]
theorem num_eq {m r : Int} {st w e : Nat} : dv (dgs m r st 0 (2 * w + 1 + e)) = dv (dgs m r st (w + 1 + e) w) + 10 ^ w * (dv (dgs m r st (1 + e) w) + 10 ^ w * dv (dgs m r st 0 (1 + e))) := by
  have h : dgs m r st 0 (2 * w + 1 + e) = dgs m r st 0 (1 + e + w) ++ dgs m r st (w + 1 + e) w := (dgs_cat (by lia) (by lia)).symm
  rw [mid_eq, h, dv_append, dgs_len, Int.mul_comm, Int.add_comm]
theorem flat3 {m r : Int} {st w e : Nat} : [dgs m r st 0 (1 + e), dgs m r st (1 + e) w, dgs m r st (w + 1 + e) w].flatten = dgs m r st 0 (2 * w + 1 + e) := by
  have h1 : dgs m r st 0 (1 + e) ++ dgs m r st (1 + e) w = dgs m r st 0 (1 + e + w) := dgs_cat (by lia) rfl
  have h2 : dgs m r st 0 (1 + e + w) ++ dgs m r st (w + 1 + e) w = dgs m r st 0 (2 * w + 1 + e) := dgs_cat (by lia) (by lia)
  show dgs m r st 0 (1 + e) ++ (dgs m r st (1 + e) w ++ (dgs m r st (w + 1 + e) w ++ [])) = _
  rw [List.append_nil, ← List.append_assoc, h1, h2]
theorem sv_getD {ls : List (List Nat)} {k : Nat} (h : k < ls.length) : ∃ l, ls[k]? = some l ∧ (sv ls).getD k .none = .str (tx l) 0 := by
  refine ⟨ls[k], List.getElem?_eq_getElem h, ?_⟩
  rw [List.getD_eq_getElem?_getD]; unfold sv
  rw [List.getElem?_map, List.getElem?_eq_getElem h]; rfl
theorem iv_getD' {ls : List Int} {k : Nat} (h : k < ls.length) : ∃ x, ls[k]? = some x ∧ (iv ls).getD k .none = .int x 0 := by
  refine ⟨ls[k], List.getElem?_eq_getElem h, ?_⟩
  rw [List.getD_eq_getElem?_getD]; unfold iv
  rw [List.getElem?_map, List.getElem?_eq_getElem h]; rfl
structure DueOk (ws : List Int) (cs : List Nat) (out : List (List Nat)) (ds : List Int) : Prop where
  R : RowOk ws cs out
  len : ∀ l ∈ out, l.length ≤ 5000
  due : (out.map fun l => (l.length : Int)) = ds.filter fun x => decide (0 < x)
  small : ds.length ≤ 10 ∧ out.length ≤ 10
section
variable {m r : Int} {st w e : Nat}
theorem due1 (hw : 1300 ≤ w) (hw2 : w ≤ 1400) (he : e < w) {vs : List Int} (hvs : vs = [(w : Int)] ∨ vs = [(w : Int), 127, 1]) :
    DueOk vs (dgs m r st 0 (2 * w + 1 + e)) [dgs m r st (w + 1 + e) w, dgs m r st 0 (w + 1 + e)] [(w : Int), ((2 * w + 1 + e : Nat) : Int) - w] := by
  refine ⟨wrow1 hw hw2 he hvs, ?_, ?_, by simp⟩
  · simp [dgs_len]; lia
  · rw [List.filter_eq_self.mpr (by simp; lia)]
    simp [dgs_len]; lia
theorem due3 (hw : 1300 ≤ w) (hw2 : w ≤ 1400) (he : e < w) :
    DueOk [(1 : Int), (w : Int), 0] (dgs m r st 0 (2 * w + 1 + e)) ([dgs m r st (2 * w + e) 1, dgs m r st (w + e) w, dgs m r st e w] ++ if e = 0 then [] else [dgs m r st 0 e]) [(1 : Int), (w : Int), (w : Int), ((2 * w + 1 + e : Nat) : Int) - 2 * (w : Int) - 1] := by
  refine ⟨wrow3 hw hw2 he, ?_, ?_, ?_⟩
  · by_cases h : e = 0
    · simp [h, dgs_len]; lia
    · simp [h, dgs_len]; lia
  · by_cases h : e = 0
    · subst h
      rw [if_pos rfl, show (((2 * w + 1 + 0 : Nat) : Int) - 2 * (w : Int) - 1) = 0 by lia]
      have hp : 0 < w := by lia
      simp [dgs_len, hp]
    · rw [if_neg h, show (((2 * w + 1 + e : Nat) : Int) - 2 * (w : Int) - 1) = (e : Int) by lia, List.filter_eq_self.mpr (by simp; lia)]
      simp [dgs_len]
  · by_cases h : e = 0 <;> simp [h]
theorem due4 (hw : 1300 ≤ w) (hw2 : w ≤ 1400) (he : e < w) :
    DueOk [(w : Int), 0] (dgs m r st 0 (2 * w + 1 + e)) [dgs m r st (w + 1 + e) w, dgs m r st (1 + e) w, dgs m r st 0 (1 + e)] [(w : Int), (w : Int), ((2 * w + 1 + e : Nat) : Int) - 2 * (w : Int)] := by
  refine ⟨wrow4 hw hw2 he, ?_, ?_, by simp⟩
  · simp [dgs_len]; lia
  · rw [List.filter_eq_self.mpr (by simp; lia)]
    simp [dgs_len]; lia
end
end
local macro_rules | `(tactic| tb_start) => do
  let cs : Array Lean.Term := #[← `(by with_unfolding_all rfl), ← `(Fit.hd (by assumption)), ← `(by kernel_rfl), ← `(by intro _; with_unfolding_all rfl), ← `(_), ← `(?_)]
  let alts ← ([(``R_SliceRev, []), (``X_AssignComp, [0, 1, 2, 3, 4, 0, 5]), (``R_Comp, [1, 2, 3, 4, 0, 5]), (``R_And2, [])] : List (Lean.Name × List Nat)).toArray.mapM fun (n, l) => do
    if l.isEmpty then `(Lean.Parser.Tactic.tacticSeq| with_reducible refine $(Lean.mkIdent n) ?_)
    else
      let xs := l.toArray.map fun i => cs.getD i ⟨.missing⟩
      if n.isAnonymous then `(Lean.Parser.Tactic.tacticSeq| with_reducible refine ⟨$xs,*⟩)
      else `(Lean.Parser.Tactic.tacticSeq| (with_reducible refine $(Lean.mkIdent n) ?_; refine ⟨$xs,*⟩))
  let b ← `(tactic| first $[| $alts:tacticSeq]*)
  return b
section
set_option maxRecDepth 100000
set_option linter.unusedVariables false
/-- what stands where no frame stands -/
structure Base (C : Cx) (s : Shared) : Prop where
  ok : C.Ok
  keep : ∀ b o, C.h₀.get? b = some o → s.heap.get? b = some o
  size : C.h₀.objs.size ≤ s.heap.objs.size
  os : s.os = C.os
  bare : AllBare s.gens
  tabs : ∀ q ∈ C.tabs, TabInv s.heap q
structure After (C : Cx) (s : Shared) : Prop where
  keep : ∀ b o, C.h₀.get? b = some o → s.heap.get? b = some o
  os : s.os = C.os
  bare : AllBare s.gens
  tabs : ∀ q ∈ C.tabs, TabInv s.heap q
section
variable {C : Cx} {A : Around}
theorem C_entry {f : Addr} {fd : FuncData} {body : List Stmt} {args : List Value} {K : Value → Prop} {s : Shared} {loc' : Loc} {cv : List (Str × Option Value)} (pn : List Str)
    (S : Base C s) (hd : A.depth < 1000) (hget : ∃ o, s.heap.get? f = some o ∧ o.data = .func fd) (hcode : s.heap.CodeRec fd.code fd.qualname) (hco : fd.scope.isCoroutine = false) (hgen : fd.scope.isGenerator = false) (hkind : fd.scope.kind = .function) (hbody : fd.body = .stmts body) (hclo : fd.closure = [])
    (hbind : ∀ args', erL args' = args → bindArgs fd ⟨args', []⟩ = pure (pn.zip args'))
    (hlen : pn.length = args.length) (hcv : (cellsFrom 0 fd.scope.names []).map (·.1) = cv.map (·.1))
    (hloc : ∀ p ∈ loc', (p ∈ pn.zip (args.map some)) ∨ (p.1 ∉ pn ∧ p.2 = none)) (hcvs : ∀ p ∈ cv, (p ∈ pn.zip (args.map some)) ∨ (p.1 ∉ pn ∧ p.2 = none))
    (hck : (decide (pn.Nodup) && decide ((loc'.map (·.1)).Nodup) && decide ((cv.map (·.1)).Nodup) && pn.all (fun x => fd.scope.names.lookup x == some .local || fd.scope.names.lookup x == some .cell) && (loc'.map (·.1)).all (fun x => fd.scope.names.lookup x == some .local && !(x == ("__debug__" : Str))) && (cv.map (·.1)).all (fun x => fd.scope.names.lookup x == some .cell)) = true)
    (h : ∀ L (cs : List Addr), cs.length = cv.length → EXS C (A.deeper (cenv fd L f ((cv.map (·.1)).zip cs))) (cenv fd L f ((cv.map (·.1)).zip cs)) body loc' (cellEnts cv cs ++ [])
      (fun fl l d => K (retOf fl))) :
    ∀ args', erL args' = args → wpAny C.M A (call (.ref f) args') (fun v s' => K (er v) ∧ After C s') (fun _ _ => False) s := fun args' ha => by
  simp only [Bool.and_eq_true, decide_eq_true_eq] at hck
  obtain ⟨⟨⟨⟨⟨k1, k2⟩, k3⟩, k4⟩, k5⟩, k6⟩ := hck
  have k4' : ∀ x ∈ pn, fd.scope.names.lookup x = some .local ∨ fd.scope.names.lookup x = some .cell := fun x hx => by
    have := List.all_eq_true.mp k4 x hx; simpa using this
  have k5' : ∀ p ∈ loc', fd.scope.names.lookup p.1 = some .local ∧ (p.1 == ("__debug__" : Str)) = false := fun p hp => by
    have := List.all_eq_true.mp k5 p.1 (List.mem_map_of_mem hp)
    simp only [Bool.and_eq_true, beq_iff_eq, Bool.not_eq_true'] at this; exact this
  have k6' : ∀ p ∈ cv, fd.scope.names.lookup p.1 = some .cell := fun p hp => by
    have := List.all_eq_true.mp k6 p.1 (List.mem_map_of_mem hp); simpa using this
  obtain ⟨o, ho, hdata⟩ := hget
  have hzip : (pn.zip args').map (·.1) = pn := by rw [List.map_fst_zip]; rw [hlen, ← ha]; simp
  have hzn : ((pn.zip args').map (·.1)).Nodup := by rw [hzip]; exact k1
  generalize hL : s.heap.objs.size = L
  have hcf : cellsFrom (L + 1) fd.scope.names [] = (cv.map (·.1)).zip ((cellsFrom (L + 1) fd.scope.names []).map (·.2)) := by
    rw [← hcv, cellsFrom_names fd.scope.names 0 (L + 1) [] [] rfl]; exact zip_fst_snd _
  generalize hcs : (cellsFrom (L + 1) fd.scope.names []).map (·.2) = cs at hcf
  have hlen2 : cs.length = cv.length := by
    rw [← hcs, List.length_map]
    have := congrArg List.length (cellsFrom_names fd.scope.names 0 (L + 1) [] [] rfl)
    have e2 := congrArg List.length hcv
    simp only [List.length_map] at this e2
    lia
  have henv : callEnvC fd L f = cenv fd L f ((cv.map (·.1)).zip cs) := by unfold callEnvC newEnv cenv; rw [hcf]
  refine wpAny_call (codeAny_call_cells hd ho hdata (S.ok.nolimit.keeps S.keep) hcode hbody (hbind args' ha) hclo ?_ (fun s₁ X => ?_) hco hgen hkind)
  · intro x hx
    have hx1 : x.1 ∈ pn := hzip ▸ List.mem_map_of_mem hx
    rcases k4' _ hx1 with h | h
    · exact .inl h
    · refine .inr ⟨h, ?_⟩
      rw [hL]
      exact cellsFrom_some _ _ _ (.inl h)
  · rw [hL, henv] at X ⊢
    obtain ⟨h₁, tk, rfl, hkeep⟩ := X.done
    have key0 : St C (cenv fd L f ((cv.map (·.1)).zip cs)) loc' [] { s with heap := h₁, toks := tk } := by
      refine ⟨S.ok, ⟨_, ⟨X.toInCall.ns, fun b o e => hkeep _ _ (S.keep b o e), hL ▸ S.size⟩, fun p hp => ?_⟩, hkind, k2, k5', (fun e he => nomatch he), List.nodup_nil, S.os, S.bare, fun q hq => (S.tabs q hq).keeps hkeep⟩
      rcases hloc p hp with hp' | ⟨hp1, hp2⟩
      · have : ∃ v, (p.1, v) ∈ pn.zip args' ∧ some (er v) = p.2 := by
          rw [← ha, show (erL args').map some = args'.map (fun v => some (er v)) by simp [erL], List.zip_map_right] at hp'
          obtain ⟨q, hq, e⟩ := List.mem_map.mp hp'
          rw [← e]; exact ⟨q.2, hq, rfl⟩
        obtain ⟨v, hv, e⟩ := this
        rw [bindL_mem (k5' p hp).1 hzn hv]; exact e
      · rw [bindL_not (by rw [hzip]; exact hp1), hp2]; rfl
    have hcell : ∀ x ∈ cv.zip cs, ∃ u, h₁.IsCell x.2 u ∧ u.map er = x.1.2 := by
      intro x hx
      have hmem : (x.1.1, x.2) ∈ (cv.map (·.1)).zip cs := by
        rw [List.zip_map_left]; exact List.mem_map.mpr ⟨x, hx, rfl⟩
      have hlk : ((cv.map (·.1)).zip cs).lookup x.1.1 = some x.2 := by
        refine lookup_of_mem_nodup ?_ hmem
        rw [List.map_fst_zip (by simp [hlen2])]; exact k3
      have hp : x.1 ∈ cv := (List.of_mem_zip hx).1
      have hkl : fd.scope.names.lookup x.1.1 ≠ some .local := by rw [k6' _ hp]; decide
      refine ⟨_, X.cell _ _ hlk, ?_⟩
      rcases hcvs _ hp with hp' | ⟨hp1, hp2⟩
      · have : ∃ v, (x.1.1, v) ∈ pn.zip args' ∧ some (er v) = x.1.2 := by
          rw [← ha, show (erL args').map some = args'.map (fun v => some (er v)) by simp [erL], List.zip_map_right] at hp'
          obtain ⟨q, hq, e⟩ := List.mem_map.mp hp'
          rw [← e]; exact ⟨q.2, hq, rfl⟩
        obtain ⟨v, hv, e⟩ := this
        rw [bindC_mem hkl hzn hv]; exact e
      · rw [bindC_not (by rw [hzip]; exact hp1), hp2]; rfl
    have hap : cs.Nodup := by
      have := X.apart
      have e : ((cv.map (·.1)).zip cs).map (·.2) = cs := by rw [List.map_snd_zip]; simp [hlen2]
      rw [← e]
      exact List.pairwise_map.mpr this
    have habove : ∀ c ∈ cs, L < c := by
      intro c hc
      have e : ((cv.map (·.1)).zip cs).map (·.2) = cs := by rw [List.map_snd_zip]; simp [hlen2]
      rw [← e] at hc
      obtain ⟨q, hq, rfl⟩ := List.mem_map.mp hc
      exact X.above q.1 q.2 hq
    have key : St C (cenv fd L f ((cv.map (·.1)).zip cs)) loc' (cellEnts cv cs ++ []) { s with heap := h₁, toks := tk } := by
      refine key0.cellsIn cv cs hap hcell (fun c hc => ⟨?_, Nat.ne_of_gt (habove c hc), ?_⟩) hlen2.symm
      · exact Nat.le_trans (hL ▸ S.size) (Nat.le_of_lt (habove c hc))
      · intro e he; cases he
    refine wpAny_mono (h L cs hlen2 _ key) (fun fl s' ⟨l, d, k, S'⟩ => ?_) fun _ _ x => x.elim
    have aft : After C s' := ⟨S'.keep, S'.os, S'.bare, S'.tabs⟩
    cases fl <;> exact ⟨k, aft⟩

end
theorem C_entryF {C : Cx} {A : Around} (H : CxP C) {s : Shared} {f c : Addr} {o oc : Obj} {fd : FuncData} {body : List Stmt} {vs : Array Value} {t : Tok} {q : Str} {args : List Value} {K : Value → Prop} {loc' : Loc} {cv : List (Str × Option Value)} (pn : List Str) (B : Base C s) (hd' : A.depth < 1000)
    (h1 : (hpK C.w.params).lookup f = some o) (h2 : o.data = .func fd) (h3 : fd.body = .stmts body) (h4 : (hpK C.w.params).lookup c = some oc) (h5 : fd.code = .ref c) (h6 : oc.data = .fields vs)
    (h7 : vs[1]? = some (.str q t)) (h7' : q = fd.qualname) (h8 : fd.scope.isCoroutine = false) (h9 : fd.scope.isGenerator = false) (h10 : fd.scope.kind = .function) (hclo : fd.closure = [])
    (hbind : ∀ args', erL args' = args → bindArgs fd ⟨args', []⟩ = pure (pn.zip args'))
    (hlen : pn.length = args.length) (hcv : (cellsFrom 0 fd.scope.names []).map (·.1) = cv.map (·.1))
    (hloc : ∀ p ∈ loc', (p ∈ pn.zip (args.map some)) ∨ (p.1 ∉ pn ∧ p.2 = none)) (hcvs : ∀ p ∈ cv, (p ∈ pn.zip (args.map some)) ∨ (p.1 ∉ pn ∧ p.2 = none))
    (hck : (decide (pn.Nodup) && decide ((loc'.map (·.1)).Nodup) && decide ((cv.map (·.1)).Nodup) && pn.all (fun x => fd.scope.names.lookup x == some .local || fd.scope.names.lookup x == some .cell) && (loc'.map (·.1)).all (fun x => fd.scope.names.lookup x == some .local && !(x == ("__debug__" : Str))) && (cv.map (·.1)).all (fun x => fd.scope.names.lookup x == some .cell)) = true)
    (h : ∀ L (cs : List Addr), cs.length = cv.length → EXS C (A.deeper (cenv fd L f ((cv.map (·.1)).zip cs))) (cenv fd L f ((cv.map (·.1)).zip cs)) body loc' (cellEnts cv cs ++ [])
      (fun fl l d => K (retOf fl)))  :
    ∀ args', erL args' = args → wpAny C.M A (call (.ref f) args') (fun v s' => K (er v) ∧ After C s') (fun _ _ => False) s :=
  C_entry pn B hd' ⟨o, B.keep _ _ (H.k _ _ h1), h2⟩ ⟨c, oc, vs, t, h5, B.keep _ _ (H.k _ _ h4), h6, h7' ▸ h7⟩ h8 h9 h10 h3 hclo hbind hlen hcv hloc hcvs hck h
/-- a list that stands below the ghost's end, and never changes -/
noncomputable def Old (C : Cx) (a : Addr) (vs : List Value) : Prop := ∃ items : Array Value, C.h₀.IsList a items ∧ erL items.toList = vs
section
variable {C : Cx} {A : Around} {env : Env} {loc : Loc} {led : Led}
theorem Old.at {s : Shared} {a : Addr} {vs : List Value} (S : St C env loc led s) (hm : Old C a vs) : ∃ items : Array Value, s.heap.IsList a items ∧ erL items.toList = vs ∧ items.size = vs.length := by
  obtain ⟨items, g, e⟩ := hm
  obtain ⟨o, g1, g2⟩ := g
  exact ⟨items, ⟨o, S.keep _ _ g1, g2⟩, e, by rw [← e]; simp⟩
theorem B_len_old {a : Addr} {vs : List Value} {K : Value → Loc → Led → Prop} (hm : Old C a vs) (hn : vs.length ≤ sizeLine) (h : K (.int vs.length 0) loc led) : CallT C A env (.builtin "len") [.ref a] loc led K := fun args' ha s S => by
  obtain ⟨x, rfl⟩ := erL1 ha
  simp only [List.map_cons, List.map_nil, List.cons.injEq, and_true] at ha
  rw [er_is_ref ha]
  obtain ⟨items, g, e, hs⟩ := hm.at S
  exact call_len_list g (by rw [hs]; exact Int.lt_of_le_of_lt (Int.ofNat_le.mpr hn) sizeLine_lt) ⟨_, _, by rw [← hs] at h; exact h, S.toks⟩
theorem SUB_old {value slice : Expr} {a : Addr} {vs : List Value} {i : Int} {v : Value} {K : Value → Loc → Led → Prop} (j : Nat) (hm : Old C a vs) (hv : vs[j]? = some v)
    (hi : i = j) (hn : vs.length ≤ sizeLine) (h : K v loc led)
    (hs : ∀ a k u, subscripted slice false (.ref a) (.int k u) = operate [.ref a, .int k u] (getItem (.ref a) (.int k u)) := by intro _ _ _; with_unfolding_all rfl)
    (ht : ∀ a r, letTemporaryGo value (.ref a) r = pure () := by intro _ _; with_unfolding_all rfl) : SUB C A env value slice (.ref a) (.int i 0) loc led K := fun o' i' ho hi' s S => by
  rw [er_is_ref ho]
  obtain ⟨t, rfl⟩ := er_is_int hi'
  obtain ⟨items, g, e, hsz⟩ := hm.at S
  obtain ⟨x, hx, hxv⟩ := erL_get e hv
  have hj : j < vs.length := (List.getElem?_eq_some_iff.mp hv).1
  have hz := Int.lt_of_le_of_lt (Int.ofNat_le.mpr hn) sizeLine_lt
  refine subscriptTail_builtin g.typeIs slot_list_getitem.lookup ?_ (hs _ _ _) (ht _)
  subst hi
  exact wpAny_getItem_list g (by lia) (by lia) (by simpa using hx) ⟨_, _, by rw [hxv]; exact h, S⟩
end
set_option maxHeartbeats 1000000 in
theorem law_cell0 {C : Cx} (H : CxP C) {xs : List Int} {p : Nat} {o : Int} (hlen : xs.length ≤ 1000) {A : Around} {env : Env} {loc : Loc} {led : Led} {K : Value → Loc → Led → Prop} {sl : Addr} (fit : Fit A 2) (hsl : Old C sl (iv xs))
    (hK : K (.int (xs.getD p o) 0) loc led) : CallT C A env (.ref 99) [.ref sl, .int p 0, .int o 0] loc led K := by
  refine C_def (loc' := [("script", some (.ref sl)), ("place", some (.int p 0)), ("other", some (.int o 0))]) ["script", "place", "other"] [] fit.lt
    (FnOk.of H (f := 99) (c := 98) rfl rfl rfl rfl rfl rfl rfl rfl rfl rfl rfl) (fun args' ha s S => ?_) rfl rfl (by kernel_rfl) (fun L => ?_)
  · obtain ⟨x, y, z, rfl⟩ := erL3 ha
    exact BindsTo.of_eq (by rfl)
  · refine with_env H fit.deeper [("len", .builtin "len")] [] rfl rfl rfl (by kernel_rfl) (by kernel_rfl) rfl (fun hE fit' => ?_)
    have hz : (iv xs).length ≤ sizeLine := by rw [iv_length]; exact Nat.le_trans hlen (by decide)
    repeat tb_start
    refine B_len_old hsl hz ?_
    rw [iv_length]
    repeat tb_start
    refine dec_ite (fun hp => ?_) (fun hp => ?_)
    · repeat tb_start
      have hp' : p < xs.length := by lia
      refine SUB_old (v := .int xs[p] 0) p hsl (by simp [iv, hp']) rfl hz ?_
      repeat tb_start
      rw [List.getD_eq_getElem?_getD, List.getElem?_eq_getElem hp'] at hK
      exact ⟨_, by wtm_at "lwsub", hK⟩
    · repeat tb_start
      rw [List.getD_eq_getElem?_getD, List.getElem?_eq_none (by lia)] at hK
      exact ⟨_, by wtm_at "lwsub", hK⟩
end
section
open PySem.Builtin PySem.Builtin.Str PySem.NumText
open PySem.Builtin.Int (intBits)
set_option maxRecDepth 100000
set_option linter.unusedVariables false
theorem ar50_1 {a0 : Nat} (h0 : (a0 ≤ (63 : Nat))) : (a0 ≤ (1000 : Nat)) := by omega
theorem ar50_2 {a0 : Nat} : ((0 : Int) ≤ ((a0 : Nat) : Int)) := by omega
theorem ar50_3 {a0 : Nat} {a1 : Nat} (h0 : (a0 < a1)) (h1 : (((a1 : Nat) : Int) < ((2 : Int) ^ (63 : Nat)))) : (((a0 : Nat) : Int) < ((2 : Int) ^ (63 : Nat))) := by omega
theorem ar50_4 {z0 : Int} (h0 : ((0 : Int) < z0)) : (z0 ≠ (0 : Int)) := by omega
theorem ar50_5 {a0 : Nat} (h0 : (a0 ≤ (10000 : Nat))) : ((0 : Int) ≤ ((a0 : Nat) : Int)) := by omega
theorem ar50_6 {a0 : Nat} (h0 : (a0 ≤ (10000 : Nat))) : (((((4 : Nat) : Nat) : Int) * ((a0 : Nat) : Int)) ≤ ((2 : Int) ^ (27 : Nat))) := by omega
theorem ar50_7 {z0 : Int} (h0 : ((0 : Int) < z0)) : (z0 < (z0 * (2 : Int))) := by omega
theorem ar50_8 {z0 : Int} (h0 : ((0 : Int) < z0)) : ((0 : Int) ≤ (z0 - (1 : Int))) := by omega
theorem ar50_9 {z0 : Int} : ((z0 - (1 : Int)) < z0) := by omega
theorem ar50_10 {z0 : Int} (h0 : (¬ (z0 = (0 : Int)))) : (¬ ((-z0) = (0 : Int))) := by omega
theorem ar50_11 {a0 : Nat} (h0 : ((1 : Nat) ≤ a0)) : (a0 = ((a0 - (1 : Nat)) + (1 : Nat))) := by omega
theorem ar50_12 {z0 : Int} (h0 : ((0 : Int) < z0)) : ((0 : Int) < ((z0 * (10 : Int)) - (1 : Int))) := by omega
theorem ar50_13 {a0 : Nat} {a1 : Nat} (h0 : ((((a0 % (a1 + (1 : Nat))) : Nat) : Int) = (0 : Int))) : ((a0 % (a1 + (1 : Nat))) = (0 : Nat)) := by omega
theorem ar50_14 {a0 : Nat} : ((1 : Nat) ≤ (a0 + (1 : Nat))) := by omega
theorem ar50_15 {a0 : Nat} {a1 : Nat} (h0 : (a0 < a1)) : ((a0 + (1 : Nat)) ≤ a1) := by omega
theorem ar50_16 {z0 : Int} : ((z0 % (16 : Int)) = (((Int.toNat (z0 % (16 : Int))) : Nat) : Int)) := by omega
theorem ar50_17 {z0 : Int} : ((Int.toNat (z0 % (16 : Int))) < (16 : Nat)) := by omega
theorem ar50_18 {z0 : Int} : ((Int.natAbs ((z0 % (200 : Int)) - (100 : Int))) ≤ (1000 : Nat)) := by omega
theorem ar50_19 {a0 : Nat} (h0 : ((4 : Nat) ≤ a0)) : ((0 : Nat) < a0) := by omega
theorem ar50_20 {a0 : Nat} (h0 : (a0 ≤ (101 : Nat))) : (a0 ≤ (1000 : Nat)) := by omega
theorem ar50_21 {a0 : Nat} (h0 : ((4 : Nat) ≤ a0)) : ((0 : Int) < ((a0 : Nat) : Int)) := by omega
theorem ar50_22 {a0 : Nat} (h0 : ((0 : Int) < ((a0 : Nat) : Int))) : (((a0 : Nat) : Int) ≠ (0 : Int)) := by omega
theorem ar50_23 {a0 : Nat} {a1 : Nat} (h0 : (a1 ≤ (101 : Nat))) (h1 : (((a0 : Nat) : Int) ≤ ((a1 : Nat) : Int))) : (a0 ≤ (101 : Nat)) := by omega
theorem ar50_24 {a0 : Nat} (h0 : (a0 ≤ (101 : Nat))) : ((Int.natAbs ((a0 : Nat) : Int)) ≤ (65535 : Nat)) := by omega
theorem ar50_25 {a0 : Nat} (h0 : (a0 ≤ (101 : Nat))) : (a0 ≤ (1000000 : Nat)) := by omega
theorem ar50_26 {a0 : Nat} {a1 : Nat} (h0 : (a1 ≤ (101 : Nat))) (h1 : (a0 < a1)) : (a0 ≤ (10000 : Nat)) := by omega
theorem ar50_27 {z0 : Int} (h0 : ((Int.natAbs z0) ≤ (1000 : Nat))) : ((Int.natAbs z0) ≤ (65535 : Nat)) := by omega
theorem ar50_28 {a0 : Nat} {a1 : Nat} (h0 : (a1 ≤ (101 : Nat))) (h1 : (a0 < a1)) : ((((4 : Nat) * a0) + (1 : Nat)) ≤ (1000 : Nat)) := by omega
theorem ar50_29 {z0 : Int} {a1 : Nat} (h0 : (a1 ≤ (101 : Nat))) (h1 : (((0 : Int) ≤ z0) ∧ (z0 < ((a1 : Nat) : Int)))) : ((Int.natAbs z0) ≤ (65535 : Nat)) := by omega
theorem ar50_30 {a0 : Nat} {a1 : Nat} (h0 : (a1 < a0)) : ((a0 - (1 : Nat)) < a0) := by omega
theorem ar50_31 {a0 : Nat} {a1 : Nat} (h0 : (a1 < a0)) : ((-(1 : Int)) = ((((a0 - (1 : Nat)) : Nat) : Int) - ((a0 : Nat) : Int))) := by omega
theorem ar50_32 {a0 : Nat} {a1 : Nat} (h0 : (a1 < a0)) : (a0 = ((a0 - (1 : Nat)) + (1 : Nat))) := by omega
theorem ar50_33 {a0 : Nat} {a1 : Nat} {a2 : Nat} (h0 : (a1 < a2)) (h1 : (a0 = (a2 - a1))) : ((1 : Nat) ≤ a0) := by omega
theorem ar50_34 {a0 : Nat} {a1 : Nat} {a2 : Nat} (h0 : (a1 ≤ (101 : Nat))) (h1 : (a0 = (a1 - a2))) : (a0 ≤ (101 : Nat)) := by omega
theorem ar50_35 {z0 : Int} (h0 : (((0 : Int) ≤ z0) ∧ (z0 ≤ (9 : Int)))) : (z0 = (((Int.toNat z0) : Nat) : Int)) := by omega
theorem ar50_36 {z0 : Int} (h0 : (((0 : Int) ≤ z0) ∧ (z0 ≤ (9 : Int)))) : ((Int.toNat z0) < (10 : Nat)) := by omega
theorem ar50_37 {a0 : Nat} (h0 : (a0 ≤ (101 : Nat))) : (((a0 * (1 : Nat)) + (0 : Nat)) ≤ (16777216 : Nat)) := by omega
theorem ar50_38 {a0 : Nat} (h0 : (a0 ≤ (101 : Nat))) : ((a0 + a0) ≤ (1000 : Nat)) := by omega
theorem ar50_39 {a0 : Nat} : ((a0 + a0) = ((2 : Nat) * a0)) := by omega
theorem ar50_40 {a0 : Nat} (h0 : (a0 ≤ (101 : Nat))) : (((2 : Nat) * a0) ≤ (202 : Nat)) := by omega
theorem ar50_41 {a0 : Nat} (h0 : (a0 ≤ (101 : Nat))) : (a0 < ((2 : Nat) ^ (62 : Nat))) := by omega
theorem ar50_42 {a0 : Nat} {a1 : Nat} (h0 : (a0 < a1)) : (a0 ≤ ((2 : Nat) * a1)) := by omega
theorem ar50_43 {a0 : Nat} {a1 : Nat} (h0 : (a1 < a0)) : ((a0 - a1) < (((2 : Nat) * a0) - a1)) := by omega
theorem ar50_44 {a0 : Nat} (h0 : (a0 ≤ (101 : Nat))) : (((a0 : Nat) : Int) ≤ (101 : Int)) := by omega
theorem ar50_45 {a0 : Nat} {a1 : Nat} (h0 : (((a0 : Nat) : Int) = ((a1 : Nat) : Int))) : (a0 = a1) := by omega
theorem ar50_46 {a0 : Nat} {a1 : Nat} (h0 : (¬ (((a0 : Nat) : Int) = ((a1 : Nat) : Int)))) : (¬ (a0 = a1)) := by omega
theorem ar50_47 {a0 : Nat} : ((0 : Int) < ((1 : Int) + ((a0 : Nat) : Int))) := by omega
theorem ar50_48 {a0 : Nat} : (((1 : Int) + ((a0 : Nat) : Int)) = (((a0 + (1 : Nat)) : Nat) : Int)) := by omega
theorem ar50_49 {a0 : Nat} {a1 : Nat} (h0 : ((1 : Nat) ≤ a1)) (h1 : (a1 ≤ a0)) : (((a0 : Nat) : Int) ≠ (0 : Int)) := by omega
theorem ar50_50 {a0 : Nat} {a1 : Nat} (h0 : ((1 : Nat) ≤ a1)) (h1 : (a1 ≤ a0)) : ((0 : Int) < ((a0 : Nat) : Int)) := by omega
theorem ar50_51 {z0 : Int} {a1 : Nat} {a2 : Nat} (h0 : ((0 : Int) ≤ ((z0 + ((a1 : Nat) : Int)) % ((a2 : Nat) : Int)))) : (((z0 + ((a1 : Nat) : Int)) % ((a2 : Nat) : Int)) = (((Int.toNat ((z0 + ((a1 : Nat) : Int)) % ((a2 : Nat) : Int))) : Nat) : Int)) := by omega
theorem ar50_52 {z0 : Int} {a1 : Nat} {a2 : Nat} (h0 : ((0 : Int) ≤ ((z0 + ((a1 : Nat) : Int)) % ((a2 : Nat) : Int)))) (h1 : (((z0 + ((a1 : Nat) : Int)) % ((a2 : Nat) : Int)) < ((a2 : Nat) : Int))) : ((Int.toNat ((z0 + ((a1 : Nat) : Int)) % ((a2 : Nat) : Int))) < a2) := by omega
theorem ar50_53 {a0 : Nat} {a1 : Nat} (h0 : (a1 < a0)) : ((0 : Int) < ((a0 : Nat) : Int)) := by omega
theorem ar50_54 {a0 : Nat} (h0 : ((1 : Nat) ≤ a0)) : (((a0 : Nat) : Int) ≠ (0 : Int)) := by omega
theorem ar50_55 {a0 : Nat} {a1 : Nat} {a2 : Nat} (h0 : (a0 < a1)) (h1 : (a1 = (a2 * (0 : Nat)))) : ((1 : Nat) ≤ (0 : Nat)) := by omega
theorem ar50_56 {a0 : Nat} (h0 : ((1 : Nat) ≤ a0)) : ((0 : Int) < ((a0 : Nat) : Int)) := by omega
theorem ar50_57 {a0 : Nat} {a1 : Nat} (h0 : (a1 ≤ (101 : Nat))) (h1 : (a0 ≤ a1)) : ((Int.natAbs ((a0 : Nat) : Int)) ≤ (65535 : Nat)) := by omega
theorem ar50_58 {a0 : Nat} {a1 : Nat} (h0 : (a1 ≤ (101 : Nat))) (h1 : (a0 ≤ a1)) : (a0 ≤ (10000 : Nat)) := by omega
theorem ar50_59 {a0 : Nat} {a1 : Nat} : (a0 ≤ (a0 + a1)) := by omega
theorem ar50_60 {a0 : Nat} {a1 : Nat} (h0 : (a0 < a1)) : ((a0 + a1) ≤ ((2 : Nat) * a1)) := by omega
theorem ar50_61 {a0 : Nat} {a1 : Nat} (h0 : (a1 ≤ (101 : Nat))) (h1 : (a0 ≤ a1)) : (a0 ≤ (1000000 : Nat)) := by omega
theorem ar50_62 {a0 : Nat} {a1 : Nat} {a2 : Nat} (h0 : (a1 ≤ (101 : Nat))) (h1 : (a2 ≤ a1)) (h2 : (a0 < a2)) : ((Int.natAbs ((a0 : Nat) : Int)) ≤ (65535 : Nat)) := by omega
theorem ar50_63 {a0 : Nat} {a1 : Nat} {a2 : Nat} (h0 : (a1 ≤ (101 : Nat))) (h1 : (a2 ≤ a1)) (h2 : (a0 < a2)) : ((Int.natAbs (((a0 : Nat) : Int) + (1 : Int))) ≤ (65535 : Nat)) := by omega
theorem ar50_64 {a0 : Nat} {a1 : Nat} (h0 : ((a0 * (a1 + (1 : Nat))) = ((a0 * a1) + a0))) : ((a0 * a1) ≤ (a0 * (a1 + (1 : Nat)))) := by omega
theorem ar50_65 {a0 : Nat} {a1 : Nat} (h0 : ((1 : Nat) ≤ a1)) (h1 : (a1 ≤ a0)) : ((0 : Nat) < a0) := by omega
theorem ar50_66 {a0 : Nat} {a1 : Nat} (h0 : (a1 ≤ (101 : Nat))) (h1 : (a0 ≤ a1)) : (((a0 : Nat) : Int) < ((2 : Int) ^ (63 : Nat))) := by omega
theorem ar50_67 {a0 : Nat} {a1 : Nat} (h0 : (a1 ≤ (101 : Nat))) (h1 : (a0 ≤ a1)) : (((1 : Nat) * (Int.toNat ((a0 : Nat) : Int))) ≤ ((2 : Nat) ^ (24 : Nat))) := by omega
theorem ar50_68 {a0 : Nat} {a1 : Nat} (h0 : (a1 ≤ (101 : Nat))) (h1 : (a0 ≤ a1)) : (a0 ≤ (101 : Nat)) := by omega
theorem ar50_69 {a0 : Nat} (h0 : (a0 ≤ (101 : Nat))) : (a0 ≤ (5000 : Nat)) := by omega
theorem ar50_70 {a0 : Nat} {a1 : Nat} (h0 : (a1 ≤ (101 : Nat))) (h1 : (a0 ≤ a1)) : (a0 ≤ (4096 : Nat)) := by omega
theorem ar50_71 {a0 : Nat} {a1 : Nat} (h0 : (a1 ≤ (101 : Nat))) (h1 : (a0 ≤ a1)) : ((((4 : Nat) * a0) + (1 : Nat)) ≤ (1000 : Nat)) := by omega
theorem ar50_72 {a0 : Nat} {a1 : Nat} (h0 : (a0 ≤ (101 : Nat))) (h1 : (a1 ≤ a0)) : ((a0 + (a1 * (1 : Nat))) ≤ (16777216 : Nat)) := by omega
theorem ar50_73 {a0 : Nat} {a1 : Nat} {a2 : Nat} (h0 : (a1 ≤ (101 : Nat))) (h1 : (a2 ≤ a1)) (h2 : (a0 ≤ (a1 + a2))) : ((a0 + (1 : Nat)) ≤ (1000 : Nat)) := by omega
theorem ar50_74 {a0 : Nat} (h0 : ((1 : Nat) ≤ a0)) (h1 : ((0 : Nat) = a0)) : False := by omega
theorem ar50_75 {a0 : Nat} (h0 : (a0 ≤ (101 : Nat))) : (a0 ≤ (4096 : Nat)) := by omega
theorem ar50_76 {a0 : Nat} (h0 : ((1 : Nat) ≤ a0)) : ((0 : Nat) < a0) := by omega
theorem ar50_77 {a0 : Nat} (h0 : (a0 ≤ (101 : Nat))) : (a0 ≤ (10000 : Nat)) := by omega
theorem ar50_78 {a0 : Nat} (h0 : (a0 ≤ (101 : Nat))) : ((((4 : Nat) * a0) + (1 : Nat)) ≤ (1000 : Nat)) := by omega
theorem ar50_79 {a0 : Nat} {a1 : Nat} (h0 : (a1 ≤ (101 : Nat))) (h1 : (a0 ≤ a1)) : ((((4 : Nat) * (a0 + (3 : Nat))) + (1 : Nat)) ≤ (30000 : Nat)) := by omega
theorem ar50_80 {a0 : Nat} {a1 : Nat} (h0 : (a1 ≤ (101 : Nat))) (h1 : (a0 ≤ a1)) : ((((4 : Nat) * a0) + (1 : Nat)) ≤ (8000 : Nat)) := by omega
theorem ar50_81 {a0 : Nat} {z1 : Int} (h0 : (((0 : Int) ≤ z1) ∧ (z1 < ((a0 : Nat) : Int)))) : (((a0 : Nat) : Int) ≠ (0 : Int)) := by omega
theorem ar50_82 {z0 : Int} {a1 : Nat} (h0 : (a1 ≤ (101 : Nat))) (h1 : ((0 : Int) ≤ (z0 % ((a1 : Nat) : Int)))) (h2 : ((z0 % ((a1 : Nat) : Int)) < ((a1 : Nat) : Int))) : ((Int.natAbs (z0 % ((a1 : Nat) : Int))) ≤ (65535 : Nat)) := by omega
theorem ar50_83 {z0 : Int} : ((z0 % (60 : Int)) = (((Int.toNat (z0 % (60 : Int))) : Nat) : Int)) := by omega
theorem ar50_84 {z0 : Int} : ((Int.toNat (z0 % (60 : Int))) < (60 : Nat)) := by omega
theorem ar50_85 {a0 : Nat} : (((1300 : Int) + ((a0 : Nat) : Int)) = ((((1300 : Nat) + a0) : Nat) : Int)) := by omega
theorem ar50_86 {a0 : Nat} {a1 : Nat} (h0 : (a0 = ((1300 : Nat) + a1))) : ((1300 : Nat) ≤ a0) := by omega
theorem ar50_87 {a0 : Nat} {a1 : Nat} (h0 : (a1 < (60 : Nat))) (h1 : (a0 = ((1300 : Nat) + a1))) : (a0 ≤ (1400 : Nat)) := by omega
theorem ar50_88 {a0 : Nat} (h0 : (a0 ≤ (1400 : Nat))) : ((Int.natAbs ((a0 : Nat) : Int)) ≤ (65535 : Nat)) := by omega
theorem ar50_89 {a0 : Nat} (h0 : ((1300 : Nat) ≤ a0)) : (((a0 : Nat) : Int) ≠ (0 : Int)) := by omega
theorem ar50_90 {a0 : Nat} (h0 : ((1300 : Nat) ≤ a0)) : ((0 : Int) < ((a0 : Nat) : Int)) := by omega
theorem ar50_91 {z0 : Int} {a1 : Nat} (h0 : ((0 : Int) ≤ (z0 % ((a1 : Nat) : Int)))) : ((z0 % ((a1 : Nat) : Int)) = (((Int.toNat (z0 % ((a1 : Nat) : Int))) : Nat) : Int)) := by omega
theorem ar50_92 {z0 : Int} {a1 : Nat} (h0 : ((0 : Int) ≤ (z0 % ((a1 : Nat) : Int)))) (h1 : ((z0 % ((a1 : Nat) : Int)) < ((a1 : Nat) : Int))) : ((Int.toNat (z0 % ((a1 : Nat) : Int))) < a1) := by omega
theorem ar50_93 {a0 : Nat} {a1 : Nat} : (((((2 : Int) * ((a0 : Nat) : Int)) + (1 : Int)) + ((a1 : Nat) : Int)) = ((((((2 : Nat) * a0) + (1 : Nat)) + a1) : Nat) : Int)) := by omega
theorem ar50_94 {a0 : Nat} {a1 : Nat} {a2 : Nat} : (((((((((2 : Nat) * a0) + (1 : Nat)) + a1) / a2) : Nat) : Int) + (1 : Int)) = ((((((((2 : Nat) * a0) + (1 : Nat)) + a1) / a2) + (1 : Nat)) : Nat) : Int)) := by omega
theorem ar50_95 {a0 : Nat} {a1 : Nat} {a2 : Nat} (h0 : (((a2 * (((((2 : Nat) * a0) + (1 : Nat)) + a1) / a2)) + (((((2 : Nat) * a0) + (1 : Nat)) + a1) % a2)) = ((((2 : Nat) * a0) + (1 : Nat)) + a1))) (h1 : ((((((2 : Nat) * a0) + (1 : Nat)) + a1) % a2) < a2)) : ((((((2 : Nat) * a0) + (1 : Nat)) + a1) ≤ ((a2 * (((((2 : Nat) * a0) + (1 : Nat)) + a1) / a2)) + a2)) ∧ (((a2 * (((((2 : Nat) * a0) + (1 : Nat)) + a1) / a2)) + a2) ≤ (((((2 : Nat) * a0) + (1 : Nat)) + a1) + a2))) := by omega
theorem ar50_96 {a0 : Nat} {a1 : Nat} {a2 : Nat} {a3 : Nat} (h0 : (a0 ≤ (101 : Nat))) (h1 : (a2 ≤ (1400 : Nat))) (h2 : (a3 < a2)) (h3 : ((((((2 : Nat) * a2) + (1 : Nat)) + a3) ≤ (a0 * a1)) ∧ ((a0 * a1) ≤ (((((2 : Nat) * a2) + (1 : Nat)) + a3) + a0)))) : ((a0 * a1) ≤ (1000000 : Nat)) := by omega
theorem ar50_97 {a0 : Nat} {a1 : Nat} {a2 : Nat} {a3 : Nat} (h0 : (a0 ≤ (101 : Nat))) (h1 : (a2 ≤ (1400 : Nat))) (h2 : (a3 < a2)) (h3 : ((((((2 : Nat) * a2) + (1 : Nat)) + a3) ≤ (a0 * a1)) ∧ ((a0 * a1) ≤ (((((2 : Nat) * a2) + (1 : Nat)) + a3) + a0)))) : ((a0 * a1) ≤ (10000 : Nat)) := by omega
theorem ar50_98 {a0 : Nat} {a1 : Nat} (h0 : (a0 ≤ (1400 : Nat))) (h1 : (a1 < a0)) : (((((2 : Nat) * a0) + (1 : Nat)) + a1) ≤ (10000 : Nat)) := by omega
theorem ar50_99 {a0 : Nat} {a1 : Nat} (h0 : (a0 ≤ (1400 : Nat))) (h1 : (a1 < a0)) : (((((2 : Nat) * a0) + (1 : Nat)) + a1) ≤ (5000 : Nat)) := by omega
theorem ar50_100 {a0 : Nat} {a1 : Nat} (h0 : (a0 ≤ (1400 : Nat))) (h1 : (a1 < a0)) : ((((((2 : Nat) * a0) + (1 : Nat)) + a1) + ((3 : Nat) * (1 : Nat))) ≤ (16777216 : Nat)) := by omega
theorem ar50_101 {a0 : Nat} {a1 : Nat} {a2 : Nat} (h0 : (a1 ≤ (1400 : Nat))) (h1 : (a2 < a1)) (h2 : (a0 ≤ (((((2 : Nat) * a1) + (1 : Nat)) + a2) + (3 : Nat)))) : ((a0 + (3 : Nat)) ≤ (10000 : Nat)) := by omega
theorem ar50_102 {a0 : Nat} {a1 : Nat} {a2 : Nat} (h0 : (a2 < (60 : Nat))) (h1 : (a0 = ((1300 : Nat) + a2))) (h2 : (a1 < a0)) : (((((2 : Nat) * a0) + (1 : Nat)) + a1) ≤ (4096 : Nat)) := by omega
theorem ar50_103 {a0 : Nat} (h0 : (a0 ≤ (1400 : Nat))) : (a0 ≤ (10000 : Nat)) := by omega
theorem ar50_104 {a0 : Nat} {a1 : Nat} (h0 : (a0 ≤ (1400 : Nat))) (h1 : (a1 < a0)) : ((((4 : Nat) * ((((2 : Nat) * a0) + (1 : Nat)) + a1)) + (1 : Nat)) ≤ (100000 : Nat)) := by omega
theorem ar50_105 {a0 : Nat} (h0 : (a0 ≤ (1400 : Nat))) : ((((4 : Nat) * a0) + (1 : Nat)) ≤ (10000 : Nat)) := by omega
theorem ar50_106 {a0 : Nat} {a1 : Nat} (h0 : (a1 ≤ (1400 : Nat))) (h1 : (a0 < a1)) : ((((4 : Nat) * ((1 : Nat) + a0)) + (1 : Nat)) ≤ (10000 : Nat)) := by omega
theorem ar50_107 {a0 : Nat} {a1 : Nat} (h0 : (a1 ≤ (1400 : Nat))) (h1 : (a0 < a1)) : ((((4 : Nat) * (((1 : Nat) + a0) + a1)) + (1 : Nat)) ≤ (20000 : Nat)) := by omega
theorem ar50_108 {a0 : Nat} {a1 : Nat} (h0 : (a1 < a0)) : ((1 : Nat) ≤ a0) := by omega
theorem ar50_109 {a0 : Nat} (h0 : (a0 ≤ (1400 : Nat))) : ((((4 : Nat) * a0) + (1 : Nat)) ≤ (9000 : Nat)) := by omega
theorem ar50_110 {z0 : Int} (h0 : ((0 : Int) < (z0 - (1 : Int)))) : ((1 : Int) < z0) := by omega
theorem ar50_111 {a0 : Nat} {a1 : Nat} (h0 : (a0 ≤ (1400 : Nat))) (h1 : (a1 < a0)) : ((((4 : Nat) * ((((2 : Nat) * a0) + (1 : Nat)) + a1)) + (1 : Nat)) ≤ (30000 : Nat)) := by omega
theorem ar50_112 {a0 : Nat} (h0 : (a0 ≤ (1400 : Nat))) : ((((4 : Nat) * a0) + (1 : Nat)) ≤ (8000 : Nat)) := by omega
theorem ar50_113 {z0 : Int} : (((1 : Int) - z0) = (-(z0 - (1 : Int)))) := by omega
noncomputable def menu : List Int := [7, 11, 13, 14, 17, 41, 21, 22, 26, 27, 28, 73, 91, 101, 12, 4]
theorem len7 {l : List Addr} (h : l.length = 7) : ∃ a b c d e f g, l = [a, b, c, d, e, f, g] := by
  match l, h with
  | [a, b, c, d, e, f, g], _ => exact ⟨a, b, c, d, e, f, g, rfl⟩
section
variable {C : Cx} {A : Around} {env : Env} {loc : Loc} {led : Led}
theorem law_cell' (H : CxP C) {xs : List Int} {pv : Int} (p : Nat) {o : Int} (hp : pv = p) (hlen : xs.length ≤ 63) {K : Value → Loc → Led → Prop} {sl : Addr} (fit : Fit A 2) (hsl : Old C sl (iv xs))
    (hK : K (.int (xs.getD p o) 0) loc led) : CallT C A env (.ref 99) [.ref sl, .int pv 0, .int o 0] loc led K := by
  subst hp
  exact law_cell0 H (by exact ar50_1 hlen) fit hsl hK
theorem SUB_listT {value slice : Expr} {a : Addr} {vs : List Value} {i : Int} {v : Value} {K : Value → Loc → Led → Prop} (j : Nat) (hi : i = j) (hm : Ent.obj a (OList vs) ∈ led) (hv : vs[j]? = some v) (hn : vs.length ≤ sizeLine) (h : K v loc led)
    (hs : ∀ a k u, subscripted slice false (.ref a) (.int k u) = operate [.ref a, .int k u] (getItem (.ref a) (.int k u)) := by intro _ _ _; with_unfolding_all rfl) : SUB C A env value slice (.ref a) (.int i 0) loc led K := fun o' i' ho hi' s S => by
  rw [er_is_ref ho]
  obtain ⟨t, rfl⟩ := er_is_int hi'
  subst hi
  obtain ⟨items, n, g, e, hsz⟩ := S.list hm
  obtain ⟨x, hx, hxv⟩ := erL_get e hv
  have hj : j < vs.length := (List.getElem?_eq_some_iff.mp hv).1
  have hz := Int.lt_of_le_of_lt (Int.ofNat_le.mpr hn) sizeLine_lt
  have hT : s.TypeIs (.ref a) "list" := (isl g).typeIs
  unfold subscriptTail
  refine wpAny_bind ?_
  rw [getitemInPython_of_ne hT.not_modules]
  refine wpAny_bind (wpAny_specialOf hT slot_list_getitem.lookup ?_)
  have fin : wpAny C.M A (subscripted slice false (.ref a) (.int j t)) (fun r s₃ => wpAny C.M A (letTemporaryGo value (.ref a) r >>= fun _ => pure r) (fun v s' => ∃ loc' led', K (er v) loc' led' ∧ St C env loc' led' s') (fun _ _ => False) s₃) (fun _ _ => False) s := by
    rw [hs]
    refine wpAny_operating (wpAny_getItem_list (isl g) (by exact ar50_2) (by exact ar50_3 hj hz) (by simpa using hx) (wpAny_bind (wpAny_letTemporaryGo (wpAny_pure ⟨loc, led, by rw [hxv]; exact h, S⟩))))
  first
    | exact wpAny_pure (wpAny_bind fin)
    | exact wpAny_bind (wpAny_pure (wpAny_bind fin))
    | exact wpAny_bind fin
theorem O_mod' {a b c : Int} {K : Value → Loc → Led → Prop} (hb : 0 < b) (hc : a % b = c) (h : K (.int c 0) loc led) : Op2 C A env (binaryOp .Mod) (.int a 0) (.int b 0) loc led K :=
  O_mod (by exact ar50_4 hb) (by rw [Int.fmod_eq_emod_of_nonneg _ (Int.le_of_lt hb), hc]; exact h)
theorem O_fdiv' {a b c : Int} {K : Value → Loc → Led → Prop} (hb : 0 < b) (hs : intBits b ≤ 9000) (hc : a / b = c) (h : K (.int c 0) loc led) : Op2 C A env (binaryOp .FloorDiv) (.int a 0) (.int b 0) loc led K :=
  O_floordiv (by exact ar50_4 hb) (pylong_no hs) (by rw [Int.fdiv_eq_ediv_of_nonneg _ (Int.le_of_lt hb), hc]; exact h)
theorem O_pow10 {k : Nat} {K : Value → Loc → Led → Prop} (hk : k ≤ 10000) (h : K (.int (10 ^ k) 0) loc led) : Op2 C A env (binaryOp .Pow) (.int 10 0) (.int k 0) loc led K :=
  O_pow (by exact ar50_5 hk) (by have : intBits 10 = 4 := rfl; rw [this]; exact ar50_6 hk) (by rw [Int.toNat_natCast]; exact h)
end
section
variable {C : Cx} {A : Around} {env : Env} {loc : Loc} {led : Led}
theorem with_envT {α β : Type} {ab : α → β} {t : Sem α} {K : β → Loc → Led → Prop} (H : CxP C) (gl : List (Str × Value)) (cl : List (Str × Addr)) (hf : env.scope.kind = .function) (hg : env.globals = mainGlobals) (hb : env.builtins = builtinsNs)
    (h1 : gl.all (fun p => env.kindOf p.1 == some .globalImplicit && (topNames.contains p || bltNames.contains p)) = true)
    (h3 : cl.all (fun p => (env.kindOf p.1 == some .cell || (env.kindOf p.1 == some .free && !(p.1 == ("__classdict__" : Str)))) && !(p.1 == ("__debug__" : Str))) = true)
    (h4 : cl.map (fun p => env.cells.lookup p.1) = cl.map (fun p => some p.2))
    (k : EnvOk C env gl cl → Tri ab C A env t loc led K) : Tri ab C A env t loc led K := k (EnvOk.of H hf hg hb h1 h3 h4)
theorem Tri.gen {α β : Type} {ab : α → β} {t : Sem α} {K : β → Loc → Led → Prop} (h : ∀ K', (∀ v l d, K v l d → K' v l d) → Tri ab C A env t loc led K') : Tri ab C A env t loc led K := h K fun _ _ _ h => h
theorem SN_gen {x : Str} {v : Value} {body : List Stmt} {K : Flow → Loc → Led → Prop} (h : ∀ K', (∀ v l d, K v l d → K' v l d) → SN C A env x v loc led (fun l d => EXS C A env body l d K')) : SN C A env x v loc led (fun l d => EXS C A env body l d K) := h K fun _ _ _ h => h
theorem AIOE_gen {es : List Expr} {vs : List Value} {body : List Stmt} {K : Flow → Loc → Led → Prop} (h : ∀ K', (∀ v l d, K v l d → K' v l d) → AIOE C A env es vs loc led (fun l d => EXS C A env body l d K')) : AIOE C A env es vs loc led (fun l d => EXS C A env body l d K) := h K fun _ _ _ h => h
theorem CB_0 {scope : Scope} {cl : List (Str × Addr)} {x : Str} {elt : Expr} {l : Loc} {d0 : Led} {P : Addr → Nat → Obj → Prop} {n : Nat} {w : Nat → Value} {g : Nat → Option Value}
    (h : ∀ Lc acc it k ys, k < n → ∀ KB : Value → Loc → Led → Prop, (∀ y lc d', (g k = some y ∧ (∃ u, lc = [(x, u)]) ∧ Sub (.obj acc (OList ys) :: .obj it (P it (k + 1)) :: .obj env.locals (OLoc l) :: d0) d') → KB y lc d') → EV C A (compEnvC scope cl Lc env) elt [(x, some (w k))] (.obj acc (OList ys) :: .obj it (P it (k + 1)) :: .obj env.locals (OLoc l) :: d0) KB) :
    CB C A env scope cl x [] elt l d0 P n w g := fun Lc acc it k ys hk => h Lc acc it k ys hk _ fun _ _ _ q => q
theorem CB_1 {scope : Scope} {cl : List (Str × Addr)} {x : Str} {elt c : Expr} {l : Loc} {d0 : Led} {P : Addr → Nat → Obj → Prop} {n : Nat} {w : Nat → Value} {g : Nat → Option Value}
    (h : ∀ Lc acc it k ys, k < n → ∀ KB : Option Value → Loc → Led → Prop, (∀ y lc d', (g k = y ∧ (∃ u, lc = [(x, u)]) ∧ Sub (.obj acc (OList ys) :: .obj it (P it (k + 1)) :: .obj env.locals (OLoc l) :: d0) d') → KB y lc d') → IT C A (compEnvC scope cl Lc env) c [(x, some (w k))] (.obj acc (OList ys) :: .obj it (P it (k + 1)) :: .obj env.locals (OLoc l) :: d0) (fun b lc d' => if b = true then EV C A (compEnvC scope cl Lc env) elt lc d' (fun y => KB (some y)) else KB none lc d')) :
    CB C A env scope cl x [c] elt l d0 P n w g := fun Lc acc it k ys hk => h Lc acc it k ys hk (fun y lc d' => (g k = y ∧ (∃ u, lc = [(x, u)]) ∧ Sub (.obj acc (OList ys) :: .obj it (P it (k + 1)) :: .obj env.locals (OLoc l) :: d0) d')) fun _ _ _ q => q
end
theorem gather_iv {h : Nat → Int} {n : Nat} : gather (fun k => some (.int (h k) 0)) n = iv ((List.range n).map h) := by
  unfold gather iv; rw [List.map_map, ← List.filterMap_eq_map]; rfl
theorem gather_sv {h : Nat → List Nat} {n : Nat} : gather (fun k => some (.str (tx (h k)) 0)) n = sv ((List.range n).map h) := by
  unfold gather sv; rw [List.map_map, ← List.filterMap_eq_map]; rfl
theorem rt_pow {m u : Int} : ∀ k, rt m (u % m) k = u * 10 ^ k % m
  | 0 => by simp [rt]
  | k + 1 => by
    show 10 * rt m (u % m) k % m = _
    rw [rt_pow k, Int.pow_succ, ← Int.mul_assoc, Int.mul_comm (u * 10 ^ k) 10, Int.mul_emod, Int.emod_emod_of_dvd _ (Int.dvd_refl m), ← Int.mul_emod]
theorem ten_bits1 (k : Nat) : intBits ((10 : Int) ^ k - 1) ≤ 4 * k + 1 := bits_lt (by have : (0 : Int) < 10 ^ k := Int.pow_pos (by decide); exact ar50_8 this) (Int.lt_of_lt_of_le (show (10 : Int) ^ k - 1 < 10 ^ k by exact ar50_9) (Int.le_of_lt (Int.lt_of_le_of_lt (ten_le k) (by rw [Int.pow_succ]; have := two_pos (4 * k); exact ar50_7 this))))
theorem bits_neg {x : Int} : intBits (-x) = intBits x := by
  by_cases h : x = 0
  · subst h; rfl
  · have h' : ¬ -x = 0 := by exact ar50_10 h
    unfold intBits; rw [Int.natAbs_neg]; simp [h, h']
theorem ten_gt {s : Nat} (h : 1 ≤ s) : (0 : Int) < 10 ^ s - 1 := by
  obtain ⟨k, rfl⟩ : ∃ k, s = k + 1 := ⟨s - 1, by exact ar50_11 h⟩
  have : (0 : Int) < 10 ^ k := Int.pow_pos (by decide)
  rw [Int.pow_succ]; exact ar50_12 this
theorem figs10 : ∀ j, j < 10 → ([48, 49, 50, 51, 52, 53, 54, 55, 56, 57] : List Nat)[j]? = some (48 + j) := by decide
theorem joinL_nil : ∀ ls : List (List Nat), joinL [] ls = ls.flatten
  | [] => rfl
  | [x] => by simp [joinL]
  | x :: y :: r => by show x ++ [] ++ joinL [] (y :: r) = _; rw [joinL_nil (y :: r)]; simp
theorem flat_sing {f : Nat → Nat} : ∀ l : List Nat, (l.map fun k => [f k]).flatten = l.map f
  | [] => rfl
  | x :: r => by simp [flat_sing r]
theorem str_nil : (Str.ofString "") = tx [] := by decide +kernel
theorem str_figs : (Str.ofString "0123456789") = tx [48, 49, 50, 51, 52, 53, 54, 55, 56, 57] := by decide +kernel
theorem str_under : (Str.ofString "_") = tx [95] := by decide +kernel
theorem str_blank : (Str.ofString " ") = tx [32] := by decide +kernel
theorem str_blanks : (Str.ofString " \t\n") = tx [32, 9, 10] := by decide +kernel
theorem iv_get {l : List Int} {i : Nat} {x : Int} (h : l[i]? = some x) : (iv l)[i]? = some (.int x 0) := by unfold iv; rw [List.getElem?_map, h]; rfl
theorem iv_getD {l : List Int} {k : Nat} {x : Int} (h : l[k]? = some x) : (iv l).getD k .none = .int x 0 := by rw [List.getD_eq_getElem?_getD, iv_get h]; rfl
section
variable {C : Cx} {A : Around} {env : Env} {loc : Loc} {led : Led}
theorem B_joinT {a : Addr} {sp : Str} {sep : List Nat} {ls : List (List Nat)} {K : Value → Loc → Led → Prop} (hsp : sp = tx sep) (hm : Ent.obj a (OList (sv ls)) ∈ led) (hok : (ls.map List.length).sum + ls.length * sep.length ≤ 16777216)
    (h : K (.str (tx (joinL sep ls)) 0) loc led) : CallT C A env (.builtin "str.join") [.str sp 0, .ref a] loc led K := by subst hsp; exact B_join hm hok h
theorem SUB_strT {value slice : Expr} {sp : Str} {cs : List Nat} {i : Int} {c : Nat} {K : Value → Loc → Led → Prop} (hsp : sp = tx cs) (j : Nat) (hi : i = j) (hc : cs[j]? = some c) (hn : cs.length ≤ sizeLine) (h : K (.str (tx [c]) 0) loc led)
    (hs : ∀ a t k u, subscripted slice false (.str a t) (.int k u) = operate [.str a t, .int k u] (getItem (.str a t) (.int k u)) := by intro _ _ _ _; with_unfolding_all rfl)
    (ht : ∀ a t r, letTemporaryGo value (.str a t) r = pure () := by intro _ _ _; with_unfolding_all rfl) : SUB C A env value slice (.str sp 0) (.int i 0) loc led K := by subst hsp; exact SUB_str j hi hc hn h hs ht
theorem ifsT (H : CxP C) {sp : Str} {l cs : List Nat} {x : Int} (hsp : sp = tx l) (ht : Told l cs) (hx : dv cs = x) {K : Value → Loc → Led → Prop} (fit : Fit A 9)
    (hK : K (.int x 0) loc led) : CallT C A env (.ref 36) [.str sp 0] loc led K := by subst hsp hx; exact ifs H ht fit hK
theorem O_ne_intsT {a b : Addr} {xs : List Int} {K : Value → Loc → Led → Prop} (hf : Fit A 4) (ha : Ent.obj a (OList (iv xs)) ∈ led) (hb : Ent.obj b (OList (iv xs)) ∈ led) (h : K (.bool false) loc led) :
    Op2 C A env (compareOp .NotEq) (.ref a) (.ref b) loc led K := O_ne_ints hf ha hb (by rw [decide_eq_true rfl]; exact h)
theorem SUB_tup0 {value slice : Expr} {a : Addr} {x y : Value} {K : Value → Loc → Led → Prop} (hm : Ent.obj a (OTup [x, y]) ∈ led) (h : K x loc led)
    (hs : ∀ a k u, subscripted slice false (.ref a) (.int k u) = operate [.ref a, .int k u] (getItem (.ref a) (.int k u)) := by intro _ _ _; with_unfolding_all rfl)
    (ht : ∀ a r, letTemporaryGo value (.ref a) r = pure () := by intro _ _; with_unfolding_all rfl) : SUB C A env value slice (.ref a) (.int 0 0) loc led K := SUB_tup 0 rfl hm rfl (show 2 ≤ 100 by decide) h hs ht
theorem SUB_tup1 {value slice : Expr} {a : Addr} {x y : Value} {K : Value → Loc → Led → Prop} (hm : Ent.obj a (OTup [x, y]) ∈ led) (h : K y loc led)
    (hs : ∀ a k u, subscripted slice false (.ref a) (.int k u) = operate [.ref a, .int k u] (getItem (.ref a) (.int k u)) := by intro _ _ _; with_unfolding_all rfl)
    (ht : ∀ a r, letTemporaryGo value (.ref a) r = pure () := by intro _ _; with_unfolding_all rfl) : SUB C A env value slice (.ref a) (.int 1 0) loc led K := SUB_tup 1 rfl hm rfl (show 2 ≤ 100 by decide) h hs ht
theorem O_add_strT {a b : List Nat} {sp : Str} {K : Value → Loc → Led → Prop} (hsp : sp = tx b) (hn : a.length + b.length ≤ sizeLine) (h : K (.str (tx (a ++ b)) 0) loc led) : Op2 C A env (binaryOp .Add) (.str (tx a) 0) (.str sp 0) loc led K := by subst hsp; exact O_add_str hn h
end
theorem mod_cast0 {p k : Nat} : (p : Int) % (1 + (k : Int)) = ((p % (k + 1) : Nat) : Int) := by rw [Int.add_comm]; rfl
theorem mod_cast1 {p k : Nat} (h : (p : Int) % (1 + (k : Int)) = 0) : p % (k + 1) = 0 := by rw [mod_cast0] at h; exact ar50_13 h
theorem mod_cast2 {p k : Nat} (h : p % (k + 1) = 0) : (p : Int) % (1 + (k : Int)) = 0 := by rw [mod_cast0, h]; rfl
theorem mod_cast3 {b s k p : Nat} : ((b : Int) + (s : Int) * (k : Int)) % (p : Int) = (((b + s * k) % p : Nat) : Int) := rfl
noncomputable def sizeAt (p : Nat) (k : Nat) : Option Value := if p % (k + 1) = 0 then some (.int ((k + 1 : Nat) : Int) 0) else none
theorem sizeAt_get {p k : Nat} {v : Value} (h : (gather (sizeAt p) p)[k]? = some v) : ∃ s : Nat, v = .int s 0 ∧ 1 ≤ s ∧ s ≤ p ∧ p % s = 0 := by
  have hm := List.mem_of_getElem? h
  unfold gather at hm
  obtain ⟨j, hj, e⟩ := List.mem_filterMap.mp hm
  unfold sizeAt at e
  split at e
  · next hd =>
    have := List.mem_range.mp hj
    exact ⟨j + 1, (Option.some.inj e).symm, by exact ar50_14, by exact ar50_15 this, hd⟩
  · cases e
theorem menu_ok : ∀ i, i < 16 → ∃ m : Nat, menu[i]? = some (m : Int) ∧ 4 ≤ m ∧ m ≤ 101 := by
  intro i hi
  have h : ∀ i < 16, ∃ m ≤ 101, menu[i]? = some (Int.ofNat m) ∧ 4 ≤ m := by decide +kernel
  obtain ⟨m, h1, h2, h3⟩ := h i hi
  exact ⟨m, h2, h3, h1⟩
theorem ring_slice {m r : Int} {n st : Nat} : ((iv (rts m r n)).drop st).take (n - st) = iv (ringL m r st (n - st)) := by
  unfold iv rts ringL
  refine List.ext_getElem? fun j => ?_
  by_cases h : j < n - st
  · simp [h]; rfl
  · simp [h]
theorem figs_slice {m r : Int} {n st : Nat} : ((iv (fgs m r n)).drop st).take (n - st) = iv ((List.range (n - st)).map (phi m r st)) := by
  unfold iv fgs
  refine List.ext_getElem? fun j => ?_
  by_cases h : j < n - st
  · simp [h]; rfl
  · simp [h]
set_option maxHeartbeats 4000000 in
theorem lawWalk {C : Cx} (H : CxP C) {xs : List Int} (hx : xs.length ≤ 63) {sl : Addr} {A : Around} {s : Shared} (B : Base C s) (fit : Fit A 60)
    (hsl : Old C sl (iv xs)) : ∀ args', erL args' = [.ref sl] → wpAny C.M A (call (.ref 118) args') (fun v s' => er v = .bool true ∧ After C s') (fun _ _ => False) s := by
  refine C_entryF H (f := 118) (c := 117) (K := fun v => v = .bool true) (loc' := [("script", some (.ref sl)), ("whole", none), ("rests", none), ("figures", none), ("start", none), ("line", none), ("twice", none), ("i", none), ("j", none), ("said", none), ("due", none), ("often", none), ("nines", none), ("groups", none), ("heads", none), ("row", none), ("values", none), ("told", none), ("width", none), ("length", none), ("endless", none), ("low", none), ("middle", none), ("high", none), ("number", none), ("base", none), ("total", none)])
    (cv := [("turned", none), ("begin", none), ("size", none), ("count", none), ("ring", none), ("upper", none), ("lower", none)]) ["script"] B fit.lt rfl rfl rfl rfl rfl rfl rfl rfl rfl rfl rfl rfl (fun args' ha => ?_) rfl (by kernel_rfl) (by wtm_at "lwin") (by wtm_at "lwin") (by kernel_rfl) (fun L cs' hcs => ?_)
  · obtain ⟨x, rfl⟩ := erL1 ha
    rfl
  · obtain ⟨ct, cb, cz, cc, cr, cu, cl, rfl⟩ := len7 hcs
    have fit1 := fun e : Env => Fit.deeper (env := e) (n := 59) fit
    with_reducible refine with_env (n := 59) H (fit1 _) [("_law_cell", .ref 99), ("_law_divided", .ref 113), ("range", .type "range"), ("len", .builtin "len"), ("_strcoll", .ref 85), ("isinstance", .builtin "isinstance"), ("bool", .type "bool"), ("_law_groups", .ref 106), ("int_from_string", .ref 36), ("int_divmod", .ref 78), ("sum", .builtin "sum")] [("turned", ct), ("begin", cb), ("size", cz), ("count", cc), ("ring", cr), ("upper", cu), ("lower", cl)] ?h1 ?h2 ?h3 ?h4 ?h5 ?h6 (fun hE fit' => ?h7)
    case h1 => rfl
    case h2 => rfl
    case h3 => rfl
    case h4 => kernel_rfl
    case h5 => kernel_rfl
    case h6 => kernel_rfl
    case h7 =>
    simp only [cellEnts, List.cons_append, List.nil_append]
    with_reducible refine Tri.gen fun K0 hK0 => ?_
    repeat tb_start
    with_reducible refine law_cell' (p := 0) H ?_ hx ?_ ?_ ?_
    · rfl
    · exact fit'.mono (by decide)
    · exact hsl
    repeat tb_start
    have hi0 : ∃ i0 : Nat, xs.getD 0 0 % 16 = (i0 : Int) ∧ i0 < 16 := ⟨(xs.getD 0 0 % 16).toNat, by exact ar50_16, by exact ar50_17⟩
    obtain ⟨i0, hi0, hi1⟩ := hi0
    with_reducible refine O_mod' (by decide) hi0 ?_
    obtain ⟨m, hm, hm4, hm101⟩ := menu_ok i0 hi1
    repeat tb_start
    with_reducible refine SUB_listT (v := .int m 0) i0 rfl (by tb_rel) ?_ (by decide) ?_
    · exact iv_get (l := menu) hm
    repeat tb_start
    with_reducible refine law_cell' (p := 1) H ?_ hx ?_ ?_ ?_
    · rfl
    · exact fit'.mono (by decide)
    · exact hsl
    repeat tb_start
    with_reducible refine O_mod' (by decide) rfl ?_
    repeat tb_start
    have hu : (xs.getD 1 96 % 200 - 100).natAbs ≤ 1000 := by exact ar50_18
    generalize xs.getD 1 96 % 200 - 100 = u at hu
    with_reducible refine ldiv H (by exact ar50_19 hm4) (by exact ar50_20 hm101) hu ?_ (fun n st t ra fa D => ?_)
    · exact fit'.mono (by decide)
    have hmI : (0 : Int) < m := by exact ar50_21 hm4
    have h0 := Int.emod_nonneg u (show (m : Int) ≠ 0 by exact ar50_22 hmI)
    have h1 := Int.emod_lt_of_pos u hmI
    have hDp := D.pos
    have hnm : n ≤ 101 := by have := D.le; exact ar50_23 hm101 this
    have hbm : intBits (m : Int) ≤ 16 := small_bits (by exact ar50_24 hm101)
    repeat tb_start
    with_reducible refine O_fdiv' hmI (Nat.le_trans hbm (by decide)) rfl ?_
    repeat tb_start
    with_reducible refine B_len_list (by tb_rel) ?_ ?_
    · rw [iv_length, rts_len]; exact Nat.le_trans hnm (by decide)
    rw [iv_length, rts_len]
    repeat tb_start
    with_reducible refine B_range1 (fun rr => ?_)
    with_reducible refine COMPS.range rr 0 n (fun k => some (.int (rt m (u % m) k) 0)) rfl ?_ (by decide) ?_ (CB_0 fun Lc acc it k ys hk KB hKB => ?_) ?_
    · rw [Int.zero_add]; exact List.mem_cons_self
    · exact ar50_25 hnm
    · with_reducible refine with_envT H [] [("lower", cl), ("upper", cu)] ?_ ?_ ?_ ?_ ?_ ?_ (fun hE2 => ?_)
      · rfl
      · rfl
      · rfl
      · kernel_rfl
      · kernel_rfl
      · kernel_rfl
      rw [Int.zero_add]
      repeat tb_start
      with_reducible refine O_pow10 ?_ ?_
      · exact ar50_26 hnm hk
      repeat tb_start
      with_reducible refine O_mul (mulok ?_ ?_) ?_
      · exact Nat.le_trans (small_bits (by exact ar50_27 hu)) (by decide)
      · exact Nat.le_trans (ten_bits k) (Nat.le_trans (show 4 * k + 1 ≤ 1000 by exact ar50_28 hnm hk) (by decide))
      repeat tb_start
      with_reducible refine O_mod' hmI (rt_pow k).symm ?_
      exact hKB _ _ _ ⟨rfl, ⟨_, rfl⟩, by wtm_at "lwsub"⟩
    · intro a
      rw [gather_iv]
      repeat tb_start
      with_reducible refine O_ne_ints (fit'.mono (by decide)) (by tb_rel) (by tb_rel) ?_
      rw [show (!decide (rts m (u % m) n = (List.range n).map (rt m (u % m)))) = false by simp [rts]]
      repeat tb_start
      with_reducible refine COMPS.list ra (iv (rts m (u % m) n)) (fun k => some (.int (fg m (u % m) k) 0)) rfl (by tb_rel) ?_ (CB_0 fun Lc acc it k ys hk KB hKB => ?_) ?_
      · rw [iv_length, rts_len]; exact Nat.le_trans hnm (by decide)
      · rw [iv_length, rts_len] at hk
        rw [iv_getD (rts_get hk)]
        with_reducible refine with_envT H [] [("lower", cl)] ?_ ?_ ?_ ?_ ?_ ?_ (fun hE2 => ?_)
        · rfl
        · rfl
        · rfl
        · kernel_rfl
        · kernel_rfl
        · kernel_rfl
        have hrk := rt_range h0 h1 k
        repeat tb_start
        with_reducible refine O_mul (mulok ?_ ?_) ?_
        · decide
        · exact Nat.le_trans (small_bits (by exact ar50_29 hm101 hrk)) (by decide)
        repeat tb_start
        with_reducible refine O_fdiv' hmI (Nat.le_trans hbm (by decide)) rfl ?_
        exact hKB _ _ _ ⟨rfl, ⟨_, rfl⟩, by wtm_at "lwsub"⟩
      · intro a2
        rw [gather_iv, iv_length, rts_len]
        repeat tb_start
        with_reducible refine O_ne_ints (fit'.mono (by decide)) (by tb_rel) (by tb_rel) ?_
        rw [show (!decide (fgs m (u % m) n = (List.range n).map (fg m (u % m)))) = false by simp [fgs]]
        repeat tb_start
        with_reducible refine SUB_list (v := .int (rt m (u % m) (n - 1)) 0) (n - 1) (by tb_rel) ?_ (.inr ?_) ?_ ?_
        · exact iv_get (rts_get (by exact ar50_30 hDp))
        · rw [iv_length, rts_len]; exact ar50_31 hDp
        · rw [iv_length, rts_len]; exact Nat.le_trans hnm (by decide)
        have hrl := rt_range h0 h1 (n - 1)
        repeat tb_start
        with_reducible refine O_mul (mulok ?_ ?_) ?_
        · decide
        · exact Nat.le_trans (small_bits (by exact ar50_29 hm101 hrl)) (by decide)
        repeat tb_start
        have hback : 10 * rt m (u % m) (n - 1) % m = rt m (u % m) st := by
          rw [← D.back]
          conv => rhs; rw [show n = (n - 1) + 1 by exact ar50_32 hDp]
          rfl
        with_reducible refine O_mod' hmI hback ?_
        repeat tb_start
        with_reducible refine SUB_list (v := .int (rt m (u % m) st) 0) st (by tb_rel) ?_ (.inl rfl) ?_ ?_
        · exact iv_get (rts_get hDp)
        · rw [iv_length, rts_len]; exact Nat.le_trans hnm (by decide)
        repeat tb_start
        with_reducible refine SLC_list st n (by tb_rel) .int ?_ ?_ (fun rg => ?_)
        · exact .inr ⟨rfl, by rw [iv_length, rts_len]⟩
        · rw [iv_length, rts_len]; exact ⟨Nat.le_of_lt hDp, Nat.le_refl _, Nat.le_trans hnm (by decide)⟩
        rw [ring_slice]
        have hp : ∃ p, p = n - st := ⟨_, rfl⟩
        obtain ⟨p, hp⟩ := hp
        rw [← hp]
        have hp1 : 1 ≤ p := by exact ar50_33 hDp hp
        have hp2 : p ≤ 101 := by exact ar50_34 hnm hp
        have hrl : (iv (ringL m (u % m) st p)).length = p := by rw [iv_length]; simp [ringL]
        repeat tb_start
        with_reducible refine B_len_list (by tb_rel) ?_ ?_
        · rw [hrl]; exact Nat.le_trans hp2 (by decide)
        rw [hrl]
        repeat tb_start
        with_reducible refine SLC_list st n (by tb_rel) .int ?_ ?_ (fun fsl => ?_)
        · exact .inr ⟨rfl, by rw [iv_length, fgs_len]⟩
        · rw [iv_length, fgs_len]; exact ⟨Nat.le_of_lt hDp, Nat.le_refl _, Nat.le_trans hnm (by decide)⟩
        rw [figs_slice, ← hp]
        have hfl : (iv ((List.range p).map (phi m (u % m) st))).length = p := by rw [iv_length]; simp
        with_reducible refine COMPS.list fsl (iv ((List.range p).map (phi m (u % m) st))) (fun k => some (.str (tx [dig m (u % m) st k]) 0)) rfl (by tb_rel) ?_ (CB_0 fun Lc acc it k ys hk KB hKB => ?_) ?_
        · rw [hfl]; exact Nat.le_trans hp2 (by decide)
        · rw [hfl] at hk
          rw [iv_getD (x := phi m (u % m) st k) (by rw [List.getElem?_map, List.getElem?_range hk]; rfl)]
          with_reducible refine with_envT H [] [] ?_ ?_ ?_ ?_ ?_ ?_ (fun hE2 => ?_)
          · rfl
          · rfl
          · rfl
          · kernel_rfl
          · kernel_rfl
          · kernel_rfl
          have hph := phi_range h0 h1 (st := st) k
          repeat tb_start
          with_reducible refine SUB_strT (c := dig m (u % m) st k) str_figs (phi m (u % m) st k).toNat ?_ ?_ ?_ ?_
          · exact ar50_35 hph
          · exact figs10 _ (by exact ar50_36 hph)
          · decide
          exact hKB _ _ _ ⟨rfl, ⟨_, rfl⟩, by wtm_at "lwsub"⟩
        · intro a3
          rw [gather_sv, hfl]
          repeat tb_start
          with_reducible refine B_joinT str_nil (by tb_rel) ?_ ?_
          · rw [List.map_map, show (List.length ∘ fun k => [dig m (u % m) st k]) = fun _ => 1 from rfl, List.length_map, List.length_range, List.length_nil, Nat.mul_zero, List.map_const', List.sum_replicate_nat, List.length_range]; exact ar50_37 hp2
          rw [joinL_nil, flat_sing]
          have hline : (List.range p).map (dig m (u % m) st) = dgs m (u % m) st 0 p := by unfold dgs; simp
          rw [hline]
          repeat tb_start
          with_reducible refine O_add_str ?_ ?_
          · rw [dgs_len]; exact Nat.le_trans (show p + p ≤ 1000 by exact ar50_38 hp2) (by decide)
          have htw : dgs m (u % m) st 0 p ++ dgs m (u % m) st 0 p = dgs m (u % m) st 0 (2 * p) := by
            have := dgs_per h0 h1 D 0 p
            rw [← hp] at this
            conv => lhs; rhs; rw [← this]
            rw [dgs_append]; congr 1; exact ar50_39
          rw [htw]
          have hcut1 : ∀ i, i < p → ((dgs m (u % m) st 0 p).drop i).take (p - i) = dgs m (u % m) st i (p - i) := fun i hi => by rw [dgs_cut (Nat.le_refl _), Nat.zero_add]
          have hcut2 : ∀ i, i < p → ((dgs m (u % m) st 0 (2 * p)).drop i).take (2 * p - i) = dgs m (u % m) st i (2 * p - i) := fun i hi => by rw [dgs_cut (Nat.le_refl _), Nat.zero_add]
          have rget : ∀ i, i < p → (iv (ringL m (u % m) st p))[i]? = some (.int (rho m (u % m) st i) 0) := fun i hi => iv_get (by unfold ringL; rw [List.getElem?_map, List.getElem?_range hi]; rfl)
          have hl1 : (dgs m (u % m) st 0 p).length = p := dgs_len
          have hl2 : (dgs m (u % m) st 0 (2 * p)).length = 2 * p := dgs_len
          have hz1 : p ≤ sizeLine := Nat.le_trans hp2 (by decide)
          have hz2 : 2 * p ≤ sizeLine := Nat.le_trans (show 2 * p ≤ 202 by exact ar50_40 hp2) (by decide)
          repeat tb_start
          with_reducible refine X_ForRange ?_ ?_
          · exact fit'.hd
          repeat tb_start
          with_reducible refine B_range1 (fun r1 => ?_)
          refine ⟨r1, p, fun k l d => ∃ x1 x2 x3 x4, l = ([("script", some (.ref sl)), ("whole", some (.int (u / m) 0)), ("rests", some (.ref ra)), ("figures", some (.ref fa)), ("start", some (.int st 0)), ("line", some (.str (tx (dgs m (u % m) st 0 p)) 0)), ("twice", some (.str (tx (dgs m (u % m) st 0 (2 * p))) 0)), ("i", x1), ("j", x2), ("said", x3), ("due", x4), ("often", none), ("nines", none), ("groups", none), ("heads", none), ("row", none), ("values", none), ("told", none), ("width", none), ("length", none), ("endless", none), ("low", none), ("middle", none), ("high", none), ("number", none), ("base", none), ("total", none)] : Loc) ∧
            d = (.obj rg (OList (iv (ringL m (u % m) st p))) :: .obj ct (OCell (none)) :: .obj cb (OCell (none)) :: .obj cz (OCell (none)) :: .obj cc (OCell (some (.int p 0))) :: .obj cr (OCell (some (.ref rg))) :: .obj cu (OCell (some (.int u 0))) :: .obj cl (OCell (some (.int m 0))) :: [] : Led), _, rfl, by exact ar50_41 hp2, Sub.cons (by wtm_at "lwsub"), ⟨_, _, _, _, rfl, rfl⟩, ?_, ?_⟩
          · rintro i l d it hi ⟨x1, x2, x3, x4, rfl, rfl⟩
            with_reducible refine SN_gen fun K1 hK1 => ?_
            repeat tb_start
            with_reducible refine SLC_str i p .int ?_ ?_ ?_
            · exact .inr ⟨rfl, hl1.symm⟩
            · exact ⟨Nat.le_of_lt hi, Nat.le_of_eq hl1.symm, by rw [hl1]; exact hz1⟩
            rw [hcut1 i hi]
            repeat tb_start
            with_reducible refine SLC_str i (2 * p) .int ?_ ?_ ?_
            · exact .inr ⟨rfl, hl2.symm⟩
            · exact ⟨by exact ar50_42 hi, Nat.le_of_eq hl2.symm, by rw [hl2]; exact hz2⟩
            rw [hcut2 i hi]
            repeat tb_start
            have hlt := cmpS_lt (dgs_lt (m := m) (r := u % m) (st := st) (i := i) (a := p - i) (b := 2 * p - i) (by exact ar50_43 hi))
            with_reducible refine strcoll H (fit'.mono (by decide)) ?_
            rw [tx_cps, tx_cps, hlt.1]
            repeat tb_start
            with_reducible refine SLC_str i (2 * p) .int ?_ ?_ ?_
            · exact .inr ⟨rfl, hl2.symm⟩
            · exact ⟨by exact ar50_42 hi, Nat.le_of_eq hl2.symm, by rw [hl2]; exact hz2⟩
            rw [hcut2 i hi]
            repeat tb_start
            with_reducible refine SLC_str i p .int ?_ ?_ ?_
            · exact .inr ⟨rfl, hl1.symm⟩
            · exact ⟨Nat.le_of_lt hi, Nat.le_of_eq hl1.symm, by rw [hl1]; exact hz1⟩
            rw [hcut1 i hi]
            repeat tb_start
            with_reducible refine strcoll H (fit'.mono (by decide)) ?_
            rw [tx_cps, tx_cps, hlt.2]
            repeat tb_start
            with_reducible refine X_ForRange ?_ ?_
            · exact fit'.hd
            repeat tb_start
            with_reducible refine B_range1 (fun r2 => ?_)
            refine ⟨r2, p, fun k l d => ∃ x2 x3 x4, l = ([("script", some (.ref sl)), ("whole", some (.int (u / m) 0)), ("rests", some (.ref ra)), ("figures", some (.ref fa)), ("start", some (.int st 0)), ("line", some (.str (tx (dgs m (u % m) st 0 p)) 0)), ("twice", some (.str (tx (dgs m (u % m) st 0 (2 * p))) 0)), ("i", some (.int i 0)), ("j", x2), ("said", x3), ("due", x4), ("often", none), ("nines", none), ("groups", none), ("heads", none), ("row", none), ("values", none), ("told", none), ("width", none), ("length", none), ("endless", none), ("low", none), ("middle", none), ("high", none), ("number", none), ("base", none), ("total", none)] : Loc) ∧
              d = (.obj it (ORangeIter ((i + 1 : Nat) : Int) ((p : Int) - ((i + 1 : Nat) : Int)) 1) :: .obj rg (OList (iv (ringL m (u % m) st p))) :: .obj ct (OCell (none)) :: .obj cb (OCell (none)) :: .obj cz (OCell (none)) :: .obj cc (OCell (some (.int p 0))) :: .obj cr (OCell (some (.ref rg))) :: .obj cu (OCell (some (.int u 0))) :: .obj cl (OCell (some (.int m 0))) :: [] : Led), _, rfl, by exact ar50_41 hp2, Sub.cons (by wtm_at "lwsub"), ⟨_, _, _, rfl, rfl⟩, ?_, ?_⟩
            · rintro j l d it2 hj ⟨x2, x3, x4, rfl, rfl⟩
              with_reducible refine SN_gen fun K2 hK2 => ?_
              repeat tb_start
              with_reducible refine SLC_str i (2 * p) .int ?_ ?_ ?_
              · exact .inr ⟨rfl, hl2.symm⟩
              · exact ⟨by exact ar50_42 hi, Nat.le_of_eq hl2.symm, by rw [hl2]; exact hz2⟩
              rw [hcut2 i hi]
              repeat tb_start
              with_reducible refine SLC_str j (2 * p) .int ?_ ?_ ?_
              · exact .inr ⟨rfl, hl2.symm⟩
              · exact ⟨by exact ar50_42 hj, Nat.le_of_eq hl2.symm, by rw [hl2]; exact hz2⟩
              rw [hcut2 j hj]
              repeat tb_start
              with_reducible refine strcoll H (fit'.mono (by decide)) ?_
              rw [tx_cps, tx_cps, said_due h0 h1 D hp (by exact ar50_44 hm101) hi hj]
              repeat tb_start
              refine dec_ite (fun hij => ?_) (fun hij => ?_)
              · have hij' : i = j := by exact ar50_45 hij
                rw [if_pos hij']
                repeat tb_start
                with_reducible refine B_isinst_bool ?_
                repeat tb_start
                exact hK2 _ _ _ (forK_next ⟨_, by wtm_at "lwsub", _, _, _, rfl, rfl⟩)
              · have hij' : ¬ i = j := by exact ar50_46 hij
                rw [if_neg hij']
                repeat tb_start
                with_reducible refine SUB_list (v := .int (rho m (u % m) st i) 0) i (by tb_rel) ?_ (.inl rfl) ?_ ?_
                · exact rget i hi
                · rw [hrl]; exact hz1
                repeat tb_start
                with_reducible refine SUB_list (v := .int (rho m (u % m) st j) 0) j (by tb_rel) ?_ (.inl rfl) ?_ ?_
                · exact rget j hj
                · rw [hrl]; exact hz1
                repeat tb_start
                with_reducible refine dec_ite (fun hlt => ?_) (fun hlt => ?_)
                · rw [if_pos hlt]
                  repeat tb_start
                  with_reducible refine B_isinst_bool ?_
                  repeat tb_start
                  exact hK2 _ _ _ (forK_next ⟨_, by wtm_at "lwsub", _, _, _, rfl, rfl⟩)
                · rw [if_neg hlt]
                  repeat tb_start
                  with_reducible refine B_isinst_bool ?_
                  repeat tb_start
                  exact hK2 _ _ _ (forK_next ⟨_, by wtm_at "lwsub", _, _, _, rfl, rfl⟩)
            · rintro l d ⟨x2, x3, x4, rfl, rfl⟩
              repeat tb_start
              exact hK1 _ _ _ (forK_next ⟨_, by wtm_at "lwsub", _, _, _, _, rfl, rfl⟩)
          · rintro l d ⟨x1, x2, x3, x4, rfl, rfl⟩
            repeat tb_start
            with_reducible refine X_ForList ?_ ?_
            · exact fit'.hd
            repeat tb_start
            with_reducible refine B_range2 (fun r3 => ?_)
            rw [Int.add_comm (p : Int) 1]
            with_reducible refine COMPS.range r3 1 p (sizeAt p) rfl ?_ (by decide) ?_ (CB_1 fun Lc acc it k ys hk KB hKB => ?_) ?_
            · exact List.mem_cons_self
            · exact ar50_25 hp2
            · with_reducible refine with_envT H [] [("count", cc)] ?_ ?_ ?_ ?_ ?_ ?_ (fun hE2 => ?_)
              · rfl
              · rfl
              · rfl
              · kernel_rfl
              · kernel_rfl
              · kernel_rfl

              repeat tb_start
              with_reducible refine O_mod' (by exact ar50_47) rfl ?_
              repeat tb_start
              with_reducible refine dec_ite (fun hd => ?_) (fun hd => ?_)
              · repeat tb_start
                refine hKB _ _ _ ⟨?_, ⟨_, rfl⟩, by wtm_at "lwsub"⟩
                unfold sizeAt
                rw [if_pos (mod_cast1 hd), show (1 : Int) + (k : Int) = ((k + 1 : Nat) : Int) by exact ar50_48]
              · refine hKB _ _ _ ⟨?_, ⟨_, rfl⟩, by wtm_at "lwsub"⟩
                unfold sizeAt
                rw [if_neg (fun q => hd (mod_cast2 q))]
            · intro zl
              with_reducible refine ⟨zl, gather (sizeAt p) p, fun k l d => ∃ x1 x2 x3 x4 y1 y2 y3 y4 y5 y6 y7 c1 c2 c3, l = ([("script", some (.ref sl)), ("whole", some (.int (u / m) 0)), ("rests", some (.ref ra)), ("figures", some (.ref fa)), ("start", some (.int st 0)), ("line", some (.str (tx (dgs m (u % m) st 0 p)) 0)), ("twice", some (.str (tx (dgs m (u % m) st 0 (2 * p))) 0)), ("i", x1), ("j", x2), ("said", x3), ("due", x4), ("often", y1), ("nines", y2), ("groups", y3), ("heads", y4), ("row", y5), ("values", y6), ("told", y7), ("width", none), ("length", none), ("endless", none), ("low", none), ("middle", none), ("high", none), ("number", none), ("base", none), ("total", none)] : Loc) ∧
                d = (.obj zl (OList (gather (sizeAt p) p)) :: .obj r3 (ORange 1 (1 + (p : Int)) 1) :: .obj rg (OList (iv (ringL m (u % m) st p))) :: .obj ct (OCell (c1)) :: .obj cb (OCell (c2)) :: .obj cz (OCell (c3)) :: .obj cc (OCell (some (.int p 0))) :: .obj cr (OCell (some (.ref rg))) :: .obj cu (OCell (some (.int u 0))) :: .obj cl (OCell (some (.int m 0))) :: [] : Led), rfl, ?_, ?_, ?_, ?_⟩
              · exact ⟨_, _, _, _, _, _, _, _, _, _, _, _, _, _, rfl, rfl⟩
              · rintro k l d ⟨x1, x2, x3, x4, y1, y2, y3, y4, y5, y6, y7, c1, c2, c3, rfl, rfl⟩
                tb_rel
              · rintro k l d it v hv ⟨x1, x2, x3, x4, y1, y2, y3, y4, y5, y6, y7, c1, c2, c3, rfl, rfl⟩
                obtain ⟨s, hv, hs1, hs2, hs3⟩ := sizeAt_get hv
                subst hv
                with_reducible refine SN_gen fun K3 hK3 => ?_
                repeat tb_start
                with_reducible refine law_cell' (p := 2) H ?_ hx ?_ ?_ ?_
                · rfl
                · exact fit'.mono (by decide)
                · exact hsl
                repeat tb_start
                have hb : ∃ b : Nat, (xs.getD 2 0 + (s : Int)) % (p : Int) = (b : Int) ∧ b < p := by
                  have q0 := Int.emod_nonneg (xs.getD 2 0 + (s : Int)) (show (p : Int) ≠ 0 by exact ar50_49 hs1 hs2)
                  have q1 := Int.emod_lt_of_pos (xs.getD 2 0 + (s : Int)) (show (0 : Int) < p by exact ar50_50 hs1 hs2)
                  exact ⟨((xs.getD 2 0 + (s : Int)) % (p : Int)).toNat, by exact ar50_51 q0, by exact ar50_52 q0 q1⟩
                obtain ⟨b, hb, hbp⟩ := hb
                with_reducible refine O_mod' (by exact ar50_53 hbp) hb ?_
                obtain ⟨o, ho⟩ : ∃ o, p = s * o := Nat.dvd_of_mod_eq_zero hs3
                have hpo : (p : Int) / (s : Int) = (o : Int) := by rw [ho, Int.natCast_mul, Int.mul_ediv_cancel_left _ (by exact ar50_54 hs1)]
                have ho1 : 1 ≤ o := by rcases Nat.eq_zero_or_pos o with h | h; (subst h; exact ar50_55 hbp ho); exact h
                have hop : o ≤ p := by rw [ho]; exact Nat.le_mul_of_pos_left o hs1
                repeat tb_start
                with_reducible refine O_fdiv' ?_ ?_ hpo ?_
                · exact ar50_56 hs1
                · exact Nat.le_trans (small_bits (by exact ar50_57 hp2 hs2)) (by decide)
                repeat tb_start
                with_reducible refine O_pow10 ?_ ?_
                · exact ar50_58 hp2 hs2
                repeat tb_start
                with_reducible refine SLC_str b (b + p) .int ?_ ?_ ?_
                · exact .inl (by rw [Int.natCast_add])
                · rw [hl2]; exact ⟨by exact ar50_59, by exact ar50_60 hbp, hz2⟩
                rw [dgs_cut (by exact ar50_60 hbp), Nat.zero_add, Nat.add_sub_cancel_left]
                have hlt : (dgs m (u % m) st b p).length = p := dgs_len
                repeat tb_start
                with_reducible refine B_range1 (fun r4 => ?_)
                with_reducible refine COMPS.range r4 0 o (fun k => some (.str (tx (dgs m (u % m) st (b + s * k) s)) 0)) rfl ?_ (by decide) ?_ (CB_0 fun Lc acc it k ys hk KB hKB => ?_) ?_
                · rw [Int.zero_add]; exact List.mem_cons_self
                · exact ar50_61 hp2 hop
                · with_reducible refine with_envT H [] [("turned", ct), ("size", cz)] ?_ ?_ ?_ ?_ ?_ ?_ (fun hE2 => ?_)
                  · rfl
                  · rfl
                  · rfl
                  · kernel_rfl
                  · kernel_rfl
                  · kernel_rfl
                  rw [Int.zero_add]
                  have hk1 : s * (k + 1) ≤ p := by rw [ho]; exact Nat.mul_le_mul_left s hk
                  have hk2 : s * (k + 1) = s * k + s := Nat.mul_succ s k
                  repeat tb_start
                  with_reducible refine O_mul (mulok ?_ ?_) ?_
                  · exact Nat.le_trans (small_bits (by exact ar50_57 hp2 hs2)) (by decide)
                  · exact Nat.le_trans (small_bits (by exact ar50_62 hp2 hop hk)) (by decide)
                  repeat tb_start
                  with_reducible refine O_mul (mulok ?_ ?_) ?_
                  · exact Nat.le_trans (small_bits (by exact ar50_57 hp2 hs2)) (by decide)
                  · exact Nat.le_trans (small_bits (by exact ar50_63 hp2 hop hk)) (by decide)
                  repeat tb_start
                  with_reducible refine SLC_str (s * k) (s * (k + 1)) ?_ ?_ ?_ ?_
                  · exact .inl (by rw [Int.natCast_mul])
                  · exact .inl (by rw [Int.natCast_mul, Int.natCast_succ])
                  · rw [hlt]; exact ⟨by exact ar50_64 hk2, hk1, hz1⟩
                  rw [dgs_cut hk1, hk2, Nat.add_sub_cancel_left]
                  exact hKB _ _ _ ⟨rfl, ⟨_, rfl⟩, by wtm_at "lwsub"⟩
                · intro g1 e1
                  rw [gather_sv, show ((List.range o).map fun k => dgs m (u % m) st (b + s * k) s) = grps m (u % m) st b s o from rfl]
                  repeat tb_start
                  refine ⟨_, by wtm_at "lwsub", ?_⟩
                  repeat tb_start
                  with_reducible refine B_range1 (fun r5 => ?_)
                  with_reducible refine COMPS.range r5 0 o (fun k => some (.int (rho m (u % m) st (b + s * k)) 0)) rfl ?_ (by decide) ?_ (CB_0 fun Lc acc it k ys hk KB hKB => ?_) ?_
                  · rw [Int.zero_add]; exact List.mem_cons_self
                  · exact ar50_61 hp2 hop
                  · with_reducible refine with_envT H [] [("ring", cr), ("begin", cb), ("size", cz), ("count", cc)] ?_ ?_ ?_ ?_ ?_ ?_ (fun hE2 => ?_)
                    · rfl
                    · rfl
                    · rfl
                    · kernel_rfl
                    · kernel_rfl
                    · kernel_rfl
                    rw [Int.zero_add]
                    repeat tb_start
                    with_reducible refine O_mul (mulok ?_ ?_) ?_
                    · exact Nat.le_trans (small_bits (by exact ar50_57 hp2 hs2)) (by decide)
                    · exact Nat.le_trans (small_bits (by exact ar50_62 hp2 hop hk)) (by decide)
                    repeat tb_start
                    have hmod : ((b : Int) + (s : Int) * (k : Int)) % (p : Int) = (((b + s * k) % p : Nat) : Int) := mod_cast3
                    with_reducible refine O_mod' (by exact ar50_50 ho1 hop) hmod ?_
                    have hlt' : (b + s * k) % p < p := Nat.mod_lt _ (by exact ar50_65 ho1 hop)
                    repeat tb_start
                    with_reducible refine SUB_list (v := .int (rho m (u % m) st (b + s * k)) 0) ((b + s * k) % p) (by tb_rel) ?_ (.inl rfl) ?_ ?_
                    · rw [rget _ hlt']
                      have := rho_mod h0 h1 D (b + s * k)
                      rw [← hp] at this
                      rw [this]
                    · rw [hrl]; exact hz1
                    exact hKB _ _ _ ⟨rfl, ⟨_, rfl⟩, by wtm_at "lwsub"⟩
                  · intro g2 e2
                    rw [gather_iv]
                    repeat tb_start
                    refine ⟨_, by wtm_at "lwsub", ?_⟩
                    repeat tb_start
                    with_reducible refine X_drop (led' := .obj g2 (OList (iv ((List.range o).map fun k => rho m (u % m) st (b + s * k)))) :: .obj g1 (OList (sv (grps m (u % m) st b s o))) :: .obj it (OListIter zl (k + 1)) :: .obj zl (OList (gather (sizeAt p) p)) :: .obj r3 (ORange 1 (1 + (p : Int)) 1) :: .obj rg (OList (iv (ringL m (u % m) st p))) :: .obj ct (OCell (some (.str (tx (dgs m (u % m) st b p)) 0))) :: .obj cb (OCell (some (.int b 0))) :: .obj cz (OCell (some (.int s 0))) :: .obj cc (OCell (some (.int p 0))) :: .obj cr (OCell (some (.ref rg))) :: .obj cu (OCell (some (.int u 0))) :: .obj cl (OCell (some (.int m 0))) :: []) (by wtm_at "lwsub") ?_
                    with_reducible refine X_ForList ?_ ?_
                    · exact fit'.hd
                    repeat tb_start
                    with_reducible refine O_mul_list (by tb_rel) ?_ ?_ ?_ ?_ (fun td => ?_)
                    · exact ar50_2
                    · exact ar50_66 hp2 hop
                    · show 1 * Int.toNat o ≤ 2 ^ 24
                      exact ar50_67 hp2 hop
                    · exact List.cons_ne_nil _ _
                    repeat tb_start
                    rename_i ta tb tc tl
                    refine ⟨tl, [.ref ta, .ref tb, .ref td], fun _ l d => ∃ z5, l = ([("script", some (.ref sl)), ("whole", some (.int (u / m) 0)), ("rests", some (.ref ra)), ("figures", some (.ref fa)), ("start", some (.int st 0)), ("line", some (.str (tx (dgs m (u % m) st 0 p)) 0)), ("twice", some (.str (tx (dgs m (u % m) st 0 (2 * p))) 0)), ("i", x1), ("j", x2), ("said", x3), ("due", x4), ("often", some (.int o 0)), ("nines", some (.int (10 ^ s - 1) 0)), ("groups", some (.ref g1)), ("heads", some (.ref g2)), ("row", z5), ("values", y6), ("told", y7), ("width", none), ("length", none), ("endless", none), ("low", none), ("middle", none), ("high", none), ("number", none), ("base", none), ("total", none)] : Loc) ∧
                      d = (.obj tl (OList [.ref ta, .ref tb, .ref td]) :: .obj td (OList (List.replicate (Int.toNat o) [Value.int s 0]).flatten) :: .obj tc (OList [.int s 0]) :: .obj tb (OList [.int s 0, .int s 0, .int 0 0, .int 9 0]) :: .obj ta (OList [.int s 0, .int 0 0]) :: .obj g2 (OList (iv ((List.range o).map fun k => rho m (u % m) st (b + s * k)))) :: .obj g1 (OList (sv (grps m (u % m) st b s o))) :: .obj it (OListIter zl (k + 1)) :: .obj zl (OList (gather (sizeAt p) p)) :: .obj r3 (ORange 1 (1 + (p : Int)) 1) :: .obj rg (OList (iv (ringL m (u % m) st p))) :: .obj ct (OCell (some (.str (tx (dgs m (u % m) st b p)) 0))) :: .obj cb (OCell (some (.int b 0))) :: .obj cz (OCell (some (.int s 0))) :: .obj cc (OCell (some (.int p 0))) :: .obj cr (OCell (some (.ref rg))) :: .obj cu (OCell (some (.int u 0))) :: .obj cl (OCell (some (.int m 0))) :: [] : Led), rfl, ?_, ?_, ?_, ?_⟩
                    · exact ⟨_, rfl, rfl⟩
                    · rintro k l d ⟨z5, rfl, rfl⟩
                      tb_rel
                    · rintro kk l d it2 v hv2 ⟨z5, rfl, rfl⟩
                      have key : ∃ rk ws, v = .ref rk ∧ Ent.obj rk (OList (iv ws)) ∈ (.obj tl (OList [.ref ta, .ref tb, .ref td]) :: .obj td (OList (List.replicate (Int.toNat o) [Value.int s 0]).flatten) :: .obj tc (OList [.int s 0]) :: .obj tb (OList [.int s 0, .int s 0, .int 0 0, .int 9 0]) :: .obj ta (OList [.int s 0, .int 0 0]) :: .obj g2 (OList (iv ((List.range o).map fun k => rho m (u % m) st (b + s * k)))) :: .obj g1 (OList (sv (grps m (u % m) st b s o))) :: .obj it (OListIter zl (k + 1)) :: .obj zl (OList (gather (sizeAt p) p)) :: .obj r3 (ORange 1 (1 + (p : Int)) 1) :: .obj rg (OList (iv (ringL m (u % m) st p))) :: .obj ct (OCell (some (.str (tx (dgs m (u % m) st b p)) 0))) :: .obj cb (OCell (some (.int b 0))) :: .obj cz (OCell (some (.int s 0))) :: .obj cc (OCell (some (.int p 0))) :: .obj cr (OCell (some (.ref rg))) :: .obj cu (OCell (some (.int u 0))) :: .obj cl (OCell (some (.int m 0))) :: [] : Led) ∧ RowOk ws (dgs m (u % m) st b (s * o)) (grps m (u % m) st b s o).reverse := by
                        match kk, hv2 with
                        | 0, hv2 => exact ⟨ta, [(s : Int), 0], (Option.some.inj hv2).symm, show Ent.obj ta (OList [.int s 0, .int 0 0]) ∈ _ by tb_rel, row1 hs1 (by exact ar50_68 hp2 hs2)⟩
                        | 1, hv2 => exact ⟨tb, [(s : Int), s, 0, 9], (Option.some.inj hv2).symm, show Ent.obj tb (OList [.int s 0, .int s 0, .int 0 0, .int 9 0]) ∈ _ by tb_rel, row2 hs1 (by exact ar50_68 hp2 hs2)⟩
                        | 2, hv2 => exact ⟨td, List.replicate o (s : Int), (Option.some.inj hv2).symm, by rw [← rep_iv]; exact (show Ent.obj td (OList (List.replicate (Int.toNat o) [Value.int s 0]).flatten) ∈ _ by tb_rel), row3 hs1 (by exact ar50_68 hp2 hs2)⟩
                        | kk + 3, hv2 => cases hv2
                      obtain ⟨rk, ws, rfl, hrk, R⟩ := key
                      rw [← ho] at R
                      with_reducible refine SN_gen fun K4 hK4 => ?_
                      repeat tb_start
                      with_reducible refine lgroupsT H R ?_ ?_ ?_ (fun gg => ?_)
                      · rw [hlt]; exact ar50_69 hp2
                      · exact fit'.mono (by decide)
                      · exact List.mem_cons_of_mem _ hrk
                      repeat tb_start
                      with_reducible refine ⟨g1, sv (grps m (u % m) st b s o), rfl, rfl, by tb_rel, ?_, fun g4 => ?_⟩
                      · unfold sv; rw [List.length_map, grps_len]; exact Nat.le_trans (show o ≤ 101 by exact ar50_68 hp2 hop) (by decide)
                      rw [sv_rev]
                      repeat tb_start
                      with_reducible refine O_ne_strs ?_ ?_ (by tb_rel) (by tb_rel) ?_
                      · exact fit'.mono (by decide)
                      · exact fun l hl => grps_ok h0 h1 l (List.mem_reverse.mp hl)
                      repeat tb_start
                      exact hK4 _ _ _ (forK_next ⟨_, by wtm_at "lwsub", _, rfl, rfl⟩)
                    · rintro l d ⟨z5, rfl, rfl⟩
                      repeat tb_start
                      have hgl : (sv (grps m (u % m) st b s o)).length = o := by unfold sv; rw [List.length_map, grps_len]
                      have hhl : (iv ((List.range o).map fun k => rho m (u % m) st (b + s * k))).length = o := by rw [iv_length]; simp
                      have hoz : o ≤ sizeLine := Nat.le_trans (show o ≤ 101 by exact ar50_68 hp2 hop) (by decide)
                      with_reducible refine COMPS.list g1 (sv (grps m (u % m) st b s o)) (fun k => some (.int (dv (dgs m (u % m) st (b + s * k) s)) 0)) rfl (by tb_rel) ?_ (CB_0 fun Lc acc it k ys hk KB hKB => ?_) ?_
                      · rw [hgl]; exact hoz
                      · rw [hgl] at hk
                        rw [grps_getD hk]
                        with_reducible refine with_envT H [("int_from_string", .ref 36)] [] ?_ ?_ ?_ ?_ ?_ ?_ (fun hE2 => ?_)
                        · rfl
                        · rfl
                        · rfl
                        · kernel_rfl
                        · kernel_rfl
                        · kernel_rfl
                        repeat tb_start
                        with_reducible refine ifsT H rfl (told_dgs h0 h1 hs1 ?_) rfl ?_ ?_
                        · exact ar50_70 hp2 hs2
                        · exact fit'.mono (by decide)
                        exact hKB _ _ _ ⟨rfl, ⟨_, rfl⟩, by wtm_at "lwsub"⟩
                      intro g5 e5
                      rw [gather_iv, hgl]
                      repeat tb_start
                      refine ⟨_, by wtm_at "lwsub", ?_⟩
                      repeat tb_start
                      with_reducible refine COMPS.list g2 (iv ((List.range o).map fun k => rho m (u % m) st (b + s * k))) (fun k => some (.int (dv (dgs m (u % m) st (b + s * k) s)) 0)) rfl (by tb_rel) ?_ (CB_0 fun Lc acc it k ys hk KB hKB => ?_) ?_
                      · rw [hhl]; exact hoz
                      · rw [hhl] at hk
                        rw [iv_getD (x := rho m (u % m) st (b + s * k)) (by rw [List.getElem?_map, List.getElem?_range hk]; rfl)]
                        with_reducible refine with_envT H [] [("size", cz), ("lower", cl)] ?_ ?_ ?_ ?_ ?_ ?_ (fun hE2 => ?_)
                        · rfl
                        · rfl
                        · rfl
                        · kernel_rfl
                        · kernel_rfl
                        · kernel_rfl
                        have hrr := rho_range h0 h1 (st := st) (b + s * k)
                        repeat tb_start
                        with_reducible refine O_pow10 ?_ ?_
                        · exact ar50_58 hp2 hs2
                        repeat tb_start
                        with_reducible refine O_mul (mulok ?_ ?_) ?_
                        · exact Nat.le_trans (ten_bits s) (Nat.le_trans (show 4 * s + 1 ≤ 1000 by exact ar50_71 hp2 hs2) (by decide))
                        · exact Nat.le_trans (small_bits (by exact ar50_29 hm101 hrr)) (by decide)
                        repeat tb_start
                        with_reducible refine O_fdiv' hmI (Nat.le_trans hbm (by decide)) (dv_div h0 h1 (b + s * k) s).symm ?_
                        exact hKB _ _ _ ⟨rfl, ⟨_, rfl⟩, by wtm_at "lwsub"⟩
                      intro g6
                      rw [gather_iv, hhl]
                      repeat tb_start
                      with_reducible refine O_ne_intsT (fit'.mono (by decide)) (by tb_rel) (by tb_rel) ?_
                      repeat tb_start
                      with_reducible refine B_joinT str_under (by tb_rel) ?_ ?_
                      · rw [← List.length_flatten, grps_flat, dgs_len, grps_len, ← ho]
                        show p + o * 1 ≤ 16777216
                        exact ar50_72 hp2 hop
                      have hjl := join_len (grps m (u % m) st b s o)
                      rw [grps_flat, dgs_len, grps_len, ← ho] at hjl
                      repeat tb_start
                      with_reducible refine O_add_strT str_blank ?_ ?_
                      · exact Nat.le_trans (show _ + 1 ≤ 1000 by exact ar50_73 hp2 hop hjl) (by decide)
                      repeat tb_start
                      with_reducible refine ifsT H rfl (told_join (cs := dgs m (u % m) st b p) ?_ ?_ ?_ ?_ ?_ ?_ ?_ ?_) rfl ?_ ?_
                      · intro q; have := grps_len (m := m) (r := u % m) (st := st) (b := b) (s := s) (k := o); rw [q] at this; simp at this; exact ar50_74 ho1 this
                      · exact grps_mem h0 h1 hs1
                      · exact List.cons_ne_nil _ _
                      · decide +kernel
                      · rw [grps_flat, ← ho]
                      · rw [dgs_len]; exact ar50_75 hp2
                      · rw [grps_len]; exact ar50_70 hp2 hop
                      · decide
                      · exact fit'.mono (by decide)
                      repeat tb_start
                      with_reducible refine SUB_list (v := .int (rho m (u % m) st b) 0) 0 (by tb_rel) ?_ (.inl rfl) ?_ ?_
                      · exact iv_get (by rw [List.getElem?_map, List.getElem?_range (by exact ar50_76 ho1)]; rfl)
                      · rw [hhl]; exact hoz
                      have hrb := rho_range h0 h1 (st := st) b
                      repeat tb_start
                      with_reducible refine O_pow10 ?_ ?_
                      · exact ar50_77 hp2
                      repeat tb_start
                      with_reducible refine O_mul (mulok ?_ ?_) ?_
                      · exact Nat.le_trans (small_bits (by exact ar50_29 hm101 hrb)) (by decide)
                      · exact Nat.le_trans (ten_bits1 p) (Nat.le_trans (show 4 * p + 1 ≤ 1000 by exact ar50_78 hp2) (by decide))
                      repeat tb_start
                      with_reducible refine O_fdiv' hmI (Nat.le_trans hbm (by decide)) (whole_text h0 h1 D hp) ?_
                      repeat tb_start
                      with_reducible refine B_sum ?_ (by tb_rel) ?_
                      · exact fit'.hd
                      have hmid := midy h0 h1 (b := b) D hp ho
                      have hN : (0 : Int) < 10 ^ s - 1 := ten_gt hs1
                      have htold := told_eq hmI hN hmid
                      repeat tb_start
                      with_reducible refine divmodT H hN ?_ ?_ htold.1 htold.2 ?_ (fun tt => ?_)
                      · exact Nat.le_trans (midy_bits hmI rfl hN hmid (sum_range (fun i => ⟨(rho_range h0 h1 _).1, Int.le_of_lt (rho_range h0 h1 _).2⟩) o) (by exact ar50_68 hp2 hop)) (show 4 * (s + 3) + 1 ≤ 30000 by exact ar50_79 hp2 hs2)
                      · exact Nat.le_trans (ten_bits1 s) (show 4 * s + 1 ≤ 8000 by exact ar50_80 hp2 hs2)
                      · exact fit'.mono (by decide)
                      repeat tb_start
                      with_reducible refine B_sum ?_ (by tb_rel) ?_
                      · exact fit'.hd
                      repeat tb_start
                      with_reducible refine O_fdiv' hmI (Nat.le_trans hbm (by decide)) rfl ?_
                      repeat tb_start
                      with_reducible refine B_sum ?_ (by tb_rel) ?_
                      · exact fit'.hd
                      repeat tb_start
                      with_reducible refine O_mod' hmI rfl ?_
                      have hm0 := Int.emod_nonneg (((List.range o).map fun i => rho m (u % m) st (b + s * i)).sum) (show (m : Int) ≠ 0 by exact ar50_81 hrb)
                      have hm1 := Int.emod_lt_of_pos (((List.range o).map fun i => rho m (u % m) st (b + s * i)).sum) hmI
                      repeat tb_start
                      with_reducible refine O_mul (mulok ?_ ?_) ?_
                      · exact Nat.le_trans (ten_bits1 s) (Nat.le_trans (show 4 * s + 1 ≤ 1000 by exact ar50_71 hp2 hs2) (by decide))
                      · exact Nat.le_trans (small_bits (by exact ar50_82 hm101 hm0 hm1)) (by decide)
                      repeat tb_start
                      with_reducible refine O_fdiv' hmI (Nat.le_trans hbm (by decide)) rfl ?_
                      repeat tb_start
                      with_reducible refine O_ne_tup2 ?_ (by tb_rel) (by tb_rel) rfl rfl ?_
                      · exact fit'.mono (by decide)
                      repeat tb_start
                      exact hK3 _ _ _ (forK_next ⟨_, by wtm_at "lwsub", _, _, _, _, _, _, _, _, _, _, _, _, _, _, rfl, rfl⟩)
              · rintro l d ⟨x1, x2, x3, x4, y1, y2, y3, y4, y5, y6, y7, c1, c2, c3, rfl, rfl⟩
                repeat tb_start
                with_reducible refine law_cell' (p := 3) H ?_ hx ?_ ?_ ?_
                · rfl
                · exact fit'.mono (by decide)
                · exact hsl
                repeat tb_start
                have hw0 : ∃ w0 : Nat, xs.getD 3 0 % 60 = (w0 : Int) ∧ w0 < 60 := ⟨(xs.getD 3 0 % 60).toNat, by exact ar50_83, by exact ar50_84⟩
                obtain ⟨w0, hw0, hw0'⟩ := hw0
                with_reducible refine O_mod' (by decide) hw0 ?_
                repeat tb_start
                rw [show (1300 : Int) + (w0 : Int) = ((1300 + w0 : Nat) : Int) by exact ar50_85]
                have hw : ∃ w, w = 1300 + w0 := ⟨_, rfl⟩
                obtain ⟨w, hw⟩ := hw
                rw [← hw]
                have hw1 : 1300 ≤ w := by exact ar50_86 hw
                have hw2 : w ≤ 1400 := by exact ar50_87 hw0' hw
                with_reducible refine O_mul (mulok ?_ ?_) ?_
                · decide
                · exact Nat.le_trans (small_bits (by exact ar50_88 hw2)) (by decide)
                repeat tb_start
                with_reducible refine law_cell' (p := 4) H ?_ hx ?_ ?_ ?_
                · rfl
                · exact fit'.mono (by decide)
                · exact hsl
                repeat tb_start
                have he0 : ∃ e : Nat, xs.getD 4 901 % (w : Int) = (e : Int) ∧ e < w := by
                  have q0 := Int.emod_nonneg (xs.getD 4 901) (show (w : Int) ≠ 0 by exact ar50_89 hw1)
                  have q1 := Int.emod_lt_of_pos (xs.getD 4 901) (show (0 : Int) < w by exact ar50_90 hw1)
                  exact ⟨(xs.getD 4 901 % (w : Int)).toNat, by exact ar50_91 q0, by exact ar50_92 q0 q1⟩
                obtain ⟨e, he0, he⟩ := he0
                with_reducible refine O_mod' (by exact ar50_53 he) he0 ?_
                repeat tb_start
                rw [show 2 * (w : Int) + 1 + (e : Int) = ((2 * w + 1 + e : Nat) : Int) by exact ar50_93]
                with_reducible refine O_fdiv' (c := ((2 * w + 1 + e) / p : Nat)) ?_ ?_ rfl ?_
                · exact ar50_56 hp1
                · exact Nat.le_trans (small_bits (by exact ar50_24 hp2)) (by decide)
                repeat tb_start
                rw [show (((2 * w + 1 + e) / p : Nat) : Int) + 1 = (((2 * w + 1 + e) / p + 1 : Nat) : Int) by exact ar50_94]
                have hq : ∃ q, q = (2 * w + 1 + e) / p + 1 := ⟨_, rfl⟩
                obtain ⟨q, hq⟩ := hq
                rw [← hq]
                have hqL : 2 * w + 1 + e ≤ p * q ∧ p * q ≤ 2 * w + 1 + e + p := by
                  have e1 := Nat.div_add_mod (2 * w + 1 + e) p
                  have e2 := Nat.mod_lt (2 * w + 1 + e) (show 0 < p by exact ar50_76 hp1)
                  rw [hq, Nat.mul_add, Nat.mul_one]; exact ar50_95 e1 e2
                with_reducible refine O_mul_str ?_ ?_ ?_ ?_
                · rw [hq]; exact Nat.succ_le_succ (Nat.zero_le _)
                · rw [hl1]; exact ar50_96 hp2 hw2 he hqL
                · exact dgs_ne hp1
                have hrep := dgs_rep h0 h1 D q
                rw [← hp] at hrep
                rw [hrep]
                have hl3 : (dgs m (u % m) st 0 (p * q)).length = p * q := dgs_len
                repeat tb_start
                with_reducible refine SLC_str 0 (2 * w + 1 + e) ?_ .int ?_ ?_
                · exact IsLo.none'
                · rw [hl3]; exact ⟨Nat.zero_le _, hqL.1, Nat.le_trans (show p * q ≤ 10000 by exact ar50_97 hp2 hw2 he hqL) (by decide)⟩
                rw [dgs_cut hqL.1, Nat.zero_add, Nat.sub_zero]
                have hl4 : (dgs m (u % m) st 0 (2 * w + 1 + e)).length = 2 * w + 1 + e := dgs_len
                have hz4 : 2 * w + 1 + e ≤ sizeLine := Nat.le_trans (show 2 * w + 1 + e ≤ 10000 by exact ar50_98 hw2 he) (by decide)
                repeat tb_start
                with_reducible refine X_drop (led' := .obj rg (OList (iv (ringL m (u % m) st p))) :: .obj ct (OCell (c1)) :: .obj cb (OCell (c2)) :: .obj cz (OCell (c3)) :: .obj cc (OCell (some (.int p 0))) :: .obj cr (OCell (some (.ref rg))) :: .obj cu (OCell (some (.int u 0))) :: .obj cl (OCell (some (.int m 0))) :: []) (by wtm_at "lwsub") ?_
                with_reducible refine X_ForTups ?_
                refine ⟨fit'.hd, by with_unfolding_all rfl, by with_unfolding_all rfl, by intro _; with_unfolding_all rfl, ?_⟩
                repeat tb_start
                with_reducible refine O_mul (mulok ?_ ?_) ?_
                · decide
                · exact Nat.le_trans (small_bits (by exact ar50_88 hw2)) (by decide)
                repeat tb_start
                with_reducible refine O_mul (mulok ?_ ?_) ?_
                · decide
                · exact Nat.le_trans (small_bits (by exact ar50_88 hw2)) (by decide)
                repeat tb_start
                rename_i a0 d0 t0 a1 d1 t1 a2 d2 t2 a3 d3 t3 tl
                refine ⟨tl, [.ref t0, .ref t1, .ref t2, .ref t3], fun _ l d => ∃ z4 z5, l = ([("script", some (.ref sl)), ("whole", some (.int (u / m) 0)), ("rests", some (.ref ra)), ("figures", some (.ref fa)), ("start", some (.int st 0)), ("line", some (.str (tx (dgs m (u % m) st 0 p)) 0)), ("twice", some (.str (tx (dgs m (u % m) st 0 (2 * p))) 0)), ("i", x1), ("j", x2), ("said", x3), ("due", z4), ("often", y1), ("nines", y2), ("groups", y3), ("heads", y4), ("row", z5), ("values", y6), ("told", y7), ("width", some (.int w 0)), ("length", some (.int (2 * w + 1 + e : Nat) 0)), ("endless", some (.str (tx (dgs m (u % m) st 0 (2 * w + 1 + e))) 0)), ("low", none), ("middle", none), ("high", none), ("number", none), ("base", none), ("total", none)] : Loc) ∧
                  d = (.obj tl (OList [.ref t0, .ref t1, .ref t2, .ref t3]) :: .obj t3 (OTup [.ref a3, .ref d3]) :: .obj d3 (OList [.int w 0, .int w 0, .int (((2 * w + 1 + e : Nat) : Int) - 2 * (w : Int)) 0]) :: .obj a3 (OList [.int w 0, .int 0 0]) :: .obj t2 (OTup [.ref a2, .ref d2]) :: .obj d2 (OList [.int 1 0, .int w 0, .int w 0, .int (((2 * w + 1 + e : Nat) : Int) - 2 * (w : Int) - 1) 0]) :: .obj a2 (OList [.int 1 0, .int w 0, .int 0 0]) :: .obj t1 (OTup [.ref a1, .ref d1]) :: .obj d1 (OList [.int w 0, .int (((2 * w + 1 + e : Nat) : Int) - w) 0]) :: .obj a1 (OList [.int w 0, .int 127 0, .int 1 0]) :: .obj t0 (OTup [.ref a0, .ref d0]) :: .obj d0 (OList [.int w 0, .int (((2 * w + 1 + e : Nat) : Int) - w) 0]) :: .obj a0 (OList [.int w 0]) :: .obj rg (OList (iv (ringL m (u % m) st p))) :: .obj ct (OCell (c1)) :: .obj cb (OCell (c2)) :: .obj cz (OCell (c3)) :: .obj cc (OCell (some (.int p 0))) :: .obj cr (OCell (some (.ref rg))) :: .obj cu (OCell (some (.int u 0))) :: .obj cl (OCell (some (.int m 0))) :: [] : Led), rfl, ?_, ?_, ?_, ?_⟩
                · exact ⟨_, _, rfl, rfl⟩
                · rintro k l d ⟨z4, z5, rfl, rfl⟩
                  tb_rel
                · rintro kk l d it2 v hv2 ⟨z4, z5, rfl, rfl⟩
                  have key : ∃ tk ak dk ws ds out, v = .ref tk ∧ Ent.obj tk (OTup [.ref ak, .ref dk]) ∈ (.obj tl (OList [.ref t0, .ref t1, .ref t2, .ref t3]) :: .obj t3 (OTup [.ref a3, .ref d3]) :: .obj d3 (OList [.int w 0, .int w 0, .int (((2 * w + 1 + e : Nat) : Int) - 2 * (w : Int)) 0]) :: .obj a3 (OList [.int w 0, .int 0 0]) :: .obj t2 (OTup [.ref a2, .ref d2]) :: .obj d2 (OList [.int 1 0, .int w 0, .int w 0, .int (((2 * w + 1 + e : Nat) : Int) - 2 * (w : Int) - 1) 0]) :: .obj a2 (OList [.int 1 0, .int w 0, .int 0 0]) :: .obj t1 (OTup [.ref a1, .ref d1]) :: .obj d1 (OList [.int w 0, .int (((2 * w + 1 + e : Nat) : Int) - w) 0]) :: .obj a1 (OList [.int w 0, .int 127 0, .int 1 0]) :: .obj t0 (OTup [.ref a0, .ref d0]) :: .obj d0 (OList [.int w 0, .int (((2 * w + 1 + e : Nat) : Int) - w) 0]) :: .obj a0 (OList [.int w 0]) :: .obj rg (OList (iv (ringL m (u % m) st p))) :: .obj ct (OCell (c1)) :: .obj cb (OCell (c2)) :: .obj cz (OCell (c3)) :: .obj cc (OCell (some (.int p 0))) :: .obj cr (OCell (some (.ref rg))) :: .obj cu (OCell (some (.int u 0))) :: .obj cl (OCell (some (.int m 0))) :: [] : Led) ∧ Ent.obj ak (OList (iv ws)) ∈ (.obj tl (OList [.ref t0, .ref t1, .ref t2, .ref t3]) :: .obj t3 (OTup [.ref a3, .ref d3]) :: .obj d3 (OList [.int w 0, .int w 0, .int (((2 * w + 1 + e : Nat) : Int) - 2 * (w : Int)) 0]) :: .obj a3 (OList [.int w 0, .int 0 0]) :: .obj t2 (OTup [.ref a2, .ref d2]) :: .obj d2 (OList [.int 1 0, .int w 0, .int w 0, .int (((2 * w + 1 + e : Nat) : Int) - 2 * (w : Int) - 1) 0]) :: .obj a2 (OList [.int 1 0, .int w 0, .int 0 0]) :: .obj t1 (OTup [.ref a1, .ref d1]) :: .obj d1 (OList [.int w 0, .int (((2 * w + 1 + e : Nat) : Int) - w) 0]) :: .obj a1 (OList [.int w 0, .int 127 0, .int 1 0]) :: .obj t0 (OTup [.ref a0, .ref d0]) :: .obj d0 (OList [.int w 0, .int (((2 * w + 1 + e : Nat) : Int) - w) 0]) :: .obj a0 (OList [.int w 0]) :: .obj rg (OList (iv (ringL m (u % m) st p))) :: .obj ct (OCell (c1)) :: .obj cb (OCell (c2)) :: .obj cz (OCell (c3)) :: .obj cc (OCell (some (.int p 0))) :: .obj cr (OCell (some (.ref rg))) :: .obj cu (OCell (some (.int u 0))) :: .obj cl (OCell (some (.int m 0))) :: [] : Led) ∧ Ent.obj dk (OList (iv ds)) ∈ (.obj tl (OList [.ref t0, .ref t1, .ref t2, .ref t3]) :: .obj t3 (OTup [.ref a3, .ref d3]) :: .obj d3 (OList [.int w 0, .int w 0, .int (((2 * w + 1 + e : Nat) : Int) - 2 * (w : Int)) 0]) :: .obj a3 (OList [.int w 0, .int 0 0]) :: .obj t2 (OTup [.ref a2, .ref d2]) :: .obj d2 (OList [.int 1 0, .int w 0, .int w 0, .int (((2 * w + 1 + e : Nat) : Int) - 2 * (w : Int) - 1) 0]) :: .obj a2 (OList [.int 1 0, .int w 0, .int 0 0]) :: .obj t1 (OTup [.ref a1, .ref d1]) :: .obj d1 (OList [.int w 0, .int (((2 * w + 1 + e : Nat) : Int) - w) 0]) :: .obj a1 (OList [.int w 0, .int 127 0, .int 1 0]) :: .obj t0 (OTup [.ref a0, .ref d0]) :: .obj d0 (OList [.int w 0, .int (((2 * w + 1 + e : Nat) : Int) - w) 0]) :: .obj a0 (OList [.int w 0]) :: .obj rg (OList (iv (ringL m (u % m) st p))) :: .obj ct (OCell (c1)) :: .obj cb (OCell (c2)) :: .obj cz (OCell (c3)) :: .obj cc (OCell (some (.int p 0))) :: .obj cr (OCell (some (.ref rg))) :: .obj cu (OCell (some (.int u 0))) :: .obj cl (OCell (some (.int m 0))) :: [] : Led) ∧ DueOk ws (dgs m (u % m) st 0 (2 * w + 1 + e)) out ds := by
                    match kk, hv2 with
                    | 0, hv2 => exact ⟨t0, a0, d0, [((w) : Int)], [((w) : Int), (((((2 * w + 1 + e : Nat) : Int) - w)) : Int)], _, (Option.some.inj hv2).symm, by tb_rel, show Ent.obj a0 (OList [.int w 0]) ∈ _ by tb_rel, show Ent.obj d0 (OList [.int w 0, .int (((2 * w + 1 + e : Nat) : Int) - w) 0]) ∈ _ by tb_rel, due1 hw1 hw2 he (.inl rfl)⟩
                    | 1, hv2 => exact ⟨t1, a1, d1, [((w) : Int), ((127) : Int), ((1) : Int)], [((w) : Int), (((((2 * w + 1 + e : Nat) : Int) - w)) : Int)], _, (Option.some.inj hv2).symm, by tb_rel, show Ent.obj a1 (OList [.int w 0, .int 127 0, .int 1 0]) ∈ _ by tb_rel, show Ent.obj d1 (OList [.int w 0, .int (((2 * w + 1 + e : Nat) : Int) - w) 0]) ∈ _ by tb_rel, due1 hw1 hw2 he (.inr rfl)⟩
                    | 2, hv2 => exact ⟨t2, a2, d2, [((1) : Int), ((w) : Int), ((0) : Int)], [((1) : Int), ((w) : Int), ((w) : Int), (((((2 * w + 1 + e : Nat) : Int) - 2 * (w : Int) - 1)) : Int)], _, (Option.some.inj hv2).symm, by tb_rel, show Ent.obj a2 (OList [.int 1 0, .int w 0, .int 0 0]) ∈ _ by tb_rel, show Ent.obj d2 (OList [.int 1 0, .int w 0, .int w 0, .int (((2 * w + 1 + e : Nat) : Int) - 2 * (w : Int) - 1) 0]) ∈ _ by tb_rel, due3 hw1 hw2 he⟩
                    | 3, hv2 => exact ⟨t3, a3, d3, [((w) : Int), ((0) : Int)], [((w) : Int), ((w) : Int), (((((2 * w + 1 + e : Nat) : Int) - 2 * (w : Int))) : Int)], _, (Option.some.inj hv2).symm, by tb_rel, show Ent.obj a3 (OList [.int w 0, .int 0 0]) ∈ _ by tb_rel, show Ent.obj d3 (OList [.int w 0, .int w 0, .int (((2 * w + 1 + e : Nat) : Int) - 2 * (w : Int)) 0]) ∈ _ by tb_rel, due4 hw1 hw2 he⟩
                    | kk + 4, hv2 => cases hv2
                  obtain ⟨tk, ak, dk, ws, ds, out, rfl, htk, hak, hdk, R⟩ := key
                  refine ⟨tk, [.ref ak, .ref dk], rfl, htk, rfl, ?_⟩
                  with_reducible refine AIOE_gen fun K5 hK5 => ?_
                  repeat tb_start
                  with_reducible refine lgroupsT H R.R ?_ ?_ ?_ (fun gg => ?_)
                  · rw [hl4]; exact ar50_99 hw2 he
                  · exact fit'.mono (by decide)
                  · exact List.mem_cons_of_mem _ hak
                  with_reducible refine COMPS.list gg (sv out) (fun k => (out[k]?).bind fun l => some (.int l.length 0)) rfl (by tb_rel) ?_ (CB_0 fun Lc acc it k ys hk KB hKB => ?_) ?_
                  · unfold sv; rw [List.length_map]; exact Nat.le_trans R.small.2 (by decide)
                  · unfold sv at hk; rw [List.length_map] at hk
                    obtain ⟨ll, hll, hlg⟩ := sv_getD hk
                    rw [hlg]
                    with_reducible refine with_envT H [("len", .builtin "len")] [] ?_ ?_ ?_ ?_ ?_ ?_ (fun hE2 => ?_)
                    · rfl
                    · rfl
                    · rfl
                    · kernel_rfl
                    · kernel_rfl
                    · kernel_rfl
                    repeat tb_start
                    with_reducible refine B_len_str ?_ ?_
                    · exact Nat.le_trans (R.len ll (List.mem_of_getElem? hll)) (by decide)
                    exact hKB _ _ _ ⟨by rw [hll]; rfl, ⟨_, rfl⟩, by wtm_at "lwsub"⟩
                  intro g7
                  rw [show (sv out).length = out.length by unfold sv; rw [List.length_map], gather_lens, R.due]
                  repeat tb_start
                  with_reducible refine COMPS.list dk (iv ds) (fun k => (ds[k]?).bind fun x => if 0 < x then some (.int x 0) else none) rfl ?_ ?_ (CB_1 fun Lc acc it k ys hk KB hKB => ?_) ?_
                  · exact List.mem_cons_of_mem _ (List.mem_cons_of_mem _ (List.mem_cons_of_mem _ hdk))
                  · rw [iv_length]; exact Nat.le_trans R.small.1 (by decide)
                  · rw [iv_length] at hk
                    obtain ⟨xx, hxx, hxg⟩ := iv_getD' hk
                    rw [hxg]
                    repeat tb_start
                    with_reducible refine dec_ite (fun hd => ?_) (fun hd => ?_)
                    · repeat tb_start
                      refine hKB _ _ _ ⟨?_, ⟨_, rfl⟩, by wtm_at "lwsub"⟩
                      rw [hxx]
                      exact if_pos hd
                    · refine hKB _ _ _ ⟨?_, ⟨_, rfl⟩, by wtm_at "lwsub"⟩
                      rw [hxx]
                      exact if_neg hd
                  intro g8
                  rw [iv_length, gather_pos]
                  repeat tb_start
                  with_reducible refine O_ne_intsT (fit'.mono (by decide)) (by tb_rel) (by tb_rel) ?_
                  repeat tb_start
                  exact hK5 _ _ _ (forK_next ⟨_, by wtm_at "lwsub", _, _, rfl, rfl⟩)
                · rintro l d ⟨z4, z5, rfl, rfl⟩
                  repeat tb_start
                  with_reducible refine lgroupsT H (wrow4 hw1 hw2 he) ?_ ?_ ?_ (fun gg => ?_)
                  · rw [hl4]; exact ar50_99 hw2 he
                  · exact fit'.mono (by decide)
                  · exact (show Ent.obj _ (OList [.int w 0, .int 0 0]) ∈ _ by tb_rel)
                  repeat (first | (with_reducible refine X_AssignTupL ?_; refine ⟨fit'.hd, by with_unfolding_all rfl, by with_unfolding_all rfl, by with_unfolding_all rfl, by with_unfolding_all rfl, ?_⟩) | tb_start)
                  have htd : ∀ l ∈ [dgs m (u % m) st (w + 1 + e) w, dgs m (u % m) st (1 + e) w, dgs m (u % m) st 0 (1 + e)], Told l l := by
                    intro l hl
                    simp only [List.mem_cons, List.not_mem_nil, or_false] at hl
                    rcases hl with rfl | rfl | rfl <;> exact told_dgs h0 h1 (by omega) (by omega)
                  have hsl3 : (sv [dgs m (u % m) st (w + 1 + e) w, dgs m (u % m) st (1 + e) w, dgs m (u % m) st 0 (1 + e)]).length = 3 := rfl
                  with_reducible refine COMPS.list gg (sv [dgs m (u % m) st (w + 1 + e) w, dgs m (u % m) st (1 + e) w, dgs m (u % m) st 0 (1 + e)]) (fun k => ([dgs m (u % m) st (w + 1 + e) w, dgs m (u % m) st (1 + e) w, dgs m (u % m) st 0 (1 + e)][k]?).bind fun l => some (.int (dv l) 0)) rfl (by tb_rel) ?_ (CB_0 fun Lc acc it k ys hk KB hKB => ?_) ?_
                  · rw [hsl3]; decide
                  · obtain ⟨ll, hll, hlg⟩ := sv_getD (ls := [dgs m (u % m) st (w + 1 + e) w, dgs m (u % m) st (1 + e) w, dgs m (u % m) st 0 (1 + e)]) hk
                    rw [hlg]
                    with_reducible refine with_envT H [("int_from_string", .ref 36)] [] ?_ ?_ ?_ ?_ ?_ ?_ (fun hE2 => ?_)
                    · rfl
                    · rfl
                    · rfl
                    · kernel_rfl
                    · kernel_rfl
                    · kernel_rfl
                    repeat tb_start
                    with_reducible refine ifsT H rfl (htd ll (List.mem_of_getElem? hll)) rfl ?_ ?_
                    · exact fit'.mono (by decide)
                    exact hKB _ _ _ ⟨by rw [hll]; rfl, ⟨_, rfl⟩, by wtm_at "lwsub"⟩
                  intro g7
                  rw [show (sv [dgs m (u % m) st (w + 1 + e) w, dgs m (u % m) st (1 + e) w, dgs m (u % m) st 0 (1 + e)]).length = [dgs m (u % m) st (w + 1 + e) w, dgs m (u % m) st (1 + e) w, dgs m (u % m) st 0 (1 + e)].length from rfl, gather_dv]
                  refine ⟨g7, [.int (dv (dgs m (u % m) st (w + 1 + e) w)) 0, .int (dv (dgs m (u % m) st (1 + e) w)) 0, .int (dv (dgs m (u % m) st 0 (1 + e))) 0], rfl, List.mem_cons_self, rfl, ?_⟩
                  repeat tb_start
                  with_reducible refine ⟨gg, sv [dgs m (u % m) st (w + 1 + e) w, dgs m (u % m) st (1 + e) w, dgs m (u % m) st 0 (1 + e)], rfl, rfl, by tb_rel, ?_, fun g9 => ?_⟩
                  · rw [hsl3]; decide
                  rw [sv_rev, show [dgs m (u % m) st (w + 1 + e) w, dgs m (u % m) st (1 + e) w, dgs m (u % m) st 0 (1 + e)].reverse = [dgs m (u % m) st 0 (1 + e), dgs m (u % m) st (1 + e) w, dgs m (u % m) st (w + 1 + e) w] from rfl]
                  repeat tb_start
                  with_reducible refine B_joinT str_under (by tb_rel) ?_ ?_
                  · rw [← List.length_flatten, flat3, dgs_len]
                    show 2 * w + 1 + e + 3 * 1 ≤ 16777216
                    exact ar50_100 hw2 he
                  have hj3 := join_len [dgs m (u % m) st 0 (1 + e), dgs m (u % m) st (1 + e) w, dgs m (u % m) st (w + 1 + e) w]
                  rw [flat3, dgs_len, show [dgs m (u % m) st 0 (1 + e), dgs m (u % m) st (1 + e) w, dgs m (u % m) st (w + 1 + e) w].length = 3 from rfl] at hj3
                  repeat tb_start
                  with_reducible refine O_add_strT str_blanks ?_ ?_
                  · exact Nat.le_trans (show _ + 3 ≤ 10000 by exact ar50_101 hw2 he hj3) (by decide)
                  repeat tb_start
                  with_reducible refine ifsT H rfl (told_join (cs := dgs m (u % m) st 0 (2 * w + 1 + e)) ?_ ?_ ?_ ?_ ?_ ?_ ?_ ?_) num_eq ?_ ?_
                  · exact List.cons_ne_nil _ _
                  · intro l hl
                    simp only [List.mem_cons, List.not_mem_nil, or_false] at hl
                    rcases hl with rfl | rfl | rfl <;> exact ⟨dgs_digits h0 h1 _ _, dgs_ne (by omega)⟩
                  · exact List.cons_ne_nil _ _
                  · decide +kernel
                  · exact flat3
                  · rw [hl4]; exact ar50_102 hw0' hw he
                  · show 3 ≤ 4096
                    decide
                  · decide
                  · exact fit'.mono (by decide)
                  repeat tb_start
                  with_reducible refine O_pow10 ?_ ?_
                  · exact ar50_103 hw2
                  repeat tb_start
                  with_reducible refine SUB_list (v := .int (rho m (u % m) st 0) 0) 0 (by tb_rel) ?_ (.inl rfl) ?_ ?_
                  · exact rget 0 (by exact ar50_76 hp1)
                  · rw [hrl]; exact hz1
                  have hr0 := rho_range h0 h1 (st := st) 0
                  repeat tb_start
                  with_reducible refine O_pow10 ?_ ?_
                  · exact ar50_98 hw2 he
                  repeat tb_start
                  with_reducible refine O_mul (mulok ?_ ?_) ?_
                  · exact Nat.le_trans (small_bits (by exact ar50_29 hm101 hr0)) (by decide)
                  · exact Nat.le_trans (ten_bits _) (Nat.le_trans (show 4 * (2 * w + 1 + e) + 1 ≤ 100000 by exact ar50_104 hw2 he) (by decide))
                  repeat tb_start
                  have hdiv : rho m (u % m) st 0 * 10 ^ (2 * w + 1 + e) / m = dv (dgs m (u % m) st (w + 1 + e) w) + 10 ^ w * (dv (dgs m (u % m) st (1 + e) w) + 10 ^ w * dv (dgs m (u % m) st 0 (1 + e))) := by rw [← num_eq, dv_div h0 h1, Int.mul_comm]
                  with_reducible refine O_fdiv' hmI (Nat.le_trans hbm (by decide)) hdiv ?_
                  have hbw : intBits ((10 : Int) ^ w) ≤ 2 ^ 26 := Nat.le_trans (ten_bits w) (Nat.le_trans (show 4 * w + 1 ≤ 10000 by exact ar50_105 hw2) (by decide))
                  have hbh : intBits (dv (dgs m (u % m) st 0 (1 + e))) ≤ 2 ^ 26 := Nat.le_trans (dgs_bits h0 h1).1 (Nat.le_trans (show 4 * (1 + e) + 1 ≤ 10000 by exact ar50_106 hw2 he) (by decide))
                  repeat tb_start
                  with_reducible refine O_mul (mulok hbw hbh) ?_
                  repeat tb_start
                  with_reducible refine O_mul (mulok hbw ?_) ?_
                  · rw [mid_eq]; exact Nat.le_trans (dgs_bits h0 h1).1 (Nat.le_trans (show 4 * (1 + e + w) + 1 ≤ 20000 by exact ar50_107 hw2 he) (by decide))
                  repeat tb_start
                  with_reducible refine O_mul (mulok hbw hbh) ?_
                  have hB : (0 : Int) < 10 ^ w - 1 := ten_gt (by exact ar50_108 he)
                  have hbB := ten_bits1 w
                  repeat tb_start
                  with_reducible refine O_fdiv' hB ?_ rfl ?_
                  · exact Nat.le_trans hbB (show 4 * w + 1 ≤ 9000 by exact ar50_109 hw2)
                  repeat tb_start
                  with_reducible refine O_mod' hB rfl ?_
                  have hdue := due_eq (B := 10 ^ w) (low := dv (dgs m (u % m) st (w + 1 + e) w)) (mid := dv (dgs m (u % m) st (1 + e) w)) (high := dv (dgs m (u % m) st 0 (1 + e))) (by exact ar50_110 hB)
                  have hbN : intBits (dv (dgs m (u % m) st (w + 1 + e) w) + 10 ^ w * (dv (dgs m (u % m) st (1 + e) w) + 10 ^ w * dv (dgs m (u % m) st 0 (1 + e)))) ≤ 30000 := by rw [← num_eq]; exact Nat.le_trans (dgs_bits h0 h1).1 (show 4 * (2 * w + 1 + e) + 1 ≤ 30000 by exact ar50_111 hw2 he)
                  repeat tb_start
                  with_reducible refine divmodT H hB hbN ?_ hdue.1 hdue.2 ?_ (fun tt => ?_)
                  · exact Nat.le_trans hbB (show 4 * w + 1 ≤ 8000 by exact ar50_112 hw2)
                  · exact fit'.mono (by decide)
                  repeat tb_start
                  with_reducible refine O_eq_tup2 ?_ (by tb_rel) (by tb_rel) rfl rfl ?_
                  · exact fit'.mono (by decide)
                  repeat tb_start
                  with_reducible refine divmodN H rfl ?_ hB ?_ ?_ hdue.1 hdue.2 ?_ (fun tt2 => ?_)
                  · exact ar50_113
                  · rw [bits_neg]; exact hbN
                  · rw [show (1 : Int) - 10 ^ w = -(10 ^ w - 1) by exact ar50_113, bits_neg]; exact Nat.le_trans hbB (show 4 * w + 1 ≤ 8000 by exact ar50_112 hw2)
                  · exact fit'.mono (by decide)
                  repeat tb_start
                  with_reducible refine SUB_tup0 (by tb_rel) ?_
                  repeat tb_start
                  with_reducible refine SUB_tup1 (by tb_rel) ?_
                  repeat tb_start
                  with_reducible refine O_eq_tup2 ?_ (by tb_rel) (by tb_rel) rfl rfl ?_
                  · exact fit'.mono (by decide)
                  repeat tb_start
                  exact hK0 _ _ _ rfl
end
section
set_option maxRecDepth 100000
set_option linter.unusedVariables false
noncomputable def tabsQ : List (Addr × Addr) := [(28, 24), (56, 52), (63, 59)]
theorem tabsAt_of {P : Params} {h : Heap} (X : (hpK P).In h) (hT : ∀ Q ∈ [59, 52, 24], h.get? Q = some (tabObj #[])) : TabsAt tabsQ h := by
  intro q hq
  simp only [tabsQ, List.mem_cons, List.not_mem_nil, or_false] at hq
  rcases hq with rfl | rfl | rfl
  · exact ⟨codeHd_of_K (c := 28) (P := 24) X (by kernel_rfl), hT 24 (by decide)⟩
  · exact ⟨codeHd_of_K (c := 56) (P := 52) X (by kernel_rfl), hT 52 (by decide)⟩
  · exact ⟨codeHd_of_K (c := 63) (P := 59) X (by kernel_rfl), hT 59 (by decide)⟩
theorem tabq {q : TabR} (hq : q ∈ tabList) : (q.c, q.P) ∈ tabsQ := by
  simp only [tabList, List.mem_cons, List.not_mem_nil, or_false] at hq
  rcases hq with rfl | rfl | rfl <;> simp [tabsQ]
theorem intsOld : ∀ {vs : List Value} {xs : List Int}, IntsAre vs xs → erL vs = iv xs
  | _, _, h => by
    induction h with
    | nil => rfl
    | cons => simp_all [erL, iv, er]
theorem old_of {C : Cx} {s s' : Shared} (hT : TabsAt tabsQ s.heap) (aft : After C s') (hC : C.h₀ = ghostOf s.heap tabsQ := by rfl) (ht : C.tabs = tabList := by rfl) : OldK s.heap s'.heap := by
  have keep : ∀ b o, b ∉ tabsQ.map (·.2) → s.heap.get? b = some o → s'.heap.get? b = some o := fun b o hb e => aft.keep b o (by rw [hC]; exact ghost_ne e hb)
  have grown : ∀ b o, b ∈ tabsQ.map (·.2) → s.heap.get? b = some o → isCodeTable s.heap b ∧ o = tabObj #[] ∧ ∃ ps, s'.heap.get? b = some (tabObj ps) := fun b o hb e => by
    obtain ⟨q, hq, rfl⟩ := List.mem_map.mp hb
    have e2 := (hT q hq).2
    rw [e] at e2
    obtain ⟨r, hr, hrq⟩ : ∃ r ∈ tabList, r.P = q.2 := by
      simp only [tabsQ, List.mem_cons, List.not_mem_nil, or_false] at hq
      rcases hq with rfl | rfl | rfl <;> simp [tabList]
    obtain ⟨ps, _, hta, _⟩ := aft.tabs r (by rw [ht]; exact hr)
    exact ⟨((hT q hq).1.tab (hT q hq).2).isCodeTable, Option.some.inj e2, ps, by rw [← hrq]; exact hta.2⟩
  refine ⟨fun b o e => ?_, fun b o e => ?_⟩
  · by_cases hb : b ∈ tabsQ.map (·.2)
    · obtain ⟨hct, rfl, ps, hP⟩ := grown b o hb e
      exact .inr (.inl ⟨hct, rfl, #[], ps, rfl, by rw [Array.empty_append]; exact hP⟩)
    · exact .inl (keep b o hb e)
  · by_cases hb : b ∈ tabsQ.map (·.2)
    · obtain ⟨_, _, ps, hP⟩ := grown b o hb e
      exact ⟨_, hP⟩
    · exact ⟨o, keep b o hb e⟩
set_option maxHeartbeats 4000000 in
theorem fin : PySem.Challenge.rw_ph0152_01.Holds := hd (by
  intro d kwd hdn w s₀ s₁ mg mb G Y fa o pm cd doc dV kV ho hdd hcd hD hmg hg args vals as hpre hlay hrd hwl hlo
  have KX := km_in_of Y
  have hT8 := km_tabs_of Y
  have hT := tabsAt_of KX hT8
  refine Ground.open G ?_
  intro T B D TE TW
  have TG := ghost_top hT T
  wrow_args hpre hlay hrd hwl hlo
  rename_i xs hs0 hlay0 hL1 hr1 hl2 as1 as2 sl vals0 as3 hL ra w1 r0 hI hr hc hc2
  have hfa : fa = 118 := by
    rw [hdn] at hmg
    have e := hmg.symm.trans (mg_of (n := "law") (v := .ref 118) KX T.g (by kernel_rfl))
    cases e; rfl
  subst hfa
  let C : Cx := ⟨PySem.Challenge.rw_ph0152_01.row.prog, w, ghostOf s₁.heap tabsQ, s₁.os, mg, mb, tabList⟩
  have hok : C.Ok := {
    g := TG.g
    b := TG.b
    nolimit := TG.nolimit
    nodigits := TG.nodigits
    bmain := TG.bmain
    tabs := by
      intro q hq
      show q.P < (ghostOf s₁.heap tabsQ).objs.size ∧ q.c < (ghostOf s₁.heap tabsQ).objs.size
      rw [hideAll_size]
      have hq' : (q.c, q.P) ∈ tabsQ := tabq hq
      obtain ⟨⟨o, vs, file, tf, flags, tg, inF, text, tt, e1, _⟩, e2⟩ := hT _ hq'
      exact ⟨Heap.lt_size e2, Heap.lt_size e1⟩
    tabsNone := fun q hq => hideAll_none _ (List.mem_map_of_mem (f := (·.2)) (tabq hq))
    tabsApart := by
      intro q hq q' hq'
      simp only [C, tabList, List.mem_cons, List.not_mem_nil, or_false] at hq hq'
      rcases hq with rfl | rfl | rfl <;> rcases hq' with rfl | rfl | rfl <;> simp }
  have H : CxP C := { hok with tb := rfl, k := ghost_K hT KX (by kernel_rfl), bi := TG.builtins }
  have Bs : Base C s₁ := {
    ok := hok
    keep := fun b o e => of_hideAll _ e
    size := Nat.le_of_eq (hideAll_size _ _)
    os := rfl
    bare := .of_eq hg
    tabs := fun q hq => by
      obtain ⟨hc1, hP⟩ := hT _ (tabq hq)
      exact ⟨#[], hc1.code hP (by first | trivial | rfl | (unfold TriplesOk; simp) | constructor), hc1.tab hP, fun v hv => by cases hv⟩ }
  have hold : Old C sl (iv xs) := ⟨_, ghost_list hT hL, by simpa using intsOld hI⟩
  refine wpAny_mono (lawWalk H (by omega) Bs ⟨by decide, by decide, rfl⟩ hold _ rfl) (fun v s' h => ?_) (fun _ _ e => e.elim)
  obtain ⟨hv, aft⟩ := h
  obtain rfl := er_is_bool hv
  refine ⟨.inl ⟨_, .bool true, [], rfl, fun _ => ?e1, .bool true, ?e2, unshared_nil⟩, old_of hT aft, aft.os, aft.bare⟩
  · first | rfl | kernel_rfl | (simp; done)
  · first | rfl | kernel_rfl | (simp; done))
end
end Lw
theorem PySem.Challenge.cw_ph0152_01_holds : PySem.Challenge.rw_ph0152_01.Holds :=
  Lw.fin
