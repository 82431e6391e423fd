import PyProof.Rows.All
import Wide.All
import Open.FastT9
import Open.Dig
import Open.TopsExt
import Open.Line
import Wide.FinOn
import Lean
import PySem.Challenge.RW_pd0059_01
open PySem PySem.W PyProof.Rows
open AutoSeq1 (wpAny_loadPart')
set_option Elab.async false
set_option maxRecDepth 100000
set_option maxHeartbeats 1000000
set_option autoImplicit false
set_option linter.unusedVariables false
namespace Mine
-- part B0

/-! ## locals as updates -/
def nul : Str → Option Value := fun _ => none
def upd (m : Str → Option Value) (x : Str) (v : Value) : Str → Option Value := fun y => if y = x then some v else m y
theorem upd_self {m : Str → Option Value} {x : Str} {v : Value} : upd m x v x = some v := if_pos rfl
theorem upd_ne {m : Str → Option Value} {x y : Str} {v w : Value} (hn : (y == x) = false) (h : m y = some w) : upd m x v y = some w := by
  unfold upd
  rw [if_neg (by simpa using hn)]
  exact h

/-! ## the frame and the ledger -/
abbrev Kp (h h' : Heap) : Prop := ∀ b o, h.get? b = some o → h'.get? b = some o

structure St (s₀ : Shared) (L : Addr) (m : Str → Option Value) (led : List (Addr × (Obj → Prop))) (s : Shared) : Prop where
  c : InCall s₀ L m s
  own : ∀ p ∈ led, ∃ o, s.heap.get? p.1 = some o ∧ p.2 o
  ne : ∀ p ∈ led, p.1 ≠ L ∧ s₀.heap.get? p.1 = none
  nd : (led.map (·.1)).Nodup

theorem Keeps.rfl' {s : Shared} : Keeps s s := ⟨s.heap, s.toks, rfl, fun _ _ e => e⟩
theorem Keeps.toks {s : Shared} (t : Nat) : Keeps s { s with toks := t } := ⟨s.heap, t, rfl, fun _ _ e => e⟩
theorem Keeps.heap {s : Shared} {h : Heap} (k : Kp s.heap h) : Keeps s { s with heap := h } := ⟨h, s.toks, rfl, k⟩
theorem Keeps.both {s : Shared} {h : Heap} (t : Nat) (k : Kp s.heap h) : Keeps s { s with heap := h, toks := t } := ⟨h, t, rfl, k⟩
theorem Keeps.kp {s s' : Shared} (k : Keeps s s') : Kp s.heap s'.heap := by obtain ⟨h, t, rfl, k⟩ := k; exact k
theorem Keeps.tr {s s' s'' : Shared} (a : Keeps s s') (b : Keeps s' s'') : Keeps s s'' := by
  obtain ⟨h, t, rfl, k⟩ := a
  obtain ⟨h', t', rfl, k'⟩ := b
  exact ⟨h', t', rfl, fun b o e => k' b o (k b o e)⟩

section
variable {s₀ s s' : Shared} {L : Addr} {m : Str → Option Value} {led : List (Addr × (Obj → Prop))}

theorem St.keeps (C : St s₀ L m led s) (k : Keeps s s') : St s₀ L m led s' := by
  obtain ⟨h, t, rfl, k⟩ := k
  refine ⟨⟨?_, C.c.ns.keeps k, fun b o e => k b o (C.c.keep b o e), C.c.fresh⟩, fun p hp => ?_, C.ne, C.nd⟩
  · obtain ⟨h₁, t₁, rfl⟩ := C.c.same
    exact ⟨h, t, rfl⟩
  · obtain ⟨o, e, q⟩ := C.own p hp
    exact ⟨o, k _ _ e, q⟩
theorem St.base (C : St s₀ L m led s) : Keeps s₀ s := by
  obtain ⟨h, t, e⟩ := C.c.same
  have k := C.c.keep
  subst e
  exact ⟨h, t, rfl, k⟩
theorem St.drop {p : Addr × (Obj → Prop)} (C : St s₀ L m (p :: led) s) : St s₀ L m led s :=
  ⟨C.c, fun q hq => C.own q (.tail _ hq), fun q hq => C.ne q (.tail _ hq), (List.nodup_cons.mp C.nd).2⟩
theorem St.sub {led' : List (Addr × (Obj → Prop))} (C : St s₀ L m led s) (h : led'.Sublist led) : St s₀ L m led' s :=
  ⟨C.c, fun q hq => C.own q (h.subset hq), fun q hq => C.ne q (h.subset hq), C.nd.sublist (h.map _)⟩
theorem St.perm {led' : List (Addr × (Obj → Prop))} (C : St s₀ L m led s) (h : led.Perm led') : St s₀ L m led' s :=
  ⟨C.c, fun q hq => C.own q (h.mem_iff.mpr hq), fun q hq => C.ne q (h.mem_iff.mpr hq), (h.map (·.1)).nodup_iff.mp C.nd⟩
theorem St.swap {p q : Addr × (Obj → Prop)} (C : St s₀ L m (p :: q :: led) s) : St s₀ L m (q :: p :: led) s := C.perm (.swap _ _ _)
theorem St.L_lt (C : St s₀ L m led s) : L < s.heap.objs.size := C.c.ns.lt
theorem St.L_old (C : St s₀ L m led s) : s₀.heap.get? L = none := by
  cases e : s₀.heap.get? L with
  | none => rfl
  | some o => exact absurd (Heap.lt_size e) (Nat.not_lt.mpr C.c.fresh)
/-- a new object, made by whatever kept all -/
theorem St.add {a : Addr} {P : Obj → Prop} (C : St s₀ L m led s) (k : Keeps s s') (hn : s.heap.get? a = none) (ho : ∃ o, s'.heap.get? a = some o ∧ P o) : St s₀ L m ((a, P) :: led) s' := by
  have C' := C.keeps k
  refine ⟨C'.c, fun p hp => ?_, fun p hp => ?_, ?_⟩
  · rcases List.mem_cons.mp hp with rfl | hp
    · exact ho
    · exact C'.own p hp
  · rcases List.mem_cons.mp hp with rfl | hp
    · refine ⟨fun e => ?_, ?_⟩
      · obtain ⟨oL, _, _, hL, _⟩ := C.c.ns
        have e' : a = L := e
        rw [e', hL] at hn
        cases hn
      · cases e : s₀.heap.get? a with
        | none => rfl
        | some o => rw [C.c.keep a o e] at hn; cases hn
    · exact C.ne p hp
  · refine List.nodup_cons.mpr ⟨fun hm => ?_, C.nd⟩
    obtain ⟨p, hp, e⟩ := List.mem_map.mp hm
    obtain ⟨o, ho, _⟩ := C.own p hp
    have e' : p.1 = a := e
    rw [e', hn] at ho
    cases ho
theorem St.get {a : Addr} {P : Obj → Prop} (C : St s₀ L m led s) (hm : (a, P) ∈ led) : ∃ o, s.heap.get? a = some o ∧ P o := C.own _ hm
/-- the first object of the ledger is changed -/
theorem St.change {a : Addr} {P P' : Obj → Prop} {h' : Heap} {t : Nat} (C : St s₀ L m ((a, P) :: led) s) (hs : Heap.SameBut a s.heap h') (ho : ∃ o, h'.get? a = some o ∧ P' o) :
    St s₀ L m ((a, P') :: led) { s with heap := h', toks := t } := by
  have hne := C.ne (a, P) (.head _)
  refine ⟨⟨?_, C.c.ns.sameBut hs (Ne.symm hne.1), fun b o e => ?_, C.c.fresh⟩, fun p hp => ?_, fun p hp => ?_, C.nd⟩
  · obtain ⟨h₁, t₁, e⟩ := C.c.same
    exact ⟨h', t, by rw [e]⟩
  · refine hs.extBut b o (fun q => ?_) (C.c.keep b o e)
    have hz := hne.2
    rw [q] at e
    have hz' : s₀.heap.get? a = none := hz
    rw [hz'] at e
    cases e
  · rcases List.mem_cons.mp hp with rfl | hp
    · exact ho
    · obtain ⟨o, e, q⟩ := C.own p (.tail _ hp)
      refine ⟨o, hs.extBut _ _ (fun z => ?_) e, q⟩
      exact (List.nodup_cons.mp C.nd).1 (List.mem_map.mpr ⟨p, hp, z⟩)
  · rcases List.mem_cons.mp hp with rfl | hp
    · exact hne
    · exact C.ne p (.tail _ hp)
theorem St.store {x : Str} {v : Value} {h' : Heap} {t : Nat} (C : St s₀ L m led s) (hn : h'.Ns L (fun y => if y = x then some v else m y)) (hs : Heap.SameBut L s.heap h') :
    St s₀ L (upd m x v) led { s with heap := h', toks := t } := by
  refine ⟨⟨?_, hn, fun b o e => ?_, C.c.fresh⟩, fun p hp => ?_, C.ne, C.nd⟩
  · obtain ⟨h₁, t₁, e⟩ := C.c.same
    exact ⟨h', t, by rw [e]⟩
  · exact hs.extBut b o (Nat.ne_of_lt (Nat.lt_of_lt_of_le (Heap.lt_size e) C.c.fresh)) (C.c.keep b o e)
  · obtain ⟨o, e, q⟩ := C.own p hp
    exact ⟨o, hs.extBut _ _ (C.ne p hp).1 e, q⟩
end

/-! ## room -/
structure Rm (A : Around) (d u : Nat) : Prop where
  h : A.handled = none
  d : A.depth + d < 1000
  u : A.units + u < 9900
theorem Rm.le {A : Around} {d u d' u' : Nat} (r : Rm A d u) (hd : d' ≤ d) (hu : u' ≤ u) : Rm A d' u' := ⟨r.h, by have := r.d; omega, by have := r.u; omega⟩
theorem Rm.deeper {A : Around} {env : Env} {d u : Nat} (r : Rm A (d + 1) (u + 3)) : Rm (A.deeper env) d u :=
  ⟨r.h, by have := r.d; show A.depth + 1 + d < 1000; omega, by have := r.u; show A.units + 3 + u < 9900; omega⟩
theorem Rm.in1 {A : Around} {d u : Nat} (r : Rm A d (u + 1)) : Rm A.in1 d u := ⟨r.h, r.d, by have := r.u; show A.units + 1 + u < 9900; omega⟩

/-! ## the program's ground -/
def theDef (i : Nat) : Stmt := PySem.Challenge.pw_pd0059_01.main.body.getD i (.Pass ⟨0, 0, 0, 0⟩)
def scOf : Stmt → Scope
  | .FunctionDef _ _ _ _ _ _ sc _ _ _ => sc
  | _ => { kind := .function, names := [], isGenerator := false, isCoroutine := false, more := [] }
def bodyOf : Stmt → List Stmt
  | .FunctionDef _ _ b _ _ _ _ _ _ _ => b
  | _ => []
def nameOf : Stmt → Str
  | .FunctionDef n _ _ _ _ _ _ _ _ _ => n
  | _ => Str.empty
def paramsOf : Stmt → Arguments
  | .FunctionDef _ p _ _ _ _ _ _ _ _ => p
  | _ => { posonlyargs := [], args := [], vararg := none, kwonlyargs := [], kw_defaults := [], kwarg := none, defaults := [] }

/-- the i-th statement's def stands as a -/
def FnAt (h : Heap) (i : Nat) (a : Addr) : Prop :=
  ∃ o pm cd doc, h.get? a = some o ∧ o.data = .func (Calls.docDef (nameOf (theDef i)) (paramsOf (theDef i)) (bodyOf (theDef i)) (scOf (theDef i)) pm cd doc) ∧ h.CodeRec cd (nameOf (theDef i))

structure Gd (mg mb : Str → Option Value) (h : Heap) : Prop where
  g : h.Ns mainGlobals mg
  b : h.Ns builtinsNs mb
  nolimit : h.NoLimit
  bi : ∀ x, x ≠ Str.ofString "__name__" → mb x = bootBuiltins x
  fn : ∀ i ∈ [9, 13, 14, 15, 16, 17, 18, 21, 23, 24, 25, 26, 27, 28, 29, 30], ∃ a, mg (nameOf (theDef i)) = some (.ref a) ∧ FnAt h i a
  marker : ∃ t, mg (Str.ofString "ELLIPSIS_MARKER") = some (.str (Str.ofString "...") t)
  free : ∀ x ∈ [Str.ofString "len", Str.ofString "min", Str.ofString "max", Str.ofString "range", Str.ofString "enumerate", Str.ofString "isinstance", Str.ofString "issubclass", Str.ofString "type", Str.ofString "tuple", Str.ofString "map", Str.ofString "str", Str.ofString "bytes", Str.ofString "int", Str.ofString "bool"], mg x = none

theorem Gd.keeps {mg mb : Str → Option Value} {h h' : Heap} (G : Gd mg mb h) (k : Kp h h') : Gd mg mb h' where
  g := G.g.keeps k
  b := G.b.keeps k
  nolimit := G.nolimit.keeps k
  bi := G.bi
  fn := fun i hi => by
    obtain ⟨a, e, o, pm, cd, doc, ho, hd, c, oc, vs, t, hc, h1, h2, h3⟩ := G.fn i hi
    exact ⟨a, e, o, pm, cd, doc, k _ _ ho, hd, c, oc, vs, t, hc, k _ _ h1, h2, h3⟩
  marker := G.marker
  free := G.free

/-! ## the environment of a def -/
structure EnvOk (env : Env) (sc : Scope) (L : Addr) : Prop where
  k : sc.kind = ScopeKind.function
  e : env.scope = sc
  l : env.locals = L
  g : env.globals = mainGlobals
  b : env.builtins = builtinsNs

section
variable {prog : Program} {w : World} {M : Model} {A : Around} {E : Value → Shared → Prop} {s₀ s : Shared} {L : Addr} {m : Str → Option Value} {led : List (Addr × (Obj → Prop))} {env : Env} {sc : Scope} {mg mb : Str → Option Value}

/-- a call of the i-th def -/
theorem enter {i : Nat} {a : Addr} {vals : List Value} {binds : List (Str × Value)} {d u : Nat} {Q : Value → Shared → Prop} (G : Gd mg mb s.heap) (hf : FnAt s.heap i a) (r : Rm A (d + 1) (u + 3))
    (hbind : ∀ pm cd doc, bindArgs (Calls.docDef (nameOf (theDef i)) (paramsOf (theDef i)) (bodyOf (theDef i)) (scOf (theDef i)) pm cd doc) ⟨vals, []⟩ = pure binds)
    (hcell : ∀ x ∈ (scOf (theDef i)).names, x.2 ≠ .cell) (hloc : ∀ x ∈ binds.map (·.1), (scOf (theDef i)).names.lookup x = some .local)
    (hco : (scOf (theDef i)).isCoroutine = false) (hgen : (scOf (theDef i)).isGenerator = false) (hk : (scOf (theDef i)).kind = .function)
    (h : ∀ A' env L s₁, Rm A' d u → EnvOk env (scOf (theDef i)) L → St s L (binds.foldl (fun m b => upd m b.1 b.2) nul) [] s₁ →
      wpAny (model prog w) A' (execs (bodyOf (theDef i)) env) (fun f s' => Q (match f with | .ret v => v | _ => .none) s') (fun _ _ => False) s₁) :
    wpAny (model prog w) A (call (.ref a) vals) Q E s := by
  obtain ⟨o, pm, cd, doc, ho, hd, hc⟩ := hf
  refine wpAny_call (codeAny_call_straight (by have := r.d; show A.depth < 1000; omega) ho hd G.nolimit hc rfl (hbind pm cd doc) hcell (fun x hx => hloc _ (List.mem_map.mpr ⟨x, hx, rfl⟩)) (fun s₁ C => ?_) hco hgen hk)
  have e : (fun x => binds.reverse.lookup x) = binds.foldl (fun m b => upd m b.1 b.2) nul := by
    have gen : ∀ (l : List (Str × Value)) (m : Str → Option Value), (fun x => (l.reverse.lookup x).or (m x)) = l.foldl (fun m b => upd m b.1 b.2) m := by
      intro l
      induction l with
      | nil => intro m; rfl
      | cons p l ih =>
        intro m
        rw [List.foldl_cons, ← ih]
        funext x
        rw [List.reverse_cons, List.lookup_append]
        cases l.reverse.lookup x with
        | some v => rfl
        | none =>
          obtain ⟨y, v⟩ := p
          unfold upd
          simp only [Option.none_or, List.lookup_cons, List.lookup_nil]
          by_cases hx : x = y
          · subst hx; simp
          · simp [hx, beq_false_of_ne hx]
    have := gen binds nul
    rw [← this]
    funext x
    simp [nul]
  rw [e] at C
  refine wpAny_mono (h _ _ _ s₁ r.deeper ⟨hk, rfl, rfl, rfl, rfl⟩ ⟨C, (fun _ hp => nomatch hp), (fun _ hp => nomatch hp), List.nodup_nil⟩) (fun f s' q => q) (fun _ _ q => q.elim)

theorem enter1 {i : Nat} {a : Addr} (x₁ : Str) {v₁ : Value} {d u : Nat} {Q : Value → Shared → Prop} (G : Gd mg mb s.heap) (hf : FnAt s.heap i a) (r : Rm A (d + 1) (u + 3))
    (hbind : ∀ pm cd doc, bindArgs (Calls.docDef (nameOf (theDef i)) (paramsOf (theDef i)) (bodyOf (theDef i)) (scOf (theDef i)) pm cd doc) ⟨[v₁], []⟩ = pure [(x₁, v₁)])
    (hcell : ∀ x ∈ (scOf (theDef i)).names, x.2 ≠ .cell) (hloc : ∀ x ∈ [x₁], (scOf (theDef i)).names.lookup x = some .local)
    (hsc : ((scOf (theDef i)).isCoroutine, (scOf (theDef i)).isGenerator, (scOf (theDef i)).kind) = (false, false, .function))
    (h : ∀ A' env L s₁, Rm A' d u → EnvOk env (scOf (theDef i)) L → St s L (upd nul x₁ v₁) [] s₁ →
      wpAny (model prog w) A' (execs (bodyOf (theDef i)) env) (fun f s' => Q (match f with | .ret v => v | _ => .none) s') (fun _ _ => False) s₁) :
    wpAny (model prog w) A (call (.ref a) [v₁]) Q E s :=
  enter G hf r hbind hcell hloc (congrArg (·.1) hsc) (congrArg (·.2.1) hsc) (congrArg (·.2.2) hsc) h
theorem enter2 {i : Nat} {a : Addr} (x₁ x₂ : Str) {v₁ v₂ : Value} {d u : Nat} {Q : Value → Shared → Prop} (G : Gd mg mb s.heap) (hf : FnAt s.heap i a) (r : Rm A (d + 1) (u + 3))
    (hbind : ∀ pm cd doc, bindArgs (Calls.docDef (nameOf (theDef i)) (paramsOf (theDef i)) (bodyOf (theDef i)) (scOf (theDef i)) pm cd doc) ⟨[v₁, v₂], []⟩ = pure [(x₁, v₁), (x₂, v₂)])
    (hcell : ∀ x ∈ (scOf (theDef i)).names, x.2 ≠ .cell) (hloc : ∀ x ∈ [x₁, x₂], (scOf (theDef i)).names.lookup x = some .local)
    (hsc : ((scOf (theDef i)).isCoroutine, (scOf (theDef i)).isGenerator, (scOf (theDef i)).kind) = (false, false, .function))
    (h : ∀ A' env L s₁, Rm A' d u → EnvOk env (scOf (theDef i)) L → St s L (upd (upd nul x₁ v₁) x₂ v₂) [] s₁ →
      wpAny (model prog w) A' (execs (bodyOf (theDef i)) env) (fun f s' => Q (match f with | .ret v => v | _ => .none) s') (fun _ _ => False) s₁) :
    wpAny (model prog w) A (call (.ref a) [v₁, v₂]) Q E s :=
  enter G hf r hbind hcell hloc (congrArg (·.1) hsc) (congrArg (·.2.1) hsc) (congrArg (·.2.2) hsc) h
theorem enter3 {i : Nat} {a : Addr} (x₁ x₂ x₃ : Str) {v₁ v₂ v₃ : Value} {d u : Nat} {Q : Value → Shared → Prop} (G : Gd mg mb s.heap) (hf : FnAt s.heap i a) (r : Rm A (d + 1) (u + 3))
    (hbind : ∀ pm cd doc, bindArgs (Calls.docDef (nameOf (theDef i)) (paramsOf (theDef i)) (bodyOf (theDef i)) (scOf (theDef i)) pm cd doc) ⟨[v₁, v₂, v₃], []⟩ = pure [(x₁, v₁), (x₂, v₂), (x₃, v₃)])
    (hcell : ∀ x ∈ (scOf (theDef i)).names, x.2 ≠ .cell) (hloc : ∀ x ∈ [x₁, x₂, x₃], (scOf (theDef i)).names.lookup x = some .local)
    (hsc : ((scOf (theDef i)).isCoroutine, (scOf (theDef i)).isGenerator, (scOf (theDef i)).kind) = (false, false, .function))
    (h : ∀ A' env L s₁, Rm A' d u → EnvOk env (scOf (theDef i)) L → St s L (upd (upd (upd nul x₁ v₁) x₂ v₂) x₃ v₃) [] s₁ →
      wpAny (model prog w) A' (execs (bodyOf (theDef i)) env) (fun f s' => Q (match f with | .ret v => v | _ => .none) s') (fun _ _ => False) s₁) :
    wpAny (model prog w) A (call (.ref a) [v₁, v₂, v₃]) Q E s :=
  enter G hf r hbind hcell hloc (congrArg (·.1) hsc) (congrArg (·.2.1) hsc) (congrArg (·.2.2) hsc) h

/-! ## statements -/
def andThen (M : Model) (A : Around) (rest : List Stmt) (env : Env) (Q : Flow → Shared → Prop) (E : Value → Shared → Prop) : Flow → Shared → Prop :=
  fun f s' => match f with | .next => wpAny M A (execs rest env) Q E s' | f => Q f s'
theorem at_next {rest : List Stmt} {Q : Flow → Shared → Prop} (h : wpAny M A (execs rest env) Q E s) : andThen M A rest env Q E .next s := h
theorem at_ret {rest : List Stmt} {Q : Flow → Shared → Prop} {v : Value} (h : Q (.ret v) s) : andThen M A rest env Q E (.ret v) s := h
theorem at_brk {rest : List Stmt} {Q : Flow → Shared → Prop} (h : Q .brk s) : andThen M A rest env Q E .brk s := h
theorem at_cont {rest : List Stmt} {Q : Flow → Shared → Prop} (h : Q .cont s) : andThen M A rest env Q E .cont s := h
theorem x_nil {Q : Flow → Shared → Prop} (h : Q .next s) : wpAny M A (execs [] env) Q E s := wpAny_execs_nil h
theorem x_cons {st : Stmt} {rest : List Stmt} {Q : Flow → Shared → Prop} (h : wpAny M A (exec st env) (andThen M A rest env Q E) E s) : wpAny M A (execs (st :: rest) env) Q E s :=
  wpAny_execs_cons h
theorem x_assign {x : Str} {p' : Pos} {value : Expr} {pos : Pos} {rest : List Stmt} {Q : Flow → Shared → Prop}
    (h : wpAny M A (eval value env) (fun v s₁ => wpAny M A (storeName env x v) (fun _ s₂ => wpAny M A (execs rest env) Q E s₂) E s₁) E s)
    (hs : swapsWith value (some (.Name x p')) pos.line env = pure false := by rfl) : wpAny M A (execs (.Assign [.Name x p'] value pos :: rest) env) Q E s :=
  x_cons (wpAny_Assign_Name h hs)
theorem x_if {test : Expr} {body orelse rest : List Stmt} {pos : Pos} {Q : Flow → Shared → Prop}
    (h : wpAny M A (isTrue test env (eval test env)) (fun b s₂ => if b = true then wpAny M A (execs body env) (andThen M A rest env Q E) E s₂ else wpAny M A (execs orelse env) (andThen M A rest env Q E) E s₂) E s) :
    wpAny M A (execs (.If test body orelse pos :: rest) env) Q E s := x_cons (wpAny_If h)
theorem x_return {e : Expr} {pos : Pos} {rest : List Stmt} {Q : Flow → Shared → Prop} (h : wpAny M A (eval e env) (fun v => Q (.ret v)) E s) : wpAny M A (execs (.Return (some e) pos :: rest) env) Q E s :=
  x_cons (wpAny_Return_some h)
theorem x_aug {x : Str} {p' : Pos} {op : Operator} {value : Expr} {pos : Pos} {rest : List Stmt} {Q : Flow → Shared → Prop}
    (h : wpAny M A (loadName env x) (fun old s₁ => wpAny M A (eval value env) (fun v s₂ => wpAny M A (inplaceOp op old v)
      (fun r s₃ => wpAny M A (storeName env x r) (fun _ s₄ => wpAny M A (execs rest env) Q E s₄) E s₃) E s₂) E s₁) E s) :
    wpAny M A (execs (.AugAssign (.Name x p') op value pos :: rest) env) Q E s := x_cons (wpAny_AugAssign_Name h)

theorem tt {P₁ P₂ : Prop} (h : P₁) : if true = true then P₁ else P₂ := by rw [if_pos rfl]; exact h
theorem ff {P₁ P₂ : Prop} (h : P₂) : if false = true then P₁ else P₂ := by rw [if_neg Bool.false_ne_true]; exact h

/-! ## names -/
theorem env_block (hE : EnvOk env sc L) : (env.scope.kind == .class || (env.scope.kind == .module && env.locals != env.globals)) = false := by
  rw [hE.e, hE.k]; rfl
theorem st {x : Str} {v : Value} {Q : Unit → Shared → Prop} (C : St s₀ L m led s) (hE : EnvOk env sc L) (hl : sc.names.lookup x = some .local)
    (h : ∀ s', St s₀ L (upd m x v) led s' → Q () s') : wpAny M A (storeName env x v) Q E s := by
  have hL := hE.l
  have hl' : env.kindOf x = some .local := by unfold Env.kindOf; rw [hE.e]; exact hl
  refine wpAny_storeName_local hl' (m := m) (by rw [hL]; exact C.c.ns) (fun h' hn hs => ?_) (env_block hE)
  rw [hL] at hn hs
  exact h _ (C.store hn hs)
theorem ldn {x : Str} {v : Value} {Q : Value → Shared → Prop} (C : St s₀ L m led s) (hE : EnvOk env sc L) (hl : sc.names.lookup x = some .local) (hv : m x = some v) (h : Q v s) :
    wpAny M A (loadName env x) Q E s := by
  have hl' : env.kindOf x = some .local := by unfold Env.kindOf; rw [hE.e]; exact hl
  exact wpAny_loadName_local (by rw [hE.e]; exact hE.k) hl' (m := m) (by rw [hE.l]; exact C.c.ns) hv h
theorem nm {x : Str} {pos : Pos} {v : Value} {Q : Value → Shared → Prop} (C : St s₀ L m led s) (hE : EnvOk env sc L) (hl : sc.names.lookup x = some .local) (hv : m x = some v) (h : Q v s)
    (hd : (x == ("__debug__" : Str)) = false) : wpAny M A (eval (.Name x pos) env) Q E s := wpAny_Name (ldn C hE hl hv h) hd
theorem gl {x : Str} {pos : Pos} {v : Value} {Q : Value → Shared → Prop} (G : Gd mg mb s₀.heap) (C : St s₀ L m led s) (hE : EnvOk env sc L) (hl : sc.names.lookup x = some .globalImplicit) (hv : mg x = some v) (h : Q v s)
    (hd : (x == ("__debug__" : Str)) = false) : wpAny M A (eval (.Name x pos) env) Q E s :=
  Calls.Name_function_global (by rw [hE.e]; exact hE.k) (by unfold Env.kindOf; rw [hE.e]; exact hl) (Calls.loadGlobal_global (mg := mg) (by rw [hE.g]; exact (G.keeps C.c.keep).g) hv h) hd
theorem bn {x : Str} {pos : Pos} {v : Value} {Q : Value → Shared → Prop} (G : Gd mg mb s₀.heap) (C : St s₀ L m led s) (hE : EnvOk env sc L) (hl : sc.names.lookup x = some .globalImplicit)
    (hx : x ∈ [Str.ofString "len", Str.ofString "min", Str.ofString "max", Str.ofString "range", Str.ofString "enumerate", Str.ofString "isinstance", Str.ofString "issubclass", Str.ofString "type", Str.ofString "tuple", Str.ofString "map", Str.ofString "str", Str.ofString "bytes", Str.ofString "int", Str.ofString "bool"])
    (hv : bootBuiltins x = some v) (h : Q v s) (hd : (x == ("__debug__" : Str)) = false) (hn : x ≠ Str.ofString "__name__") : wpAny M A (eval (.Name x pos) env) Q E s :=
  Calls.Name_function_global (by rw [hE.e]; exact hE.k) (by unfold Env.kindOf; rw [hE.e]; exact hl)
    (Calls.loadGlobal_builtin (mg := mg) (mb := mb) (by rw [hE.g]; exact (G.keeps C.c.keep).g) (G.free x hx) (by rw [hE.b]; exact (G.keeps C.c.keep).b) ((G.bi x hn).trans hv) h) hd

/-! ## constants -/
theorem c_str {x : Str} {k : Nat} {pos : Pos} {Q : Value → Shared → Prop} (C : St s₀ L m led s) (h : ∀ t s', St s₀ L m led s' → Q (.str x t) s') : wpAny M A (eval (.Constant (.str x) k pos) env) Q E s :=
  Calls.Constant_str (h _ _ (C.keeps (Keeps.toks _)))
theorem c_int {x : Int} {k : Nat} {pos : Pos} {Q : Value → Shared → Prop} (C : St s₀ L m led s) (h : ∀ t s', St s₀ L m led s' → Q (.int x t) s') : wpAny M A (eval (.Constant (.int x) k pos) env) Q E s :=
  wpAny_Constant_int (h _ _ (C.keeps (Keeps.toks _)))
end
-- part B1
section
variable {prog : Program} {w : World} {M : Model} {A : Around} {E : Value → Shared → Prop} {s₀ s : Shared} {L : Addr} {m : Str → Option Value} {led : List (Addr × (Obj → Prop))} {env : Env} {sc : Scope} {mg mb : Str → Option Value}

/-! ## built-in names -/
structure Bi (x : Str) (v : Value) : Prop where
  hx : x ∈ [Str.ofString "len", Str.ofString "min", Str.ofString "max", Str.ofString "range", Str.ofString "enumerate", Str.ofString "isinstance", Str.ofString "issubclass", Str.ofString "type", Str.ofString "tuple", Str.ofString "map", Str.ofString "str", Str.ofString "bytes", Str.ofString "int", Str.ofString "bool"]
  hv : bootBuiltins x = some v
  hd : (x == ("__debug__" : Str)) = false
  hn : x ≠ Str.ofString "__name__"
theorem bi_len : Bi (Str.ofString "len") (.builtin "len") := ⟨by decide +kernel, by decide +kernel, by decide +kernel, by decide +kernel⟩
theorem bi_min : Bi (Str.ofString "min") (.builtin "min") := ⟨by decide +kernel, by decide +kernel, by decide +kernel, by decide +kernel⟩
theorem bi_max : Bi (Str.ofString "max") (.builtin "max") := ⟨by decide +kernel, by decide +kernel, by decide +kernel, by decide +kernel⟩
theorem bi_range : Bi (Str.ofString "range") (.type "range") := ⟨by decide +kernel, by decide +kernel, by decide +kernel, by decide +kernel⟩
theorem bi_enumerate : Bi (Str.ofString "enumerate") (.type "enumerate") := ⟨by decide +kernel, by decide +kernel, by decide +kernel, by decide +kernel⟩
theorem bi_isinstance : Bi (Str.ofString "isinstance") (.builtin "isinstance") := ⟨by decide +kernel, by decide +kernel, by decide +kernel, by decide +kernel⟩
theorem bi_issubclass : Bi (Str.ofString "issubclass") (.builtin "issubclass") := ⟨by decide +kernel, by decide +kernel, by decide +kernel, by decide +kernel⟩
theorem bi_type : Bi (Str.ofString "type") (.type "type") := ⟨by decide +kernel, by decide +kernel, by decide +kernel, by decide +kernel⟩
theorem bi_tuple : Bi (Str.ofString "tuple") (.type "tuple") := ⟨by decide +kernel, by decide +kernel, by decide +kernel, by decide +kernel⟩
theorem bi_map : Bi (Str.ofString "map") (.type "map") := ⟨by decide +kernel, by decide +kernel, by decide +kernel, by decide +kernel⟩
theorem bi_str : Bi (Str.ofString "str") (.type "str") := ⟨by decide +kernel, by decide +kernel, by decide +kernel, by decide +kernel⟩
theorem bi_bytes : Bi (Str.ofString "bytes") (.type "bytes") := ⟨by decide +kernel, by decide +kernel, by decide +kernel, by decide +kernel⟩
theorem bi_int : Bi (Str.ofString "int") (.type "int") := ⟨by decide +kernel, by decide +kernel, by decide +kernel, by decide +kernel⟩
theorem bi_bool : Bi (Str.ofString "bool") (.type "bool") := ⟨by decide +kernel, by decide +kernel, by decide +kernel, by decide +kernel⟩
theorem bb {x : Str} {pos : Pos} {v : Value} {Q : Value → Shared → Prop} (G : Gd mg mb s₀.heap) (C : St s₀ L m led s) (hE : EnvOk env sc L) (b : Bi x v) (hl : sc.names.lookup x = some .globalImplicit) (h : Q v s) :
    wpAny M A (eval (.Name x pos) env) Q E s := bn G C hE hl b.hx b.hv h b.hd b.hn

/-! ## objects of the ledger -/
def isL (vs : List Value) : Obj → Prop := fun o => ∃ n, o = { cls := .type "list", data := .seq vs.toArray n }
def isT (vs : List Value) : Obj → Prop := fun o => o = { cls := .type "tuple", data := .seq vs.toArray }

theorem St.lst {a : Addr} {vs : List Value} (C : St s₀ L m led s) (hm : (a, isL vs) ∈ led) : s.heap.IsList a vs.toArray := by
  obtain ⟨o, e, n, rfl⟩ := C.get hm
  exact ⟨_, e, rfl, n, rfl⟩
theorem St.pl {a : Addr} {vs : List Value} (C : St s₀ L m led s) (hm : (a, isL vs) ∈ led) : s.heap.PlainList a vs.toArray := by
  obtain ⟨o, e, n, rfl⟩ := C.get hm
  exact ⟨n, e⟩
theorem St.tup {a : Addr} {vs : List Value} (C : St s₀ L m led s) (hm : (a, isT vs) ∈ led) : s.heap.get? a = some { cls := .type "tuple", data := .seq vs.toArray } := by
  obtain ⟨o, e, h1⟩ := C.get hm
  have h1' : o = { cls := .type "tuple", data := .seq vs.toArray } := h1
  rw [e, h1']

theorem push_none (s : Shared) : s.heap.get? s.heap.objs.size = none := by
  cases e : s.heap.get? s.heap.objs.size with
  | none => rfl
  | some o => exact absurd (Heap.lt_size e) (Nat.lt_irrefl _)
theorem push_kp (h : Heap) (o : Obj) : Kp h (h.push o) := fun _ _ e => Heap.get?_push_of_some _ e

/-! ## displays -/
theorem new_list {vs : List Value} {Q : Value → Shared → Prop} (C : St s₀ L m led s) (h : ∀ a s', St s₀ L m ((a, isL vs) :: led) s' → Q (.ref a) s') (hsz : vs.length ≤ sizeLine) : wpAny M A (newList vs) Q E s :=
  wpAny_newObj_type (h _ _ (C.add (Keeps.heap (push_kp _ _)) (push_none s) ⟨_, Heap.get?_push_size _ rfl, _, rfl⟩)) (by show vs.toArray.size ≤ sizeLine; rw [List.size_toArray]; exact hsz)
theorem new_tuple {vs : List Value} {Q : Value → Shared → Prop} (C : St s₀ L m led s) (h : ∀ a s', St s₀ L m ((a, isT vs) :: led) s' → Q (.ref a) s') (hsz : vs.length ≤ sizeLine) : wpAny M A (newTuple vs) Q E s :=
  wpAny_newObj_type (h _ _ (C.add (Keeps.heap (push_kp _ _)) (push_none s) ⟨_, Heap.get?_push_size _ rfl, rfl⟩)) (by show vs.toArray.size ≤ sizeLine; rw [List.size_toArray]; exact hsz)
theorem spl0 {pos : Pos} {Q : List Value → Shared → Prop} (h : Q [] s) : wpAny M A (spliced (backTo pos (starEach [] env))) Q E s := Calls.spliced_nil h
theorem spl_cons {e : Expr} {es : List Expr} {pos : Pos} {Q : List Value → Shared → Prop}
    (h : wpAny M A (eval e env) (fun v s₁ => wpAny M A (spliced (backTo pos (starEach es env))) (fun vs s₂ => Q (v :: vs) s₂) E s₁) E s)
    (hs : starEach (e :: es) env = (false, eval e env) :: starEach es env := by rfl) : wpAny M A (spliced (backTo pos (starEach (e :: es) env))) Q E s := by
  rw [hs]
  exact Calls.spliced_cons h
theorem e_list {es : List Expr} {pos : Pos} {Q : Value → Shared → Prop} (h : wpAny M A (spliced (backTo pos (starEach es env))) (fun vs s₁ => wpAny M A (newList vs) Q E s₁) E s) :
    wpAny M A (eval (.List es pos) env) Q E s := List_ h
theorem e_tuple {es : List Expr} {k : Nat} {pos : Pos} {Q : Value → Shared → Prop} (h : wpAny M A (spliced (backTo pos (starEach es env))) (fun vs s₁ => wpAny M A (newTuple vs) Q E s₁) E s) :
    wpAny M A (eval (.Tuple es k pos) env) Q E s := Tuple_ h

/-! ## calls -/
theorem e_call {id : Str} {p pos : Pos} {args : List Expr} {Q : Value → Shared → Prop}
    (h : wpAny M A (eval (.Name id p) env) (fun f s₁ => wpAny M A (callWith pos f [] (backTo pos (starEach args env)) []) Q E s₁) E s) :
    wpAny M A (eval (.Call (.Name id p) args [] pos) env) Q E s := wpAny_Call_NameR h
theorem back_plain {pos : Pos} {args : List Expr} {vs : List (Sem Value)} (hs : starEach args env = vs.map fun t => (false, t)) : (backTo pos (starEach args env)).any (·.1) = false := by
  rw [hs]
  unfold backTo
  rw [List.map_map]
  induction vs generalizing args with
  | nil => rfl
  | cons v vs ih => simp
theorem args1 {f : Value} {e : Expr} {pos : Pos} {Q : Args → Shared → Prop} (h : wpAny M A (eval e env) (fun v s₁ => Q ⟨[v], []⟩ s₁) E s)
    (hs : starEach [e] env = [(false, eval e env)]) : wpAny M A (evalArgs f true (backTo pos (starEach [e] env)) []) Q E s := by
  rw [hs]
  exact Calls.evalArgs_plain (Calls.spliced_cons (wpAny_mono h (fun v s₁ h₁ => Calls.spliced_nil h₁) fun _ _ x => x))
theorem args2 {f : Value} {e₁ e₂ : Expr} {pos : Pos} {Q : Args → Shared → Prop} (h : wpAny M A (eval e₁ env) (fun v₁ s₁ => wpAny M A (eval e₂ env) (fun v₂ s₂ => Q ⟨[v₁, v₂], []⟩ s₂) E s₁) E s)
    (hs : starEach [e₁, e₂] env = [(false, eval e₁ env), (false, eval e₂ env)]) : wpAny M A (evalArgs f true (backTo pos (starEach [e₁, e₂] env)) []) Q E s := by
  rw [hs]
  exact Calls.evalArgs_plain (Calls.spliced_cons (wpAny_mono h (fun v s₁ h₁ => Calls.spliced_cons (wpAny_mono h₁ (fun v₂ s₂ h₂ => Calls.spliced_nil h₂) fun _ _ x => x)) fun _ _ x => x))
theorem args3 {f : Value} {e₁ e₂ e₃ : Expr} {pos : Pos} {Q : Args → Shared → Prop} (h : wpAny M A (eval e₁ env) (fun v₁ s₁ => wpAny M A (eval e₂ env) (fun v₂ s₂ => wpAny M A (eval e₃ env) (fun v₃ s₃ => Q ⟨[v₁, v₂, v₃], []⟩ s₃) E s₂) E s₁) E s)
    (hs : starEach [e₁, e₂, e₃] env = [(false, eval e₁ env), (false, eval e₂ env), (false, eval e₃ env)]) : wpAny M A (evalArgs f true (backTo pos (starEach [e₁, e₂, e₃] env)) []) Q E s := by
  rw [hs]
  exact Calls.evalArgs_plain (Calls.spliced_cons (wpAny_mono h (fun v s₁ h₁ => Calls.spliced_cons (wpAny_mono h₁ (fun v₂ s₂ h₂ => Calls.spliced_cons (wpAny_mono h₂ (fun v₃ s₃ h₃ => Calls.spliced_nil h₃) fun _ _ x => x)) fun _ _ x => x)) fun _ _ x => x))

-- built-in functions
theorem cb1 {id : String} {e : Expr} {pos : Pos} {Q : Value → Shared → Prop} (h : wpAny M A (eval e env) (fun v s₁ => wpAny M A (call (.builtin id) [v]) Q E s₁) E s)
    (hs : starEach [e] env = [(false, eval e env)] := by rfl) : wpAny M A (callWith pos (.builtin id) [] (backTo pos (starEach [e] env)) []) Q E s :=
  Calls.callWith_builtin (by rw [hs]; rfl) (args1 h hs)
theorem cb2 {id : String} {e₁ e₂ : Expr} {pos : Pos} {Q : Value → Shared → Prop} (h : wpAny M A (eval e₁ env) (fun v s₁ => wpAny M A (eval e₂ env) (fun v₂ s₂ => wpAny M A (call (.builtin id) [v, v₂]) Q E s₂) E s₁) E s)
    (hs : starEach [e₁, e₂] env = [(false, eval e₁ env), (false, eval e₂ env)] := by rfl) : wpAny M A (callWith pos (.builtin id) [] (backTo pos (starEach [e₁, e₂] env)) []) Q E s :=
  Calls.callWith_builtin (by rw [hs]; rfl) (args2 h hs)
-- types
theorem ct1 {id : String} {e : Expr} {pos : Pos} {Q : Value → Shared → Prop} (h : wpAny M A (eval e env) (fun v s₁ => wpAny M A (call (.type id) [v]) Q E s₁) E s)
    (hs : starEach [e] env = [(false, eval e env)] := by rfl) : wpAny M A (callWith pos (.type id) [] (backTo pos (starEach [e] env)) []) Q E s :=
  PySem.callWith_type (by rw [hs]; rfl) (args1 h hs)
theorem ct2 {id : String} {e₁ e₂ : Expr} {pos : Pos} {Q : Value → Shared → Prop} (h : wpAny M A (eval e₁ env) (fun v s₁ => wpAny M A (eval e₂ env) (fun v₂ s₂ => wpAny M A (call (.type id) [v, v₂]) Q E s₂) E s₁) E s)
    (hs : starEach [e₁, e₂] env = [(false, eval e₁ env), (false, eval e₂ env)] := by rfl) : wpAny M A (callWith pos (.type id) [] (backTo pos (starEach [e₁, e₂] env)) []) Q E s :=
  PySem.callWith_type (by rw [hs]; rfl) (args2 h hs)
-- the text's own defs
theorem St.fn {i : Nat} {a : Addr} (C : St s₀ L m led s) (hf : FnAt s₀.heap i a) : FnAt s.heap i a := by
  obtain ⟨o, pm, cd, doc, ho, hd, c, oc, vs, t, hc, h1, h2, h3⟩ := hf
  have k := C.c.keep
  exact ⟨o, pm, cd, doc, k _ _ ho, hd, c, oc, vs, t, hc, k _ _ h1, h2, h3⟩
theorem FnAt.keeps {h h' : Heap} {i : Nat} {a : Addr} (hf : FnAt h i a) (k : Kp h h') : FnAt h' i a := by
  obtain ⟨o, pm, cd, doc, ho, hd, c, oc, vs, t, hc, h1, h2, h3⟩ := hf
  exact ⟨o, pm, cd, doc, k _ _ ho, hd, c, oc, vs, t, hc, k _ _ h1, h2, h3⟩
theorem cf_any {i : Nat} {a : Addr} {args : List (Bool × Sem Value)} {pos : Pos} {h₀ : Heap} {Q : Value → Shared → Prop} (hf : FnAt h₀ i a)
    (h : wpAny M A (evalArgs (.ref a) true args []) (fun x s₁ => Kp h₀ s₁.heap ∧ wpAny M A (call (.ref a) x.pos x.kw) Q E s₁) E s) : wpAny M A (callWith pos (.ref a) [] args []) Q E s := by
  obtain ⟨o, pm, cd, doc, ho, hd, _⟩ := hf
  exact Calls.callWith_function (wpAny_mono h (fun x s₁ h₁ => ⟨⟨h₁.1 _ _ ho, hd⟩, h₁.2⟩) fun _ _ x => x)
theorem cf1 {i : Nat} {a : Addr} {e : Expr} {pos : Pos} {h₀ : Heap} {Q : Value → Shared → Prop} (hf : FnAt h₀ i a) (h : wpAny M A (eval e env) (fun v s₁ => Kp h₀ s₁.heap ∧ wpAny M A (call (.ref a) [v]) Q E s₁) E s)
    (hs : starEach [e] env = [(false, eval e env)] := by rfl) : wpAny M A (callWith pos (.ref a) [] (backTo pos (starEach [e] env)) []) Q E s := cf_any hf (args1 h hs)
theorem cf2 {i : Nat} {a : Addr} {e₁ e₂ : Expr} {pos : Pos} {h₀ : Heap} {Q : Value → Shared → Prop} (hf : FnAt h₀ i a) (h : wpAny M A (eval e₁ env) (fun v s₁ => wpAny M A (eval e₂ env) (fun v₂ s₂ => Kp h₀ s₂.heap ∧ wpAny M A (call (.ref a) [v, v₂]) Q E s₂) E s₁) E s)
    (hs : starEach [e₁, e₂] env = [(false, eval e₁ env), (false, eval e₂ env)] := by rfl) : wpAny M A (callWith pos (.ref a) [] (backTo pos (starEach [e₁, e₂] env)) []) Q E s := cf_any hf (args2 h hs)
theorem cf3 {i : Nat} {a : Addr} {e₁ e₂ e₃ : Expr} {pos : Pos} {h₀ : Heap} {Q : Value → Shared → Prop} (hf : FnAt h₀ i a) (h : wpAny M A (eval e₁ env) (fun v s₁ => wpAny M A (eval e₂ env) (fun v₂ s₂ => wpAny M A (eval e₃ env) (fun v₃ s₃ => Kp h₀ s₃.heap ∧ wpAny M A (call (.ref a) [v, v₂, v₃]) Q E s₃) E s₂) E s₁) E s)
    (hs : starEach [e₁, e₂, e₃] env = [(false, eval e₁ env), (false, eval e₂ env), (false, eval e₃ env)] := by rfl) : wpAny M A (callWith pos (.ref a) [] (backTo pos (starEach [e₁, e₂, e₃] env)) []) Q E s := cf_any hf (args3 h hs)

/-! ## the defs by their names -/
theorem Gd.f9 {h : Heap} (G : Gd mg mb h) : ∃ a, mg (Str.ofString "fspath") = some (.ref a) ∧ FnAt h 9 a := G.fn 9 (by decide)
theorem Gd.f13 {h : Heap} (G : Gd mg mb h) : ∃ a, mg (Str.ofString "_get_sep") = some (.ref a) ∧ FnAt h 13 a := G.fn 13 (by decide)
theorem Gd.f14 {h : Heap} (G : Gd mg mb h) : ∃ a, mg (Str.ofString "join") = some (.ref a) ∧ FnAt h 14 a := G.fn 14 (by decide)
theorem Gd.f15 {h : Heap} (G : Gd mg mb h) : ∃ a, mg (Str.ofString "split") = some (.ref a) ∧ FnAt h 15 a := G.fn 15 (by decide)
theorem Gd.f16 {h : Heap} (G : Gd mg mb h) : ∃ a, mg (Str.ofString "splitroot") = some (.ref a) ∧ FnAt h 16 a := G.fn 16 (by decide)
theorem Gd.f17 {h : Heap} (G : Gd mg mb h) : ∃ a, mg (Str.ofString "normpath") = some (.ref a) ∧ FnAt h 17 a := G.fn 17 (by decide)
theorem Gd.f18 {h : Heap} (G : Gd mg mb h) : ∃ a, mg (Str.ofString "commonpath") = some (.ref a) ∧ FnAt h 18 a := G.fn 18 (by decide)
theorem Gd.f21 {h : Heap} (G : Gd mg mb h) : ∃ a, mg (Str.ofString "_ellipsis_match") = some (.ref a) ∧ FnAt h 21 a := G.fn 21 (by decide)
theorem Gd.f23 {h : Heap} (G : Gd mg mb h) : ∃ a, mg (Str.ofString "_law_words") = some (.ref a) ∧ FnAt h 23 a := G.fn 23 (by decide)
theorem Gd.f24 {h : Heap} (G : Gd mg mb h) : ∃ a, mg (Str.ofString "_law_walked") = some (.ref a) ∧ FnAt h 24 a := G.fn 24 (by decide)
theorem Gd.f25 {h : Heap} (G : Gd mg mb h) : ∃ a, mg (Str.ofString "_law_climbed") = some (.ref a) ∧ FnAt h 25 a := G.fn 25 (by decide)
theorem Gd.f26 {h : Heap} (G : Gd mg mb h) : ∃ a, mg (Str.ofString "_law_hung") = some (.ref a) ∧ FnAt h 26 a := G.fn 26 (by decide)
theorem Gd.f27 {h : Heap} (G : Gd mg mb h) : ∃ a, mg (Str.ofString "_law_cells") = some (.ref a) ∧ FnAt h 27 a := G.fn 27 (by decide)
theorem Gd.f28 {h : Heap} (G : Gd mg mb h) : ∃ a, mg (Str.ofString "_law_fits") = some (.ref a) ∧ FnAt h 28 a := G.fn 28 (by decide)
theorem Gd.f29 {h : Heap} (G : Gd mg mb h) : ∃ a, mg (Str.ofString "_law_masks") = some (.ref a) ∧ FnAt h 29 a := G.fn 29 (by decide)
theorem Gd.f30 {h : Heap} (G : Gd mg mb h) : ∃ a, mg (Str.ofString "_law_agree") = some (.ref a) ∧ FnAt h 30 a := G.fn 30 (by decide)
theorem St.kp (C : St s₀ L m led s) : Kp s₀.heap s.heap := C.c.keep

/-! ## methods -/
theorem e_meth {o : Expr} {name : Str} {apos pos : Pos} {args : List Expr} {Q : Value → Shared → Prop}
    (h : wpAny (model prog w) A (eval o env) (fun ov s₁ => MethodOnS prog w A E name ov pos (backTo pos (starEach args env)) Q s₁) E s)
    (hbase : attributeBase o name env (eval o env) = eval o env := by rfl)
    (hfew : ((backTo pos (starEach args env)).all (fun x => !x.1) && (backToKw pos (keywordEach [] env)).all (fun x => x.1.isSome)
      && decide (args.length + ([] : List Keyword).length + (if ([] : List Keyword).isEmpty then 0 else 1) < 30)) = true := by rfl)
    (hline : (apos.endLine == pos.line) = true := by rfl) :
    wpAny (model prog w) A (eval (.Call (.Attribute o name apos) args [] pos) env) Q E s := wpAny_Call_method_lateS hbase hfew hline h
theorem on_str {name : Str} {id : String} {x : Str} {t : Tok} {pos : Pos} {args : List (Bool × Sem Value)} {Q : Value → Shared → Prop} (slot : Slot "str" name id)
    (ty : typeOf (.builtin id) = pure (.type "method_descriptor")) (h : wpAny (model prog w) A (callWith pos (.builtin id) [.str x t] args []) Q E s) :
    MethodOnS prog w A E name (.str x t) pos args Q s :=
  ⟨"str", id, F.plainAttrs_str, slot, ty, typeIs_str _ _ _, (fun _ e => nomatch e), h⟩
theorem cm1 {id : String} {o : Value} {e : Expr} {pos : Pos} {Q : Value → Shared → Prop} (h : wpAny M A (eval e env) (fun v s₁ => wpAny M A (call (.builtin id) [o, v]) Q E s₁) E s)
    (hs : starEach [e] env = [(false, eval e env)] := by rfl) : wpAny M A (callWith pos (.builtin id) [o] (backTo pos (starEach [e] env)) []) Q E s :=
  Calls.callWith_builtin (by rw [hs]; rfl) (args1 h hs)
theorem cm3 {id : String} {o : Value} {e₁ e₂ e₃ : Expr} {pos : Pos} {Q : Value → Shared → Prop} (h : wpAny M A (eval e₁ env) (fun v s₁ => wpAny M A (eval e₂ env) (fun v₂ s₂ => wpAny M A (eval e₃ env) (fun v₃ s₃ => wpAny M A (call (.builtin id) [o, v, v₂, v₃]) Q E s₃) E s₂) E s₁) E s)
    (hs : starEach [e₁, e₂, e₃] env = [(false, eval e₁ env), (false, eval e₂ env), (false, eval e₃ env)] := by rfl) : wpAny M A (callWith pos (.builtin id) [o] (backTo pos (starEach [e₁, e₂, e₃] env)) []) Q E s :=
  Calls.callWith_builtin (by rw [hs]; rfl) (args3 h hs)

/-! ## type, issubclass -/
theorem type_str {x : Str} {t : Tok} {Q : Value → Shared → Prop} (h : Q (.type "str") s) : wpAny (model prog w) A (call (.type "type") [.str x t]) Q E s := call_type_of (typeIs_str _ _ _) rfl h

namespace MF
theorem kind_issubclass_nested : builtinKind "issubclass.nested" = none := by decide +kernel
theorem plain_issubclass_nested : plainId "issubclass.nested" = true := by decide +kernel
theorem args_issubclass_nested_3 (a b c : Value) : argsOk "issubclass.nested" ⟨[a, b, c], []⟩ := by unfold argsOk; kernel_rfl
theorem entry_issubclass_nested : entryFor table "issubclass.nested" = some Builtin.«issubclass.nested» := entryFor_of_tree (by kernel_rfl)
end MF
theorem code_function_meets {id : String} {B : Builtin} {args : List Value} {S : PySem.Spec} {R : Result → Shared → Prop} (kind : builtinKind id = none) (plain : plainId id = true)
    (entry : entryFor table id = some B) (ok : argsOk id ⟨args, []⟩) (g : Meets (B ⟨args, []⟩) S) (h : S A R s) : codeAny (model prog w) A (.call (.builtin id) ⟨args, []⟩) R s := by
  refine codeAny_call_builtin plain entry ?_
  have hfin := g prog w A R s h
  simp only [checkBuiltinCall, kind]
  cases hsig : Manifest.signature? id with
  | none => exact wpAny_pure hfin
  | some sig =>
    simp only [argsOk, hsig] at ok
    have h2 : Bind.checkArgs id sig ⟨args, []⟩ = pure () := ok
    show wpAny _ _ (Bind.checkArgs id sig ⟨args, []⟩) _ _ s
    rw [h2]; exact wpAny_pure hfin
theorem isMeta_str : typeOf (.type "str") = pure (.type "type") := by rfl
theorem subNested {k : Int} {tk : Tok} {Q : Fin → Shared → Prop} (hq : Q (.done (.ret (.bool true))) s) : wpAny (model prog w) A (Builtin.«issubclass.nested» ⟨[.type "str", .type "str", .int k tk], []⟩) Q E s := by
  have hself := isSubtype_str_str
  have hm := F.isi_meta_str
  repeat (any_goals (first | assumption | (rw [if_pos hm]) | (rw [hself]) | wp_step))
theorem subTuple {tp : Addr} {tk : Tok} {Q : Fin → Shared → Prop} (htp : s.heap.get? tp = some { cls := .type "tuple", data := .seq [.type "str", .type "bytes"].toArray })
    (hq : Q (.done (.ret (.bool true))) s) : wpAny (model prog w) A (Builtin.«issubclass.nested» ⟨[.type "str", .ref tp, .int 0 tk], []⟩) Q E s := by
  obtain ⟨h, g, d, t, os⟩ := s
  have hT2 : (⟨h, g, d, t, os⟩ : Shared).TypeIs (.ref tp) "tuple" := ⟨_, htp, rfl⟩
  have f1 := F.isi_sub_tuple
  repeat (any_goals (first | assumption | wp_step))
  refine code_function_meets MF.kind_issubclass_nested MF.plain_issubclass_nested MF.entry_issubclass_nested (MF.args_issubclass_nested_3 _ _ _) (S := fun _ R s => R (.ok (.ret (.bool true))) s) (fun prog w A R s hs => subNested hs) ?_
  repeat (any_goals (first | assumption | wp_step))
theorem sub_call {tp : Addr} {Q : Value → Shared → Prop} (htp : s.heap.get? tp = some { cls := .type "tuple", data := .seq [.type "str", .type "bytes"].toArray })
    (hq : Q (.bool true) s) : wpAny (model prog w) A (call (.builtin "issubclass") [.type "str", .ref tp]) Q E s := by
  refine call_function_meets PySem.F.kind_issubclass PySem.F.plain_issubclass PySem.F.entry_issubclass (PySem.F.args_issubclass_2 _ _)
    (S := fun _ R s => s.heap.get? tp = some { cls := .type "tuple", data := .seq [.type "str", .type "bytes"].toArray } ∧ R (.ok (.ret (.bool true))) s) (fun prog w A R s hs => ?_) ⟨htp, hq⟩
  exact issubclass_outer (subTuple hs.1 hs.2)
end
-- part B2
section
variable {prog : Program} {w : World} {M : Model} {A : Around} {E : Value → Shared → Prop} {s₀ s : Shared} {L : Addr} {m : Str → Option Value} {led : List (Addr × (Obj → Prop))} {env : Env} {sc : Scope} {mg mb : Str → Option Value}
variable {x y : Str} {t u : Tok} {a b : Int}

theorem br {c : Prop} [Decidable c] {P₁ P₂ : Prop} (h₁ : c → P₁) (h₂ : ¬ c → P₂) : if decide c = true then P₁ else P₂ := by
  by_cases h : c
  · rw [if_pos (decide_eq_true h)]; exact h₁ h
  · rw [if_neg (by simpa using h)]; exact h₂ h
theorem brb {c : Bool} {P₁ P₂ : Prop} (h₁ : c = true → P₁) (h₂ : c = false → P₂) : if c = true then P₁ else P₂ := by
  cases c
  · rw [if_neg Bool.false_ne_true]; exact h₂ rfl
  · rw [if_pos rfl]; exact h₁ rfl
theorem mulOk_slash {n : Nat} (hn : n ≤ 100000) : MulOk (Str.ofString "/") n := by
  have h1 : (Str.ofString "/").length = 1 := by decide +kernel
  refine ⟨?_, ?_, ?_⟩
  · have a1 : ¬ ((n : Int) < -(2 ^ 63 : Int)) := by omega
    have a2 : ¬ ((n : Int) ≥ 2 ^ 63) := by omega
    rw [decide_eq_false a1, decide_eq_false a2]; rfl
  · intro h2 _
    rw [h1]
    have h3 : (1 : Int) ≤ (2 ^ 63 - 1) / (n : Int) := by
      rw [Int.le_ediv_iff_mul_le (by omega)]
      omega
    omega
  · intro _ _
    rw [h1]
    unfold PySem.Builtin.Str.tooLong
    rw [sizeLine_eq]
    exact decide_eq_false (by simp; omega)
theorem big : sizeLine = 16777216 := sizeLine_eq

/-! ## strs -/
theorem l_len_str {Q : Value → Shared → Prop} (C : St s₀ L m led s) (h : ∀ t' s', St s₀ L m led s' → Q (.int x.length t') s') (hx : x.length ≤ 100000) : wpAny (model prog w) A (call (.builtin "len") [.str x t]) Q E s :=
  PySem.P.len_str (by omega) (h _ _ (C.keeps (Keeps.toks _)))
theorem l_truthy_str {Q : Bool → Shared → Prop} (C : St s₀ L m led s) (h : ∀ s', St s₀ L m led s' → Q (decide (x.length ≠ 0)) s') (hx : x.length ≤ 100000) : wpAny (model prog w) A (truthy (.str x t)) Q E s := by
  refine PySem.P.truthy_str (by omega) ?_
  have e : ((x.length : Int) != 0) = decide (x.length ≠ 0) := by
    by_cases hz : x.length = 0
    · simp [hz]
    · have : (x.length : Int) ≠ 0 := by omega
      simp [hz, bne_iff_ne.mpr this]
  rw [e]
  exact h _ (C.keeps (Keeps.toks _))
theorem l_eq_str {Q : Value → Shared → Prop} (h : Q (.bool (decide (x = y))) s) : wpAny (model prog w) A (compareOp .Eq (.str x t) (.str y u)) Q E s :=
  PyProof.Rows.eq_str (by rw [show (x == y) = decide (x = y) from rfl]; exact h)
theorem l_ne_str {Q : Value → Shared → Prop} (h : Q (.bool (decide (x ≠ y))) s) : wpAny (model prog w) A (compareOp .NotEq (.str x t) (.str y u)) Q E s := by
  refine PySem.P.ne_str ?_
  have e : (x.cps.toList != y.cps.toList) = decide (x ≠ y) := by
    obtain ⟨⟨a⟩⟩ := x
    obtain ⟨⟨b⟩⟩ := y
    by_cases hab : a = b
    · subst hab; simp
    · have : ¬ ({ cps := ⟨a⟩ } : Str) = { cps := ⟨b⟩ } := by intro e; injection e with e; injection e with e; exact hab e
      simp [hab]
  rw [e]; exact h
theorem l_add_str {Q : Value → Shared → Prop} (C : St s₀ L m led s) (h : ∀ t' s', St s₀ L m led s' → Q (.str (x ++ y) t') s') (hx : x.length + y.length ≤ 100000) : wpAny (model prog w) A (binaryOp .Add (.str x t) (.str y u)) Q E s :=
  PyProof.Rows.add_str (fun t' k => h t' _ (C.keeps (Keeps.toks _))) (by rw [big]; omega)
theorem l_mul_str {Q : Value → Shared → Prop} (C : St s₀ L m led s) (h : ∀ t' s', St s₀ L m led s' → Q (.str (Txt.mul x a) t') s') (hok : MulOk x a) : wpAny (model prog w) A (binaryOp .Mult (.str x t) (.int a u)) Q E s :=
  SB.mul hok (fun t' k => h t' _ (C.keeps (Keeps.toks _)))
theorem l_isi_bytes {Q : Value → Shared → Prop} (C : St s₀ L m led s) (h : ∀ s', St s₀ L m led s' → Q (.bool false) s') : wpAny (model prog w) A (call (.builtin "isinstance") [.str x t, .type "bytes"]) Q E s :=
  IsiPair.str_bytes (h _ (C.keeps (Keeps.toks _)))
theorem go_str {value : Expr} {r : Value} : letTemporaryGo value (.str x t) r = pure () := by cases value <;> rfl
theorem l_cut_ns {value : Expr} {l r : Option Expr} {p : Pos} {Q : Value → Shared → Prop} (C : St s₀ L m led s) (h : ∀ t' s', St s₀ L m led s' → Q (.str (Txt.slice x none (some b)) t') s') (hx : x.length ≤ 100000) :
    wpAny (model prog w) A (subscriptTail value (.Slice l r none p) (.str x t) (.ref s.heap.objs.size)) Q E { s with heap := s.heap.push { cls := .type "slice", data := .fields #[.none, .int b u, .none] } } :=
  tail_of_ItemOn (ops := [.ref s.heap.objs.size, .str x t]) (SBH.sliceItem_ns (P := fun h' => Kp s.heap h') (fun h' o k b' o' e => Heap.get?_push_of_some _ (k b' o' e)) (fun _ _ e => e) (fun h' t' k kp => h t' _ (C.keeps (Keeps.both _ kp))) (by rw [big]; omega)) rfl (fun _ => go_str)
theorem l_cut_sn {value : Expr} {l r : Option Expr} {p : Pos} {Q : Value → Shared → Prop} (C : St s₀ L m led s) (h : ∀ t' s', St s₀ L m led s' → Q (.str (Txt.slice x (some a) none) t') s') (hx : x.length ≤ 100000) :
    wpAny (model prog w) A (subscriptTail value (.Slice l r none p) (.str x t) (.ref s.heap.objs.size)) Q E { s with heap := s.heap.push { cls := .type "slice", data := .fields #[.int a u, .none, .none] } } :=
  tail_of_ItemOn (ops := [.ref s.heap.objs.size, .str x t]) (SBH.sliceItem_sn (P := fun h' => Kp s.heap h') (fun h' o k b' o' e => Heap.get?_push_of_some _ (k b' o' e)) (fun _ _ e => e) (fun h' t' k kp => h t' _ (C.keeps (Keeps.both _ kp))) (by rw [big]; omega)) rfl (fun _ => go_str)
theorem l_cut_ss {value : Expr} {l r : Option Expr} {p : Pos} {u' : Tok} {Q : Value → Shared → Prop} (C : St s₀ L m led s) (h : ∀ t' s', St s₀ L m led s' → Q (.str (Txt.slice x (some a) (some b)) t') s') (hx : x.length ≤ 100000) :
    wpAny (model prog w) A (subscriptTail value (.Slice l r none p) (.str x t) (.ref s.heap.objs.size)) Q E { s with heap := s.heap.push { cls := .type "slice", data := .fields #[.int a u, .int b u', .none] } } :=
  tail_of_ItemOn (ops := [.ref s.heap.objs.size, .str x t]) (SBH.sliceItem_ss (P := fun h' => Kp s.heap h') (fun h' o k b' o' e => Heap.get?_push_of_some _ (k b' o' e)) (fun _ _ e => e) (fun h' t' k kp => h t' _ (C.keeps (Keeps.both _ kp))) (by rw [big]; omega)) rfl (fun _ => go_str)
theorem l_rfind {Q : Value → Shared → Prop} (C : St s₀ L m led s) (h : ∀ t' s', St s₀ L m led s' → Q (.int (Txt.rfind x y) t') s') : wpAny (model prog w) A (call (.builtin "str.rfind") [.str x t, .str y u]) Q E s :=
  SC.rfind (h _ _ (C.keeps (Keeps.toks _)))
theorem l_startswith {Q : Value → Shared → Prop} (h : Q (.bool (Txt.startswith x y)) s) : wpAny (model prog w) A (call (.builtin "str.startswith") [.str x t, .str y u]) Q E s := SC.startswith h
theorem l_endswith {Q : Value → Shared → Prop} (h : Q (.bool (Txt.endswith x y)) s) : wpAny (model prog w) A (call (.builtin "str.endswith") [.str x t, .str y u]) Q E s := SC.endswith h
theorem l_rstrip {Q : Value → Shared → Prop} (C : St s₀ L m led s) (h : ∀ t' s', St s₀ L m led s' → Q (.str (Txt.rstripChars x y) t') s') (hx : x.length ≤ 100000) : wpAny (model prog w) A (call (.builtin "str.rstrip") [.str x t, .str y u]) Q E s :=
  SC.rstripChars (fun t' k => h _ _ (C.keeps (Keeps.toks _))) (by rw [big]; omega)

/-! ## ints -/
theorem l_add_int {Q : Value → Shared → Prop} (C : St s₀ L m led s) (h : ∀ t' s', St s₀ L m led s' → Q (.int (a + b) t') s') : wpAny (model prog w) A (binaryOp .Add (.int a t) (.int b u)) Q E s := P.add_int (h _ _ (C.keeps (Keeps.toks _)))
theorem l_sub_int {Q : Value → Shared → Prop} (C : St s₀ L m led s) (h : ∀ t' s', St s₀ L m led s' → Q (.int (a - b) t') s') : wpAny (model prog w) A (binaryOp .Sub (.int a t) (.int b u)) Q E s := P.sub_int (h _ _ (C.keeps (Keeps.toks _)))

theorem l_iadd_int {Q : Value → Shared → Prop} (C : St s₀ L m led s) (h : ∀ t' s', St s₀ L m led s' → Q (.int (a + b) t') s') : wpAny (model prog w) A (inplaceOp .Add (.int a t) (.int b u)) Q E s := wpAny_iadd_int (h _ _ (C.keeps (Keeps.toks _)))
theorem l_isub_int {Q : Value → Shared → Prop} (C : St s₀ L m led s) (h : ∀ t' s', St s₀ L m led s' → Q (.int (a - b) t') s') : wpAny (model prog w) A (inplaceOp .Sub (.int a t) (.int b u)) Q E s := AutoIntOps.isub_0 (h _ _ (C.keeps (Keeps.toks _)))
theorem l_iadd_str {Q : Value → Shared → Prop} (C : St s₀ L m led s) (h : ∀ t' s', St s₀ L m led s' → Q (.str (x ++ y) t') s') (hx : x.length + y.length ≤ 100000) : wpAny (model prog w) A (inplaceOp .Add (.str x t) (.str y u)) Q E s :=
  SB.iadd (fun t' k => h t' _ (C.keeps (Keeps.toks _))) (by rw [big]; omega)

/-! ## unpacking -/
theorem x_assign_tuple {elts : List Expr} {k : Nat} {tpos : Pos} {value : Expr} {pos : Pos} {rest : List Stmt} {Q : Flow → Shared → Prop}
    (h : wpAny M A (eval value env) (fun v s₁ => wpAny M A (assign (.Tuple elts k tpos) env v) (fun _ s₂ => wpAny M A (execs rest env) Q E s₂) E s₁) E s)
    (hs : swapsWithSole [.Tuple elts k tpos] value pos.line env = pure false := by rfl)
    (hw : swappedStores [.Tuple elts k tpos] value env = pure none := by rfl) :
    wpAny M A (execs (.Assign [.Tuple elts k tpos] value pos :: rest) env) Q E s := x_cons (Assign_Tuple h hs hw)
theorem x_assign_swap {elts : List Expr} {k : Nat} {tpos : Pos} {value : Expr} {pos : Pos} {names : List Str} {rest : List Stmt} {Q : Flow → Shared → Prop}
    (h : wpAny M A (eval value env) (fun v s₁ => wpAny M A (unpackItems v names.length none) (fun items s₂ =>
      wpAny M A (assignInOrder (names.reverse.map fun n => bindName env n) items.reverse) (fun _ s₃ => wpAny M A (execs rest env) Q E s₃) E s₂) E s₁) E s)
    (hs : swapsWithSole [.Tuple elts k tpos] value pos.line env = pure false)
    (hw : swappedStores [.Tuple elts k tpos] value env = pure (some names)) :
    wpAny M A (execs (.Assign [.Tuple elts k tpos] value pos :: rest) env) Q E s := x_cons (Assign_Tuple_swapped h hs hw)
def envS (sc : Scope) : Env := { scope := sc, locals := 0, globals := 0, cells := [] }
theorem swapped_of {ts : List Expr} {v : Expr} {r : Option (List Str)} (hE : EnvOk env sc L) (h : swappedStores ts v (envS sc) = pure r) : swappedStores ts v env = pure r := by
  rw [← h]
  unfold swappedStores Env.kindOf Env.blockKind envS
  rw [hE.e]
theorem isTup_of {h : Heap} {a : Addr} {vs : List Value} (e : h.get? a = some { cls := .type "tuple", data := .seq vs.toArray }) : IsTup h a vs.toArray := ⟨_, e, rfl, _, rfl⟩
theorem new_ext {s : Shared} {h' : Heap} (e : Heap.ExtBut s.heap.objs.size s.heap h') : Kp s.heap h' := fun b o q => e b o (Nat.ne_of_lt (Heap.lt_size q)) q
theorem l_unpackItems {ad : Addr} {vs : List Value} {n : Nat} {d ud : Nat} {Q : List Value → Shared → Prop} (C : St s₀ L m led s) (r : Rm A d ud) (ht : IsTup s.heap ad vs.toArray) (hn : n = vs.length)
    (h : ∀ s', St s₀ L m led s' → Q vs s') : wpAny (model prog w) A (unpackItems (.ref ad) n none) Q E s := by
  subst hn
  refine unpackItems_tuple (items := vs.toArray) r.h ht fun h' he => ?_
  exact h _ (C.keeps (Keeps.heap (new_ext he)))
theorem l_unpack {ad : Addr} {vs : List Value} {elts : List Expr} {k : Nat} {tpos : Pos} {d ud : Nat} {Q : Unit → Shared → Prop} (C : St s₀ L m led s) (r : Rm A d ud) (ht : IsTup s.heap ad vs.toArray)
    (h : ∀ s', St s₀ L m led s' → wpAny (model prog w) A (assignInOrder ((assignEach elts env).map (·.2)) vs) Q E s')
    (hn : (assignEach elts env).length = vs.length) (hstar : (assignEach elts env).findIdx? (·.1) = none) : wpAny (model prog w) A (assign (.Tuple elts k tpos) env (.ref ad)) Q E s := by
  show wpAny (model prog w) A (do standAt tpos; unpack (.ref ad) (assignEach elts env)) Q E s
  refine wpAny_bind (wpAny_standAt ?_)
  refine unpack_tuple (items := vs.toArray) r.h ht (by rw [hn, List.size_toArray]) hstar fun h' he => ?_
  exact h _ (C.keeps (Keeps.heap (new_ext he)))
theorem l_unpackItemsT {ad : Addr} {vs : List Value} {n : Nat} {d ud : Nat} {Q : List Value → Shared → Prop} (C : St s₀ L m ((ad, isT vs) :: led) s) (r : Rm A d ud) (hn : n = vs.length)
    (h : ∀ s', St s₀ L m led s' → Q vs s') : wpAny (model prog w) A (unpackItems (.ref ad) n none) Q E s :=
  l_unpackItems C.drop r (isTup_of (C.tup (.head _))) hn h
theorem l_unpackT {ad : Addr} {vs : List Value} {elts : List Expr} {k : Nat} {tpos : Pos} {d ud : Nat} {Q : Unit → Shared → Prop} (C : St s₀ L m ((ad, isT vs) :: led) s) (r : Rm A d ud)
    (h : ∀ s', St s₀ L m led s' → wpAny (model prog w) A (assignInOrder ((assignEach elts env).map (·.2)) vs) Q E s')
    (hn : (assignEach elts env).length = vs.length) (hstar : (assignEach elts env).findIdx? (·.1) = none) : wpAny (model prog w) A (assign (.Tuple elts k tpos) env (.ref ad)) Q E s :=
  l_unpack C.drop r (isTup_of (C.tup (.head _))) h hn hstar
theorem in_order {t : Value → Sem Unit} {ts : List (Value → Sem Unit)} {v : Value} {vs : List Value} {Q : Unit → Shared → Prop} (h : wpAny M A (t v) (fun _ s' => wpAny M A (assignInOrder ts vs) Q E s') E s) :
    wpAny M A (assignInOrder (t :: ts) (v :: vs)) Q E s := wpAny_bind (wpAny_holding h)
theorem in_order0 {Q : Unit → Shared → Prop} (h : Q () s) : wpAny M A (assignInOrder [] []) Q E s := wpAny_pure h
theorem a_name {x : Str} {pos : Pos} {v : Value} {Q : Unit → Shared → Prop} (h : wpAny M A (storeName env x v) Q E s) : wpAny M A (assign (.Name x pos) env v) Q E s := assign_Name h
end
-- part B3
section
variable {prog : Program} {w : World} {M : Model} {A : Around} {E : Value → Shared → Prop} {s₀ s : Shared} {L : Addr} {m : Str → Option Value} {led : List (Addr × (Obj → Prop))} {env : Env} {sc : Scope} {mg mb : Str → Option Value}

/-- the first object of the ledger is lost -/
theorem St.lose {a : Addr} {P : Obj → Prop} {h' : Heap} {t : Nat} (C : St s₀ L m ((a, P) :: led) s) (he : Heap.ExtBut a s.heap h') : St s₀ L m led { s with heap := h', toks := t } := by
  have hne := C.ne (a, P) (.head _)
  refine ⟨⟨?_, ?_, fun b o e => ?_, C.c.fresh⟩, fun p hp => ?_, fun p hp => C.ne p (.tail _ hp), (List.nodup_cons.mp C.nd).2⟩
  · obtain ⟨h₁, t₁, e⟩ := C.c.same
    exact ⟨h', t, by rw [e]⟩
  · exact C.c.ns.extBut he (Ne.symm hne.1)
  · refine he b o (fun q => ?_) (C.c.keep b o e)
    have hz : s₀.heap.get? a = none := hne.2
    rw [q, hz] at e
    cases e
  · obtain ⟨o, e, q⟩ := C.own p (.tail _ hp)
    refine ⟨o, he _ _ (fun z => ?_) e, q⟩
    exact (List.nodup_cons.mp C.nd).1 (List.mem_map.mpr ⟨p, hp, z⟩)

/-! ## try -/
theorem x_try {body : List Stmt} {h₀ : ExceptHandler} {hs : List ExceptHandler} {pos : Pos} {rest : List Stmt} {Q : Flow → Shared → Prop}
    (h : wpAny (model prog w) A (execs body env) (andThen (model prog w) A rest env Q E) (fun _ _ => False) s) : wpAny (model prog w) A (execs (.Try body (h₀ :: hs) [] [] pos :: rest) env) Q E s := by
  refine x_cons (wpAny_Try_except (wpAny_mono h (fun f s₁ h₁ => ?_) (fun _ _ x => x.elim)))
  cases f <;> first | exact wpAny_execs_nil h₁ | exact h₁

/-! ## loops -/
structure Iter (prog : Program) (w : World) (A : Around) (I : Addr) (n : Nat) (P : Nat → Obj → Prop) (V : Nat → Value → Prop) (Ok : Heap → Prop) : Prop where
  next : ∀ i (s : Shared) (Q : Option Value → Shared → Prop) (E : Value → Shared → Prop), i < n → (∃ o, s.heap.get? I = some o ∧ P i o) → Ok s.heap →
    (∀ v h' t, V i v → (∃ o, h'.get? I = some o ∧ P (i + 1) o) → Heap.SameBut I s.heap h' → Q (some v) { s with heap := h', toks := t }) → wpAny (model prog w) A (pyNext (.ref I)) Q E s
  done : ∀ (s : Shared) (Q : Option Value → Shared → Prop) (E : Value → Shared → Prop), (∃ o, s.heap.get? I = some o ∧ P n o) → Ok s.heap →
    (∀ h', Heap.ExtBut I s.heap h' → Q none { s with heap := h' }) → wpAny (model prog w) A (pyNext (.ref I)) Q E s

def TurnEnd (s₀ : Shared) (L I : Addr) (P : Obj → Prop) (J : (Str → Option Value) → List (Addr × (Obj → Prop)) → Prop) (B : Flow → Shared → Prop) : Flow → Shared → Prop := fun f s' => match f with
  | .next | .cont => ∃ m' led', J m' led' ∧ St s₀ L m' ((I, P) :: led') s'
  | .brk => B .next s'
  | .ret v => B (.ret v) s'
theorem te_next {I : Addr} {P : Obj → Prop} {J : (Str → Option Value) → List (Addr × (Obj → Prop)) → Prop} {B : Flow → Shared → Prop} (h : ∃ m' led', J m' led' ∧ St s₀ L m' ((I, P) :: led') s) : TurnEnd s₀ L I P J B .next s := h
theorem te_cont {I : Addr} {P : Obj → Prop} {J : (Str → Option Value) → List (Addr × (Obj → Prop)) → Prop} {B : Flow → Shared → Prop} (h : ∃ m' led', J m' led' ∧ St s₀ L m' ((I, P) :: led') s) : TurnEnd s₀ L I P J B .cont s := h
theorem te_next' {I : Addr} {P : Obj → Prop} {J : (Str → Option Value) → List (Addr × (Obj → Prop)) → Prop} {B : Flow → Shared → Prop} {m' : Str → Option Value} {led' : List (Addr × (Obj → Prop))} (c : St s₀ L m' ((I, P) :: led') s) (j : J m' led') : TurnEnd s₀ L I P J B .next s := ⟨m', led', j, c⟩
theorem te_cont' {I : Addr} {P : Obj → Prop} {J : (Str → Option Value) → List (Addr × (Obj → Prop)) → Prop} {B : Flow → Shared → Prop} {m' : Str → Option Value} {led' : List (Addr × (Obj → Prop))} (c : St s₀ L m' ((I, P) :: led') s) (j : J m' led') : TurnEnd s₀ L I P J B .cont s := ⟨m', led', j, c⟩
theorem te_brk {I : Addr} {P : Obj → Prop} {J : (Str → Option Value) → List (Addr × (Obj → Prop)) → Prop} {B : Flow → Shared → Prop} (h : B .next s) : TurnEnd s₀ L I P J B .brk s := h
theorem te_ret {I : Addr} {P : Obj → Prop} {J : (Str → Option Value) → List (Addr × (Obj → Prop)) → Prop} {B : Flow → Shared → Prop} {v : Value} (h : B (.ret v) s) : TurnEnd s₀ L I P J B (.ret v) s := h

abbrev loopR (M : Model) (A : Around) (rest : List Stmt) (env : Env) (Q : Flow → Shared → Prop) (E : Value → Shared → Prop) : Result → Shared → Prop :=
  fun r s' => match r with | .ok f => andThen M A rest env Q E f s' | .error e => cameBackBy M A env E e s'

theorem x_for {target iter : Expr} {body rest : List Stmt} {pos : Pos} {Q : Flow → Shared → Prop}
    (h : wpAny M A (eval iter env) (fun x s₁ => wpAny M A (pyIter x) (fun it s₂ => codeAny M A (.forLoop target it body [] env) (loopR M A rest env Q E) s₂) E s₁) E s)
    (hs : ∀ x, foldedSetIterable iter env x = pure x := by intro _; rfl) : wpAny M A (execs (.For target iter body [] pos :: rest) env) Q E s := x_cons (wpAny_For h hs)

theorem for_iter {I : Addr} {n : Nat} {P : Nat → Obj → Prop} {V : Nat → Value → Prop} {Ok : Heap → Prop} (it : Iter prog w A I n P V Ok) {x : Str} {px : Pos} {body rest : List Stmt} {Q : Flow → Shared → Prop}
    (hE : EnvOk env sc L) (hx : sc.names.lookup x = some .local) (J : Nat → (Str → Option Value) → List (Addr × (Obj → Prop)) → Prop)
    (hOk : ∀ i m led s, J i m led → St s₀ L m ((I, P i) :: led) s → Ok s.heap) (C : St s₀ L m ((I, P 0) :: led) s) (h0 : J 0 m led)
    (turn : ∀ i v m led s, i < n → V i v → J i m led → St s₀ L (upd m x v) ((I, P (i + 1)) :: led) s →
      wpAny (model prog w) A (execs body env) (TurnEnd s₀ L I (P (i + 1)) (J (i + 1)) (andThen (model prog w) A rest env Q E)) (fun _ _ => False) s)
    (after : ∀ m led s, J n m led → St s₀ L m led s → wpAny (model prog w) A (execs rest env) Q E s) :
    codeAny (model prog w) A (.forLoop (.Name x px) (.ref I) body [] env) (loopR (model prog w) A rest env Q E) s := by
  refine codeAny_forLoop (fun k s' => ∃ i m led, k = n + 1 - i ∧ i ≤ n ∧ J i m led ∧ St s₀ L m ((I, P i) :: led) s') ?_ (n + 1) ⟨0, m, led, rfl, Nat.zero_le _, h0, C⟩
  rintro k s' ⟨i, m, led, rfl, hi, hJ, C⟩
  by_cases hlt : i < n
  · refine it.next i s' _ _ hlt (C.get (.head _)) (hOk _ _ _ _ hJ C) fun v h' t hv ho hs => ?_
    have C₁ := C.change (t := t) hs ho
    refine a_name (st C₁ hE hx fun s₂ C₂ => ?_)
    refine wpAny_mono (turn i v m led s₂ hlt hv hJ C₂) (fun f s₃ h₃ => ?_) (fun _ _ x => x.elim)
    cases f with
    | next => obtain ⟨m', led', j, c⟩ := h₃; exact ⟨n + 1 - (i + 1), by omega, i + 1, m', led', rfl, hlt, j, c⟩
    | cont => obtain ⟨m', led', j, c⟩ := h₃; exact ⟨n + 1 - (i + 1), by omega, i + 1, m', led', rfl, hlt, j, c⟩
    | brk => exact h₃
    | ret v => exact h₃
  · have e : i = n := by omega
    subst e
    refine it.done s' _ _ (C.get (.head _)) (hOk _ _ _ _ hJ C) fun h' he => ?_
    exact wpAny_execs_nil (after m led _ hJ (C.lose (t := s'.toks) he))

theorem iter_list (r : A.handled = none) (I ax : Addr) (vs : List Value) :
    Iter prog w A I vs.length (fun i o => o.cls = .type "list_iterator" ∧ o.data = .fields #[.ref ax, .int i 0]) (fun i v => vs[i]? = some v) (fun h => h.IsList ax vs.toArray) where
  next := fun i s Q E hi ⟨o, ho, hc, hd⟩ hl hQ => wpAny_pyNext_list_item (x := vs[i]) ⟨o, ho, hc, hd⟩ hl (by simp [hi]) fun h' ⟨o', ho', hc', hd'⟩ hs => hQ _ h' s.toks (by simp [hi]) ⟨o', ho', hc', hd'⟩ hs
  done := fun s Q E ⟨o, ho, hc, hd⟩ hl hQ => wpAny_pyNext_list_end r ⟨o, ho, hc, hd⟩ hl (by simp) hQ
theorem iter_tuple (r : A.handled = none) (I ax : Addr) (vs : List Value) :
    Iter prog w A I vs.length (fun i o => o.cls = .type "tuple_iterator" ∧ o.data = .fields #[.ref ax, .int i 0]) (fun i v => vs[i]? = some v) (fun h => h.IsTuple ax vs.toArray) where
  next := fun i s Q E hi ⟨o, ho, hc, hd⟩ hl hQ => wpAny_pyNext_tuple_item (x := vs[i]) ⟨o, ho, hc, hd⟩ hl (by simp [hi]) fun h' ⟨o', ho', hc', hd'⟩ hs => hQ _ h' s.toks (by simp [hi]) ⟨o', ho', hc', hd'⟩ hs
  done := fun s Q E ⟨o, ho, hc, hd⟩ hl hQ => wpAny_pyNext_tuple_end r ⟨o, ho, hc, hd⟩ hl (by simp) hQ
theorem iter_range (r : A.handled = none) (I : Addr) (n : Nat) :
    Iter prog w A I n (fun i o => o = { cls := .type "range_iterator", data := .fields #[rawInt (i : Nat), rawInt ((n : Int) - (i : Nat)), rawInt 1] }) (fun i v => ∃ t, v = .int (i : Nat) t) (fun _ => True) where
  next := fun i s Q E hi ⟨o, ho, e⟩ _ hQ => by
    subst e
    refine wpAny_pyNext_range_item (x := (i : Nat)) (left := (n : Int) - (i : Nat)) (step := 1) ho (by omega) fun h' hit' hs' => ?_
    refine hQ _ h' _ ⟨_, rfl⟩ ⟨_, hit', ?_⟩ hs'
    have e1 : ((i + 1 : Nat) : Int) = (i : Int) + 1 := by omega
    have e2 : (n : Int) - ((i + 1 : Nat) : Int) = (n : Int) - (i : Int) - 1 := by omega
    rw [e1, show (n : Int) - ((i : Int) + 1) = (n : Int) - (i : Int) - 1 by omega]
  done := fun s Q E ⟨o, ho, e⟩ _ hQ => by
    subst e
    exact wpAny_pyNext_range_end (x := (n : Nat)) (left := (n : Int) - (n : Nat)) (step := 1) r ho (by omega) hQ

theorem for_list {ax : Addr} {vs : List Value} {x : Str} {px : Pos} {body rest : List Stmt} {d u : Nat} {Q : Flow → Shared → Prop} (C : St s₀ L m led s) (hE : EnvOk env sc L) (r : Rm A d u)
    (J : Nat → (Str → Option Value) → List (Addr × (Obj → Prop)) → Prop) (h0 : J 0 m led) (hx : sc.names.lookup x = some .local)
    (hl : ∀ i m led s, J i m led → St s₀ L m led s → s.heap.IsList ax vs.toArray)
    (turn : ∀ I P i v m led s, i < vs.length → vs[i]? = some v → J i m led → St s₀ L (upd m x v) ((I, P) :: led) s →
      wpAny (model prog w) A (execs body env) (TurnEnd s₀ L I P (J (i + 1)) (andThen (model prog w) A rest env Q E)) (fun _ _ => False) s)
    (after : ∀ m led s, J vs.length m led → St s₀ L m led s → wpAny (model prog w) A (execs rest env) Q E s) :
    wpAny (model prog w) A (pyIter (.ref ax)) (fun it s₂ => codeAny (model prog w) A (.forLoop (.Name x px) it body [] env) (loopR (model prog w) A rest env Q E) s₂) E s := by
  refine wpAny_pyIter_list (hl 0 m led s h0 C) ?_
  exact for_iter (iter_list r.h _ ax vs) hE hx J (fun i m led s j c => hl i m led s j c.drop) (C.add (Keeps.heap (push_kp _ _)) (push_none s) ⟨_, Heap.get?_push_size _ rfl, rfl, rfl⟩) h0
    (fun i v m led s hi hv j c => turn _ _ i v m led s hi hv j c) after
theorem for_tuple {ax : Addr} {vs : List Value} {x : Str} {px : Pos} {body rest : List Stmt} {d u : Nat} {Q : Flow → Shared → Prop} (C : St s₀ L m led s) (hE : EnvOk env sc L) (r : Rm A d u)
    (J : Nat → (Str → Option Value) → List (Addr × (Obj → Prop)) → Prop) (h0 : J 0 m led) (hx : sc.names.lookup x = some .local)
    (hl : ∀ i m led s, J i m led → St s₀ L m led s → s.heap.IsTuple ax vs.toArray)
    (turn : ∀ I P i v m led s, i < vs.length → vs[i]? = some v → J i m led → St s₀ L (upd m x v) ((I, P) :: led) s →
      wpAny (model prog w) A (execs body env) (TurnEnd s₀ L I P (J (i + 1)) (andThen (model prog w) A rest env Q E)) (fun _ _ => False) s)
    (after : ∀ m led s, J vs.length m led → St s₀ L m led s → wpAny (model prog w) A (execs rest env) Q E s) :
    wpAny (model prog w) A (pyIter (.ref ax)) (fun it s₂ => codeAny (model prog w) A (.forLoop (.Name x px) it body [] env) (loopR (model prog w) A rest env Q E) s₂) E s := by
  refine wpAny_pyIter_tuple (hl 0 m led s h0 C) ?_
  exact for_iter (iter_tuple r.h _ ax vs) hE hx J (fun i m led s j c => hl i m led s j c.drop) (C.add (Keeps.heap (push_kp _ _)) (push_none s) ⟨_, Heap.get?_push_size _ rfl, rfl, rfl⟩) h0
    (fun i v m led s hi hv j c => turn _ _ i v m led s hi hv j c) after
def isRg (n : Nat) : Obj → Prop := fun o => ∃ t u v, o = { cls := .type "range", data := .fields #[.int 0 t, .int n u, .int 1 v] }
theorem l_range {n : Nat} {t : Tok} {Q : Value → Shared → Prop} (C : St s₀ L m led s) (h : ∀ a s', St s₀ L m ((a, isRg n) :: led) s' → Q (.ref a) s') : wpAny (model prog w) A (call (.type "range") [.int (n : Int) t]) Q E s :=
  call_range_1 (h _ _ (C.add (Keeps.both _ (push_kp _ _)) (push_none s) ⟨_, Heap.get?_push_size _ rfl, _, _, _, rfl⟩))
theorem for_range {ax : Addr} {n : Nat} {x : Str} {px : Pos} {body rest : List Stmt} {d u : Nat} {Q : Flow → Shared → Prop} (C : St s₀ L m ((ax, isRg n) :: led) s) (hE : EnvOk env sc L) (r : Rm A d u)
    (J : Nat → (Str → Option Value) → List (Addr × (Obj → Prop)) → Prop) (h0 : J 0 m led) (hx : sc.names.lookup x = some .local) (hn : n ≤ 100000)
    (turn : ∀ I P i t m led s, i < n → J i m led → St s₀ L (upd m x (.int (i : Nat) t)) ((I, P) :: led) s →
      wpAny (model prog w) A (execs body env) (TurnEnd s₀ L I P (J (i + 1)) (andThen (model prog w) A rest env Q E)) (fun _ _ => False) s)
    (after : ∀ m led s, J n m led → St s₀ L m led s → wpAny (model prog w) A (execs rest env) Q E s) :
    wpAny (model prog w) A (pyIter (.ref ax)) (fun it s₂ => codeAny (model prog w) A (.forLoop (.Name x px) it body [] env) (loopR (model prog w) A rest env Q E) s₂) E s := by
  obtain ⟨o, ho, t, u, v, e⟩ := C.get (.head _)
  subst e
  refine wpAny_pyIter_range (a := 0) (b := n) (c := 1) (t := t) (u := u) (v := v) ho (small_one (by omega) (by omega) (by omega) (by omega)) ?_
  have e : Builtin.Range.rangeSize 0 n 1 = (n : Int) := by rw [rangeSize_one]; split <;> omega
  rw [e]
  refine for_iter (iter_range r.h _ n) hE hx J (fun i m led s j c => trivial) (C.drop.add (Keeps.heap (push_kp _ _)) (push_none s) ⟨_, Heap.get?_push_size _ rfl, ?_⟩) h0
    (fun i v m led s hi hv j c => ?_) after
  · show _ = _
    congr
  · obtain ⟨t, rfl⟩ := hv
    exact turn _ _ i t m led s hi j c
end
-- part B4

theorem brn {c : Prop} [Decidable c] {P₁ P₂ : Prop} (h₁ : ¬ c → P₁) (h₂ : c → P₂) : if (!decide c) = true then P₁ else P₂ := by
  by_cases h : c
  · rw [if_neg (by simp [h])]; exact h₂ h
  · rw [if_pos (by simp [h])]; exact h₁ h
/-! ## values that are strs -/
def Ss (vs : List Value) (xs : List Str) : Prop := ∃ l : List (Str × Tok), vs = strValues l ∧ l.map (·.1) = xs
theorem Ss.nil : Ss [] [] := ⟨[], rfl, rfl⟩
theorem Ss.one (x : Str) (t : Tok) : Ss [.str x t] [x] := ⟨[(x, t)], rfl, rfl⟩
theorem Ss.app {vs ws : List Value} {xs ys : List Str} (h : Ss vs xs) (k : Ss ws ys) : Ss (vs ++ ws) (xs ++ ys) := by
  obtain ⟨l, rfl, rfl⟩ := h
  obtain ⟨l', rfl, rfl⟩ := k
  exact ⟨l ++ l', by simp [strValues], by simp⟩
theorem Ss.snoc {vs : List Value} {xs : List Str} (h : Ss vs xs) (x : Str) (t : Tok) : Ss (vs ++ [.str x t]) (xs ++ [x]) := h.app (.one x t)
theorem Ss.cons {vs : List Value} {xs : List Str} (h : Ss vs xs) (x : Str) (t : Tok) : Ss (.str x t :: vs) (x :: xs) := Ss.app (.one x t) h
theorem Ss.length {vs : List Value} {xs : List Str} (h : Ss vs xs) : vs.length = xs.length := by
  obtain ⟨l, rfl, rfl⟩ := h
  simp [strValues]
theorem Ss.get {vs : List Value} {xs : List Str} {i : Nat} {v : Value} (h : Ss vs xs) (e : vs[i]? = some v) : ∃ x t, v = .str x t ∧ xs[i]? = some x := by
  obtain ⟨l, rfl, rfl⟩ := h
  unfold strValues at e
  rw [List.getElem?_map] at e
  cases q : l[i]? with
  | none => rw [q] at e; cases e
  | some p =>
    rw [q] at e
    simp at e
    exact ⟨p.1, p.2, e.symm, by rw [List.getElem?_map, q]; rfl⟩
theorem Ss.get' {vs : List Value} {xs : List Str} {i : Nat} {x : Str} (h : Ss vs xs) (e : xs[i]? = some x) : ∃ t, vs[i]? = some (.str x t) := by
  obtain ⟨l, rfl, rfl⟩ := h
  rw [List.getElem?_map] at e
  unfold strValues
  rw [List.getElem?_map]
  cases q : l[i]? with
  | none => rw [q] at e; cases e
  | some p =>
    rw [q] at e
    simp at e
    exact ⟨p.2, by simp [e]⟩
theorem Ss.take {vs : List Value} {xs : List Str} (h : Ss vs xs) (k : Nat) : Ss (vs.take k) (xs.take k) := by
  obtain ⟨l, rfl, rfl⟩ := h
  exact ⟨l.take k, by simp [strValues, List.map_take], by simp [List.map_take]⟩
theorem Ss.drop {vs : List Value} {xs : List Str} (h : Ss vs xs) (k : Nat) : Ss (vs.drop k) (xs.drop k) := by
  obtain ⟨l, rfl, rfl⟩ := h
  exact ⟨l.drop k, by simp [strValues, List.map_drop], by simp [List.map_drop]⟩
theorem Ss.reverse {vs : List Value} {xs : List Str} (h : Ss vs xs) : Ss vs.reverse xs.reverse := by
  obtain ⟨l, rfl, rfl⟩ := h
  exact ⟨l.reverse, by simp [strValues], by simp⟩
theorem Ss.dropLast {vs : List Value} {xs : List Str} (h : Ss vs xs) : Ss vs.dropLast xs.dropLast := by
  rw [List.dropLast_eq_take, List.dropLast_eq_take, h.length]
  exact h.take _

theorem Ss.last {vs : List Value} {xs : List Str} (h : Ss vs xs) (hn : (!vs.isEmpty) = true) : ∃ x t, vs.getLast? = some (.str x t) ∧ xs.getLast? = some x := by
  have hl := h.length
  have h1 : vs ≠ [] := by intro e; rw [e] at hn; simp at hn
  have h2 : vs[vs.length - 1]? = some (vs.getLast h1) := by rw [← List.getLast?_eq_getElem?]; exact List.getLast?_eq_some_getLast h1
  obtain ⟨x, t, e1, e2⟩ := h.get h2
  exact ⟨x, t, by rw [List.getLast?_eq_some_getLast h1, e1], by rw [List.getLast?_eq_getElem?, ← hl]; exact e2⟩
section
variable {prog : Program} {w : World} {M : Model} {A : Around} {E : Value → Shared → Prop} {s₀ s : Shared} {L : Addr} {m : Str → Option Value} {led : List (Addr × (Obj → Prop))} {env : Env} {sc : Scope} {mg mb : Str → Option Value}
variable {x y : Str} {t u : Tok} {a b : Addr} {vs ws : List Value}

theorem St.bl (C : St s₀ L m led s) (h : s₀.heap.PlainList a vs.toArray) : s.heap.PlainList a vs.toArray := h.at fun o e => C.c.keep _ o e
theorem St.bil (C : St s₀ L m led s) (h : s₀.heap.PlainList a vs.toArray) : s.heap.IsList a vs.toArray := (C.bl h).isList

/-! ## reading lists -/
theorem l_truthy_list {Q : Bool → Shared → Prop} (C : St s₀ L m led s) (hl : s.heap.IsList a vs.toArray) (h : ∀ s', St s₀ L m led s' → Q (!vs.isEmpty) s') (hx : vs.length ≤ 100000) : wpAny (model prog w) A (truthy (.ref a)) Q E s := by
  refine wpAny_truthy_list hl (by simp; omega) ?_
  have e : (!vs.toArray.isEmpty) = !vs.isEmpty := by simp
  rw [e]
  exact h _ (C.keeps (Keeps.toks _))
theorem l_len_list {Q : Value → Shared → Prop} (C : St s₀ L m led s) (hl : s.heap.IsList a vs.toArray) (h : ∀ t' s', St s₀ L m led s' → Q (.int vs.length t') s') (hx : vs.length ≤ 100000) : wpAny (model prog w) A (call (.builtin "len") [.ref a]) Q E s := by
  refine Calls.call_len_list hl (by simp; omega) ?_
  have e : (vs.toArray.size : Int) = vs.length := by simp
  rw [e]
  exact h _ _ (C.keeps (Keeps.toks _))
theorem tail_of {value slice : Expr} {o i : Value} {T id : String} {ops : List Value} {Q : Value → Shared → Prop} (hT : s.TypeIs o T) (hl : typeLookup (.type T) "__getitem__" = pure (some (.builtin id)))
    (h : wpAny (model prog w) A (getItem o i) Q E s) (hs : subscripted slice false o i = operate ops (getItem o i)) : wpAny (model prog w) A (subscriptTail value slice o i) Q E s := by
  unfold subscriptTail
  refine wpAny_bind ?_
  rw [getitemInPython_of_ne hT.not_modules]
  refine wpAny_bind (wpAny_specialOf hT hl ?_)
  have fin : wpAny (model prog w) A (subscripted slice false o i) (fun r s₃ => wpAny (model prog w) A (letTemporaryGo value o r >>= fun _ => pure r) Q E s₃) E s := by
    rw [hs]
    exact wpAny_operating (wpAny_mono h (fun r s₃ h₃ => wpAny_bind (wpAny_letTemporaryGo (wpAny_pure h₃))) fun _ _ x => x)
  first
    | exact wpAny_pure (wpAny_bind fin)
    | exact wpAny_bind (wpAny_pure (wpAny_bind fin))
    | exact wpAny_bind fin
theorem l_item_list {value slice : Expr} {k : Nat} {v : Value} {Q : Value → Shared → Prop} (hl : s.heap.IsList a vs.toArray) (hv : vs[k]? = some v) (h : Q v s)
    (hs : subscripted slice false (.ref a) (.int k u) = operate [.ref a, .int k u] (getItem (.ref a) (.int k u))) (hx : vs.length ≤ 100000) : wpAny (model prog w) A (subscriptTail value slice (.ref a) (.int (k : Int) u)) Q E s := by
  have hk : k < vs.length := (List.getElem?_eq_some_iff.mp hv).1
  exact tail_of hl.typeIs slot_list_getitem.lookup (wpAny_getItem_list hl (by omega) (by omega) (by simpa using hv) h) hs
theorem l_item_last {value slice : Expr} {v : Value} {Q : Value → Shared → Prop} (hl : s.heap.IsList a vs.toArray) (hv : vs.getLast? = some v) (h : Q v s)
    (hs : subscripted slice false (.ref a) (.int (-1) u) = operate [.ref a, .int (-1) u] (getItem (.ref a) (.int (-1) u))) (hx : vs.length ≤ 100000) : wpAny (model prog w) A (subscriptTail value slice (.ref a) (.int (-1) u)) Q E s := by
  rw [List.getLast?_eq_getElem?] at hv
  have hk : vs.length - 1 < vs.length := (List.getElem?_eq_some_iff.mp hv).1
  refine tail_of hl.typeIs slot_list_getitem.lookup (wpAny_getItem_list_neg hl (by omega) (by simp; omega) (by omega) ?_ h) hs
  have e : ((-1 : Int) + (vs.toArray.size : Int)).toNat = vs.length - 1 := by simp; omega
  rw [e]
  simpa using hv
theorem l_neg {k : Int} {Q : Value → Shared → Prop} (C : St s₀ L m led s) (h : ∀ t' s', St s₀ L m led s' → Q (.int (-k) t') s') : wpAny (model prog w) A (unaryOp .USub (.int k t)) Q E s := PySem.P.neg_int (h _ _ (C.keeps (Keeps.toks _)))
/-- a slice of a list -/
theorem l_cut_list {value : Expr} {lo hi st : Option Expr} {p : Pos} {vl vu vst : Value} {kl ku kst : Option Int} {ops : List Value} {Q : Value → Shared → Prop} (C : St s₀ L m led s) (hl : s.heap.IsList a vs.toArray)
    (pl : IsPart vl kl) (pu : IsPart vu ku) (ps : IsPart vst kst) (h0 : kst ≠ some 0) (e : slicePick vs.toArray kl ku kst = ws.toArray)
    (h : ∀ b s', St s₀ L m ((b, isL ws) :: led) s' → Q (.ref b) s')
    (hs : subscripted (.Slice lo hi st p) false (.ref a) (.ref s.heap.objs.size) = operate ops (getItem (.ref a) (.ref s.heap.objs.size))) (hx : vs.length ≤ 100000) :
    wpAny (model prog w) A (subscriptTail value (.Slice lo hi st p) (.ref a) (.ref s.heap.objs.size)) Q E { s with heap := s.heap.push { cls := .type "slice", data := .fields #[vl, vu, vst] } } := by
  have hl' := hl.push { cls := .type "slice", data := .fields #[vl, vu, vst] }
  refine tail_of (T := "list") (Heap.IsList.typeIs hl') slot_list_getitem.lookup (wpAny_getItem_list_slice hl' (Heap.IsSliceOf.new _ vl vu vst) pl pu ps h0 ?_ (by rw [big]; simp; omega)) hs
  rw [e]
  exact h _ _ ((C.keeps (Keeps.heap (push_kp _ _))).add (Keeps.heap (push_kp _ _)) (push_none _) ⟨_, Heap.get?_push_size _ rfl, _, rfl⟩)
theorem pick_upto (vs : List Value) (k : Int) (h : 0 ≤ k) : slicePick vs.toArray none (some k) none = (vs.take k.toNat).toArray := by
  by_cases hk : k.toNat ≤ vs.length
  · have := slicePick_upto vs.toArray k.toNat (by simpa using hk)
    rw [show ((k.toNat : Nat) : Int) = k by omega] at this
    rw [this]
  · have h1 : slicePick vs.toArray none (some k) none = slicePick vs.toArray none (some (vs.length : Int)) none := by
      unfold slicePick sliceBounds
      simp only [List.size_toArray, Option.getD_none]
      rw [if_pos (by decide : (1 : Int) > 0), if_neg (by omega : ¬ k < 0), if_pos (by decide : (1 : Int) > 0), if_neg (by omega : ¬ (vs.length : Int) < 0), if_pos (by decide : (1 : Int) > 0)]
      have : min k (vs.length : Int) = min (vs.length : Int) (vs.length : Int) := by omega
      rw [this]
    rw [h1, slicePick_upto vs.toArray vs.length (by simp)]
    simp [List.take_of_length_le (show vs.length ≤ k.toNat by omega)]
theorem pick_from (vs : List Value) (k : Int) (h : 0 ≤ k) : slicePick vs.toArray (some k) none none = (vs.drop k.toNat).toArray := by
  by_cases hk : k.toNat ≤ vs.length
  · have := slicePick_from vs.toArray k.toNat (by simpa using hk)
    rw [show ((k.toNat : Nat) : Int) = k by omega] at this
    rw [this]
  · have h1 : slicePick vs.toArray (some k) none none = slicePick vs.toArray (some (vs.length : Int)) none none := by
      unfold slicePick sliceBounds
      simp only [List.size_toArray, Option.getD_none]
      rw [if_pos (by decide : (1 : Int) > 0), if_neg (by omega : ¬ k < 0), if_pos (by decide : (1 : Int) > 0), if_neg (by omega : ¬ (vs.length : Int) < 0), if_pos (by decide : (1 : Int) > 0)]
      have : min k (vs.length : Int) = min (vs.length : Int) (vs.length : Int) := by omega
      rw [this]
    rw [h1, slicePick_from vs.toArray vs.length (by simp)]
    simp [List.drop_of_length_le (show vs.length ≤ k.toNat by omega)]
theorem pick_init (vs : List Value) : slicePick vs.toArray none (some (-1)) none = vs.dropLast.toArray := by
  have h1 : slicePick vs.toArray none (some (-1)) none = slicePick vs.toArray none (some ((vs.length - 1 : Nat) : Int)) none := by
    unfold slicePick sliceBounds
    simp only [List.size_toArray, Option.getD_none]
    rw [if_pos (by decide : (1 : Int) > 0), if_pos (by decide : (-1 : Int) < 0), if_pos (by decide : (1 : Int) > 0), if_neg (by omega : ¬ ((vs.length - 1 : Nat) : Int) < 0), if_pos (by decide : (1 : Int) > 0)]
    have : max 0 (min (-1 + (vs.length : Int)) (vs.length : Int)) = max 0 (min ((vs.length - 1 : Nat) : Int) (vs.length : Int)) := by omega
    rw [this]
  rw [h1, slicePick_upto vs.toArray (vs.length - 1) (by simp)]
  rw [List.dropLast_eq_take]
theorem from_range {α : Type} : ∀ (r : List α) (g : Nat → Option α), (∀ k, k < r.length → g k = r[k]?) → (List.range r.length).filterMap g = r
  | [], g, _ => rfl
  | x :: t, g, h => by
    rw [List.length_cons, List.range_succ_eq_map, List.filterMap_cons, h 0 (by simp)]
    show x :: (List.map Nat.succ (List.range t.length)).filterMap g = _
    rw [List.filterMap_map, from_range t (g ∘ Nat.succ) (fun k hk => by
      have := h (k + 1) (by simp; omega)
      simpa using this)]
theorem pick_rev (vs : List Value) : slicePick vs.toArray none none (some (-1)) = vs.reverse.toArray := by
  have hd : ((vs.length : Int) - 1 - -1 - -1 - 1) / - -1 = (vs.length : Int) := by
    rw [show (- -1 : Int) = 1 from rfl, Int.ediv_one]; omega
  cases vs with
  | nil => rfl
  | cons v r =>
    have key := from_range (v :: r).reverse (fun k => (v :: r)[(v :: r).length - 1 - k]?) (fun k hk => by
      rw [List.length_reverse] at hk
      rw [List.getElem?_reverse hk])
    rw [← key, List.length_reverse]
    generalize v :: r = l at *
    unfold slicePick
    show ((sliceRange ((l.length : Int) - 1) (-1) (-1)).filterMap fun i => l.toArray[i]?).toArray = _
    have hs : sliceRange ((l.length : Int) - 1) (-1) (-1) = (List.range l.length).map fun k => l.length - 1 - k := by
      unfold sliceRange
      rw [if_neg (by decide)]
      split
      · rw [hd]
        refine List.map_congr_left fun k hk => ?_
        have := List.mem_range.mp hk
        omega
      · rw [show l.length = 0 by omega]; rfl
    rw [hs, List.filterMap_map]
    have e : ((fun i => l.toArray[i]?) ∘ fun k => l.length - 1 - k) = fun k => l[l.length - 1 - k]? := by
      funext k
      simp
    rw [e]

section
variable {value : Expr} {lo hi : Option Expr} {p : Pos} {Q : Value → Shared → Prop}
theorem l_cut_init (C : St s₀ L m led s) (hl : s.heap.IsList a vs.toArray) (h : ∀ b s', St s₀ L m ((b, isL vs.dropLast) :: led) s' → Q (.ref b) s') (hx : vs.length ≤ 100000) :
    wpAny (model prog w) A (subscriptTail value (.Slice lo hi none p) (.ref a) (.ref s.heap.objs.size)) Q E { s with heap := s.heap.push { cls := .type "slice", data := .fields #[.none, .int (-1) u, .none] } } :=
  l_cut_list (kl := none) (ku := some (-1)) (kst := none) (ops := [_, _]) C hl .none (.int _ _) .none (by decide) (pick_init vs) h rfl hx
theorem l_cut_upto {k : Int} (C : St s₀ L m led s) (hl : s.heap.IsList a vs.toArray) (hk : 0 ≤ k) (h : ∀ b s', St s₀ L m ((b, isL (vs.take k.toNat)) :: led) s' → Q (.ref b) s') (hx : vs.length ≤ 100000) :
    wpAny (model prog w) A (subscriptTail value (.Slice lo hi none p) (.ref a) (.ref s.heap.objs.size)) Q E { s with heap := s.heap.push { cls := .type "slice", data := .fields #[.none, .int k u, .none] } } :=
  l_cut_list (kl := none) (ku := some k) (kst := none) (ops := [_, _]) C hl .none (.int _ _) .none (by decide) (pick_upto vs k hk) h rfl hx
theorem l_cut_from {k : Int} (C : St s₀ L m led s) (hl : s.heap.IsList a vs.toArray) (hk : 0 ≤ k) (h : ∀ b s', St s₀ L m ((b, isL (vs.drop k.toNat)) :: led) s' → Q (.ref b) s') (hx : vs.length ≤ 100000) :
    wpAny (model prog w) A (subscriptTail value (.Slice lo hi none p) (.ref a) (.ref s.heap.objs.size)) Q E { s with heap := s.heap.push { cls := .type "slice", data := .fields #[.int k u, .none, .none] } } :=
  l_cut_list (kl := some k) (ku := none) (kst := none) (ops := [_, _]) C hl (.int _ _) .none .none (by decide) (pick_from vs k hk) h rfl hx
theorem l_cut_rev {e : Expr} (C : St s₀ L m led s) (hl : s.heap.IsList a vs.toArray) (h : ∀ b s', St s₀ L m ((b, isL vs.reverse) :: led) s' → Q (.ref b) s') (hx : vs.length ≤ 100000) :
    wpAny (model prog w) A (subscriptTail value (.Slice lo hi (some e) p) (.ref a) (.ref s.heap.objs.size)) Q E { s with heap := s.heap.push { cls := .type "slice", data := .fields #[.none, .none, .int (-1) u] } } :=
  l_cut_list (kl := none) (ku := none) (kst := some (-1)) (ops := [_, _]) C hl .none .none (.int _ _) (by decide) (pick_rev vs) h rfl hx
end

/-! ## changing lists -/
theorem on_list {name : Str} {id : String} {pos : Pos} {args : List (Bool × Sem Value)} {Q : Value → Shared → Prop} (hl : s.heap.PlainList a vs.toArray) (slot : Slot "list" name id)
    (ty : typeOf (.builtin id) = pure (.type "method_descriptor")) (h : wpAny (model prog w) A (callWith pos (.builtin id) [.ref a] args []) Q E s) :
    MethodOnS prog w A E name (.ref a) pos args Q s := by
  obtain ⟨n, e⟩ := hl
  exact ⟨"list", id, F.plainAttrs_list, slot, ty, ⟨_, e, rfl⟩, (fun a' e' => by cases e'; exact ⟨_, e, rfl⟩), h⟩
theorem l_append {v : Value} {Q : Value → Shared → Prop} (C : St s₀ L m ((a, isL vs) :: led) s) (h : ∀ s', St s₀ L m ((a, isL (vs ++ [v])) :: led) s' → Q .none s') (hx : vs.length ≤ 100000) :
    wpAny (model prog w) A (call (.builtin "list.append") [.ref a, v]) Q E s := by
  obtain ⟨n, e⟩ := C.pl (.head _)
  refine wpAny_list_append_plain ⟨n, e⟩ (fun h' ⟨n', e'⟩ hs => ?_) (by rw [big]; simp; omega)
  refine h _ (C.change (t := s.toks) hs ⟨_, e', n', ?_⟩)
  simp
theorem l_pop {pos : Pos} {v : Value} {Q : Value → Shared → Prop} (C : St s₀ L m ((a, isL vs) :: led) s) (hv : vs.getLast? = some v) (h : ∀ s', St s₀ L m ((a, isL vs.dropLast) :: led) s' → Q v s') (hx : vs.length ≤ 100000) :
    wpAny (model prog w) A (callWith pos (.builtin "list.pop") [.ref a] [] []) Q E s := by
  obtain ⟨n, e⟩ := C.pl (.head _)
  rw [List.getLast?_eq_getElem?] at hv
  refine PySem.P.pop_list (y := v) e (by simpa using hv) ?_ (by rw [big]; simp; omega)
  have hk : vs.length - 1 < vs.length := (List.getElem?_eq_some_iff.mp hv).1
  have ea : (vs.toArray.eraseIdxIfInBounds (vs.toArray.size - 1)) = vs.dropLast.toArray := by
    simp only [List.size_toArray, Array.eraseIdxIfInBounds, dif_pos hk]
    rw [List.eraseIdx_toArray, List.eraseIdx_eq_take_drop_succ, List.dropLast_eq_take, List.drop_of_length_le (by omega), List.append_nil]
  refine h _ (C.change (t := s.toks) (Heap.SameBut.update ..) ⟨_, Heap.get?_update_self _ e rfl, ?_⟩)
  show isL vs.dropLast ⟨_, _, .seq (vs.toArray.eraseIdxIfInBounds (vs.toArray.size - 1)) _, _⟩
  rw [ea]
  exact ⟨_, rfl⟩
theorem l_add_list {va : List Value} {vb : List Value} {Q : Value → Shared → Prop} (C : St s₀ L m led s) (ha : s.heap.PlainList a va.toArray) (hb : s.heap.PlainList b vb.toArray)
    (h : ∀ c s', St s₀ L m ((c, isL (va ++ vb)) :: led) s' → Q (.ref c) s') (hx : va.length + vb.length ≤ 100000) : wpAny (model prog w) A (binaryOp .Add (.ref a) (.ref b)) Q E s := by
  obtain ⟨n, e⟩ := ha
  obtain ⟨n', e'⟩ := hb
  refine PySem.P.add_list e e' (h _ _ (C.add (Keeps.heap (push_kp _ _)) (push_none s) ⟨_, Heap.get?_push_size _ rfl, 0, ?_⟩)) (by rw [big]; simp; omega)
  simp

/-! ## statements that drop a value -/
theorem x_expr {e : Expr} {pos : Pos} {rest : List Stmt} {Q : Flow → Shared → Prop} (h : wpAny M A (eval e env) (fun v s' => (∀ a, v ≠ .ref a) ∧ wpAny M A (execs rest env) Q E s') E s)
    (hi : interactive env = false) (hs : swapsWith e none pos.line env = pure false) : wpAny M A (execs (.Expr e pos :: rest) env) Q E s := by
  refine x_cons (wpAny_Expr (wpAny_mono h (fun v s' h' => ?_) fun _ _ x => x) hi hs)
  cases v <;> first | exact h'.2 | exact absurd rfl (h'.1 _)
theorem x_cont {pos : Pos} {rest : List Stmt} {Q : Flow → Shared → Prop} (h : Q .cont s) : wpAny M A (execs (.Continue pos :: rest) env) Q E s := x_cons (wpAny_Continue h)
theorem x_brk {pos : Pos} {rest : List Stmt} {Q : Flow → Shared → Prop} (h : Q .brk s) : wpAny M A (execs (.Break pos :: rest) env) Q E s := x_cons (wpAny_Break h)
theorem not_inter (hE : EnvOk env sc L) : interactive env = false := by
  unfold interactive
  rw [hE.e, hE.k]; rfl

/-! ## split, join -/
theorem l_split {Q : Value → Shared → Prop} (C : St s₀ L m led s) (h : ∀ a vs s', St s₀ L m ((a, isL vs) :: led) s' → Ss vs (Txt.split x y) → Q (.ref a) s') (hy : (y.length == 0) = false) (hx : x.length ≤ 10000) :
    wpAny (model prog w) A (call (.builtin "str.split") [.str x t, .str y u]) Q E s := by
  have hsz : x.length ≤ sizeLine := by rw [big]; omega
  have add : ∀ (vs : List Value) (tk : Nat), Ss vs (Txt.split x y) → wants Q E (.ok (.ret (.ref s.heap.objs.size))) { s with heap := s.heap.push { cls := .type "list", data := .seq vs.toArray }, toks := tk } := fun vs tk hv =>
    h _ vs _ (C.add (Keeps.both _ (push_kp _ _)) (push_none s) ⟨_, Heap.get?_push_size _ rfl, _, rfl⟩) hv
  cases h1 : (decide (x.length < y.length) || decide (Builtin.Str.strKind x < Builtin.Str.strKind y))
  · cases hf : (Builtin.Str.occurrences x y 0 x.length (x.length + 1)).isEmpty
    · have e : Txt.split x y = Builtin.Str.partsBetween x (Builtin.Str.occurrences x y 0 x.length (x.length + 1)) y.length := (if_neg (ne_true_of_eq_false h1)).trans (if_neg (ne_true_of_eq_false hf))
      refine call_meets F.slot_str_split (typeIs_str _ _ _) F.entry_str_split (F.args_str_split_2 _ _) (meets_str_split_sep x y t u h1 hy hf hsz ?_) ?_
      · have q := StrLaws.occ_length_le x y 0 x.length (x.length + 1)
        rw [length_partsBetween, big]; omega
      · show wants Q E _ { s with toks := _, heap := s.heap.push { cls := .type "list", data := .seq (strsFrom s.toks (Builtin.Str.partsBetween x (Builtin.Str.occurrences x y 0 x.length (x.length + 1)) y.length)).toArray } }
        rw [strsFrom_eq]
        exact add _ _ ⟨numbered s.toks _, rfl, (numbered_texts _ _).trans e.symm⟩
    · have e : Txt.split x y = [x] := (if_neg (ne_true_of_eq_false h1)).trans (if_pos hf)
      exact call_meets F.slot_str_split (typeIs_str _ _ _) F.entry_str_split (F.args_str_split_2 _ _) (meets_str_split_not_found x y t u h1 hy hf) (add [.str x t] s.toks ⟨[(x, t)], rfl, e.symm⟩)
  · have e : Txt.split x y = [x] := if_pos h1
    exact call_meets F.slot_str_split (typeIs_str _ _ _) F.entry_str_split (F.args_str_split_2 _ _) (meets_str_split_cannot_occur x y t u h1) (add [.str x t] s.toks ⟨[(x, t)], rfl, e.symm⟩)
theorem l_join {xs : List Str} {Q : Value → Shared → Prop} (C : St s₀ L m led s) (hl : s.heap.IsList a vs.toArray) (hv : Ss vs xs) (h : ∀ t' s', St s₀ L m led s' → Q (.str (Txt.join x xs) t') s') (hx : JoinOk x xs = true) :
    wpAny (model prog w) A (call (.builtin "str.join") [.str x t, .ref a]) Q E s := by
  obtain ⟨l, rfl, hxs⟩ := hv
  exact SC.join hl hxs hx (fun t' k => h t' _ (C.keeps (Keeps.toks _)))
end
-- part B5
section
variable {prog : Program} {w : World} {M : Model} {A : Around} {E : Value → Shared → Prop} {s₀ s s' : Shared} {L : Addr} {m : Str → Option Value} {led : List (Addr × (Obj → Prop))} {env : Env} {sc : Scope} {mg mb : Str → Option Value}

/-! ## comprehensions -/
def isNs (m : Str → Option Value) : Obj → Prop := fun o => ∃ es ep, o.data = .dict es ep ∧ StrKeys es ∧ ∀ name, nsFind es name = m name
theorem ns_of {h : Heap} {a : Addr} (x : ∃ o, h.get? a = some o ∧ isNs m o) : h.Ns a m := by
  obtain ⟨o, e, es, ep, r⟩ := x
  exact ⟨o, es, ep, e, r⟩
theorem of_ns {h : Heap} {a : Addr} (x : h.Ns a m) : ∃ o, h.get? a = some o ∧ isNs m o := by
  obtain ⟨o, es, ep, e, r⟩ := x
  exact ⟨o, e, es, ep, r⟩
/-- an inner frame's objects, seen from the outer one -/
theorem St.lift {L' : Addr} {m' : Str → Option Value} {led' : List (Addr × (Obj → Prop))} (C : St s₀ L m led s) (D : St s L' m' led' s') : St s₀ L m ((L', isNs m') :: led' ++ led) s' := by
  have C' := C.keeps D.base
  have new : ∀ a, s.heap.get? a = none → a ≠ L ∧ s₀.heap.get? a = none ∧ ∀ q ∈ led, q.1 ≠ a := fun a ha => by
    refine ⟨fun e => ?_, ?_, fun q hq e => ?_⟩
    · obtain ⟨oL, _, _, hL, _⟩ := C.c.ns
      rw [e, hL] at ha; cases ha
    · cases e : s₀.heap.get? a with
      | none => rfl
      | some o => rw [C.c.keep a o e] at ha; cases ha
    · obtain ⟨o, ho, _⟩ := C.own q hq
      rw [e, ha] at ho; cases ho
  refine ⟨C'.c, fun p hp => ?_, fun p hp => ?_, ?_⟩
  · rcases List.mem_append.mp hp with hp | hp
    · rcases List.mem_cons.mp hp with rfl | hp
      · exact of_ns D.c.ns
      · exact D.own p hp
    · exact C'.own p hp
  · rcases List.mem_append.mp hp with hp | hp
    · rcases List.mem_cons.mp hp with rfl | hp
      · exact ⟨(new _ D.L_old).1, (new _ D.L_old).2.1⟩
      · exact ⟨(new _ (D.ne p hp).2).1, (new _ (D.ne p hp).2).2.1⟩
    · exact C.ne p hp
  · rw [List.map_append, List.nodup_append]
    refine ⟨?_, C.nd, ?_⟩
    · rw [List.map_cons]
      refine List.nodup_cons.mpr ⟨fun hm => ?_, D.nd⟩
      obtain ⟨p, hp, e⟩ := List.mem_map.mp hm
      exact (D.ne p hp).1 e
    · intro a ha b hb e
      obtain ⟨q, hq, rfl⟩ := List.mem_map.mp hb
      obtain ⟨p, hp, rfl⟩ := List.mem_map.mp ha
      rcases List.mem_cons.mp hp with rfl | hp
      · exact (new _ D.L_old).2.2 q hq e.symm
      · exact (new _ (D.ne p hp).2).2.2 q hq e.symm

def relabelS (scope sc : Scope) : Scope := { scope with names := scope.names.map fun (n, k) => if (k == .free && sc.kind == .function && sc.names.lookup n == some .cell) then (n, .cell) else (n, k) }
theorem relabel_of (hE : EnvOk env sc L) (scope : Scope) : relabel scope env = relabelS scope sc := by
  unfold relabel relabelS Env.kindOf
  rw [hE.e]
theorem comp_env {scope : Scope} {cl : List (Str × Addr)} {C : Addr} (hE : EnvOk env sc L) (hk : scope.kind = .function) : EnvOk (compEnvC scope cl C env) (relabelS scope sc) C :=
  ⟨hk, relabel_of hE scope, rfl, hE.g, hE.b⟩

abbrev testsOf (ifs : List Expr) (env : Env) : Sem Bool := forIn ifs true fun c r => if r = true then do let ok ← isTrue c env (eval c env); pure (ForInStep.yield ok) else pure (ForInStep.yield r)
theorem tests0 {Q : Bool → Shared → Prop} (h : Q true s) : wpAny M A (testsOf [] env) Q E s := wpAny_pure h
theorem tests1 {e : Expr} {Q : Bool → Shared → Prop} (h : wpAny M A (isTrue e env (eval e env)) Q E s) : wpAny M A (testsOf [e] env) Q E s := by
  unfold testsOf
  rw [List.forIn_cons]
  refine wpAny_bind ?_
  rw [if_pos rfl]
  refine wpAny_bind (wpAny_mono h (fun ok s₁ h₁ => wpAny_pure ?_) fun _ _ x => x)
  exact wpAny_pure h₁

/-- a turn of a list comprehension, from the inner frame -/
def CompTurn (prog : Program) (w : World) (A : Around) (sb : Shared) (C I D : Addr) (P : Obj → Prop) (J : List Value → List (Addr × (Obj → Prop)) → Prop) (ys : List Value) (elt : Expr) (cenv : Env) : Bool → Shared → Prop :=
  fun ok s₃ => if ok = true then wpAny (model prog w) A (eval elt cenv) (fun y s₄ => ∃ m'' led'', J (ys ++ [y]) led'' ∧ St sb C m'' ((I, P) :: (D, isL ys) :: led'') s₄) (fun _ _ => False) s₃
    else ∃ m'' led'', J ys led'' ∧ St sb C m'' ((I, P) :: (D, isL ys) :: led'') s₃

theorem comp_list {sb : Shared} {ax : Addr} {vs : List Value} {elt iter : Expr} {x : Str} {px : Pos} {ifs : List Expr} {scope : Scope} {cl : List (Str × Addr)} {pos : Pos} {d u : Nat} {R : Value → Addr → Result → Shared → Prop}
    (hE : EnvOk env sc L) (r : Rm A d u) (hl : sb.heap.IsList ax vs.toArray) (hcell : ∀ y ∈ scope.names, y.2 ≠ .cell) (hkind : scope.kind = .function) (hx : scope.names.lookup x = some .local)
    (J : Nat → List Value → List (Addr × (Obj → Prop)) → Prop) (h0 : J 0 [] []) (hJ : ∀ i ys led, J i ys led → ys.length ≤ 100000)
    (turn : ∀ C I D P i v ys led m s, vs[i]? = some v → J i ys led → EnvOk (compEnvC scope cl C env) (relabelS scope sc) C → St sb C (upd m x v) ((I, P) :: (D, isL ys) :: led) s →
      wpAny (model prog w) A (testsOf ifs (compEnvC scope cl C env)) (CompTurn prog w A sb C I D P (J (i + 1)) ys elt (compEnvC scope cl C env)) (fun _ _ => False) s)
    (after : ∀ C D ys led m s, J vs.length ys led → St sb C m ((D, isL ys) :: led) s → R (.ref D) C (.ok .next) s) :
    wpAny (model prog w) A (pyIter (.ref ax)) (fun it s₂ => wpAny (model prog w) A (newList []) (fun acc s₃ => wpAny (model prog w) A (newFunctionEnv scope env.globals cl [] env.qual none .none (some env)) (fun cenv s₄ =>
      codeAny (model prog w) A (.compStart (.ListComp elt [⟨.Name x px, iter, ifs, 0⟩] scope pos) 0 it acc { cenv with scope := relabel scope env }) (R acc cenv.locals) s₄) E s₃) E s₂) E sb := by
  refine wpAny_pyIter_list hl (wpAny_newObj_type (wpAny_newFunctionEnv hcell (by intro y hy; simp at hy) (fun h₁ hns₁ hsb₁ => ?_) hkind) (by show 0 ≤ sizeLine; omega))
  dsimp only at hns₁ hsb₁ ⊢
  generalize hI : sb.heap.objs.size = I at *
  generalize hHI : sb.heap.push { cls := .type "list_iterator", data := .fields #[.ref ax, .int 0 0] } = HI at *
  generalize hD : HI.objs.size = D at *
  generalize hHD : HI.push { cls := .type "list", dict := none, data := .seq ([] : List Value).toArray } = HD at *
  generalize hC : HD.objs.size = C at *
  have eD : D = I + 1 := by rw [← hD, ← hHI, Heap.size_push, hI]
  have eC : C = I + 2 := by rw [← hC, ← hHD, Heap.size_push, hD, eD]
  have gI : HI.get? I = some { cls := .type "list_iterator", data := .fields #[.ref ax, .int 0 0] } := by rw [← hHI, ← hI]; exact Heap.get?_push_size _ rfl
  have gD : HD.get? D = some { cls := .type "list", data := .seq ([] : List Value).toArray } := by rw [← hHD, ← hD]; exact Heap.get?_push_size _ rfl
  have kI : Kp sb.heap HI := by rw [← hHI]; exact push_kp _ _
  have kD : Kp HI HD := by rw [← hHD]; exact push_kp _ _
  have kC : Kp HD h₁ := fun b o e => hsb₁.extBut b o (by rw [← hC]; exact Nat.ne_of_lt (Heap.lt_size e)) (Heap.get?_push_of_some _ e)
  have none_of : ∀ a, I ≤ a → sb.heap.get? a = none := fun a ha => by
    cases e : sb.heap.get? a with
    | none => rfl
    | some o => have q := Heap.lt_size e; rw [hI] at q; exact absurd q (Nat.not_lt.mpr ha)
  have S0 : St sb C nul [(I, fun o => o.cls = .type "list_iterator" ∧ o.data = .fields #[.ref ax, .int (0 : Nat) 0]), (D, isL [])] { sb with heap := h₁, toks := sb.toks + ([] : List (Str × Value)).length } := by
    refine ⟨⟨⟨h₁, _, rfl⟩, hns₁, fun b o e => kC _ _ (kD _ _ (kI _ _ e)), by rw [hI]; omega⟩, fun p hp => ?_, fun p hp => ?_, ?_⟩
    · simp at hp
      rcases hp with rfl | rfl
      · exact ⟨_, kC _ _ (kD _ _ gI), rfl, rfl⟩
      · exact ⟨_, kC _ _ gD, _, rfl⟩
    · simp at hp
      rcases hp with rfl | rfl
      · exact ⟨by show I ≠ C; omega, none_of _ (Nat.le_refl _)⟩
      · exact ⟨by show D ≠ C; omega, none_of _ (by show I ≤ D; omega)⟩
    · show List.Nodup [I, D]
      exact List.nodup_cons.mpr ⟨fun q => by have z : I = D := List.mem_singleton.mp q; rw [eD] at z; exact absurd z (Nat.ne_of_lt (Nat.lt_succ_self _)), List.nodup_cons.mpr ⟨List.not_mem_nil, List.nodup_nil⟩⟩
  have hEc : EnvOk (compEnvC scope cl C env) (relabelS scope sc) C := comp_env hE hkind
  have hxl : (relabelS scope sc).names.lookup x = some .local := by
    have := lookup_relabel_local (env := env) hx
    rw [← relabel_of hE scope]
    exact this
  have it := iter_list (prog := prog) (w := w) (A := A) r.h I ax vs
  have loop : ∀ s₃ : Shared, s₃ = { sb with heap := h₁, toks := sb.toks + ([] : List (Str × Value)).length } →
      codeAny (model prog w) A (.compLoop (.ListComp elt [⟨.Name x px, iter, ifs, 0⟩] scope pos) 0 (.ref I) (.ref D) (compEnvC scope cl C env)) (R (.ref D) C) s₃ := by
    rintro s₃ rfl
    refine codeAny_compLoop_tests (fun k s' => ∃ i ys m led, k = vs.length + 1 - i ∧ i ≤ vs.length ∧ J i ys led ∧
      St sb C m ((I, fun o => o.cls = .type "list_iterator" ∧ o.data = .fields #[.ref ax, .int (i : Nat) 0]) :: (D, isL ys) :: led) s') ?_ (vs.length + 1) ⟨0, [], nul, [], rfl, Nat.zero_le _, h0, S0⟩
    rintro k s' ⟨i, ys, m, led, rfl, hi, hj, c⟩
    by_cases hlt : i < vs.length
    · refine it.next i s' _ _ hlt (c.get (.head _)) (hl.at fun o e => c.c.keep _ o e) fun v h' t hv ho hs => ?_
      refine a_name (st (c.change (t := t) hs ho) hEc hxl fun s₂ c₂ => ?_)
      refine wpAny_mono (turn C I D _ i v ys led m s₂ hv hj hEc c₂) (fun ok s₃ h₃ => ?_) (fun _ _ z => z.elim)
      cases ok with
      | false =>
        rw [if_neg Bool.false_ne_true]
        unfold CompTurn at h₃
        rw [if_neg Bool.false_ne_true] at h₃
        obtain ⟨m'', led'', j, c₃⟩ := h₃
        exact ⟨vs.length + 1 - (i + 1), by omega, i + 1, ys, m'', led'', rfl, hlt, j, c₃⟩
      | true =>
        rw [if_pos rfl]
        unfold CompTurn at h₃
        rw [if_pos rfl] at h₃
        refine wpAny_mono h₃ (fun y s₄ h₄ => ?_) (fun _ _ z => z.elim)
        obtain ⟨m'', led'', j, c₄⟩ := h₄
        refine l_append c₄.swap (fun s₅ c₅ => ?_) (hJ i ys led hj)
        exact ⟨vs.length + 1 - (i + 1), by omega, i + 1, ys ++ [y], m'', led'', rfl, hlt, j, c₅.swap⟩
    · have e : i = vs.length := by omega
      subst e
      refine it.done s' _ _ (c.get (.head _)) (hl.at fun o e => c.c.keep _ o e) fun h' he => ?_
      exact after C D ys led m _ hj (c.lose (t := s'.toks) he)
  exact codeAny_compStart_list (loop _ rfl) (wpAny_pyIter_listiter ⟨_, (S0.get (.head _)).choose_spec.1, (S0.get (.head _)).choose_spec.2.1, (S0.get (.head _)).choose_spec.2.2⟩ (loop _ rfl))

/-- a list comprehension as an expression -/
theorem e_comp {elt iter : Expr} {x : Str} {px : Pos} {ifs : List Expr} {scope : Scope} {cl : List (Str × Addr)} {pos : Pos} {Q : Value → Shared → Prop}
    (h : wpAny (model prog w) A (eval iter env) (fun xv s₁ => wpAny (model prog w) A (pyIter xv) (fun it s₂ => wpAny (model prog w) A (newList []) (fun acc s₃ => wpAny (model prog w) A (newFunctionEnv scope env.globals cl [] env.qual none .none (some env)) (fun cenv s₄ =>
      codeAny (model prog w) A (.compStart (.ListComp elt [⟨.Name x px, iter, ifs, 0⟩] scope pos) 0 it acc { cenv with scope := relabel scope env }) (compPost (model prog w) A E none Q acc cenv.locals) s₄) E s₃) E s₂) E s₁) E s)
    (hclos : closureFor scope env = pure cl) (hkind : scope.kind = .function) (hnames : ∀ y ∈ scope.names, y.2 = .local → scope.names.lookup y.1 = some .local)
    (hs : ∀ x, foldedSetIterable iter env x = pure x := by intro _; rfl) : wpAny (model prog w) A (eval (.ListComp elt [⟨.Name x px, iter, ifs, 0⟩] scope pos) env) Q E s := by
  rw [eval_ListComp]
  exact wpAny_comprehension_free (use := none) rfl hs hclos hkind hnames h
theorem comp_post {Q : Value → Shared → Prop} {D C : Addr} {ys : List Value} {led' : List (Addr × (Obj → Prop))} {m' : Str → Option Value} (C₀ : St s₀ L m led s) (c : St s C m' ((D, isL ys) :: led') s')
    (h : ∀ s'', St s₀ L m ((D, isL ys) :: led' ++ led) s'' → Q (.ref D) s'') : compPost (model prog w) A E none Q (.ref D) C (.ok .next) s' :=
  ⟨m', c.c.ns, fun h' hs => h _ ((C₀.lift c).lose (t := s'.toks) hs.extBut)⟩
/-- a list comprehension assigned to a name -/
theorem x_comp {elt iter : Expr} {x y : Str} {px py : Pos} {ifs : List Expr} {scope : Scope} {cl : List (Str × Addr)} {pos spos : Pos} {rest : List Stmt} {Q : Flow → Shared → Prop}
    (h : wpAny (model prog w) A (eval iter env) (fun xv s₁ => wpAny (model prog w) A (pyIter xv) (fun it s₂ => wpAny (model prog w) A (newList []) (fun acc s₃ => wpAny (model prog w) A (newFunctionEnv scope env.globals cl [] env.qual none .none (some env)) (fun cenv s₄ =>
      codeAny (model prog w) A (.compStart (.ListComp elt [⟨.Name x px, iter, ifs, 0⟩] scope pos) 0 it acc { cenv with scope := relabel scope env })
        (compPost (model prog w) A E (some (assign (.Name y py) env)) (fun _ s' => wpAny (model prog w) A (execs rest env) Q E s') acc cenv.locals) s₄) E s₃) E s₂) E s₁) E s)
    (hsw : swapsWith (.ListComp elt [⟨.Name x px, iter, ifs, 0⟩] scope pos) (some (.Name y py)) spos.line env = pure true)
    (hclos : closureFor scope env = pure cl) (hkind : scope.kind = .function) (hnames : ∀ y ∈ scope.names, y.2 = .local → scope.names.lookup y.1 = some .local)
    (hs : ∀ x, foldedSetIterable iter env x = pure x := by intro _; rfl) : wpAny (model prog w) A (execs (.Assign [.Name y py] (.ListComp elt [⟨.Name x px, iter, ifs, 0⟩] scope pos) spos :: rest) env) Q E s := by
  refine x_cons ?_
  rw [exec_Assign_Name_used _ _ _ _ hsw]
  refine wpAny_bind (wpAny_standAt (wpAny_bind ?_))
  show wpAny _ A (do let _ ← comprehension (.ListComp elt [⟨.Name x px, iter, ifs, 0⟩] scope pos) scope env _ (newList []) false (eval iter env) (some (assign (.Name y py) env))) _ _ s
  exact wpAny_bind (wpAny_mono (wpAny_comprehension_free (use := some (assign (.Name y py) env)) (Q := fun _ s' => wpAny (model prog w) A (execs rest env) Q E s') rfl hs hclos hkind hnames h) (fun _ s' hq => wpAny_pure (wpAny_pure hq)) fun _ _ e => e)
theorem comp_use {y : Str} {py : Pos} {Q : Value → Shared → Prop} {D C : Addr} {ys : List Value} {led' : List (Addr × (Obj → Prop))} {m' : Str → Option Value} (hE : EnvOk env sc L) (hy : sc.names.lookup y = some .local) (C₀ : St s₀ L m led s) (c : St s C m' ((D, isL ys) :: led') s')
    (h : ∀ s'', St s₀ L (upd m y (.ref D)) ((D, isL ys) :: led' ++ led) s'' → Q .none s'') : compPost (model prog w) A E (some (assign (.Name y py) env)) Q (.ref D) C (.ok .next) s' := by
  show wpAny _ A (assign (.Name y py) env (.ref D)) _ _ _
  refine a_name (st (C₀.lift c) hE hy fun s'' c'' => ?_)
  exact ⟨m', ns_of (c''.get (.head _)), fun h' hs => h _ (c''.lose (t := s''.toks) hs.extBut)⟩
end
-- part B6
section
variable {prog : Program} {w : World} {M : Model} {A : Around} {E : Value → Shared → Prop} {s₀ s s' : Shared} {L : Addr} {m : Str → Option Value} {led : List (Addr × (Obj → Prop))} {env : Env} {sc : Scope} {mg mb : Str → Option Value}
variable {x y : Str} {t u : Tok} {a b : Int} {vs ws : List Value}

/-! ## ints -/
theorem l_gt_int {Q : Value → Shared → Prop} (h : Q (.bool (decide (b < a))) s) : wpAny (model prog w) A (compareOp .Gt (.int a t) (.int b u)) Q E s := PyProof.Rows.gt_int h
theorem l_lt_int {Q : Value → Shared → Prop} (h : Q (.bool (decide (a < b))) s) : wpAny (model prog w) A (compareOp .Lt (.int a t) (.int b u)) Q E s := PyProof.Rows.lt_int h
theorem l_ge_int {Q : Value → Shared → Prop} (h : Q (.bool (decide (a ≥ b))) s) : wpAny (model prog w) A (compareOp .GtE (.int a t) (.int b u)) Q E s := P.ge_int h
theorem l_le_int {Q : Value → Shared → Prop} (h : Q (.bool (decide (a ≤ b))) s) : wpAny (model prog w) A (compareOp .LtE (.int a t) (.int b u)) Q E s := P.le_int h
theorem l_eq_int {Q : Value → Shared → Prop} (h : Q (.bool (decide (a = b))) s) : wpAny (model prog w) A (compareOp .Eq (.int a t) (.int b u)) Q E s := PyProof.Rows.eq_int (by rw [show (a == b) = decide (a = b) from rfl]; exact h)
theorem l_mod_int {Q : Value → Shared → Prop} (C : St s₀ L m led s) (hb : b ≠ 0) (h : ∀ t' s', St s₀ L m led s' → Q (.int (a.fmod b) t') s') : wpAny (model prog w) A (binaryOp .Mod (.int a t) (.int b u)) Q E s := mod_int' hb (h _ _ (C.keeps (Keeps.toks _)))
theorem l_fdiv_int {Q : Value → Shared → Prop} (C : St s₀ L m led s) (hb : b ≠ 0) (hs : b.natAbs < 1073741824) (h : ∀ t' s', St s₀ L m led s' → Q (.int (a.fdiv b) t') s') : wpAny (model prog w) A (binaryOp .FloorDiv (.int a t) (.int b u)) Q E s := floordiv_int hb (h _ _ (C.keeps (Keeps.toks _))) (.inl (PyProof.noPylong_small hs))
theorem l_ne_bool {p q : Bool} {Q : Value → Shared → Prop} (h : Q (.bool (p != q)) s) : wpAny (model prog w) A (compareOp .NotEq (.bool p) (.bool q)) Q E s := by
  first | exact P.ne_bool h | exact PyProof.Rows.ne_bool h

/-! ## tuples' items -/
theorem l_item_tuple {value slice : Expr} {ad : Addr} {k : Nat} {v : Value} {Q : Value → Shared → Prop} (ht : IsTup s.heap ad vs.toArray) (hv : vs[k]? = some v) (h : Q v s)
    (hs : subscripted slice false (.ref ad) (.int k u) = operate [.ref ad, .int k u] (getItem (.ref ad) (.int k u))) (hx : vs.length ≤ 100000) : wpAny (model prog w) A (subscriptTail value slice (.ref ad) (.int (k : Int) u)) Q E s := by
  have hk : k < vs.length := (List.getElem?_eq_some_iff.mp hv).1
  refine tail_of ht.typeIs slot_tuple_getitem.lookup (getItem_tuple (j := k) ht (by omega) (by omega) ?_ (by simpa using hv) h) hs
  rw [List.size_toArray, StrLaws.seqIndex_nonneg (by omega) (by omega)]
  simp

/-! ## lists of strs compared -/
def Sok (xs : List Str) : Prop := ∀ x ∈ xs, PyData.strOk x = true
theorem sok_canLay : ∀ {xs : List Str}, Sok xs → PyData.canLayAll0 (xs.map PyData.str) = true
  | [], _ => rfl
  | x :: r, h => by simp [PyData.canLayAll0, PyData.canLay0, h x (.head _), sok_canLay (xs := r) fun y hy => h y (.tail _ hy)]
theorem str_depthAll : ∀ xs : List Str, PyData.depthAll (xs.map PyData.str) = 0
  | [] => rfl
  | _ :: r => by simp [PyData.depthAll, PyData.depth, str_depthAll r]
theorem sok_shaped {xs : List Str} (h : Sok xs) : SeqAt.shaped (.list (xs.map PyData.str)) = true := by
  simp [SeqAt.shaped, PyData.canLay0, PyData.depth, sok_canLay h, str_depthAll]
theorem str_same (xs ys : List Str) : PySem.Spec.same (.list (xs.map PyData.str)) (.list (ys.map PyData.str)) = decide (xs = ys) := by
  simp only [PySem.Spec.same]
  refine sameAll_map (enc := PyData.str) (fun a b => ?_) xs ys
  simp [PySem.Spec.same]
  rfl
theorem Ss.carried {vs : List Value} {xs : List Str} (h : Ss vs xs) : CarriedAll vs (xs.map PyData.str) := by
  obtain ⟨l, rfl, rfl⟩ := h
  induction l with
  | nil => exact .nil
  | cons p l ih => exact .cons (.str p.1 p.2) ih
theorem l_eq_list {p q : Addr} {xs ys : List Str} {d ud : Nat} {Q : Value → Shared → Prop} (r : Rm A d ud) (hu : 64 ≤ ud) (hp : s.heap.IsList p vs.toArray) (hq : s.heap.IsList q ws.toArray) (hx : Ss vs xs) (hy : Ss ws ys) (ox : Sok xs) (oy : Sok ys)
    (h : Q (.bool (decide (xs = ys))) s) : wpAny (model prog w) A (compareOp .Eq (.ref p) (.ref q)) Q E s :=
  eq_dataH_same (reads_newData hp hx.carried) (reads_newData hq hy.carried) (sok_shaped ox) (sok_shaped oy) (by have := r.u; show _ < 9900; omega)
    (SeqAt.noMix_of_shape (.list .str) rfl _ _ (list_map_has fun _ => rfl) (list_map_has fun _ => rfl)) (by rw [str_same]; exact h)
theorem l_ne_list {p q : Addr} {xs ys : List Str} {d ud : Nat} {Q : Value → Shared → Prop} (r : Rm A d ud) (hu : 64 ≤ ud) (hp : s.heap.IsList p vs.toArray) (hq : s.heap.IsList q ws.toArray) (hx : Ss vs xs) (hy : Ss ws ys) (ox : Sok xs) (oy : Sok ys)
    (h : Q (.bool (decide (xs ≠ ys))) s) : wpAny (model prog w) A (compareOp .NotEq (.ref p) (.ref q)) Q E s :=
  ne_dataH_same (reads_newData hp hx.carried) (reads_newData hq hy.carried) (sok_shaped ox) (sok_shaped oy) (by have := r.u; show _ < 9900; omega)
    (SeqAt.noMix_of_shape (.list .str) rfl _ _ (list_map_has fun _ => rfl) (list_map_has fun _ => rfl)) (by rw [str_same, show (!decide (xs = ys)) = decide (xs ≠ ys) by simp]; exact h)

/-! ## strs -/
theorem l_notin {Q : Value → Shared → Prop} (h : Q (.bool (!Txt.contains x y)) s) : wpAny (model prog w) A (compareOp .NotIn (.str y u) (.str x t)) Q E s := P.notIn_str h
open PySem.Builtin PySem.Builtin.Str in
theorem gives_find4 (x y : Str) (i j : Int) (t u v v' : Tok) : Gives («str.find» ⟨[.str x t, .str y u, .int i v, .int j v'], []⟩)
    (.int (match occurrences x y (fromIndex x.length i) (min (fromIndex x.length j) x.length) 1 with | k :: _ => (k : Int) | [] => -1)) := by
  show Gives (match occurrences x y (fromIndex x.length i) (min (fromIndex x.length j) x.length) 1 with | k :: _ => retInt k | [] => (do rule "str.find.not-found"; retInt (-1))) _
  cases occurrences x y (fromIndex x.length i) (min (fromIndex x.length j) x.length) 1 with
  | nil => exact .rule (.of_eq rfl)
  | cons k _ => exact .of_eq rfl
theorem sub_empty (x : Str) (i : Nat) : Builtin.Str.subAt x (Str.ofString "") i = true := by
  have h0 : (Str.ofString "").length = 0 := by decide +kernel
  rw [StrLaws.subAt_eq, h0]
  simp
  decide +kernel
theorem occ_empty (x : Str) (i j : Nat) (h : i ≤ j) : ∃ r, Builtin.Str.occurrences x (Str.ofString "") i j 1 = i :: r := by
  have h0 : (Str.ofString "").length = 0 := by decide +kernel
  rw [StrLaws.occ_eq]
  have hr : List.range' i (j + 1 - i) = i :: List.range' (i + 1) (j - i) := by
    rw [show j + 1 - i = (j - i) + 1 by omega]; rfl
  rcases StrLaws.occ_first x (Str.ofString "") j 1 (Nat.le_refl _) (List.range' i (j + 1 - i)) i (fun k hk => by have := List.mem_range'_1.mp hk; omega) with ⟨_, hn⟩ | ⟨pre, a, post, e, h1, _, hn⟩
  · exact absurd ⟨by rw [h0]; omega, sub_empty x i⟩ (hn i (by rw [hr]; exact .head _))
  · cases pre with
    | cons b pre =>
      rw [hr] at e
      have eb : i = b := (List.cons.inj e).1
      subst eb
      exact absurd ⟨by rw [h0]; omega, sub_empty x i⟩ (hn i (.head _))
    | nil =>
      rw [hr] at e
      have ea : i = a := (List.cons.inj e).1
      subst ea
      generalize (forIn (List.range' i (j + 1 - i)) ((#[] : Array Nat), i) (StrLaws.occBody x (Str.ofString "") j 1)).run.fst = arr at h1
      obtain ⟨l⟩ := arr
      cases l with
      | nil => simp at h1
      | cons b t => simp at h1; exact ⟨t, by rw [h1]⟩
theorem l_find_empty {i j : Int} {v v' : Tok} {Q : Value → Shared → Prop} (C : St s₀ L m led s) (h0 : 0 ≤ i) (h1 : i ≤ j) (h2 : j ≤ x.length) (h : ∀ t' s', St s₀ L m led s' → Q (.int i t') s') :
    wpAny (model prog w) A (call (.builtin "str.find") [.str x t, .str (Str.ofString "") u, .int i v, .int j v']) Q E s := by
  have g := gives_find4 x (Str.ofString "") i j t u v v'
  have e1 : fromIndex x.length i = i.toNat := by unfold fromIndex; rw [if_neg (by omega)]; omega
  have e2 : min (fromIndex x.length j) x.length = j.toNat := by unfold fromIndex; rw [if_neg (by omega)]; omega
  obtain ⟨rr, er⟩ := occ_empty x i.toNat j.toNat (by omega)
  rw [e1, e2, er] at g
  refine call_gives F.slot_str_find (typeIs_str _ _ _) F.entry_str_find (F.args_str_find_4 _ _ _ _) g ?_
  have e3 : ((i.toNat : Nat) : Int) = i := by omega
  show Q (.int ((i.toNat : Nat) : Int) _) _
  rw [e3]
  exact h _ _ (C.keeps (Keeps.toks _))

/-! ## statements -/
theorem x_assert {test : Expr} {msg : Option Expr} {pos : Pos} {rest : List Stmt} {Q : Flow → Shared → Prop} (h : wpAny M A (isTrue test env (eval test env)) (fun b s₁ => b = true ∧ wpAny M A (execs rest env) Q E s₁) E s) :
    wpAny M A (execs (.Assert test msg pos :: rest) env) Q E s := x_cons (wpAny_Assert_holds h)
theorem x_del {o i : Expr} {p pos : Pos} {rest : List Stmt} {Q : Flow → Shared → Prop}
    (h : wpAny M A (eval o env) (fun ov s₁ => wpAny M A (eval i env) (fun iv s₂ => wpAny M A (delItem ov iv) (fun _ s₃ => wpAny M A (execs rest env) Q E s₃) E s₂) E s₁) E s) :
    wpAny M A (execs (.Delete [.Subscript o i p] pos :: rest) env) Q E s :=
  x_cons (wpAny_Delete (wpAny_deleteEach_cons (wpAny_delete_Subscript (wpAny_mono h (fun _ s₁ h₁ => wpAny_mono h₁ (fun _ s₂ h₂ => wpAny_mono h₂ (fun _ s₃ h₃ => wpAny_deleteEach_nil h₃) fun _ _ e => e) fun _ _ e => e) fun _ _ e => e))))
theorem l_del_first {p : Addr} {v : Value} {Q : Unit → Shared → Prop} (C : St s₀ L m ((p, isL (v :: vs)) :: led) s) (h : ∀ s', St s₀ L m ((p, isL vs) :: led) s' → Q () s') (hx : vs.length ≤ 100000) :
    wpAny (model prog w) A (delItem (.ref p) (.int 0 u)) Q E s := by
  obtain ⟨n, e⟩ := C.pl (.head _)
  refine P.delItem_list (k := 0) (n := n) e (by decide +kernel) ?_ ?_ (by rw [big]; simp; omega)
  · unfold seqIndex?; simp
  · have ea : ((v :: vs).toArray.eraseIdxIfInBounds 0) = vs.toArray := by
      simp only [Array.eraseIdxIfInBounds, List.size_toArray, List.length_cons, Nat.zero_lt_succ, dif_pos]
      rw [List.eraseIdx_toArray]; rfl
    refine h _ (C.change (t := s.toks) (Heap.SameBut.update ..) ⟨_, Heap.get?_update_self _ e rfl, ?_⟩)
    show isL vs ⟨_, _, .seq ((v :: vs).toArray.eraseIdxIfInBounds 0) _, _⟩
    rw [ea]
    exact ⟨_, rfl⟩
theorem l_del_last {p : Addr} {Q : Unit → Shared → Prop} (C : St s₀ L m ((p, isL vs) :: led) s) (h : ∀ s', St s₀ L m ((p, isL vs.dropLast) :: led) s' → Q () s') (hn : vs ≠ []) (hx : vs.length ≤ 100000) :
    wpAny (model prog w) A (delItem (.ref p) (.int (-1) u)) Q E s := by
  obtain ⟨n, e⟩ := C.pl (.head _)
  have hl : 0 < vs.length := List.length_pos_iff.mpr hn
  refine P.delItem_list (k := vs.length - 1) (n := n) e (by decide +kernel) ?_ ?_ (by rw [big]; simp; omega)
  · rw [List.size_toArray, StrLaws.seqIndex_neg (by omega) (by omega)]
    congr 1
    omega
  · have hk : vs.length - 1 < vs.length := by omega
    have ea : (vs.toArray.eraseIdxIfInBounds (vs.length - 1)) = vs.dropLast.toArray := by
      simp only [List.size_toArray, Array.eraseIdxIfInBounds, dif_pos hk]
      rw [List.eraseIdx_toArray, List.eraseIdx_eq_take_drop_succ, List.dropLast_eq_take, List.drop_of_length_le (by omega), List.append_nil]
    refine h _ (C.change (t := s.toks) (Heap.SameBut.update ..) ⟨_, Heap.get?_update_self _ e rfl, ?_⟩)
    show isL vs.dropLast ⟨_, _, .seq (vs.toArray.eraseIdxIfInBounds (vs.length - 1)) _, _⟩
    rw [ea]
    exact ⟨_, rfl⟩
end
-- part B7
section
variable {prog : Program} {w : World} {M : Model} {A : Around} {E : Value → Shared → Prop} {s₀ s s' : Shared} {L : Addr} {m : Str → Option Value} {led : List (Addr × (Obj → Prop))} {env : Env} {sc : Scope} {mg mb : Str → Option Value}
variable {x y : Str} {t u : Tok} {vs ws : List Value}

/-! ## two objects changed at once -/
theorem St.change2 {a b : Addr} {P P' R R' : Obj → Prop} {h' : Heap} {t : Nat} (C : St s₀ L m ((a, P) :: (b, R) :: led) s) (hk : ∀ x o, x ≠ a → x ≠ b → s.heap.get? x = some o → h'.get? x = some o)
    (ha : ∃ o, h'.get? a = some o ∧ P' o) (hb : ∃ o, h'.get? b = some o ∧ R' o) : St s₀ L m ((a, P') :: (b, R') :: led) { s with heap := h', toks := t } := by
  have na := C.ne (a, P) (.head _)
  have nb := C.ne (b, R) (.tail _ (.head _))
  have d1 := (List.nodup_cons.mp C.nd).1
  have d2 := (List.nodup_cons.mp (List.nodup_cons.mp C.nd).2).1
  refine ⟨⟨?_, ?_, fun x o e => ?_, C.c.fresh⟩, fun p hp => ?_, fun p hp => ?_, C.nd⟩
  · obtain ⟨h₁, t₁, e⟩ := C.c.same
    exact ⟨h', t, by rw [e]⟩
  · exact C.c.ns.at' fun o e => hk _ o (Ne.symm na.1) (Ne.symm nb.1) e
  · refine hk x o (fun q => ?_) (fun q => ?_) (C.c.keep x o e)
    · have hz : s₀.heap.get? a = none := na.2
      rw [q, hz] at e; cases e
    · have hz : s₀.heap.get? b = none := nb.2
      rw [q, hz] at e; cases e
  · rcases List.mem_cons.mp hp with rfl | hp
    · exact ha
    rcases List.mem_cons.mp hp with rfl | hp
    · exact hb
    obtain ⟨o, e, q⟩ := C.own p (.tail _ (.tail _ hp))
    refine ⟨o, hk _ _ (fun z => ?_) (fun z => ?_) e, q⟩
    · exact d1 (List.mem_cons_of_mem _ (List.mem_map.mpr ⟨p, hp, z⟩))
    · exact d2 (List.mem_map.mpr ⟨p, hp, z⟩)
  · rcases List.mem_cons.mp hp with rfl | hp
    · exact na
    rcases List.mem_cons.mp hp with rfl | hp
    · exact nb
    · exact C.ne p (.tail _ (.tail _ hp))

/-! ## cells -/
def isC (v : Option Value) : Obj → Prop := fun o => o.data = .cell v
theorem St.cell {c : Addr} {v : Option Value} (C : St s₀ L m led s) (hm : (c, isC v) ∈ led) : s.heap.IsCell c v := C.get hm
theorem St.cell0 {c : Addr} {v : Option Value} (C : St s₀ L m led s) (h : s₀.heap.IsCell c v) : s.heap.IsCell c v := h.keeps C.c.keep
theorem ldc {c : Addr} {v : Value} {Q : Value → Shared → Prop} (hE : EnvOk env sc L) (hl : sc.names.lookup x = some .cell) (hc : env.cells.lookup x = some c) (hv : s.heap.IsCell c (some v)) (h : Q v s) :
    wpAny M A (loadName env x) Q E s := by
  have hl' : env.kindOf x = some .cell := by unfold Env.kindOf; rw [hE.e]; exact hl
  exact wpAny_loadName_cell (by rw [hE.e]; exact hE.k) hl' hc hv h
theorem nmc {c : Addr} {pos : Pos} {v : Value} {Q : Value → Shared → Prop} (hE : EnvOk env sc L) (hl : sc.names.lookup x = some .cell) (hc : env.cells.lookup x = some c) (hv : s.heap.IsCell c (some v)) (h : Q v s)
    (hd : (x == ("__debug__" : Str)) = false) : wpAny M A (eval (.Name x pos) env) Q E s := wpAny_Name (ldc hE hl hc hv h) hd
theorem stc {c : Addr} {v₀ : Option Value} {v : Value} {Q : Unit → Shared → Prop} (C : St s₀ L m ((c, isC v₀) :: led) s) (hE : EnvOk env sc L) (hl : sc.names.lookup x = some .cell) (hc : env.cells.lookup x = some c)
    (h : ∀ s', St s₀ L m ((c, isC (some v)) :: led) s' → Q () s') : wpAny M A (storeName env x v) Q E s := by
  have hl' : env.kindOf x = some .cell := by unfold Env.kindOf; rw [hE.e]; exact hl
  refine wpAny_storeName_cell (by rw [hE.e]; exact hE.k) hl' hc (C.cell (.head _)) fun h' hc' hs => ?_
  exact h _ (C.change (t := s.toks) hs hc')

theorem enterC {i : Nat} {a : Addr} (x₁ y₁ y₂ : Str) {v₁ : Value} {d u : Nat} {Q : Value → Shared → Prop} (G : Gd mg mb s.heap) (hf : FnAt s.heap i a) (r : Rm A (d + 1) (u + 3))
    (hbind : ∀ pm cd doc, bindArgs (Calls.docDef (nameOf (theDef i)) (paramsOf (theDef i)) (bodyOf (theDef i)) (scOf (theDef i)) pm cd doc) ⟨[v₁], []⟩ = pure [(x₁, v₁)])
    (hloc : (scOf (theDef i)).names.lookup x₁ = some .local) (hcs : ∀ n, cellsFrom n (scOf (theDef i)).names [] = [(y₂, n + 1), (y₁, n)]) (hne : (y₁ == y₂) = false)
    (hsc : ((scOf (theDef i)).isCoroutine, (scOf (theDef i)).isGenerator, (scOf (theDef i)).kind) = (false, false, .function))
    (h : ∀ A' env L c₁ c₂ s₁, Rm A' d u → EnvOk env (scOf (theDef i)) L → env.cells.lookup y₁ = some c₁ → env.cells.lookup y₂ = some c₂ → St s L (upd nul x₁ v₁) [(c₁, isC none), (c₂, isC none)] s₁ →
      wpAny (model prog w) A' (execs (bodyOf (theDef i)) env) (fun f s' => Q (match f with | .ret v => v | _ => .none) s') (fun _ _ => False) s₁) :
    wpAny (model prog w) A (call (.ref a) [v₁]) Q E s := by
  obtain ⟨o, pm, cd, doc, ho, hd, hc⟩ := hf
  refine wpAny_call (codeAny_call_cells (binds := [(x₁, v₁)]) (by have := r.d; show A.depth < 1000; omega) ho hd G.nolimit hc rfl (hbind pm cd doc) rfl
    (fun x hx => by rw [List.mem_singleton.mp hx]; exact .inl hloc) (fun s₁ C => ?_) (congrArg (·.1) hsc) (congrArg (·.2.1) hsc) (congrArg (·.2.2) hsc))
  have ecs : (callEnvC (Calls.docDef (nameOf (theDef i)) (paramsOf (theDef i)) (bodyOf (theDef i)) (scOf (theDef i)) pm cd doc) s.heap.objs.size a).cells = [(y₂, s.heap.objs.size + 1 + 1), (y₁, s.heap.objs.size + 1)] := hcs _
  have l1 : List.lookup y₁ [(y₂, s.heap.objs.size + 1 + 1), (y₁, s.heap.objs.size + 1)] = some (s.heap.objs.size + 1) := by
    rw [List.lookup_cons, hne]; simp
  have l2 : List.lookup y₂ [(y₂, s.heap.objs.size + 1 + 1), (y₁, s.heap.objs.size + 1)] = some (s.heap.objs.size + 1 + 1) := by
    rw [List.lookup_cons]; simp
  have em : bindL (callEnvC (Calls.docDef (nameOf (theDef i)) (paramsOf (theDef i)) (bodyOf (theDef i)) (scOf (theDef i)) pm cd doc) s.heap.objs.size a).kindOf [(x₁, v₁)] (fun _ => none) = upd nul x₁ v₁ := by
    have hk : (callEnvC (Calls.docDef (nameOf (theDef i)) (paramsOf (theDef i)) (bodyOf (theDef i)) (scOf (theDef i)) pm cd doc) s.heap.objs.size a).kindOf x₁ = some .local := hloc
    unfold bindL bindL
    rw [if_pos hk]; rfl
  have ec : bindC (callEnvC (Calls.docDef (nameOf (theDef i)) (paramsOf (theDef i)) (bodyOf (theDef i)) (scOf (theDef i)) pm cd doc) s.heap.objs.size a).kindOf [(x₁, v₁)] (fun _ => none) = fun _ => none := by
    have hk : (callEnvC (Calls.docDef (nameOf (theDef i)) (paramsOf (theDef i)) (bodyOf (theDef i)) (scOf (theDef i)) pm cd doc) s.heap.objs.size a).kindOf x₁ = some .local := hloc
    unfold bindC bindC
    rw [if_pos hk]
  rw [em, ec] at C
  have none_of : ∀ k, s.heap.objs.size ≤ k → s.heap.get? k = none := fun k hk => by
    cases e : s.heap.get? k with
    | none => rfl
    | some o => exact absurd (Heap.lt_size e) (Nat.not_lt.mpr hk)
  have k1 := C.cell y₁ _ (by rw [ecs]; exact l1)
  have k2 := C.cell y₂ _ (by rw [ecs]; exact l2)
  refine wpAny_mono (h _ _ _ (s.heap.objs.size + 1) (s.heap.objs.size + 1 + 1) s₁ r.deeper ⟨congrArg (·.2.2) hsc, rfl, rfl, rfl, rfl⟩ (by rw [ecs]; exact l1) (by rw [ecs]; exact l2) ⟨C.toInCall, fun p hp => ?_, fun p hp => ?_, ?_⟩)
    (fun f s' q => q) (fun _ _ q => q.elim)
  · simp at hp
    rcases hp with rfl | rfl
    · exact k1
    · exact k2
  · simp at hp
    rcases hp with rfl | rfl
    · exact ⟨by show s.heap.objs.size + 1 ≠ s.heap.objs.size; omega, none_of _ (by show _ ≤ s.heap.objs.size + 1; omega)⟩
    · exact ⟨by show s.heap.objs.size + 1 + 1 ≠ s.heap.objs.size; omega, none_of _ (by show _ ≤ s.heap.objs.size + 1 + 1; omega)⟩
  · show List.Nodup [s.heap.objs.size + 1, s.heap.objs.size + 1 + 1]
    simp

theorem l_item_first {value slice : Expr} {a : Addr} {v : Value} {Q : Value → Shared → Prop} (hl : s.heap.IsList a (v :: vs).toArray) (h : Q v s)
    (hs : subscripted slice false (.ref a) (.int 0 u) = operate [.ref a, .int 0 u] (getItem (.ref a) (.int 0 u))) (hx : vs.length ≤ 10000) : wpAny (model prog w) A (subscriptTail value slice (.ref a) (.int 0 u)) Q E s :=
  l_item_list (k := 0) hl rfl h hs (by simp; omega)
theorem l_item_firstT {value slice : Expr} {a : Addr} {v : Value} {Q : Value → Shared → Prop} (hl : IsTup s.heap a (v :: vs).toArray) (h : Q v s)
    (hs : subscripted slice false (.ref a) (.int 0 u) = operate [.ref a, .int 0 u] (getItem (.ref a) (.int 0 u))) (hx : vs.length ≤ 10000) : wpAny (model prog w) A (subscriptTail value slice (.ref a) (.int 0 u)) Q E s :=
  l_item_tuple (k := 0) hl rfl h hs (by simp; omega)

/-! ## loops over enumerate -/
def isEn (it : Addr) (i : Nat) : Obj → Prop := fun o => ∃ old, o = { cls := .type "enumerate", dict := none, data := .fields #[.none, .bool false, .ref it, rawInt (i : Nat), .none, old], slots := #[] }
def isLi (ax : Addr) (i : Nat) : Obj → Prop := fun o => o.cls = .type "list_iterator" ∧ o.data = .fields #[.ref ax, .int (i : Nat) 0]
theorem l_enumerate {ax : Addr} {Q : Value → Shared → Prop} (C : St s₀ L m led s) (hl : s.heap.IsList ax vs.toArray) (h : ∀ e it s', St s₀ L m ((it, isLi ax 0) :: (e, isEn it 0) :: led) s' → Q (.ref e) s') :
    wpAny (model prog w) A (call (.type "enumerate") [.ref ax]) Q E s := by
  refine call_enumerate_list hl fun h' he hi hz hk => ?_
  refine h _ s.heap.objs.size _ ?_
  have C' := C.keeps (Keeps.heap hk)
  have none_of : ∀ k, s.heap.objs.size ≤ k → s.heap.get? k = none := fun k hk => by
    cases e : s.heap.get? k with
    | none => rfl
    | some o => exact absurd (Heap.lt_size e) (Nat.not_lt.mpr hk)
  have A1 := C.add (P := isEn s.heap.objs.size 0) (Keeps.heap hk) (none_of (s.heap.objs.size + 1) (by omega)) ⟨_, he, _, rfl⟩
  refine ⟨A1.c, fun p hp => ?_, fun p hp => ?_, ?_⟩
  · rcases List.mem_cons.mp hp with rfl | hp
    · exact hi
    · exact A1.own p hp
  · rcases List.mem_cons.mp hp with rfl | hp
    · refine ⟨fun e => ?_, ?_⟩
      · have hL := C.L_lt
        have e' : s.heap.objs.size = L := e
        exact absurd hL (by rw [← e']; exact Nat.lt_irrefl _)
      · cases e : s₀.heap.get? s.heap.objs.size with
        | none => rfl
        | some o => exact absurd (Heap.lt_size (C.c.keep _ o e)) (Nat.lt_irrefl _)
    · exact A1.ne p hp
  · refine List.nodup_cons.mpr ⟨fun hm => ?_, A1.nd⟩
    rw [List.map_cons] at hm
    rcases List.mem_cons.mp hm with e | hm
    · have e' : s.heap.objs.size = s.heap.objs.size + 1 := e
      exact absurd e' (Nat.ne_of_lt (Nat.lt_succ_self _))
    · obtain ⟨p, hp, e⟩ := List.mem_map.mp hm
      obtain ⟨o, ho, _⟩ := C.own p hp
      have e' : p.1 = s.heap.objs.size := e
      exact absurd (Heap.lt_size ho) (by rw [e']; exact Nat.lt_irrefl _)

theorem for_enum {ax e it : Addr} {xi xv : Str} {pi pv pt : Pos} {kk : Nat} {body rest : List Stmt} {d u : Nat} {Q : Flow → Shared → Prop} (C : St s₀ L m ((it, isLi ax 0) :: (e, isEn it 0) :: led) s) (hE : EnvOk env sc L) (r : Rm A d u)
    (J : Nat → (Str → Option Value) → List (Addr × (Obj → Prop)) → Prop) (h0 : J 0 m led) (hxi : sc.names.lookup xi = some .local) (hxv : sc.names.lookup xv = some .local)
    (hl : ∀ i m led s, J i m led → St s₀ L m led s → s.heap.IsList ax vs.toArray)
    (turn : ∀ i v t m led s, i < vs.length → vs[i]? = some v → J i m led → St s₀ L (upd (upd m xi (.int (i : Nat) t)) xv v) ((it, isLi ax (i + 1)) :: (e, isEn it (i + 1)) :: led) s →
      wpAny (model prog w) A (execs body env) (TurnEnd s₀ L it (isLi ax (i + 1)) (fun m' led' => ∃ led₁, led' = (e, isEn it (i + 1)) :: led₁ ∧ J (i + 1) m' led₁) (andThen (model prog w) A rest env Q E)) (fun _ _ => False) s)
    (after : ∀ m led s, J vs.length m led → St s₀ L m led s → wpAny (model prog w) A (execs rest env) Q E s) :
    wpAny (model prog w) A (pyIter (.ref e)) (fun it₁ s₂ => codeAny (model prog w) A (.forLoop (.Tuple [.Name xi pi, .Name xv pv] kk pt) it₁ body [] env) (loopR (model prog w) A rest env Q E) s₂) E s := by
  obtain ⟨_, ho, old, rfl⟩ := C.get (.tail _ (.head _))
  refine wpAny_pyIter_enum (i := (0 : Nat)) (old := old) ho ?_
  clear ho old
  have hei : e ≠ it := fun q => (List.nodup_cons.mp C.nd).1 (by rw [List.map_cons, ← q]; exact List.mem_cons_self)
  refine codeAny_forLoop_any (fun k s' => ∃ i m led, k = vs.length + 1 - i ∧ i ≤ vs.length ∧ J i m led ∧ St s₀ L m ((it, isLi ax i) :: (e, isEn it i) :: led) s') ?_ (vs.length + 1) ⟨0, m, led, rfl, Nat.zero_le _, h0, C⟩
  rintro k s' ⟨i, m, led, rfl, hi, hJ, C⟩
  obtain ⟨_, he, old, rfl⟩ := C.get (.tail _ (.head _))
  have hit : s'.heap.IsListIter it ax i := C.get (.head _)
  have hL := hl i m led s' hJ C.drop.drop
  by_cases hlt : i < vs.length
  · have hv : vs[i]? = some vs[i] := by simp [hlt]
    refine wpAny_pyNext_enum_item (i := i) (items := vs.toArray) (x := vs[i]) he hit hL (by simp [hlt]) hei fun h₁ heo hit₁ ht₁ hz₁ hk₁ => ?_
    have C₁ := C.change2 (t := s'.toks + 1) (P' := isLi ax (i + 1)) (R' := fun o => o = { cls := .type "enumerate", dict := none, data := .fields #[rawInt s'.heap.objs.size, .bool false, .ref it, rawInt ((i : Int) + 1), .none, vs[i]], slots := #[] })
      (fun x o hx hy ho => hk₁ x o hy hx ho) hit₁ ⟨_, heo, rfl⟩
    refine wpAny_letOwnedTupleGo_enum heo fun h₂ he₂ hs₂ => ?_
    have C₂ := (C₁.swap.change (t := s'.toks + 1) (P' := isEn it (i + 1)) hs₂ ⟨_, he₂, vs[i], by rw [show ((i + 1 : Nat) : Int) = (i : Int) + 1 by omega]⟩).swap
    have hne1 : s'.heap.objs.size ≠ e := fun q => Nat.lt_irrefl _ (by have := Heap.lt_size he; rw [← q] at this; exact this)
    have hs₂' : Heap.SameBut e h₁ h₂ := hs₂
    have ht₂ : IsTup h₂ s'.heap.objs.size [Value.int (i : Nat) s'.toks, vs[i]].toArray := ⟨_, (hs₂'.2 _ hne1).trans ht₁, rfl, _, rfl⟩
    refine l_unpack C₂ r ht₂ (fun s₃ C₃ => ?_) rfl rfl
    refine in_order (a_name (st C₃ hE hxi fun s₄ C₄ => in_order (a_name (st C₄ hE hxv fun s₅ C₅ => in_order0 ?_))))
    refine wpAny_mono (turn i vs[i] s'.toks m led s₅ hlt hv hJ C₅) (fun f s₆ h₆ => ?_) (fun _ _ x => x.elim)
    cases f with
    | next => obtain ⟨m', led', ⟨led₁, rfl, j⟩, c⟩ := h₆; exact ⟨vs.length + 1 - (i + 1), by omega, i + 1, m', led₁, rfl, hlt, j, c⟩
    | cont => obtain ⟨m', led', ⟨led₁, rfl, j⟩, c⟩ := h₆; exact ⟨vs.length + 1 - (i + 1), by omega, i + 1, m', led₁, rfl, hlt, j, c⟩
    | brk => exact h₆
    | ret v => exact h₆
  · have e1 : i = vs.length := by omega
    subst e1
    refine wpAny_pyNext_enum_end r.h he hit hL (by simp) fun h' hx => ?_
    exact wpAny_execs_nil (after m led _ hJ (St.drop (C.lose (t := s'.toks) hx)))
end
-- part B8
namespace MF
theorem owner_map : Manifest.owners.lookup (String.ofList ['p', 'a', 'm'].reverse) = some Manifest.sig_map := by kernel_rfl
theorem slot_map_init : Slot "map" "__init__" "object.__init__" :=
  .of (owner := "object") (n := "__init__") (by rw [typeLookup_type, builtinLookup_eq_fast]; kernel_rfl) (by decide +kernel) (by decide +kernel) (by decide +kernel)
    (by first | exact .inl (by decide +kernel) | exact .inr (by decide +kernel)) (by rw [isSubtype_type]; kernel_rfl)
theorem slot_map_iter : Slot "map" "__iter__" "map.__iter__" :=
  .of (owner := "map") (n := "__iter__") (by rw [typeLookup_type, builtinLookup_eq_fast]; kernel_rfl) (by decide +kernel) (by decide +kernel) (by decide +kernel)
    (by first | exact .inl (by decide +kernel) | exact .inr (by decide +kernel)) (by rw [isSubtype_type]; kernel_rfl)
theorem slot_map_next : Slot "map" "__next__" "map.__next__" :=
  .of (owner := "map") (n := "__next__") (by rw [typeLookup_type, builtinLookup_eq_fast]; kernel_rfl) (by decide +kernel) (by decide +kernel) (by decide +kernel)
    (by first | exact .inl (by decide +kernel) | exact .inr (by decide +kernel)) (by rw [isSubtype_type]; kernel_rfl)
theorem args_map_iter_1 (a : Value) : argsOk "map.__iter__" ⟨[a], []⟩ := by
  unfold argsOk; rw [signature?_of (id := "map.__iter__") (n := ['_', '_', 'r', 'e', 't', 'i', '_', '_']) (o := ['p', 'a', 'm']) (by kernel_rfl) owner_map]; kernel_rfl
theorem args_map_next_1 (a : Value) : argsOk "map.__next__" ⟨[a], []⟩ := by
  unfold argsOk; rw [signature?_of (id := "map.__next__") (n := ['_', '_', 't', 'x', 'e', 'n', '_', '_']) (o := ['p', 'a', 'm']) (by kernel_rfl) owner_map]; kernel_rfl
theorem entry_map_next : entryFor table "map.__next__" = some Builtin.«map.__next__» := entryFor_of_tree (by kernel_rfl)
theorem entry_map_iter : entryFor table "map.__iter__" = some Builtin.«dict_keyiterator.__iter__» :=
  entryFor_alias (id' := "dict_keyiterator.__iter__") (by kernel_rfl) (by first | rfl | decide +kernel | (unfold String.splitOn; simp +decide [String.splitOnAux])) (by decide +kernel) (by kernel_rfl)
theorem mro_map : mroOf (.type "map") = pure [.type "map", .type "object"] := by rw [mroOf_type]; kernel_rfl
theorem lookup_map_new : typeLookup (.type "map") "__new__" = pure (some (.builtin "map.__new__")) := by rw [typeLookup_type, builtinLookup_eq_fast]; kernel_rfl
theorem called_map : TypeCalled "map" "map.__new__" "object.__init__" :=
  ⟨by decide +kernel, by decide +kernel, ⟨_, _, mro_map⟩, madeBy_type mro_map lookup_map_new (by decide +kernel), by decide +kernel, by rw [isSubtype_type]; kernel_rfl, slot_map_init⟩
theorem typeCall_map_2 (a b : Value) : checkTypeCall "map" ⟨[a, b], []⟩ = pure () := by kernel_rfl
theorem newCall_map_2 (a b : Value) : checkBuiltinCall "map.__new__" ⟨[.type "map", a, b], []⟩ = pure () := by kernel_rfl
theorem entry_map_new : entryFor table "map.__new__" = some Builtin.«map.__new__» := entryFor_of_tree (by kernel_rfl)
theorem sub_map : isSubtype (.type "map") (.type "map") = pure true := by rw [isSubtype_type]; kernel_rfl
theorem map_no_len : typeLookup (.type "map") "__len__" = pure none := by rw [typeLookup_type, builtinLookup_eq_fast]; kernel_rfl
theorem map_no_hint : typeLookup (.type "map") "__length_hint__" = pure none := by rw [typeLookup_type, builtinLookup_eq_fast]; kernel_rfl
theorem init3 (a b c : Value) : argsOk "object.__init__" ⟨[a, b, c], []⟩ := F.args_object_init_3 a b c
end MF
abbrev mapH1 (h : Heap) (l : Addr) : Heap := h.push { cls := .type "list_iterator", data := .fields #[.ref l, .int 0 0] }
abbrev mapH2 (h : Heap) (l : Addr) : Heap := (mapH1 h l).push { cls := .type "tuple", data := .seq #[.ref h.objs.size] }
abbrev mapH3 (h : Heap) (l : Addr) (f : Value) : Heap := (mapH2 h l).push { cls := .type "map", data := .fields #[.ref (mapH1 h l).objs.size, f] }
theorem meets_map_new (f : Addr) (l : Addr) (xs : Array Value) : Meets (Builtin.«map.__new__» ⟨[.type "map", .ref f, .ref l], []⟩) (fun _ R s => s.heap.IsList l xs ∧
      R (.ok (.ret (.ref (mapH2 s.heap l).objs.size))) { s with heap := mapH3 s.heap l (.ref f) }) :=
  .of_wp fun prog w A R s h => by
    obtain ⟨hp, g, d, tk, os⟩ := s; obtain ⟨hl1, h⟩ := h
    have hsub := MF.sub_map
    have hL1 : Heap.IsList (Shared.heap ⟨hp, g, d, tk, os⟩) l xs := hl1
    wp_walk using wpAny_pyIter_list hL1
    exact ⟨_, rfl, h⟩
def isMp (T f : Addr) : Obj → Prop := fun o => o = { cls := .type "map", data := .fields #[.ref T, .ref f] }
section
variable {prog : Program} {w : World} {M : Model} {A : Around} {E : Value → Shared → Prop} {s₀ s s' : Shared} {L : Addr} {m : Str → Option Value} {led : List (Addr × (Obj → Prop))} {env : Env} {sc : Scope} {mg mb : Str → Option Value}
variable {x y : Str} {t u : Tok} {vs ws : List Value}

theorem none_from (s : Shared) : ∀ k, s.heap.objs.size ≤ k → s.heap.get? k = none := fun k hk => by
  cases e : s.heap.get? k with
  | none => rfl
  | some o => exact absurd (Heap.lt_size e) (Nat.not_lt.mpr hk)
abbrev mapLed (it T Mp f ax : Addr) (i : Nat) (led : List (Addr × (Obj → Prop))) : List (Addr × (Obj → Prop)) := (it, isLi ax i) :: (T, isT [.ref it]) :: (Mp, isMp T f) :: led
theorem call_map {ax f : Addr} {Q : Value → Shared → Prop} (C : St s₀ L m led s) (hl : s.heap.IsList ax vs.toArray) (h : ∀ it T Mp s', St s₀ L m (mapLed it T Mp f ax 0 led) s' → Q (.ref Mp) s') :
    wpAny (model prog w) A (call (.type "map") [.ref f, .ref ax]) Q E s := by
  refine callType_new MF.called_map (by decide) (MF.typeCall_map_2 _ _) (MF.newCall_map_2 _ _) (fun obj => MF.init3 obj _ _) MF.entry_map_new (meets_map_new f ax vs.toArray) ⟨hl, ?_⟩
  have z1 : (mapH1 s.heap ax).objs.size = s.heap.objs.size + 1 := Heap.size_push ..
  have z2 : (mapH2 s.heap ax).objs.size = s.heap.objs.size + 2 := by rw [Heap.size_push, z1]
  have C1 := C.add (P := isMp (mapH1 s.heap ax).objs.size f) (s' := { s with heap := mapH3 s.heap ax (.ref f) })
    (Keeps.heap fun b o e => push_kp _ _ _ _ (push_kp _ _ _ _ (push_kp _ _ _ _ e))) (none_from s (mapH2 s.heap ax).objs.size (by omega)) ⟨_, Heap.get?_push_size _ rfl, rfl⟩
  have g1 : (mapH3 s.heap ax (.ref f)).get? s.heap.objs.size = some { cls := .type "list_iterator", data := .fields #[.ref ax, .int 0 0] } := push_kp _ _ _ _ (push_kp _ _ _ _ (Heap.get?_push_size _ rfl))
  have g2 : (mapH3 s.heap ax (.ref f)).get? (mapH1 s.heap ax).objs.size = some { cls := .type "tuple", data := .seq #[.ref s.heap.objs.size] } := push_kp _ _ _ _ (Heap.get?_push_size _ rfl)
  refine ⟨⟨_, Heap.get?_push_size _ rfl, rfl⟩, h s.heap.objs.size (mapH1 s.heap ax).objs.size _ _ ⟨C1.c, fun p hp => ?_, fun p hp => ?_, ?_⟩⟩
  · rcases List.mem_cons.mp hp with rfl | hp
    · exact ⟨_, g1, rfl, rfl⟩
    rcases List.mem_cons.mp hp with rfl | hp
    · exact ⟨_, g2, rfl⟩
    · exact C1.own p hp
  · have nl : ∀ k, s.heap.objs.size ≤ k → k ≠ L ∧ s₀.heap.get? k = none := fun k hk => by
      refine ⟨fun e => ?_, ?_⟩
      · have hL := C.L_lt
        rw [e] at hk
        exact absurd hL (Nat.not_lt.mpr hk)
      · cases e : s₀.heap.get? k with
        | none => rfl
        | some o => exact absurd (Heap.lt_size (C.c.keep _ o e)) (Nat.not_lt.mpr hk)
    rcases List.mem_cons.mp hp with rfl | hp
    · exact nl _ (Nat.le_refl _)
    rcases List.mem_cons.mp hp with rfl | hp
    · exact nl _ (by show _ ≤ (mapH1 s.heap ax).objs.size; omega)
    · exact C1.ne p hp
  · have old : ∀ k ∈ led.map (·.1), k < s.heap.objs.size := fun k hk => by
      obtain ⟨p, hp, e⟩ := List.mem_map.mp hk
      obtain ⟨o, ho, _⟩ := C.own p hp
      rw [← e]; exact Heap.lt_size ho
    show List.Nodup (s.heap.objs.size :: (mapH1 s.heap ax).objs.size :: (mapH2 s.heap ax).objs.size :: led.map (·.1))
    rw [z1, z2]
    refine List.nodup_cons.mpr ⟨fun hm => ?_, List.nodup_cons.mpr ⟨fun hm => ?_, List.nodup_cons.mpr ⟨fun hm => ?_, C.nd⟩⟩⟩
    · rcases List.mem_cons.mp hm with e | hm
      · omega
      rcases List.mem_cons.mp hm with e | hm
      · omega
      · exact absurd (old _ hm) (by omega)
    · rcases List.mem_cons.mp hm with e | hm
      · omega
      · exact absurd (old _ hm) (by omega)
    · exact absurd (old _ hm) (by omega)

abbrev MapCall (prog : Program) (w : World) (s₀ : Shared) (f : Addr) : Prop := ∀ (A' : Around) (L : Addr) (m : Str → Option Value) (led' : List (Addr × (Obj → Prop))) (s' : Shared) (x : Str) (t : Tok) (Q E : Value → Shared → Prop), Rm A' 1 3 → St s₀ L m led' s' →
  (∀ s'', St s₀ L m led' s'' → Q (.str x t) s'') → wpAny (model prog w) A' (call (.ref f) [.str x t]) Q E s'
theorem map_next {it T Mp f ax : Addr} {i d ud : Nat} {Q : Option Value → Shared → Prop} (C : St s₀ L m (mapLed it T Mp f ax i led) s) (hv : vs[i]? = some (.str x t)) (hl : s.heap.IsList ax vs.toArray) (r : Rm A d ud) (hd : 1 ≤ d) (hud : 10 ≤ ud) (hcall : MapCall prog w s₀ f)
    (h : ∀ s', St s₀ L m (mapLed it T Mp f ax (i + 1) led) s' → Q (some (.str x t)) s') : wpAny (model prog w) A (pyNext (.ref Mp)) Q E s := by
  obtain ⟨_, hM, rfl⟩ := C.get (.tail _ (.tail _ (.head _)))
  have hT := C.tup (.tail _ (.head _))
  have hit : s.heap.IsListIter it ax i := C.get (.head _)
  have tM : s.TypeIs (.ref Mp) "map" := ⟨_, hM, rfl⟩
  unfold pyNext
  refine wpAny_bind (wpAny_attempt (wpAny_callSpecial?_slot (name := Str.ofString "__next__") tM MF.slot_map_next (wpAny_call_entry MF.slot_map_next tM MF.entry_map_next ?_ (MF.args_map_next_1 _))))
  show wpAny _ _ (field (.ref Mp) 0 >>= _) _ _ _
  refine wpAny_bind (wpAny_field hM rfl (x := .ref T) rfl ?_)
  refine wpAny_bind (wpAny_seqItems hT rfl ?_)
  simp only [List.forIn_cons, List.forIn_nil, List.forIn_toArray]
  refine wpAny_bind (wpAny_bind (wpAny_bind (wpAny_holding (wpAny_nextOf_list_item hit hl (x := .str x t) (by simpa using hv) fun h₁ hit₁ hs₁ => ?_))))
  have C1 := C.change (t := s.toks) (P' := isLi ax (i + 1)) hs₁ hit₁
  obtain ⟨_, hM₁, rfl⟩ := C1.get (.tail _ (.tail _ (.head _)))
  refine wpAny_pure (wpAny_pure ?_)
  refine wpAny_bind ?_
  refine wpAny_field hM₁ rfl (x := .ref f) rfl ?_
  refine wpAny_bind (wpAny_holding ?_)
  refine hcall _ _ _ _ _ _ _ _ _ ((Rm.in1 (u := ud - 1) (d := d) (by rw [show ud - 1 + 1 = ud by omega]; exact r)).le hd (by omega)) C1 fun s₂ C₂ => ?_
  refine wpAny_bind (wpAny_letGo ?_)
  exact wpAny_pure ⟨_, rfl, wpAny_pure (h _ C₂)⟩
theorem map_end {it T Mp f ax : Addr} {Q : Option Value → Shared → Prop} (C : St s₀ L m (mapLed it T Mp f ax vs.length led) s) (hl : s.heap.IsList ax vs.toArray) (hh : A.handled = none)
    (h : ∀ s', St s₀ L m led s' → Q none s') : wpAny (model prog w) A (pyNext (.ref Mp)) Q E s := by
  obtain ⟨_, hM, rfl⟩ := C.get (.tail _ (.tail _ (.head _)))
  have hT := C.tup (.tail _ (.head _))
  have hit : s.heap.IsListIter it ax vs.length := C.get (.head _)
  have tM : s.TypeIs (.ref Mp) "map" := ⟨_, hM, rfl⟩
  unfold pyNext
  refine wpAny_bind (wpAny_attempt (wpAny_callSpecial?_slot (name := Str.ofString "__next__") tM MF.slot_map_next (wpAny_call_entry MF.slot_map_next tM MF.entry_map_next ?_ (MF.args_map_next_1 _))))
  show wpAny _ _ (field (.ref Mp) 0 >>= _) _ _ _
  refine wpAny_bind (wpAny_field hM rfl (x := .ref T) rfl ?_)
  refine wpAny_bind (wpAny_seqItems hT rfl ?_)
  simp only [List.forIn_cons, List.forIn_nil, List.forIn_toArray]
  refine wpAny_bind (wpAny_bind (wpAny_bind (wpAny_holding (wpAny_nextOf_list_end hh hit hl (by simp) fun h₁ e hs₁ he => ?_))))
  refine wpAny_bind (wpAny_isInstance (T := "StopIteration") (b := true) he isSubtype_stop ?_)
  exact wpAny_pure (h _ (St.drop (St.drop (C.lose (t := s.toks) hs₁))))
theorem iter_map {T Mp f : Addr} {Q : Value → Shared → Prop} (hM : ∃ o, s.heap.get? Mp = some o ∧ isMp T f o) (h : Q (.ref Mp) s) : wpAny (model prog w) A (pyIter (.ref Mp)) Q E s := by
  obtain ⟨_, hM, rfl⟩ := hM
  have tM : s.TypeIs (.ref Mp) "map" := ⟨_, hM, rfl⟩
  refine wpAny_pyIter_slot tM MF.slot_map_iter (wpAny_call_entry MF.slot_map_iter tM MF.entry_map_iter ?_ (MF.args_map_iter_1 _))
  show wpAny _ _ (ret (.ref Mp)) _ _ s
  exact wpAny_pure ⟨_, rfl, "map", _, tM, MF.slot_map_next.lookup, h⟩
end
-- part B9
section
variable {prog : Program} {w : World} {M : Model} {A : Around} {E : Value → Shared → Prop} {s₀ s s' : Shared} {L : Addr} {m : Str → Option Value} {led : List (Addr × (Obj → Prop))} {env : Env} {sc : Scope} {mg mb : Str → Option Value}
variable {x y : Str} {t u : Tok} {vs ws : List Value} {xs : List Str}

theorem map_loop {it T Mp f ax S : Addr} {d ud : Nat} {res : Value} {R : Result → Shared → Prop} (r : Rm A d ud) (hd : 1 ≤ d) (hud : 20 ≤ ud) (hcall : MapCall prog w s₀ f) (hvs : Ss vs xs) (hn : vs.length ≤ 1000)
    (hl : ∀ s', St s₀ L m led s' → s'.heap.IsList ax vs.toArray) (hR : ∀ s', St s₀ L m ((S, isL vs) :: led) s' → R (.ok (.ret res)) s') :
    ∀ (k i : Nat) (s : Shared), vs.length - i = k → i ≤ vs.length → St s₀ L m ((S, isL (vs.take i)) :: mapLed it T Mp f ax i led) s →
      codeAny (model prog w) A (.builtin "list.extend.loop" ⟨[.ref S, .ref Mp, res], []⟩) R s := by
  have p1 : ∀ i ws, (((S, isL ws) :: mapLed it T Mp f ax i led)).Perm (mapLed it T Mp f ax i ((S, isL ws) :: led)) := fun i ws => by
    show List.Perm (_ :: _ :: _ :: _ :: led) (_ :: _ :: _ :: _ :: led)
    exact (List.Perm.swap _ _ _).trans (.cons _ ((List.Perm.swap _ _ _).trans (.cons _ (List.Perm.swap _ _ _))))
  intro k
  induction k with
  | zero =>
    intro i s hk hi C
    have e : i = vs.length := by omega
    subst e
    rw [List.take_length] at C
    refine codeAny_builtin F.entry_extend_loop ?_
    rw [Around.under_plainId F.plain_extend_loop _]
    show wpAny _ A.in1 (pyNext (.ref Mp) >>= _) _ _ s
    refine wpAny_bind (map_end (A := A.in1) (C.perm (p1 _ _)) (hl s C.drop.drop.drop.drop) r.h fun s' C' => ?_)
    exact wpAny_pure (hR _ C')
  | succ k ih =>
    intro i s hk hi C
    have hlt : i < vs.length := by omega
    have hv : vs[i]? = some vs[i] := by simp [hlt]
    obtain ⟨x, t, ev, _⟩ := hvs.get hv
    refine codeAny_builtin F.entry_extend_loop ?_
    rw [Around.under_plainId F.plain_extend_loop _]
    show wpAny _ A.in1 (pyNext (.ref Mp) >>= _) _ _ s
    refine wpAny_bind (map_next (A := A.in1) (d := d) (ud := ud - 1) (C.perm (p1 _ _)) (hv.trans (congrArg some ev)) (hl s C.drop.drop.drop.drop) (Rm.in1 (u := ud - 1) (by rw [show ud - 1 + 1 = ud by omega]; exact r)) hd (by omega) hcall fun s₁ C₁ => ?_)
    have C₁ := C₁.perm (p1 _ _).symm
    obtain ⟨_, hS, n, rfl⟩ := C₁.get (.head _)
    have hlen : (vs.take i).length ≤ 1000 := by simp; omega
    show wpAny _ A.in1 (updateSeq S (·.push (.str x t)) >>= _) _ _ _
    refine wpAny_bind (wpAny_updateSeq hS rfl ?_ (by rw [big, List.size_toArray]; omega) (by rw [big]; show Array.size (Array.push _ _) ≤ _; rw [Array.size_push, List.size_toArray]; omega))
    have et : vs.take (i + 1) = vs.take i ++ [.str x t] := by rw [List.take_add_one, hv, ev]; rfl
    refine wpAny_pure ⟨plainId_quiet F.plain_extend_loop _, ih (i + 1) _ (by omega) hlt ?_⟩
    refine C₁.change (t := s₁.toks) (Heap.SameBut.update ..) ⟨_, Heap.get?_update_self _ hS rfl, ?_⟩
    rw [et]
    refine ⟨n + 1, ?_⟩
    simp [Obj.mapSeq]

theorem map_collect {it T Mp f ax : Addr} {d ud : Nat} {Q : List Value → Shared → Prop} (r : Rm A d ud) (hd : 1 ≤ d) (hud : 21 ≤ ud) (hcall : MapCall prog w s₀ f) (hvs : Ss vs xs) (hn : vs.length ≤ 1000)
    (hl : ∀ s', St s₀ L m led s' → s'.heap.IsList ax vs.toArray) (C : St s₀ L m (mapLed it T Mp f ax 0 led) s) (h : ∀ s', St s₀ L m led s' → Q vs s') : wpAny (model prog w) A (collect (.ref Mp)) Q E s := by
  have tM : ∀ {s : Shared} {led : List (Addr × (Obj → Prop))}, St s₀ L m (mapLed it T Mp f ax 0 led) s → s.TypeIs (.ref Mp) "map" := fun C => by
    obtain ⟨_, hM, rfl⟩ := C.get (.tail _ (.tail _ (.head _)))
    exact ⟨_, hM, rfl⟩
  have hSI : s.heap.objs.size ≠ Mp := fun e => by
    obtain ⟨_, hM, _⟩ := C.get (.tail _ (.tail _ (.head _)))
    rw [← e] at hM
    exact absurd (Heap.lt_size hM) (Nat.lt_irrefl _)
  unfold collect
  refine wpAny_bind (wpAny_runValue (codeAny_builtin F.entry_proto_collect ?_))
  rw [Around.under_plainId F.plain_proto_collect _]
  show wpAny _ A.in1 (newList [] >>= fun l => again (.builtin "list.__iadd__" ⟨[l, .ref Mp], []⟩)) _ _ s
  refine wpAny_bind (wpAny_newObj_type ?_ (by show 0 ≤ sizeLine; omega))
  refine wpAny_pure ⟨plainId_quiet F.plain_list_iadd _, codeAny_builtin F.entry_list_iadd ?_⟩
  rw [Around.under_plainId F.plain_list_iadd _]
  have C1 := C.add (P := isL []) (Keeps.heap (push_kp _ { cls := .type "list", data := .seq ([] : List Value).toArray })) (push_none s) ⟨_, Heap.get?_push_size _ rfl, 0, rfl⟩
  generalize hS : s.heap.objs.size = S at *
  generalize hHS : s.heap.push { cls := .type "list", data := .seq ([] : List Value).toArray } = HS at *
  show wpAny _ A.in1 (Builtin.List.listExtendWith (.ref S) (.ref Mp) (.ref S)) _ _ _
  unfold Builtin.List.listExtendWith
  refine wpAny_bind (wpAny_typeOf (tM C1.drop) ?_)
  have h1 : Builtin.List.listSameRef (.ref S) (.ref Mp) = false := by simp [Builtin.List.listSameRef, hSI]
  have h2 : (Value.type "map" == Value.type "list") = false := by decide
  have h3 : (Value.type "map" == Value.type "tuple") = false := by decide
  simp only [h1, h2, h3, Bool.or_false, Bool.false_eq_true, if_false]
  refine wpAny_bind (iter_map (T := T) (f := f) (C1.get (.tail _ (.tail _ (.tail _ (.head _))))) ?_)
  refine wpAny_bind (wpAny_holding ?_)
  unfold Builtin.List.listLengthHint
  refine wpAny_bind (wpAny_specialOf (tM C1.drop) MF.map_no_len ?_)
  show wpAny _ A.in1 (specialOf (Value.ref Mp) (Str.ofString "__length_hint__") >>= _) _ _ _
  refine wpAny_bind (wpAny_specialOf (tM C1.drop) MF.map_no_hint ?_)
  refine wpAny_pure ?_
  show wpAny _ A.in1 (rule "list.extend.makes-room" >>= fun _ => Builtin.List.listTouch (.ref S) >>= fun _ =>
    again (.builtin "list.extend.loop" ⟨[.ref S, .ref Mp, .ref S], []⟩)) _ _ _
  refine wpAny_bind (wpAny_rule ?_)
  refine wpAny_bind ?_
  obtain ⟨_, hS₁, n, rfl⟩ := C1.get (.head _)
  show wpAny _ A.in1 (updateSeq S (·.push .none) >>= fun _ => updateSeq S (·.pop)) _ _ _
  refine wpAny_bind (wpAny_updateSeq hS₁ rfl ?_)
  have hS₂ := Heap.get?_update_self (Obj.mapSeq (·.push Value.none)) hS₁ rfl
  have C2 := C1.change (t := s.toks) (P' := fun o => o = Obj.mapSeq (·.push Value.none) { cls := .type "list", data := .seq ([] : List Value).toArray n }) (Heap.SameBut.update ..) ⟨_, hS₂, rfl⟩
  refine wpAny_updateSeq hS₂ rfl ?_
  have hS₃ := Heap.get?_update_self (Obj.mapSeq (·.pop)) hS₂ rfl
  have C3 := C2.change (t := s.toks) (P' := isL []) (Heap.SameBut.update ..) ⟨_, hS₃, n + 1 + 1, by simp [Obj.mapSeq]⟩
  refine wpAny_pure ⟨plainId_quiet F.plain_extend_loop _, map_loop (r.le (Nat.le_refl d) (Nat.le_refl ud)) hd (by omega) hcall hvs hn hl (fun s' C' => ?_) vs.length 0 _ (by omega) (Nat.zero_le _) C3⟩
  obtain ⟨_, hS', n', rfl⟩ := C'.get (.head _)
  show wpAny _ A (load S >>= _) _ _ s'
  refine wpAny_bind (wpAny_load hS' ?_)
  exact wpAny_pure (h _ C'.drop)

theorem code_tuple_map {it T Mp f ax : Addr} {d ud : Nat} {Q₁ : Value → Shared → Prop} (r : Rm A d ud) (hd : 1 ≤ d) (hud : 23 ≤ ud) (hcall : MapCall prog w s₀ f) (hvs : Ss vs xs) (hn : vs.length ≤ 1000)
    (hl : ∀ s', St s₀ L m led s' → s'.heap.IsList ax vs.toArray) (C : St s₀ L m (mapLed it T Mp f ax 0 led) s) (h : ∀ b s', St s₀ L m ((b, isT vs) :: led) s' → s'.TypeIs (.ref b) "tuple" → Q₁ (.ref b) s') :
    codeAny (model prog w) A (.call (.builtin "tuple.__new__") ⟨[.type "tuple", .ref Mp], []⟩) (wants Q₁ E) s := by
  refine codeAny_of_tree ?_
  show wpAny _ A.in1 (do checkBuiltinCall "tuple.__new__" ⟨[.type "tuple", .ref Mp], []⟩; again (.builtin "tuple.__new__" ⟨[.type "tuple", .ref Mp], []⟩)) _ _ s
  refine wpAny_bind (wpAny_of_eq (F.newCall_tuple_1 _) (wpAny_pure ⟨plainId_quiet F.plain_tuple_new _, codeAny_builtin F.entry_tuple_new ?_⟩))
  rw [Around.under_plainId F.plain_tuple_new _]
  have hsub := sub_tuple_self
  have hinit := init_tuple_lookup
  have hmh := madeHere_tuple
  have hTI : s.TypeIs (.ref Mp) "map" := by
    obtain ⟨_, hM, rfl⟩ := C.get (.tail _ (.tail _ (.head _)))
    exact ⟨_, hM, rfl⟩
  have r1 : Rm A.in1 d (ud - 1) := Rm.in1 (by rw [show ud - 1 + 1 = ud by omega]; exact r)
  wp_walk using wpAny_typeOf hTI, map_collect r1 hd (by omega) hcall hvs hn hl C
  intro s' C'
  show wpAny _ _ (Builtin.Tuple.tupleExact vs.toArray >>= fun v => ret v) _ _ _
  unfold Builtin.Tuple.tupleExact
  refine wpAny_bind (wpAny_newObj_type ?_ (by show vs.toArray.size ≤ sizeLine; rw [big, List.size_toArray]; omega))
  refine wpAny_pure ?_
  exact h _ _ (C'.add (Keeps.heap (push_kp _ _)) (push_none _) ⟨_, Heap.get?_push_size _ rfl, rfl⟩) ⟨_, Heap.get?_push_size _ rfl, rfl⟩
theorem tuple_map {it T Mp f ax : Addr} {d ud : Nat} {Q : Value → Shared → Prop} (r : Rm A d ud) (hd : 1 ≤ d) (hud : 30 ≤ ud) (hcall : MapCall prog w s₀ f) (hvs : Ss vs xs) (hn : vs.length ≤ 1000)
    (hl : ∀ s', St s₀ L m led s' → s'.heap.IsList ax vs.toArray) (C : St s₀ L m (mapLed it T Mp f ax 0 led) s) (h : ∀ b s', St s₀ L m ((b, isT vs) :: led) s' → Q (.ref b) s') :
    wpAny (model prog w) A (call (.type "tuple") [.ref Mp]) Q E s := by
  have r1 : Rm A.in1 d (ud - 1) := Rm.in1 (by rw [show ud - 1 + 1 = ud by omega]; exact r)
  refine callType_codes (Q₁ := fun obj s₁ => s₁.TypeIs obj "tuple" ∧ Q obj s₁) F.called_tuple (F.typeCall_tuple_1 _) F.entry_object_init
    (code_tuple_map r1 hd (by omega) hcall hvs hn hl C fun b s' C' ht => ⟨ht, h b s' C'⟩) fun obj s₁ h₁ => ?_
  exact ⟨h₁.1, F.args_object_init_2 obj _, object_init_meets F.called_tuple.init.lookup F.called_tuple.made (by decide) prog w A.in1 _ s₁ ⟨h₁.1, rfl, h₁.2⟩⟩
end
-- part B10
section
variable {prog : Program} {w : World} {M : Model} {A : Around} {E : Value → Shared → Prop} {s₀ s s' : Shared} {L : Addr} {m : Str → Option Value} {led : List (Addr × (Obj → Prop))} {env : Env} {sc : Scope} {mg mb : Str → Option Value}
variable {x y : Str} {t u : Tok} {vs ws : List Value} {xs : List Str}

theorem tyBool (s : Shared) (b : Bool) : s.TypeIs (.bool b) "bool" := rfl
theorem hash_true {Q : Int → Shared → Prop} (h : Q 1 { s with toks := s.toks + 1 }) : wpAny (model prog w) A (pyHash (.bool true)) Q E s := by
  unfold pyHash
  show wpAny _ _ (pyHashByItsType (.bool true)) Q E s
  unfold pyHashByItsType
  have hv : [Value.bool true].any Value.onHeap = false := rfl
  refine wpAny_bind ?_
  rw [cRoomFor, if_neg (by rw [hv]; exact Bool.false_ne_true)]
  refine wpAny_pure ?_
  refine wpAny_bind (wpAny_specialOf (tyBool s true) F.slot_bool_hash.lookup ?_)
  show wpAny _ _ (if (some (Value.builtin "int.__hash__") == some Value.none) = true then _ else _) Q E s
  rw [if_neg (by decide)]
  refine wpAny_bind (wpAny_specialOf (tyBool s true) F.slot_bool_hash.lookup ?_)
  show wpAny _ _ (callSpecialIfBoundUnlessNone? (.bool true) "__hash__" _ >>= _) Q E s
  refine wpAny_bind (wpAny_callSpecialIfBoundUnlessNone?_slot (tyBool s true) F.slot_bool_hash
    (wpAny_call_entry F.slot_bool_hash (tyBool s true) F.entry_int_hash ?_ (F.args_int_hash_1 _)))
  show wpAny _ _ (do ret (← mkInt 1)) _ _ s
  refine wpAny_ret_mkInt ?_
  exact wpAny_pure h

/-! ## sets of True -/
def tb (led : Bool) : SetTable := { mask := 7, place := #[1], dummies := #[], finger := 0, led := led, moves := 0, plain := true }
def isS0 (led : Bool) : Obj → Prop := fun o => o = { cls := .type "set", data := .set #[] 0 (.fresh 0 0 led) }
def isS1 (led : Bool) : Obj → Prop := fun o => ∃ ep, o = { cls := .type "set", data := .set #[(1, .bool true)] ep (tb led) }
theorem lay_true (led : Bool) : layNew (.fresh 0 0 led) #[] 1 (.bool true) = (#[(1, .bool true)], tb led, false, false) := rfl
theorem eq_true {Q : Bool → Shared → Prop} (h : Q true s) : wpAny (model prog w) A (eqBool (.bool true) (.bool true)) Q E s := by
  unfold eqBool
  refine wpAny_holding ?_
  rw [if_pos (by decide)]
  exact wpAny_bind (wpAny_rule (wpAny_pure h))
theorem l_newSet {Q : Value → Shared → Prop} (C : St s₀ L m led s) (h : ∀ a s', St s₀ L m ((a, isS0 (!w.params.followText "set-order")) :: led) s' → Q (.ref a) s') : wpAny (model prog w) A (newSet (.type "set")) Q E s := by
  unfold newSet setsByText
  refine wpAny_bind (wpAny_bind (wpAny_askSetting (wpAny_pure ?_)))
  dsimp only
  simp only [newObj]
  exact wpAny_bind (wpAny_alloc (wpAny_pure (h _ _ (C.add (Keeps.heap (push_kp _ _)) (push_none s) ⟨_, Heap.get?_push_size _ rfl, rfl⟩))))
theorem setAdd_true0 {a : Addr} {led' : Bool} {Q : Bool → Shared → Prop} (C : St s₀ L m ((a, isS0 led') :: led) s) (h : ∀ s', St s₀ L m ((a, isS1 led') :: led) s' → Q true s') : wpAny (model prog w) A (setAdd a (.bool true)) Q E s := by
  obtain ⟨_, ho, rfl⟩ := C.get (.head _)
  unfold setAdd
  refine wpAny_holding (wpAny_bind (hash_true ?_))
  have C' := C.keeps (Keeps.toks (s.toks + 1))
  have hf : (SetTable.fresh 0 0 led').fits (#[] : Array (Int × Value)).size = true := rfl
  unfold setAddHashed setAddHashedIn
  refine wpAny_holding (wpAny_bind (wpAny_setState_of (s := { s with toks := s.toks + 1 }) ho rfl hf ?_))
  dsimp only
  rw [if_pos (show byScan (.bool true) #[] = true by decide +kernel)]
  unfold setAddByScan
  refine wpAny_bind ?_
  refine wpAny_bind (wpAny_rule ?_)
  refine wpAny_bind ?_
  show wpAny _ _ (pure ScanMet.absent) _ _ _
  refine wpAny_pure ?_
  rw [lay_true]
  dsimp only
  refine wpAny_bind (wpAny_pure ?_)
  refine wpAny_bind (wpAny_pure ?_)
  refine wpAny_bind ?_
  rw [if_pos (show (true : Bool) = true from rfl)]
  refine wpAny_storeSet_of (s := { s with toks := s.toks + 1 }) ho rfl ?_
  rw [if_neg (by cases led' <;> decide +kernel)]
  refine wpAny_pure (wpAny_pure ?_)
  refine h _ (C'.change (t := s.toks + 1) (Heap.SameBut.update ..) ⟨_, Heap.get?_update_self _ ho rfl, ?_⟩)
  exact ⟨1, rfl⟩
theorem setAdd_true1 {a : Addr} {led' : Bool} {Q : Bool → Shared → Prop} (C : St s₀ L m ((a, isS1 led') :: led) s) (h : ∀ s', St s₀ L m ((a, isS1 led') :: led) s' → Q false s') : wpAny (model prog w) A (setAdd a (.bool true)) Q E s := by
  obtain ⟨_, ho, ep, rfl⟩ := C.get (.head _)
  unfold setAdd
  refine wpAny_holding (wpAny_bind (hash_true ?_))
  have C' := C.keeps (Keeps.toks (s.toks + 1))
  have hf : (tb led').fits (#[(1, .bool true)] : Array (Int × Value)).size = true := by cases led' <;> decide +kernel
  unfold setAddHashed setAddHashedIn
  refine wpAny_holding (wpAny_bind (wpAny_setState_of (s := { s with toks := s.toks + 1 }) ho rfl hf ?_))
  dsimp only
  rw [if_pos (show byScan (.bool true) #[(1, .bool true)] = true by decide +kernel)]
  unfold setAddByScan
  refine wpAny_bind ?_
  refine wpAny_bind (wpAny_rule ?_)
  refine wpAny_bind ?_
  show wpAny _ _ (setScanFrom a (.bool true) 1 true [(1, .bool true)] 0) _ _ _
  unfold setScanFrom
  rw [if_pos (show ((1 : Int) == 1) = true by decide)]
  refine wpAny_bind (wpAny_setEpoch_of (s := { s with toks := s.toks + 1 }) ho rfl hf ?_)
  refine wpAny_bind (eq_true ?_)
  rw [if_pos (by decide)]
  refine wpAny_pure ?_
  refine wpAny_pure (wpAny_pure ?_)
  exact h _ C'
theorem l_set_add {a : Addr} {led' : Bool} {P : Obj → Prop} {Q : Value → Shared → Prop} (hP : P = isS0 led' ∨ P = isS1 led') (C : St s₀ L m ((a, P) :: led) s) (h : ∀ s', St s₀ L m ((a, isS1 led') :: led) s' → Q .none s') :
    wpAny (model prog w) A (call (.builtin "set.add") [.ref a, .bool true]) Q E s := by
  have hT : s.TypeIs (.ref a) "set" := by
    obtain ⟨_, ho, q⟩ := C.get (.head _)
    rcases hP with rfl | rfl
    · obtain rfl := q; exact ⟨_, ho, rfl⟩
    · obtain ⟨ep, rfl⟩ := q; exact ⟨_, ho, rfl⟩
  refine wpAny_call_entry F.slot_set_add hT F.entry_set_add ?_ (F.args_set_add_2 _ _)
  unfold Builtin.«set.add» Builtin.Frozenset.oneOther
  simp only [List.isEmpty_nil, bind_assoc]
  unfold Builtin.Frozenset.addrOf
  refine wpAny_bind (wpAny_pure ?_)
  try dsimp only
  refine wpAny_bind (wpAny_pure ?_)
  try dsimp only
  have fin : ∀ (b : Bool) s', St s₀ L m ((a, isS1 led') :: led) s' → wpAny (model prog w) A.in1 (ret Value.none) (fun fin s' => ∃ v, fin = .done (.ret v) ∧ Q v s') E s' := fun b s' C' => wpAny_pure ⟨_, rfl, h s' C'⟩
  refine wpAny_bind ?_
  rcases hP with rfl | rfl
  · exact setAdd_true0 C (fun s' C' => fin true s' C')
  · exact setAdd_true1 C (fun s' C' => fin true s' C')
end
-- part B11
namespace MF
theorem owner_si : Manifest.owners.lookup (String.ofList ['r', 'o', 't', 'a', 'r', 'e', 't', 'i', '_', 't', 'e', 's'].reverse) = some Manifest.sig_set_iterator := by kernel_rfl
theorem slot_si_next : Slot "set_iterator" "__next__" "set_iterator.__next__" :=
  .of (owner := "set_iterator") (n := "__next__") (by rw [typeLookup_type, builtinLookup_eq_fast]; kernel_rfl) (by decide +kernel) (by decide +kernel) (by decide +kernel)
    (by first | exact .inl (by decide +kernel) | exact .inr (by decide +kernel)) (by rw [isSubtype_type]; kernel_rfl)
theorem args_si_next_1 (a : Value) : argsOk "set_iterator.__next__" ⟨[a], []⟩ := by
  unfold argsOk; rw [signature?_of (id := "set_iterator.__next__") (n := ['_', '_', 't', 'x', 'e', 'n', '_', '_']) (o := ['r', 'o', 't', 'a', 'r', 'e', 't', 'i', '_', 't', 'e', 's']) (by kernel_rfl) owner_si]; kernel_rfl
theorem entry_si_next : entryFor table "set_iterator.__next__" = some Builtin.«set_iterator.__next__» := entryFor_of_tree (by kernel_rfl)
theorem entry_set_iter : entryFor table "set.__iter__" = some Builtin.«frozenset.__iter__» :=
  entryFor_alias (id' := "frozenset.__iter__") (by kernel_rfl) rfl (by decide +kernel) (by kernel_rfl)
end MF
section
variable {prog : Program} {w : World} {M : Model} {A : Around} {E : Value → Shared → Prop} {s₀ s s' : Shared} {L : Addr} {m : Str → Option Value} {led : List (Addr × (Obj → Prop))} {env : Env} {sc : Scope} {mg mb : Str → Option Value}
variable {x y : Str} {t u : Tok} {vs ws : List Value} {xs : List Str}

def isSi (a : Addr) (slot i ep : Nat) : Obj → Prop := fun o => o = { cls := .type "set_iterator", data := .fields #[rawInt slot, rawInt i, .ref a, rawInt (1 : Nat), rawInt ep] }
def isSe (led : Bool) (ep : Nat) : Obj → Prop := fun o => o = { cls := .type "set", data := .set #[(1, .bool true)] ep (tb led) }
theorem tb_fits (led : Bool) : (tb led).fits (#[(1, .bool true)] : Array (Int × Value)).size = true := by cases led <;> decide +kernel
theorem iter_set {a : Addr} {Q : Value → Shared → Prop} {b : Bool} (C : St s₀ L m ((a, isS1 b) :: led) s) (h : ∀ it ep s', St s₀ L m ((it, isSi a 0 0 ep) :: (a, isSe b ep) :: led) s' → Q (.ref it) s') :
    wpAny (model prog w) A (pyIter (.ref a)) Q E s := by
  obtain ⟨_, ho, ep, rfl⟩ := C.get (.head _)
  have hT : s.TypeIs (.ref a) "set" := ⟨_, ho, rfl⟩
  have C' : St s₀ L m ((a, isSe b ep) :: led) s := ⟨C.c, fun p hp => by
    rcases List.mem_cons.mp hp with rfl | hp
    · exact ⟨_, ho, rfl⟩
    · exact C.own p (.tail _ hp), fun p hp => by
    rcases List.mem_cons.mp hp with rfl | hp
    · exact C.ne (a, isS1 b) (.head _)
    · exact C.ne p (.tail _ hp), C.nd⟩
  refine wpAny_pyIter_slot hT F.slot_set_iter (wpAny_call_entry F.slot_set_iter hT MF.entry_set_iter ?_ (F.args_set_iter_1 _))
  unfold Builtin.«frozenset.__iter__» Builtin.Frozenset.slot0
  refine wpAny_bind (wpAny_bind ?_)
  show wpAny _ _ (pure (Value.ref a, [])) _ _ _
  refine wpAny_pure ?_
  show wpAny _ _ (pure a) _ _ _
  refine wpAny_pure ?_
  unfold Builtin.Frozenset.sizeOf setEntries
  refine wpAny_bind (wpAny_bind (wpAny_bind (wpAny_setState_of ho rfl (tb_fits b) (wpAny_pure (wpAny_pure ?_)))))
  unfold setDrawn setsByText
  refine wpAny_bind ?_
  refine wpAny_bind (wpAny_setState_of ho rfl (tb_fits b) ?_)
  refine wpAny_bind (wpAny_bind (wpAny_askSetting (wpAny_pure ?_)))
  refine wpAny_pure ?_
  rw [if_neg (by simp [tb]; intro _; rfl)]
  unfold setEpoch newFields
  refine wpAny_bind (wpAny_pure ?_)
  refine wpAny_bind ?_
  refine wpAny_bind (wpAny_setState_of ho rfl (tb_fits b) (wpAny_pure ?_))
  refine wpAny_bind ?_
  refine wpAny_newObj_type ?_ 
  exact wpAny_pure ⟨_, rfl, "set_iterator", _, ⟨_, Heap.get?_push_size _ rfl, rfl⟩, MF.slot_si_next.lookup, h _ ep _ (C'.add (Keeps.heap (push_kp _ _)) (push_none s) ⟨_, Heap.get?_push_size _ rfl, rfl⟩)⟩

end
-- part B12
section
variable {prog : Program} {w : World} {M : Model} {A : Around} {E : Value → Shared → Prop} {s₀ s s' : Shared} {L : Addr} {m : Str → Option Value} {led : List (Addr × (Obj → Prop))} {env : Env} {sc : Scope} {mg mb : Str → Option Value}
variable {x y : Str} {t u : Tok} {vs ws : List Value} {xs : List Str}

theorem pick_one {α : Type} (f : Nat → Nat) (x : α) : pickOrder f #[x] = #[x] := by
  unfold pickOrder
  show pickOrder.go f 1 0 [x] #[] = _
  unfold pickOrder.go
  simp [pickOrder.go, Nat.mod_one]
theorem next_set {a it : Addr} {ep slot i : Nat} {b : Bool} {Q : Option Value → Shared → Prop} (hb : b = !w.params.followText "set-order") (hi : i = 0 ∧ slot = 0) (C : St s₀ L m ((it, isSi a slot i ep) :: (a, isSe b ep) :: led) s)
    (h : ∀ slot' s', (w.params.followText "set-order" = false → slot' = 2) → St s₀ L m ((it, isSi a slot' 1 ep) :: (a, isSe b ep) :: led) s' → Q (some (.bool true)) s') : wpAny (model prog w) A (pyNext (.ref it)) Q E s := by
  obtain ⟨rfl, rfl⟩ := hi
  obtain ⟨_, hit, rfl⟩ := C.get (.head _)
  obtain ⟨_, ho, rfl⟩ := C.get (.tail _ (.head _))
  have hT : s.TypeIs (.ref it) "set_iterator" := ⟨_, hit, rfl⟩
  unfold pyNext
  refine wpAny_bind (wpAny_attempt (wpAny_callSpecial?_slot (name := Str.ofString "__next__") hT MF.slot_si_next (wpAny_call_entry MF.slot_si_next hT MF.entry_si_next ?_ (MF.args_si_next_1 _))))
  unfold Builtin.«set_iterator.__next__»
  refine wpAny_bind ?_
  show wpAny _ _ (pure (Value.ref it, [])) _ _ _
  refine wpAny_pure ?_
  refine wpAny_bind (wpAny_fieldsOf hit rfl ?_)
  show wpAny _ _ (setEntries a >>= _) _ _ _
  have fin : ∀ n : Nat, (w.params.followText "set-order" = false → n = 2) → wpAny (model prog w) A.in1 (do setField (.ref it) 0 (rawInt (n : Nat)); setField (.ref it) 1 (rawInt (((0 : Nat) : Int) + 1)); ret (.bool true))
      (fun fin s' => ∃ v, fin = Fin.done (.ret v) ∧ wpAny (model prog w) A (pure (some v)) Q E s') (fun e s' => wpAny (model prog w) A (do if (← isInstance e (.type "StopIteration")) = true then pure none else throw e) Q E s') s := fun n hn => by
    refine wpAny_bind (wpAny_setField_rec hit (by simp) fun h₁ hit₁ hs₁ => ?_)
    refine wpAny_bind (wpAny_setField_rec hit₁ (by simp) fun h₂ hit₂ hs₂ => ?_)
    have C₁ := C.change (t := s.toks) (P' := isSi a n 1 ep) ((show Heap.SameBut it s.heap h₁ from hs₁).trans hs₂) ⟨_, hit₂, rfl⟩
    exact wpAny_pure ⟨_, rfl, wpAny_pure (h n _ hn C₁)⟩
  unfold setEntries
  refine wpAny_bind (wpAny_bind (wpAny_setState_of ho rfl (tb_fits b) (wpAny_pure ?_)))
  rw [if_neg (by simp)]
  unfold setNext setsByText setWalk setsByText
  refine wpAny_bind (wpAny_bind (wpAny_setState_of ho rfl (tb_fits b) ?_))
  refine wpAny_bind (wpAny_bind (wpAny_askSetting (wpAny_pure ?_)))
  cases hbt : (model prog w).w.params.followText "set-order" with
  | true =>
    rw [if_pos rfl]
    rw [if_neg (by simp)]
    refine wpAny_bind ?_
    refine wpAny_bind (wpAny_setState_of ho rfl (tb_fits b) ?_)
    refine wpAny_bind (wpAny_bind (wpAny_askSetting (wpAny_pure ?_)))
    rw [hbt, if_pos rfl]
    refine wpAny_bind (wpAny_askSetting (wpAny_pure ?_))
    have e : (Option.map (fun e : Int × Value => (e.2, ((0 : Nat) : Int).toNat)) (pickOrder ({ program := (model prog w).prog, params := (model prog w).w.params : Setting }.params.setOrder a ep) #[(1, Value.bool true)])[((0 : Nat) : Int).toNat]?) = some (.bool true, 0) := by
      rw [pick_one]; rfl
    refine wpAny_of_eq (a := some (Value.bool true, 0)) (congrArg pure e) ?_
    exact fin 0 (fun z => by rw [show w.params.followText "set-order" = true from hbt] at z; cases z)
  | false =>
    rw [if_neg Bool.false_ne_true]
    have eb : b = true := by rw [hb, show w.params.followText "set-order" = false from hbt]; rfl
    subst eb
    refine wpAny_of_eq (a := some (Value.bool true, 2)) rfl ?_
    exact fin 2 (fun _ => rfl)
/-- past the item -/
theorem next_set_end {a it : Addr} {ep slot : Nat} {b : Bool} {Q : Option Value → Shared → Prop} (hh : A.handled = none) (hb : b = !w.params.followText "set-order") (hs : w.params.followText "set-order" = false → slot = 2) (C : St s₀ L m ((it, isSi a slot 1 ep) :: (a, isSe b ep) :: led) s)
    (h : ∀ s', St s₀ L m ((a, isSe b ep) :: led) s' → Q none s') : wpAny (model prog w) A (pyNext (.ref it)) Q E s := by
  obtain ⟨_, hit, rfl⟩ := C.get (.head _)
  obtain ⟨_, ho, rfl⟩ := C.get (.tail _ (.head _))
  have hT : s.TypeIs (.ref it) "set_iterator" := ⟨_, hit, rfl⟩
  unfold pyNext
  refine wpAny_bind (wpAny_attempt (wpAny_callSpecial?_slot (name := Str.ofString "__next__") hT MF.slot_si_next (wpAny_call_entry MF.slot_si_next hT MF.entry_si_next ?_ (MF.args_si_next_1 _))))
  unfold Builtin.«set_iterator.__next__»
  refine wpAny_bind ?_
  show wpAny _ _ (pure (Value.ref it, [])) _ _ _
  refine wpAny_pure ?_
  refine wpAny_bind (wpAny_fieldsOf hit rfl ?_)
  show wpAny _ _ (setEntries a >>= _) _ _ _
  have fin : wpAny (model prog w) A.in1 (do setField (.ref it) 2 .none; raiseNew (← newExc (.type "StopIteration") [])) (fun fin s' => ∃ v, fin = Fin.done (.ret v) ∧ wpAny (model prog w) A (pure (some v)) Q E s')
      (fun e s' => wpAny (model prog w) A (do if (← isInstance e (.type "StopIteration")) = true then pure none else throw e) Q E s') s := by
    refine wpAny_bind (wpAny_setField_rec hit (by simp) fun h₁ hit₁ hs₁ => ?_)
    refine wpAny_bind ?_
    simp only [newExc, newTuple]
    refine wpAny_bind (wpAny_newObj_type ?_ (by size_fits))
    refine wpAny_bind (m := firstArgMember _ _) (wpAny_of_eq (a := Value.none) (by first | rfl | (simp only [firstArgMember]; rfl)) ?_)
    refine wpAny_newObj_type ?_ (by size_fits)
    simp only [raiseNew]
    refine wpAny_bind (wpAny_handled ?_)
    rw [show A.in1.handled = none from hh]
    refine wpAny_bind (wpAny_pure (wpAny_throw ?_))
    refine wpAny_bind (wpAny_isInstance (T := "StopIteration") (b := true) ⟨_, Heap.get?_push_size _ rfl, rfl⟩ isSubtype_stop ?_)
    rw [if_pos rfl]
    have hs₁' : Heap.SameBut it s.heap h₁ := hs₁
    exact wpAny_pure (h _ (C.lose (t := s.toks) ((hs₁'.extBut.push _).push _)))
  unfold setEntries
  refine wpAny_bind (wpAny_bind (wpAny_setState_of ho rfl (tb_fits b) (wpAny_pure ?_)))
  rw [if_neg (by simp)]
  unfold setNext setsByText setWalk setsByText
  refine wpAny_bind (wpAny_bind (wpAny_setState_of ho rfl (tb_fits b) ?_))
  refine wpAny_bind (wpAny_bind (wpAny_askSetting (wpAny_pure ?_)))
  cases hbt : (model prog w).w.params.followText "set-order" with
  | true =>
    rw [if_pos rfl]
    rw [if_neg (by simp)]
    refine wpAny_bind ?_
    refine wpAny_bind (wpAny_setState_of ho rfl (tb_fits b) ?_)
    refine wpAny_bind (wpAny_bind (wpAny_askSetting (wpAny_pure ?_)))
    rw [hbt, if_pos rfl]
    refine wpAny_bind (wpAny_askSetting (wpAny_pure ?_))
    have e : (Option.map (fun e : Int × Value => (e.2, ((slot : Nat) : Int).toNat)) (pickOrder ({ program := (model prog w).prog, params := (model prog w).w.params : Setting }.params.setOrder a ep) #[(1, Value.bool true)])[((1 : Nat) : Int).toNat]?) = none := by
      rw [pick_one]; rfl
    refine wpAny_of_eq (a := none) (congrArg pure e) ?_
    exact fin
  | false =>
    rw [if_neg Bool.false_ne_true]
    have eb : b = true := by rw [hb, show w.params.followText "set-order" = false from hbt]; rfl
    have es := hs hbt
    subst eb es
    refine wpAny_of_eq (a := none) rfl ?_
    exact fin
end
-- part B13
section
variable {prog : Program} {w : World} {M : Model} {A : Around} {E : Value → Shared → Prop} {s₀ s s' : Shared} {L : Addr} {m : Str → Option Value} {led : List (Addr × (Obj → Prop))} {env : Env} {sc : Scope} {mg mb : Str → Option Value}
variable {x y : Str} {t u : Tok} {vs ws : List Value} {xs : List Str}

theorem comp_base {sb : Shared} {oI oD oF : Obj} {h₁ : Heap} {I D C tk : Nat} {HI HD : Heap} (fI : oI.isFreed = false) (fD : oD.isFreed = false) (hI : sb.heap.objs.size = I) (hHI : sb.heap.push oI = HI) (hD : HI.objs.size = D) (hHD : HI.push oD = HD) (hC : HD.objs.size = C)
    (hns₁ : h₁.Ns C nul) (hsb₁ : Heap.SameBut C (HD.push oF) h₁) : St sb C nul [(I, fun o => o = oI), (D, fun o => o = oD)] { sb with heap := h₁, toks := tk } := by
  have eD : D = I + 1 := by rw [← hD, ← hHI, Heap.size_push, hI]
  have eC : C = I + 2 := by rw [← hC, ← hHD, Heap.size_push, hD, eD]
  have gI : HI.get? I = some oI := by rw [← hHI, ← hI]; exact Heap.get?_push_size _ fI
  have gD : HD.get? D = some oD := by rw [← hHD, ← hD]; exact Heap.get?_push_size _ fD
  have kI : Kp sb.heap HI := by rw [← hHI]; exact push_kp _ _
  have kD : Kp HI HD := by rw [← hHD]; exact push_kp _ _
  have kC : Kp HD h₁ := fun b o e => hsb₁.extBut b o (by rw [← hC]; exact Nat.ne_of_lt (Heap.lt_size e)) (Heap.get?_push_of_some _ e)
  have none_of : ∀ a, I ≤ a → sb.heap.get? a = none := fun a ha => none_from sb a (by rw [hI]; exact ha)
  refine ⟨⟨⟨h₁, _, rfl⟩, hns₁, fun b o e => kC _ _ (kD _ _ (kI _ _ e)), by rw [hI]; omega⟩, fun p hp => ?_, fun p hp => ?_, ?_⟩
  · simp at hp
    rcases hp with rfl | rfl
    · exact ⟨_, kC _ _ (kD _ _ gI), rfl⟩
    · exact ⟨_, kC _ _ gD, rfl⟩
  · simp at hp
    rcases hp with rfl | rfl
    · exact ⟨by show I ≠ C; omega, none_of _ (Nat.le_refl _)⟩
    · exact ⟨by show D ≠ C; omega, none_of _ (by show I ≤ D; omega)⟩
  · show List.Nodup [I, D]
    exact List.nodup_cons.mpr ⟨fun q => by have z : I = D := List.mem_singleton.mp q; rw [eD] at z; exact absurd z (Nat.ne_of_lt (Nat.lt_succ_self _)), List.nodup_cons.mpr ⟨List.not_mem_nil, List.nodup_nil⟩⟩
theorem St.weaken {a : Addr} {P P' : Obj → Prop} (C : St s₀ L m ((a, P) :: led) s) (h : ∀ o, P o → P' o) : St s₀ L m ((a, P') :: led) s :=
  ⟨C.c, fun p hp => by
    rcases List.mem_cons.mp hp with rfl | hp
    · obtain ⟨o, ho, q⟩ := C.own (a, P) (.head _)
      exact ⟨o, ho, h o q⟩
    · exact C.own p (.tail _ hp), fun p hp => by
    rcases List.mem_cons.mp hp with rfl | hp
    · exact C.ne (a, P) (.head _)
    · exact C.ne p (.tail _ hp), C.nd⟩
def isTi (ax : Addr) (i : Nat) : Obj → Prop := fun o => o.cls = .type "tuple_iterator" ∧ o.data = .fields #[.ref ax, .int (i : Nat) 0]

/-- a list comprehension over a tuple -/
theorem comp_tuple {sb : Shared} {ax : Addr} {vs : List Value} {elt iter : Expr} {x : Str} {px : Pos} {ifs : List Expr} {scope : Scope} {cl : List (Str × Addr)} {pos : Pos} {d u : Nat} {R : Value → Addr → Result → Shared → Prop}
    (hE : EnvOk env sc L) (r : Rm A d u) (hl : sb.heap.IsTuple ax vs.toArray) (hcell : ∀ y ∈ scope.names, y.2 ≠ .cell) (hkind : scope.kind = .function) (hx : scope.names.lookup x = some .local)
    (J : Nat → List Value → List (Addr × (Obj → Prop)) → Prop) (h0 : J 0 [] []) (hJ : ∀ i ys led, J i ys led → ys.length ≤ 100000)
    (turn : ∀ C I D P i v ys led m s, vs[i]? = some v → J i ys led → EnvOk (compEnvC scope cl C env) (relabelS scope sc) C → St sb C (upd m x v) ((I, P) :: (D, isL ys) :: led) s →
      wpAny (model prog w) A (testsOf ifs (compEnvC scope cl C env)) (CompTurn prog w A sb C I D P (J (i + 1)) ys elt (compEnvC scope cl C env)) (fun _ _ => False) s)
    (after : ∀ C D ys led m s, J vs.length ys led → St sb C m ((D, isL ys) :: led) s → R (.ref D) C (.ok .next) s) :
    wpAny (model prog w) A (pyIter (.ref ax)) (fun it s₂ => wpAny (model prog w) A (newList []) (fun acc s₃ => wpAny (model prog w) A (newFunctionEnv scope env.globals cl [] env.qual none .none (some env)) (fun cenv s₄ =>
      codeAny (model prog w) A (.compStart (.ListComp elt [⟨.Name x px, iter, ifs, 0⟩] scope pos) 0 it acc { cenv with scope := relabel scope env }) (R acc cenv.locals) s₄) E s₃) E s₂) E sb := by
  refine wpAny_pyIter_tuple hl (wpAny_newObj_type (wpAny_newFunctionEnv hcell (by intro y hy; simp at hy) (fun h₁ hns₁ hsb₁ => ?_) hkind) (by show 0 ≤ sizeLine; omega))
  dsimp only at hns₁ hsb₁ ⊢
  generalize hI : sb.heap.objs.size = I at *
  generalize hHI : sb.heap.push { cls := .type "tuple_iterator", data := .fields #[.ref ax, .int 0 0] } = HI at *
  generalize hD : HI.objs.size = D at *
  generalize hHD : HI.push { cls := .type "list", dict := none, data := .seq ([] : List Value).toArray } = HD at *
  generalize hC : HD.objs.size = C at *
  have S1 := comp_base (tk := sb.toks + ([] : List (Str × Value)).length) rfl rfl hI hHI hD hHD hC hns₁ hsb₁
  have S0 := (((S1.weaken (P' := isTi ax 0) (fun o e => by rw [e]; exact ⟨rfl, rfl⟩)).swap).weaken (P' := isL []) (fun o e => by rw [e]; exact ⟨0, rfl⟩)).swap
  clear S1
  have hEc : EnvOk (compEnvC scope cl C env) (relabelS scope sc) C := comp_env hE hkind
  have hxl : (relabelS scope sc).names.lookup x = some .local := by
    have := lookup_relabel_local (env := env) hx
    rw [← relabel_of hE scope]
    exact this
  have it := iter_tuple (prog := prog) (w := w) (A := A) r.h I ax vs
  have loop : ∀ s₃ : Shared, s₃ = { sb with heap := h₁, toks := sb.toks + ([] : List (Str × Value)).length } →
      codeAny (model prog w) A (.compLoop (.ListComp elt [⟨.Name x px, iter, ifs, 0⟩] scope pos) 0 (.ref I) (.ref D) (compEnvC scope cl C env)) (R (.ref D) C) s₃ := by
    rintro s₃ rfl
    refine codeAny_compLoop_tests (fun k s' => ∃ i ys m led, k = vs.length + 1 - i ∧ i ≤ vs.length ∧ J i ys led ∧ St sb C m ((I, isTi ax i) :: (D, isL ys) :: led) s') ?_ (vs.length + 1) ⟨0, [], nul, [], rfl, Nat.zero_le _, h0, S0⟩
    rintro k s' ⟨i, ys, m, led, rfl, hi, hj, c⟩
    by_cases hlt : i < vs.length
    · refine it.next i s' _ _ hlt (c.get (.head _)) (hl.at fun o e => c.c.keep _ o e) fun v h' t hv ho hs => ?_
      refine a_name (st (c.change (t := t) hs ho) hEc hxl fun s₂ c₂ => ?_)
      refine wpAny_mono (turn C I D _ i v ys led m s₂ hv hj hEc c₂) (fun ok s₃ h₃ => ?_) (fun _ _ z => z.elim)
      cases ok with
      | false =>
        rw [if_neg Bool.false_ne_true]
        unfold CompTurn at h₃
        rw [if_neg Bool.false_ne_true] at h₃
        obtain ⟨m'', led'', j, c₃⟩ := h₃
        exact ⟨vs.length + 1 - (i + 1), by omega, i + 1, ys, m'', led'', rfl, hlt, j, c₃⟩
      | true =>
        rw [if_pos rfl]
        unfold CompTurn at h₃
        rw [if_pos rfl] at h₃
        refine wpAny_mono h₃ (fun y s₄ h₄ => ?_) (fun _ _ z => z.elim)
        obtain ⟨m'', led'', j, c₄⟩ := h₄
        refine l_append c₄.swap (fun s₅ c₅ => ?_) (hJ i ys led hj)
        exact ⟨vs.length + 1 - (i + 1), by omega, i + 1, ys ++ [y], m'', led'', rfl, hlt, j, c₅.swap⟩
    · have e : i = vs.length := by omega
      subst e
      refine it.done s' _ _ (c.get (.head _)) (hl.at fun o e => c.c.keep _ o e) fun h' he => ?_
      exact after C D ys led m _ hj (c.lose (t := s'.toks) he)
  exact codeAny_compStart_list (loop _ rfl) (wpAny_pyIter_tupleiter (i := 0) (S0.get (.head _)) (loop _ rfl))
end
-- part B14
section
variable {prog : Program} {w : World} {M : Model} {A : Around} {E : Value → Shared → Prop} {R : Result → Shared → Prop} {s₀ s s' : Shared} {L : Addr} {m : Str → Option Value} {led : List (Addr × (Obj → Prop))} {env : Env} {sc : Scope} {mg mb : Str → Option Value}
variable {x y : Str} {t u : Tok} {vs ws : List Value} {xs : List Str}

theorem turn_set (elt target iter : Expr) (scope : Scope) (pos : Pos) (it acc : Value) (env : Env) :
    compTurn (.SetComp elt [⟨target, iter, [], 0⟩] scope pos) 0 it acc env = (standAt iter.pos >>= fun _ => pyNext it >>= fun r => match r with
      | none => pure (.done .next)
      | some v => letOwnedTupleGo target it v >>= fun _ => assign target env v >>= fun _ =>
        (eval elt env >>= fun x => standAt elt.pos >>= fun _ => call (.builtin "set.add") [acc, x] >>= fun _ => pure ()) >>= fun _ =>
          again (.compLoop (.SetComp elt [⟨target, iter, [], 0⟩] scope pos) 0 it acc env)) := by rfl
theorem loop_set {elt target iter : Expr} {scope : Scope} {pos : Pos} {it acc : Value} {env : Env} (I : Nat → Shared → Prop)
    (turn : ∀ n s, I n s → wpAny (model prog w) A (pyNext it) (fun r s₁ => match r with
      | none => R (.ok .next) s₁
      | some v => wpAny (model prog w) A (assign target env v) (fun _ s₂ => wpAny (model prog w) A (eval elt env) (fun x s₃ =>
          wpAny (model prog w) A (call (.builtin "set.add") [acc, x]) (fun _ s₄ => ∃ m, m < n ∧ I m s₄) (notedBy (model prog w) A env fun e s' => R (.error e) s') s₃)
          (notedBy (model prog w) A env fun e s' => R (.error e) s') s₂) (notedBy (model prog w) A env fun e s' => R (.error e) s') s₁) (notedBy (model prog w) A env fun e s' => R (.error e) s') s)
    (n : Nat) (h : I n s) (ht : ∀ v, letOwnedTupleGo target it v = pure ()) :
    codeAny (model prog w) A (.compLoop (.SetComp elt [⟨target, iter, [], 0⟩] scope pos) 0 it acc env) R s := by
  refine codeAny_loop rfl I (fun n s hI => ?_) n h
  show wpAny _ _ ((compTurn (.SetComp elt [⟨target, iter, [], 0⟩] scope pos) 0 it acc env).onRaise (fun x => do noteFrame x env; theTreesLotGoes x)) _ _ s
  refine wpAny_noted ?_
  rw [turn_set]
  refine wpAny_bind (wpAny_standAt (wpAny_bind (wpAny_mono (turn n s hI) (fun r s₁ h₁ => ?_) fun _ _ h' => h')))
  cases r with
  | none => exact wpAny_pure h₁
  | some v =>
    refine wpAny_bind (wpAny_of_eq (ht v) ?_)
    exact wpAny_bind (wpAny_mono h₁ (fun _ s₂ h₂ => wpAny_bind (wpAny_bind (wpAny_mono h₂ (fun x s₃ h₃ => wpAny_bind (wpAny_standAt (wpAny_bind (wpAny_mono h₃
      (fun _ s₄ h₄ => wpAny_pure (wpAny_pure ⟨rfl, h₄⟩)) fun _ _ h' => h')))) fun _ _ h' => h'))) fun _ _ h' => h')
theorem start_set {elt target iter ifs rest scope pos it acc env}
    (h0 : codeAny (model prog w) A (.compLoop (.SetComp elt (⟨target, iter, ifs, 0⟩ :: rest) scope pos) 0 it acc env) R s)
    (h : wpAny (model prog w) A (pyIter it) (fun it' s' => codeAny (model prog w) A (.compLoop (.SetComp elt (⟨target, iter, ifs, 0⟩ :: rest) scope pos) 0 it' acc env) R s')
      (notedBy (model prog w) A env fun x s' => R (.error x) s') s) :
    codeAny (model prog w) A (.compStart (.SetComp elt (⟨target, iter, ifs, 0⟩ :: rest) scope pos) 0 it acc env) R s := by
  refine codeAny_of_tree ?_
  show wpAny _ A ((compStart (.SetComp elt (⟨target, iter, ifs, 0⟩ :: rest) scope pos) 0 it acc env).onRaise (fun x => do noteFrame x env; standAt theWindowsPlace)) _ _ s
  refine wpAny_notedAt ?_
  unfold compStart
  show wpAny _ A (ask >>= _) _ _ s
  refine wpAny_bind (wpAny_askSetting (wpAny_ite ?_))
  split
  · first
      | exact wpAny_bind (wpAny_pure (wpAny_pure (And.intro rfl h0)))
      | exact wpAny_pure (And.intro rfl h0)
  · first
      | exact wpAny_bind (wpAny_rule (wpAny_bind (wpAny_standAt (wpAny_bind (wpAny_mono h (fun it' s' h' => wpAny_pure (And.intro rfl h')) fun _ _ x => x)))))
      | (refine wpAny_bind (wpAny_rule ?_); show wpAny _ _ (standAt iter.pos >>= _) _ _ s; exact wpAny_bind (wpAny_standAt (wpAny_bind (wpAny_mono h (fun it' s' h' => wpAny_pure (And.intro rfl h')) fun _ _ x => x))))

def isSn (b : Bool) (i : Nat) : Obj → Prop := if i = 0 then isS0 b else isS1 b
/-- a set comprehension over a tuple, all whose values are True -/
theorem comp_set {sb : Shared} {ax : Addr} {vs : List Value} {elt iter : Expr} {x : Str} {px : Pos} {scope : Scope} {cl : List (Str × Addr)} {pos : Pos} {d u : Nat} {R : Value → Addr → Result → Shared → Prop}
    (hE : EnvOk env sc L) (r : Rm A d u) (hl : sb.heap.IsTuple ax vs.toArray) (hcell : ∀ y ∈ scope.names, y.2 ≠ .cell) (hkind : scope.kind = .function) (hx : scope.names.lookup x = some .local) (hn : vs.length ≠ 0)
    (turn : ∀ (C I D : Addr) (P Pd : Obj → Prop) (i : Nat) (v : Value) (m : Str → Option Value) (s : Shared), vs[i]? = some v → EnvOk (compEnvC scope cl C env) (relabelS scope sc) C → St sb C (upd m x v) [(I, P), (D, Pd)] s →
      wpAny (model prog w) A (eval elt (compEnvC scope cl C env)) (fun y s₄ => y = .bool true ∧ ∃ m'', St sb C m'' [(I, P), (D, Pd)] s₄) (fun _ _ => False) s)
    (after : ∀ (C D : Addr) (m : Str → Option Value) (s : Shared), St sb C m [(D, isS1 (!w.params.followText "set-order"))] s → R (.ref D) C (.ok .next) s) :
    wpAny (model prog w) A (pyIter (.ref ax)) (fun it s₂ => wpAny (model prog w) A (newSet (.type "set")) (fun acc s₃ => wpAny (model prog w) A (newFunctionEnv scope env.globals cl [] env.qual none .none (some env)) (fun cenv s₄ =>
      codeAny (model prog w) A (.compStart (.SetComp elt [⟨.Name x px, iter, [], 0⟩] scope pos) 0 it acc { cenv with scope := relabel scope env }) (R acc cenv.locals) s₄) E s₃) E s₂) E sb := by
  have ns : ∀ (s : Shared) (Q : Value → Shared → Prop), Q (.ref s.heap.objs.size) { s with heap := s.heap.push { cls := .type "set", data := .set #[] 0 (.fresh 0 0 (!w.params.followText "set-order")) } } → wpAny (model prog w) A (newSet (.type "set")) Q E s := by
    intro s Q h
    unfold newSet setsByText
    refine wpAny_bind (wpAny_bind (wpAny_askSetting (wpAny_pure ?_)))
    dsimp only
    simp only [newObj]
    exact wpAny_bind (wpAny_alloc (wpAny_pure h))
  generalize hb : (!w.params.followText "set-order") = b at *
  refine wpAny_pyIter_tuple hl (ns _ _ (wpAny_newFunctionEnv hcell (by intro y hy; simp at hy) (fun h₁ hns₁ hsb₁ => ?_) hkind))
  dsimp only at hns₁ hsb₁ ⊢
  generalize hI : sb.heap.objs.size = I at *
  generalize hHI : sb.heap.push { cls := .type "tuple_iterator", data := .fields #[.ref ax, .int 0 0] } = HI at *
  generalize hD : HI.objs.size = D at *
  generalize hHD : HI.push { cls := .type "set", dict := none, data := .set #[] 0 (.fresh 0 0 b) } = HD at *
  generalize hC : HD.objs.size = C at *
  have S1 := comp_base (tk := sb.toks + ([] : List (Str × Value)).length) rfl rfl hI hHI hD hHD hC hns₁ hsb₁
  have S0 : St sb C nul [(I, isTi ax 0), (D, isSn b 0)] _ := (((S1.weaken (P' := isTi ax 0) (fun o e => by rw [e]; exact ⟨rfl, rfl⟩)).swap).weaken (P' := isSn b 0) (fun o e => e)).swap
  clear S1
  have hEc : EnvOk (compEnvC scope cl C env) (relabelS scope sc) C := comp_env hE hkind
  have hxl : (relabelS scope sc).names.lookup x = some .local := by
    have := lookup_relabel_local (env := env) hx
    rw [← relabel_of hE scope]
    exact this
  have it := iter_tuple (prog := prog) (w := w) (A := A) r.h I ax vs
  have loop : ∀ s₃ : Shared, s₃ = { sb with heap := h₁, toks := sb.toks + ([] : List (Str × Value)).length } →
      codeAny (model prog w) A (.compLoop (.SetComp elt [⟨.Name x px, iter, [], 0⟩] scope pos) 0 (.ref I) (.ref D) (compEnvC scope cl C env)) (R (.ref D) C) s₃ := by
    rintro s₃ rfl
    refine loop_set (fun k s' => ∃ i m, k = vs.length + 1 - i ∧ i ≤ vs.length ∧ St sb C m [(I, isTi ax i), (D, isSn b i)] s') ?_ (vs.length + 1) ⟨0, nul, rfl, Nat.zero_le _, S0⟩ (fun _ => rfl)
    rintro k s' ⟨i, m, rfl, hi, c⟩
    by_cases hlt : i < vs.length
    · refine it.next i s' _ _ hlt (c.get (.head _)) (hl.at fun o e => c.c.keep _ o e) fun v h' t hv ho hs => ?_
      refine a_name (st (c.change (t := t) hs ho) hEc hxl fun s₂ c₂ => ?_)
      refine wpAny_mono (turn C I D _ _ i v m s₂ hv hEc c₂) (fun y s₃ h₃ => ?_) (fun _ _ z => z.elim)
      obtain ⟨rfl, m'', c₄⟩ := h₃
      refine l_set_add (led' := b) (P := isSn b i) (by unfold isSn; split <;> simp) c₄.swap fun s₅ c₅ => ?_
      exact ⟨vs.length + 1 - (i + 1), by omega, i + 1, m'', rfl, hlt, c₅.swap⟩
    · have e : i = vs.length := by omega
      subst e
      refine it.done s' _ _ (c.get (.head _)) (hl.at fun o e => c.c.keep _ o e) fun h' he => ?_
      have c' := c.lose (t := s'.toks) he
      rw [show isSn b vs.length = isS1 b from if_neg hn] at c'
      exact after C D m _ c'
  exact start_set (loop _ rfl) (wpAny_pyIter_tupleiter (i := 0) (S0.get (.head _)) (loop _ rfl))

theorem e_setcomp {elt iter : Expr} {x : Str} {px : Pos} {ifs : List Expr} {scope : Scope} {cl : List (Str × Addr)} {pos : Pos} {Q : Value → Shared → Prop}
    (h : wpAny (model prog w) A (eval iter env) (fun xv s₁ => wpAny (model prog w) A (pyIter xv) (fun it s₂ => wpAny (model prog w) A (newSet (.type "set")) (fun acc s₃ => wpAny (model prog w) A (newFunctionEnv scope env.globals cl [] env.qual none .none (some env)) (fun cenv s₄ =>
      codeAny (model prog w) A (.compStart (.SetComp elt [⟨.Name x px, iter, ifs, 0⟩] scope pos) 0 it acc { cenv with scope := relabel scope env }) (compPost (model prog w) A E none Q acc cenv.locals) s₄) E s₃) E s₂) E s₁) E s)
    (hclos : closureFor scope env = pure cl) (hkind : scope.kind = .function) (hnames : ∀ y ∈ scope.names, y.2 = .local → scope.names.lookup y.1 = some .local)
    (hs : ∀ x, foldedSetIterable iter env x = pure x := by intro _; rfl) : wpAny (model prog w) A (eval (.SetComp elt [⟨.Name x px, iter, ifs, 0⟩] scope pos) env) Q E s := by
  show wpAny _ A (comprehension (.SetComp elt [⟨.Name x px, iter, ifs, 0⟩] scope pos) scope env (firstIterPos [⟨.Name x px, iter, ifs, 0⟩] pos) (newSet (.type "set")) false (firstIter [⟨.Name x px, iter, ifs, 0⟩] env)) Q E s
  exact wpAny_comprehension_free (use := none) rfl hs hclos hkind hnames h
theorem setcomp_post {Q : Value → Shared → Prop} {D C : Addr} {b : Bool} {m' : Str → Option Value} (C₀ : St s₀ L m led s) (c : St s C m' [(D, isS1 b)] s')
    (h : ∀ s'', St s₀ L m ((D, isS1 b) :: led) s'' → Q (.ref D) s'') : compPost (model prog w) A E none Q (.ref D) C (.ok .next) s' :=
  ⟨m', c.c.ns, fun h' hs => h _ ((C₀.lift c).lose (t := s'.toks) hs.extBut)⟩

/-! ## the one item of such a set -/
theorem l_unpack1 {a : Addr} {b : Bool} {elts : List Expr} {k : Nat} {tpos : Pos} {d ud : Nat} {Q : Unit → Shared → Prop} (hb : b = !w.params.followText "set-order") (C : St s₀ L m ((a, isS1 b) :: led) s) (r : Rm A d ud)
    (h : ∀ s', St s₀ L m led s' → wpAny (model prog w) A (assignInOrder ((assignEach elts env).map (·.2)) [.bool true]) Q E s')
    (hn : (assignEach elts env).length = 1) (hstar : (assignEach elts env).findIdx? (·.1) = none) : wpAny (model prog w) A (assign (.Tuple elts k tpos) env (.ref a)) Q E s := by
  show wpAny (model prog w) A (do standAt tpos; unpack (.ref a) (assignEach elts env)) Q E s
  refine wpAny_bind (wpAny_standAt ?_)
  unfold unpack
  rw [hn, hstar]
  have hT : s.TypeIs (.ref a) "set" := by
    obtain ⟨_, ho, ep, rfl⟩ := C.get (.head _)
    exact ⟨_, ho, rfl⟩
  refine wpAny_bind (wpAny_holding ?_)
  unfold unpackItems
  refine wpAny_bind ?_
  unfold notIterableAtAll
  refine wpAny_bind (wpAny_specialOf hT F.slot_set_iter.lookup ?_)
  refine wpAny_pure ?_
  simp only [Bool.false_eq_true, if_false]
  refine wpAny_bind (wpAny_holding (iter_set C fun it ep s₁ C₁ => ?_))
  refine wpAny_bind (wpAny_holding ?_)
  unfold draw
  refine wpAny_bind (next_set hb ⟨rfl, rfl⟩ C₁ fun slot s₂ hs C₂ => ?_)
  refine wpAny_bind (wpAny_holding ?_)
  unfold draw
  refine wpAny_pure (wpAny_pure ?_)
  rw [if_neg (by simp)]
  refine wpAny_bind (wpAny_holding (next_set_end r.h hb hs C₂ fun s₃ C₃ => ?_))
  simp only [Option.isSome_none, Bool.false_eq_true, if_false]
  exact wpAny_pure (h _ C₃.drop)
end
-- part B15
/-- the order of strs, and of lists of them -/
def slt (x y : Str) : Bool := decide (x.cps.toList < y.cps.toList)
def ltL : List Str → List Str → Bool
  | [], [] => false
  | [], _ :: _ => true
  | _ :: _, [] => false
  | x :: xs, y :: ys => if x = y then ltL xs ys else slt x y
theorem Ss.cons_inv {v : Value} {vs : List Value} {x : Str} {xs : List Str} (h : Ss (v :: vs) (x :: xs)) : (∃ t, v = .str x t) ∧ Ss vs xs := by
  obtain ⟨l, e, e2⟩ := h
  cases l with
  | nil => cases e2
  | cons p l =>
    rw [List.map_cons] at e2
    obtain ⟨rfl, rfl⟩ := List.cons.inj e2
    have e' : v :: vs = .str p.1 p.2 :: strValues l := e
    obtain ⟨rfl, rfl⟩ := List.cons.inj e'
    exact ⟨⟨_, rfl⟩, l, rfl, rfl⟩
section
variable {prog : Program} {w : World} {A : Around} {E : Value → Shared → Prop} {s : Shared}
theorem rc_lt {x y : Str} {t u : Tok} {Q : Value → Shared → Prop} (h : Q (.bool (slt x y)) s) : wpAny (model prog w) A (richCompare .Lt (.str x t) (.str y u)) Q E s :=
  richCompare_gives (op := .Lt) (typeIs_str s x t) (typeIs_str s y u) F.slot_str_lt F.entry_str_lt (F.args_str_lt_2 _ _) (gives_str_lt x y t u) (fun e => nomatch e) h
theorem rc_gt {x y : Str} {t u : Tok} {Q : Value → Shared → Prop} (h : Q (.bool (slt y x)) s) : wpAny (model prog w) A (richCompare .Gt (.str x t) (.str y u)) Q E s :=
  richCompare_gives (op := .Gt) (typeIs_str s x t) (typeIs_str s y u) F.slot_str_gt F.entry_str_gt (F.args_str_gt_2 _ _) (gives_str_gt x y t u) (fun e => nomatch e) h
end
theorem lt_loop (l b : Addr) (vs ws : List Value) (n n2 : Nat) (k : Nat) :
    ∀ (i : Nat) (xs ys : List Str), i ≤ vs.length → i ≤ ws.length → vs.length - i = k → Ss (vs.drop i) xs → Ss (ws.drop i) ys → Meets (Builtin.«list.__eq__.loop» ⟨[.ref l, .ref b, rawInt i, rawInt 0], []⟩)
      (fun _ R s => s.heap.get? l = some { cls := .type "list", data := .seq vs.toArray n } ∧ s.heap.get? b = some { cls := .type "list", data := .seq ws.toArray n2 } ∧ R (.ok (.ret (.bool (ltL xs ys)))) s) := by
  induction k with
  | zero =>
    intro i xs ys hiv hiw hk hx hy prog w A R s h
    obtain ⟨hp, g, d, tk, os⟩ := s; obtain ⟨hl, hb, h⟩ := h
    have hxl := hx.length
    have hyl := hy.length
    simp only [List.length_drop] at hxl hyl
    have ex : xs = [] := List.length_eq_zero_iff.mp (by omega)
    subst ex
    wp_walk using wpAny_loadPart' hl, wpAny_loadPart' hb
    have hi1 : vs.toArray[((i : Nat) : Int).toNat]? = none := by
      rw [List.getElem?_toArray]; exact List.getElem?_eq_none (by omega)
    rw [hi1]
    wp_walk using wpAny_loadPart' hl, wpAny_loadPart' hb
    show R (.ok (.ret (.bool (decide (vs.toArray.size < ws.toArray.size))))) _
    have e : decide (vs.toArray.size < ws.toArray.size) = ltL [] ys := by
      rw [List.size_toArray, List.size_toArray]
      cases ys with
      | nil => simp only [List.length_nil] at hyl; exact decide_eq_false (by omega)
      | cons y ys => simp only [List.length_cons] at hyl; exact decide_eq_true (by omega)
    rw [e]
    exact h
  | succ k ih =>
    intro i xs ys hiv hiw hk hx hy prog w A R s h
    obtain ⟨hp, g, d, tk, os⟩ := s; obtain ⟨hl, hb, h⟩ := h
    have hlt : i < vs.length := by omega
    have hd : vs.drop i = vs[i] :: vs.drop (i + 1) := by rw [List.drop_eq_getElem_cons hlt]
    have hi1 : vs.toArray[((i : Nat) : Int).toNat]? = some vs[i] := by simp [hlt]
    have hc : ((i : Int) + 1) = ((i + 1 : Nat) : Int) := by push_cast; rfl
    rw [hd] at hx
    cases xs with
    | nil => exact absurd hx.length (by simp; omega)
    | cons x xs =>
    obtain ⟨⟨t, ev⟩, hx⟩ := hx.cons_inv
    rw [ev] at hi1
    wp_walk using wpAny_loadPart' hl, wpAny_loadPart' hb
    rw [hi1]
    cases ys with
    | nil =>
      have hyl := hy.length
      simp only [List.length_drop, List.length_nil] at hyl
      have hi2 : ws.toArray[((i : Nat) : Int).toNat]? = none := by
        rw [List.getElem?_toArray]; exact List.getElem?_eq_none (by omega)
      rw [hi2]
      wp_walk using wpAny_loadPart' hl, wpAny_loadPart' hb
      show R (.ok (.ret (.bool (decide (vs.toArray.size < ws.toArray.size))))) _
      have e : decide (vs.toArray.size < ws.toArray.size) = ltL (x :: xs) [] := by
        rw [List.size_toArray, List.size_toArray]
        exact decide_eq_false (by omega)
      rw [e]
      exact h
    | cons y ys =>
      have hyl := hy.length
      simp only [List.length_drop, List.length_cons] at hyl
      have hlt2 : i < ws.length := by omega
      have hd2 : ws.drop i = ws[i] :: ws.drop (i + 1) := by rw [List.drop_eq_getElem_cons hlt2]
      have hi2 : ws.toArray[((i : Nat) : Int).toNat]? = some ws[i] := by simp [hlt2]
      rw [hd2] at hy
      obtain ⟨⟨u, eu⟩, hy'⟩ := hy.cons_inv
      rw [eu] at hi2
      rw [hi2]
      refine wpAny_bind (wpAny_eqBool_str ?_)
      by_cases hxy : x = y
      · subst hxy
        rw [decide_eq_true rfl]
        have e1 : ltL (x :: xs) (x :: ys) = ltL xs ys := by rw [ltL.eq_4, if_pos rfl]
        rw [e1] at h
        wp_walk
        rw [hc]
        exact ⟨plainId_quiet MeetsSeq3.plain_eq_loop _, codeAny_builtin MeetsSeq3.entry_eq_loop (by
          rw [Around.under_plainId MeetsSeq3.plain_eq_loop _]
          exact ih (i + 1) xs ys (by omega) (by omega) (by omega) hx hy' prog w A R _ ⟨hl, hb, h⟩)⟩
      · rw [decide_eq_false hxy]
        have e1 : ltL (x :: xs) (y :: ys) = slt x y := by rw [ltL.eq_4, if_neg hxy]
        rw [e1] at h
        wp_walk using wpAny_loadPart' hl, wpAny_loadPart' hb
        rw [hi1, hi2]
        dsimp only
        refine wpAny_bind (rc_lt ?_)
        exact wpAny_pure h
theorem gt_loop (l b : Addr) (vs ws : List Value) (n n2 : Nat) (k : Nat) :
    ∀ (i : Nat) (xs ys : List Str), i ≤ vs.length → i ≤ ws.length → vs.length - i = k → Ss (vs.drop i) xs → Ss (ws.drop i) ys → Meets (Builtin.«list.__eq__.loop» ⟨[.ref l, .ref b, rawInt i, rawInt 4], []⟩)
      (fun _ R s => s.heap.get? l = some { cls := .type "list", data := .seq vs.toArray n } ∧ s.heap.get? b = some { cls := .type "list", data := .seq ws.toArray n2 } ∧ R (.ok (.ret (.bool (ltL ys xs)))) s) := by
  induction k with
  | zero =>
    intro i xs ys hiv hiw hk hx hy prog w A R s h
    obtain ⟨hp, g, d, tk, os⟩ := s; obtain ⟨hl, hb, h⟩ := h
    have hxl := hx.length
    have hyl := hy.length
    simp only [List.length_drop] at hxl hyl
    have ex : xs = [] := List.length_eq_zero_iff.mp (by omega)
    subst ex
    wp_walk using wpAny_loadPart' hl, wpAny_loadPart' hb
    have hi1 : vs.toArray[((i : Nat) : Int).toNat]? = none := by
      rw [List.getElem?_toArray]; exact List.getElem?_eq_none (by omega)
    rw [hi1]
    wp_walk using wpAny_loadPart' hl, wpAny_loadPart' hb
    show R (.ok (.ret (.bool (decide (vs.toArray.size > ws.toArray.size))))) _
    have e : decide (vs.toArray.size > ws.toArray.size) = ltL ys [] := by
      rw [List.size_toArray, List.size_toArray]
      cases ys with
      | nil => simp only [List.length_nil] at hyl; exact decide_eq_false (by omega)
      | cons y ys => simp only [List.length_cons] at hyl; exact decide_eq_false (by omega)
    rw [e]
    exact h
  | succ k ih =>
    intro i xs ys hiv hiw hk hx hy prog w A R s h
    obtain ⟨hp, g, d, tk, os⟩ := s; obtain ⟨hl, hb, h⟩ := h
    have hlt : i < vs.length := by omega
    have hd : vs.drop i = vs[i] :: vs.drop (i + 1) := by rw [List.drop_eq_getElem_cons hlt]
    have hi1 : vs.toArray[((i : Nat) : Int).toNat]? = some vs[i] := by simp [hlt]
    have hc : ((i : Int) + 1) = ((i + 1 : Nat) : Int) := by push_cast; rfl
    rw [hd] at hx
    cases xs with
    | nil => exact absurd hx.length (by simp; omega)
    | cons x xs =>
    obtain ⟨⟨t, ev⟩, hx⟩ := hx.cons_inv
    rw [ev] at hi1
    wp_walk using wpAny_loadPart' hl, wpAny_loadPart' hb
    rw [hi1]
    cases ys with
    | nil =>
      have hyl := hy.length
      simp only [List.length_drop, List.length_nil] at hyl
      have hi2 : ws.toArray[((i : Nat) : Int).toNat]? = none := by
        rw [List.getElem?_toArray]; exact List.getElem?_eq_none (by omega)
      rw [hi2]
      wp_walk using wpAny_loadPart' hl, wpAny_loadPart' hb
      show R (.ok (.ret (.bool (decide (vs.toArray.size > ws.toArray.size))))) _
      have e : decide (vs.toArray.size > ws.toArray.size) = ltL [] (x :: xs) := by
        rw [List.size_toArray, List.size_toArray]
        exact decide_eq_true (by omega)
      rw [e]
      exact h
    | cons y ys =>
      have hyl := hy.length
      simp only [List.length_drop, List.length_cons] at hyl
      have hlt2 : i < ws.length := by omega
      have hd2 : ws.drop i = ws[i] :: ws.drop (i + 1) := by rw [List.drop_eq_getElem_cons hlt2]
      have hi2 : ws.toArray[((i : Nat) : Int).toNat]? = some ws[i] := by simp [hlt2]
      rw [hd2] at hy
      obtain ⟨⟨u, eu⟩, hy'⟩ := hy.cons_inv
      rw [eu] at hi2
      rw [hi2]
      refine wpAny_bind (wpAny_eqBool_str ?_)
      by_cases hxy : x = y
      · subst hxy
        rw [decide_eq_true rfl]
        have e1 : ltL (x :: ys) (x :: xs) = ltL ys xs := by rw [ltL.eq_4, if_pos rfl]
        rw [e1] at h
        wp_walk
        rw [hc]
        exact ⟨plainId_quiet MeetsSeq3.plain_eq_loop _, codeAny_builtin MeetsSeq3.entry_eq_loop (by
          rw [Around.under_plainId MeetsSeq3.plain_eq_loop _]
          exact ih (i + 1) xs ys (by omega) (by omega) (by omega) hx hy' prog w A R _ ⟨hl, hb, h⟩)⟩
      · rw [decide_eq_false hxy]
        have e1 : ltL (y :: ys) (x :: xs) = slt y x := by rw [ltL.eq_4, if_neg (Ne.symm hxy)]
        rw [e1] at h
        wp_walk using wpAny_loadPart' hl, wpAny_loadPart' hb
        rw [hi1, hi2]
        dsimp only
        refine wpAny_bind (rc_gt ?_)
        exact wpAny_pure h

theorem meets_list_lt (l b : Addr) (vs ws : List Value) (n n2 : Nat) (xs ys : List Str) (hx : Ss vs xs) (hy : Ss ws ys) : Meets (Builtin.«list.__lt__» ⟨[.ref l, .ref b], []⟩)
      (fun _ R s => s.heap.get? l = some { cls := .type "list", data := .seq vs.toArray n } ∧ s.heap.get? b = some { cls := .type "list", data := .seq ws.toArray n2 } ∧ R (.ok (.ret (.bool (ltL xs ys)))) s) := by
  intro prog w A R s h
  obtain ⟨hp, g, d, tk, os⟩ := s; obtain ⟨hl, hb, h⟩ := h
  have f3 := AutoSeq1.sub_list_list
  wp_walk using wpAny_loadPart' hl, wpAny_loadPart' hb
  exact ⟨plainId_quiet MeetsSeq3.plain_eq_loop _, codeAny_builtin MeetsSeq3.entry_eq_loop (by
    rw [Around.under_plainId MeetsSeq3.plain_eq_loop _]
    exact lt_loop l b vs ws n n2 _ 0 xs ys (Nat.zero_le _) (Nat.zero_le _) rfl hx hy prog w A R _ ⟨hl, hb, h⟩)⟩
theorem meets_list_gt (l b : Addr) (vs ws : List Value) (n n2 : Nat) (xs ys : List Str) (hx : Ss vs xs) (hy : Ss ws ys) : Meets (Builtin.«list.__gt__» ⟨[.ref l, .ref b], []⟩)
      (fun _ R s => s.heap.get? l = some { cls := .type "list", data := .seq vs.toArray n } ∧ s.heap.get? b = some { cls := .type "list", data := .seq ws.toArray n2 } ∧ R (.ok (.ret (.bool (ltL ys xs)))) s) := by
  intro prog w A R s h
  obtain ⟨hp, g, d, tk, os⟩ := s; obtain ⟨hl, hb, h⟩ := h
  have f3 := AutoSeq1.sub_list_list
  wp_walk using wpAny_loadPart' hl, wpAny_loadPart' hb
  exact ⟨plainId_quiet MeetsSeq3.plain_eq_loop _, codeAny_builtin MeetsSeq3.entry_eq_loop (by
    rw [Around.under_plainId MeetsSeq3.plain_eq_loop _]
    exact gt_loop l b vs ws n n2 _ 0 xs ys (Nat.zero_le _) (Nat.zero_le _) rfl hx hy prog w A R _ ⟨hl, hb, h⟩)⟩
section
variable {prog : Program} {w : World} {A : Around} {E : Value → Shared → Prop} {s : Shared}
theorem l_rc_lt {p q : Addr} {vs ws : List Value} {xs ys : List Str} {Q : Value → Shared → Prop} (hp : s.heap.PlainList p vs.toArray) (hq : s.heap.PlainList q ws.toArray) (hx : Ss vs xs) (hy : Ss ws ys) (hu : A.units < cLine) (h : Q (.bool (ltL xs ys)) s) :
    wpAny (model prog w) A (richCompare .Lt (.ref p) (.ref q)) Q E s := by
  obtain ⟨n, ep⟩ := hp
  obtain ⟨n2, eq⟩ := hq
  exact richCompare_meets_room (op := .Lt) ⟨_, ep, rfl⟩ ⟨_, eq, rfl⟩ F.slot_list_lt F.entry_list_lt (F.args_list_lt_2 _ _) (meets_list_lt p q vs ws n n2 xs ys hx hy) ⟨ep, eq, ⟨fun z => (nomatch z), h⟩⟩ hu
theorem l_rc_gt {p q : Addr} {vs ws : List Value} {xs ys : List Str} {Q : Value → Shared → Prop} (hp : s.heap.PlainList p vs.toArray) (hq : s.heap.PlainList q ws.toArray) (hx : Ss vs xs) (hy : Ss ws ys) (hu : A.units < cLine) (h : Q (.bool (ltL ys xs)) s) :
    wpAny (model prog w) A (richCompare .Gt (.ref p) (.ref q)) Q E s := by
  obtain ⟨n, ep⟩ := hp
  obtain ⟨n2, eq⟩ := hq
  exact richCompare_meets_room (op := .Gt) ⟨_, ep, rfl⟩ ⟨_, eq, rfl⟩ F.slot_list_gt F.entry_list_gt (F.args_list_gt_2 _ _) (meets_list_gt p q vs ws n n2 xs ys hx hy) ⟨ep, eq, ⟨fun z => (nomatch z), h⟩⟩ hu
end
-- part B16
def btMin (rows : List (List Str)) (i j : Nat) : Bool := ltL (rows.getD i []) (rows.getD j [])
def btMax (rows : List (List Str)) (i j : Nat) : Bool := ltL (rows.getD j []) (rows.getD i [])
theorem argBest_le (bt : Nat → Nat → Bool) : ∀ k, argBest bt k ≤ k
  | 0 => Nat.le_refl _
  | k + 1 => by
    unfold argBest
    split
    · exact Nat.le_refl _
    · exact Nat.le_succ_of_le (argBest_le bt k)
section
variable {prog : Program} {w : World} {M : Model} {A : Around} {E : Value → Shared → Prop} {R : Result → Shared → Prop} {s₀ s s' : Shared} {L : Addr} {m : Str → Option Value} {led : List (Addr × (Obj → Prop))} {env : Env} {sc : Scope} {mg mb : Str → Option Value}
variable {x y : Str} {t u : Tok} {vs ws : List Value} {rows : List (List Str)}
structure RowsAt (h : Heap) (vs : List Value) (rows : List (List Str)) : Prop where
  n : vs.length = rows.length
  at_ : ∀ i v, vs[i]? = some v → ∃ p ws, v = .ref p ∧ h.PlainList p ws.toArray ∧ Ss ws (rows.getD i [])
theorem l_next {I ax : Addr} {i : Nat} {Q : Option Value → Shared → Prop} (C : St s₀ L m ((I, isLi ax i) :: led) s) (hl : s.heap.IsList ax vs.toArray) (hlt : i < vs.length)
    (h : ∀ s', St s₀ L m ((I, isLi ax (i + 1)) :: led) s' → Q (some vs[i]) s') : wpAny (model prog w) A (pyNext (.ref I)) Q E s :=
  wpAny_pyNext_list_item (x := vs[i]) (C.get (.head _)) hl (by simp [hlt]) fun h' hi hs => h _ (C.change (t := s.toks) hs hi)
theorem l_next_end {I ax : Addr} {Q : Option Value → Shared → Prop} (hh : A.handled = none) (C : St s₀ L m ((I, isLi ax vs.length) :: led) s) (hl : s.heap.IsList ax vs.toArray)
    (h : ∀ s', St s₀ L m led s' → Q none s') : wpAny (model prog w) A (pyNext (.ref I)) Q E s :=
  wpAny_pyNext_list_end hh (C.get (.head _)) hl (by simp) fun h' he => h _ (C.lose (t := s.toks) he)

theorem min_loop {S I ax : Addr} (hh : A.handled = none) (hu : A.units + 1 < cLine) (hin : ∀ s', St s₀ L m led s' → RowsAt s'.heap vs rows) (hl : ∀ s', St s₀ L m led s' → s'.heap.IsList ax vs.toArray)
    (hR : ∀ v s', vs[argBest (btMin rows) (vs.length - 1)]? = some v → St s₀ L m led s' → R (.ok (.ret v)) s') :
    ∀ (k j : Nat) (s : Shared) (vb : Value), vs.length - (j + 1) = k → j + 1 ≤ vs.length → vs[argBest (btMin rows) j]? = some vb → St s₀ L m ((S, isL [vb, vb]) :: (I, isLi ax (j + 1)) :: led) s →
      codeAny (model prog w) A (.builtin "min.loop" ⟨[.ref I, .none, .ref S], []⟩) R s := by
  have hname : (toString "min" ++ toString ".loop" : String) = "min.loop" := by decide
  intro k
  induction k with
  | zero =>
    intro j s vb hk hj hb C
    have hin' : j + 1 = vs.length := by omega
    obtain ⟨_, hS, c, rfl⟩ := C.get (.head _)
    refine codeAny_builtin F.entry_min_loop ?_
    rw [Around.under_plainId F.plain_min_loop _]
    show wpAny _ A.in1 (seqItems? (.ref S) >>= _) _ _ s
    refine wpAny_bind (wpAny_seqItems hS rfl ?_)
    show wpAny _ A.in1 (tryCatch (pyNext (.ref I)) _ >>= _) _ _ s
    have C1 := C.swap
    rw [hin'] at C1
    refine wpAny_bind (wpAny_tryCatch (l_next_end (A := A.in1) hh C1 (hl s C.drop.drop) fun s₁ C₁ => ?_))
    obtain ⟨_, hS', c', rfl⟩ := C₁.get (.head _)
    show wpAny _ A.in1 (updateSeq S (fun _ => #[]) >>= _) _ _ _
    refine wpAny_bind ?_
    refine wpAny_updateSeq hS' rfl (wpAny_bind (wpAny_letGo (wpAny_pure ?_)))
    refine hR vb _ (by rw [show vs.length - 1 = j by omega]; exact hb) ?_
    exact C₁.lose (t := s₁.toks) (Heap.SameBut.update ..).extBut
  | succ k ih =>
    intro j s vb hk hj hb C
    have hlt : j + 1 < vs.length := by omega
    obtain ⟨_, hS, c, rfl⟩ := C.get (.head _)
    refine codeAny_builtin F.entry_min_loop ?_
    rw [Around.under_plainId F.plain_min_loop _]
    show wpAny _ A.in1 (seqItems? (.ref S) >>= _) _ _ s
    refine wpAny_bind (wpAny_seqItems hS rfl ?_)
    show wpAny _ A.in1 (tryCatch (pyNext (.ref I)) _ >>= _) _ _ s
    refine wpAny_bind (wpAny_tryCatch (l_next (A := A.in1) C.swap (hl s C.drop.drop) hlt fun s₁ C₁ => ?_))
    have C₁ := C₁.swap
    obtain ⟨_, hS', c', rfl⟩ := C₁.get (.head _)
    have X := hin s₁ C₁.drop.drop
    have hv : vs[j + 1]? = some vs[j + 1] := by simp [hlt]
    obtain ⟨p, pw, ep, hp, hpx⟩ := X.at_ _ _ hv
    obtain ⟨q, qw, eq, hq, hqx⟩ := X.at_ _ _ hb
    show wpAny _ A.in1 (tryCatch (holding [vs[j + 1], vs[j + 1]] (richCompare .Lt vs[j + 1] vb >>= _)) _ >>= _) _ _ _
    rw [ep] at hv ⊢
    rw [eq] at hb C₁ hS' ⊢
    refine wpAny_bind (wpAny_tryCatch (wpAny_holding (wpAny_bind (l_rc_lt hp hq hpx hqx hu ?_))))
    refine wpAny_bind (wpAny_holding (wpAny_truthy_bool ?_))
    refine wpAny_bind (wpAny_letGo (wpAny_pure ?_))
    have ebt : ltL (rows.getD (j + 1) []) (rows.getD (argBest (btMin rows) j) []) = btMin rows (j + 1) (argBest (btMin rows) j) := rfl
    rw [ebt]
    cases hbt : btMin rows (j + 1) (argBest (btMin rows) j) with
    | true =>
      simp only [if_true]
      refine wpAny_bind ?_
      refine wpAny_updateSeq hS' rfl (wpAny_bind (wpAny_letGo ?_))
      rw [hname]
      refine wpAny_pure ⟨plainId_quiet F.plain_min_loop _, ih (j + 1) _ (.ref p) (by omega) hlt (by simp only [argBest, hbt, if_true]; exact hv) ?_⟩
      exact C₁.change (t := s₁.toks) (Heap.SameBut.update ..) ⟨_, Heap.get?_update_self _ hS' rfl, _, rfl⟩
    | false =>
      simp only [Bool.false_eq_true, if_false]
      refine wpAny_bind (wpAny_letGo ?_)
      rw [hname]
      exact wpAny_pure ⟨plainId_quiet F.plain_min_loop _, ih (j + 1) _ (.ref q) (by omega) hlt (by simp only [argBest, hbt, Bool.false_eq_true, if_false]; exact hb) C₁⟩
theorem min_loop_first {S I ax : Addr} (hh : A.handled = none) (hu : A.units + 1 < cLine) (hn : 0 < vs.length) (hin : ∀ s', St s₀ L m led s' → RowsAt s'.heap vs rows) (hl : ∀ s', St s₀ L m led s' → s'.heap.IsList ax vs.toArray)
    (hR : ∀ v s', vs[argBest (btMin rows) (vs.length - 1)]? = some v → St s₀ L m led s' → R (.ok (.ret v)) s') (C : St s₀ L m ((S, isL []) :: (I, isLi ax 0) :: led) s) :
      codeAny (model prog w) A (.builtin "min.loop" ⟨[.ref I, .none, .ref S], []⟩) R s := by
  have hname : (toString "min" ++ toString ".loop" : String) = "min.loop" := by decide
  obtain ⟨_, hS, c, rfl⟩ := C.get (.head _)
  refine codeAny_builtin F.entry_min_loop ?_
  rw [Around.under_plainId F.plain_min_loop _]
  show wpAny _ A.in1 (seqItems? (.ref S) >>= _) _ _ s
  refine wpAny_bind (wpAny_seqItems hS rfl ?_)
  show wpAny _ A.in1 (tryCatch (pyNext (.ref I)) _ >>= _) _ _ s
  refine wpAny_bind (wpAny_tryCatch (l_next (A := A.in1) C.swap (hl s C.drop.drop) hn fun s₁ C₁ => ?_))
  have C₁ := C₁.swap
  obtain ⟨_, hS', c', rfl⟩ := C₁.get (.head _)
  show wpAny _ A.in1 (updateSeq S (fun _ => #[vs[0], vs[0]]) >>= _) _ _ _
  refine wpAny_bind ?_
  refine wpAny_updateSeq hS' rfl ?_
  rw [hname]
  refine wpAny_pure ⟨plainId_quiet F.plain_min_loop _, min_loop hh hu hin hl hR _ 0 _ vs[0] rfl hn (by simp [argBest, hn]) ?_⟩
  exact C₁.change (t := s₁.toks) (Heap.SameBut.update ..) ⟨_, Heap.get?_update_self _ hS' rfl, _, rfl⟩
theorem l_min {ax : Addr} {d ud : Nat} {Q : Value → Shared → Prop} (r : Rm A d ud) (hud : 10 ≤ ud) (hn : 0 < vs.length) (C : St s₀ L m led s) (hin : ∀ s', St s₀ L m led s' → RowsAt s'.heap vs rows) (hl : ∀ s', St s₀ L m led s' → s'.heap.IsList ax vs.toArray)
    (h : ∀ v s', vs[argBest (btMin rows) (vs.length - 1)]? = some v → St s₀ L m led s' → Q v s') : wpAny (model prog w) A (call (.builtin "min") [.ref ax]) Q E s := by
  have hname : (toString "min" ++ toString ".loop" : String) = "min.loop" := by decide
  refine call_function_tree F.kind_min F.plain_min F.entry_min (F.args_min1 _) ?_
  show wpAny _ A.in1 (Builtin.Builtins.bindParams "min" ["key", "default"] 0 ⟨[], []⟩ >>= _) _ _ s
  refine wpAny_bind (wpAny_of_eq (show Builtin.Builtins.bindParams "min" ["key", "default"] 0 ⟨[], []⟩ = pure [none, none] from rfl) ?_)
  refine wpAny_bind (wpAny_pure ?_)
  refine wpAny_bind (wpAny_pyIter_list (hl s C) ?_)
  have C1 := C.add (P := isLi ax 0) (Keeps.heap (push_kp s.heap { cls := .type "list_iterator", data := .fields #[.ref ax, .int 0 0] })) (push_none s) ⟨_, Heap.get?_push_size _ rfl, rfl, rfl⟩
  generalize hI : s.heap.objs.size = I at *
  generalize hH : s.heap.push { cls := .type "list_iterator", data := .fields #[.ref ax, .int 0 0] } = H at *
  refine wpAny_bind (wpAny_newObj_type ?_ (by show 0 ≤ sizeLine; omega))
  have C2 := C1.add (P := isL []) (Keeps.heap (push_kp H { cls := .type "list", data := .seq ([] : List Value).toArray })) (push_none _) ⟨_, Heap.get?_push_size _ rfl, 0, rfl⟩
  rw [hname]
  refine wpAny_pure ⟨plainId_quiet F.plain_min_loop _, min_loop_first r.h ?_ hn hin hl (fun v s' hv C' => h v s' hv C') C2⟩
  have := r.u
  show A.units + 1 < cLine
  unfold cLine
  omega

theorem max_loop {S I ax : Addr} (hh : A.handled = none) (hu : A.units + 1 < cLine) (hin : ∀ s', St s₀ L m led s' → RowsAt s'.heap vs rows) (hl : ∀ s', St s₀ L m led s' → s'.heap.IsList ax vs.toArray)
    (hR : ∀ v s', vs[argBest (btMax rows) (vs.length - 1)]? = some v → St s₀ L m led s' → R (.ok (.ret v)) s') :
    ∀ (k j : Nat) (s : Shared) (vb : Value), vs.length - (j + 1) = k → j + 1 ≤ vs.length → vs[argBest (btMax rows) j]? = some vb → St s₀ L m ((S, isL [vb, vb]) :: (I, isLi ax (j + 1)) :: led) s →
      codeAny (model prog w) A (.builtin "max.loop" ⟨[.ref I, .none, .ref S], []⟩) R s := by
  have hname : (toString "max" ++ toString ".loop" : String) = "max.loop" := by decide
  intro k
  induction k with
  | zero =>
    intro j s vb hk hj hb C
    have hin' : j + 1 = vs.length := by omega
    obtain ⟨_, hS, c, rfl⟩ := C.get (.head _)
    refine codeAny_builtin F.entry_max_loop ?_
    rw [Around.under_plainId F.plain_max_loop _]
    show wpAny _ A.in1 (seqItems? (.ref S) >>= _) _ _ s
    refine wpAny_bind (wpAny_seqItems hS rfl ?_)
    show wpAny _ A.in1 (tryCatch (pyNext (.ref I)) _ >>= _) _ _ s
    have C1 := C.swap
    rw [hin'] at C1
    refine wpAny_bind (wpAny_tryCatch (l_next_end (A := A.in1) hh C1 (hl s C.drop.drop) fun s₁ C₁ => ?_))
    obtain ⟨_, hS', c', rfl⟩ := C₁.get (.head _)
    show wpAny _ A.in1 (updateSeq S (fun _ => #[]) >>= _) _ _ _
    refine wpAny_bind ?_
    refine wpAny_updateSeq hS' rfl (wpAny_bind (wpAny_letGo (wpAny_pure ?_)))
    refine hR vb _ (by rw [show vs.length - 1 = j by omega]; exact hb) ?_
    exact C₁.lose (t := s₁.toks) (Heap.SameBut.update ..).extBut
  | succ k ih =>
    intro j s vb hk hj hb C
    have hlt : j + 1 < vs.length := by omega
    obtain ⟨_, hS, c, rfl⟩ := C.get (.head _)
    refine codeAny_builtin F.entry_max_loop ?_
    rw [Around.under_plainId F.plain_max_loop _]
    show wpAny _ A.in1 (seqItems? (.ref S) >>= _) _ _ s
    refine wpAny_bind (wpAny_seqItems hS rfl ?_)
    show wpAny _ A.in1 (tryCatch (pyNext (.ref I)) _ >>= _) _ _ s
    refine wpAny_bind (wpAny_tryCatch (l_next (A := A.in1) C.swap (hl s C.drop.drop) hlt fun s₁ C₁ => ?_))
    have C₁ := C₁.swap
    obtain ⟨_, hS', c', rfl⟩ := C₁.get (.head _)
    have X := hin s₁ C₁.drop.drop
    have hv : vs[j + 1]? = some vs[j + 1] := by simp [hlt]
    obtain ⟨p, pw, ep, hp, hpx⟩ := X.at_ _ _ hv
    obtain ⟨q, qw, eq, hq, hqx⟩ := X.at_ _ _ hb
    show wpAny _ A.in1 (tryCatch (holding [vs[j + 1], vs[j + 1]] (richCompare .Gt vs[j + 1] vb >>= _)) _ >>= _) _ _ _
    rw [ep] at hv ⊢
    rw [eq] at hb C₁ hS' ⊢
    refine wpAny_bind (wpAny_tryCatch (wpAny_holding (wpAny_bind (l_rc_gt hp hq hpx hqx hu ?_))))
    refine wpAny_bind (wpAny_holding (wpAny_truthy_bool ?_))
    refine wpAny_bind (wpAny_letGo (wpAny_pure ?_))
    have ebt : ltL (rows.getD (argBest (btMax rows) j) []) (rows.getD (j + 1) []) = btMax rows (j + 1) (argBest (btMax rows) j) := rfl
    rw [ebt]
    cases hbt : btMax rows (j + 1) (argBest (btMax rows) j) with
    | true =>
      simp only [if_true]
      refine wpAny_bind ?_
      refine wpAny_updateSeq hS' rfl (wpAny_bind (wpAny_letGo ?_))
      rw [hname]
      refine wpAny_pure ⟨plainId_quiet F.plain_max_loop _, ih (j + 1) _ (.ref p) (by omega) hlt (by simp only [argBest, hbt, if_true]; exact hv) ?_⟩
      exact C₁.change (t := s₁.toks) (Heap.SameBut.update ..) ⟨_, Heap.get?_update_self _ hS' rfl, _, rfl⟩
    | false =>
      simp only [Bool.false_eq_true, if_false]
      refine wpAny_bind (wpAny_letGo ?_)
      rw [hname]
      exact wpAny_pure ⟨plainId_quiet F.plain_max_loop _, ih (j + 1) _ (.ref q) (by omega) hlt (by simp only [argBest, hbt, Bool.false_eq_true, if_false]; exact hb) C₁⟩
theorem max_loop_first {S I ax : Addr} (hh : A.handled = none) (hu : A.units + 1 < cLine) (hn : 0 < vs.length) (hin : ∀ s', St s₀ L m led s' → RowsAt s'.heap vs rows) (hl : ∀ s', St s₀ L m led s' → s'.heap.IsList ax vs.toArray)
    (hR : ∀ v s', vs[argBest (btMax rows) (vs.length - 1)]? = some v → St s₀ L m led s' → R (.ok (.ret v)) s') (C : St s₀ L m ((S, isL []) :: (I, isLi ax 0) :: led) s) :
      codeAny (model prog w) A (.builtin "max.loop" ⟨[.ref I, .none, .ref S], []⟩) R s := by
  have hname : (toString "max" ++ toString ".loop" : String) = "max.loop" := by decide
  obtain ⟨_, hS, c, rfl⟩ := C.get (.head _)
  refine codeAny_builtin F.entry_max_loop ?_
  rw [Around.under_plainId F.plain_max_loop _]
  show wpAny _ A.in1 (seqItems? (.ref S) >>= _) _ _ s
  refine wpAny_bind (wpAny_seqItems hS rfl ?_)
  show wpAny _ A.in1 (tryCatch (pyNext (.ref I)) _ >>= _) _ _ s
  refine wpAny_bind (wpAny_tryCatch (l_next (A := A.in1) C.swap (hl s C.drop.drop) hn fun s₁ C₁ => ?_))
  have C₁ := C₁.swap
  obtain ⟨_, hS', c', rfl⟩ := C₁.get (.head _)
  show wpAny _ A.in1 (updateSeq S (fun _ => #[vs[0], vs[0]]) >>= _) _ _ _
  refine wpAny_bind ?_
  refine wpAny_updateSeq hS' rfl ?_
  rw [hname]
  refine wpAny_pure ⟨plainId_quiet F.plain_max_loop _, max_loop hh hu hin hl hR _ 0 _ vs[0] rfl hn (by simp [argBest, hn]) ?_⟩
  exact C₁.change (t := s₁.toks) (Heap.SameBut.update ..) ⟨_, Heap.get?_update_self _ hS' rfl, _, rfl⟩
theorem l_max {ax : Addr} {d ud : Nat} {Q : Value → Shared → Prop} (r : Rm A d ud) (hud : 10 ≤ ud) (hn : 0 < vs.length) (C : St s₀ L m led s) (hin : ∀ s', St s₀ L m led s' → RowsAt s'.heap vs rows) (hl : ∀ s', St s₀ L m led s' → s'.heap.IsList ax vs.toArray)
    (h : ∀ v s', vs[argBest (btMax rows) (vs.length - 1)]? = some v → St s₀ L m led s' → Q v s') : wpAny (model prog w) A (call (.builtin "max") [.ref ax]) Q E s := by
  have hname : (toString "max" ++ toString ".loop" : String) = "max.loop" := by decide
  refine call_function_tree F.kind_max F.plain_max F.entry_max (F.args_max1 _) ?_
  show wpAny _ A.in1 (Builtin.Builtins.bindParams "max" ["key", "default"] 0 ⟨[], []⟩ >>= _) _ _ s
  refine wpAny_bind (wpAny_of_eq (show Builtin.Builtins.bindParams "max" ["key", "default"] 0 ⟨[], []⟩ = pure [none, none] from rfl) ?_)
  refine wpAny_bind (wpAny_pure ?_)
  refine wpAny_bind (wpAny_pyIter_list (hl s C) ?_)
  have C1 := C.add (P := isLi ax 0) (Keeps.heap (push_kp s.heap { cls := .type "list_iterator", data := .fields #[.ref ax, .int 0 0] })) (push_none s) ⟨_, Heap.get?_push_size _ rfl, rfl, rfl⟩
  generalize hI : s.heap.objs.size = I at *
  generalize hH : s.heap.push { cls := .type "list_iterator", data := .fields #[.ref ax, .int 0 0] } = H at *
  refine wpAny_bind (wpAny_newObj_type ?_ (by show 0 ≤ sizeLine; omega))
  have C2 := C1.add (P := isL []) (Keeps.heap (push_kp H { cls := .type "list", data := .seq ([] : List Value).toArray })) (push_none _) ⟨_, Heap.get?_push_size _ rfl, 0, rfl⟩
  rw [hname]
  refine wpAny_pure ⟨plainId_quiet F.plain_max_loop _, max_loop_first r.h ?_ hn hin hl (fun v s' hv C' => h v s' hv C') C2⟩
  have := r.u
  show A.units + 1 < cLine
  unfold cLine
  omega
end
-- part B17
section
variable {prog : Program} {w : World} {M : Model} {A : Around} {E : Value → Shared → Prop} {R : Result → Shared → Prop} {s₀ s s' : Shared} {L : Addr} {m : Str → Option Value} {led : List (Addr × (Obj → Prop))} {env : Env} {sc : Scope} {mg mb : Str → Option Value}
variable {x y : Str} {t u : Tok} {vs ws : List Value} {rows : List (List Str)}
theorem closure1 {scope : Scope} {n1 n2 : Str} {c : Addr} (hc : env.cells.lookup x = some c) (hn : scope.names = [(n1, .local), (n2, .local), (x, .free)]) : closureFor scope env = pure [(x, c)] := by
  unfold closureFor cellOf
  rw [hn]
  simp only [List.forIn_cons, List.forIn_nil, hc]
  rfl
theorem lookup1 {c : Addr} : List.lookup x [(x, c)] = some c := by simp
theorem l_truthy_tuple {a : Addr} {Q : Bool → Shared → Prop} (C : St s₀ L m led s) (hm : (a, isT vs) ∈ led) (h : ∀ s', St s₀ L m led s' → Q (!vs.isEmpty) s') (hx : vs.length ≤ 100000) : wpAny (model prog w) A (truthy (.ref a)) Q E s := by
  refine truthy_tuple (isTup_of (C.tup hm)) (by simp; omega) ?_
  have e : (!vs.toArray.isEmpty) = !vs.isEmpty := by simp
  first
  | (rw [e]; exact h _ (C.keeps (Keeps.toks _)))
  | exact h _ (C.keeps (Keeps.toks _))
/-- rows of strs, each a list of the ledger -/
structure LR (led : List (Addr × (Obj → Prop))) (ys : List Value) (rows : List (List Str)) : Prop where
  n : ys.length = rows.length
  at_ : ∀ i v, ys[i]? = some v → ∃ p ws, v = .ref p ∧ (p, isL ws) ∈ led ∧ Ss ws (rows.getD i [])
theorem LR.nil : LR [] [] [] := ⟨rfl, fun i v h => by simp at h⟩
theorem LR.add {p : Addr} {ys : List Value} {r : List Str} (h : LR led ys rows) (hw : Ss ws r) : LR ((p, isL ws) :: led) (ys ++ [.ref p]) (rows ++ [r]) := by
  refine ⟨by simp [h.n], fun i v hv => ?_⟩
  rcases Nat.lt_trichotomy i ys.length with hi | hi | hi
  · rw [List.getElem?_append_left hi] at hv
    obtain ⟨q, us, e, hm, hs⟩ := h.at_ i v hv
    have hi' : i < rows.length := by rw [← h.n]; exact hi
    refine ⟨q, us, e, .tail _ hm, ?_⟩
    rw [List.getD_eq_getElem?_getD, List.getElem?_append_left hi', ← List.getD_eq_getElem?_getD]
    exact hs
  · subst hi
    simp at hv
    subst hv
    refine ⟨p, ws, rfl, .head _, ?_⟩
    rw [List.getD_eq_getElem?_getD, h.n, List.getElem?_append_right (Nat.le_refl _)]
    simpa using hw
  · rw [List.getElem?_eq_none (by simp; omega)] at hv
    cases hv
theorem LR.sub {led' : List (Addr × (Obj → Prop))} {ys : List Value} (h : LR led ys rows) (hs : ∀ p ∈ led, p ∈ led') : LR led' ys rows :=
  ⟨h.n, fun i v hv => let ⟨p, ws, e, hm, hq⟩ := h.at_ i v hv; ⟨p, ws, e, hs _ hm, hq⟩⟩
theorem LR.at1 {ys : List Value} (h : LR led ys rows) (C : St s₀ L m led s) : RowsAt s.heap ys rows :=
  ⟨h.n, fun i v hv => let ⟨p, ws, e, hm, hq⟩ := h.at_ i v hv; ⟨p, ws, e, C.pl hm, hq⟩⟩
end
-- part B18
/-- values that are ints -/
def Is (vs : List Value) (ns : List Int) : Prop := ∃ l : List (Int × Tok), vs = l.map (fun p => Value.int p.1 p.2) ∧ l.map (·.1) = ns
theorem Is.nil : Is [] [] := ⟨[], rfl, rfl⟩
theorem Is.snoc {vs : List Value} {ns : List Int} (h : Is vs ns) (k : Int) (t : Tok) : Is (vs ++ [.int k t]) (ns ++ [k]) := by
  obtain ⟨l, rfl, rfl⟩ := h
  exact ⟨l ++ [(k, t)], by simp, by simp⟩
theorem Is.length {vs : List Value} {ns : List Int} (h : Is vs ns) : vs.length = ns.length := by
  obtain ⟨l, rfl, rfl⟩ := h
  simp
theorem Is.get {vs : List Value} {ns : List Int} {i : Nat} {v : Value} (h : Is vs ns) (e : vs[i]? = some v) : ∃ k t, v = .int k t ∧ ns[i]? = some k := by
  obtain ⟨l, rfl, rfl⟩ := h
  rw [List.getElem?_map] at e
  cases q : l[i]? with
  | none => rw [q] at e; cases e
  | some p =>
    rw [q] at e
    simp at e
    exact ⟨p.1, p.2, e.symm, by rw [List.getElem?_map, q]; rfl⟩
theorem Is.take {vs : List Value} {ns : List Int} (h : Is vs ns) (k : Nat) : Is (vs.take k) (ns.take k) := by
  obtain ⟨l, rfl, rfl⟩ := h
  exact ⟨l.take k, by simp [List.map_take], by simp [List.map_take]⟩
theorem Is.drop {vs : List Value} {ns : List Int} (h : Is vs ns) (k : Nat) : Is (vs.drop k) (ns.drop k) := by
  obtain ⟨l, rfl, rfl⟩ := h
  exact ⟨l.drop k, by simp [List.map_drop], by simp [List.map_drop]⟩
theorem Is.app {vs ws : List Value} {ns ms : List Int} (h : Is vs ns) (k : Is ws ms) : Is (vs ++ ws) (ns ++ ms) := by
  obtain ⟨l, rfl, rfl⟩ := h
  obtain ⟨l', rfl, rfl⟩ := k
  exact ⟨l ++ l', by simp, by simp⟩
/-- the least of some ints -/
def leastOf (ns : List Int) : Int := ns.getD (argBest (fun i j => decide (ns.getD i 0 < ns.getD j 0)) (ns.length - 1)) 0
section
variable {prog : Program} {w : World} {M : Model} {A : Around} {E : Value → Shared → Prop} {R : Result → Shared → Prop} {s₀ s s' : Shared} {L : Addr} {m : Str → Option Value} {led : List (Addr × (Obj → Prop))} {env : Env} {sc : Scope} {mg mb : Str → Option Value}
variable {x y : Str} {t u : Tok} {vs ws : List Value} {rows : List (List Str)}
theorem l_min_int {a : Addr} {ns : List Int} {d ud : Nat} {Q : Value → Shared → Prop} (C : St s₀ L m led s) (r : Rm A d ud) (hl : s.heap.IsList a vs.toArray) (hv : Is vs ns) (hn : ns.length ≠ 0) (h : ∀ t s', St s₀ L m led s' → Q (.int (leastOf ns) t) s') :
    wpAny (model prog w) A (call (.builtin "min") [.ref a]) Q E s := by
  obtain ⟨l, rfl, rfl⟩ := hv
  have e : (l.map (fun p => Value.int p.1 p.2)).toArray = intItems l.toArray := by simp [intItems]
  rw [e] at hl
  refine min_intList r.h hl (by simp at hn ⊢; exact Nat.pos_of_ne_zero fun z => hn (List.length_eq_zero_iff.mp z)) fun v h' tk hv hk => ?_
  have hq : ∀ i, numAt l.toArray i = (l.map (·.1)).getD i 0 := fun i => by
    unfold numAt
    rw [List.getD_eq_getElem?_getD, List.getElem?_map]
    simp
  have hb : (fun i j => decide (numAt l.toArray i < numAt l.toArray j)) = fun i j => decide ((l.map (·.1)).getD i 0 < (l.map (·.1)).getD j 0) := by
    funext i j
    rw [hq, hq]
  obtain ⟨t, rfl⟩ := intItems_at hv
  have e2 : numAt l.toArray (argBest (fun i j => decide (numAt l.toArray i < numAt l.toArray j)) (l.toArray.size - 1)) = leastOf (l.map (·.1)) := by
    rw [hq, hb]
    unfold leastOf
    simp
  rw [e2]
  exact h t _ (C.keeps (Keeps.both _ hk))
theorem l_isi_bool {b : Bool} {Q : Value → Shared → Prop} (h : Q (.bool true) s) : wpAny (model prog w) A (call (.builtin "isinstance") [.bool b, .type "bool"]) Q E s := IsiPair.bool_bool h
theorem l_item_zero {value slice : Expr} {a : Addr} {v : Value} {Q : Value → Shared → Prop} (hl : s.heap.IsList a vs.toArray) (hv : vs[0]? = some v) (h : Q v s)
    (hs : subscripted slice false (.ref a) (.int 0 u) = operate [.ref a, .int 0 u] (getItem (.ref a) (.int 0 u))) (hx : vs.length ≤ 10000) : wpAny (model prog w) A (subscriptTail value slice (.ref a) (.int 0 u)) Q E s :=
  l_item_list (k := 0) hl hv h hs (by omega)
end
-- the rules of the walk
local macro_rules | `(tactic| walk_at "q.lk") => `(tactic| (repeat (first | with_reducible exact upd_self | with_reducible assumption | (with_reducible apply upd_ne; focus (decide +kernel)))))
local macro_rules | `(tactic| walk_at "q.bi") => `(tactic| first | exact bi_len | exact bi_range | exact bi_isinstance | exact bi_bytes | exact bi_str | exact bi_enumerate | exact bi_min | exact bi_max | exact bi_issubclass | exact bi_type | exact bi_tuple | exact bi_map | exact bi_int | exact bi_bool)
local macro_rules | `(tactic| walk_at "q.sz") => `(tactic| first | assumption | omega | (simp only [Str.length_append, List.length_cons, List.length_nil, List.length_append, List.length_dropLast, List.length_reverse, List.length_take, List.length_drop]; omega) | (simp only [Str.length_append] at *; omega))
local macro_rules | `(tactic| walk_at "q.rf") => `(tactic| with_unfolding_all rfl)
local macro_rules | `(tactic| walk_at "q.mem") => `(tactic| with_reducible first | assumption | exact List.mem_cons_of_mem _ (by assumption) | exact List.mem_cons_of_mem _ (List.mem_cons_of_mem _ (by assumption)) | exact List.mem_cons_of_mem _ (List.mem_cons_of_mem _ (List.mem_cons_of_mem _ (by assumption))) | exact List.mem_cons_self | exact List.mem_cons_of_mem _ List.mem_cons_self | exact List.mem_cons_of_mem _ (List.mem_cons_of_mem _ List.mem_cons_self) | exact List.mem_cons_of_mem _ (List.mem_cons_of_mem _ (List.mem_cons_of_mem _ List.mem_cons_self)) | exact List.mem_cons_of_mem _ (List.mem_cons_of_mem _ (List.mem_cons_of_mem _ (List.mem_cons_of_mem _ List.mem_cons_self))) | exact List.mem_cons_of_mem _ (List.mem_cons_of_mem _ (List.mem_cons_of_mem _ (List.mem_cons_of_mem _ (List.mem_cons_of_mem _ List.mem_cons_self)))))
local macro_rules | `(tactic| walk_at "q.il") => `(tactic| first | exact St.bil (by assumption) (by assumption) | exact St.lst (by assumption) (by walk_at "q.mem"))
local macro_rules | `(tactic| walk_at "q.pl") => `(tactic| first | exact St.bl (by assumption) (by assumption) | exact St.pl (by assumption) (by walk_at "q.mem"))
local macro_rules | `(tactic| walk_at "q.cell") => `(tactic| first | exact St.cell0 (by assumption) (by assumption) | exact St.cell (by assumption) (by walk_at "q.mem"))
local macro_rules | `(tactic| walk_at "q.execs") => `(tactic| first
  | with_reducible refine x_nil ?_
  | with_reducible refine x_assign ?_ (by walk_at "q.rf")
  | with_reducible refine x_if ?_
  | with_reducible refine x_return ?_
  | with_reducible refine x_aug ?_
  | with_reducible refine x_for ?_ (by intro _; walk_at "q.rf")
  | with_reducible refine x_try ?_
  | with_reducible refine x_cont ?_
  | with_reducible refine x_brk ?_
  | with_reducible refine x_assert ?_
  | with_reducible refine x_del ?_
  | with_reducible refine x_expr ?_ (not_inter (by assumption)) (by walk_at "q.rf")
  | with_reducible refine x_assign_tuple ?_ (by walk_at "q.rf") (by walk_at "q.rf"))
local macro_rules | `(tactic| walk_at "q.eval") => `(tactic| first
  | (with_reducible refine nm (by assumption) (by assumption) (by decide +kernel) (by walk_at "q.lk") ?_ (by decide +kernel))
  | (with_reducible refine bb (by assumption) (by assumption) (by assumption) (by walk_at "q.bi") (by decide +kernel) ?_)
  | (with_reducible refine gl (by assumption) (by assumption) (by assumption) (by decide +kernel) (by assumption) ?_ (by decide +kernel))
  | (with_reducible refine c_str (by assumption) ?_; intro _ _ _)
  | (with_reducible refine nmc (by assumption) (by decide +kernel) (by first | assumption | with_unfolding_all exact lookup1) (by walk_at "q.cell") ?_ (by decide +kernel))
  | (with_reducible refine c_int (by assumption) ?_; intro _ _ _)
  | with_reducible refine e_call ?_
  | with_reducible refine e_meth ?_ (by walk_at "q.rf") (by walk_at "q.rf") (by walk_at "q.rf")
  | with_reducible refine wpAny_BinOp ?_
  | with_reducible refine wpAny_Compare1 ?_ (by walk_at "q.rf")
  | with_reducible refine Subscript_ ?_
  | with_reducible refine wpAny_Slice ?_
  | with_reducible refine e_list ?_
  | with_reducible refine e_tuple ?_
  | with_reducible refine Constant_bool ?_
  | with_reducible refine Constant_none ?_
  | with_reducible refine BoolOp_one ?_
  | with_reducible refine BoolOp_and ?_
  | with_reducible refine BoolOp_or ?_
  | with_reducible refine IfExp_ ?_
  | with_reducible refine UnaryOp_ ?_)
local macro_rules | `(tactic| walk_at "q.isTrue") => `(tactic| first
  | with_reducible refine wpAny_isTrue_Compare1 ?_ (by walk_at "q.rf")
  | with_reducible refine isTrue_not ?_
  | with_reducible refine isTrue_and ?_
  | with_reducible refine isTrue_and_nil ?_
  | with_reducible refine isTrue_or ?_
  | with_reducible refine isTrue_or_nil ?_
  | with_reducible refine isTrue_plain ?_ (by walk_at "q.rf"))
local macro_rules | `(tactic| walk_at "q.callWith") => `(tactic| first
  | with_reducible refine cf1 (by assumption) ?_ (by walk_at "q.rf")
  | with_reducible refine cf2 (by assumption) ?_ (by walk_at "q.rf")
  | with_reducible refine cf3 (by assumption) ?_ (by walk_at "q.rf")
  | with_reducible refine cb1 ?_ (by walk_at "q.rf")
  | with_reducible refine cb2 ?_ (by walk_at "q.rf")
  | with_reducible refine ct1 ?_ (by walk_at "q.rf")
  | with_reducible refine ct2 ?_ (by walk_at "q.rf")
  | with_reducible refine cm1 ?_ (by walk_at "q.rf")
  | with_reducible refine cm3 ?_ (by walk_at "q.rf"))
local macro_rules | `(tactic| walk_at "q.call") => `(tactic| first
  | walk_at "q.c"
  | (with_reducible refine l_len_str (by assumption) ?_ (by walk_at "q.sz"); intro _ _ _)
  | (with_reducible refine l_len_list (by assumption) (by walk_at "q.il") ?_ (by walk_at "q.sz"); intro _ _ _)
  | (with_reducible refine l_split (by assumption) ?_ (by decide +kernel) (by walk_at "q.sz"); intro _ _ _ _ _)
  | (with_reducible refine l_isi_bytes (by assumption) ?_; intro _ _)
  | (with_reducible refine l_isi_bool ?_)
  | (with_reducible refine l_rfind (by assumption) ?_; intro _ _ _)
  | (with_reducible refine l_startswith ?_)
  | (with_reducible refine l_endswith ?_)
  | (with_reducible refine l_rstrip (by assumption) ?_ (by walk_at "q.sz"); intro _ _ _)
  | (with_reducible refine l_range (by assumption) ?_; intro _ _ _)
  | (with_reducible refine call_int_int ?_)
  | (with_reducible refine type_str ?_))
local macro_rules | `(tactic| walk_at "q.op") => `(tactic| first
  | (with_reducible refine l_add_int (by assumption) ?_; intro _ _ _)
  | (with_reducible refine l_add_str (by assumption) ?_ (by walk_at "q.sz"); intro _ _ _)
  | (with_reducible refine l_sub_int (by assumption) ?_; intro _ _ _)
  | (with_reducible refine l_mod_int (by assumption) (by decide) ?_; intro _ _ _)
  | (with_reducible refine l_fdiv_int (by assumption) (by decide) (by decide) ?_; intro _ _ _)
  | (with_reducible refine l_add_list (by assumption) (by walk_at "q.pl") (by walk_at "q.pl") ?_ (by walk_at "q.sz"); intro _ _ _))
local macro_rules | `(tactic| walk_at "q.cmp") => `(tactic| first
  | (with_reducible refine l_eq_str ?_)
  | (with_reducible refine l_ne_str ?_)
  | (with_reducible refine l_gt_int ?_)
  | (with_reducible refine l_lt_int ?_)
  | (with_reducible refine l_ge_int ?_)
  | (with_reducible refine l_le_int ?_)
  | (with_reducible refine l_eq_int ?_)
  | (with_reducible refine l_ne_bool ?_)
  | (with_reducible refine l_notin ?_)
  | (with_reducible refine l_eq_list (by assumption) (by decide) (by walk_at "q.il") (by walk_at "q.il") (by assumption) (by assumption) (by assumption) (by assumption) ?_)
  | (with_reducible refine l_ne_list (by assumption) (by decide) (by walk_at "q.il") (by walk_at "q.il") (by assumption) (by assumption) (by assumption) (by assumption) ?_))
local macro_rules | `(tactic| walk_at "q.truthy") => `(tactic| first
  | with_reducible refine wpAny_truthy_bool ?_
  | (with_reducible refine l_truthy_str (by assumption) ?_ (by walk_at "q.sz"); intro _ _)
  | (with_reducible refine l_truthy_list (by assumption) (by walk_at "q.il") ?_ (by walk_at "q.sz"); intro _ _))
local macro_rules | `(tactic| walk_at "q.tail") => `(tactic| first
  | (with_reducible refine l_cut_ns (by assumption) ?_ (by walk_at "q.sz"); intro _ _ _)
  | (with_reducible refine l_cut_sn (by assumption) ?_ (by walk_at "q.sz"); intro _ _ _)
  | (with_reducible refine l_cut_ss (by assumption) ?_ (by walk_at "q.sz"); intro _ _ _)
  | (with_reducible refine l_cut_init (by assumption) (by walk_at "q.il") ?_ (by walk_at "q.sz"); intro _ _ _)
  | (with_reducible refine l_cut_upto (by assumption) (by walk_at "q.il") (by omega) ?_ (by walk_at "q.sz"); intro _ _ _)
  | (with_reducible refine l_cut_from (by assumption) (by walk_at "q.il") (by omega) ?_ (by walk_at "q.sz"); intro _ _ _)
  | (with_reducible refine l_cut_rev (by assumption) (by walk_at "q.il") ?_ (by walk_at "q.sz"); intro _ _ _))
local macro_rules | `(tactic| walk_at "q.m") => `(tactic| first
  | with_reducible refine on_str PySem.F.slot_str_rfind PySem.F.type_str_rfind ?_
  | with_reducible refine on_str PySem.F.slot_str_rstrip PySem.F.type_str_rstrip ?_
  | with_reducible refine on_str PySem.F.slot_str_split PySem.F.type_str_split ?_
  | with_reducible refine on_str PySem.F.slot_str_startswith PySem.F.type_str_startswith ?_
  | with_reducible refine on_str PySem.F.slot_str_endswith PySem.F.type_str_endswith ?_
  | with_reducible refine on_str PySem.F.slot_str_find PySem.F.type_str_find ?_
  | with_reducible refine on_str PySem.F.slot_str_join PySem.F.type_str_join ?_
  | with_reducible refine on_list (by walk_at "q.pl") PySem.F.slot_list_append PySem.F.type_list_append ?_
  | with_reducible refine on_list (by walk_at "q.pl") PySem.F.slot_list_pop PySem.F.type_list_pop ?_)
local macro_rules | `(tactic| walk_at "q.rest") => `(tactic| first
  | with_reducible refine tt ?_
  | with_reducible refine ff ?_
  | with_reducible refine at_next ?_
  | with_reducible refine at_ret ?_
  | with_reducible refine at_brk ?_
  | with_reducible refine at_cont ?_
  | with_reducible refine te_brk ?_
  | with_reducible refine te_ret ?_
  | with_reducible refine ⟨St.kp (by assumption), ?_⟩
  | (with_reducible refine ⟨fun _ z => Value.noConfusion z, ?_⟩)
  | walk_at "q.m")
local macro_rules | `(tactic| walk_at "q.more") => `(tactic| first
  | (with_reducible refine st (by assumption) (by assumption) (by decide +kernel) ?_; intro _ _)
  | with_reducible refine evalPart_none_step ?_
  | with_reducible refine evalPart_some_step ?_
  | with_reducible refine spl_cons ?_ (by walk_at "q.rf")
  | with_reducible refine spl0 ?_
  | (with_reducible refine new_tuple (by assumption) ?_ (by rw [big]; exact Nat.le_of_ble_eq_true rfl); intro _ _ _)
  | (with_reducible refine new_list (by assumption) ?_ (by rw [big]; exact Nat.le_of_ble_eq_true rfl); intro _ _ _)
  | (with_reducible refine ldn (by assumption) (by assumption) (by decide +kernel) (by walk_at "q.lk") ?_)
  | with_reducible refine a_name ?_
  | with_reducible refine bindName_ ?_
  | with_reducible refine not_of ?_
  | (with_reducible refine l_neg (by assumption) ?_; intro _ _ _)
  | (with_reducible refine l_unpackT (by assumption) (by assumption) ?_ (by walk_at "q.rf") (by walk_at "q.rf"); intro _ _; with_unfolding_all refine in_order ?_)
  | (with_reducible refine l_unpackItemsT (by assumption) (by assumption) (by walk_at "q.rf") ?_; intro _ _; with_unfolding_all refine in_order ?_)
  | (with_reducible refine l_iadd_str (by assumption) ?_ (by walk_at "q.sz"); intro _ _ _)
  | (with_reducible refine l_iadd_int (by assumption) ?_; intro _ _ _)
  | (with_reducible refine l_isub_int (by assumption) ?_; intro _ _ _)
  | ((with_reducible show wpAny _ _ (assignInOrder _ _) _ _ _); with_unfolding_all first | refine in_order ?_ | refine in_order0 ?_))
local macro_rules | `(tactic| walk_at "q.step") => `(tactic| first
  | (with_reducible show wpAny _ _ (eval _ _) _ _ _; walk_at "q.eval")
  | (with_reducible show wpAny _ _ (execs _ _) _ _ _; walk_at "q.execs")
  | (with_reducible show wpAny _ _ (callWith _ _ _ _ _) _ _ _; walk_at "q.callWith")
  | (with_reducible show wpAny _ _ (call _ _ _) _ _ _; walk_at "q.call")
  | (with_reducible show wpAny _ _ (isTrue _ _ _) _ _ _; walk_at "q.isTrue")
  | (with_reducible show wpAny _ _ (binaryOp _ _ _) _ _ _; walk_at "q.op")
  | (with_reducible show wpAny _ _ (compareOp _ _ _) _ _ _; walk_at "q.cmp")
  | (with_reducible show wpAny _ _ (truthy _) _ _ _; walk_at "q.truthy")
  | (with_reducible show wpAny _ _ (subscriptTail _ _ _ _) _ _ _; walk_at "q.tail")
  | (with_reducible show wpAny _ _ _ _ _ _; walk_at "q.more")
  | walk_at "q.rest")
local macro_rules | `(tactic| walk_at "q.go") => `(tactic| repeat walk_at "q.step")
-- part F1
section
variable {prog : Program} {w : World} {M : Model} {A : Around} {E : Value → Shared → Prop} {s₀ s : Shared} {L : Addr} {m : Str → Option Value} {led : List (Addr × (Obj → Prop))} {env : Env} {sc : Scope} {mg mb : Str → Option Value}
theorem fspath_spec {a : Addr} {p : Str} {t : Tok} {Q : Value → Shared → Prop} (G : Gd mg mb s.heap) (hf : FnAt s.heap 9 a) (r : Rm A 1 3) (h : ∀ s', Keeps s s' → Q (.str p t) s') :
    wpAny (model prog w) A (call (.ref a) [.str p t]) Q E s := by
  refine enter1 (Str.ofString "path") G hf r (fun _ _ _ => by rfl) (by decide +kernel) (by decide +kernel) (by decide +kernel) ?_
  intro A env L s₁ r hE C
  refine x_assign (e_call (bb G C hE bi_type (by decide +kernel) (ct1 (nm C hE (by decide +kernel) (by walk_at "q.lk") (type_str ?_) (by decide +kernel)))))
  refine st C hE (by decide +kernel) ?_
  intro s₂ C
  refine x_if (isTrue_plain ?_)
  refine e_call (bb G C hE bi_issubclass (by decide +kernel) (cb2 (nm C hE (by decide +kernel) (by walk_at "q.lk") ?_ (by decide +kernel))))
  refine e_tuple (spl_cons (bb G C hE bi_str (by decide +kernel) (spl_cons (bb G C hE bi_bytes (by decide +kernel) (spl0 ?_)))))
  refine new_tuple C ?_ (by decide +kernel)
  intro b s₃ C
  refine sub_call (C.tup (.head _)) ?_
  refine wpAny_truthy_bool (tt ?_)
  refine x_return (nm C hE (by decide +kernel) (by walk_at "q.lk") ?_ (by decide +kernel))
  exact h _ C.base
theorem fspath_call {a : Addr} {p : Str} {t : Tok} {d u : Nat} {Q : Value → Shared → Prop} (C : St s₀ L m led s) (G : Gd mg mb s₀.heap) (hf : FnAt s₀.heap 9 a) (r : Rm A d u) (h : ∀ s', St s₀ L m led s' → Q (.str p t) s')
    (hd : 1 ≤ d := by decide) (hu : 3 ≤ u := by decide) : wpAny (model prog w) A (call (.ref a) [.str p t]) Q E s :=
  fspath_spec (G.keeps C.c.keep) (C.fn hf) (r.le hd hu) (fun s' k => h s' (C.keeps k))
end
local macro_rules | `(tactic| walk_at "q.c") => `(tactic| (with_reducible refine fspath_call (by assumption) (by assumption) (by assumption) (by assumption) ?_; intro _ _))
-- part F2
section
variable {prog : Program} {w : World} {M : Model} {A : Around} {E : Value → Shared → Prop} {s₀ s : Shared} {L : Addr} {m : Str → Option Value} {led : List (Addr × (Obj → Prop))} {env : Env} {sc : Scope} {mg mb : Str → Option Value}
theorem getsep_spec {a : Addr} {p : Str} {t : Tok} {Q : Value → Shared → Prop} (G : Gd mg mb s.heap) (hf : FnAt s.heap 13 a) (r : Rm A 1 3) (h : ∀ t' s', Keeps s s' → Q (.str (Str.ofString "/") t') s') :
    wpAny (model prog w) A (call (.ref a) [.str p t]) Q E s := by
  refine enter1 (Str.ofString "path") G hf r (fun _ _ _ => by rfl) (by decide +kernel) (by decide +kernel) (by decide +kernel) ?_
  intro A env L s₁ r hE C
  refine x_if ?_
  walk_at "q.go"
  exact h _ _ (St.base (by assumption))
theorem getsep_call {a : Addr} {p : Str} {t : Tok} {d u : Nat} {Q : Value → Shared → Prop} (C : St s₀ L m led s) (G : Gd mg mb s₀.heap) (hf : FnAt s₀.heap 13 a) (r : Rm A d u) (h : ∀ t' s', St s₀ L m led s' → Q (.str (Str.ofString "/") t') s')
    (hd : 1 ≤ d := by decide) (hu : 3 ≤ u := by decide) : wpAny (model prog w) A (call (.ref a) [.str p t]) Q E s :=
  getsep_spec (G.keeps C.c.keep) (C.fn hf) (r.le hd hu) (fun t' s' k => h t' s' (C.keeps k))
end
local macro_rules | `(tactic| walk_at "q.c") => `(tactic| (with_reducible refine getsep_call (by assumption) (by assumption) (by assumption) (by assumption) ?_; intro _ _ _))
-- part F3
section
variable {prog : Program} {w : World} {M : Model} {A : Around} {E : Value → Shared → Prop} {s₀ s : Shared} {L : Addr} {m : Str → Option Value} {led : List (Addr × (Obj → Prop))} {env : Env} {sc : Scope} {mg mb : Str → Option Value}
/-- what split gives -/
def splitHead (p : Str) : Str :=
  let h := Txt.slice p none (some (Txt.rfind p (Str.ofString "/") + 1))
  if h.length ≠ 0 ∧ h ≠ Txt.mul (Str.ofString "/") h.length then Txt.rstripChars h (Str.ofString "/") else h
def splitTail (p : Str) : Str := Txt.slice p (some (Txt.rfind p (Str.ofString "/") + 1)) none
theorem split_spec {a : Addr} {p : Str} {t : Tok} {Q : Value → Shared → Prop} (hp : p.length ≤ 10000) (G : Gd mg mb s.heap) (hf : FnAt s.heap 15 a) (r : Rm A 2 6)
    (h : ∀ b t₁ t₂ s', Keeps s s' → s.heap.get? b = none → s'.heap.get? b = some { cls := .type "tuple", data := .seq [.str (splitHead p) t₁, .str (splitTail p) t₂].toArray } → Q (.ref b) s') :
    wpAny (model prog w) A (call (.ref a) [.str p t]) Q E s := by
  refine enter1 (Str.ofString "p") G hf r (fun _ _ _ => by rfl) (by decide +kernel) (by decide +kernel) (by decide +kernel) ?_
  intro A env L s₁ r hE C
  obtain ⟨a9, e9, f9⟩ := G.f9
  obtain ⟨a13, e13, f13⟩ := G.f13
  refine x_assign ?_
  walk_at "q.go"
  refine x_assign_swap (names := [Str.ofString "head", Str.ofString "tail"]) ?_ (by with_unfolding_all rfl) (swapped_of hE (by with_unfolding_all rfl))
  walk_at "q.go"
  have l1 := Txt.slice_le p none (some (Txt.rfind p (Str.ofString "/") + 1))
  have l2 := Txt.slice_le p (some (Txt.rfind p (Str.ofString "/") + 1)) none
  generalize eh : Txt.slice p none (some (Txt.rfind p (Str.ofString "/") + 1)) = hd at *
  walk_at "q.go"
  have e2 : Txt.slice p (some (Txt.rfind p (Str.ofString "/") + 1)) none = splitTail p := rfl
  rw [e2] at *
  have e3 : splitHead p = if hd.length ≠ 0 ∧ hd ≠ Txt.mul (Str.ofString "/") hd.length then Txt.rstripChars hd (Str.ofString "/") else hd := by
    unfold splitHead
    rw [eh]
  have fin : ∀ {x t₁ t₂ m' b s'}, St s L m' [(b, isT [.str x t₁, .str (splitTail p) t₂])] s' → x = splitHead p → Q (.ref b) s' := by
    intro x t₁ t₂ m' b s' C e
    subst e
    exact h b t₁ t₂ s' C.base (C.ne _ (.head _)).2 (C.tup (.head _))
  refine br (fun hc => ?_) (fun hc => ?_)
  · walk_at "q.go"
    refine l_mul_str (by assumption) ?_ (mulOk_slash (by omega))
    intro _ _ _
    walk_at "q.go"
    refine br (fun hc' => ?_) (fun hc' => ?_)
    · walk_at "q.go"
      exact fin (by assumption) (by rw [e3, if_pos ⟨hc, hc'⟩])
    · walk_at "q.go"
      exact fin (by assumption) (by rw [e3, if_neg (fun z => hc' z.2)])
  · walk_at "q.go"
    exact fin (by assumption) (by rw [e3, if_neg (fun z => hc z.1)])
theorem split_call {a : Addr} {p : Str} {t : Tok} {d u : Nat} {Q : Value → Shared → Prop} (C : St s₀ L m led s) (G : Gd mg mb s₀.heap) (hf : FnAt s₀.heap 15 a) (r : Rm A d u) (hp : p.length ≤ 10000)
    (h : ∀ b t₁ t₂ s', St s₀ L m ((b, isT [.str (splitHead p) t₁, .str (splitTail p) t₂]) :: led) s' → Q (.ref b) s') (hd : 2 ≤ d := by decide) (hu : 6 ≤ u := by decide) :
    wpAny (model prog w) A (call (.ref a) [.str p t]) Q E s :=
  split_spec hp (G.keeps C.c.keep) (C.fn hf) (r.le hd hu) (fun b t₁ t₂ s' k hn ho => h b t₁ t₂ s' (C.add k hn ⟨_, ho, rfl⟩))
end
local macro_rules | `(tactic| walk_at "q.c") => `(tactic| (with_reducible refine split_call (by assumption) (by assumption) (by assumption) (by assumption) (by walk_at "q.sz") ?_; intro _ _ _ _ _))
-- part F4
section
variable {prog : Program} {w : World} {M : Model} {A : Around} {E : Value → Shared → Prop} {s₀ s : Shared} {L : Addr} {m : Str → Option Value} {led : List (Addr × (Obj → Prop))} {env : Env} {sc : Scope} {mg mb : Str → Option Value}
theorem splitroot_spec {a : Addr} {p : Str} {t : Tok} {Q : Value → Shared → Prop} (hp : p.length ≤ 10000) (h1 : Txt.slice p none (some 1) = Str.ofString "/") (h2 : Txt.slice p (some 1) (some 2) ≠ Str.ofString "/")
    (G : Gd mg mb s.heap) (hf : FnAt s.heap 16 a) (r : Rm A 2 6)
    (h : ∀ b t₁ t₂ t₃ s', Keeps s s' → s.heap.get? b = none → s'.heap.get? b = some { cls := .type "tuple", data := .seq [.str (Str.ofString "") t₁, .str (Str.ofString "/") t₂, .str (Txt.slice p (some 1) none) t₃].toArray } → Q (.ref b) s') :
    wpAny (model prog w) A (call (.ref a) [.str p t]) Q E s := by
  refine enter1 (Str.ofString "p") G hf r (fun _ _ _ => by rfl) (by decide +kernel) (by decide +kernel) (by decide +kernel) ?_
  intro A env L s₁ r hE C
  obtain ⟨a9, e9, f9⟩ := G.f9
  refine x_assign ?_
  walk_at "q.go"
  refine br (fun hc => absurd h1 hc) (fun hc => ?_)
  walk_at "q.go"
  refine br (fun hc => ?_) (fun hc => absurd h2 hc)
  walk_at "q.go"
  rename_i b s' C
  exact h b _ _ _ s' C.base (C.ne _ (.head _)).2 (C.tup (.head _))
theorem splitroot_call {a : Addr} {p : Str} {t : Tok} {d u : Nat} {Q : Value → Shared → Prop} (C : St s₀ L m led s) (G : Gd mg mb s₀.heap) (hf : FnAt s₀.heap 16 a) (r : Rm A d u) (hp : p.length ≤ 10000)
    (h1 : Txt.slice p none (some 1) = Str.ofString "/") (h2 : Txt.slice p (some 1) (some 2) ≠ Str.ofString "/")
    (h : ∀ b t₁ t₂ t₃ s', St s₀ L m ((b, isT [.str (Str.ofString "") t₁, .str (Str.ofString "/") t₂, .str (Txt.slice p (some 1) none) t₃]) :: led) s' → Q (.ref b) s') (hd : 2 ≤ d := by decide) (hu : 6 ≤ u := by decide) :
    wpAny (model prog w) A (call (.ref a) [.str p t]) Q E s :=
  splitroot_spec hp h1 h2 (G.keeps C.c.keep) (C.fn hf) (r.le hd hu) (fun b t₁ t₂ t₃ s' k hn ho => h b t₁ t₂ t₃ s' (C.add k hn ⟨_, ho, rfl⟩))
end
local macro_rules | `(tactic| walk_at "q.c") => `(tactic| (with_reducible refine splitroot_call (by assumption) (by assumption) (by assumption) (by assumption) (by walk_at "q.sz") (by assumption) (by assumption) ?_; intro _ _ _ _ _ _))
-- part F5
section
variable {prog : Program} {w : World} {M : Model} {A : Around} {E : Value → Shared → Prop} {s₀ s : Shared} {L : Addr} {m : Str → Option Value} {led : List (Addr × (Obj → Prop))} {env : Env} {sc : Scope} {mg mb : Str → Option Value}
theorem enterV {i : Nat} {a : Addr} (x₁ x₂ : Str) {v₁ v₂ : Value} {d u : Nat} {Q : Value → Shared → Prop} (G : Gd mg mb s.heap) (hf : FnAt s.heap i a) (r : Rm A (d + 1) (u + 3))
    (hbind : ∀ pm cd doc, bindArgs (Calls.docDef (nameOf (theDef i)) (paramsOf (theDef i)) (bodyOf (theDef i)) (scOf (theDef i)) pm cd doc) ⟨[v₁, v₂], []⟩ = (do let t ← newTuple [v₂]; pure [(x₁, v₁), (x₂, t)]))
    (hcell : ∀ x ∈ (scOf (theDef i)).names, x.2 ≠ .cell) (hloc : ∀ x ∈ [x₁, x₂], (scOf (theDef i)).names.lookup x = some .local) (hne : (x₁ == x₂) = false)
    (hsc : ((scOf (theDef i)).isCoroutine, (scOf (theDef i)).isGenerator, (scOf (theDef i)).kind) = (false, false, .function))
    (h : ∀ A' env L b s₁, Rm A' d u → EnvOk env (scOf (theDef i)) L → St s L (upd (upd nul x₁ v₁) x₂ (.ref b)) [(b, isT [v₂])] s₁ →
      wpAny (model prog w) A' (execs (bodyOf (theDef i)) env) (fun f s' => Q (match f with | .ret v => v | _ => .none) s') (fun _ _ => False) s₁) :
    wpAny (model prog w) A (call (.ref a) [v₁, v₂]) Q E s := by
  obtain ⟨o, pm, cd, doc, ho, hd, hc⟩ := hf
  refine wpAny_call (codeAny_call_function (by have := r.d; show A.depth < 1000; omega) ho hd (congrArg (·.1) hsc) (congrArg (·.2.1) hsc) rfl hc ?_)
  rw [hbind pm cd doc]
  refine wpAny_bind (wpAny_newObj_type (wpAny_pure ?_) (by show 1 ≤ sizeLine; rw [big]; omega))
  refine wpAny_newFunctionEnv hcell (fun x hx => hloc x.1 (by simp at hx; rcases hx with rfl | rfl <;> simp)) (fun h₀ hns hsb => ⟨(G.nolimit.push _).fresh _ hsb, codeAny_func ?_⟩) (congrArg (·.2.2) hsc)
  have keep : Kp (s.heap.push { cls := .type "tuple", data := .seq [v₂].toArray }) h₀ := fun b o e => hsb.extBut b o (Nat.ne_of_lt (Heap.lt_size e)) (Heap.get?_push_of_some _ e)
  refine wpAny_mono (h _ _ _ s.heap.objs.size _ r.deeper ⟨congrArg (·.2.2) hsc, rfl, rfl, rfl, rfl⟩ ⟨⟨⟨h₀, _, rfl⟩, ?_, fun b o e => keep b o (Heap.get?_push_of_some _ e), ?_⟩, ?_, ?_, ?_⟩) (fun f s' q => q) (fun _ _ q => q.elim)
  · have e : (fun x => [(x₁, v₁), (x₂, Value.ref s.heap.objs.size)].reverse.lookup x) = upd (upd nul x₁ v₁) x₂ (.ref s.heap.objs.size) := by
      funext x
      unfold upd nul
      show List.lookup x [(x₂, Value.ref s.heap.objs.size), (x₁, v₁)] = _
      simp only [List.lookup_cons, List.lookup_nil]
      by_cases h2 : x = x₂
      · subst h2; simp
      · by_cases h1 : x = x₁
        · subst h1; simp [h2, beq_false_of_ne h2]
        · simp [h1, h2, beq_false_of_ne h1, beq_false_of_ne h2]
    rw [← e]
    exact hns
  · show s.heap.objs.size ≤ (s.heap.push _).objs.size
    rw [Heap.size_push]; omega
  · intro p hp
    rw [List.mem_singleton.mp hp]
    exact ⟨_, keep _ _ (Heap.get?_push_size _ rfl), rfl⟩
  · intro p hp
    rw [List.mem_singleton.mp hp]
    refine ⟨?_, push_none s⟩
    show s.heap.objs.size ≠ (s.heap.push _).objs.size
    rw [Heap.size_push]; omega
  · simp

/-- what join gives -/
def joined (x y : Str) : Str := if Txt.startswith y (Str.ofString "/") = true ∨ x.length = 0 then y else if Txt.endswith x (Str.ofString "/") = true then x ++ y else x ++ (Str.ofString "/" ++ y)
theorem join_spec {a : Addr} {x y : Str} {t u : Tok} {Q : Value → Shared → Prop} (hp : x.length + y.length ≤ 10000) (G : Gd mg mb s.heap) (hf : FnAt s.heap 14 a) (r : Rm A 2 6)
    (h : ∀ t' s', Keeps s s' → Q (.str (joined x y) t') s') :
    wpAny (model prog w) A (call (.ref a) [.str x t, .str y u]) Q E s := by
  refine enterV (Str.ofString "a") (Str.ofString "p") G hf r (fun _ _ _ => by rfl) (by decide +kernel) (by decide +kernel) (by decide +kernel) (by decide +kernel) ?_
  intro A env L b s₁ r hE C
  obtain ⟨a9, e9, f9⟩ := G.f9
  obtain ⟨a13, e13, f13⟩ := G.f13
  refine x_assign ?_
  walk_at "q.go"
  refine for_tuple (vs := [.str y u]) (by assumption) hE r (fun i m led => led = [(b, isT [.str y u])] ∧ (∃ z t, m (Str.ofString "path") = some (.str z t) ∧ z = if i = 0 then x else joined x y) ∧ ∃ t, m (Str.ofString "sep") = some (.str (Str.ofString "/") t))
    ⟨rfl, ⟨x, _, by walk_at "q.lk", rfl⟩, ⟨_, by walk_at "q.lk"⟩⟩ (by decide +kernel) (fun i m led s j c => ?_) ?_ ?_
  · obtain ⟨rfl, _⟩ := j
    exact ⟨_, c.tup (.head _), rfl, _, rfl⟩
  · rintro I P i v m led s hi hv ⟨rfl, ⟨z, t₁, h1, hz⟩, ⟨t₂, h2⟩⟩ C
    have e : i = 0 := by simp at hi; exact hi
    subst e
    have e : Value.str y u = v := by simpa using hv
    subst e
    have hz : z = x := hz
    subst hz
    have hslash : (Str.ofString "/").length = 1 := by decide +kernel
    walk_at "q.go"
    refine brb (fun c1 => ?_) (fun c1 => ?_)
    · walk_at "q.go"
      exact te_next' (by assumption) ⟨rfl, ⟨_, _, by walk_at "q.lk", by show _ = joined z y; unfold joined; rw [if_pos (.inl c1)]⟩, ⟨_, by walk_at "q.lk"⟩⟩
    walk_at "q.go"
    refine brb (fun c2 => ?_) (fun c2 => ?_)
    · have c2' : z.length = 0 := by simpa using c2
      walk_at "q.go"
      exact te_next' (by assumption) ⟨rfl, ⟨_, _, by walk_at "q.lk", by show _ = joined z y; unfold joined; rw [if_pos (.inr c2')]⟩, ⟨_, by walk_at "q.lk"⟩⟩
    have c2' : ¬ z.length = 0 := by simpa using c2
    have c3 : ¬ (Txt.startswith y (Str.ofString "/") = true ∨ z.length = 0) := by rw [c1]; simp [c2']
    walk_at "q.go"
    refine brb (fun c4 => ?_) (fun c4 => ?_)
    · walk_at "q.go"
      exact te_next' (by assumption) ⟨rfl, ⟨_, _, by walk_at "q.lk", by show _ = joined z y; unfold joined; rw [if_neg c3, if_pos c4]⟩, ⟨_, by walk_at "q.lk"⟩⟩
    · walk_at "q.go"
      exact te_next' (by assumption) ⟨rfl, ⟨_, _, by walk_at "q.lk", by show _ = joined z y; unfold joined; rw [if_neg c3, if_neg (by rw [c4]; exact Bool.false_ne_true)]⟩, ⟨_, by walk_at "q.lk"⟩⟩
  · rintro m led s ⟨rfl, ⟨z, t₁, h1, hz⟩, ⟨t₂, h2⟩⟩ C
    have hz : z = joined x y := hz
    subst hz
    walk_at "q.go"
    exact h _ _ C.base
theorem join_call {a : Addr} {x y : Str} {t u : Tok} {d u' : Nat} {Q : Value → Shared → Prop} (C : St s₀ L m led s) (G : Gd mg mb s₀.heap) (hf : FnAt s₀.heap 14 a) (r : Rm A d u') (hp : x.length + y.length ≤ 10000)
    (h : ∀ t' s', St s₀ L m led s' → Q (.str (joined x y) t') s') (hd : 2 ≤ d := by decide) (hu : 6 ≤ u' := by decide) :
    wpAny (model prog w) A (call (.ref a) [.str x t, .str y u]) Q E s :=
  join_spec hp (G.keeps C.c.keep) (C.fn hf) (r.le hd hu) (fun t' s' k => h t' s' (C.keeps k))
end
local macro_rules | `(tactic| walk_at "q.c") => `(tactic| (with_reducible refine join_call (by assumption) (by assumption) (by assumption) (by assumption) (by walk_at "q.sz") ?_; intro _ _ _))
-- part F6
section
variable {prog : Program} {w : World} {M : Model} {A : Around} {E : Value → Shared → Prop} {s₀ s : Shared} {L : Addr} {m : Str → Option Value} {led : List (Addr × (Obj → Prop))} {env : Env} {sc : Scope} {mg mb : Str → Option Value}
/-- one turn of normpath's loop (under a root) -/
def normStep (acc : List Str) (c : Str) : List Str :=
  if c.length = 0 ∨ c = Str.ofString "." then acc
  else if c ≠ Str.ofString ".." ∨ acc.getLast? = some (Str.ofString "..") then acc ++ [c]
  else acc.dropLast
theorem normStep_len (acc : List Str) (c : Str) : (normStep acc c).length ≤ acc.length + 1 := by
  unfold normStep
  split
  · omega
  · split <;> simp <;> omega
theorem normFold_len (xs acc : List Str) : (xs.foldl normStep acc).length ≤ acc.length + xs.length := by
  induction xs generalizing acc with
  | nil => simp
  | cons c xs ih => rw [List.foldl_cons]; have := ih (normStep acc c); have := normStep_len acc c; simp; omega
def normed (p : Str) : Str := Str.ofString "/" ++ Txt.join (Str.ofString "/") ((Txt.split (Txt.slice p (some 1) none) (Str.ofString "/")).foldl normStep [])
def normJ (nc cp : Addr) (vs : List Value) (xs : List Str) (i : Nat) (m : Str → Option Value) (led : List (Addr × (Obj → Prop))) : Prop :=
  ∃ ws, led = [(nc, isL ws), (cp, isL vs)] ∧ Ss ws ((xs.take i).foldl normStep []) ∧ m (Str.ofString "new_comps") = some (.ref nc) ∧ (∃ t, m (Str.ofString "sep") = some (.str (Str.ofString "/") t)) ∧
      (∃ t, m (Str.ofString "dot") = some (.str (Str.ofString ".") t)) ∧ (∃ t, m (Str.ofString "dotdot") = some (.str (Str.ofString "..") t)) ∧ ∃ t, m (Str.ofString "initial_slashes") = some (.str (Str.ofString "/") t)
set_option maxHeartbeats 4000000 in
theorem normpath_spec {a : Addr} {p : Str} {t : Tok} {Q : Value → Shared → Prop} (hp : p.length ≤ 1000) (h0 : p.length ≠ 0) (h1 : Txt.slice p none (some 1) = Str.ofString "/") (h2 : Txt.slice p (some 1) (some 2) ≠ Str.ofString "/")
    (hc : ∀ c ∈ Txt.split (Txt.slice p (some 1) none) (Str.ofString "/"), c.length ≤ 100) (hn : (Txt.split (Txt.slice p (some 1) none) (Str.ofString "/")).length ≤ 100)
    (hj : JoinOk (Str.ofString "/") ((Txt.split (Txt.slice p (some 1) none) (Str.ofString "/")).foldl normStep []) = true) (hl : (normed p).length ≤ 10000)
    (G : Gd mg mb s.heap) (hf : FnAt s.heap 17 a) (r : Rm A 3 9) (h : ∀ t' s', Keeps s s' → Q (.str (normed p) t') s') :
    wpAny (model prog w) A (call (.ref a) [.str p t]) Q E s := by
  refine enter1 (Str.ofString "path") G hf r (fun _ _ _ => by rfl) (by decide +kernel) (by decide +kernel) (by decide +kernel) ?_
  intro A env L s₁ r hE C
  obtain ⟨a9, e9, f9⟩ := G.f9
  obtain ⟨a16, e16, f16⟩ := G.f16
  have l1 := Txt.slice_le p (some 1) none
  refine x_assign ?_
  walk_at "q.go"
  refine brn (fun hc => absurd h0 hc) (fun hc => ?_)
  walk_at "q.go"
  rename_i cp vs _s3 _C3 hv _s4 _C4 nc _s5 _C5 s6 C6
  have s1 : (Str.ofString "/").length = 1 := by decide +kernel
  have hne : normed p = Str.ofString "/" ++ Txt.join (Str.ofString "/") ((Txt.split (Txt.slice p (some 1) none) (Str.ofString "/")).foldl normStep []) := by unfold normed; with_reducible rfl
  generalize hxs : Txt.split (Txt.slice p (some 1) none) (Str.ofString "/") = xs at *
  refine for_list (vs := vs) C6 hE r (normJ nc cp vs xs)
    ⟨[], rfl, Ss.nil, by walk_at "q.lk", ⟨_, by walk_at "q.lk"⟩, ⟨_, by walk_at "q.lk"⟩, ⟨_, by walk_at "q.lk"⟩, ⟨_, by walk_at "q.lk"⟩⟩ (by decide +kernel) (fun i m led s j c => ?_) ?_ ?_
  · obtain ⟨ws, rfl, _⟩ := j
    exact c.lst (by walk_at "q.mem")
  · rintro I P i v m led s' hi hvi ⟨ws, rfl, hws, m1, ⟨t2, m2⟩, ⟨t3, m3⟩, ⟨t4, m4⟩, ⟨t5, m5⟩⟩ C'
    clear C6 _C5 _C4 _C3 C
    obtain ⟨c, tc, rfl, hxi⟩ := hv.get hvi
    have hcl : c.length ≤ 100 := hc c (List.mem_of_getElem? hxi)
    have hst : (xs.take (i + 1)).foldl normStep [] = normStep ((xs.take i).foldl normStep []) c := by
      rw [List.take_add_one, hxi]; simp
    have hal : ((xs.take i).foldl normStep []).length ≤ 100 := by have := normFold_len (xs.take i) []; simp at this; omega
    generalize hacc : (xs.take i).foldl normStep [] = acc at *
    have hwl := hws.length
    have fin : ∀ {m' ws' s'}, St s L m' [(I, P), (nc, isL ws'), (cp, isL vs)] s' → Ss ws' (normStep acc c) → m' (Str.ofString "new_comps") = some (.ref nc) → m' (Str.ofString "sep") = some (.str (Str.ofString "/") t2) →
        m' (Str.ofString "dot") = some (.str (Str.ofString ".") t3) → m' (Str.ofString "dotdot") = some (.str (Str.ofString "..") t4) → m' (Str.ofString "initial_slashes") = some (.str (Str.ofString "/") t5) →
        ∃ m' led', normJ nc cp vs xs (i + 1) m' led' ∧ St s L m' ((I, P) :: led') s' := by
      intro m' ws' s' c1 c2 c3 c4 c5 c6 c7
      exact ⟨m', _, ⟨ws', rfl, hst ▸ c2, c3, ⟨_, c4⟩, ⟨_, c5⟩, ⟨_, c6⟩, ⟨_, c7⟩⟩, c1⟩
    walk_at "q.go"
    refine brn (fun q1 => ?_) (fun q1 => ?_)
    · walk_at "q.go"
      exact te_cont (fin (by assumption) (by unfold normStep; rw [if_pos (.inl (by simpa using q1))]; exact hws) (by walk_at "q.lk") (by walk_at "q.lk") (by walk_at "q.lk") (by walk_at "q.lk") (by walk_at "q.lk"))
    walk_at "q.go"
    refine br (fun q2 => ?_) (fun q2 => ?_)
    · walk_at "q.go"
      exact te_cont (fin (by assumption) (by unfold normStep; rw [if_pos (.inr q2)]; exact hws) (by walk_at "q.lk") (by walk_at "q.lk") (by walk_at "q.lk") (by walk_at "q.lk") (by walk_at "q.lk"))
    have q3 : ¬ (c.length = 0 ∨ c = Str.ofString ".") := fun z => z.elim q1 q2
    walk_at "q.go"
    have fin' : ∀ {m' ws' s'}, St s L m' [(I, P), (nc, isL ws'), (cp, isL vs)] s' → Ss ws' (normStep acc c) → m' = upd m (Str.ofString "comp") (.str c tc) → ∃ m' led', normJ nc cp vs xs (i + 1) m' led' ∧ St s L m' ((I, P) :: led') s' := by
      intro m' ws' s' c1 c2 e
      subst e
      exact fin c1 c2 (by walk_at "q.lk") (by walk_at "q.lk") (by walk_at "q.lk") (by walk_at "q.lk") (by walk_at "q.lk")
    refine br (fun q4 => ?_) (fun q4 => ?_)
    · walk_at "q.go"
      refine l_append (St.swap (by assumption)) ?_ (by omega)
      intro s'' C''
      have C'' := C''.swap
      walk_at "q.go"
      exact te_next (fin' C'' (by unfold normStep; rw [if_neg q3, if_pos (.inl q4)]; exact hws.snoc c tc) rfl)
    walk_at "q.go"
    refine brn (fun q5 => absurd (by rw [s1]; decide) q5) (fun q5 => ?_)
    walk_at "q.go"
    refine brb (fun q6 => ?_) (fun q6 => ?_)
    · obtain ⟨z, tz, z1, z2⟩ := hws.last q6
      walk_at "q.go"
      refine l_item_last (by walk_at "q.il") z1 ?_ (by walk_at "q.rf") (by omega)
      walk_at "q.go"
      refine br (fun q7 => ?_) (fun q7 => ?_)
      · walk_at "q.go"
        refine l_append (St.swap (by assumption)) ?_ (by omega)
        intro s'' C''
        have C'' := C''.swap
        walk_at "q.go"
        exact te_next (fin' C'' (by unfold normStep; rw [if_neg q3, if_pos (.inr (q7 ▸ z2))]; exact hws.snoc c tc) rfl)
      · walk_at "q.go"
        refine brb (fun q8 => ?_) (fun q8 => absurd q6 (by rw [q8]; decide))
        walk_at "q.go"
        refine l_pop (St.swap (by assumption)) z1 ?_ (by omega)
        intro s'' C''
        have C'' := C''.swap
        walk_at "q.go"
        exact te_next (fin' C'' (by unfold normStep; rw [if_neg q3, if_neg (fun z => z.elim q4 (fun e => q7 (Option.some.inj (z2.symm.trans e))))]; exact hws.dropLast) rfl)
    · have e1 : ws = [] := by simpa using q6
      have e2 : acc = [] := by rw [e1] at hwl; exact List.length_eq_zero_iff.mp hwl.symm
      walk_at "q.go"
      refine brb (fun q8 => absurd q8 (by rw [q6]; decide)) (fun q8 => ?_)
      walk_at "q.go"
      exact te_next (fin' (by assumption) (by unfold normStep; rw [if_neg q3, if_neg (fun z => z.elim q4 (fun e => by rw [e2] at e; cases e))]; rw [e1, e2]; exact Ss.nil) rfl)
  · rintro m led s' ⟨ws, rfl, hws, m1, ⟨t2, m2⟩, ⟨t3, m3⟩, ⟨t4, m4⟩, ⟨t5, m5⟩⟩ C'
    clear C6 _C5 _C4 _C3 C
    rw [hv.length, List.take_length] at hws
    walk_at "q.go"
    refine l_join (by assumption) (by walk_at "q.il") hws ?_ hj
    intro _ _ _
    have l2 : (Txt.join (Str.ofString "/") (xs.foldl normStep [])).length ≤ 10000 := by rw [hne, Str.length_append] at hl; omega
    walk_at "q.go"
    refine br (fun q => ?_) (fun q => absurd (by rw [Str.length_append, s1]; omega) q)
    rw [← hne]
    exact h _ _ (St.base (by assumption))
/-- what normpath asks of its argument -/
structure NormOk (p : Str) : Prop where
  hp : p.length ≤ 1000
  h0 : p.length ≠ 0
  h1 : Txt.slice p none (some 1) = Str.ofString "/"
  h2 : Txt.slice p (some 1) (some 2) ≠ Str.ofString "/"
  hc : ∀ c ∈ Txt.split (Txt.slice p (some 1) none) (Str.ofString "/"), c.length ≤ 100
  hn : (Txt.split (Txt.slice p (some 1) none) (Str.ofString "/")).length ≤ 100
  hj : JoinOk (Str.ofString "/") ((Txt.split (Txt.slice p (some 1) none) (Str.ofString "/")).foldl normStep []) = true
  hl : (normed p).length ≤ 10000
theorem normpath_call {a : Addr} {p : Str} {t : Tok} {d u : Nat} {Q : Value → Shared → Prop} (C : St s₀ L m led s) (G : Gd mg mb s₀.heap) (hf : FnAt s₀.heap 17 a) (r : Rm A d u) (hp : NormOk p)
    (h : ∀ t' s', St s₀ L m led s' → Q (.str (normed p) t') s') (hd : 3 ≤ d := by decide) (hu : 9 ≤ u := by decide) : wpAny (model prog w) A (call (.ref a) [.str p t]) Q E s :=
  normpath_spec hp.hp hp.h0 hp.h1 hp.h2 hp.hc hp.hn hp.hj hp.hl (G.keeps C.c.keep) (C.fn hf) (r.le hd hu) (fun t' s' k => h t' s' (C.keeps k))
end
local macro_rules | `(tactic| walk_at "q.c") => `(tactic| (with_reducible refine normpath_call (by assumption) (by assumption) (by assumption) (by assumption) (by assumption) ?_; intro _ _ _))
-- part F7
section
variable {prog : Program} {w : World} {M : Model} {A : Around} {E : Value → Shared → Prop} {s₀ s : Shared} {L : Addr} {m : Str → Option Value} {led : List (Addr × (Obj → Prop))} {env : Env} {sc : Scope} {mg mb : Str → Option Value}
/-! ## _law_climbed -/
def climbStep (q : Str × List Str) : Str × List Str := if q.1 ≠ Str.ofString "/" then (splitHead q.1, splitTail q.1 :: q.2) else q
def climbN : Nat → Str × List Str → Str × List Str
  | 0, q => q
  | n + 1, q => climbStep (climbN n q)
theorem splitHead_le (p : Str) : (splitHead p).length ≤ p.length := by
  have h := Txt.slice_le p none (some (Txt.rfind p (Str.ofString "/") + 1))
  unfold splitHead
  dsimp only
  split
  · refine Nat.le_trans ?_ h
    unfold Txt.rstripChars Txt.stripBy
    split
    · exact Nat.le_refl _
    · unfold PySem.stripped
      exact strSub_length_le _ _ _
  · exact h
theorem climbN_le (n : Nat) (p : Str) (ns : List Str) : (climbN n (p, ns)).1.length ≤ p.length := by
  induction n with
  | zero => exact Nat.le_refl _
  | succ n ih =>
    unfold climbN climbStep
    split
    · exact Nat.le_trans (splitHead_le _) ih
    · exact ih
theorem climbN_len (n : Nat) (p : Str) : (climbN n (p, [])).2.length ≤ n := by
  induction n with
  | zero => exact Nat.le_refl _
  | succ n ih =>
    unfold climbN climbStep
    split
    · simp; exact ih
    · omega
def climbed (p : Str) : List Str := (climbN p.length (p, [])).2
def climbJ (p : Str) (i : Nat) (m : Str → Option Value) (led : List (Addr × (Obj → Prop))) : Prop :=
  ∃ na ws, led = [(na, isL ws)] ∧ Ss ws (climbN i (p, [])).2 ∧ m (Str.ofString "names") = some (.ref na) ∧ ∃ z t, m (Str.ofString "path") = some (.str z t) ∧ z = (climbN i (p, [])).1
set_option maxHeartbeats 4000000 in
theorem climbed_spec {a : Addr} {p : Str} {t : Tok} {Q : Value → Shared → Prop} (hp : p.length ≤ 1000) (G : Gd mg mb s.heap) (hf : FnAt s.heap 25 a) (r : Rm A 3 9)
    (h : ∀ b vs s', Keeps s s' → s.heap.get? b = none → s'.heap.PlainList b vs.toArray → Ss vs (climbed p) → Q (.ref b) s') :
    wpAny (model prog w) A (call (.ref a) [.str p t]) Q E s := by
  refine enter1 (Str.ofString "path") G hf r (fun _ _ _ => by rfl) (by decide +kernel) (by decide +kernel) (by decide +kernel) ?_
  intro A env L s₁ r hE C
  obtain ⟨a15, e15, f15⟩ := G.f15
  refine x_assign ?_
  walk_at "q.go"
  rename_i na _s2 _C2 _s3 _C3 _t4 _s4 _C4 rg s5 C5
  refine for_range C5 hE r (climbJ p) ⟨na, [], rfl, Ss.nil, by walk_at "q.lk", ⟨p, _, by walk_at "q.lk", rfl⟩⟩ (by decide +kernel) (by omega) ?_ ?_
  · rintro I P i ti m led s' hi ⟨na, ws, rfl, hws, m1, ⟨z, t2, m2, ez⟩⟩ C'
    clear C5 _C4 _C3 _C2 C
    have hle := climbN_le i p []
    have hln := climbN_len i p
    have hwl := hws.length
    have hst : climbN (i + 1) (p, []) = climbStep (climbN i (p, [])) := rfl
    generalize hq : climbN i (p, []) = q at *
    obtain ⟨q1, q2⟩ := q
    dsimp only at *
    subst ez
    walk_at "q.go"
    refine br (fun c1 => ?_) (fun c1 => ?_)
    · walk_at "q.go"
      rename_i nb s8 C8 _s9 C9
      have C9 := St.swap (C9.sub (led' := [(nb, isL _), (I, P)]) (.cons₂ _ (.cons _ (.cons₂ _ (.cons _ .slnil)))))
      refine te_next' C9 ⟨nb, _, rfl, ?_, by walk_at "q.lk", ⟨_, _, by walk_at "q.lk", ?_⟩⟩
      · rw [hst]; unfold climbStep; rw [if_pos c1]; exact hws.cons _ _
      · rw [hst]; unfold climbStep; rw [if_pos c1]
    · walk_at "q.go"
      refine te_next' (by assumption) ⟨na, ws, rfl, ?_, by walk_at "q.lk", ⟨_, _, by walk_at "q.lk", ?_⟩⟩
      · rw [hst]; unfold climbStep; rw [if_neg c1]; exact hws
      · rw [hst]; unfold climbStep; rw [if_neg c1]
  · rintro m led s' ⟨na, ws, rfl, hws, m1, ⟨z, t2, m2, ez⟩⟩ C'
    walk_at "q.go"
    exact h na ws s' C'.base (C'.ne _ (.head _)).2 (C'.pl (.head _)) hws
theorem climbed_call {a : Addr} {p : Str} {t : Tok} {d u : Nat} {Q : Value → Shared → Prop} (C : St s₀ L m led s) (G : Gd mg mb s₀.heap) (hf : FnAt s₀.heap 25 a) (r : Rm A d u) (hp : p.length ≤ 1000)
    (h : ∀ b vs s', St s₀ L m ((b, isL vs) :: led) s' → Ss vs (climbed p) → Q (.ref b) s') (hd : 3 ≤ d := by decide) (hu : 9 ≤ u := by decide) : wpAny (model prog w) A (call (.ref a) [.str p t]) Q E s :=
  climbed_spec hp (G.keeps C.c.keep) (C.fn hf) (r.le hd hu) (fun b vs s' k hn ⟨n, e⟩ hv => h b vs s' (C.add k hn ⟨_, e, n, rfl⟩) hv)
end
local macro_rules | `(tactic| walk_at "q.c") => `(tactic| (with_reducible refine climbed_call (by assumption) (by assumption) (by assumption) (by assumption) (by walk_at "q.sz") ?_; intro _ _ _ _ _))
-- part F8
section
variable {prog : Program} {w : World} {M : Model} {A : Around} {E : Value → Shared → Prop} {s₀ s : Shared} {L : Addr} {m : Str → Option Value} {led : List (Addr × (Obj → Prop))} {env : Env} {sc : Scope} {mg mb : Str → Option Value}
/-! ## _law_hung -/
def hung (xs : List Str) : Str := xs.foldl joined (Str.ofString "/")
def hungJ (xs : List Str) (i : Nat) (m : Str → Option Value) (led : List (Addr × (Obj → Prop))) : Prop :=
  led = [] ∧ ∃ z t, m (Str.ofString "path") = some (.str z t) ∧ z = hung (xs.take i)
set_option maxHeartbeats 4000000 in
theorem hung_spec {a b : Addr} {vs : List Value} {xs : List Str} {Q : Value → Shared → Prop} (hv : Ss vs xs) (hl : s.heap.PlainList b vs.toArray) (hx : ∀ i x, xs[i]? = some x → (hung (xs.take i)).length + x.length ≤ 10000)
    (G : Gd mg mb s.heap) (hf : FnAt s.heap 26 a) (r : Rm A 3 9) (h : ∀ t' s', Keeps s s' → Q (.str (hung xs) t') s') :
    wpAny (model prog w) A (call (.ref a) [.ref b]) Q E s := by
  refine enter1 (Str.ofString "names") G hf r (fun _ _ _ => by rfl) (by decide +kernel) (by decide +kernel) (by decide +kernel) ?_
  intro A env L s₁ r hE C
  obtain ⟨a14, e14, f14⟩ := G.f14
  refine x_assign ?_
  walk_at "q.go"
  refine for_list (vs := vs) (by assumption) hE r (hungJ xs) ⟨rfl, Str.ofString "/", _, by walk_at "q.lk", rfl⟩ (by decide +kernel) (fun i m led s' j c => c.bil hl) ?_ ?_
  · rintro I P i v m led s' hi hvi ⟨rfl, z, tz, m1, ez⟩ C'
    obtain ⟨c, tc, rfl, hxi⟩ := hv.get hvi
    have hb := hx i c hxi
    have hst : hung (xs.take (i + 1)) = joined (hung (xs.take i)) c := by unfold hung; rw [List.take_add_one, hxi]; simp
    rw [← ez] at hb hst
    walk_at "q.go"
    exact te_next' (by assumption) ⟨rfl, _, _, by walk_at "q.lk", hst.symm⟩
  · rintro m led s' ⟨rfl, z, tz, m1, ez⟩ C'
    rw [hv.length, List.take_length] at ez
    walk_at "q.go"
    subst ez
    exact h _ _ (St.base (by assumption))
theorem hung_call {a b : Addr} {vs : List Value} {xs : List Str} {d u : Nat} {Q : Value → Shared → Prop} (C : St s₀ L m led s) (G : Gd mg mb s₀.heap) (hf : FnAt s₀.heap 26 a) (r : Rm A d u) (hl : s.heap.PlainList b vs.toArray) (hv : Ss vs xs)
    (hx : ∀ i x, xs[i]? = some x → (hung (xs.take i)).length + x.length ≤ 10000) (h : ∀ t' s', St s₀ L m led s' → Q (.str (hung xs) t') s') (hd : 3 ≤ d := by decide) (hu : 9 ≤ u := by decide) :
    wpAny (model prog w) A (call (.ref a) [.ref b]) Q E s := hung_spec hv hl hx (G.keeps C.c.keep) (C.fn hf) (r.le hd hu) (fun t' s' k => h t' s' (C.keeps k))
end
local macro_rules | `(tactic| walk_at "q.c") => `(tactic| (with_reducible refine hung_call (by assumption) (by assumption) (by assumption) (by assumption) (by walk_at "q.pl") (by assumption) (by assumption) ?_; intro _ _ _))
-- part F9
section
variable {prog : Program} {w : World} {M : Model} {A : Around} {E : Value → Shared → Prop} {s₀ s : Shared} {L : Addr} {m : Str → Option Value} {led : List (Addr × (Obj → Prop))} {env : Env} {sc : Scope} {mg mb : Str → Option Value}
/-! ## _law_walked -/
def walkStep (acc : List Str) (c : Str) : List Str := if c = Str.ofString ".." then acc.dropLast else if c ≠ Str.ofString "." ∧ c ≠ Str.ofString "" then acc ++ [c] else acc
def walked (xs : List Str) : List Str := xs.foldl walkStep []
theorem walked_len (xs : List Str) : (walked xs).length ≤ xs.length := by
  have gen : ∀ (xs acc : List Str), (xs.foldl walkStep acc).length ≤ acc.length + xs.length := by
    intro xs
    induction xs with
    | nil => intro acc; simp
    | cons c xs ih =>
      intro acc
      rw [List.foldl_cons]
      have h1 := ih (walkStep acc c)
      have h2 : (walkStep acc c).length ≤ acc.length + 1 := by
        unfold walkStep
        split
        · simp; omega
        · split <;> simp
      simp; omega
  have := gen xs []
  unfold walked
  simpa using this
def walkJ (xs : List Str) (i : Nat) (m : Str → Option Value) (led : List (Addr × (Obj → Prop))) : Prop :=
  ∃ na ws, led = [(na, isL ws)] ∧ Ss ws (walked (xs.take i)) ∧ m (Str.ofString "names") = some (.ref na)
set_option maxHeartbeats 4000000 in
theorem walked_spec {a b : Addr} {vs : List Value} {xs : List Str} {Q : Value → Shared → Prop} (hv : Ss vs xs) (hl : s.heap.PlainList b vs.toArray) (hx : xs.length ≤ 1000)
    (G : Gd mg mb s.heap) (hf : FnAt s.heap 24 a) (r : Rm A 2 6)
    (h : ∀ b vs s', Keeps s s' → s.heap.get? b = none → s'.heap.PlainList b vs.toArray → Ss vs (walked xs) → Q (.ref b) s') :
    wpAny (model prog w) A (call (.ref a) [.ref b]) Q E s := by
  refine enter1 (Str.ofString "words") G hf r (fun _ _ _ => by rfl) (by decide +kernel) (by decide +kernel) (by decide +kernel) ?_
  intro A env L s₁ r hE C
  refine x_assign ?_
  walk_at "q.go"
  refine for_list (vs := vs) (by assumption) hE r (walkJ xs) ⟨_, [], rfl, Ss.nil, by walk_at "q.lk"⟩ (by decide +kernel) (fun i m led s' j c => c.bil hl) ?_ ?_
  · rintro I P i v m led s' hi hvi ⟨na, ws, rfl, hws, m1⟩ C'
    obtain ⟨c, tc, rfl, hxi⟩ := hv.get hvi
    have hwl := hws.length
    have hln := walked_len (xs.take i)
    have htl : (xs.take i).length ≤ 1000 := by simp; omega
    have hst : walked (xs.take (i + 1)) = walkStep (walked (xs.take i)) c := by unfold walked; rw [List.take_add_one, hxi]; simp
    generalize walked (xs.take i) = acc at *
    walk_at "q.go"
    refine br (fun c1 => ?_) (fun c1 => ?_)
    · walk_at "q.go"
      rename_i nb _s8 C8 s9 C9
      exact te_next' (St.swap (C9.sub (.cons₂ _ (.cons₂ _ (.cons _ .slnil))))) ⟨nb, _, rfl, by rw [hst]; unfold walkStep; rw [if_pos c1]; exact hws.dropLast, by walk_at "q.lk"⟩
    · walk_at "q.go"
      refine br (fun c2 => ?_) (fun c2 => ?_)
      · walk_at "q.go"
        refine br (fun c3 => ?_) (fun c3 => ?_)
        · walk_at "q.go"
          rename_i nb _s8 C8 s9 C9
          exact te_next' (St.swap (C9.sub (.cons₂ _ (.cons _ (.cons₂ _ (.cons _ .slnil)))))) ⟨nb, _, rfl, by rw [hst]; unfold walkStep; rw [if_neg c1, if_pos ⟨c2, c3⟩]; exact hws.snoc c tc, by walk_at "q.lk"⟩
        · walk_at "q.go"
          exact te_next' (by assumption) ⟨na, ws, rfl, by rw [hst]; unfold walkStep; rw [if_neg c1, if_neg (fun z => c3 z.2)]; exact hws, by walk_at "q.lk"⟩
      · walk_at "q.go"
        exact te_next' (by assumption) ⟨na, ws, rfl, by rw [hst]; unfold walkStep; rw [if_neg c1, if_neg (fun z => c2 z.1)]; exact hws, by walk_at "q.lk"⟩
  · rintro m led s' ⟨na, ws, rfl, hws, m1⟩ C'
    rw [hv.length, List.take_length] at hws
    walk_at "q.go"
    exact h na ws s' C'.base (C'.ne _ (.head _)).2 (C'.pl (.head _)) hws
theorem walked_call {a b : Addr} {vs : List Value} {xs : List Str} {d u : Nat} {Q : Value → Shared → Prop} (C : St s₀ L m led s) (G : Gd mg mb s₀.heap) (hf : FnAt s₀.heap 24 a) (r : Rm A d u) (hl : s.heap.PlainList b vs.toArray) (hv : Ss vs xs) (hx : xs.length ≤ 1000)
    (h : ∀ b vs s', St s₀ L m ((b, isL vs) :: led) s' → Ss vs (walked xs) → Q (.ref b) s') (hd : 2 ≤ d := by decide) (hu : 6 ≤ u := by decide) :
    wpAny (model prog w) A (call (.ref a) [.ref b]) Q E s :=
  walked_spec hv hl hx (G.keeps C.c.keep) (C.fn hf) (r.le hd hu) (fun b vs s' k hn ⟨n, e⟩ hv => h b vs s' (C.add k hn ⟨_, e, n, rfl⟩) hv)
end
local macro_rules | `(tactic| walk_at "q.c") => `(tactic| (with_reducible refine walked_call (by assumption) (by assumption) (by assumption) (by assumption) (by walk_at "q.pl") (by assumption) (by walk_at "q.sz") ?_; intro _ _ _ _ _))
-- part F10
section
variable {prog : Program} {w : World} {M : Model} {A : Around} {E : Value → Shared → Prop} {s₀ s : Shared} {L : Addr} {m : Str → Option Value} {led : List (Addr × (Obj → Prop))} {env : Env} {sc : Scope} {mg mb : Str → Option Value}
/-! ## _law_cells -/
def cell (x : Str) : Str := Str.ofString "/" ++ x ++ Str.ofString "/"
def cells (xs : List Str) : Str := Txt.join (Str.ofString "") (xs.map cell)
set_option maxHeartbeats 4000000 in
theorem cells_spec {a b : Addr} {vs : List Value} {xs : List Str} {Q : Value → Shared → Prop} (hv : Ss vs xs) (hl : s.heap.PlainList b vs.toArray) (hx : ∀ x ∈ xs, x.length ≤ 1000) (hn : xs.length ≤ 1000)
    (hj : JoinOk (Str.ofString "") (xs.map cell) = true)
    (G : Gd mg mb s.heap) (hf : FnAt s.heap 27 a) (r : Rm A 1 3) (h : ∀ t' s', Keeps s s' → Q (.str (cells xs) t') s') :
    wpAny (model prog w) A (call (.ref a) [.ref b]) Q E s := by
  refine enter1 (Str.ofString "names") G hf r (fun _ _ _ => by rfl) (by decide +kernel) (by decide +kernel) (by decide +kernel) ?_
  intro A env L s₁ r hE C
  have s1 : (Str.ofString "/").length = 1 := by decide +kernel
  refine x_return ?_
  walk_at "q.go"
  refine e_comp (cl := []) ?_ (by walk_at "q.rf") (by walk_at "q.rf") (by decide +kernel) (by intro _; walk_at "q.rf")
  walk_at "q.go"
  rename_i _t2 s2 C2
  refine comp_list hE r (C2.bil hl) (by decide +kernel) (by walk_at "q.rf") (by decide +kernel) (fun i ys led => led = [] ∧ i ≤ xs.length ∧ Ss ys ((xs.take i).map cell)) ⟨rfl, Nat.zero_le _, Ss.nil⟩
    (fun i ys led j => by have := j.2.2.length; simp at this; omega) ?_ ?_
  · rintro C' I D P i v ys led m s' hvi ⟨rfl, hi, hys⟩ hE' c
    obtain ⟨x, tx, rfl, hxi⟩ := hv.get hvi
    have hxl := hx x (List.mem_of_getElem? hxi)
    have hlt : i < xs.length := (List.getElem?_eq_some_iff.mp hxi).1
    refine tests0 ?_
    refine tt ?_
    walk_at "q.go"
    refine ⟨_, _, ⟨rfl, hlt, ?_⟩, by assumption⟩
    rw [List.take_add_one, hxi, List.map_append]
    exact hys.snoc (cell x) _
  · rintro C' D ys led m s' ⟨rfl, _, hys⟩ c
    rw [hv.length, List.take_length] at hys
    refine comp_post C2 c ?_
    intro s'' C''
    refine l_join C'' (C''.lst (.head _)) hys ?_ hj
    intro t' s3 C3
    exact h t' s3 C3.base
structure CellsOk (xs : List Str) : Prop where
  hx : ∀ x ∈ xs, x.length ≤ 1000
  hn : xs.length ≤ 1000
  hj : JoinOk (Str.ofString "") (xs.map cell) = true
theorem cells_call {a b : Addr} {vs : List Value} {xs : List Str} {d u : Nat} {Q : Value → Shared → Prop} (C : St s₀ L m led s) (G : Gd mg mb s₀.heap) (hf : FnAt s₀.heap 27 a) (r : Rm A d u) (hl : s.heap.PlainList b vs.toArray) (hv : Ss vs xs) (ok : CellsOk xs)
    (h : ∀ t' s', St s₀ L m led s' → Q (.str (cells xs) t') s') (hd : 1 ≤ d := by decide) (hu : 3 ≤ u := by decide) :
    wpAny (model prog w) A (call (.ref a) [.ref b]) Q E s := cells_spec hv hl ok.hx ok.hn ok.hj (G.keeps C.c.keep) (C.fn hf) (r.le hd hu) (fun t' s' k => h t' s' (C.keeps k))
end
local macro_rules | `(tactic| walk_at "q.c") => `(tactic| (with_reducible refine cells_call (by assumption) (by assumption) (by assumption) (by assumption) (by walk_at "q.pl") (by assumption) (by assumption) ?_; intro _ _ _))
-- part F11
section
variable {prog : Program} {w : World} {M : Model} {A : Around} {E : Value → Shared → Prop} {s₀ s : Shared} {L : Addr} {m : Str → Option Value} {led : List (Addr × (Obj → Prop))} {env : Env} {sc : Scope} {mg mb : Str → Option Value}
/-! ## _law_words -/
def menu : List Str := [Str.ofString "b", Str.ofString "a", Str.ofString "ab", Str.ofString "..", Str.ofString ".", Str.ofString "", Str.ofString "a.b"]
def wordStep (q : Nat × List Str) : Nat × List Str := if 0 < q.1 then (q.1 / 7, q.2 ++ [menu.getD (q.1 % 7) (Str.ofString "")]) else q
def wordN : Nat → Nat × List Str → Nat × List Str
  | 0, q => q
  | n + 1, q => wordStep (wordN n q)
def wordsOf (n : Nat) : List Str := (wordN 3 (n, [Str.ofString "a"])).2 ++ [Str.ofString "b"]
theorem wordN_len (n k : Nat) : (wordN n (k, [Str.ofString "a"])).2.length ≤ n + 1 := by
  induction n with
  | zero => exact Nat.le_refl _
  | succ n ih =>
    unfold wordN wordStep
    split
    · simp; omega
    · omega
def wordJ (wa : Addr) (n : Nat) (i : Nat) (m : Str → Option Value) (led : List (Addr × (Obj → Prop))) : Prop :=
  ∃ ws, led = [(wa, isL ws)] ∧ Ss ws (wordN i (n, [Str.ofString "a"])).2 ∧ m (Str.ofString "words") = some (.ref wa) ∧ ∃ k t, m (Str.ofString "number") = some (.int ((k : Nat) : Int) t) ∧ k = (wordN i (n, [Str.ofString "a"])).1
set_option maxHeartbeats 4000000 in
theorem words_spec {a : Addr} {n : Nat} {t : Tok} {Q : Value → Shared → Prop} (G : Gd mg mb s.heap) (hf : FnAt s.heap 23 a) (r : Rm A 1 3)
    (h : ∀ b vs s', Keeps s s' → s.heap.get? b = none → s'.heap.PlainList b vs.toArray → Ss vs (wordsOf n) → Q (.ref b) s') :
    wpAny (model prog w) A (call (.ref a) [.int (n : Int) t]) Q E s := by
  refine enter1 (Str.ofString "number") G hf r (fun _ _ _ => by rfl) (by decide +kernel) (by decide +kernel) (by decide +kernel) ?_
  intro A env L s₁ r hE C
  refine x_assign ?_
  walk_at "q.go"
  rename_i wa s2 C2 _s3 C3 _t4 _s4 C4
  refine l_range (n := 3) C4 ?_
  intro rg s5 C5
  refine for_range C5 hE r (wordJ wa n) ⟨_, rfl, Ss.one _ _, by walk_at "q.lk", ⟨n, _, by walk_at "q.lk", rfl⟩⟩ (by decide +kernel) (by omega) ?_ ?_
  · rintro I P i ti m led s' hi ⟨ws, rfl, hws, m1, ⟨k, t2, m2, ek⟩⟩ C'
    clear C5 C4 C3 C2 C
    have hln := wordN_len i n
    have hwl := hws.length
    have hst : wordN (i + 1) (n, [Str.ofString "a"]) = wordStep (wordN i (n, [Str.ofString "a"])) := rfl
    generalize hq : wordN i (n, [Str.ofString "a"]) = q at *
    obtain ⟨q1, q2⟩ := q
    dsimp only at *
    subst ek
    walk_at "q.go"
    refine br (fun c1 => ?_) (fun c1 => ?_)
    · walk_at "q.go"
      rename_i tb _ _ ta _ _ tab _ _ tdd _ _ td _ _ te _ _ tadb _ _ tp _ _ _ _ _ _ _ Cm
      have e1 : (k : Int).fmod 7 = ((k % 7 : Nat) : Int) := by rw [Int.fmod_eq_emod_of_nonneg _ (by decide)]; omega
      have e2 : (k : Int).fdiv 7 = ((k / 7 : Nat) : Int) := by rw [Int.fdiv_eq_ediv_of_nonneg _ (by decide)]; omega
      have hk7 : k % 7 < 7 := Nat.mod_lt _ (by decide)
      rw [e1]
      have hit : ∃ tk, [Value.str (Str.ofString "b") tb, Value.str (Str.ofString "a") ta, Value.str (Str.ofString "ab") tab, Value.str (Str.ofString "..") tdd, Value.str (Str.ofString ".") td, Value.str (Str.ofString "") te, Value.str (Str.ofString "a.b") tadb][k % 7]? = some (Value.str (menu.getD (k % 7) (Str.ofString "")) tk) := by
        have hs : Ss [Value.str (Str.ofString "b") tb, Value.str (Str.ofString "a") ta, Value.str (Str.ofString "ab") tab, Value.str (Str.ofString "..") tdd, Value.str (Str.ofString ".") td, Value.str (Str.ofString "") te, Value.str (Str.ofString "a.b") tadb] menu :=
          ⟨[(_, tb), (_, ta), (_, tab), (_, tdd), (_, td), (_, te), (_, tadb)], rfl, rfl⟩
        refine hs.get' ?_
        have hm : menu.length = 7 := rfl
        rw [List.getD_eq_getElem?_getD, List.getElem?_eq_getElem (by omega)]; rfl
      obtain ⟨tk, hit⟩ := hit
      refine l_item_tuple (isTup_of (Cm.tup (.head _))) hit ?_ (by walk_at "q.rf") (by simp)
      have Cm := Cm.drop
      refine l_append Cm.swap ?_ (by omega)
      intro s6 C6
      have C6 := C6.swap
      walk_at "q.go"
      rw [e2] at *
      refine te_next' (by assumption) ⟨_, rfl, ?_, by walk_at "q.lk", ⟨_, _, by walk_at "q.lk", ?_⟩⟩
      · rw [hst]; unfold wordStep; rw [if_pos (by omega)]; exact hws.snoc _ _
      · rw [hst]; unfold wordStep; rw [if_pos (by omega)]
    · walk_at "q.go"
      refine te_next' (by assumption) ⟨ws, rfl, ?_, by walk_at "q.lk", ⟨_, _, by walk_at "q.lk", ?_⟩⟩
      · rw [hst]; unfold wordStep; rw [if_neg (by omega)]; exact hws
      · rw [hst]; unfold wordStep; rw [if_neg (by omega)]
  · rintro m led s' ⟨ws, rfl, hws, m1, ⟨k, t2, m2, ek⟩⟩ C'
    have hln := wordN_len 3 n
    have hwl := hws.length
    walk_at "q.go"
    rename_i c _ C9
    exact h c _ _ C9.base (C9.ne _ (.head _)).2 (C9.pl (.head _)) (hws.snoc _ _)
theorem words_call {a : Addr} {n : Nat} {t : Tok} {d u : Nat} {Q : Value → Shared → Prop} (C : St s₀ L m led s) (G : Gd mg mb s₀.heap) (hf : FnAt s₀.heap 23 a) (r : Rm A d u)
    (h : ∀ b vs s', St s₀ L m ((b, isL vs) :: led) s' → Ss vs (wordsOf n) → Q (.ref b) s') (hd : 1 ≤ d := by decide) (hu : 3 ≤ u := by decide) : wpAny (model prog w) A (call (.ref a) [.int (n : Int) t]) Q E s :=
  words_spec (G.keeps C.c.keep) (C.fn hf) (r.le hd hu) (fun b vs s' k hn ⟨n, e⟩ hv => h b vs s' (C.add k hn ⟨_, e, n, rfl⟩) hv)
end
local macro_rules | `(tactic| walk_at "q.c") => `(tactic| (with_reducible refine words_call (by assumption) (by assumption) (by assumption) (by assumption) ?_; intro _ _ _ _ _))
-- part F12
section
variable {prog : Program} {w : World} {M : Model} {A : Around} {E : Value → Shared → Prop} {s₀ s : Shared} {L : Addr} {m : Str → Option Value} {led : List (Addr × (Obj → Prop))} {env : Env} {sc : Scope} {mg mb : Str → Option Value}
/-! ## _law_fits -/
def fits (f e n : List Str) : Bool := decide (f.length + e.length ≤ n.length) && (decide (n.take f.length = f) && decide (n.drop (n.length - e.length) = e))
structure FitOk (xs : List Str) : Prop where
  n : xs.length ≤ 1000
  o : Sok xs
theorem Sok.take {xs : List Str} (h : Sok xs) (k : Nat) : Sok (xs.take k) := fun x hx => h x (List.mem_of_mem_take hx)
theorem Sok.drop {xs : List Str} (h : Sok xs) (k : Nat) : Sok (xs.drop k) := fun x hx => h x (List.mem_of_mem_drop hx)
set_option maxHeartbeats 4000000 in
theorem fits_spec {a p q o : Addr} {vf ve vn : List Value} {f e n : List Str} {Q : Value → Shared → Prop} (hf' : Ss vf f) (he : Ss ve e) (hn : Ss vn n) (lf : s.heap.PlainList p vf.toArray) (le : s.heap.PlainList q ve.toArray) (ln : s.heap.PlainList o vn.toArray)
    (kf : FitOk f) (ke : FitOk e) (kn : FitOk n) (G : Gd mg mb s.heap) (hf : FnAt s.heap 28 a) (r : Rm A 1 67)
    (h : ∀ s', Keeps s s' → Q (.bool (fits f e n)) s') :
    wpAny (model prog w) A (call (.ref a) [.ref p, .ref q, .ref o]) Q E s := by
  refine enter3 (Str.ofString "front") (Str.ofString "end") (Str.ofString "names") (d := 0) (u := 64) G hf r (fun _ _ _ => by rfl) (by decide +kernel) (by decide +kernel) (by decide +kernel) ?_
  intro A env L s₁ r hE C
  obtain ⟨of, sf⟩ := kf
  obtain ⟨oe, se⟩ := ke
  obtain ⟨on, sn⟩ := kn
  have gf := hf'.length
  have ge := he.length
  have gn := hn.length
  refine x_if ?_
  walk_at "q.go"
  refine br (fun c1 => ?_) (fun c1 => ?_)
  · walk_at "q.go"
    have e1 : fits f e n = false := by unfold fits; rw [decide_eq_false (by omega)]; rfl
    rw [← e1]
    exact h _ (St.base (by assumption))
  · walk_at "q.go"
    have e0 : decide (f.length + e.length ≤ n.length) = true := decide_eq_true (by omega)
    have e1 : ((vf.length : Int)).toNat = f.length := by omega
    have e2 : ((vn.length : Int) - (ve.length : Int)).toNat = n.length - e.length := by omega
    refine l_eq_list r (by decide) (by walk_at "q.il") (by walk_at "q.il") (hn.take _) hf' (sn.take _) sf ?_
    refine wpAny_truthy_bool ?_
    refine br (fun c2 => ?_) (fun c2 => ?_)
    · walk_at "q.go"
      refine l_eq_list r (by decide) (by walk_at "q.il") (by walk_at "q.il") (hn.drop _) he (sn.drop _) se ?_
      rw [e1] at c2
      have e3 : decide (n.drop ((vn.length : Int) - (ve.length : Int)).toNat = e) = fits f e n := by rw [e2]; unfold fits; rw [e0, decide_eq_true c2]; rfl
      rw [e3]
      exact h _ (St.base (by assumption))
    · rw [decide_eq_false c2]
      rw [e1] at c2
      have e3 : false = fits f e n := by unfold fits; rw [e0, decide_eq_false c2]; rfl
      rw [e3]
      exact h _ (St.base (by assumption))
theorem fits_call {a p q o : Addr} {vf ve vn : List Value} {f e n : List Str} {d u : Nat} {Q : Value → Shared → Prop} (C : St s₀ L m led s) (G : Gd mg mb s₀.heap) (hf : FnAt s₀.heap 28 a) (r : Rm A d u)
    (lf : s.heap.PlainList p vf.toArray) (le : s.heap.PlainList q ve.toArray) (ln : s.heap.PlainList o vn.toArray) (hf' : Ss vf f) (he : Ss ve e) (hn : Ss vn n) (kf : FitOk f) (ke : FitOk e) (kn : FitOk n)
    (h : ∀ s', St s₀ L m led s' → Q (.bool (fits f e n)) s') (hd : 1 ≤ d := by decide) (hu : 67 ≤ u := by decide) : wpAny (model prog w) A (call (.ref a) [.ref p, .ref q, .ref o]) Q E s :=
  fits_spec hf' he hn lf le ln kf ke kn (G.keeps C.c.keep) (C.fn hf) (r.le hd hu) (fun s' k => h s' (C.keeps k))
end
local macro_rules | `(tactic| walk_at "q.c") => `(tactic| (with_reducible refine fits_call (by assumption) (by assumption) (by assumption) (by assumption) (by walk_at "q.pl") (by walk_at "q.pl") (by walk_at "q.pl") (by assumption) (by assumption) (by assumption) (by assumption) (by assumption) (by assumption) ?_; intro _ _))
-- part F13
section
variable {prog : Program} {w : World} {M : Model} {A : Around} {E : Value → Shared → Prop} {s₀ s : Shared} {L : Addr} {m : Str → Option Value} {led : List (Addr × (Obj → Prop))} {env : Env} {sc : Scope} {mg mb : Str → Option Value}
/-! ## _ellipsis_match -/
theorem Ss.two {vs : List Value} {x y : Str} (h : Ss vs [x, y]) : ∃ t u, vs = [.str x t, .str y u] := by
  obtain ⟨l, rfl, e⟩ := h
  match l, e with
  | [(_, t), (_, u)], rfl => exact ⟨t, u, rfl⟩
theorem len0 {x : Str} (h : x.length = 0) : x = Str.ofString "" := by
  obtain ⟨⟨l⟩⟩ := x
  cases l with
  | nil => decide +kernel
  | cons a l => exact absurd h (by simp [Str.length])
def ematch (x y got : Str) : Bool := Txt.startswith got x && (Txt.endswith got y && decide (x.length + y.length ≤ got.length))
def ellJ (got : Str) (wa : Addr) (zs : List Value) (p q : Int) (i : Nat) (m : Str → Option Value) (led : List (Addr × (Obj → Prop))) : Prop :=
  led = [(wa, isL zs)] ∧ (∃ t, m (Str.ofString "got") = some (.str got t)) ∧ (∃ t, m (Str.ofString "startpos") = some (.int p t)) ∧ ∃ t, m (Str.ofString "endpos") = some (.int q t)
set_option maxHeartbeats 4000000 in
theorem ell_loop {wa : Addr} {got : Str} {zs : List Value} {es : List Str} {p q : Int} {d u : Nat} {Q : Flow → Shared → Prop} (G : Gd mg mb s₀.heap) (r : Rm A d u) (hE : EnvOk env (scOf (theDef 21)) L) (C : St s₀ L m [(wa, isL zs)] s)
    (hz : Ss zs es) (he : ∀ e ∈ es, e = Str.ofString "") (h0 : 0 ≤ p) (h1 : p ≤ q) (h2 : q ≤ got.length) (hg : got.length ≤ 10000) (hm : ellJ got wa zs p q 0 m [(wa, isL zs)]) (hw : m (Str.ofString "ws") = some (.ref wa))
    (h : ∀ s', Keeps s₀ s' → Q (.ret (.bool true)) s') : wpAny (model prog w) A (execs ((bodyOf (theDef 21)).drop 9) env) Q E s := by
  refine x_for ?_ (by intro _; walk_at "q.rf")
  walk_at "q.go"
  refine for_list (vs := zs) C hE r (ellJ got wa zs p q) hm (by decide +kernel) (fun i m led s' j c => by obtain ⟨rfl, _⟩ := j; exact c.lst (.head _)) ?_ ?_
  · rintro I P i v m led s' hi hvi ⟨rfl, ⟨t1, m1⟩, ⟨t2, m2⟩, ⟨t3, m3⟩⟩ C'
    obtain ⟨c, tc, rfl, hxi⟩ := hz.get hvi
    have hc := he c (List.mem_of_getElem? hxi)
    subst hc
    have hl0 : (Str.ofString "").length = 0 := by decide +kernel
    walk_at "q.go"
    refine l_find_empty (by assumption) h0 h1 h2 ?_
    intro _ _ _
    walk_at "q.go"
    refine br (fun c1 => absurd c1 (by omega)) (fun c1 => ?_)
    walk_at "q.go"
    rename_i C9
    have hp0 : p + ((Str.ofString "").length : Int) = p := by rw [hl0]; omega
    rw [hp0] at C9
    exact te_next' C9 ⟨rfl, ⟨_, by walk_at "q.lk"⟩, ⟨_, by walk_at "q.lk"⟩, ⟨_, by walk_at "q.lk"⟩⟩
  · rintro m led s' ⟨rfl, ⟨t1, m1⟩, ⟨t2, m2⟩, ⟨t3, m3⟩⟩ C'
    walk_at "q.go"
    exact h _ C'.base
set_option maxHeartbeats 4000000 in
theorem ell_tail {wa : Addr} {got x y : Str} {ty : Tok} {zs : List Value} {es : List Str} {d u : Nat} {Q : Flow → Shared → Prop} (G : Gd mg mb s₀.heap) (r : Rm A d u) (hE : EnvOk env (scOf (theDef 21)) L)
    (C : St s₀ L m [(wa, isL (zs ++ [.str y ty]))] s) (hz : Ss zs es) (he : ∀ e ∈ es, e = Str.ofString "") (hzl : zs.length ≤ 10) (hg : got.length ≤ 10000) (hy : y.length ≤ 10000) (hx : x.length ≤ got.length) (hsw : Txt.startswith got x = true)
    (hm : ellJ got wa (zs ++ [.str y ty]) x.length got.length 0 m [(wa, isL (zs ++ [.str y ty]))]) (hw : m (Str.ofString "ws") = some (.ref wa))
    (h : ∀ s', Keeps s₀ s' → Q (.ret (.bool (ematch x y got))) s') : wpAny (model prog w) A (execs ((bodyOf (theDef 21)).drop 6) env) Q E s := by
  obtain ⟨_, ⟨t1, m1⟩, ⟨t2, m2⟩, ⟨t3, m3⟩⟩ := hm
  refine x_assign ?_
  walk_at "q.go"
  refine l_item_last (v := .str y ty) (by walk_at "q.il") (by simp) ?_ (by walk_at "q.rf") (by simp; omega)
  walk_at "q.go"
  refine br (fun c1 => ?_) (fun c1 => ?_)
  · walk_at "q.go"
    refine brb (fun c2 => ?_) (fun c2 => ?_)
    · have c2' := c2
      unfold Txt.endswith at c2'
      simp only [Bool.and_eq_true, decide_eq_true_eq] at c2'
      walk_at "q.go"
      refine l_del_last (by assumption) ?_ (by simp) (by simp; omega)
      intro s6 C6
      rw [List.dropLast_concat] at C6
      walk_at "q.go"
      refine br (fun c3 => ?_) (fun c3 => ?_)
      · walk_at "q.go"
        have e1 : ematch x y got = false := by unfold ematch; rw [decide_eq_false (by omega : ¬ x.length + y.length ≤ got.length)]; simp
        rw [← e1]
        exact h _ (St.base (by assumption))
      · refine x_nil (at_next ?_)
        have e1 : ematch x y got = true := by unfold ematch; rw [hsw, c2, decide_eq_true (by omega : x.length + y.length ≤ got.length)]; rfl
        rw [e1] at h
        exact ell_loop (p := x.length) (q := got.length - y.length) G r hE C6 hz he (by omega) (by omega) (by omega) hg ⟨rfl, ⟨_, by walk_at "q.lk"⟩, ⟨_, by walk_at "q.lk"⟩, ⟨_, by walk_at "q.lk"⟩⟩ (by walk_at "q.lk") h
    · walk_at "q.go"
      have e1 : ematch x y got = false := by unfold ematch; rw [c2]; simp
      rw [← e1]
      exact h _ (St.base (by assumption))
  · have c1' : y.length = 0 := by omega
    have ey := len0 c1'
    subst ey
    walk_at "q.go"
    refine br (fun c3 => absurd c3 (by omega)) (fun c3 => ?_)
    refine x_nil (at_next ?_)
    have e2 : Txt.endswith got (Str.ofString "") = true := by unfold Txt.endswith; rw [sub_empty, c1']; simp
    have e1 : ematch x (Str.ofString "") got = true := by unfold ematch; rw [hsw, e2, decide_eq_true (by omega : x.length + (Str.ofString "").length ≤ got.length)]; rfl
    rw [e1] at h
    refine ell_loop (p := x.length) (q := got.length) G r hE (by assumption) (hz.snoc _ _) (fun e hm => ?_) (by omega) (by omega) (by omega) hg ⟨rfl, ⟨_, by walk_at "q.lk"⟩, ⟨_, by walk_at "q.lk"⟩, ⟨_, by walk_at "q.lk"⟩⟩ (by walk_at "q.lk") h
    rcases List.mem_append.mp hm with hm | hm
    · exact he e hm
    · exact List.mem_singleton.mp hm
set_option maxHeartbeats 4000000 in
theorem ell_spec {a : Addr} {want got x y : Str} {t u : Tok} {Q : Value → Shared → Prop} (hg : got.length ≤ 10000) (hw : want.length ≤ 10000) (hc : Txt.contains want (Str.ofString "...") = true) (hs : Txt.split want (Str.ofString "...") = [x, y])
    (G : Gd mg mb s.heap) (hf : FnAt s.heap 21 a) (r : Rm A 1 3) (hx : x.length ≤ 10000) (hy : y.length ≤ 10000)
    (h : ∀ s', Keeps s s' → Q (.bool (ematch x y got)) s') :
    wpAny (model prog w) A (call (.ref a) [.str want t, .str got u]) Q E s := by
  refine enter2 (Str.ofString "want") (Str.ofString "got") G hf r (fun _ _ _ => by rfl) (by decide +kernel) (by decide +kernel) (by decide +kernel) ?_
  intro A env L s₁ r hE C
  obtain ⟨tm, em⟩ := G.marker
  refine x_if ?_
  walk_at "q.go"
  rw [hc]
  refine ff ?_
  walk_at "q.go"
  rename_i wa vs _ _ hv _ _
  rw [hs] at hv
  obtain ⟨tx, ty, rfl⟩ := hv.two
  walk_at "q.go"
  refine ⟨rfl, ?_⟩
  walk_at "q.go"
  refine x_assign_swap (names := [Str.ofString "startpos", Str.ofString "endpos"]) ?_ (by with_unfolding_all rfl) (swapped_of hE (by with_unfolding_all rfl))
  walk_at "q.go"
  refine l_item_first (v := .str x tx) (by walk_at "q.il") ?_ (by walk_at "q.rf") (by simp)
  walk_at "q.go"
  refine br (fun c1 => ?_) (fun c1 => ?_)
  · walk_at "q.go"
    refine brb (fun c2 => ?_) (fun c2 => ?_)
    · have c2' := c2
      unfold Txt.startswith at c2'
      simp only [Bool.and_eq_true, decide_eq_true_eq] at c2'
      walk_at "q.go"
      refine l_del_first (by assumption) ?_ (by simp)
      intro s6 C6
      refine x_nil (at_next (x_nil (at_next ?_)))
      exact ell_tail (zs := []) (es := []) G r hE C6 Ss.nil (fun _ q => nomatch q) (by simp) hg hy (by omega) c2 ⟨rfl, ⟨_, by walk_at "q.lk"⟩, ⟨_, by walk_at "q.lk"⟩, ⟨_, by walk_at "q.lk"⟩⟩ (by walk_at "q.lk") h
    · walk_at "q.go"
      have e1 : ematch x y got = false := by unfold ematch; rw [c2]; simp
      rw [← e1]
      exact h _ (St.base (by assumption))
  · have c1' : x.length = 0 := by omega
    have ex := len0 c1'
    subst ex
    refine x_nil (at_next ?_)
    have e2 : Txt.startswith got (Str.ofString "") = true := by unfold Txt.startswith; rw [sub_empty, c1']; simp
    exact ell_tail (zs := [.str (Str.ofString "") tx]) (es := [Str.ofString ""]) G r hE (by assumption) (Ss.one _ _) (fun e q => List.mem_singleton.mp q) (by simp) hg hy (by omega) e2 ⟨rfl, ⟨_, by walk_at "q.lk"⟩, ⟨_, by rw [c1']; show _ = some (Value.int 0 _); walk_at "q.lk"⟩, ⟨_, by walk_at "q.lk"⟩⟩ (by walk_at "q.lk") h
structure EllOk (want x y : Str) : Prop where
  hw : want.length ≤ 10000
  hc : Txt.contains want (Str.ofString "...") = true
  hs : Txt.split want (Str.ofString "...") = [x, y]
  hx : x.length ≤ 10000
  hy : y.length ≤ 10000
theorem ell_call {a : Addr} {want got x y : Str} {t u : Tok} {d u' : Nat} {Q : Value → Shared → Prop} (C : St s₀ L m led s) (G : Gd mg mb s₀.heap) (hf : FnAt s₀.heap 21 a) (r : Rm A d u') (ok : EllOk want x y) (hg : got.length ≤ 10000)
    (h : ∀ s', St s₀ L m led s' → Q (.bool (ematch x y got)) s') (hd : 1 ≤ d := by decide) (hu : 3 ≤ u' := by decide) : wpAny (model prog w) A (call (.ref a) [.str want t, .str got u]) Q E s :=
  ell_spec hg ok.hw ok.hc ok.hs (G.keeps C.c.keep) (C.fn hf) (r.le hd hu) ok.hx ok.hy (fun s' k => h s' (C.keeps k))
end
local macro_rules | `(tactic| walk_at "q.c") => `(tactic| (with_reducible refine ell_call (by assumption) (by assumption) (by assumption) (by assumption) (by assumption) (by assumption) ?_; intro _ _))
-- part F14
section
variable {prog : Program} {w : World} {M : Model} {A : Around} {E : Value → Shared → Prop} {s₀ s : Shared} {L : Addr} {m : Str → Option Value} {led : List (Addr × (Obj → Prop))} {env : Env} {sc : Scope} {mg mb : Str → Option Value}
/-! ## commonpath -/
theorem swapsW_of {value : Expr} {target : Option Expr} {line : Nat} {b : Bool} (hE : EnvOk env sc L) (h : swapsWith value target line (envS sc) = pure b) : swapsWith value target line env = pure b := by
  rw [← h]
  unfold swapsWith Env.kindOf Env.blockKind envS
  rw [hE.e]
def comps (x : Str) : List Str := (Txt.split x (Str.ofString "/")).filter fun c => decide (c.length ≠ 0) && decide (c ≠ Str.ofString ".")
def cpre : List Str → List Str → List Str
  | x :: xs, y :: ys => if x = y then x :: cpre xs ys else []
  | _, _ => []
def least (rows : List (List Str)) : List Str := rows.getD (argBest (btMin rows) (rows.length - 1)) []
def most (rows : List (List Str)) : List Str := rows.getD (argBest (btMax rows) (rows.length - 1)) []
def commoned (xs : List Str) : Str := Str.ofString "/" ++ Txt.join (Str.ofString "/") (cpre (least (xs.map comps)) (most (xs.map comps)))
structure CommonOk (xs : List Str) : Prop where
  hn : xs.length ≠ 0
  hm : xs.length ≤ 1000
  hs : ∀ x ∈ xs, Txt.startswith x (Str.ofString "/") = true
  hx : ∀ x ∈ xs, x.length ≤ 1000
  hc : ∀ x ∈ xs, (Txt.split x (Str.ofString "/")).length ≤ 1000
  hd : ∀ x ∈ xs, ∀ c ∈ Txt.split x (Str.ofString "/"), c.length ≤ 1000
  hi : ∀ i, i < (least (xs.map comps)).length → (least (xs.map comps)).take i = (most (xs.map comps)).take i → i < (most (xs.map comps)).length
  hj : JoinOk (Str.ofString "/") (cpre (least (xs.map comps)) (most (xs.map comps))) = true
  hl : (Txt.join (Str.ofString "/") (cpre (least (xs.map comps)) (most (xs.map comps)))).length ≤ 10000
theorem map_getD (xs : List Str) (i : Nat) (x : Str) (h : xs[i]? = some x) (f : Str → List Str) : (xs.map f).getD i [] = f x := by
  rw [List.getD_eq_getElem?_getD, List.getElem?_map, h]; rfl
theorem l_item_zeroT {value slice : Expr} {a : Addr} {vs : List Value} {v : Value} {u : Tok} {Q : Value → Shared → Prop} (hl : IsTup s.heap a vs.toArray) (hv : vs[0]? = some v) (h : Q v s)
    (hs : subscripted slice false (.ref a) (.int 0 u) = operate [.ref a, .int 0 u] (getItem (.ref a) (.int 0 u))) (hx : vs.length ≤ 10000) : wpAny (model prog w) A (subscriptTail value slice (.ref a) (.int 0 u)) Q E s :=
  l_item_tuple (k := 0) hl hv h hs (by omega)
set_option maxHeartbeats 4000000 in
theorem common_a {a b : Addr} {vs : List Value} {xs : List Str} {Q : Value → Shared → Prop} (hv : Ss vs xs) (hl : s.heap.PlainList b vs.toArray) (ok : CommonOk xs)
    (G : Gd mg mb s.heap) (hf : FnAt s.heap 18 a) (r : Rm A 2 60)
    (h : ∀ A env L c₁ c₂ tp m t₁ t₂ s₁, Rm A 1 57 → EnvOk env (scOf (theDef 18)) L → env.cells.lookup (Str.ofString "sep") = some c₁ → env.cells.lookup (Str.ofString "curdir") = some c₂ → m (Str.ofString "paths") = some (.ref tp) →
      St s L m [(tp, isT vs), (c₁, isC (some (.str (Str.ofString "/") t₁))), (c₂, isC (some (.str (Str.ofString ".") t₂)))] s₁ →
      wpAny (model prog w) A (execs ((bodyOf (theDef 18)).drop 3) env) (fun f s' => Q (match f with | .ret v => v | _ => .none) s') (fun _ _ => False) s₁) :
    wpAny (model prog w) A (call (.ref a) [.ref b]) Q E s := by
  refine enterC (Str.ofString "paths") (Str.ofString "sep") (Str.ofString "curdir") G hf r (fun _ _ _ => by rfl) (by decide +kernel) (fun n => by with_unfolding_all rfl) (by decide +kernel) (by decide +kernel) ?_
  intro A env L c₁ c₂ s₁ r hE hc1 hc2 C
  obtain ⟨a9, e9, f9⟩ := G.f9
  have hvl := hv.length
  have hn := ok.hn
  have hm := ok.hm
  refine x_assign ?_
  walk_at "q.go"
  refine call_map (C) (C.bil hl) ?_
  intro it T Mp s₂ C₂
  refine tuple_map (xs := xs) r (by decide) (by decide) (fun A' L m led' s' x t Q E r' C' h' => fspath_call C' G f9 r' h') hv (by omega) (fun s' C' => C'.bil hl) C₂ ?_
  intro tp s₃ C₃
  walk_at "q.go"
  refine l_truthy_tuple (by assumption) (.head _) ?_ (by omega)
  intro s₅ C₅
  refine brb (fun c1 => ?_) (fun c1 => ?_)
  · have e : vs = [] := by simpa using c1
    rw [e] at hvl
    exact absurd hvl.symm hn
  have h0 : vs ≠ [] := by
    intro e
    rw [e] at c1
    simp at c1
  have hlt : 0 < vs.length := List.length_pos_iff.mpr h0
  obtain ⟨x0, t0, ev, _⟩ := hv.get (show vs[0]? = some vs[0] by simp [hlt])
  have hv0 : vs[0]? = some (.str x0 t0) := by rw [← ev]; simp [hlt]
  walk_at "q.go"
  refine l_item_zeroT (isTup_of (St.tup (by assumption) (.head _))) hv0 ?_ (by walk_at "q.rf") (by omega)
  walk_at "q.go"
  rename_i t₁ s₇ C₇
  refine stc (C₇.perm (List.Perm.swap _ _ _)) hE (by decide +kernel) hc1 ?_
  intro s₈ C₈
  walk_at "q.go"
  rename_i t₂ s₉ C₉
  refine stc (C₉.perm ((List.Perm.swap _ _ _).symm.trans (.cons _ (.swap _ _ _)) |>.trans (.swap _ _ _))) hE (by decide +kernel) hc2 ?_
  intro s₈ C₈
  refine x_nil (at_next ?_)
  exact h A env L c₁ c₂ tp _ t₁ t₂ _ r hE hc1 hc2 (by walk_at "q.lk") (C₈.perm ((List.Perm.swap _ _ _).trans (.cons _ (.swap _ _ _))))
def tryBody : List Stmt := match (bodyOf (theDef 18)).getD 3 (.Pass ⟨0, 0, 0, 0⟩) with | .Try b _ _ _ _ => b | _ => []
set_option maxHeartbeats 4000000 in
theorem common_b {c₁ c₂ tp : Addr} {vs : List Value} {xs : List Str} {t₁ t₂ : Tok} {Q : Flow → Shared → Prop} (hv : Ss vs xs) (ok : CommonOk xs) (r : Rm A 1 57) (hE : EnvOk env (scOf (theDef 18)) L)
    (hc1 : env.cells.lookup (Str.ofString "sep") = some c₁) (hc2 : env.cells.lookup (Str.ofString "curdir") = some c₂) (mp : m (Str.ofString "paths") = some (.ref tp))
    (C : St s₀ L m [(tp, isT vs), (c₁, isC (some (.str (Str.ofString "/") t₁))), (c₂, isC (some (.str (Str.ofString ".") t₂)))] s)
    (h : ∀ D ys led' s', LR led' ys (xs.map fun x => Txt.split x (Str.ofString "/")) → St s₀ L (upd m (Str.ofString "split_paths") (.ref D)) ((D, isL ys) :: led' ++ [(tp, isT vs), (c₁, isC (some (.str (Str.ofString "/") t₁))), (c₂, isC (some (.str (Str.ofString ".") t₂)))]) s' →
      wpAny (model prog w) A (execs (tryBody.drop 1) env) Q E s') :
    wpAny (model prog w) A (execs tryBody env) Q E s := by
  have hvl := hv.length
  refine x_comp (cl := [(Str.ofString "sep", c₁)]) ?_ (swapsW_of hE (by with_unfolding_all rfl)) (closure1 hc1 (by with_unfolding_all rfl)) (by with_unfolding_all rfl) (by decide +kernel) (by intro _; walk_at "q.rf")
  walk_at "q.go"
  have k1 : s.heap.IsCell c₁ (some (.str (Str.ofString "/") t₁)) := C.cell (.tail _ (.head _))
  refine comp_tuple (vs := vs) hE r ⟨_, C.tup (.head _), rfl, _, rfl⟩ (by decide +kernel) (by walk_at "q.rf") (by decide +kernel) (fun i ys led => LR led ys ((xs.take i).map fun x => Txt.split x (Str.ofString "/"))) LR.nil
    (fun i ys led j => by have := j.n; have := ok.hm; simp at *; omega) ?_ ?_
  · rintro C' I D P i v ys led m' s' hvi j hE' c
    obtain ⟨x, tx, rfl, hxi⟩ := hv.get hvi
    have hxl := ok.hx x (List.mem_of_getElem? hxi)
    have hc : (compEnvC { kind := ScopeKind.function, names := [(Str.ofString ".0", NameKind.local), (Str.ofString "path", NameKind.local), (Str.ofString "sep", NameKind.free)], isGenerator := false, isCoroutine := false } [(Str.ofString "sep", c₁)] C' env).cells.lookup (Str.ofString "sep") = some c₁ := lookup1
    refine tests0 (tt ?_)
    walk_at "q.go"
    rename_i ad ws s9 C9 hws
    refine ⟨_, (ad, isL ws) :: led, ?_, C9.perm ((List.Perm.swap _ _ _).trans (.cons _ (.swap _ _ _)))⟩
    rw [List.take_add_one, hxi, List.map_append]
    exact j.add hws
  · rintro C' D ys led m' s' j c
    rw [hvl, List.take_length] at j
    exact comp_use hE (by decide +kernel) C c fun s'' C'' => h D ys led s'' j C''
set_option maxHeartbeats 4000000 in
theorem common_c {c₁ tp : Addr} {vs : List Value} {xs : List Str} {t₁ : Tok} {Q : Flow → Shared → Prop} (hv : Ss vs xs) (ok : CommonOk xs) (r : Rm A 1 57) (hE : EnvOk env (scOf (theDef 18)) L)
    (hc1 : env.cells.lookup (Str.ofString "sep") = some c₁) (mp : m (Str.ofString "paths") = some (.ref tp))
    (C : St s₀ L m led s) (ht : (tp, isT vs) ∈ led) (k1 : s.heap.IsCell c₁ (some (.str (Str.ofString "/") t₁)))
    (h : ∀ s', St s₀ L (upd m (Str.ofString "isabs") (.bool true)) led s' →
      wpAny (model prog w) A (execs (tryBody.drop 2) env) Q E s') :
    wpAny (model prog w) A (execs (tryBody.drop 1) env) Q E s := by
  have hvl := hv.length
  refine x_try ?_
  refine x_assign_tuple ?_ (by walk_at "q.rf") (by walk_at "q.rf")
  refine e_setcomp (cl := [(Str.ofString "sep", c₁)]) ?_ (closure1 hc1 (by with_unfolding_all rfl)) (by with_unfolding_all rfl) (by decide +kernel) (by intro _; walk_at "q.rf")
  walk_at "q.go"
  refine comp_set (vs := vs) hE r ⟨_, C.tup ht, rfl, _, rfl⟩ (by decide +kernel) (by walk_at "q.rf") (by decide +kernel) (by have := ok.hn; omega) ?_ ?_
  · rintro C' I D P Pd i v m' s' hvi hE' c
    obtain ⟨x, tx, rfl, hxi⟩ := hv.get hvi
    have hsw := ok.hs x (List.mem_of_getElem? hxi)
    have hc : (compEnvC { kind := ScopeKind.function, names := [(Str.ofString ".0", NameKind.local), (Str.ofString "p", NameKind.local), (Str.ofString "sep", NameKind.free)], isGenerator := false, isCoroutine := false } [(Str.ofString "sep", c₁)] C' env).cells.lookup (Str.ofString "sep") = some c₁ := lookup1
    walk_at "q.go"
    exact ⟨by rw [hsw], _, c⟩
  · rintro C' D m' s' c
    refine setcomp_post C c ?_
    intro s'' C''
    refine l_unpack1 rfl C'' r ?_ (by walk_at "q.rf") (by walk_at "q.rf")
    intro s3 C3
    with_unfolding_all refine in_order (a_name (st C3 hE (by decide +kernel) fun s4 C4 => in_order0 (x_nil (at_next (h s4 C4)))))
def keepC (c : Str) : Bool := decide (c.length ≠ 0) && decide (c ≠ Str.ofString ".")
theorem comps_eq (x : Str) : comps x = (Txt.split x (Str.ofString "/")).filter keepC := rfl
set_option maxHeartbeats 4000000 in
theorem common_d {c₂ D : Addr} {ys : List Value} {rows : List (List Str)} {t₂ : Tok} {Q : Flow → Shared → Prop} (r : Rm A 1 57) (hE : EnvOk env (scOf (theDef 18)) L)
    (hc2 : env.cells.lookup (Str.ofString "curdir") = some c₂) (mp : m (Str.ofString "split_paths") = some (.ref D))
    (C : St s₀ L m led s) (hD : (D, isL ys) ∈ led) (hr : LR led ys rows) (k2 : s.heap.IsCell c₂ (some (.str (Str.ofString ".") t₂))) (hm : rows.length ≤ 1000) (hw : ∀ r ∈ rows, r.length ≤ 1000 ∧ ∀ c ∈ r, c.length ≤ 1000)
    (h : ∀ D' ys' led' s', LR led' ys' (rows.map fun r => r.filter keepC) → St s₀ L (upd m (Str.ofString "split_paths") (.ref D')) ((D', isL ys') :: led' ++ led) s' →
      wpAny (model prog w) A (execs (tryBody.drop 3) env) Q E s') :
    wpAny (model prog w) A (execs (tryBody.drop 2) env) Q E s := by
  refine x_comp (cl := [(Str.ofString "curdir", c₂)]) ?_ (swapsW_of hE (by with_unfolding_all rfl)) (closure1 hc2 (by with_unfolding_all rfl)) (by with_unfolding_all rfl) (by decide +kernel) (by intro _; walk_at "q.rf")
  walk_at "q.go"
  refine comp_list (vs := ys) hE r (C.lst hD) (by decide +kernel) (by walk_at "q.rf") (by decide +kernel) (fun i ys led => LR led ys ((rows.take i).map fun r => r.filter keepC)) LR.nil
    (fun i ys led j => by have := j.n; simp at *; omega) ?_ ?_
  · rintro C' I Ds P i v ys₁ led' m' s' hvi j hE' c
    obtain ⟨p, ws, rfl, hmem, hws⟩ := hr.at_ i v hvi
    have hi : i < rows.length := by rw [← hr.n]; exact (List.getElem?_eq_some_iff.mp hvi).1
    have hri : rows[i]? = some (rows.getD i []) := by rw [List.getD_eq_getElem?_getD, List.getElem?_eq_getElem hi]; rfl
    generalize rows.getD i [] = ro at hws hri
    obtain ⟨hrl, hrc⟩ := hw ro (List.mem_of_getElem? hri)
    have hp := C.pl hmem
    have hwl := hws.length
    have hc : (compEnvC { kind := ScopeKind.function, names := [(Str.ofString ".0", NameKind.local), (Str.ofString "s", NameKind.local), (Str.ofString "curdir", NameKind.free)], isGenerator := false, isCoroutine := false } [(Str.ofString "curdir", c₂)] C' env).cells.lookup (Str.ofString "curdir") = some c₂ := lookup1
    refine tests0 (tt ?_)
    refine e_comp (cl := [(Str.ofString "curdir", c₂)]) ?_ (closure1 hc (by with_unfolding_all rfl)) (by with_unfolding_all rfl) (by decide +kernel) (by intro _; walk_at "q.rf")
    walk_at "q.go"
    refine comp_list (vs := ws) hE' r (c.bil hp) (by decide +kernel) (by walk_at "q.rf") (by decide +kernel) (fun i ys led => led = [] ∧ ys.length ≤ i ∧ i ≤ ro.length ∧ Ss ys ((ro.take i).filter keepC)) ⟨rfl, Nat.le_refl _, Nat.zero_le _, Ss.nil⟩
      (fun i ys led j => by have := j.2.1; have := j.2.2.1; omega) ?_ ?_
    · rintro C'' I' D' P' i' v' ys' led₁ m'' s'' hvi' ⟨rfl, hyl, hil, hys⟩ hE'' c''
      obtain ⟨z, tz, rfl, hzi⟩ := hws.get hvi'
      have hzl := hrc z (List.mem_of_getElem? hzi)
      have hlt : i' < ro.length := (List.getElem?_eq_some_iff.mp hzi).1
      have k3 : s'.heap.IsCell c₂ (some (.str (Str.ofString ".") t₂)) := c.cell0 k2
      refine tests1 ?_
      walk_at "q.go"
      refine br (fun q1 => ?_) (fun q1 => ?_)
      · walk_at "q.go"
        have et : (ro.take (i' + 1)).filter keepC = (ro.take i').filter keepC ++ (if z ≠ Str.ofString "." then [z] else []) := by
          rw [List.take_add_one, hzi, List.filter_append]
          congr 1
          unfold keepC
          rw [show (some z).toList = [z] from rfl, List.filter_cons, decide_eq_true q1, Bool.true_and, List.filter_nil]
          by_cases hz : z ≠ Str.ofString "."
          · rw [if_pos (decide_eq_true hz), if_pos hz]
          · rw [if_neg (by simpa using hz), if_neg hz]
        by_cases q2 : z ≠ Str.ofString "."
        · rw [if_pos q2] at et
          rw [decide_eq_true q2]
          unfold CompTurn
          refine tt ?_
          walk_at "q.go"
          refine ⟨_, _, ⟨rfl, by simp; omega, hlt, ?_⟩, by assumption⟩
          rw [et]
          exact hys.snoc z tz
        · rw [if_neg q2] at et
          rw [decide_eq_false q2]
          unfold CompTurn
          refine ff ⟨_, _, ⟨rfl, by omega, hlt, ?_⟩, by assumption⟩
          rw [et, List.append_nil]
          exact hys
      · have et : (ro.take (i' + 1)).filter keepC = (ro.take i').filter keepC := by
          rw [List.take_add_one, hzi, List.filter_append, show (some z).toList = [z] from rfl, List.filter_cons, if_neg (by unfold keepC; rw [decide_eq_false q1]; exact Bool.false_ne_true), List.filter_nil, List.append_nil]
        unfold CompTurn
        refine ff ⟨_, _, ⟨rfl, by omega, hlt, ?_⟩, by assumption⟩
        rw [et]
        exact hys
    · rintro C'' D' ys' led₁ m'' s'' ⟨rfl, _, _, hys⟩ c''
      rw [hwl, List.take_length] at hys
      refine comp_post c c'' ?_
      intro s3 C3
      refine ⟨_, (D', isL ys') :: led', ?_, C3.perm ((List.Perm.swap _ _ _).trans (.cons _ (.swap _ _ _)))⟩
      rw [List.take_add_one, hri, List.map_append]
      exact j.add hys
  · rintro C' D' ys' led' m' s' j c
    rw [hr.n, List.take_length] at j
    exact comp_use hE (by decide +kernel) C c fun s'' C'' => h D' ys' led' s'' j C''
set_option maxHeartbeats 4000000 in
theorem common_f {c₁ q : Addr} {wq : List Value} {cs : List Str} {t₁ : Tok} {Q : Flow → Shared → Prop} (r : Rm A 1 57) (hE : EnvOk env (scOf (theDef 18)) L)
    (hc1 : env.cells.lookup (Str.ofString "sep") = some c₁) (mi : m (Str.ofString "isabs") = some (.bool true)) (mc : m (Str.ofString "common") = some (.ref q))
    (C : St s₀ L m led s) (hq : (q, isL wq) ∈ led) (hw : Ss wq cs) (k1 : (c₁, isC (some (.str (Str.ofString "/") t₁))) ∈ led) (hj : JoinOk (Str.ofString "/") cs = true) (hl : (Txt.join (Str.ofString "/") cs).length ≤ 10000)
    (h : ∀ t s', Keeps s₀ s' → Q (.ret (.str (Str.ofString "/" ++ Txt.join (Str.ofString "/") cs) t)) s') :
    wpAny (model prog w) A (execs (tryBody.drop 7) env) Q E s := by
  have s1 : (Str.ofString "/").length = 1 := by decide +kernel
  refine x_assign ?_
  walk_at "q.go"
  refine l_join (by assumption) (by walk_at "q.il") hw ?_ hj
  intro t9 s9 C9
  walk_at "q.go"
  exact h _ _ (St.base (by assumption))
theorem cpre_take {xs ys : List Str} : ∀ {i : Nat}, i ≤ xs.length → xs.take i = ys.take i → (i = xs.length ∨ (∃ x y, xs[i]? = some x ∧ ys[i]? = some y ∧ x ≠ y)) → cpre xs ys = xs.take i := by
  induction xs generalizing ys with
  | nil => intro i hi h h2; unfold cpre; simp
  | cons x xs ih =>
    intro i hi h h2
    cases i with
    | zero =>
      rcases h2 with h2 | ⟨a, b, ha, hb, hab⟩
      · simp at h2
      · cases ys with
        | nil => simp at hb
        | cons y ys =>
          simp at ha hb
          subst ha hb
          unfold cpre
          rw [if_neg hab]; rfl
    | succ i =>
      cases ys with
      | nil => simp at h
      | cons y ys =>
        rw [List.take_succ_cons, List.take_succ_cons] at h
        obtain ⟨e, h'⟩ := List.cons.inj h
        subst e
        unfold cpre
        rw [if_pos rfl, List.take_succ_cons]
        congr 1
        refine ih (by simpa using hi) h' ?_
        rcases h2 with h2 | ⟨a, b, ha, hb, hab⟩
        · left; simpa using h2
        · right; exact ⟨a, b, by simpa using ha, by simpa using hb, hab⟩
def cmJ (p1 p2 : Addr) (S1 S2 : List Str) (led : List (Addr × (Obj → Prop))) (i : Nat) (m : Str → Option Value) (led' : List (Addr × (Obj → Prop))) : Prop :=
  led' = led ∧ m (Str.ofString "s1") = some (.ref p1) ∧ m (Str.ofString "s2") = some (.ref p2) ∧ m (Str.ofString "common") = some (.ref p1) ∧ m (Str.ofString "isabs") = some (.bool true) ∧ S1.take i = S2.take i
set_option maxHeartbeats 4000000 in
theorem common_e {c₁ D : Addr} {ys : List Value} {rows : List (List Str)} {t₁ : Tok} {Q : Flow → Shared → Prop} (r : Rm A 1 57) (hE : EnvOk env (scOf (theDef 18)) L) (G : Gd mg mb s₀.heap)
    (hc1 : env.cells.lookup (Str.ofString "sep") = some c₁) (mi : m (Str.ofString "isabs") = some (.bool true)) (mp : m (Str.ofString "split_paths") = some (.ref D))
    (C : St s₀ L m led s) (hD : (D, isL ys) ∈ led) (hr : LR led ys rows) (k1 : (c₁, isC (some (.str (Str.ofString "/") t₁))) ∈ led) (hn : rows.length ≠ 0) (hm : ∀ r ∈ rows, r.length ≤ 1000)
    (hi : ∀ i, i < (least rows).length → (least rows).take i = (most rows).take i → i < (most rows).length)
    (hj : JoinOk (Str.ofString "/") (cpre (least rows) (most rows)) = true) (hl : (Txt.join (Str.ofString "/") (cpre (least rows) (most rows))).length ≤ 10000)
    (h : ∀ t s', Keeps s₀ s' → Q (.ret (.str (Str.ofString "/" ++ Txt.join (Str.ofString "/") (cpre (least rows) (most rows))) t)) s') :
    wpAny (model prog w) A (execs (tryBody.drop 3) env) Q E s := by
  have hyl := hr.n
  refine x_assign ?_
  walk_at "q.go"
  refine l_min (rows := rows) r (by decide) (by omega) (by assumption) (fun s' C' => hr.at1 C') (fun s' C' => C'.lst hD) ?_
  intro v s2 hv C2
  obtain ⟨p1, w1, rfl, h1, hs1⟩ := hr.at_ _ _ hv
  walk_at "q.go"
  refine l_max (rows := rows) r (by decide) (by omega) (by assumption) (fun s' C' => hr.at1 C') (fun s' C' => C'.lst hD) ?_
  intro v s3 hv' C3
  obtain ⟨p2, w2, rfl, h2, hs2⟩ := hr.at_ _ _ hv'
  rw [hyl] at hs1 hs2
  have hs1 : Ss w1 (least rows) := hs1
  have hs2 : Ss w2 (most rows) := hs2
  have g1 : (least rows).length ≤ 1000 := by
    have hlt : argBest (btMin rows) (rows.length - 1) < rows.length := by have := argBest_le (btMin rows) (rows.length - 1); omega
    unfold least
    rw [List.getD_eq_getElem?_getD, List.getElem?_eq_getElem hlt]
    exact hm _ (List.getElem_mem hlt)
  have g2 : (most rows).length ≤ 1000 := by
    have hlt : argBest (btMax rows) (rows.length - 1) < rows.length := by have := argBest_le (btMax rows) (rows.length - 1); omega
    unfold most
    rw [List.getD_eq_getElem?_getD, List.getElem?_eq_getElem hlt]
    exact hm _ (List.getElem_mem hlt)
  generalize least rows = S1 at *
  generalize most rows = S2 at *
  have l1 := hs1.length
  have l2 := hs2.length
  walk_at "q.go"
  refine l_enumerate (vs := w1) (by assumption) (by walk_at "q.il") ?_
  intro e it s5 C5
  refine for_enum (vs := w1) (ax := p1) C5 hE r (cmJ p1 p2 S1 S2 led) ⟨rfl, by walk_at "q.lk", by walk_at "q.lk", by walk_at "q.lk", by walk_at "q.lk", rfl⟩ (by decide +kernel) (by decide +kernel) (fun i m led s j c => by obtain ⟨rfl, _⟩ := j; exact c.lst h1) ?_ ?_
  · rintro i v t m' led' s' hi' hvi ⟨rfl, m1, m2, m3, m4, htk⟩ C'
    obtain ⟨x, tx, rfl, hxi⟩ := hs1.get hvi
    have hi2 := hi i (by omega) htk
    obtain ⟨ty, hyi⟩ := hs2.get' (i := i) (x := S2[i]) (by simp [hi2])
    have hyi' : S2[i]? = some S2[i] := by simp [hi2]
    generalize S2[i] = y at hyi hyi'
    walk_at "q.go"
    refine l_item_list (k := i) (by walk_at "q.il") hyi ?_ (by walk_at "q.rf") (by omega)
    walk_at "q.go"
    refine br (fun q1 => ?_) (fun q1 => ?_)
    · have ecp : cpre S1 S2 = S1.take i := cpre_take (by omega) htk (.inr ⟨x, y, hxi, hyi', q1⟩)
      rw [ecp] at hj hl h
      have s1 : (Str.ofString "/").length = 1 := by decide +kernel
      walk_at "q.go"
      refine l_join (xs := S1.take i) (by assumption) (by walk_at "q.il") (by have := hs1.take i; simpa using this) ?_ hj
      intro t9 s9 C9
      walk_at "q.go"
      exact h _ _ (St.base (by assumption))
    · have exy : x = y := by simpa using q1
      subst exy
      walk_at "q.go"
      refine te_next' (by assumption) ⟨_, rfl, rfl, by walk_at "q.lk", by walk_at "q.lk", by walk_at "q.lk", by walk_at "q.lk", ?_⟩
      rw [List.take_add_one, List.take_add_one, hxi, hyi', htk]
  · rintro m' led' s' ⟨rfl, m1, m2, m3, m4, htk⟩ C'
    have ecp : cpre S1 S2 = S1 := by
      have := cpre_take (xs := S1) (ys := S2) (i := S1.length) (Nat.le_refl _) (by rw [← l1]; exact htk) (.inl rfl)
      rw [this, List.take_length]
    rw [ecp] at hj hl h
    exact common_f r hE hc1 m4 m3 C' h1 hs1 k1 hj hl h
set_option maxHeartbeats 4000000 in
theorem common_spec {a b : Addr} {vs : List Value} {xs : List Str} {Q : Value → Shared → Prop} (hv : Ss vs xs) (hl : s.heap.PlainList b vs.toArray) (ok : CommonOk xs)
    (G : Gd mg mb s.heap) (hf : FnAt s.heap 18 a) (r : Rm A 2 60) (h : ∀ t s', Keeps s s' → Q (.str (commoned xs) t) s') :
    wpAny (model prog w) A (call (.ref a) [.ref b]) Q E s := by
  refine common_a hv hl ok G hf r ?_
  intro A env L c₁ c₂ tp m t₁ t₂ s1 r hE hc1 hc2 mp C
  refine x_try ?_
  show wpAny (model prog w) A (execs tryBody env) _ _ _
  refine common_b hv ok r hE hc1 hc2 mp C ?_
  intro D ys led' s2 j C2
  have mem : ∀ {x : Addr × (Obj → Prop)} {l : List (Addr × (Obj → Prop))}, x ∈ l → x ∈ (D, isL ys) :: led' ++ l := fun hx => List.mem_append_right _ hx
  refine common_c hv ok r hE hc1 (by walk_at "q.lk") C2 (mem (.head _)) (C2.cell (mem (.tail _ (.head _)))) ?_
  intro s3 C3
  refine common_d r hE hc2 (by walk_at "q.lk") C3 (.head _) (j.sub fun p hp => List.mem_append_left _ (.tail _ hp)) (C3.cell (mem (.tail _ (.tail _ (.head _))))) (by rw [List.length_map]; exact ok.hm) ?_ ?_
  · intro ro hro
    obtain ⟨x, hx, rfl⟩ := List.mem_map.mp hro
    exact ⟨ok.hc x hx, ok.hd x hx⟩
  intro D' ys' led'' s4 j' C4
  have erows : (xs.map fun x => Txt.split x (Str.ofString "/")).map (fun r => r.filter keepC) = xs.map comps := by
    rw [List.map_map]; rfl
  rw [erows] at j'
  refine common_e (rows := xs.map comps) r hE G hc1 (by walk_at "q.lk") (by walk_at "q.lk") C4 (.head _) (j'.sub fun p hp => List.mem_append_left _ (.tail _ hp)) (List.mem_append_right _ (mem (.tail _ (.head _))))
    (by rw [List.length_map]; exact ok.hn) ?_ ok.hi ok.hj ok.hl (fun t s' k => h t s' k)
  intro ro hro
  obtain ⟨x, hx, rfl⟩ := List.mem_map.mp hro
  exact Nat.le_trans (List.length_filter_le _ _) (ok.hc x hx)
theorem common_call {a b : Addr} {vs : List Value} {xs : List Str} {d u : Nat} {Q : Value → Shared → Prop} (C : St s₀ L m led s) (G : Gd mg mb s₀.heap) (hf : FnAt s₀.heap 18 a) (r : Rm A d u) (hl : s.heap.PlainList b vs.toArray) (hv : Ss vs xs)
    (ok : CommonOk xs) (h : ∀ t' s', St s₀ L m led s' → Q (.str (commoned xs) t') s') (hd : 2 ≤ d := by decide) (hu : 60 ≤ u := by decide) :
    wpAny (model prog w) A (call (.ref a) [.ref b]) Q E s := common_spec hv hl ok (G.keeps C.c.keep) (C.fn hf) (r.le hd hu) (fun t' s' k => h t' s' (C.keeps k))
end
local macro_rules | `(tactic| walk_at "q.c") => `(tactic| (with_reducible refine common_call (by assumption) (by assumption) (by assumption) (by assumption) (by walk_at "q.pl") (by assumption) (by assumption) ?_; intro _ _ _))
-- part F15
section
variable {prog : Program} {w : World} {M : Model} {A : Around} {E : Value → Shared → Prop} {s₀ s : Shared} {L : Addr} {m : Str → Option Value} {led : List (Addr × (Obj → Prop))} {env : Env} {sc : Scope} {mg mb : Str → Option Value}
/-! ## _law_masks -/
def lens (rows : List (List Str)) : List Int := rows.map fun r => (r.length : Int)
theorem lens_get {rows : List (List Str)} {i : Nat} (hi : i < rows.length) : (lens rows).take (i + 1) = (lens rows).take i ++ [((rows.getD i []).length : Int)] := by
  unfold lens
  rw [List.take_add_one, List.getElem?_map, List.getElem?_eq_getElem hi, List.getD_eq_getElem?_getD, List.getElem?_eq_getElem hi]; rfl
theorem RowsAt.keeps {h h' : Heap} {vs : List Value} {rows : List (List Str)} (x : RowsAt h vs rows) (k : Kp h h') : RowsAt h' vs rows :=
  ⟨x.n, fun i v hv => let ⟨p, ws, e, ⟨n, hp⟩, hs⟩ := x.at_ i v hv; ⟨p, ws, e, ⟨n, k _ _ hp⟩, hs⟩⟩
set_option maxHeartbeats 4000000 in
/-- the two first statements -/
theorem masks_a {ra : Addr} {vs : List Value} {rows : List (List Str)} {Q : Flow → Shared → Prop} (hr : RowsAt s₀.heap vs rows) (hl : s₀.heap.PlainList ra vs.toArray) (hn : rows.length ≠ 0) (hm : rows.length ≤ 1000) (hw : ∀ r ∈ rows, CellsOk r) (r : Rm A 1 70) (hE : EnvOk env (scOf (theDef 29)) L)
    (G : Gd mg mb s₀.heap) (mr : m (Str.ofString "rows") = some (.ref ra)) (C : St s₀ L m [] s)
    (h : ∀ t wa wws s', Ss wws (rows.map cells) → St s₀ L (upd (upd m (Str.ofString "least") (.int (leastOf (lens rows)) t)) (Str.ofString "written") (.ref wa)) [(wa, isL wws)] s' →
      wpAny (model prog w) A (execs ((bodyOf (theDef 29)).drop 2) env) Q E s') :
    wpAny (model prog w) A (execs (bodyOf (theDef 29)) env) Q E s := by
  have hvl := hr.n
  obtain ⟨a27, e27, f27⟩ := G.f27
  refine x_assign ?_
  walk_at "q.go"
  have G1 : Gd mg mb s.heap := G.keeps C.kp
  refine e_comp (cl := []) ?_ (by walk_at "q.rf") (by walk_at "q.rf") (by decide +kernel) (by intro _; walk_at "q.rf")
  walk_at "q.go"
  refine comp_list hE r (C.bil hl) (by decide +kernel) (by walk_at "q.rf") (by decide +kernel) (fun i ys led => led = [] ∧ i ≤ rows.length ∧ Is ys ((lens rows).take i)) ⟨rfl, Nat.zero_le _, Is.nil⟩
    (fun i ys led j => by have := j.2.2.length; simp at this; omega) ?_ ?_
  · rintro C' I D P i v ys led m' s' hvi ⟨rfl, hi, hys⟩ hE' c
    obtain ⟨p, ws, rfl, hp, hws⟩ := (hr.keeps C.kp).at_ i v hvi
    have hlt : i < rows.length := by rw [← hvl]; exact (List.getElem?_eq_some_iff.mp hvi).1
    have hrow := hw (rows.getD i []) (by rw [List.getD_eq_getElem?_getD, List.getElem?_eq_getElem hlt]; exact List.getElem_mem hlt)
    have hwl := hws.length
    have hwn := hrow.hn
    refine tests0 (tt ?_)
    walk_at "q.go"
    refine ⟨_, _, ⟨rfl, hlt, ?_⟩, by assumption⟩
    rw [lens_get hlt, ← hwl]
    exact hys.snoc _ _
  · rintro C' D ys led m' s' ⟨rfl, _, hys⟩ c
    rw [hvl, List.take_of_length_le (by simp [lens])] at hys
    refine comp_post C c ?_
    intro s2 C2
    refine l_min_int C2 r (C2.lst (.head _)) hys (by simp [lens]; exact fun z => hn (by rw [z]; rfl)) ?_
    intro tl s3 C3
    have C3 := C3.drop
    walk_at "q.go"
    rename_i s4 C4
    have G4 : Gd mg mb s4.heap := G.keeps C4.kp
    have f4 : FnAt s4.heap 27 a27 := f27.keeps C4.kp
    refine x_comp (cl := []) ?_ (swapsW_of hE (by with_unfolding_all rfl)) (by walk_at "q.rf") (by walk_at "q.rf") (by decide +kernel) (by intro _; walk_at "q.rf")
    walk_at "q.go"
    refine comp_list hE r (C4.bil hl) (by decide +kernel) (by walk_at "q.rf") (by decide +kernel) (fun i ys led => led = [] ∧ i ≤ rows.length ∧ Ss ys ((rows.take i).map cells)) ⟨rfl, Nat.zero_le _, Ss.nil⟩
      (fun i ys led j => by have := j.2.2.length; simp at this; omega) ?_ ?_
    · rintro C' I D P i v ys led m' s' hvi ⟨rfl, hi, hys⟩ hE' c
      obtain ⟨p, ws, rfl, hp, hws⟩ := (hr.keeps C4.kp).at_ i v hvi
      have hlt : i < rows.length := by rw [← hvl]; exact (List.getElem?_eq_some_iff.mp hvi).1
      have hri : rows[i]? = some (rows.getD i []) := by rw [List.getD_eq_getElem?_getD, List.getElem?_eq_getElem hlt]; rfl
      have hrow := hw (rows.getD i []) (List.mem_of_getElem? hri)
      refine tests0 (tt ?_)
      walk_at "q.go"
      refine ⟨_, _, ⟨rfl, hlt, ?_⟩, by assumption⟩
      rw [List.take_add_one, hri, List.map_append]
      exact hys.snoc _ _
    · rintro C' D ys led m' s' ⟨rfl, _, hys⟩ c
      rw [hvl, List.take_length] at hys
      exact comp_use hE (by decide +kernel) C4 c fun s'' C'' => h tl D ys s'' hys C''
set_option maxHeartbeats 4000000 in
/-- the first loop -/
theorem masks_b {ra sa ba wa : Addr} {vs vsh vbe wws : List Value} {rows : List (List Str)} {shared behind : List Str} {lst : Int} {tl : Tok} {Q : Flow → Shared → Prop} (hr : RowsAt s₀.heap vs rows) (hl : s₀.heap.PlainList ra vs.toArray) (hls : s₀.heap.PlainList sa vsh.toArray) (hlb : s₀.heap.PlainList ba vbe.toArray)
    (hsh : Ss vsh shared) (hbe : Ss vbe behind) (oks : FitOk shared) (okb : FitOk behind) (okr : ∀ r ∈ rows, FitOk r) (hm : rows.length ≤ 1000) (r : Rm A 1 70) (hE : EnvOk env (scOf (theDef 29)) L)
    (hfit : ∀ r ∈ rows, fits shared [] r = true ∧ fits [] behind.reverse r = true)
    (G : Gd mg mb s₀.heap) (mr : m (Str.ofString "rows") = some (.ref ra)) (ms : m (Str.ofString "shared") = some (.ref sa)) (mbe : m (Str.ofString "behind") = some (.ref ba)) (ml : m (Str.ofString "least") = some (.int lst tl)) (mw : m (Str.ofString "written") = some (.ref wa))
    (C : St s₀ L m [(wa, isL wws)] s)
    (h : ∀ m s', m (Str.ofString "rows") = some (.ref ra) → m (Str.ofString "shared") = some (.ref sa) → m (Str.ofString "behind") = some (.ref ba) → m (Str.ofString "least") = some (.int lst tl) → m (Str.ofString "written") = some (.ref wa) → St s₀ L m [(wa, isL wws)] s' →
      wpAny (model prog w) A (execs ((bodyOf (theDef 29)).drop 3) env) Q E s') :
    wpAny (model prog w) A (execs ((bodyOf (theDef 29)).drop 2) env) Q E s := by
  have hvl := hr.n
  obtain ⟨a28, e28, f28⟩ := G.f28
  refine x_for ?_ (by intro _; walk_at "q.rf")
  walk_at "q.go"
  refine for_list (vs := vs) C hE r (fun i m led => led = [(wa, isL wws)] ∧ m (Str.ofString "rows") = some (.ref ra) ∧ m (Str.ofString "shared") = some (.ref sa) ∧ m (Str.ofString "behind") = some (.ref ba) ∧ m (Str.ofString "least") = some (.int lst tl) ∧ m (Str.ofString "written") = some (.ref wa))
    ⟨rfl, mr, ms, mbe, ml, mw⟩ (by decide +kernel) (fun i m led s' j c => c.bil hl) ?_ ?_
  · rintro I P i v m led s' hi hvi ⟨rfl, m1, m2, m3, m4, m5⟩ C'
    obtain ⟨p, ws, rfl, hp, hws⟩ := hr.at_ i v hvi
    have hlt : i < rows.length := by rw [← hvl]; exact hi
    have hri : rows[i]? = some (rows.getD i []) := by rw [List.getD_eq_getElem?_getD, List.getElem?_eq_getElem hlt]; rfl
    have okro := okr (rows.getD i []) (List.mem_of_getElem? hri)
    obtain ⟨hf1, hf2⟩ := hfit (rows.getD i []) (List.mem_of_getElem? hri)
    have ss0 : Ss [] [] := Ss.nil
    have okn : FitOk [] := ⟨Nat.zero_le _, fun _ q => nomatch q⟩
    have hber := hbe.reverse
    have okbr : FitOk behind.reverse := ⟨by rw [List.length_reverse]; exact okb.n, fun x hx => okb.o x (List.mem_reverse.mp hx)⟩
    have hbl := hbe.length
    have hbn := okb.n
    walk_at "q.go"
    rw [hf1]
    refine ff ?_
    walk_at "q.go"
    rw [hf2]
    refine ff ?_
    walk_at "q.go"
    rename_i s9 C9
    exact te_next' (C9.sub (.cons _ (.cons _ (.cons _ (.cons₂ _ (.cons₂ _ .slnil)))))) ⟨rfl, by walk_at "q.lk", by walk_at "q.lk", by walk_at "q.lk", by walk_at "q.lk", by walk_at "q.lk"⟩
  · rintro m led s' ⟨rfl, m1, m2, m3, m4, m5⟩ C'
    exact h m s' m1 m2 m3 m4 m5 C'
def hiBody : List Stmt := match (bodyOf (theDef 29)).getD 3 (.Pass ⟨0, 0, 0, 0⟩) with | .For _ _ b _ _ => b | _ => []
def loBody : List Stmt := match hiBody.getD 0 (.Pass ⟨0, 0, 0, 0⟩) with | .For _ _ b _ _ => b | _ => []
/-- the names of the frame that stand fast in the innermost loop -/
structure MV (m : Str → Option Value) (ra sa ba wa fa ea : Addr) (lst : Int) (hi lo : Nat) (mk : Str) : Prop where
  mr : m (Str.ofString "rows") = some (.ref ra)
  ms : m (Str.ofString "shared") = some (.ref sa)
  mbe : m (Str.ofString "behind") = some (.ref ba)
  ml : ∃ t, m (Str.ofString "least") = some (.int lst t)
  mw : m (Str.ofString "written") = some (.ref wa)
  mh : ∃ t, m (Str.ofString "high") = some (.int (hi : Nat) t)
  mlo : ∃ t, m (Str.ofString "low") = some (.int (lo : Nat) t)
  mf : m (Str.ofString "front") = some (.ref fa)
  me : m (Str.ofString "end") = some (.ref ea)
  mm : ∃ t, m (Str.ofString "mask") = some (.str mk t)
theorem MV.upd {m : Str → Option Value} {ra sa ba wa fa ea : Addr} {lst : Int} {hi lo : Nat} {mk : Str} (x : MV m ra sa ba wa fa ea lst hi lo mk) {n : Str} {v : Value}
    (hn : ∀ y ∈ [Str.ofString "rows", Str.ofString "shared", Str.ofString "behind", Str.ofString "least", Str.ofString "written", Str.ofString "high", Str.ofString "low", Str.ofString "front", Str.ofString "end", Str.ofString "mask"], (y == n) = false) :
    MV (Mine.upd m n v) ra sa ba wa fa ea lst hi lo mk := by
  obtain ⟨mr, ms, mbe, ⟨_, ml⟩, mw, ⟨_, mh⟩, ⟨_, mlo⟩, mf, me, ⟨_, mm⟩⟩ := x
  refine ⟨upd_ne (hn _ ?_) mr, upd_ne (hn _ ?_) ms, upd_ne (hn _ ?_) mbe, ⟨_, upd_ne (hn _ ?_) ml⟩, upd_ne (hn _ ?_) mw, ⟨_, upd_ne (hn _ ?_) mh⟩, ⟨_, upd_ne (hn _ ?_) mlo⟩, upd_ne (hn _ ?_) mf, upd_ne (hn _ ?_) me, ⟨_, upd_ne (hn _ ?_) mm⟩⟩ <;> simp
def maskJ (ra sa ba wa fa ea : Addr) (lst : Int) (hi lo : Nat) (mk : Str) (front en : List Str) (rows : List (List Str)) (led : List (Addr × (Obj → Prop))) (i : Nat) (m : Str → Option Value) (led' : List (Addr × (Obj → Prop))) : Prop :=
  led' = led ∧ MV m ra sa ba wa fa ea lst hi lo mk ∧ ∃ t, m (Str.ofString "taken") = some (.int (((rows.take i).countP (fits front en) : Nat) : Int) t)
set_option maxHeartbeats 4000000 in
theorem masks_c {ra sa ba wa fa ea : Addr} {vs wws vf ve : List Value} {rows : List (List Str)} {front en : List Str} {lst : Int} {hi lo : Nat} {mk : Str} {Q : Flow → Shared → Prop} (hr : RowsAt s₀.heap vs rows) (hl : s₀.heap.PlainList ra vs.toArray)
    (okr : ∀ r ∈ rows, FitOk r) (okf : FitOk front) (oke : FitOk en) (hm : rows.length ≤ 1000) (okm : EllOk mk (cells front) (cells en)) (hcl : ∀ r ∈ rows, (cells r).length ≤ 10000)
    (hww : Ss wws (rows.map cells)) (hvf : Ss vf front) (hve : Ss ve en) (r : Rm A 1 70) (hE : EnvOk env (scOf (theDef 29)) L)
    (hq : ∀ r ∈ rows, ematch (cells front) (cells en) (cells r) = fits front en r)
    (G : Gd mg mb s₀.heap) (mv : MV m ra sa ba wa fa ea lst hi lo mk) (C : St s₀ L m led s) (hwa : (wa, isL wws) ∈ led) (hfa : (fa, isL vf) ∈ led) (hea : (ea, isL ve) ∈ led)
    (h : ∀ m s' t, MV m ra sa ba wa fa ea lst hi lo mk → m (Str.ofString "taken") = some (.int ((rows.countP (fits front en) : Nat) : Int) t) → St s₀ L m led s' →
      wpAny (model prog w) A (execs (loBody.drop 5) env) Q E s') :
    wpAny (model prog w) A (execs (loBody.drop 3) env) Q E s := by
  have hvl := hr.n
  obtain ⟨a28, e28, f28⟩ := G.f28
  obtain ⟨a21, e21, f21⟩ := G.f21
  obtain ⟨mr, ms, mbe, ⟨_, ml⟩, mw, ⟨_, mh⟩, ⟨_, mlo⟩, mf, me, ⟨_, mm⟩⟩ := id mv
  refine x_assign ?_
  walk_at "q.go"
  refine l_enumerate (vs := vs) (by assumption) (by walk_at "q.il") ?_
  intro e it s5 C5
  have e0 : (((rows.take 0).countP (fits front en) : Nat) : Int) = 0 := by simp
  refine for_enum (vs := vs) (ax := ra) C5 hE r (maskJ ra sa ba wa fa ea lst hi lo mk front en rows led) ⟨rfl, mv.upd (by decide +kernel), _, by rw [e0]; walk_at "q.lk"⟩ (by decide +kernel) (by decide +kernel) (fun i m led s j c => c.bil hl) ?_ ?_
  · rintro i v t m' led' s' hi' hvi ⟨rfl, mv', t', mt⟩ C'
    obtain ⟨p, ws, rfl, hp, hws⟩ := hr.at_ i v hvi
    have hlt : i < rows.length := by rw [← hvl]; exact hi'
    have hri : rows[i]? = some (rows.getD i []) := by rw [List.getD_eq_getElem?_getD, List.getElem?_eq_getElem hlt]; rfl
    have okro := okr (rows.getD i []) (List.mem_of_getElem? hri)
    have hqi := hq (rows.getD i []) (List.mem_of_getElem? hri)
    have hci := hcl (rows.getD i []) (List.mem_of_getElem? hri)
    obtain ⟨tw, hwi⟩ := hww.get' (i := i) (x := cells (rows.getD i [])) (by rw [List.getElem?_map, hri]; rfl)
    have hct : (rows.take (i + 1)).countP (fits front en) = (rows.take i).countP (fits front en) + (if fits front en (rows.getD i []) = true then 1 else 0) := by
      rw [List.take_add_one, hri, List.countP_append]
      simp [List.countP_cons]
    have hwl := hww.length
    rw [List.length_map] at hwl
    clear mr ms mbe ml mw mh mlo mf me mm C5
    obtain ⟨mr, ms, mbe, ⟨_, ml⟩, mw, ⟨_, mh⟩, ⟨_, mlo⟩, mf, me, ⟨_, mm⟩⟩ := id mv'
    walk_at "q.go"
    refine l_item_list (k := i) (by walk_at "q.il") hwi ?_ (by walk_at "q.rf") (by omega)
    refine ⟨St.kp (by assumption), ?_⟩
    refine ell_call (by assumption) G f21 r okm hci ?_
    intro s6 C6
    rw [hqi]
    walk_at "q.go"
    refine ff ?_
    walk_at "q.go"
    rw [bne_self_eq_false]
    walk_at "q.go"
    refine brb (fun q1 => ?_) (fun q1 => ?_)
    · have e1 : (((rows.take (i + 1)).countP (fits front en) : Nat) : Int) = (((rows.take i).countP (fits front en) : Nat) : Int) + 1 := by rw [hct, if_pos q1]; omega
      walk_at "q.go"
      exact te_next' (by assumption) ⟨_, rfl, rfl, (((mv'.upd (by decide +kernel)).upd (by decide +kernel)).upd (by decide +kernel)).upd (by decide +kernel), _, by rw [e1]; walk_at "q.lk"⟩
    · have e1 : (((rows.take (i + 1)).countP (fits front en) : Nat) : Int) = (((rows.take i).countP (fits front en) : Nat) : Int) := by rw [hct, if_neg (by rw [q1]; exact Bool.false_ne_true)]; omega
      walk_at "q.go"
      exact te_next' (by assumption) ⟨_, rfl, rfl, ((mv'.upd (by decide +kernel)).upd (by decide +kernel)).upd (by decide +kernel), _, by rw [e1]; walk_at "q.lk"⟩
  · rintro m' led' s' ⟨rfl, mv', t', mt⟩ C'
    rw [hvl, List.take_length] at mt
    exact h m' s' t' mv' mt C'
set_option maxHeartbeats 4000000 in
theorem masks_d {ra sa ba wa fa ea : Addr} {vs vsh vbe wws vf ve : List Value} {rows : List (List Str)} {shared behind front en : List Str} {lst : Int} {hi lo n : Nat} {mk : Str} {tk : Tok} {Q : Flow → Shared → Prop} (hvl : vs.length = rows.length) (hl : s₀.heap.PlainList ra vs.toArray) (hls : s₀.heap.PlainList sa vsh.toArray) (hlb : s₀.heap.PlainList ba vbe.toArray)
    (hsh : Ss vsh shared) (hbe : Ss vbe behind) (oks : FitOk shared) (okb : FitOk behind) (okf : FitOk front) (oke : FitOk en) (hm : rows.length ≤ 1000)
    (hvf : Ss vf front) (hve : Ss ve en) (r : Rm A 1 70) (hE : EnvOk env (scOf (theDef 29)) L)
    (hal : (decide (front = shared.take hi) && (decide (en.reverse = behind.take lo) && decide ((hi : Int) + (lo : Int) ≤ lst))) = decide (n = rows.length))
    (G : Gd mg mb s₀.heap) (mv : MV m ra sa ba wa fa ea lst hi lo mk) (mt : m (Str.ofString "taken") = some (.int ((n : Nat) : Int) tk)) (C : St s₀ L m led s) (hfa : (fa, isL vf) ∈ led) (hea : (ea, isL ve) ∈ led)
    (h : ∀ m led' s', led.Sublist led' → MV m ra sa ba wa fa ea lst hi lo mk → St s₀ L m led' s' → Q .next s') :
    wpAny (model prog w) A (execs (loBody.drop 5) env) Q E s := by
  obtain ⟨mr, ms, mbe, ⟨_, ml⟩, mw, ⟨_, mh⟩, ⟨_, mlo⟩, mf, me, ⟨_, mm⟩⟩ := id mv
  have eh : ((hi : Nat) : Int).toNat = hi := Int.toNat_natCast hi
  have el : ((lo : Nat) : Int).toNat = lo := Int.toNat_natCast lo
  have h1 := hsh.take ((hi : Nat) : Int).toNat
  have h2 := hbe.take ((lo : Nat) : Int).toNat
  have h3 := hve.reverse
  have k1 := oks.o.take ((hi : Nat) : Int).toNat
  have k2 := okb.o.take ((lo : Nat) : Int).toNat
  have k3 : Sok en.reverse := fun x hx => oke.o x (List.mem_reverse.mp hx)
  have k4 := okf.o
  have l1 := hsh.length
  have l2 := hbe.length
  have l3 := hve.length
  have n1 := oks.n
  have n2 := okb.n
  have n3 := oke.n
  have hnt : decide (((n : Nat) : Int) = (vs.length : Int)) = decide (n = rows.length) := by
    rw [hvl]
    by_cases z : n = rows.length
    · rw [decide_eq_true z, decide_eq_true (by omega)]
    · rw [decide_eq_false z, decide_eq_false (by omega)]
  refine x_assign ?_
  walk_at "q.go"
  rw [eh]
  refine br (fun q1 => ?_) (fun q1 => ?_)
  · rw [decide_eq_true q1, Bool.true_and] at hal
    walk_at "q.go"
    rw [el]
    refine br (fun q2 => ?_) (fun q2 => ?_)
    · rw [decide_eq_true q2, Bool.true_and] at hal
      walk_at "q.go"
      rw [hnt, hal, bne_self_eq_false]
      walk_at "q.go"
      rename_i s9 C9
      exact h _ _ _ (.cons _ (.cons _ (.cons _ (List.Sublist.refl _)))) (mv.upd (n := Str.ofString "alike") (by decide +kernel)) C9
    · rw [decide_eq_false q2, Bool.false_and] at hal
      walk_at "q.go"
      rw [hnt, ← hal, decide_eq_false q2]
      walk_at "q.go"
      refine ff ?_
      walk_at "q.go"
      rename_i s9 C9
      exact h _ _ _ (.cons _ (.cons _ (.cons _ (List.Sublist.refl _)))) (mv.upd (n := Str.ofString "alike") (by decide +kernel)) C9
  · rw [decide_eq_false q1, Bool.false_and] at hal
    walk_at "q.go"
    rw [hnt, ← hal, decide_eq_false (by rw [← eh]; exact q1)]
    walk_at "q.go"
    refine ff ?_
    walk_at "q.go"
    rename_i s9 C9
    exact h _ _ _ (.cons _ (List.Sublist.refl _)) (mv.upd (n := Str.ofString "alike") (by decide +kernel)) C9
end
-- part F16
section
variable {prog : Program} {w : World} {M : Model} {A : Around} {E : Value → Shared → Prop} {s₀ s : Shared} {L : Addr} {m : Str → Option Value} {led : List (Addr × (Obj → Prop))} {env : Env} {sc : Scope} {mg mb : Str → Option Value}
def frontOf (rows : List (List Str)) (hi : Nat) : List Str := (rows.getD 0 []).take hi
def endOf (rows : List (List Str)) (lo : Nat) : List Str := (rows.getD (rows.length - 1) []).drop ((rows.getD (rows.length - 1) []).length - lo)
def maskOf (rows : List (List Str)) (hi lo : Nat) : Str := cells (frontOf rows hi) ++ Str.ofString "..." ++ cells (endOf rows lo)
structure PairOk (rows : List (List Str)) (shared behind : List Str) (hi lo : Nat) : Prop where
  okf : FitOk (frontOf rows hi)
  oke : FitOk (endOf rows lo)
  ocf : CellsOk (frontOf rows hi)
  oce : CellsOk (endOf rows lo)
  okm : EllOk (maskOf rows hi lo) (cells (frontOf rows hi)) (cells (endOf rows lo))
  hq : ∀ r ∈ rows, ematch (cells (frontOf rows hi)) (cells (endOf rows lo)) (cells r) = fits (frontOf rows hi) (endOf rows lo) r
  hal : (decide (frontOf rows hi = shared.take hi) && (decide ((endOf rows lo).reverse = behind.take lo) && decide ((hi : Int) + (lo : Int) ≤ leastOf (lens rows)))) = decide (rows.countP (fits (frontOf rows hi) (endOf rows lo)) = rows.length)
structure MasksOk (rows : List (List Str)) (shared behind : List Str) : Prop where
  hn : rows.length ≠ 0
  hm : rows.length ≤ 1000
  okr : ∀ r ∈ rows, FitOk r
  okc : ∀ r ∈ rows, CellsOk r
  hcl : ∀ r ∈ rows, (cells r).length ≤ 10000
  oks : FitOk shared
  okb : FitOk behind
  hfit : ∀ r ∈ rows, fits shared [] r = true ∧ fits [] behind.reverse r = true
  pair : ∀ hi lo, hi ≤ (rows.getD 0 []).length → lo ≤ (rows.getD (rows.length - 1) []).length → PairOk rows shared behind hi lo
set_option maxHeartbeats 4000000 in
theorem masks_e {ra sa ba wa : Addr} {vs vsh vbe wws : List Value} {rows : List (List Str)} {shared behind : List Str} {tl th to : Tok} {hi lo : Nat} {Q : Flow → Shared → Prop} (hr : RowsAt s₀.heap vs rows) (hl : s₀.heap.PlainList ra vs.toArray) (hls : s₀.heap.PlainList sa vsh.toArray) (hlb : s₀.heap.PlainList ba vbe.toArray)
    (hsh : Ss vsh shared) (hbe : Ss vbe behind) (ok : MasksOk rows shared behind) (hww : Ss wws (rows.map cells)) (r : Rm A 1 70) (hE : EnvOk env (scOf (theDef 29)) L)
    (hhi : hi ≤ (rows.getD 0 []).length) (hlo : lo ≤ (rows.getD (rows.length - 1) []).length)
    (G : Gd mg mb s₀.heap) (mr : m (Str.ofString "rows") = some (.ref ra)) (ms : m (Str.ofString "shared") = some (.ref sa)) (mbe : m (Str.ofString "behind") = some (.ref ba)) (ml : m (Str.ofString "least") = some (.int (leastOf (lens rows)) tl)) (mw : m (Str.ofString "written") = some (.ref wa))
    (mh : m (Str.ofString "high") = some (.int (hi : Nat) th)) (mlo : m (Str.ofString "low") = some (.int (lo : Nat) to)) (C : St s₀ L m led s) (hwa : (wa, isL wws) ∈ led)
    (h : ∀ m fa ea led' s', led.Sublist led' → MV m ra sa ba wa fa ea (leastOf (lens rows)) hi lo (maskOf rows hi lo) → St s₀ L m led' s' → Q .next s') :
    wpAny (model prog w) A (execs loBody env) Q E s := by
  have hvl := hr.n
  have hn := ok.hn
  have hm := ok.hm
  obtain ⟨a27, e27, f27⟩ := G.f27
  have hlt0 : 0 < vs.length := by omega
  have hltl : vs.length - 1 < vs.length := by omega
  have hv0' : vs[0]? = some vs[0] := by simp [hlt0]
  have hvl' : vs[vs.length - 1]? = some vs[vs.length - 1] := by simp [hltl]
  obtain ⟨p0, w0, e0, hp0, hs0⟩ := hr.at_ 0 _ hv0'
  obtain ⟨pl, wl, el, hpl, hsl⟩ := hr.at_ _ _ hvl'
  have hv0 : vs[0]? = some (.ref p0) := by rw [hv0', e0]
  have hvla : vs.getLast? = some (.ref pl) := by rw [List.getLast?_eq_getElem?, hvl', el]
  rw [hvl] at hsl
  have l0 := hs0.length
  have ll := hsl.length
  have fo : FitOk (rows.getD 0 []) := ok.okr _ (by rw [List.getD_eq_getElem?_getD, List.getElem?_eq_getElem (by omega : 0 < rows.length)]; exact List.getElem_mem _)
  have fl : FitOk (rows.getD (rows.length - 1) []) := ok.okr _ (by rw [List.getD_eq_getElem?_getD, List.getElem?_eq_getElem (by omega : rows.length - 1 < rows.length)]; exact List.getElem_mem _)
  have g0 := fo.n
  have gl := fl.n
  obtain ⟨okf, oke, ocf, oce, okm, hq, hal⟩ := ok.pair hi lo hhi hlo
  have eh : ((hi : Nat) : Int).toNat = hi := Int.toNat_natCast hi
  have hvf : Ss (w0.take ((hi : Nat) : Int).toNat) (frontOf rows hi) := by rw [eh]; exact hs0.take hi
  have ed : ((wl.length : Int) - (lo : Int)).toNat = (rows.getD (rows.length - 1) []).length - lo := by omega
  have hve : Ss (wl.drop ((wl.length : Int) - (lo : Int)).toNat) (endOf rows lo) := by rw [ed]; exact hsl.drop _
  have sx := okm.hx
  have sy := okm.hy
  have sm := okm.hw
  have s3 : (Str.ofString "...").length = 3 := by decide +kernel
  show wpAny (model prog w) A (execs (_ :: _ :: _ :: loBody.drop 3) env) _ _ _
  generalize hrest : loBody.drop 3 = rest
  refine x_assign ?_
  walk_at "q.go"
  refine l_item_zero (by walk_at "q.il") hv0 ?_ (by walk_at "q.rf") (by omega)
  walk_at "q.go"
  refine l_item_last (by walk_at "q.il") hvla ?_ (by walk_at "q.rf") (by omega)
  walk_at "q.go"
  refine l_item_last (by walk_at "q.il") hvla ?_ (by walk_at "q.rf") (by omega)
  walk_at "q.go"
  rename_i s9 C9
  subst hrest
  have pc := C9
  refine masks_c hr hl ok.okr okf oke ok.hm okm ok.hcl hww hvf hve r hE hq G ⟨by walk_at "q.lk", by walk_at "q.lk", by walk_at "q.lk", ⟨_, by walk_at "q.lk"⟩, by walk_at "q.lk", ⟨_, by walk_at "q.lk"⟩, ⟨_, by walk_at "q.lk"⟩, by walk_at "q.lk", by walk_at "q.lk", ⟨_, by unfold maskOf; walk_at "q.lk"⟩⟩
    C9 (.tail _ (.tail _ hwa)) (.tail _ (.head _)) (.head _) ?_
  intro m2 s10 t10 mv10 mt10 C10
  refine masks_d (wws := wws) hvl hl hls hlb hsh hbe ok.oks ok.okb okf oke ok.hm hvf hve r hE hal G mv10 mt10 C10 (.tail _ (.head _)) (.head _) ?_
  intro m3 led3 s11 hsub mv11 C11
  exact h m3 _ _ led3 s11 (((List.Sublist.refl led).cons _).cons _ |>.trans hsub) mv11 C11
def msJ (ra sa ba wa : Addr) (rows : List (List Str)) (m : Str → Option Value) : Prop :=
  m (Str.ofString "rows") = some (.ref ra) ∧ m (Str.ofString "shared") = some (.ref sa) ∧ m (Str.ofString "behind") = some (.ref ba) ∧ (∃ t, m (Str.ofString "least") = some (.int (leastOf (lens rows)) t)) ∧ m (Str.ofString "written") = some (.ref wa)
set_option maxHeartbeats 4000000 in
theorem masks_f {ra sa ba wa : Addr} {vs vsh vbe wws : List Value} {rows : List (List Str)} {shared behind : List Str} {Q : Flow → Shared → Prop} (hr : RowsAt s₀.heap vs rows) (hl : s₀.heap.PlainList ra vs.toArray) (hls : s₀.heap.PlainList sa vsh.toArray) (hlb : s₀.heap.PlainList ba vbe.toArray)
    (hsh : Ss vsh shared) (hbe : Ss vbe behind) (ok : MasksOk rows shared behind) (hww : Ss wws (rows.map cells)) (r : Rm A 1 70) (hE : EnvOk env (scOf (theDef 29)) L)
    (G : Gd mg mb s₀.heap) (mj : msJ ra sa ba wa rows m) (C : St s₀ L m [(wa, isL wws)] s)
    (h : ∀ s', Keeps s₀ s' → Q (.ret (.bool true)) s') :
    wpAny (model prog w) A (execs ((bodyOf (theDef 29)).drop 3) env) Q E s := by
  have hvl := hr.n
  have hn := ok.hn
  have hm := ok.hm
  have hlt0 : 0 < vs.length := by omega
  have hltl : vs.length - 1 < vs.length := by omega
  have hv0' : vs[0]? = some vs[0] := by simp [hlt0]
  have hvl' : vs[vs.length - 1]? = some vs[vs.length - 1] := by simp [hltl]
  obtain ⟨p0, w0, e0, hp0, hs0⟩ := hr.at_ 0 _ hv0'
  obtain ⟨pl, wl, el, hpl, hsl⟩ := hr.at_ _ _ hvl'
  have hv0 : vs[0]? = some (.ref p0) := by rw [hv0', e0]
  have hvla : vs.getLast? = some (.ref pl) := by rw [List.getLast?_eq_getElem?, hvl', el]
  rw [hvl] at hsl
  have l0 := hs0.length
  have ll := hsl.length
  have fo : FitOk (rows.getD 0 []) := ok.okr _ (by rw [List.getD_eq_getElem?_getD, List.getElem?_eq_getElem (by omega : 0 < rows.length)]; exact List.getElem_mem _)
  have fl : FitOk (rows.getD (rows.length - 1) []) := ok.okr _ (by rw [List.getD_eq_getElem?_getD, List.getElem?_eq_getElem (by omega : rows.length - 1 < rows.length)]; exact List.getElem_mem _)
  have g0 := fo.n
  have gl := fl.n
  obtain ⟨m1, m2, m3, ⟨tl, m4⟩, m5⟩ := id mj
  show wpAny (model prog w) A (execs (.For _ _ hiBody _ _ :: _) env) _ _ _
  generalize hhb : hiBody = hb
  refine x_for ?_ (by intro _; walk_at "q.rf")
  walk_at "q.go"
  refine l_item_zero (by walk_at "q.il") hv0 ?_ (by walk_at "q.rf") (by omega)
  walk_at "q.go"
  rw [show ((w0.length : Int) + 1) = ((w0.length + 1 : Nat) : Int) by omega]
  refine l_range (by assumption) ?_
  intro rg s5 C5
  refine for_range C5 hE r (fun i m led => led = [(wa, isL wws)] ∧ msJ ra sa ba wa rows m) ⟨rfl, mj⟩ (by decide +kernel) (by omega) ?_ ?_
  · rintro I P i t m led s' hi ⟨rfl, m1, m2, m3, ⟨tl, m4⟩, m5⟩ C'
    subst hhb
    show wpAny (model prog w) A (execs (.For _ _ loBody _ _ :: []) env) _ _ _
    generalize hhb : loBody = lb
    refine x_for ?_ (by intro _; walk_at "q.rf")
    walk_at "q.go"
    refine l_item_last (by walk_at "q.il") hvla ?_ (by walk_at "q.rf") (by omega)
    walk_at "q.go"
    rw [show ((wl.length : Int) + 1) = ((wl.length + 1 : Nat) : Int) by omega]
    refine l_range (by assumption) ?_
    intro rg s6 C6
    refine for_range C6 hE r (fun j m led => led = [(I, P), (wa, isL wws)] ∧ msJ ra sa ba wa rows m ∧ ∃ t, m (Str.ofString "high") = some (.int (i : Nat) t)) ⟨rfl, ⟨by walk_at "q.lk", by walk_at "q.lk", by walk_at "q.lk", ⟨_, by walk_at "q.lk"⟩, by walk_at "q.lk"⟩, _, by walk_at "q.lk"⟩ (by decide +kernel) (by omega) ?_ ?_
    · rintro I2 P2 j t2 m led s2 hj ⟨rfl, ⟨m1, m2, m3, ⟨tl, m4⟩, m5⟩, t3, m6⟩ C2
      subst hhb
      refine masks_e (hi := i) (lo := j) hr hl hls hlb hsh hbe ok hww r hE (by omega) (by omega) G (by walk_at "q.lk") (by walk_at "q.lk") (by walk_at "q.lk") (by walk_at "q.lk") (by walk_at "q.lk") (by walk_at "q.lk") (by walk_at "q.lk") C2 (.tail _ (.tail _ (.head _))) ?_
      intro m3 fa ea led3 s3 hsub mv C3
      exact te_next' (C3.sub hsub) ⟨rfl, ⟨mv.mr, mv.ms, mv.mbe, mv.ml, mv.mw⟩, mv.mh⟩
    · rintro m led s7 ⟨rfl, mj, _⟩ C7
      walk_at "q.go"
      exact te_next' (by assumption) ⟨rfl, mj⟩
  · rintro m led s7 ⟨rfl, mj⟩ C7
    walk_at "q.go"
    exact h _ (St.base (by assumption))
set_option maxHeartbeats 4000000 in
theorem masks_spec {a ra sa ba : Addr} {vs vsh vbe : List Value} {rows : List (List Str)} {shared behind : List Str} {Q : Value → Shared → Prop} (hr : RowsAt s.heap vs rows) (hl : s.heap.PlainList ra vs.toArray) (hls : s.heap.PlainList sa vsh.toArray) (hlb : s.heap.PlainList ba vbe.toArray)
    (hsh : Ss vsh shared) (hbe : Ss vbe behind) (ok : MasksOk rows shared behind) (G : Gd mg mb s.heap) (hf : FnAt s.heap 29 a) (r : Rm A 2 73) (h : ∀ s', Keeps s s' → Q (.bool true) s') :
    wpAny (model prog w) A (call (.ref a) [.ref ra, .ref sa, .ref ba]) Q E s := by
  refine enter3 (Str.ofString "rows") (Str.ofString "shared") (Str.ofString "behind") (d := 1) (u := 70) G hf r (fun _ _ _ => by rfl) (by decide +kernel) (by decide +kernel) (by decide +kernel) ?_
  intro A env L s₁ r hE C
  refine masks_a hr hl ok.hn ok.hm ok.okc r hE G (by walk_at "q.lk") C ?_
  intro t wa wws s2 hww C2
  refine masks_b hr hl hls hlb hsh hbe ok.oks ok.okb ok.okr ok.hm r hE ok.hfit G (by walk_at "q.lk") (by walk_at "q.lk") (by walk_at "q.lk") (by walk_at "q.lk") (by walk_at "q.lk") C2 ?_
  intro m s3 m1 m2 m3 m4 m5 C3
  exact masks_f hr hl hls hlb hsh hbe ok hww r hE G ⟨m1, m2, m3, ⟨_, m4⟩, m5⟩ C3 (fun s' k => h s' k)
theorem masks_call {a ra sa ba : Addr} {vs vsh vbe : List Value} {rows : List (List Str)} {shared behind : List Str} {d u : Nat} {Q : Value → Shared → Prop} (C : St s₀ L m led s) (G : Gd mg mb s₀.heap) (hf : FnAt s₀.heap 29 a) (r : Rm A d u) (hr : RowsAt s.heap vs rows) (hl : s.heap.PlainList ra vs.toArray) (hls : s.heap.PlainList sa vsh.toArray) (hlb : s.heap.PlainList ba vbe.toArray)
    (hsh : Ss vsh shared) (hbe : Ss vbe behind) (ok : MasksOk rows shared behind) (h : ∀ s', St s₀ L m led s' → Q (.bool true) s') (hd : 2 ≤ d := by decide) (hu : 73 ≤ u := by decide) :
    wpAny (model prog w) A (call (.ref a) [.ref ra, .ref sa, .ref ba]) Q E s := masks_spec hr hl hls hlb hsh hbe ok (G.keeps C.c.keep) (C.fn hf) (r.le hd hu) (fun s' k => h s' (C.keeps k))
end
-- part F17
section
variable {prog : Program} {w : World} {M : Model} {A : Around} {E : Value → Shared → Prop} {s₀ s : Shared} {L : Addr} {m : Str → Option Value} {led : List (Addr × (Obj → Prop))} {env : Env} {sc : Scope} {mg mb : Str → Option Value}
/-! ## _law_agree -/
def namesOf (n : Nat) : List Str := walked (wordsOf n)
def rawOf (n : Nat) : Str := Str.ofString "/" ++ Txt.join (Str.ofString "/") (wordsOf n)
def pathOf (n : Nat) : Str := normed (rawOf n)
def turnOf (n : Nat) : Str := hung (namesOf n).reverse
structure NumOk (n : Nat) : Prop where
  jw : JoinOk (Str.ofString "/") (wordsOf n) = true
  lw : (wordsOf n).length ≤ 1000
  lj : (Txt.join (Str.ofString "/") (wordsOf n)).length ≤ 1000
  n1 : NormOk (rawOf n)
  lp : (pathOf n).length ≤ 1000
  e1 : climbed (pathOf n) = namesOf n
  so : Sok (namesOf n)
  co : CellsOk (namesOf n)
  n2 : NormOk (cells (namesOf n))
  e2 : normed (cells (namesOf n)) = pathOf n
  hu : ∀ i x, (namesOf n).reverse[i]? = some x → (hung ((namesOf n).reverse.take i)).length + x.length ≤ 10000
structure AgreeOk (nums : List Nat) : Prop where
  ln : nums.length ≤ 1000
  each : ∀ n ∈ nums, NumOk n
  c1 : CommonOk (nums.map pathOf)
  c2 : CommonOk (nums.map turnOf)
  l1 : (commoned (nums.map pathOf)).length ≤ 1000
  l2 : (commoned (nums.map turnOf)).length ≤ 1000
  mo : MasksOk (nums.map namesOf) (climbed (commoned (nums.map pathOf))) (climbed (commoned (nums.map turnOf)))
def Ns (vs : List Value) (ns : List Nat) : Prop := Is vs (ns.map fun (n : Nat) => (n : Int))
theorem Ns.get {vs : List Value} {ns : List Nat} {i : Nat} {v : Value} (h : Ns vs ns) (e : vs[i]? = some v) : ∃ k t, v = .int ((k : Nat) : Int) t ∧ ns[i]? = some k := by
  obtain ⟨k, t, rfl, hk⟩ := Is.get h e
  rw [List.getElem?_map] at hk
  cases q : ns[i]? with
  | none => rw [q] at hk; cases hk
  | some n =>
    rw [q] at hk
    exact ⟨n, t, by rw [show k = (n : Int) from (Option.some.inj hk).symm], rfl⟩
def agJ (nums : List Nat) (i : Nat) (m : Str → Option Value) (led : List (Addr × (Obj → Prop))) : Prop :=
  ∃ ra pa ta vr vp vt ledr, led = (ra, isL vr) :: (pa, isL vp) :: (ta, isL vt) :: ledr ∧ LR ledr vr ((nums.take i).map namesOf) ∧ Ss vp ((nums.take i).map pathOf) ∧ Ss vt ((nums.take i).map turnOf) ∧
    m (Str.ofString "rows") = some (.ref ra) ∧ m (Str.ofString "plain") = some (.ref pa) ∧ m (Str.ofString "turned") = some (.ref ta)
set_option maxHeartbeats 1500000 in
theorem agree_spec {a na : Addr} {vn : List Value} {nums : List Nat} {Q : Value → Shared → Prop} (hv : Ns vn nums) (hl : s.heap.PlainList na vn.toArray) (ok : AgreeOk nums) (G : Gd mg mb s.heap) (hf : FnAt s.heap 30 a) (r : Rm A 4 76)
    (h : ∀ s', Keeps s s' → Q (.bool true) s') : wpAny (model prog w) A (call (.ref a) [.ref na]) Q E s := by
  refine enter1 (Str.ofString "numbers") (d := 3) (u := 73) G hf r (fun _ _ _ => by rfl) (by decide +kernel) (by decide +kernel) (by decide +kernel) ?_
  intro A env L s₁ r hE C
  obtain ⟨a23, e23, f23⟩ := G.f23
  obtain ⟨a24, e24, f24⟩ := G.f24
  obtain ⟨a17, e17, f17⟩ := G.f17
  obtain ⟨a25, e25, f25⟩ := G.f25
  obtain ⟨a27, e27, f27⟩ := G.f27
  obtain ⟨a26, e26, f26⟩ := G.f26
  obtain ⟨a29, e29, f29⟩ := G.f29
  obtain ⟨a18, e18, f18⟩ := G.f18
  have hvl : vn.length = nums.length := by have := Is.length hv; simpa using this
  have hln := ok.ln
  have s1 : (Str.ofString "/").length = 1 := by decide +kernel
  refine x_assign ?_
  walk_at "q.go"
  rename_i ra _ _ _ _ pa _ _ _ _ ta _ _ s5 C5
  refine for_list (vs := vn) (C5.perm ((List.Perm.swap _ _ _).trans ((List.Perm.cons _ (.swap _ _ _)).trans (.swap _ _ _)))) hE r (agJ nums) ⟨ra, pa, ta, [], [], [], [], rfl, LR.nil, Ss.nil, Ss.nil, by walk_at "q.lk", by walk_at "q.lk", by walk_at "q.lk"⟩ (by decide +kernel) (fun i m led s j c => c.bil hl) ?_ ?_
  · rintro I P i v m led s' hi hvi ⟨ra, pa, ta, vr, vp, vt, ledr, rfl, hrr, hpp, htt, m1, m2, m3⟩ C'
    obtain ⟨k, tk, rfl, hki⟩ := hv.get hvi
    have okk := ok.each k (List.mem_of_getElem? hki)
    clear C5 C
    obtain ⟨q1, q2, q3, q4, q5, q6, q7, q8, q9, q10, q11⟩ := okk
    walk_at "q.go"
    refine l_join (by assumption) (by walk_at "q.il") (by assumption) ?_ q1
    intro t7 s7 C7
    have q4' : NormOk (Str.ofString "/" ++ Txt.join (Str.ofString "/") (wordsOf k)) := q4
    have q11' : ∀ i x, (walked (wordsOf k)).reverse[i]? = some x → (hung ((walked (wordsOf k)).reverse.take i)).length + x.length ≤ 10000 := q11
    have q5' : (normed (Str.ofString "/" ++ Txt.join (Str.ofString "/") (wordsOf k))).length ≤ 1000 := q5
    have q6' : climbed (normed (Str.ofString "/" ++ Txt.join (Str.ofString "/") (wordsOf k))) = walked (wordsOf k) := q6
    have q7' : Sok (walked (wordsOf k)) := q7
    have q7'' : Sok (climbed (normed (Str.ofString "/" ++ Txt.join (Str.ofString "/") (wordsOf k)))) := by rw [q6']; exact q7
    have q8' : CellsOk (walked (wordsOf k)) := q8
    have q9' : NormOk (cells (walked (wordsOf k))) := q9
    have q10' : normed (cells (walked (wordsOf k))) = normed (Str.ofString "/" ++ Txt.join (Str.ofString "/") (wordsOf k)) := q10
    walk_at "q.go"
    rw [decide_eq_false (fun z => z q6')]
    walk_at "q.go"
    rw [decide_eq_false (fun z => z q10')]
    walk_at "q.go"
    rename_i C9
    have C2 := (C9.sub (.cons _ (.cons₂ _ (.cons _ (.cons₂ _ (.cons₂ _ (.cons₂ _ (.cons₂ _ (List.Sublist.refl _)))))))))
    have C3 := C2.perm (List.perm_middle (l₁ := [_, _]))
    simp only [List.cons_append, List.nil_append] at C3
    have nr := hrr.n
    have np := hpp.length
    have nt := htt.length
    simp only [List.length_map, List.length_take] at nr np nt
    have hwn := id (α := Ss _ (walked (wordsOf k))) (by with_reducible assumption)
    have hrev := Ss.reverse hwn
    have hnl := Ss.length hwn
    have hnn := q8'.hn
    refine l_append C3 ?_ (by omega)
    intro s10 C10
    clear C3 C2 C9
    walk_at "q.go"
    have C3 := C10.perm (List.perm_middle (l₁ := [_, _, _]))
    simp only [List.cons_append, List.nil_append] at C3
    refine l_append C3 ?_ (by omega)
    intro s11 C11
    clear C3 C10
    walk_at "q.go"
    rename_i C9
    have C3 := (C9.sub (.cons _ (List.Sublist.refl _))).perm (List.perm_middle (l₁ := [_, _, _, _]))
    simp only [List.cons_append, List.nil_append] at C3
    refine l_append C3 ?_ (by omega)
    intro s12 C12
    clear C3 C9 C11
    walk_at "q.go"
    have C3 := C12.perm (List.perm_middle (l₁ := [_, _, _, _]))
    simp only [List.cons_append, List.nil_append] at C3
    have C4 := C3.perm (.cons _ ((List.Perm.swap _ _ _).trans ((List.Perm.cons _ (.swap _ _ _)).trans (.swap _ _ _))))
    have et : ∀ {β : Type} (f : Nat → β), (nums.take (i + 1)).map f = (nums.take i).map f ++ [f k] := fun f => by rw [List.take_add_one, hki, List.map_append]; rfl
    refine te_next' C4 ⟨ra, pa, ta, _, _, _, _, rfl, ?_, ?_, ?_, by walk_at "q.lk", by walk_at "q.lk", by walk_at "q.lk"⟩
    · rw [et]
      exact hrr.add hwn
    · rw [et]
      exact hpp.snoc _ _
    · rw [et]
      exact htt.snoc _ _
  · rintro m led s' ⟨ra, pa, ta, vr, vp, vt, ledr, rfl, hrr, hpp, htt, m1, m2, m3⟩ C'
    rw [hvl, List.take_length] at hrr hpp htt
    obtain ⟨_, _, c1, c2, l1, l2, mo⟩ := ok
    walk_at "q.go"
    rename_i vb sb Cb hb
    refine masks_call Cb G f29 r ((hrr.sub fun p hp => .tail _ (.tail _ (.tail _ (.tail _ (.tail _ hp))))).at1 Cb) (Cb.pl (.tail _ (.tail _ (.head _)))) (Cb.pl (.tail _ (.head _))) (Cb.pl (.head _)) (by with_reducible assumption) hb mo ?_
    intro s13 C13
    exact h s13 C13.base
theorem agree_call {a na : Addr} {vn : List Value} {nums : List Nat} {d u : Nat} {Q : Value → Shared → Prop} (C : St s₀ L m led s) (G : Gd mg mb s₀.heap) (hf : FnAt s₀.heap 30 a) (r : Rm A d u) (hl : s.heap.PlainList na vn.toArray) (hv : Ns vn nums) (ok : AgreeOk nums)
    (h : ∀ s', St s₀ L m led s' → Q (.bool true) s') (hd : 4 ≤ d := by decide) (hu : 76 ≤ u := by decide) :
    wpAny (model prog w) A (call (.ref a) [.ref na]) Q E s := agree_spec hv hl ok (G.keeps C.c.keep) (C.fn hf) (r.le hd hu) (fun s' k => h s' (C.keeps k))
end
local macro_rules | `(tactic| walk_at "q.c") => `(tactic| (with_reducible refine agree_call (by assumption) (by assumption) (by assumption) (by assumption) (by walk_at "q.pl") (by assumption) (by assumption) ?_; intro _ _))
-- part F18
section
variable {prog : Program} {w : World} {M : Model} {A : Around} {E : Value → Shared → Prop} {s₀ s : Shared} {L : Addr} {m : Str → Option Value} {led : List (Addr × (Obj → Prop))} {env : Env} {sc : Scope} {mg mb : Str → Option Value}
/-! ## law -/
theorem l_pow {t u : Tok} {Q : Value → Shared → Prop} (C : St s₀ L m led s) (h : ∀ t s', St s₀ L m led s' → Q (.int 1000 t) s') : wpAny (model prog w) A (binaryOp .Pow (.int 10 t) (.int 3 u)) Q E s :=
  PyProof.Rows.pow_int (by decide) (by decide +kernel) (h _ _ (C.keeps (Keeps.toks _)))
def drawn (ks : List Int) : List Nat := (ks.take 3).map fun k => (k % 1000).toNat
def numsOf (ks : List Int) : List Nat := drawn ks ++ [9, 16, 1].drop (drawn ks).length
set_option maxHeartbeats 1500000 in
theorem law_spec {a sa : Addr} {vs : List Value} {ks : List Int} {Q : Value → Shared → Prop} (hv : Is vs ks) (hl : s.heap.IsList sa vs.toArray) (hn : vs.length ≤ 100000) (ok : AgreeOk (numsOf ks)) (G : Gd mg mb s.heap) (hf : FnAt s.heap 31 a) (r : Rm A 5 79)
    (h : ∀ s', Keeps s s' → Q (.bool true) s') : wpAny (model prog w) A (call (.ref a) [.ref sa]) Q E s := by
  refine enter1 (Str.ofString "script") (d := 4) (u := 76) G hf r (fun _ _ _ => by rfl) (by decide +kernel) (by decide +kernel) (by decide +kernel) ?_
  intro A env L s₁ r hE C
  obtain ⟨a30, e30, f30⟩ := G.f30
  have hvl := hv.length
  have h3 : ((3 : Int)).toNat = 3 := rfl
  refine x_comp (cl := []) ?_ (swapsW_of hE (by with_unfolding_all rfl)) (by walk_at "q.rf") (by walk_at "q.rf") (by decide +kernel) (by intro _; walk_at "q.rf")
  walk_at "q.go"
  refine l_cut_upto (by assumption) (hl.at fun o e => St.kp (by assumption) _ o e) (by omega) ?_ (by omega)
  intro b s2 C2
  have hv3 := hv.take 3
  have G2 : Gd mg mb s2.heap := G.keeps C2.kp
  rw [h3] at C2
  refine comp_list (vs := vs.take 3) hE r (C2.lst (.head _)) (by decide +kernel) (by walk_at "q.rf") (by decide +kernel) (fun i ys led => led = [] ∧ i ≤ 3 ∧ Ns ys ((drawn ks).take i)) ⟨rfl, by decide, Is.nil⟩
    (fun i ys led j => by have := Is.length j.2.2; simp at this; omega) ?_ ?_
  · rintro C' I D P i v ys led m' s' hvi ⟨rfl, hi, hys⟩ hE' c
    obtain ⟨k, tk, rfl, hki⟩ := hv3.get hvi
    have hlt : i < 3 := by
      have := (List.getElem?_eq_some_iff.mp hvi).1
      simp at this
      omega
    refine tests0 (tt ?_)
    walk_at "q.go"
    refine l_pow (by assumption) ?_
    intro _ _ _
    walk_at "q.go"
    refine ⟨_, _, ⟨rfl, hlt, ?_⟩, by assumption⟩
    have hd : (drawn ks)[i]? = some (k % 1000).toNat := by unfold drawn; rw [List.getElem?_map, hki]; rfl
    have e1 : k.fmod 1000 = (((k % 1000).toNat : Nat) : Int) := by
      rw [Int.fmod_eq_emod_of_nonneg _ (by decide)]
      have := Int.emod_nonneg k (show (1000 : Int) ≠ 0 by decide)
      omega
    unfold Ns
    rw [List.take_add_one, hd, List.map_append, e1]
    exact Is.snoc hys _ _
  · rintro C' D ys led m' s' ⟨rfl, _, hys⟩ c
    refine comp_use hE (by decide +kernel) C2 c ?_
    intro s3 C3
    have hld : (drawn ks).length = (vs.take 3).length := by unfold drawn; rw [List.length_map, List.length_take, List.length_take, hvl]
    rw [← hld, List.take_length] at hys
    have hyl := Is.length hys
    rw [List.length_map] at hyl
    have hd3 : (drawn ks).length ≤ 3 := by unfold drawn; simp; omega
    clear G2
    walk_at "q.go"
    rename_i cc sc' Cc
    refine agree_call (nums := numsOf ks) Cc G f30 r (Cc.pl (.head _)) ?_ ok ?_
    · unfold Ns numsOf
      rw [List.map_append, List.map_drop, Int.toNat_natCast, hyl]
      exact Is.app hys (Is.drop ⟨[(9, _), (16, _), (1, _)], rfl, rfl⟩ _)
    · intro s9 C9
      exact h s9 C9.base
end
end Mine
namespace Mine
-- part P1
/-! # strs as lists of code points -/
def lst (x : Str) : List Nat := x.cps.toList
theorem lst_inj {x y : Str} (h : lst x = lst y) : x = y := Str.ext' (Array.toList_inj.mp h)
theorem lst_len (x : Str) : (lst x).length = x.length := by simp [lst, Str.length]
theorem lst_append (x y : Str) : lst (x ++ y) = lst x ++ lst y := by simp [lst, Str.cps_append]
theorem lst_mk (l : List Nat) : lst ⟨l.toArray⟩ = l := rfl
abbrev sl : Str := Str.ofString "/"
theorem lst_sl : lst sl = [47] := by decide +kernel
theorem sl_eq : sl = ⟨#[47]⟩ := by decide +kernel
def joinL (sep : List Nat) : List (List Nat) → List Nat
  | [] => []
  | [x] => x
  | x :: y :: r => x ++ sep ++ joinL sep (y :: r)
theorem lst_join (sep : Str) : ∀ xs : List Str, lst (Txt.join sep xs) = joinL (lst sep) (xs.map lst) := by
  intro xs
  unfold Txt.join
  rw [StrLaws.glued_eq_join]
  induction xs with
  | nil => rfl
  | cons x r ih =>
    cases r with
    | nil => rfl
    | cons y r =>
      show lst (x ++ sep ++ Str.join sep (y :: r)) = _
      rw [lst_append, lst_append, ih]
      rfl
theorem joinL_uniq (c : Nat) : ∀ ps ws : List (List Nat), ps ≠ [] → ws ≠ [] → (∀ p ∈ ps, c ∉ p) → (∀ w ∈ ws, c ∉ w) → joinL [c] ps = joinL [c] ws → ps = ws := by
  have key : ∀ (a b r t : List Nat), c ∉ a → c ∉ b → a ++ c :: r = b ++ c :: t → a = b ∧ r = t := by
    intro a
    induction a with
    | nil =>
      intro b r t ha hb h
      cases b with
      | nil => exact ⟨rfl, (List.cons.inj h).2⟩
      | cons y b => exact absurd (by rw [← (List.cons.inj h).1]; exact List.mem_cons_self) hb
    | cons x a ih =>
      intro b r t ha hb h
      cases b with
      | nil => exact absurd (by rw [(List.cons.inj h).1]; exact List.mem_cons_self) ha
      | cons y b =>
        obtain ⟨e1, e2⟩ := List.cons.inj h
        obtain ⟨e3, e4⟩ := ih b r t (fun z => ha (.tail _ z)) (fun z => hb (.tail _ z)) e2
        exact ⟨by rw [e1, e3], e4⟩
  intro ps
  induction ps with
  | nil => intro ws h; exact absurd rfl h
  | cons p ps ih =>
    intro ws _ hw fp fw h
    cases ws with
    | nil => exact absurd rfl hw
    | cons w ws =>
      have hp := fp p (.head _)
      have hw' := fw w (.head _)
      cases ps with
      | nil =>
        cases ws with
        | nil => simp only [joinL] at h; rw [h]
        | cons w2 ws =>
          simp only [joinL, List.append_assoc, List.singleton_append] at h
          exact absurd (by rw [h]; exact List.mem_append_right _ List.mem_cons_self) hp
      | cons p2 ps =>
        cases ws with
        | nil =>
          simp only [joinL, List.append_assoc, List.singleton_append] at h
          exact absurd (by rw [← h]; exact List.mem_append_right _ List.mem_cons_self) hw'
        | cons w2 ws =>
          simp only [joinL, List.append_assoc, List.singleton_append] at h
          obtain ⟨e1, e2⟩ := key _ _ _ _ hp hw' h
          rw [e1, ih (w2 :: ws) (by simp) (by simp) (fun q hq => fp q (.tail _ hq)) (fun q hq => fw q (.tail _ hq)) e2]
theorem map_lst_inj : ∀ {xs ys : List Str}, xs.map lst = ys.map lst → xs = ys
  | [], [], _ => rfl
  | [], _ :: _, h => by simp at h
  | _ :: _, [], h => by simp at h
  | x :: xs, y :: ys, h => by
    simp only [List.map_cons, List.cons.injEq] at h
    rw [lst_inj h.1, map_lst_inj h.2]
theorem split_ne (x y : Str) : Txt.split x y ≠ [] := by
  intro e
  have := PyProof.Rows.split_pos x y
  rw [e] at this
  simp at this
/-- a split at slashes, of what is joined by slashes -/
theorem split_of {x : Str} {ws : List Str} (hn : ws ≠ []) (hf : ∀ w ∈ ws, 47 ∉ lst w) (h : lst x = joinL [47] (ws.map lst)) : Txt.split x sl = ws := by
  have h1 := StrLaws.join_split x sl
  have h2 := StrLaws.split_free x 47
  rw [← sl_eq] at h2
  have h3 : lst (Txt.join sl (Txt.split x sl)) = lst x := by unfold Txt.join; rw [StrLaws.glued_eq_join, h1]
  rw [lst_join, lst_sl, h] at h3
  refine map_lst_inj (joinL_uniq 47 _ _ (by simpa using split_ne x sl) (by simpa using hn) (fun p hp => ?_) (fun w hw => ?_) h3)
  · obtain ⟨q, hq, rfl⟩ := List.mem_map.mp hp
    exact h2 q hq
  · obtain ⟨q, hq, rfl⟩ := List.mem_map.mp hw
    exact hf q hq

/-! ## slices, prefixes, suffixes -/
theorem lst_from (x : Str) {k : Int} (h0 : 0 ≤ k) (h1 : k ≤ x.length) : lst (Txt.slice x (some k) none) = (lst x).drop k.toNat := by
  have hl := lst_len x
  have := StrLaws.sliceText_from (x := x) (i := k) ⟨h0, by unfold lst at hl; omega⟩
  show lst (StrLaws.sliceText x (some k) none) = _
  rw [this, lst_mk]
  refine List.take_of_length_le ?_
  rw [List.length_drop]
  unfold lst at hl
  omega
theorem lst_to (x : Str) {k : Int} (h0 : 0 ≤ k) (h1 : k ≤ x.length) : lst (Txt.slice x none (some k)) = (lst x).take k.toNat := by
  have hl := lst_len x
  have := StrLaws.sliceText_to (x := x) (j := k) ⟨h0, by unfold lst at hl; omega⟩
  show lst (StrLaws.sliceText x none (some k)) = _
  rw [this, lst_mk, List.drop_zero]
  congr 1
  omega
theorem lst_mid (x : Str) {i j : Int} (h0 : 0 ≤ i) (h1 : i ≤ j) (h2 : j ≤ x.length) : lst (Txt.slice x (some i) (some j)) = ((lst x).drop i.toNat).take (j - i).toNat := by
  have hl := lst_len x
  have := StrLaws.sliceText_plain (x := x) (i := i) (j := j) ⟨h0, h1, by unfold lst at hl; omega⟩
  show lst (StrLaws.sliceText x (some i) (some j)) = _
  rw [this, lst_mk]; rfl
theorem lst_sub (x : Str) (i j : Nat) : lst (Builtin.Str.strSub x i j) = ((lst x).drop i).take (j - i) := StrLaws.strSub_toList x i j
theorem subAt_iff (x y : Str) (i : Nat) : Builtin.Str.subAt x y i = true ↔ ((lst x).drop i).take y.length = lst y := by
  rw [StrLaws.subAt_eq]
  exact beq_iff_eq
theorem starts_iff (x y : Str) : Txt.startswith x y = true ↔ lst y <+: lst x := by
  unfold Txt.startswith
  rw [Bool.and_eq_true, decide_eq_true_eq, subAt_iff, List.drop_zero, ← lst_len y]
  constructor
  · rintro ⟨h1, h2⟩
    rw [← h2]
    exact List.take_prefix _ _
  · intro h
    have hl := h.length_le
    rw [lst_len] at hl
    rw [lst_len x] at hl
    exact ⟨by rw [lst_len]; omega, (List.prefix_iff_eq_take.mp h).symm⟩
theorem ends_iff (x y : Str) : Txt.endswith x y = true ↔ lst y <:+ lst x := by
  unfold Txt.endswith
  rw [Bool.and_eq_true, decide_eq_true_eq, subAt_iff]
  have hx := lst_len x
  have hy := lst_len y
  constructor
  · rintro ⟨h1, h2⟩
    rw [List.take_of_length_le (by rw [List.length_drop]; omega)] at h2
    rw [← h2]
    exact List.drop_suffix _ _
  · intro h
    have hl := h.length_le
    refine ⟨by omega, ?_⟩
    rw [List.take_of_length_le (by rw [List.length_drop]; omega), ← hx, ← hy]
    exact (List.suffix_iff_eq_drop.mp h).symm
/-- the last slash -/
theorem rfind_of {x : Str} {a b : List Nat} (h : lst x = a ++ 47 :: b) (hb : 47 ∉ b) : Txt.rfind x sl = a.length := by
  have hat : ∀ i, StrLaws.At x sl x.length i ↔ (lst x)[i]? = some 47 := fun i => by
    have := StrLaws.subAt_one x 47 i
    rw [← sl_eq] at this
    exact this
  have hA : (lst x)[a.length]? = some 47 := by rw [h]; simp
  have hN : ∀ k, a.length < k → ¬ (lst x)[k]? = some 47 := by
    intro k hk hh
    rw [h, List.getElem?_append_right (by omega)] at hh
    obtain ⟨j, rfl⟩ : ∃ j, k = a.length + 1 + j := ⟨k - (a.length + 1), by omega⟩
    rw [show a.length + 1 + j - a.length = j + 1 by omega, List.getElem?_cons_succ] at hh
    exact hb (List.mem_of_getElem? hh)
  unfold Txt.rfind
  rcases StrLaws.last_spec x sl with ⟨_, hn⟩ | ⟨i, e, hi, hn⟩
  · exact absurd ((hat _).mpr hA) (hn _)
  · rw [e]
    have hi' := (hat i).mp hi
    have : i = a.length := by
      rcases Nat.lt_trichotomy i a.length with hlt | he | hgt
      · exact absurd ((hat _).mpr hA) (hn _ hlt)
      · exact he
      · exact absurd hi' (hN _ hgt)
    show ((i : Nat) : Int) = _
    rw [this]
/-- the slash at the end struck -/
theorem rstrip_of {x : Str} {a : List Nat} {c : Nat} (h : lst x = a ++ [c] ++ [47]) (hc : c ≠ 47) : lst (Txt.rstripChars x sl) = a ++ [c] := by
  have hl := lst_len x
  have hcon : sl.cps.contains = fun k => k == 47 := by
    rw [sl_eq]
    funext k
    show (#[47] : Array Nat).contains k = (k == 47)
    rw [Bool.eq_iff_iff, Array.contains_iff_mem]
    simp
  unfold Txt.rstripChars
  rw [hcon]
  have hlo : PySem.stripLo (fun k => k == 47) false x = 0 := rfl
  have hhi : PySem.stripHi (fun k => k == 47) true x 0 = x.length - 1 := by
    unfold PySem.stripHi
    rw [if_pos rfl, List.drop_zero]
    show x.length - ((lst x).reverse.takeWhile _).length = _
    rw [h]
    simp [List.takeWhile_cons, hc]
  rw [h] at hl
  simp at hl
  unfold Txt.stripBy
  rw [if_neg (by unfold PySem.stripSame; rw [hlo, hhi]; simp; omega)]
  unfold PySem.stripped
  rw [hlo, hhi, lst_sub, h]
  rw [List.drop_zero, Nat.sub_zero, ← hl]
  simp [List.take_append]
  exact List.take_of_length_le (by omega)
-- part P2
/-! # paths of names -/
structure Gn (x : Str) : Prop where
  ne : lst x ≠ []
  fr : 47 ∉ lst x
  d1 : x ≠ Str.ofString "."
  d2 : x ≠ Str.ofString ".."
  le : x.length ≤ 10
  ok : PyData.strOk x = true
def pathP (ns : List Str) : Str := Str.ofString "/" ++ Txt.join (Str.ofString "/") ns
theorem lst_P (ns : List Str) : lst (pathP ns) = 47 :: joinL [47] (ns.map lst) := by
  unfold pathP
  rw [lst_append, lst_join, lst_sl]; rfl
theorem joinL_snoc (c : List Nat) (x : List Nat) : ∀ ms : List (List Nat), ms ≠ [] → joinL c (ms ++ [x]) = joinL c ms ++ c ++ x
  | [], h => absurd rfl h
  | [y], _ => rfl
  | y :: z :: r, _ => by
    show y ++ c ++ joinL c (z :: r ++ [x]) = y ++ c ++ joinL c (z :: r) ++ c ++ x
    rw [joinL_snoc c x (z :: r) (by simp)]
    simp only [List.append_assoc]
theorem P_nil : pathP [] = Str.ofString "/" := by
  apply lst_inj
  rw [lst_P]
  exact lst_sl.symm
theorem P_snoc (ns : List Str) (x : Str) : lst (pathP (ns ++ [x])) = (if ns = [] then [] else lst (pathP ns)) ++ 47 :: lst x := by
  rw [lst_P, lst_P]
  by_cases h : ns = []
  · subst h; rfl
  · rw [if_neg h, List.map_append, List.map_cons, List.map_nil, joinL_snoc _ _ _ (by simpa using h)]
    simp
theorem last_of {x : Str} (h : Gn x) : ∃ a c, lst x = a ++ [c] ∧ c ≠ 47 := by
  have hx := h.ne
  refine ⟨(lst x).dropLast, (lst x).getLast hx, (List.dropLast_concat_getLast hx).symm, fun e => h.fr ?_⟩
  rw [← e]; exact List.getLast_mem hx
theorem P_last {ns : List Str} (hn : ns ≠ []) (hg : ∀ x ∈ ns, Gn x) : ∃ a c, lst (pathP ns) = a ++ [c] ∧ c ≠ 47 := by
  obtain ⟨m, x, rfl⟩ : ∃ m x, ns = m ++ [x] := ⟨ns.dropLast, ns.getLast hn, (List.dropLast_concat_getLast hn).symm⟩
  obtain ⟨a, c, e, hc⟩ := last_of (hg x (by simp))
  rw [P_snoc, e]
  exact ⟨(if m = [] then [] else lst (pathP m)) ++ 47 :: a, c, by simp, hc⟩
theorem mul_slash (n : Int) : ∀ k ∈ lst (Txt.mul (Str.ofString "/") n), k = 47 := by
  intro k hk
  unfold Txt.mul at hk
  split at hk
  · exact absurd hk (by simp [lst, Str.empty])
  · split at hk
    · rw [lst_sl] at hk; simpa using hk
    · have key : ∀ (j : Nat) (acc : Array Nat), (∀ k ∈ acc.toList, k = 47) → ∀ k ∈ ((List.replicate j (Str.ofString "/").cps).foldl (· ++ ·) acc).toList, k = 47 := by
        intro j
        induction j with
        | zero => intro acc h; exact h
        | succ j ih =>
          intro acc h
          rw [List.replicate_succ, List.foldl_cons]
          refine ih _ ?_
          intro k hk
          rw [Array.toList_append] at hk
          rcases List.mem_append.mp hk with hk | hk
          · exact h k hk
          · have : k ∈ lst (Str.ofString "/") := hk
            rw [lst_sl] at this; simpa using this
      exact key _ _ (by simp) k hk
theorem head_tail {ns : List Str} {x : Str} (hg : ∀ y ∈ ns ++ [x], Gn y) : splitHead (pathP (ns ++ [x])) = pathP ns ∧ splitTail (pathP (ns ++ [x])) = x := by
  have hx := hg x (by simp)
  have hP := P_snoc ns x
  have hr := rfind_of hP hx.fr
  have hr : Txt.rfind (pathP (ns ++ [x])) (Str.ofString "/") = _ := hr
  have hlen := lst_len (pathP (ns ++ [x]))
  generalize hA : (if ns = [] then [] else lst (pathP ns)) = A at *
  have hl1 : (A.length : Int) + 1 ≤ (pathP (ns ++ [x])).length := by rw [← hlen, hP, List.length_append, List.length_cons]; omega
  have hs1 : lst (Txt.slice (pathP (ns ++ [x])) none (some (Txt.rfind (pathP (ns ++ [x])) (Str.ofString "/") + 1))) = A ++ [47] := by
    rw [hr, lst_to _ (by omega) hl1, hP, show ((A.length : Int) + 1).toNat = A.length + 1 by omega]
    simp [List.take_append]
    exact List.take_of_length_le (by omega)
  have hs2 : lst (Txt.slice (pathP (ns ++ [x])) (some (Txt.rfind (pathP (ns ++ [x])) (Str.ofString "/") + 1)) none) = lst x := by
    rw [hr, lst_from _ (by omega) hl1, hP, show ((A.length : Int) + 1).toNat = A.length + 1 by omega]
    simp [List.drop_append]
  refine ⟨?_, lst_inj hs2⟩
  unfold splitHead
  dsimp only
  generalize Txt.slice (pathP (ns ++ [x])) none (some (Txt.rfind (pathP (ns ++ [x])) (Str.ofString "/") + 1)) = h at *
  have hhl := lst_len h
  rw [hs1] at hhl
  by_cases hn : ns = []
  · subst hn
    rw [if_pos rfl] at hA
    subst hA
    have e1 : h = Str.ofString "/" := lst_inj (by rw [hs1, lst_sl]; rfl)
    have hlh : h.length = 1 := by rw [← hhl]; rfl
    rw [hlh, if_neg (fun z => z.2 (by rw [e1]; unfold Txt.mul; rw [if_neg (by decide), if_pos (by decide)])), P_nil, e1]
  · rw [if_neg hn] at hA
    obtain ⟨a, c, e, hc⟩ := P_last hn (fun y hy => hg y (List.mem_append_left _ hy))
    rw [e] at hA
    subst hA
    have hlh : h.length = a.length + 2 := by rw [← hhl]; simp
    rw [if_pos ⟨by omega, fun z => hc (mul_slash h.length c (by rw [← z, hs1]; simp))⟩]
    apply lst_inj
    rw [e]
    exact rstrip_of hs1 hc
theorem P_ne {ns : List Str} {x : Str} (hx : Gn x) : pathP (ns ++ [x]) ≠ Str.ofString "/" := by
  intro e
  have h := P_snoc ns x
  rw [e, lst_sl] at h
  have hl := congrArg List.length h
  have hn : (lst x).length ≠ 0 := fun z => hx.ne (List.length_eq_zero_iff.mp z)
  simp at hl
  omega
theorem climb_at {ns : List Str} (hg : ∀ y ∈ ns, Gn y) : ∀ k, k ≤ ns.length → climbN k (pathP ns, []) = (pathP (ns.take (ns.length - k)), ns.drop (ns.length - k)) := by
  intro k
  induction k with
  | zero => intro _; simp [climbN]
  | succ k ih =>
    intro hk
    have hlt : ns.length - (k + 1) < ns.length := by omega
    have e1 : ns.length - k = (ns.length - (k + 1)) + 1 := by omega
    show climbStep (climbN k (pathP ns, [])) = _
    rw [ih (by omega)]
    have et : ns.take (ns.length - k) = ns.take (ns.length - (k + 1)) ++ [ns[ns.length - (k + 1)]] := by
      rw [e1, List.take_add_one, List.getElem?_eq_getElem hlt]; rfl
    have hg' : ∀ y ∈ ns.take (ns.length - (k + 1)) ++ [ns[ns.length - (k + 1)]], Gn y := by rw [← et]; exact fun y hy => hg y (List.mem_of_mem_take hy)
    obtain ⟨h1, h2⟩ := head_tail hg'
    unfold climbStep
    rw [et, if_pos (P_ne (hg' _ (List.mem_append_right _ (List.mem_singleton.mpr rfl)))), h1, h2]
    rw [List.drop_eq_getElem_cons hlt, ← e1]
theorem climb_stay (ns : List Str) : ∀ k, climbN k (Str.ofString "/", ns) = (Str.ofString "/", ns)
  | 0 => rfl
  | k + 1 => by
    show climbStep (climbN k _) = _
    rw [climb_stay ns k]
    unfold climbStep
    rw [if_neg (fun z => z rfl)]
theorem climb_add (q : Str × List Str) (a : Nat) : ∀ b, climbN (a + b) q = climbN b (climbN a q)
  | 0 => rfl
  | b + 1 => by
    show climbStep (climbN (a + b) q) = climbStep (climbN b (climbN a q))
    rw [climb_add q a b]
theorem joinL_len (c : Nat) : ∀ ms : List (List Nat), (∀ m ∈ ms, m ≠ []) → ms.length ≤ (joinL [c] ms).length
  | [], _ => Nat.le_refl _
  | [y], h => by
    have : y.length ≠ 0 := fun z => h y (.head _) (List.length_eq_zero_iff.mp z)
    simp only [joinL, List.length_singleton]; omega
  | y :: z :: r, h => by
    have h1 := joinL_len c (z :: r) (fun m hm => h m (.tail _ hm))
    simp only [joinL, List.length_append, List.length_cons, List.length_nil] at h1 ⊢
    omega
theorem P_len (ns : List Str) (hg : ∀ y ∈ ns, Gn y) : ns.length + 1 ≤ (pathP ns).length := by
  rw [← lst_len, lst_P]
  have := joinL_len 47 (ns.map lst) (fun m hm => by obtain ⟨x, hx, rfl⟩ := List.mem_map.mp hm; exact (hg x hx).ne)
  simp at this ⊢
  omega
/-- what climbing gives -/
theorem climbed_P {ns : List Str} (hg : ∀ y ∈ ns, Gn y) : climbed (pathP ns) = ns := by
  have hl := P_len ns hg
  unfold climbed
  obtain ⟨b, hb⟩ : ∃ b, (pathP ns).length = ns.length + b := ⟨(pathP ns).length - ns.length, by omega⟩
  rw [hb, climb_add, climb_at hg _ (Nat.le_refl _), Nat.sub_self, List.take_zero, List.drop_zero, P_nil, climb_stay]
-- part P3
/-! # the same paths, normed, hung, split -/
theorem joinOk_of {sep : Str} {xs : List Str} (hl : ∀ x ∈ xs, x.length ≤ 100) (hn : xs.length ≤ 1000) (hs : sep.length ≤ 1) : JoinOk sep xs = true := by
  unfold JoinOk
  rw [Bool.not_eq_true']
  refine StrLaws.joinFits (B := 100) hl ?_
  have h1 : xs.length * 100 ≤ 1000 * 100 := Nat.mul_le_mul_right _ hn
  have h2 : xs.length * sep.length ≤ 1000 * 1 := Nat.mul_le_mul hn hs
  omega
theorem join_le {sep : Str} {xs : List Str} {B : Nat} (hl : ∀ x ∈ xs, x.length ≤ B) (hs : sep.length ≤ 1) : (Txt.join sep xs).length ≤ xs.length * B + xs.length := by
  unfold Txt.join
  rw [StrLaws.glued_eq_join]
  have h1 := StrLaws.join_length_le sep xs
  have h2 := StrLaws.sumLen_le xs hl
  have h3 : xs.length * sep.length ≤ xs.length * 1 := Nat.mul_le_mul_left _ hs
  omega
theorem sl_len : (Str.ofString "/").length = 1 := by decide +kernel
theorem P_le {xs : List Str} (hl : ∀ x ∈ xs, x.length ≤ 10) : (pathP xs).length ≤ 1 + xs.length * 11 := by
  unfold pathP
  rw [Str.length_append, sl_len]
  have := join_le (sep := Str.ofString "/") hl (by rw [sl_len]; exact Nat.le_refl _)
  omega
theorem lst_nil_iff (x : Str) : x.length = 0 ↔ lst x = [] := by rw [← lst_len]; exact List.length_eq_zero_iff
theorem Gn.len {x : Str} (h : Gn x) : x.length ≠ 0 := fun e => h.ne ((lst_nil_iff x).mp e)
/-! ## normed -/
theorem norm_walk : ∀ (ws acc : List Str), (∀ a ∈ acc, a ≠ Str.ofString "..") → ws.foldl normStep acc = ws.foldl walkStep acc := by
  intro ws
  induction ws with
  | nil => intro _ _; rfl
  | cons c ws ih =>
    intro acc ha
    have hlast : acc.getLast? ≠ some (Str.ofString "..") := fun e => ha _ (List.mem_of_getLast? e) rfl
    have hstep : normStep acc c = walkStep acc c := by
      unfold normStep walkStep
      have hdd : (Str.ofString "..").length ≠ 0 := by decide +kernel
      have hne : Str.ofString ".." ≠ Str.ofString "." := by decide +kernel
      have he : ∀ c : Str, c.length = 0 ↔ c = Str.ofString "" := fun c => by
        constructor
        · exact len0
        · rintro rfl; decide +kernel
      by_cases h1 : c = Str.ofString ".."
      · subst h1
        rw [if_neg (fun z => z.elim hdd hne), if_neg (fun z => z.elim (fun z => z rfl) hlast), if_pos rfl]
      · rw [if_neg h1]
        by_cases h2 : c.length = 0 ∨ c = Str.ofString "."
        · rw [if_pos h2, if_neg (fun z => h2.elim (fun q => z.2 ((he c).mp q)) (fun q => z.1 q))]
        · rw [if_neg h2, if_pos (.inl h1), if_pos ⟨fun q => h2 (.inr q), fun q => h2 (.inl ((he c).mpr q))⟩]
    rw [List.foldl_cons, List.foldl_cons, hstep]
    refine ih _ ?_
    intro a hm
    unfold walkStep at hm
    split at hm
    · exact ha a (List.dropLast_subset _ hm)
    · split at hm
      · rcases List.mem_append.mp hm with hm | hm
        · exact ha a hm
        · rw [List.mem_singleton.mp hm]; assumption
      · exact ha a hm
/-- words: no slash, short -/
structure Gw (x : Str) : Prop where
  fr : 47 ∉ lst x
  le : x.length ≤ 10
theorem Gn.w {x : Str} (h : Gn x) : Gw x := ⟨h.fr, h.le⟩
theorem slice1 {p : Str} {l : List Nat} (h : lst p = 47 :: l) : lst (Txt.slice p (some 1) none) = l := by
  have hl := lst_len p
  rw [h] at hl
  simp at hl
  rw [lst_from _ (by decide) (by omega), h]; rfl
theorem split_tail {p : Str} {ws : List Str} (hn : ws ≠ []) (hw : ∀ w ∈ ws, Gw w) (h : lst p = 47 :: joinL [47] (ws.map lst)) : Txt.split (Txt.slice p (some 1) none) (Str.ofString "/") = ws :=
  split_of hn (fun w hx => (hw w hx).fr) (slice1 h)
theorem normed_of {p : Str} {ws : List Str} (hn : ws ≠ []) (hw : ∀ w ∈ ws, Gw w) (h : lst p = 47 :: joinL [47] (ws.map lst)) : normed p = pathP (walked ws) := by
  unfold normed
  rw [split_tail hn hw h, norm_walk _ [] (fun _ q => nomatch q)]; rfl
theorem normOk_of {p : Str} {ws : List Str} (hn : ws ≠ []) (hw : ∀ w ∈ ws, Gw w) (hN : ws.length ≤ 100) (h : lst p = 47 :: joinL [47] (ws.map lst)) (hc : ∃ c r, joinL [47] (ws.map lst) = c :: r ∧ c ≠ 47) (hp : p.length ≤ 1000) : NormOk p := by
  have hl := lst_len p
  obtain ⟨c, r, hj, hc⟩ := hc
  have h' := h
  rw [hj] at h'
  have h2 : 2 ≤ p.length := by rw [← hl, h']; simp
  have hs := split_tail hn hw h
  have hwk : (walked ws).length ≤ 100 := Nat.le_trans (walked_len ws) hN
  have hmem : ∀ x ∈ walked ws, x ∈ ws := by
    have key : ∀ (ws acc all : List Str), (∀ a ∈ acc, a ∈ all) → (∀ a ∈ ws, a ∈ all) → ∀ x ∈ ws.foldl walkStep acc, x ∈ all := by
      intro ws
      induction ws with
      | nil => intro acc all h1 _ x hx; exact h1 x hx
      | cons c ws ih =>
        intro acc all h1 h2 x hx
        rw [List.foldl_cons] at hx
        refine ih _ all ?_ (fun a ha => h2 a (.tail _ ha)) x hx
        intro a ha
        unfold walkStep at ha
        split at ha
        · exact h1 a (List.dropLast_subset _ ha)
        · split at ha
          · rcases List.mem_append.mp ha with ha | ha
            · exact h1 a ha
            · rw [List.mem_singleton.mp ha]; exact h2 c (.head _)
          · exact h1 a ha
    exact key ws [] ws (fun _ q => nomatch q) (fun _ q => q)
  have hlw : ∀ x ∈ walked ws, x.length ≤ 10 := fun x hx => (hw x (hmem x hx)).le
  refine ⟨hp, by omega, ?_, ?_, ?_, ?_, ?_, ?_⟩
  · apply lst_inj
    rw [lst_to _ (by decide) (by omega), h, lst_sl]; rfl
  · intro e
    have e2 := congrArg lst e
    rw [lst_mid _ (by decide) (by decide) (by omega), h', lst_sl] at e2
    have e3 : [c] = [47] := e2
    exact hc (List.cons.inj e3).1
  · rw [hs]; exact fun c hx => Nat.le_trans (hw c hx).le (by decide)
  · rw [hs]; exact hN
  · rw [hs, norm_walk _ [] (fun _ q => nomatch q)]
    exact joinOk_of (fun x hx => Nat.le_trans (hlw x hx) (by decide)) (Nat.le_trans hwk (by decide)) (by rw [sl_len]; exact Nat.le_refl _)
  · rw [normed_of hn hw h]
    have := P_le hlw
    omega
/-! ## cells -/
theorem lst_cell (x : Str) : lst (cell x) = 47 :: (lst x ++ [47]) := by
  unfold cell
  rw [lst_append, lst_append, lst_sl]; rfl
theorem joinL_nil : ∀ ms : List (List Nat), joinL [] ms = ms.flatten
  | [] => rfl
  | [x] => by simp [joinL]
  | x :: y :: r => by
    show x ++ [] ++ joinL [] (y :: r) = _
    rw [joinL_nil (y :: r)]
    simp
theorem lst_empty : lst (Str.ofString "") = [] := by decide +kernel
theorem lst_cells (ns : List Str) : lst (cells ns) = (ns.map fun x => 47 :: (lst x ++ [47])).flatten := by
  unfold cells
  rw [lst_join, lst_empty, joinL_nil, List.map_map]
  congr 2
  funext x
  exact lst_cell x
def spread (ns : List Str) : List Str := ns.flatMap fun x => [x, Str.ofString ""]
theorem spread_lst : ∀ ns : List Str, ns ≠ [] → (ns.map fun x => 47 :: (lst x ++ [47])).flatten = 47 :: joinL [47] ((spread ns).map lst)
  | [], h => absurd rfl h
  | [x], _ => by
    simp [spread, joinL, lst_empty]
  | x :: y :: r, _ => by
    have ih := spread_lst (y :: r) (by simp)
    have e1 : spread (x :: y :: r) = x :: Str.ofString "" :: spread (y :: r) := rfl
    have e2 : ∃ a t, (spread (y :: r)).map lst = a :: t := ⟨_, _, rfl⟩
    obtain ⟨a, t, e2⟩ := e2
    rw [List.map_cons, List.flatten_cons, ih, e1, List.map_cons, List.map_cons, lst_empty, e2]
    simp [joinL]
theorem walk_spread : ∀ (ns acc : List Str), (∀ x ∈ ns, Gn x) → (spread ns).foldl walkStep acc = acc ++ ns
  | [], acc, _ => by simp [spread]
  | x :: r, acc, h => by
    have hx := h x (.head _)
    have e1 : spread (x :: r) = x :: Str.ofString "" :: spread r := rfl
    have s1 : walkStep acc x = acc ++ [x] := by
      unfold walkStep
      rw [if_neg hx.d2, if_pos ⟨hx.d1, fun e => hx.ne (by rw [e]; exact lst_empty)⟩]
    have s2 : ∀ a : List Str, walkStep a (Str.ofString "") = a := fun a => by
      unfold walkStep
      rw [if_neg (by decide +kernel), if_neg (fun z => z.2 rfl)]
    rw [e1, List.foldl_cons, List.foldl_cons, s1, s2, walk_spread r _ (fun y hy => h y (.tail _ hy))]
    simp
theorem spread_gw {ns : List Str} (h : ∀ x ∈ ns, Gn x) : ∀ w ∈ spread ns, Gw w := by
  intro w hw
  obtain ⟨x, hx, hm⟩ := List.mem_flatMap.mp hw
  rcases List.mem_cons.mp hm with rfl | hm
  · exact (h _ hx).w
  · rw [List.mem_singleton.mp hm]
    exact ⟨by rw [lst_empty]; exact List.not_mem_nil, by decide +kernel⟩
theorem spread_ne {ns : List Str} (h : ns ≠ []) : spread ns ≠ [] := by
  cases ns with
  | nil => exact absurd rfl h
  | cons x r => exact List.cons_ne_nil _ _
theorem spread_len (ns : List Str) : (spread ns).length = 2 * ns.length := by
  induction ns with
  | nil => rfl
  | cons x r ih =>
    have e1 : spread (x :: r) = x :: Str.ofString "" :: spread r := rfl
    rw [e1]; simp; omega
theorem normed_cells {ns : List Str} (hn : ns ≠ []) (h : ∀ x ∈ ns, Gn x) : normed (cells ns) = pathP ns := by
  rw [normed_of (spread_ne hn) (spread_gw h) (by rw [lst_cells, spread_lst ns hn])]
  unfold walked
  rw [walk_spread ns [] h, List.nil_append]
theorem cell_len (x : Str) : (cell x).length = x.length + 2 := by
  rw [← lst_len, lst_cell, ← lst_len]; simp
theorem cells_le {ns : List Str} (h : ∀ x ∈ ns, x.length ≤ 10) : (cells ns).length ≤ ns.length * 13 := by
  unfold cells
  have := join_le (sep := Str.ofString "") (xs := ns.map cell) (B := 12) (fun y hy => by
    obtain ⟨x, hx, rfl⟩ := List.mem_map.mp hy
    rw [cell_len]; have := h x hx; omega) (by decide +kernel)
  rw [List.length_map] at this
  omega
theorem cellsOk_of {ns : List Str} (h : ∀ x ∈ ns, x.length ≤ 10) (hn : ns.length ≤ 50) : CellsOk ns :=
  ⟨fun x hx => Nat.le_trans (h x hx) (by decide), by omega, joinOk_of (fun y hy => by
    obtain ⟨x, hx, rfl⟩ := List.mem_map.mp hy
    rw [cell_len]; have := h x hx; omega) (by rw [List.length_map]; omega) (by decide +kernel)⟩
/-! ## hung -/
theorem joined_P {m : List Str} {x : Str} (hm : ∀ y ∈ m, Gn y) (hx : Gn x) : joined (pathP m) x = pathP (m ++ [x]) := by
  have h1 : ¬ (Txt.startswith x (Str.ofString "/") = true ∨ (pathP m).length = 0) := by
    rintro (e | e)
    · rw [starts_iff, lst_sl] at e
      exact hx.fr (e.subset (by simp))
    · rw [lst_nil_iff, lst_P] at e; cases e
  unfold joined
  rw [if_neg h1]
  apply lst_inj
  rw [P_snoc]
  by_cases hn : m = []
  · subst hn
    rw [if_pos (by rw [ends_iff, P_nil]; exact List.suffix_refl _), if_pos rfl, P_nil, lst_append, lst_sl]; rfl
  · obtain ⟨a, c, e, hc⟩ := P_last hn hm
    rw [if_neg (by
      rw [ends_iff, lst_sl, e]
      rintro ⟨t, ht⟩
      have := (List.append_inj' ht rfl).2
      exact hc (List.cons.inj this).1.symm), if_neg hn, lst_append, lst_append, lst_sl]
    rfl
theorem hung_P : ∀ {ns : List Str}, (∀ x ∈ ns, Gn x) → hung ns = pathP ns := by
  have key : ∀ (ns m : List Str), (∀ x ∈ m, Gn x) → (∀ x ∈ ns, Gn x) → ns.foldl joined (pathP m) = pathP (m ++ ns) := by
    intro ns
    induction ns with
    | nil => intro m _ _; simp
    | cons x r ih =>
      intro m hm hr
      rw [List.foldl_cons, joined_P hm (hr x (.head _)), ih (m ++ [x]) (fun y hy => by
        rcases List.mem_append.mp hy with hy | hy
        · exact hm y hy
        · rw [List.mem_singleton.mp hy]; exact hr x (.head _)) (fun y hy => hr y (.tail _ hy))]
      simp
  intro ns h
  unfold hung
  rw [← P_nil, key ns [] (fun _ q => nomatch q) h, List.nil_append]
/-! ## comps -/
theorem comps_P {ns : List Str} (h : ∀ x ∈ ns, Gn x) : comps (pathP ns) = ns ∧ Txt.split (pathP ns) (Str.ofString "/") = if ns = [] then [Str.ofString "", Str.ofString ""] else Str.ofString "" :: ns := by
  have hs : Txt.split (pathP ns) (Str.ofString "/") = if ns = [] then [Str.ofString "", Str.ofString ""] else Str.ofString "" :: ns := by
    by_cases hn : ns = []
    · subst hn
      rw [if_pos rfl]
      exact split_of (by simp) (fun w hw => by
        have : w = Str.ofString "" := by simpa using hw
        rw [this, lst_empty]; exact List.not_mem_nil) (by rw [lst_P]; simp [joinL, lst_empty])
    · rw [if_neg hn]
      refine split_of (by simp) (fun w hw => ?_) ?_
      · rcases List.mem_cons.mp hw with rfl | hw
        · rw [lst_empty]; exact List.not_mem_nil
        · exact (h w hw).fr
      · rw [lst_P, List.map_cons, lst_empty]
        cases ns with
        | nil => exact absurd rfl hn
        | cons x r => simp [joinL]
  refine ⟨?_, hs⟩
  unfold comps
  have hf : ∀ l : List Str, (∀ x ∈ l, Gn x) → l.filter (fun c => decide (c.length ≠ 0) && decide (c ≠ Str.ofString ".")) = l := fun l hl => by
    rw [List.filter_eq_self]
    intro x hx
    rw [decide_eq_true (hl x hx).len, decide_eq_true (hl x hx).d1]; rfl
  rw [hs]
  by_cases hn : ns = []
  · subst hn; rw [if_pos rfl]; decide +kernel
  · rw [if_neg hn, List.filter_cons, if_neg (by decide +kernel), hf ns h]
-- part P4
/-! # the order of lists of names, and what least and most share -/
def ln (a b : List Nat) : Bool := decide (a < b)
theorem ln_irr : ∀ a, ln a a = false
  | [] => StrLaws.lt_nil_nil
  | x :: a => by
    unfold ln
    rw [StrLaws.lt_cons_cons]
    have := ln_irr a
    unfold ln at this
    rw [this]
    simp
theorem ln_tri : ∀ a b, ln a b = false → ln b a = false → a = b
  | [], [], _, _ => rfl
  | [], y :: b, h, _ => by unfold ln at h; rw [StrLaws.lt_nil_cons] at h; cases h
  | x :: a, [], _, h => by unfold ln at h; rw [StrLaws.lt_nil_cons] at h; cases h
  | x :: a, y :: b, h1, h2 => by
    have ih := ln_tri a b
    unfold ln at h1 h2 ih
    rw [StrLaws.lt_cons_cons] at h1 h2
    simp only [Bool.or_eq_false_iff, decide_eq_false_iff_not, Bool.and_eq_false_iff, beq_eq_false_iff_ne] at h1 h2
    have hxy : x = y := by omega
    subst hxy
    rw [ih (by simpa using h1.2) (by simpa using h2.2)]
theorem ln_trans : ∀ a b c, ln a b = true → ln b c = true → ln a c = true
  | [], [], c, h, _ => by unfold ln at h; rw [StrLaws.lt_nil_nil] at h; cases h
  | [], y :: b, [], _, h => by unfold ln at h; rw [StrLaws.lt_cons_nil] at h; cases h
  | [], y :: b, z :: c, _, _ => StrLaws.lt_nil_cons z c
  | x :: a, [], c, h, _ => by unfold ln at h; rw [StrLaws.lt_cons_nil] at h; cases h
  | x :: a, y :: b, [], _, h => by unfold ln at h; rw [StrLaws.lt_cons_nil] at h; cases h
  | x :: a, y :: b, z :: c, h1, h2 => by
    have ih := ln_trans a b c
    unfold ln at h1 h2 ih ⊢
    rw [StrLaws.lt_cons_cons] at h1 h2 ⊢
    simp only [Bool.or_eq_true, decide_eq_true_eq, Bool.and_eq_true, beq_iff_eq] at h1 h2 ⊢
    rcases h1 with h1 | ⟨e1, h1⟩ <;> rcases h2 with h2 | ⟨e2, h2⟩
    · left; omega
    · left; omega
    · left; omega
    · right; exact ⟨by omega, by simpa using ih (by simpa using h1) (by simpa using h2)⟩
theorem slt_ln (x y : Str) : slt x y = ln (lst x) (lst y) := rfl
theorem slt_irr (x : Str) : slt x x = false := ln_irr _
theorem slt_tri {x y : Str} (h1 : slt x y = false) (h2 : slt y x = false) : x = y := lst_inj (ln_tri _ _ h1 h2)
theorem slt_trans {x y z : Str} (h1 : slt x y = true) (h2 : slt y z = true) : slt x z = true := ln_trans _ _ _ h1 h2
theorem ltL_irr : ∀ a, ltL a a = false
  | [] => rfl
  | x :: a => by rw [ltL.eq_4, if_pos rfl]; exact ltL_irr a
theorem ltL_trans : ∀ {a b c : List Str}, ltL a b = true → ltL b c = true → ltL a c = true
  | [], [], c, h, _ => by cases h
  | [], y :: b, [], _, h => by cases h
  | [], y :: b, z :: c, _, _ => rfl
  | x :: a, [], c, h, _ => by cases h
  | x :: a, y :: b, [], _, h => by cases h
  | x :: a, y :: b, z :: c, h1, h2 => by
    rw [ltL.eq_4] at h1 h2 ⊢
    by_cases e1 : x = y
    · subst e1
      rw [if_pos rfl] at h1
      by_cases e2 : x = z
      · subst e2
        rw [if_pos rfl] at h2 ⊢
        exact ltL_trans h1 h2
      · rw [if_neg e2] at h2 ⊢
        exact h2
    · rw [if_neg e1] at h1
      by_cases e2 : y = z
      · subst e2
        rw [if_neg e1]
        exact h1
      · rw [if_neg e2] at h2
        have h3 := slt_trans h1 h2
        by_cases e3 : x = z
        · subst e3
          rw [slt_irr] at h3; cases h3
        · rw [if_neg e3]; exact h3
theorem ltL_take : ∀ (l : List Str) (i : Nat), i < l.length → ltL (l.take i) l = true
  | [], i, h => absurd h (Nat.not_lt_zero _)
  | x :: l, 0, _ => rfl
  | x :: l, i + 1, h => by
    rw [List.take_succ_cons, ltL.eq_4, if_pos rfl]
    exact ltL_take l i (by simpa using h)
/-! ## the best of a walk -/
theorem best_of (bt : Nat → Nat → Bool) (hirr : ∀ i, bt i i = false) (htr : ∀ i j k, bt i j = true → bt j k = true → bt i k = true) : ∀ n i, i ≤ n → bt i (argBest bt n) = false
  | 0, i, h => by
    have : i = 0 := by omega
    subst this; exact hirr 0
  | n + 1, i, h => by
    have ih := best_of bt hirr htr n
    unfold argBest
    cases hb : bt (n + 1) (argBest bt n) with
    | true =>
      rw [if_pos rfl]
      by_cases e : i = n + 1
      · subst e; exact hirr _
      · cases hi : bt i (n + 1) with
        | false => rfl
        | true =>
          have := htr _ _ _ hi hb
          rw [ih i (by omega)] at this; cases this
    | false =>
      rw [if_neg Bool.false_ne_true]
      by_cases e : i = n + 1
      · subst e; exact hb
      · exact ih i (by omega)
theorem getD_mem {rows : List (List Str)} {i : Nat} (h : i < rows.length) : rows.getD i [] ∈ rows := by
  rw [List.getD_eq_getElem?_getD, List.getElem?_eq_getElem h]; exact List.getElem_mem h
theorem mem_getD {rows : List (List Str)} {r : List Str} (h : r ∈ rows) : ∃ i, i < rows.length ∧ rows.getD i [] = r := by
  obtain ⟨i, hi, e⟩ := List.getElem_of_mem h
  exact ⟨i, hi, by rw [List.getD_eq_getElem?_getD, List.getElem?_eq_getElem hi, e]; rfl⟩
theorem least_mem {rows : List (List Str)} (hn : rows.length ≠ 0) : least rows ∈ rows := getD_mem (by have := argBest_le (btMin rows) (rows.length - 1); omega)
theorem most_mem {rows : List (List Str)} (hn : rows.length ≠ 0) : most rows ∈ rows := getD_mem (by have := argBest_le (btMax rows) (rows.length - 1); omega)
theorem least_le {rows : List (List Str)} {r : List Str} (h : r ∈ rows) : ltL r (least rows) = false := by
  obtain ⟨i, hi, rfl⟩ := mem_getD h
  exact best_of (btMin rows) (fun i => ltL_irr _) (fun i j k h1 h2 => ltL_trans h1 h2) (rows.length - 1) i (by omega)
theorem most_ge {rows : List (List Str)} {r : List Str} (h : r ∈ rows) : ltL (most rows) r = false := by
  obtain ⟨i, hi, rfl⟩ := mem_getD h
  exact best_of (btMax rows) (fun i => ltL_irr _) (fun i j k h1 h2 => ltL_trans h2 h1) (rows.length - 1) i (by omega)
/-! ## the shared front -/
theorem cpre_between : ∀ (a b r : List Str), ltL r a = false → ltL b r = false → cpre a b <+: r
  | [], b, r, _, _ => List.nil_prefix
  | x :: a, [], r, _, _ => List.nil_prefix
  | x :: a, y :: b, r, h1, h2 => by
    unfold cpre
    by_cases e : x = y
    · subst e
      rw [if_pos rfl]
      cases r with
      | nil => cases h1
      | cons z r =>
        rw [ltL.eq_4] at h1 h2
        by_cases ez : z = x
        · subst ez
          rw [if_pos rfl] at h1 h2
          exact List.cons_prefix_cons.mpr ⟨rfl, cpre_between a b r h1 h2⟩
        · rw [if_neg ez] at h1
          rw [if_neg (Ne.symm ez)] at h2
          exact absurd (slt_tri h1 h2) ez
    · rw [if_neg e]; exact List.nil_prefix
theorem cpre_max : ∀ (p a b : List Str), p <+: a → p <+: b → p <+: cpre a b
  | [], _, _, _, _ => List.nil_prefix
  | x :: p, [], _, h, _ => by have := h.length_le; simp at this
  | x :: p, _ :: _, [], _, h => by have := h.length_le; simp at this
  | x :: p, y :: a, z :: b, h1, h2 => by
    obtain ⟨e1, h1'⟩ := List.cons_prefix_cons.mp h1
    obtain ⟨e2, h2'⟩ := List.cons_prefix_cons.mp h2
    subst e1
    subst e2
    unfold cpre
    rw [if_pos rfl]
    exact List.cons_prefix_cons.mpr ⟨rfl, cpre_max p a b h1' h2'⟩
def front (rows : List (List Str)) : List Str := cpre (least rows) (most rows)
theorem front_pre {rows : List (List Str)} {r : List Str} (h : r ∈ rows) : front rows <+: r := cpre_between _ _ _ (least_le h) (most_ge h)
theorem front_max {rows : List (List Str)} (hn : rows.length ≠ 0) {p : List Str} (h : ∀ r ∈ rows, p <+: r) : p <+: front rows := cpre_max _ _ _ (h _ (least_mem hn)) (h _ (most_mem hn))
theorem least_short {rows : List (List Str)} (hn : rows.length ≠ 0) (i : Nat) (hi : i < (least rows).length) (ht : (least rows).take i = (most rows).take i) : i < (most rows).length := by
  refine Nat.lt_of_not_le fun hle => ?_
  have e : most rows = (least rows).take i := by rw [ht, List.take_of_length_le hle]
  have h1 := least_le (most_mem hn)
  rw [e, ltL_take _ _ hi] at h1
  cases h1
/-! ## commonpath of paths of names -/
theorem commonOk_of {rows : List (List Str)} (hn : rows.length ≠ 0) (hm : rows.length ≤ 1000) (hg : ∀ r ∈ rows, (∀ x ∈ r, Gn x) ∧ r.length ≤ 50) :
    CommonOk (rows.map pathP) ∧ commoned (rows.map pathP) = pathP (front rows) := by
  have ec : (rows.map pathP).map comps = rows := by
    rw [List.map_map]
    conv => rhs; rw [← List.map_id rows]
    exact List.map_congr_left fun r hr => (comps_P (hg r hr).1).1
  have hfg : ∀ x ∈ front rows, Gn x := fun x hx => (hg _ (least_mem hn)).1 x ((front_pre (least_mem hn)).subset hx)
  have hfl : (front rows).length ≤ 50 := Nat.le_trans (front_pre (least_mem hn)).length_le (hg _ (least_mem hn)).2
  refine ⟨⟨by rw [List.length_map]; exact hn, by rw [List.length_map]; exact hm, ?_, ?_, ?_, ?_, ?_, ?_, ?_⟩, ?_⟩
  · intro p hp
    obtain ⟨r, hr, rfl⟩ := List.mem_map.mp hp
    rw [starts_iff, lst_sl, lst_P]
    exact ⟨_, rfl⟩
  · intro p hp
    obtain ⟨r, hr, rfl⟩ := List.mem_map.mp hp
    have := P_le fun x hx => ((hg r hr).1 x hx).le
    have := (hg r hr).2
    omega
  · intro p hp
    obtain ⟨r, hr, rfl⟩ := List.mem_map.mp hp
    rw [(comps_P (hg r hr).1).2]
    have := (hg r hr).2
    split <;> simp <;> omega
  · intro p hp
    obtain ⟨r, hr, rfl⟩ := List.mem_map.mp hp
    rw [(comps_P (hg r hr).1).2]
    have he : (Str.ofString "").length ≤ 1000 := by decide +kernel
    intro c hc
    split at hc
    · have : c = Str.ofString "" := by simpa using hc
      rw [this]; exact he
    · rcases List.mem_cons.mp hc with rfl | hc
      · exact he
      · exact Nat.le_trans ((hg r hr).1 c hc).le (by decide)
  · rw [ec]; exact least_short hn
  · rw [ec]
    exact joinOk_of (fun x hx => Nat.le_trans (hfg x hx).le (by decide)) (Nat.le_trans hfl (by decide)) (by rw [sl_len]; exact Nat.le_refl _)
  · rw [ec]
    have := join_le (sep := Str.ofString "/") (fun x hx => (hfg x hx).le) (by rw [sl_len]; exact Nat.le_refl _)
    show (Txt.join (Str.ofString "/") (front rows)).length ≤ _
    omega
  · unfold commoned
    rw [ec]; rfl
-- part P5
/-! # masks: cells as lists, and where the three dots stand -/
/-- no two dots side by side -/
def nd (l : List Nat) : Prop := ∀ i t, l.drop i ≠ 46 :: 46 :: t
theorem nd.tl {x : Nat} {l : List Nat} (h : nd (x :: l)) : nd l := fun i t => h (i + 1) t
theorem nd_nil : nd [] := by intro i t; simp
theorem nd_cons {x : Nat} {l : List Nat} (hx : x ≠ 46) (h : nd l) : nd (x :: l) := by
  intro i t
  cases i with
  | zero => intro e; exact hx (List.cons.inj e).1
  | succ i => exact h i t
theorem nd_mid : ∀ (l Y : List Nat), nd l → nd Y → nd (l ++ 47 :: Y)
  | [], Y, _, h => nd_cons (by decide) h
  | x :: l, Y, h1, h2 => by
    intro i t
    cases i with
    | succ i => exact nd_mid l Y h1.tl h2 i t
    | zero =>
      intro e
      have e : x :: (l ++ 47 :: Y) = 46 :: 46 :: t := e
      obtain ⟨e1, e2⟩ := List.cons.inj e
      cases l with
      | nil => exact absurd (List.cons.inj e2).1 (by decide)
      | cons y l =>
        obtain ⟨e3, _⟩ := List.cons.inj e2
        exact h1 0 l (by rw [e1, e3]; rfl)
def enc : List (List Nat) → List Nat
  | [] => []
  | l :: r => 47 :: (l ++ 47 :: enc r)
theorem enc_nd : ∀ ms : List (List Nat), (∀ l ∈ ms, nd l) → nd (enc ms)
  | [], _ => nd_nil
  | l :: r, h => nd_cons (by decide) (nd_mid _ _ (h l (.head _)) (enc_nd r fun m hm => h m (.tail _ hm)))
theorem enc_app : ∀ a b : List (List Nat), enc (a ++ b) = enc a ++ enc b
  | [], b => rfl
  | x :: a, b => by
    show 47 :: (x ++ 47 :: enc (a ++ b)) = _
    rw [enc_app a b]; simp [enc]
theorem enc_rev : ∀ ms : List (List Nat), (enc ms).reverse = enc (ms.reverse.map List.reverse)
  | [] => rfl
  | l :: r => by
    rw [List.reverse_cons, List.map_append, enc_app, ← enc_rev r]; simp [enc]
theorem cells_enc (ns : List Str) : lst (cells ns) = enc (ns.map lst) := by
  rw [lst_cells]
  induction ns with
  | nil => rfl
  | cons x r ih => rw [List.map_cons, List.flatten_cons, ih]; simp [enc]
theorem enc_head (ms : List (List Nat)) : (enc ms).head? ≠ some 46 := by cases ms <;> simp [enc]
theorem enc_last (ms : List (List Nat)) : (enc ms).getLast? ≠ some 46 := by
  rw [List.getLast?_eq_head?_reverse, enc_rev]; exact enc_head _
theorem cut47 : ∀ (a b r t : List Nat), 47 ∉ a → 47 ∉ b → a ++ 47 :: r = b ++ 47 :: t → a = b ∧ r = t
  | [], [], r, t, _, _, h => ⟨rfl, (List.cons.inj h).2⟩
  | [], y :: b, r, t, _, hb, h => absurd (by rw [← (List.cons.inj h).1]; exact List.mem_cons_self) hb
  | x :: a, [], r, t, ha, _, h => absurd (by rw [(List.cons.inj h).1]; exact List.mem_cons_self) ha
  | x :: a, y :: b, r, t, ha, hb, h => by
    obtain ⟨e1, e2⟩ := List.cons.inj h
    obtain ⟨e3, e4⟩ := cut47 a b r t (fun z => ha (.tail _ z)) (fun z => hb (.tail _ z)) e2
    exact ⟨by rw [e1, e3], e4⟩
theorem enc_pre : ∀ (f r : List (List Nat)), (∀ l ∈ f, 47 ∉ l) → (∀ l ∈ r, 47 ∉ l) → enc f <+: enc r → f <+: r
  | [], r, _, _, _ => List.nil_prefix
  | x :: f, [], _, _, h => by have := h.length_le; simp [enc] at this
  | x :: f, y :: r, h1, h2, ⟨t, h⟩ => by
    have h : 47 :: (x ++ 47 :: enc f) ++ t = 47 :: (y ++ 47 :: enc r) := h
    simp only [List.cons_append, List.append_assoc, List.cons.injEq, true_and] at h
    obtain ⟨e1, e2⟩ := cut47 _ _ _ _ (h1 x (.head _)) (h2 y (.head _)) h
    exact List.cons_prefix_cons.mpr ⟨e1, enc_pre f r (fun l hl => h1 l (.tail _ hl)) (fun l hl => h2 l (.tail _ hl)) ⟨t, e2⟩⟩
theorem lst_pre {f r : List Str} (h : f.map lst <+: r.map lst) : f <+: r := by
  have e := List.prefix_iff_eq_take.mp h
  rw [← List.map_take] at e
  rw [map_lst_inj e]
  exact List.take_prefix _ _
theorem lst_suf {f r : List Str} (h : f.map lst <:+ r.map lst) : f <:+ r := by
  have e := List.suffix_iff_eq_drop.mp h
  rw [← List.map_drop] at e
  rw [map_lst_inj e]
  exact List.drop_suffix _ _
theorem rev_rev (f : List (List Nat)) : (f.reverse.map List.reverse).map List.reverse = f.reverse := by
  rw [List.map_map]
  conv => rhs; rw [← List.map_id f.reverse]
  exact List.map_congr_left fun x _ => List.reverse_reverse x
theorem enc_suf {f r : List (List Nat)} (h1 : ∀ l ∈ f, 47 ∉ l) (h2 : ∀ l ∈ r, 47 ∉ l) (h : enc f <:+ enc r) : f <:+ r := by
  have hr : ∀ {g : List (List Nat)}, (∀ l ∈ g, 47 ∉ l) → ∀ l ∈ g.reverse.map List.reverse, 47 ∉ l := by
    intro g hg l hl
    obtain ⟨x, hx, rfl⟩ := List.mem_map.mp hl
    exact fun z => hg x (List.mem_reverse.mp hx) (List.mem_reverse.mp z)
  have h3 := List.reverse_prefix.mpr h
  rw [enc_rev, enc_rev] at h3
  have h4 := (enc_pre _ _ (hr h1) (hr h2) h3).map List.reverse
  rw [rev_rev, rev_rev] at h4
  exact List.reverse_prefix.mp h4
def Fr (f : List Str) : Prop := ∀ x ∈ f, 47 ∉ lst x
theorem Fr.l {f : List Str} (h : Fr f) : ∀ l ∈ f.map lst, 47 ∉ l := fun l hl => by
  obtain ⟨x, hx, rfl⟩ := List.mem_map.mp hl
  exact h x hx
theorem starts_cells {f r : List Str} (hf : Fr f) (hr : Fr r) : Txt.startswith (cells r) (cells f) = true ↔ f <+: r := by
  rw [starts_iff, cells_enc, cells_enc]
  constructor
  · exact fun h => lst_pre (enc_pre _ _ hf.l hr.l h)
  · rintro ⟨t, rfl⟩
    rw [List.map_append, enc_app]; exact List.prefix_append _ _
theorem ends_cells {f r : List Str} (hf : Fr f) (hr : Fr r) : Txt.endswith (cells r) (cells f) = true ↔ f <:+ r := by
  rw [ends_iff, cells_enc, cells_enc]
  constructor
  · exact fun h => lst_suf (enc_suf hf.l hr.l h)
  · rintro ⟨t, rfl⟩
    rw [List.map_append, enc_app]; exact List.suffix_append _ _
theorem fits_iff (f e n : List Str) : fits f e n = true ↔ f.length + e.length ≤ n.length ∧ f <+: n ∧ e <:+ n := by
  unfold fits
  rw [Bool.and_eq_true, Bool.and_eq_true, decide_eq_true_eq, decide_eq_true_eq, decide_eq_true_eq, List.prefix_iff_eq_take, List.suffix_iff_eq_drop]
  constructor <;> (rintro ⟨a, b, c⟩; exact ⟨a, b.symm, c.symm⟩)
theorem ematch_fits {f e r : List Str} (hf : Fr f) (he : Fr e) (hr : Fr r) : ematch (cells f) (cells e) (cells r) = fits f e r := by
  rw [Bool.eq_iff_iff, fits_iff]
  unfold ematch
  rw [Bool.and_eq_true, Bool.and_eq_true, starts_cells hf hr, ends_cells he hr, decide_eq_true_eq, ← lst_len, ← lst_len, ← lst_len, cells_enc, cells_enc, cells_enc]
  constructor
  · rintro ⟨⟨t, rfl⟩, hs, hl⟩
    refine ⟨Nat.le_of_not_lt fun hlt => ?_, List.prefix_append _ _, hs⟩
    rw [List.length_append] at hlt
    obtain ⟨u, rfl⟩ := List.suffix_of_suffix_length_le (List.suffix_append f t) hs (by omega)
    rw [List.map_append, List.map_append, enc_app, enc_app, List.length_append, List.length_append] at hl
    cases u with
    | nil => simp at hlt
    | cons x u => simp [enc] at hl; omega
  · rintro ⟨hl, ⟨t, rfl⟩, hs⟩
    refine ⟨List.prefix_append _ _, hs, ?_⟩
    obtain ⟨u, rfl⟩ := List.suffix_of_suffix_length_le hs (List.suffix_append f t) (by rw [List.length_append] at hl; omega)
    rw [List.map_append, List.map_append, enc_app, enc_app, List.length_append, List.length_append]
    omega
/-! ## the three dots -/
theorem last_tl {x : Nat} {F : List Nat} (h : (x :: F).getLast? ≠ some 46) : F.getLast? ≠ some 46 := by
  cases F with
  | nil => simp
  | cons y F => rw [List.getLast?_cons_cons] at h; exact h
theorem dots_at : ∀ (F : List Nat) (i : Nat) (E t : List Nat), nd F → F.getLast? ≠ some 46 → nd E → E.head? ≠ some 46 → (F ++ 46 :: 46 :: 46 :: E).drop i = 46 :: 46 :: 46 :: t → i = F.length
  | [], 0, _, _, _, _, _, _, _ => rfl
  | [], 1, E, t, _, _, _, hh, e => by
    have e : 46 :: 46 :: E = 46 :: 46 :: 46 :: t := e
    simp only [List.cons.injEq, true_and] at e
    exact absurd (by rw [e]; rfl) hh
  | [], 2, E, t, _, _, _, hh, e => by
    have e : 46 :: E = 46 :: 46 :: 46 :: t := e
    simp only [List.cons.injEq, true_and] at e
    exact absurd (by rw [e]; rfl) hh
  | [], i + 3, E, t, _, _, hE, _, e => absurd e (hE i _)
  | x :: F, 0, E, t, hF, hL, _, _, e => by
    have e : x :: (F ++ 46 :: 46 :: 46 :: E) = 46 :: 46 :: 46 :: t := e
    obtain ⟨e1, e2⟩ := List.cons.inj e
    cases F with
    | nil => rw [e1] at hL; exact absurd rfl hL
    | cons y F =>
      obtain ⟨e3, _⟩ := List.cons.inj e2
      exact absurd (by rw [e1, e3]; rfl) (hF 0 F)
  | x :: F, i + 1, E, t, hF, hL, hE, hH, e => by
    rw [dots_at F i E t hF.tl (last_tl hL) hE hH e]; rfl
abbrev dots : Str := Str.ofString "..."
theorem lst_dots : lst dots = [46, 46, 46] := by decide +kernel
theorem dots_len : dots.length = 3 := by decide +kernel
theorem at_iff {x : Str} {F E : List Nat} (hx : lst x = F ++ 46 :: 46 :: 46 :: E) (hF : nd F) (hL : F.getLast? ≠ some 46) (hE : nd E) (hH : E.head? ≠ some 46) (i : Nat) : StrLaws.At x dots x.length i ↔ i = F.length := by
  have hl := lst_len x
  rw [hx, List.length_append] at hl
  simp only [List.length_cons] at hl
  unfold StrLaws.At
  rw [subAt_iff, dots_len, lst_dots, hx]
  constructor
  · rintro ⟨_, e⟩
    refine dots_at F i E (((F ++ 46 :: 46 :: 46 :: E).drop i).drop 3) hF hL hE hH ?_
    conv => lhs; rw [← List.take_append_drop 3 ((F ++ 46 :: 46 :: 46 :: E).drop i), e]
    rfl
  · rintro rfl
    refine ⟨by omega, ?_⟩
    rw [List.drop_left]; rfl
theorem kind_pos (x : Str) : 1 ≤ Builtin.Str.strKind x := by
  unfold Builtin.Str.strKind
  split
  · omega
  · split <;> omega
theorem dots_kind : Builtin.Str.strKind dots = 1 := by decide +kernel
theorem ell_of {x a b : Str} (hx : lst x = lst a ++ 46 :: 46 :: 46 :: lst b) (hF : nd (lst a)) (hL : (lst a).getLast? ≠ some 46) (hE : nd (lst b)) (hH : (lst b).head? ≠ some 46) : Txt.contains x dots = true ∧ Txt.split x dots = [a, b] := by
  have hat := at_iff hx hF hL hE hH
  have hl := lst_len x
  rw [hx, List.length_append] at hl
  simp only [List.length_cons] at hl
  refine ⟨?_, ?_⟩
  · unfold Txt.contains
    rw [StrLaws.found_iff]
    exact ⟨_, (hat _).mpr rfl⟩
  · unfold Txt.split
    obtain ⟨f, hG, hn⟩ := StrLaws.occ_tight x dots (by rw [dots_len]; decide)
    rw [if_neg (by
      rw [Bool.or_eq_true, decide_eq_true_eq, decide_eq_true_eq, dots_len, dots_kind]
      have := kind_pos x
      omega)]
    generalize Builtin.Str.occurrences x dots 0 x.length (x.length + 1) = oc at *
    cases oc with
    | nil =>
      have e : f = 0 := hG
      exact absurd ((hat _).mpr rfl) (hn _ (by omega))
    | cons c r =>
      obtain ⟨_, h1, _, h2⟩ := hG
      have hc := (hat c).mp h1
      subst hc
      cases r with
      | cons d r =>
        obtain ⟨h3, h4, _⟩ := h2
        have := (hat d).mp h4
        rw [dots_len] at h3
        omega
      | nil =>
        rw [if_neg (by simp), StrLaws.partsBetween_eq, dots_len]
        show [Builtin.Str.strSub x 0 (lst a).length, Builtin.Str.strSub x ((lst a).length + 3) x.length] = _
        have e1 : Builtin.Str.strSub x 0 (lst a).length = a := lst_inj (by rw [lst_sub, hx]; simp)
        have e2 : Builtin.Str.strSub x ((lst a).length + 3) x.length = b := lst_inj (by
          rw [lst_sub, hx, List.drop_append, List.drop_of_length_le (by omega), List.nil_append, show (lst a).length + 3 - (lst a).length = 3 by omega]
          show (lst b).take _ = _
          exact List.take_of_length_le (by omega))
        rw [e1, e2]
/-! ## names in rows -/
structure Gr (r : List Str) : Prop where
  g : ∀ x ∈ r, Gn x
  n : ∀ x ∈ r, nd (lst x)
  l : r.length ≤ 50
theorem Gr.fr {r : List Str} (h : Gr r) : Fr r := fun x hx => (h.g x hx).fr
theorem Gr.take {r : List Str} (h : Gr r) (k : Nat) : Gr (r.take k) := ⟨fun x hx => h.g x (List.mem_of_mem_take hx), fun x hx => h.n x (List.mem_of_mem_take hx), Nat.le_trans (List.length_take_le' _ _) h.l⟩
theorem Gr.drop {r : List Str} (h : Gr r) (k : Nat) : Gr (r.drop k) := ⟨fun x hx => h.g x (List.mem_of_mem_drop hx), fun x hx => h.n x (List.mem_of_mem_drop hx), Nat.le_trans (by rw [List.length_drop]; omega) h.l⟩
theorem Gr.sub {r f : List Str} (h : Gr r) (k : f <+: r) : Gr f := by
  rw [List.prefix_iff_eq_take.mp k]; exact h.take _
theorem Gr.rev {r : List Str} (h : Gr r) : Gr r.reverse := ⟨fun x hx => h.g x (List.mem_reverse.mp hx), fun x hx => h.n x (List.mem_reverse.mp hx), by rw [List.length_reverse]; exact h.l⟩
theorem Gr.fit {r : List Str} (h : Gr r) : FitOk r := ⟨Nat.le_trans h.l (by decide), fun x hx => (h.g x hx).ok⟩
theorem Gr.cok {r : List Str} (h : Gr r) : CellsOk r := cellsOk_of (fun x hx => (h.g x hx).le) h.l
theorem Gr.cl {r : List Str} (h : Gr r) : (cells r).length ≤ 650 := by
  have := cells_le fun x hx => (h.g x hx).le
  have := h.l
  omega
theorem Gr.nd {r : List Str} (h : Gr r) : nd (lst (cells r)) := by
  rw [cells_enc]
  refine enc_nd _ fun l hl => ?_
  obtain ⟨x, hx, rfl⟩ := List.mem_map.mp hl
  exact h.n x hx
theorem ellOk_of {f e : List Str} (hf : Gr f) (he : Gr e) : EllOk (cells f ++ dots ++ cells e) (cells f) (cells e) := by
  have h := ell_of (x := cells f ++ dots ++ cells e) (a := cells f) (b := cells e) (by rw [lst_append, lst_append, lst_dots]; simp) hf.nd (by rw [cells_enc]; exact enc_last _) he.nd (by rw [cells_enc]; exact enc_head _)
  have h1 := hf.cl
  have h2 := he.cl
  refine ⟨?_, h.1, h.2, by omega, by omega⟩
  rw [Str.length_append, Str.length_append, dots_len]
  omega
theorem least_spec {ns : List Int} (hn : ns.length ≠ 0) : leastOf ns ∈ ns ∧ ∀ k ∈ ns, leastOf ns ≤ k := by
  have hle := argBest_le (fun i j => decide (ns.getD i 0 < ns.getD j 0)) (ns.length - 1)
  have hb := best_of (fun i j => decide (ns.getD i 0 < ns.getD j 0)) (fun i => decide_eq_false (Int.lt_irrefl _)) (fun i j k h1 h2 => by
    rw [decide_eq_true_eq] at h1 h2 ⊢
    exact Int.lt_trans h1 h2) (ns.length - 1)
  unfold leastOf
  refine ⟨?_, ?_⟩
  · rw [List.getD_eq_getElem?_getD, List.getElem?_eq_getElem (by omega)]
    exact List.getElem_mem _
  · intro k hk
    obtain ⟨i, hi, e⟩ := List.getElem_of_mem hk
    have h1 := hb i (by omega)
    rw [decide_eq_false_iff_not] at h1
    have h2 : ns.getD i 0 = k := by rw [List.getD_eq_getElem?_getD, List.getElem?_eq_getElem hi, e]; rfl
    omega
theorem least_rows {rows : List (List Str)} (hn : rows.length ≠ 0) (k : Nat) : (k : Int) ≤ leastOf (lens rows) ↔ ∀ r ∈ rows, k ≤ r.length := by
  obtain ⟨h1, h2⟩ := least_spec (ns := lens rows) (by unfold lens; rw [List.length_map]; exact hn)
  constructor
  · intro h r hr
    have := h2 _ (List.mem_map.mpr ⟨r, hr, rfl⟩)
    omega
  · intro h
    obtain ⟨r, hr, e⟩ := List.mem_map.mp h1
    have := h r hr
    omega
theorem front_iff {rows : List (List Str)} (hn : rows.length ≠ 0) {f : List Str} {hi : Nat} (hl : f.length = hi) : f = (front rows).take hi ↔ ∀ r ∈ rows, f <+: r := by
  constructor
  · intro e r hr
    rw [e]
    exact (List.take_prefix _ _).trans (front_pre hr)
  · intro h
    rw [← hl]
    exact List.prefix_iff_eq_take.mp (front_max hn h)
theorem masksOk_of {rows : List (List Str)} (hn : rows.length ≠ 0) (hm : rows.length ≤ 1000) (hg : ∀ r ∈ rows, Gr r) : MasksOk rows (front rows) (front (rows.map List.reverse)) := by
  have hn' : (rows.map List.reverse).length ≠ 0 := by rw [List.length_map]; exact hn
  have hg' : ∀ r ∈ rows.map List.reverse, Gr r := fun r hr => by
    obtain ⟨q, hq, rfl⟩ := List.mem_map.mp hr
    exact (hg q hq).rev
  refine ⟨hn, hm, fun r hr => (hg r hr).fit, fun r hr => (hg r hr).cok, fun r hr => Nat.le_trans (hg r hr).cl (by decide), ?_, ?_, ?_, ?_⟩
  · exact ((hg _ (least_mem hn)).sub (front_pre (least_mem hn))).fit
  · exact ((hg' _ (least_mem hn')).sub (front_pre (least_mem hn'))).fit
  · intro r hr
    have h1 := front_pre hr
    have h2 := front_pre (rows := rows.map List.reverse) (List.mem_map.mpr ⟨r, hr, rfl⟩)
    rw [fits_iff, fits_iff]
    refine ⟨⟨h1.length_le, h1, List.nil_suffix⟩, ?_, List.nil_prefix, ?_⟩
    · have := h2.length_le
      rw [List.length_reverse] at this
      rw [List.length_reverse]
      simpa using this
    · have := List.reverse_suffix.mpr h2
      rw [List.reverse_reverse] at this
      exact this
  · intro hi lo h1 h2
    have g0 : Gr (rows.getD 0 []) := hg _ (getD_mem (by omega))
    have g1 : Gr (rows.getD (rows.length - 1) []) := hg _ (getD_mem (by omega))
    have gf : Gr (frontOf rows hi) := g0.take _
    have ge : Gr (endOf rows lo) := g1.drop _
    have lf : (frontOf rows hi).length = hi := by unfold frontOf; rw [List.length_take]; omega
    have le : (endOf rows lo).length = lo := by unfold endOf; rw [List.length_drop]; omega
    refine ⟨gf.fit, ge.fit, gf.cok, ge.cok, ellOk_of gf ge, fun r hr => ematch_fits gf.fr ge.fr (hg r hr).fr, ?_⟩
    rw [Bool.eq_iff_iff, Bool.and_eq_true, Bool.and_eq_true, decide_eq_true_eq, decide_eq_true_eq, decide_eq_true_eq, decide_eq_true_eq, List.countP_eq_length, front_iff hn lf, front_iff hn' (by rw [List.length_reverse]; exact le)]
    have hc : ((hi : Int) + (lo : Int) ≤ leastOf (lens rows)) ↔ ∀ r ∈ rows, hi + lo ≤ r.length := by
      rw [← least_rows hn]
      omega
    rw [hc]
    constructor
    · rintro ⟨a, b, c⟩ r hr
      rw [fits_iff, lf, le]
      have := b r.reverse (List.mem_map.mpr ⟨r, hr, rfl⟩)
      exact ⟨c r hr, a r hr, List.reverse_prefix.mp this⟩
    · intro h
      refine ⟨fun r hr => ((fits_iff _ _ _).mp (h r hr)).2.1, ?_, fun r hr => ?_⟩
      · intro r hr
        obtain ⟨q, hq, rfl⟩ := List.mem_map.mp hr
        exact List.reverse_prefix.mpr ((fits_iff _ _ _).mp (h q hq)).2.2
      · have := ((fits_iff _ _ _).mp (h r hr)).1
        rw [lf, le] at this
        exact this
-- part P6
/-! # the names of a number -/
def ndb : List Nat → Bool
  | [] => true
  | x :: l => !(x == 46 && l.head? == some 46) && ndb l
theorem nd_of : ∀ l : List Nat, ndb l = true → nd l
  | [], _ => nd_nil
  | x :: l, h => by
    unfold ndb at h
    rw [Bool.and_eq_true] at h
    intro i t
    cases i with
    | succ i => exact nd_of l h.2 i t
    | zero =>
      intro e
      have e : x :: l = 46 :: 46 :: t := e
      obtain ⟨e1, e2⟩ := List.cons.inj e
      rw [e1, e2] at h
      simp at h
def wordOk (w : Str) : Bool := decide (47 ∉ lst w) && decide (w.length ≤ 10) && (decide (w = Str.ofString "..") || decide (w = Str.ofString ".") || decide (w = Str.ofString "") || (decide (lst w ≠ []) && PyData.strOk w && ndb (lst w)))
theorem menu_ok : menu.all wordOk = true := by decide +kernel
theorem menu_w {w : Str} (h : w ∈ menu) : Gw w := by
  have := List.all_eq_true.mp menu_ok w h
  unfold wordOk at this
  rw [Bool.and_eq_true, Bool.and_eq_true, decide_eq_true_eq, decide_eq_true_eq] at this
  exact ⟨this.1.1, this.1.2⟩
theorem menu_g {w : Str} (h : w ∈ menu) (h2 : w ≠ Str.ofString "..") (h1 : w ≠ Str.ofString ".") (h0 : w ≠ Str.ofString "") : Gn w ∧ nd (lst w) := by
  have := List.all_eq_true.mp menu_ok w h
  unfold wordOk at this
  rw [decide_eq_false h2, decide_eq_false h1, decide_eq_false h0, Bool.false_or, Bool.false_or, Bool.false_or] at this
  simp only [Bool.and_eq_true, decide_eq_true_eq] at this
  exact ⟨⟨this.2.1.1, this.1.1, h1, h2, this.1.2, this.2.1.2⟩, nd_of _ this.2.2⟩
theorem wordN_in (n : Nat) : ∀ k, (∃ r, (wordN k (n, [Str.ofString "a"])).2 = Str.ofString "a" :: r) ∧ ∀ w ∈ (wordN k (n, [Str.ofString "a"])).2, w ∈ menu := by
  intro k
  induction k with
  | zero => exact ⟨⟨[], rfl⟩, fun w hw => by rw [List.mem_singleton.mp hw]; exact .tail _ (.head _)⟩
  | succ k ih =>
    obtain ⟨⟨r, e⟩, hm⟩ := ih
    unfold wordN wordStep
    split
    · refine ⟨⟨r ++ [_], by show _ ++ _ = _; rw [e]; rfl⟩, fun w hw => ?_⟩
      rcases List.mem_append.mp hw with hw | hw
      · exact hm w hw
      · rw [List.mem_singleton.mp hw]
        have hlt : (wordN k (n, [Str.ofString "a"])).1 % 7 < menu.length := Nat.mod_lt _ (by decide)
        rw [List.getD_eq_getElem?_getD, List.getElem?_eq_getElem hlt]
        exact List.getElem_mem hlt
    · exact ⟨⟨r, e⟩, hm⟩
theorem words_in (n : Nat) : ∀ w ∈ wordsOf n, w ∈ menu := by
  intro w hw
  unfold wordsOf at hw
  rcases List.mem_append.mp hw with hw | hw
  · exact (wordN_in n 3).2 w hw
  · rw [List.mem_singleton.mp hw]; exact .head _
theorem words_head (n : Nat) : ∃ r, wordsOf n = Str.ofString "a" :: r := by
  obtain ⟨⟨r, e⟩, _⟩ := wordN_in n 3
  unfold wordsOf
  rw [e]; exact ⟨_, rfl⟩
theorem words_len (n : Nat) : (wordsOf n).length ≤ 5 := by
  have := wordN_len 3 n
  unfold wordsOf
  rw [List.length_append]
  show _ + 1 ≤ _
  omega
theorem walked_in (ws : List Str) : ∀ x ∈ walked ws, x ∈ ws ∧ x ≠ Str.ofString ".." ∧ x ≠ Str.ofString "." ∧ x ≠ Str.ofString "" := by
  have key : ∀ (ws acc all : List Str), (∀ x ∈ acc, x ∈ all ∧ x ≠ Str.ofString ".." ∧ x ≠ Str.ofString "." ∧ x ≠ Str.ofString "") → (∀ a ∈ ws, a ∈ all) → ∀ x ∈ ws.foldl walkStep acc, x ∈ all ∧ x ≠ Str.ofString ".." ∧ x ≠ Str.ofString "." ∧ x ≠ Str.ofString "" := by
    intro ws
    induction ws with
    | nil => intro acc all h1 _ x hx; exact h1 x hx
    | cons c ws ih =>
      intro acc all h1 h2 x hx
      rw [List.foldl_cons] at hx
      refine ih _ all ?_ (fun a ha => h2 a (.tail _ ha)) x hx
      intro a ha
      unfold walkStep at ha
      by_cases e1 : c = Str.ofString ".."
      · rw [if_pos e1] at ha
        exact h1 a (List.dropLast_subset _ ha)
      · rw [if_neg e1] at ha
        by_cases e2 : c ≠ Str.ofString "." ∧ c ≠ Str.ofString ""
        · rw [if_pos e2] at ha
          rcases List.mem_append.mp ha with ha | ha
          · exact h1 a ha
          · rw [List.mem_singleton.mp ha]; exact ⟨h2 c (.head _), e1, e2.1, e2.2⟩
        · rw [if_neg e2] at ha
          exact h1 a ha
  exact key ws [] ws (fun _ q => nomatch q) (fun _ q => q)
theorem names_gr (n : Nat) : Gr (namesOf n) := by
  have h : ∀ x ∈ namesOf n, Gn x ∧ nd (lst x) := fun x hx => by
    obtain ⟨a, b, c, d⟩ := walked_in _ x hx
    exact menu_g (words_in n x a) b c d
  exact ⟨fun x hx => (h x hx).1, fun x hx => (h x hx).2, Nat.le_trans (walked_len _) (Nat.le_trans (words_len n) (by decide))⟩
theorem names_len (n : Nat) : (namesOf n).length ≤ 5 := Nat.le_trans (walked_len _) (words_len n)
theorem names_ne (n : Nat) : namesOf n ≠ [] := by
  unfold namesOf walked wordsOf
  rw [List.foldl_append]
  show walkStep _ (Str.ofString "b") ≠ []
  unfold walkStep
  rw [if_neg (by decide +kernel), if_pos (by decide +kernel)]
  exact List.append_ne_nil_of_right_ne_nil _ (List.cons_ne_nil _ _)
theorem joinL_head (c : Nat) (t : List Nat) : ∀ ms : List (List Nat), ∃ r, joinL [47] ((c :: t) :: ms) = c :: r
  | [] => ⟨t, rfl⟩
  | y :: r => ⟨_, rfl⟩
theorem raw_eq (n : Nat) : rawOf n = pathP (wordsOf n) := rfl
theorem words_ne (n : Nat) : wordsOf n ≠ [] := by
  obtain ⟨r, e⟩ := words_head n
  rw [e]; exact List.cons_ne_nil _ _
theorem pathOf_eq (n : Nat) : pathOf n = pathP (namesOf n) :=
  normed_of (words_ne n) (fun w hw => menu_w (words_in n w hw)) (by rw [raw_eq, lst_P])
theorem turnOf_eq (n : Nat) : turnOf n = pathP (namesOf n).reverse := hung_P (names_gr n).rev.g
theorem lst_a : lst (Str.ofString "a") = [97] := by decide +kernel
theorem numOk (n : Nat) : NumOk n := by
  have g := names_gr n
  have hl := names_len n
  have hw : ∀ w ∈ wordsOf n, Gw w := fun w hw => menu_w (words_in n w hw)
  have hwl := words_len n
  have hj := join_le (sep := Str.ofString "/") (fun x hx => (hw x hx).le) (by rw [sl_len]; exact Nat.le_refl _)
  have hp := P_le fun x hx => (hw x hx).le
  have hP := P_le fun x hx => (g.g x hx).le
  have hC := cells_le fun x hx => (g.g x hx).le
  refine ⟨joinOk_of (fun x hx => Nat.le_trans (hw x hx).le (by decide)) (by omega) (by rw [sl_len]; exact Nat.le_refl _), by omega, by omega, ?_, ?_, ?_, fun x hx => (g.g x hx).ok, g.cok, ?_, ?_, ?_⟩
  · refine normOk_of (words_ne n) hw (by omega) (by rw [raw_eq, lst_P]) ?_ (by rw [raw_eq]; omega)
    obtain ⟨r, e⟩ := words_head n
    rw [e, List.map_cons, lst_a]
    obtain ⟨q, hq⟩ := joinL_head 97 [] (r.map lst)
    exact ⟨97, q, hq, by decide⟩
  · rw [pathOf_eq]; omega
  · rw [pathOf_eq, climbed_P g.g]
  · refine normOk_of (spread_ne (names_ne n)) (spread_gw g.g) (by rw [spread_len]; omega) (by rw [lst_cells, spread_lst _ (names_ne n)]) ?_ (by omega)
    have hne := names_ne n
    cases hq : namesOf n with
    | nil => exact absurd hq hne
    | cons x r =>
      have gx := g.g x (by rw [hq]; exact .head _)
      have e1 : spread (x :: r) = x :: Str.ofString "" :: spread r := rfl
      rw [e1, List.map_cons]
      cases hx : lst x with
      | nil => exact absurd hx gx.ne
      | cons c t =>
        obtain ⟨q, hq⟩ := joinL_head c t ((Str.ofString "" :: spread r).map lst)
        exact ⟨c, q, hq, fun e => gx.fr (by rw [hx, e]; exact .head _)⟩
  · rw [normed_cells (names_ne n) g.g, pathOf_eq]
  · intro i x hx
    have g' := g.rev.take i
    have hx' := g.rev.g x (List.mem_of_getElem? hx)
    rw [hung_P g'.g]
    have h1 := P_le fun x hx => (g'.g x hx).le
    have h2 := g'.l
    have h3 := hx'.le
    omega
theorem agreeOk {nums : List Nat} (hn : nums.length ≠ 0) (hm : nums.length ≤ 1000) : AgreeOk nums := by
  have hg : ∀ r ∈ nums.map namesOf, Gr r := fun r hr => by
    obtain ⟨n, _, rfl⟩ := List.mem_map.mp hr
    exact names_gr n
  have hg' : ∀ r ∈ (nums.map namesOf).map List.reverse, Gr r := fun r hr => by
    obtain ⟨q, hq, rfl⟩ := List.mem_map.mp hr
    exact (hg q hq).rev
  have l1 : (nums.map namesOf).length ≠ 0 := by rw [List.length_map]; exact hn
  have l2 : ((nums.map namesOf).map List.reverse).length ≠ 0 := by rw [List.length_map]; exact l1
  have m1 : (nums.map namesOf).length ≤ 1000 := by rw [List.length_map]; exact hm
  have m2 : ((nums.map namesOf).map List.reverse).length ≤ 1000 := by rw [List.length_map]; exact m1
  have e1 : nums.map pathOf = (nums.map namesOf).map pathP := by
    rw [List.map_map]; exact List.map_congr_left fun n _ => pathOf_eq n
  have e2 : nums.map turnOf = ((nums.map namesOf).map List.reverse).map pathP := by
    rw [List.map_map, List.map_map]; exact List.map_congr_left fun n _ => turnOf_eq n
  obtain ⟨c1, d1⟩ := commonOk_of l1 m1 (fun r hr => ⟨(hg r hr).g, (hg r hr).l⟩)
  obtain ⟨c2, d2⟩ := commonOk_of l2 m2 (fun r hr => ⟨(hg' r hr).g, (hg' r hr).l⟩)
  have g1 := (hg _ (least_mem l1)).sub (front_pre (least_mem l1))
  have g2 := (hg' _ (least_mem l2)).sub (front_pre (least_mem l2))
  have p1 := P_le fun x hx => (g1.g x hx).le
  have p2 := P_le fun x hx => (g2.g x hx).le
  have q1 := g1.l
  have q2 := g2.l
  refine ⟨hm, fun n _ => numOk n, by rw [e1]; exact c1, by rw [e2]; exact c2, by rw [e1, d1]; omega, by rw [e2, d2]; omega, ?_⟩
  rw [e1, d1, e2, d2, climbed_P g1.g, climbed_P g2.g]
  exact masksOk_of l1 m1 hg
theorem plain_law (ks : List Int) : AgreeOk (numsOf ks) := by
  have h1 : (drawn ks).length ≤ 3 := by
    unfold drawn
    rw [List.length_map, List.length_take]; omega
  have h2 : (numsOf ks).length = 3 := by
    unfold numsOf
    rw [List.length_append, List.length_drop]
    show _ + (3 - _) = 3
    omega
  exact agreeOk (by omega) (by omega)
-- the head and the law
theorem FnAt.of {h : Heap} {i : Nat} {a : Addr} {o : Obj} {pm cd doc : Value} (ho : h.get? a = some o) (hd : o.data = .func (Calls.docDef (nameOf (theDef i)) (paramsOf (theDef i)) (bodyOf (theDef i)) (scOf (theDef i)) pm cd doc)) (hc : h.CodeRec cd (nameOf (theDef i))) : FnAt h i a :=
  ⟨o, pm, cd, doc, ho, hd, hc⟩
theorem Is.of {vs : List Value} {ks : List Int} (h : IntsAre vs ks) : Is vs ks := by
  induction h with
  | nil => exact Is.nil
  | @cons n t vs ns _ ih =>
    obtain ⟨l, rfl, rfl⟩ := ih
    exact ⟨(n, t) :: l, rfl, rfl⟩
def posOf : Stmt → Pos
  | .FunctionDef _ _ _ _ _ _ _ _ _ p => p
  | _ => ⟨0, 0, 0, 0⟩
def recD (i : Nat) : DefRec := { name := nameOf (theDef i), params := paramsOf (theDef i), body := bodyOf (theDef i), scope := scOf (theDef i), pos := posOf (theDef i) }
theorem fnsOf {q : Program} {R : WRecords} {XP : (Str → Option Value) → Heap → Prop} {w : World} {s₀ : Shared} {mg mb : Str → Option Value} {h : Heap} (G : Ground q [] R XP w s₀ mg mb h) (l : List Nat)
    (he : l.map (fun i => defOf q (nameOf (theDef i))) = l.map (fun i => some (recD i, []))) (hdf : l.all (fun i => (paramsOf (theDef i)).defaults.isEmpty) = true) :
    ∀ i ∈ l, ∃ a, mg (nameOf (theDef i)) = some (.ref a) ∧ FnAt h i a := by
  intro i hi
  have e := List.map_inj_left.mp he i hi
  have hdf := List.isEmpty_iff.mp (List.all_eq_true.mp hdf i hi)
  obtain ⟨a, o, pm, cd, doc, dV, kV, h1, h2, h3, h4, h5⟩ := G.fn e
  have hdv : dV = .none := by rcases h5.pos with ⟨_, e⟩ | ⟨e, _⟩ <;> first | exact e | exact absurd hdf e
  have hkv : kV = .none := by rcases h5.kw with ⟨_, e⟩ | ⟨e, _⟩ <;> first | exact e | exact absurd rfl e
  subst hdv hkv
  exact ⟨a, h1, o, pm, cd, doc, h2, h3, h4⟩
theorem freesOf {q : Program} {R : WRecords} {XP : (Str → Option Value) → Heap → Prop} {w : World} {s₀ : Shared} {mg mb : Str → Option Value} {h : Heap} (G : Ground q [] R XP w s₀ mg mb h) (l : List Str)
    (h1 : ∀ y ∈ startupNames, y ∉ l) (h2 : ∀ y ∈ looseW q [], y ∉ l) (h3 : ∀ y ∈ List.map (fun x => x.name) (recsOf q), y ∉ l) (h4 : ∀ y ∈ List.map (fun x => x.fst) (litsOf q), y ∉ l) (h5 : ∀ y ∈ List.map (fun x => x.name) (clssOf q (looseW q [])), y ∉ l) :
    ∀ x ∈ l, mg x = none := fun x hx => G.T.free x (fun z => h1 x z hx) (fun z => h2 x z hx) (fun z => h3 x z hx) (fun z => h4 x z hx) (fun z => h5 x z hx)
set_option maxHeartbeats 8000000 in
theorem law_holds : PySem.Challenge.rw_pd0059_01.Holds := by
  w_on; o_law; o_head Hook.none; (case hw => w_witness2)
  intro w s₀ s₁ mg mb G Y fa o pm cd doc dV kV ho hd hcd hD hmg hg args vals as hpre hlay hrd hwl hlo
  have hdv : dV = .none := by rcases hD.pos with ⟨_, e⟩ | ⟨e, _⟩ <;> first | exact e | exact absurd rfl e
  have hkv : kV = .none := by rcases hD.kw with ⟨_, e⟩ | ⟨e, _⟩ <;> first | exact e | exact absurd rfl e
  subst hdv hkv
  have hf : FnAt s₁.heap 31 fa := ⟨o, pm, cd, doc, ho, hd, hcd⟩
  have T := G.T
  have gd : Gd mg mb s₁.heap := by
    refine ⟨T.g, T.b, T.nolimit, T.builtins, ?_, ?_, ?_⟩
    · exact fnsOf G _ (by kernel_rfl) (by kernel_rfl)
    · obtain ⟨v, hv, hr⟩ := T.const (Str.ofString "ELLIPSIS_MARKER") (.str (Str.ofString "...")) (by kernel_rfl)
      cases hr s₁.heap with
      | str t => exact ⟨_, hv⟩
    · exact freesOf G _ (by decide +kernel) (by decide +kernel) (by decide +kernel) (by decide +kernel) (by decide +kernel)
  wrow_args hpre hlay hrd hwl hlo
  rename IntsAre _ _ => hI
  rename Heap.IsList _ _ _ => hL
  rename ¬ (_ < _) => hC
  refine wpAny_mono (law_spec (Q := fun v s' => v = .bool true ∧ Keeps s₁ s') (E := fun _ _ => False) (Is.of hI) hL ?_ (plain_law _) gd hf ⟨rfl, by decide, by decide⟩ (fun s' k => ⟨rfl, k⟩)) (fun v s' q => ?_) (fun _ _ x => x.elim)
  · have := (Is.of hI).length
    omega
  · obtain ⟨rfl, h', t', rfl, k⟩ := q
    exact GoodW.toG ⟨.inl ⟨_, .bool true, [], rfl, fun _ => rfl, .bool true, by kernel_rfl, unshared_nil⟩, k, rfl, hg⟩
end Mine
theorem PySem.Challenge.cw_pd0059_01_holds : PySem.Challenge.rw_pd0059_01.Holds :=
  Mine.law_holds
